import PyProof.Rows.All
import Wide.All
import OpenK.AllK
import Wide.FinOn
import PySem.Challenge.RW_wn0117_01
set_option linter.all false
set_option Elab.async false
section
open PySem
namespace Mine
abbrev pq (l a b:Nat):Pos:=⟨l,a,l,b⟩
section
set_option genSizeOf false
set_option genSizeOfSpec false
inductive FV where
 |none|bool (b:Bool)|int (i:Int)|str (s:List Nat)|pair (a b:FV)
 deriving DecidableEq,Inhabited
set_option genInjectivity false
inductive MV where
 |fv (v:FV)|ref (i:Nat)|rng (a b c:Int)|edict|gl (g:Nat)|unb
 deriving DecidableEq,Inhabited
inductive MO where
 |list (xs:List FV)|dict (es:List (Int × FV))|hdr (k:Nat)|lit (k i:Nat)|fz (xs:List FV)
 deriving DecidableEq,Inhabited
inductive BO where
 |add|sub|mul|fdiv|fmod|pow|band|bxor|bor|shl
 deriving DecidableEq
inductive CO where
 |eq|ne|lt|le|gt|ge|is|isNot|inn|notIn
 deriving DecidableEq
inductive BI where
 |len|range|listRange|min|max|ord|chr|strInt|hex|sorted|next|iter
 deriving DecidableEq
inductive ME where
 |append|index|join|upper|lower|split|get|search
 deriving DecidableEq
noncomputable def BO.op:BO→Operator
 |.add=>.Add|.sub=>.Sub|.mul=>.Mult|.fdiv=>.FloorDiv|.fmod=>.Mod|.pow=>.Pow|.band=>.BitAnd|.bxor=>.BitXor|.bor=>.BitOr|.shl=>.LShift
noncomputable def CO.op:CO→CmpOp
 |.eq=>.Eq|.ne=>.NotEq|.lt=>.Lt|.le=>.LtE|.gt=>.Gt|.ge=>.GtE|.is=>.Is|.isNot=>.IsNot|.inn=>.In|.notIn=>.NotIn
abbrev Names:=List (Str × NameKind)
mutual
inductive X where
 |no
 |cn (p:Pos)|cb (b:Bool) (p:Pos)|ci (i:Int) (p:Pos)|cs (s:List Nat) (p:Pos)
 |var (i:Nat) (p:Pos)
 |gi (g:Nat) (p:Pos)
 |bin (l:X) (o:BO) (r:X) (p:Pos)
 |neg (i:Int) (pc p:Pos)
 |not (x:X) (p:Pos)
 |bop (conj:Bool) (xs:Xs) (p:Pos)
 |ite (t b e:X) (p:Pos)
 |cmp (l:X) (o:CO) (r:X) (p:Pos)
 |isTy (neg:Bool) (ty:Nat) (x:X) (pt pc ps p:Pos)
 |fn (f:Nat) (a:Xs) (pn p:Pos)
 |bi (b:BI) (a:Xs) (pn pm pk p:Pos)
 |me (o:X) (m:ME) (a:Xs) (pa p:Pos)
 |hm (o:X) (m:Nat) (a:Xs) (kw:Xs) (pa pk p:Pos)
 |newH (a:X) (pn p:Pos)
 |hin (neg:Bool) (x o:X) (p:Pos)
 |hat (o:X) (p:Pos)
 |sub (o i:X) (p:Pos)
 |sl (o l u:X) (ps p:Pos)
 |lst (xs:Xs) (p:Pos)
 |tup (a b:X) (p:Pos)
 |comp (elt:X) (ti:Nat) (iter:X) (cond:X) (ns:Names) (caps:List (Option Nat)) (pt p:Pos)
 |comp2 (elt:X) (ti:Nat) (iter:X) (tj:Nat) (iter2:X) (ns:Names) (caps:List (Option Nat)) (pt pt2 p:Pos)
 |dcomp (key val:X) (ti:Nat) (iter:X) (ns:Names) (caps:List (Option Nat)) (pt p:Pos)
inductive Xs where
 |nil|cons (x:X) (xs:Xs)
end
mutual
inductive S where
 |asg (i:Nat) (e:X) (pn p:Pos)
 |asg2 (i j:Nat) (e:X) (pi pj p:Pos)
 |asgT (i j:Nat) (e:X) (pi pj pt p:Pos)
 |swp (i j:Nat) (a b:X) (pi pj pt pv p:Pos)
 |asgS (o i e:X) (ps p:Pos)
 |aug (i:Nat) (o:BO) (e:X) (pn p:Pos)
 |augS (o i:X) (op:BO) (e:X) (ps p:Pos)
 |iff (t:X) (b e:Ss) (p:Pos)
 |whl (t:X) (b:Ss) (p:Pos)
 |forS (ti:Nat) (iter:X) (b e:Ss) (pt p:Pos)
 |for2 (ti tj:Nat) (iter:X) (b:Ss) (pi pj pt p:Pos)
 |forG (ti tj:Nat) (arg:X) (b:Ss) (pi pj pt pf pc p:Pos)
 |forE (ti tj:Nat) (o:X) (b:Ss) (pi pj pt pa pc p:Pos)
 |ret (e:X) (p:Pos)
 |brk (p:Pos)
 |xp (e:X) (p:Pos)
 |dead (s:Stmt)
inductive Ss where
 |nil|cons (s:S) (r:Ss)|gc (r:Ss)
end
end
section
noncomputable def big:Nat:=4611686018427387904
noncomputable def lim:Nat:=100000
noncomputable def lenLim:Nat:=10000
noncomputable def ints?:List FV→Option (List Int)
 |[]=>some []
 |.int i::r=>(ints? r).map (i:: ·)
 |_::_=>none
noncomputable def strs?:List FV→Option (List (List Nat))
 |[]=>some []
 |.str s::r=>(strs? r).map (s:: ·)
 |_::_=>none
noncomputable def FV.isInt:FV→Bool|.int _=>true|_=>false
noncomputable def chars (s:List Nat):Bool:=s.all (· <1114112)
noncomputable def FV.isStr:FV→Bool|.str s=>chars s|_=>false
noncomputable def FV.isPair:FV→Bool|.pair (.str a) (.str b)=>chars a&&chars b|_=>false
noncomputable def plainList (xs:List FV):Bool:=xs.all FV.isInt||xs.all FV.isStr||xs.all FV.isPair
noncomputable def sameKind (xs ys:List FV):Bool:=(xs.all FV.isInt&&ys.all FV.isInt)||(xs.all FV.isStr&&ys.all FV.isStr)||(xs.all FV.isPair&&ys.all FV.isPair)
noncomputable def arith:BO→Int→Int→Option Int
 |.add,a,b=>some (a+b)
 |.sub,a,b=>some (a-b)
 |.mul,a,b=>if a.natAbs<big||b.natAbs<big then some (a*b) else none
 |.fdiv,a,b=>if 0<b&&b<big then some (a.fdiv b) else none
 |.fmod,a,b=>if 0<b then some (a.fmod b) else none
 |.pow,a,b=>if 0≤b&&b≤1000&&a.natAbs<big then some (a^b.toNat) else none
 |.band,a,b=>if 0≤a&&0≤b then some ((a.toNat&&&b.toNat:Nat):Int) else none
 |.bxor,a,b=>if 0≤a&&0≤b then some ((a.toNat^^^b.toNat:Nat):Int) else none
 |.bor,a,b=>if 0≤a&&0≤b then some ((a.toNat|||b.toNat:Nat):Int) else none
 |.shl,a,b=>if 0≤b&&b≤1000&&a.natAbs<big then some (a*2^b.toNat) else none
noncomputable def listAt (objs:List MO) (i:Nat):Option (List FV):=match objs[i]? with|some (.list xs)=>some xs|_=>none
section
set_option backward.match.sparseCases false
variable {β:Type}
noncomputable def wI (f:Int→Option β):MV→Option β|.fv (.int i)=>f i|_=>none
noncomputable def wS (f:List Nat→Option β):MV→Option β|.fv (.str s)=>f s|_=>none
noncomputable def wF (f:FV→Option β):MV→Option β|.fv x=>f x|_=>none
noncomputable def wR (f:Nat→Option β):MV→Option β|.ref i=>f i|_=>none
noncomputable def wG (f:Nat→Option β):MV→Option β|.gl g=>f g|_=>none
noncomputable def w0 (f:Option β):List MV→Option β|[]=>f|_=>none
noncomputable def w1 (f:MV→Option β):List MV→Option β|[a]=>f a|_=>none
noncomputable def w2 (f:MV→MV→Option β):List MV→Option β|[a,b]=>f a b|_=>none
noncomputable def w3 (f:MV→MV→MV→Option β):List MV→Option β|[a,b,c]=>f a b c|_=>none
noncomputable def wL (objs:List MO) (f:Nat→List FV→Option β):MV→Option β:=wR fun i=>(listAt objs i).bind (f i)
end
noncomputable def binS (o:BO) (a:List Nat) (v:MV) (objs:List MO):Option (MV × List MO):=match o with
 |.add=>wS (fun b=>if a.length+b.length≤lim then some (.fv (.str (a++b)),objs) else none) v
 |.mul=>wI (fun n=>if 0≤n&&n≤1000&&a.length≤100 then some (.fv (.str (List.replicate n.toNat a).flatten),objs) else none) v
 |_=>none
noncomputable def addR (o:BO) (a b:MV) (objs:List MO):Option (MV × List MO):=match o with
 |.add=>wL objs (fun _ xs=>wL objs (fun _ ys=>if xs.length+ys.length≤lenLim then some (.ref objs.length,objs++[.list (xs++ys)]) else none) b) a
 |_=>none
noncomputable def binop (o:BO) (a b:MV) (objs:List MO):Option (MV × List MO):=match a with
 |.fv x=>match x with
  |.int i=>wI (fun j=>(arith o i j).map fun c=>(.fv (.int c),objs)) b
  |.str s=>binS o s b objs
  |_=>none
 |.ref i=>addR o (.ref i) b objs
 |_=>none
noncomputable def within (y:List Nat):List Nat→Bool
 |[]=>y.isEmpty
 |c::r=>y.isPrefixOf (c::r)||within y r
noncomputable def eqM (objs:List MO) (a b:MV):Option Bool:=match a with
 |.fv x=>match x with
  |.int i=>wI (fun j=>some (i==j)) b
  |.str s=>wS (fun t=>some (s==t)) b
  |_=>none
 |.ref i=>wL objs (fun _ xs=>wL objs (fun _ ys=>if sameKind xs ys then some (xs==ys) else none) b) (.ref i)
 |_=>none
noncomputable def isN (a b:MV):Option Bool:=wF (fun x=>match x with|.none=>if a=.unb then none else some (a== .fv .none)|_=>none) b
noncomputable def intM (f:Int→Int→Bool) (a b:MV):Option Bool:=wI (fun i=>wI (fun j=>some (f i j)) b) a
noncomputable def inM (objs:List MO) (i:Int) (b:MV):Option Bool:=match b with
 |.fv x=>match x with
  |.pair (.int x) (.int y)=>some (i==x||i==y)
  |_=>none
 |.ref j=>wL objs (fun _ xs=>if xs.all FV.isInt&&xs.length≤lenLim then some (xs.contains (.int i)) else none) (.ref j)
 |_=>none
noncomputable def isNotM (a b:MV):Option Bool:=match b with
 |.fv x=>match x with
  |.bool y=>wF (fun x=>match x with|.bool z=>some (z !=y)|_=>none) a
  |x=>(isN a (.fv x)).map (!·)
 |_=>none
noncomputable def cmpop (o:CO) (a b:MV) (objs:List MO):Option Bool:=match o with
 |.eq=>eqM objs a b
 |.ne=>(eqM objs a b).map (!·)
 |.lt=>intM (fun i j=>decide (i<j)) a b
 |.le=>intM (fun i j=>decide (i≤j)) a b
 |.gt=>intM (fun i j=>decide (j<i)) a b
 |.ge=>intM (fun i j=>decide (j≤i)) a b
 |.is=>isN a b
 |.isNot=>isNotM a b
 |.notIn=>wS (fun s=>match s with|[c]=>wS (fun t=>if t.length≤lim then some (!(t.contains c)) else none) b|_=>none) a
 |.inn=>wI (fun i=>inM objs i b) a
noncomputable def truthyM (v:MV) (_:List MO):Option Bool:=match v with
 |.fv x=>match x with
  |.bool b=>some b
  |.none=>some false
  |.int i=>some (i !=0)
  |.str s=>if s.length≤lim then some (!s.isEmpty) else none
  |_=>none
 |_=>none
noncomputable def rngFrom (c:Int):Nat→Int→List FV
 |0,_=>[]
 |n+1,a=>.int a::rngFrom c n (a+c)
noncomputable def rngCount (a b c:Int):Nat:=if a<b then ((b-a-1)/c+1).toNat else 0
noncomputable def rngItems (a b c:Int):List FV:=rngFrom c (rngCount a b c) a
noncomputable def maxInts:List Int→Option Int
 |[]=>none
 |x::r=>some (r.foldl (fun m y=>if m<y then y else m) x)
noncomputable def insertInt (x:Int):List Int→List Int
 |[]=>[x]
 |y::r=>if x≤y then x::y::r else y::insertInt x r
noncomputable def sortInts:List Int→List Int
 |[]=>[]
 |x::r=>insertInt x (sortInts r)
noncomputable def hexOf (i:Int):List Nat:=48::120::(Nat.toDigits 16 i.toNat).map Char.toNat
noncomputable def up1 (c:Nat):Nat:=if 97≤c&&c≤122 then c-32 else c
noncomputable def lo1 (c:Nat):Nat:=if 65≤c&&c≤90 then c+32 else c
noncomputable def ascii (s:List Nat):Bool:=s.all (· <128)
noncomputable def joinL (sep:List Nat):List (List Nat)→List Nat
 |[]=>[]
 |[x]=>x
 |x::y::r=>x++sep++joinL sep (y::r)
noncomputable def splitL (s sep:List Nat):List (List Nat):=(Txt.split ⟨s.toArray⟩ ⟨sep.toArray⟩).map (·.cps.toList)
noncomputable def sizeM (objs:List MO) (n:Nat):Option (MV × List MO):=if n≤lenLim then some (.fv (.int n),objs) else none
noncomputable def lenO (objs:List MO):MO→Option (MV × List MO)
 |.list xs=>sizeM objs xs.length
 |.dict xs=>sizeM objs xs.length
 |.fz xs=>sizeM objs xs.length
 |_=>none
noncomputable def lenM (objs:List MO):MV→Option (MV × List MO)
 |.fv x=>wS (fun s=>if s.length≤lim then some (.fv (.int s.length),objs) else none) (.fv x)
 |.ref i=>objs[i]?.bind (lenO objs)
 |_=>none
noncomputable def rangeM (objs:List MO):List MV→Option (MV × List MO)
 |[a]=>wI (fun b=>if b.natAbs<big then some (.rng 0 b 1,objs) else none) a
 |[a,b]=>wI (fun a=>wI (fun b=>if a.natAbs<big&&b.natAbs<big then some (.rng a b 1,objs) else none) b) a
 |_=>none
noncomputable def litM (objs:List MO) (i:Nat):MO→Option (MV × List MO)
 |.lit k p=>(listAt objs k).bind fun xs=>xs[p]?.bind fun x=>some (.fv x,objs.set i (.lit k (p+1)))
 |_=>none
noncomputable def builtin (f:BI) (vs:List MV) (objs:List MO):Option (MV × List MO):=match f with
 |.len=>w1 (lenM objs) vs
 |.range=>rangeM objs vs
 |.listRange=>w3 (fun a b c=>wI (fun a=>wI (fun b=>wI (fun c=>if 0≤a&&a≤1000&&0≤b&&b≤1000&&0<c&&c≤1000 then some (.ref objs.length,objs++[.list (rngItems a b c)]) else none) c) b) a) vs
 |.min=>w2 (fun a b=>wI (fun a=>wI (fun b=>some (.fv (.int (if b<a then b else a)),objs)) b) a) vs
 |.max=>w1 (wL objs fun _ xs=>(ints? xs).bind fun ns=>(maxInts ns).bind fun m=>if ns.length≤lenLim then some (.fv (.int m),objs) else none) vs
 |.ord=>w1 (wS fun s=>match s with|[c]=>some (.fv (.int c),objs)|_=>none) vs
 |.chr=>w1 (wI fun i=>if 0≤i&&i<1114112 then some (.fv (.str [i.toNat]),objs) else none) vs
 |.strInt=>w1 (wI fun i=>if 0≤i&&i<10 then some (.fv (.str [48+i.toNat]),objs) else none) vs
 |.hex=>w1 (wI fun i=>if 0≤i&&(hexOf i).length≤lim then some (.fv (.str (hexOf i)),objs) else none) vs
 |.sorted=>w1 (wL objs fun _ xs=>(ints? xs).bind fun ns=>if ns.length≤60&&ns.all (fun n=>n.natAbs<big) then some (.ref objs.length,objs++[.list ((sortInts ns).map .int)]) else none) vs
 |.next=>w1 (wR fun i=>objs[i]?.bind (litM objs i)) vs
 |.iter=>w1 (wL objs fun i _=>some (.ref objs.length,objs++[.lit i 0])) vs
noncomputable def flagNames:List (Int × List Nat):=[(1,[79,80,84,73,77,73,90,69,68]),(2,[78,69,87,76,79,67,65,76,83]),(4,[86,65,82,65,82,71,83]),(8,[86,65,82,75,69,89,87,79,82,68,83]),(16,[78,69,83,84,69,68]),(32,[71,69,78,69,82,65,84,79,82]),(64,[78,79,70,82,69,69]),(128,[67,79,82,79,85,84,73,78,69]),(256,[73,84,69,82,65,66,76,69,95,67,79,82,79,85,84,73,78,69]),(512,[65,83,89,78,67,95,71,69,78,69,82,65,84,79,82])]
noncomputable def badName (c:Nat):Bool:=c<32||c==127
noncomputable def badValue (c:Nat):Bool:=(c<32&&c !=9)||c==127
noncomputable def seaM (objs:List MO) (bad:Nat→Bool) (s:List Nat):Option (MV × List MO):=if s.any bad||s.length>lim then none else some (.fv .none,objs)
noncomputable def methodM (m:ME) (v:MV) (vs:List MV) (objs:List MO):Option (MV × List MO):=match m with
 |.append=>w1 (wF fun x=>wL objs (fun i xs=>if xs.length<lenLim then some (.fv .none,objs.set i (.list (xs++[x]))) else none) v) vs
 |.index=>w1 (wS fun s=>wL objs (fun _ xs=>if xs.all FV.isStr&&xs.contains (.str s)&&xs.length≤lenLim then some (.fv (.int (xs.idxOf (.str s))),objs) else none) v) vs
 |.join=>w1 (fun a=>wS (fun sep=>wL objs (fun _ xs=>(strs? xs).bind fun ys=>if (ys.map List.length).sum+ys.length*sep.length≤lim then some (.fv (.str (joinL sep ys)),objs) else none) a) v) vs
 |.upper=>w0 (wS (fun s=>if ascii s&&s.length≤lim then some (.fv (.str (s.map up1)),objs) else none) v) vs
 |.lower=>w0 (wS (fun s=>if ascii s&&s.length≤lim then some (.fv (.str (s.map lo1)),objs) else none) v) vs
 |.split=>w1 (fun a=>wS (fun s=>wS (fun sep=>if s.length≤1000&&sep.length==2 then some (.ref objs.length,objs++[.list ((splitL s sep).map .str)]) else none) a) v) vs
 |.get=>w2 (fun a b=>wG (fun g=>if g=0 then wI (fun k=>wF (fun d=>some (.fv (((flagNames.lookup k).map .str).getD d),objs)) b) a else none) v) vs
 |.search=>w1 (wS fun s=>wG (fun g=>if g=1 then seaM objs badName s else if g=2 then seaM objs badValue s else none) v) vs
noncomputable def recvOk (m:ME) (v:MV) (objs:List MO):Bool:=match m with
 |.append=>match v with|.ref i=>(listAt objs i).isSome|_=>false
 |.index=>match v with|.ref i=>(listAt objs i).isSome|_=>false
 |.get=>match v with|.gl g=>g==0|_=>false
 |.search=>match v with|.gl g=>g==1||g==2|_=>false
 |_=>match v with|.fv (.str _)=>true|_=>false
noncomputable def bound? (n:Nat) (dflt:Nat):MV→Option Nat
 |.unb=>some dflt
 |.fv x=>match x with
  |.none=>some dflt
  |.int i=>if i.natAbs<big then some (if i<0 then (i+n).toNat else min i.toNat n) else none
  |_=>none
 |_=>none
noncomputable def nthL (xs:List FV) (i:Int):Option MV:=if 0≤i&&i<big then xs[i.toNat]?.map .fv else none
noncomputable def nthO (i:Int):MO→Option MV
 |.list xs=>nthL xs i
 |.dict es=>(es.lookup i).map .fv
 |.fz xs=>nthL xs i
 |_=>none
noncomputable def nthM (a b:MV) (objs:List MO):Option MV:=wI (fun i=>match a with
 |.fv x=>match x with
  |.str s=>if i.natAbs<big then (if 0≤i then s[i.toNat]? else if 0≤i+s.length then s[(i+s.length).toNat]? else none).map fun c=>.fv (.str [c]) else none
  |.pair a b=>if i=0 then some (.fv a) else if i=1 then some (.fv b) else none
  |_=>none
 |.ref r=>objs[r]?.bind (nthO i)
 |_=>none) b
noncomputable def sliceM (v l u:MV) (objs:List MO):Option (MV × List MO):=match v with
 |.fv x=>wS (fun s=>(bound? s.length 0 l).bind fun a=>(bound? s.length s.length u).bind fun b=>if s.length≤lim then some (.fv (.str ((s.drop a).take (b-a))),objs) else none) (.fv x)
 |.ref r=>wL objs (fun _ xs=>(bound? xs.length 0 l).bind fun a=>(bound? xs.length xs.length u).bind fun b=>
   if a≤b&&b≤xs.length&&xs.length≤lenLim then some (.ref objs.length,objs++[.list ((xs.drop a).take (b-a))]) else none) (.ref r)
 |_=>none
noncomputable def isTyM (neg:Bool) (ty:Nat) (v:MV) (objs:List MO):Option (MV × List MO):=
 if ty=0 then wS (fun _=>some (.fv (.bool (!neg)),objs)) v else if ty=1 then wL objs (fun _ _=>some (.fv (.bool (!neg)),objs)) v else none
noncomputable def srcO:MO→Option (List FV)
 |.list xs=>if xs.length≤lenLim then some xs else none
 |.dict es=>some (es.map fun p=>.int p.1)
 |_=>none
noncomputable def srcItems (v:MV) (objs:List MO):Option (List FV):=match v with
 |.rng a b c=>if c=1&&a.natAbs<big&&b.natAbs<big then some (rngItems a b 1) else none
 |.ref r=>objs[r]?.bind srcO
 |.fv x=>wS (fun s=>if s.length≤lim then some (s.map fun c=>.str [c]) else none) (.fv x)
 |_=>none
noncomputable def escGo:Nat→Bool→Nat→List Nat→List FV
 |_,true,last,[]=>[.pair (.int last) (.str [92])]
 |_,false,_,[]=>[]
 |pos,true,_,c::r=>.pair (.int pos) (.str [92,c])::escGo (pos+1) false pos r
 |pos,false,_,c::r=>if c=92 then escGo (pos+1) true pos r else .pair (.int pos) (.str [c])::escGo (pos+1) false pos r
noncomputable def escItems (s:List Nat):List FV:=escGo 0 false 0 s
noncomputable def MO.next:MO→Option Nat
 |.hdr k=>some k
 |.lit k _=>some k
 |_=>none
noncomputable def refsOf (objs:List MO):MV→List Nat
 |.ref i=>i::((objs[i]?.bind MO.next).toList)
 |_=>[]
noncomputable def renum (rs:List Nat):MV→MV
 |.ref i=>.ref (rs.idxOf i)
 |v=>v
noncomputable def renumO (rs:List Nat):MO→MO
 |.hdr k=>.hdr (rs.idxOf k)
 |.lit k i=>.lit (rs.idxOf k) i
 |o=>o
noncomputable def dedup:List Nat→List Nat
 |[]=>[]
 |x::r=>x::(dedup r).filter (· !=x)
noncomputable def rootsOf (vs:List MV) (objs:List MO):List Nat:=dedup (vs.flatMap (refsOf objs))
noncomputable def closed (rs:List Nat) (objs:List MO):Bool:=rs.all fun i=>match objs[i]? with
 |some o=>match o.next with
  |some k=>rs.contains k
  |none=>true
 |none=>false
noncomputable def pick (rs:List Nat) (objs:List MO):List MO:=rs.map fun i=>renumO rs (objs.getD i (.list []))
noncomputable def back1 (rs:List Nat) (o n:MO):Option MO:=match o with
 |.hdr k=>some (.hdr k)
 |.lit k _=>match n with
  |.lit m i=>if rs[m]?=some k then some (.lit k i) else none
  |_=>none
 |.list _=>match n with
  |.list ys=>some (.list ys)
  |_=>none
 |.dict _=>match n with
  |.dict ys=>some (.dict ys)
  |_=>none
 |.fz _=>match n with
  |.fz ys=>some (.fz ys)
  |_=>none
noncomputable def backFrom (rs:List Nat) (oc:List MO):Nat→List MO→Option (List MO)
 |_,[]=>some []
 |i,o::r=>match (if rs.contains i then (match oc[rs.idxOf i]? with|some n=>back1 rs o n|none=>none) else some o) with
  |some o'=>match backFrom rs oc (i+1) r with
   |some r'=>some (o'::r')
   |none=>none
  |none=>none
noncomputable def putBack (rs:List Nat) (oc objs:List MO):Option (List MO):=backFrom rs oc 0 objs
noncomputable def newBack (os:List MO):MO→Option (MV × List MO)
 |.list xs=>some (.ref os.length,os++[.list xs])
 |.dict xs=>some (.ref os.length,os++[.dict xs])
 |_=>none
noncomputable def comeBack (rs:List Nat) (v:MV) (oc objs:List MO):Option (MV × List MO):=
 match putBack rs oc objs with
 |some os=>match v with
  |.ref k=>if k<rs.length then some (.ref (rs.getD k 0),os) else oc[k]?.bind (newBack os)
  |.edict=>none
  |v=>some (v,os)
 |none=>none
abbrev Tbl:=Nat→List MV→List MO→Option (MV × List MO)
noncomputable def callM (T:Tbl) (f:Nat) (vs:List MV) (objs:List MO):Option (MV × List MO):=
 let rs:=rootsOf vs objs
 if closed rs objs then
  match T f (vs.map (renum rs)) (pick rs objs) with
  |some (v,oc)=>comeBack rs v oc objs
  |none=>none
 else none
inductive Fl where
 |next|brk|ret (v:MV)
structure MS where
 vars:List MV
 its:List MV
 objs:List MO
 n:Nat
noncomputable def MS.gc (s:MS):MS:=
 let rs:=rootsOf (s.vars++s.its) s.objs
 if closed rs s.objs&&rs.take s.n==List.range s.n then ⟨s.vars.map (renum rs),s.its.map (renum rs),pick rs s.objs,s.n⟩ else s
noncomputable def origOf:MV→List MO→Option MO
 |.ref i,objs=>objs[i]?
 |_,_=>none
noncomputable def noDict:Option MO→Bool|some (.dict _)=>false|_=>true
noncomputable def turns (step:FV→MS→Option (Fl × MS)) (orig:Option MO):List FV→MS→Option (Option Fl × MS)
 |[],s=>if origOf (s.its.headD .unb) s.objs==orig then some (none,s) else none
 |x::r,s=>
  if origOf (s.its.headD .unb) s.objs==orig then
   match step x s with
   |some (.next,s')=>turns step orig r s'
   |some (.brk,s')=>some (some .next,s')
   |some (.ret v,s')=>some (some (.ret v),s')
   |none=>none
  else none
noncomputable def whileTurns (test:MS→Option (Bool × MS)) (body:MS→Option (Fl × MS)):Nat→MS→Option (Fl × MS)
 |0,_=>none
 |n+1,s=>match test s with
  |some (true,s')=>match body s' with
   |some (.next,s'')=>whileTurns test body n s''
   |some (.brk,s'')=>some (.next,s'')
   |some (.ret v,s'')=>some (.ret v,s'')
   |none=>none
  |some (false,s')=>some (.next,s')
  |none=>none
noncomputable def okTake (n:Nat) (objs:List MO):Bool:=(objs.take n).all fun o=>match o.next with|some k=>decide (k<n)|none=>true
noncomputable def compTurns (n:Nat) (step:FV→List MV→List MO→Option (List FV × List MV × List MO)) (src:MV) (orig:Option MO):List FV→List MV→List MO→List FV→Option (List FV × List MV × List MO)
 |[],vs,objs,acc=>if origOf src objs==orig then some (acc,vs,objs) else none
 |x::r,vs,objs,acc=>
  if origOf src objs==orig then
   match step x vs objs with
   |some (ys,vs',objs')=>if acc.length+ys.length≤lenLim&&okTake n objs' then compTurns n step src orig r vs' (objs'.take n) (acc++ys) else none
   |none=>none
  else none
noncomputable def fvOf:MV→Option FV|.fv v=>some v|_=>none
noncomputable def capsOf (vars:List MV) (caps:List (Option Nat)):List MV:=caps.map fun|some i=>vars.getD i .unb|none=>.unb
noncomputable def compIn (vars:List MV) (caps:List (Option Nat)) (x:MV) (o1:List MO):Option (List Nat × List FV):=
 let rs:=rootsOf (x::capsOf vars caps) o1
 if closed rs o1&&!(capsOf vars caps).contains .edict&&(x !=.edict) then (srcItems (renum rs x) (pick rs o1)).map fun full=>(rs,full) else none
noncomputable def compOut (rs:List Nat) (oc o1:List MO) (mo:MO):Option (MV × List MO):=
 match putBack rs oc o1 with
 |some os=>some (.ref os.length,os++[mo])
 |none=>none
noncomputable def pairs?:List FV→Option (List (Int × FV))
 |[]=>some []
 |.pair (.int k) y::r=>(pairs? r).map ((k,y):: ·)
 |_::_=>none
noncomputable def dictOf? (ys:List FV):Option (List (Int × FV)):=
 match pairs? ys with
 |some es=>if (es.map (·.1)).Nodup then some es else none
 |none=>none
noncomputable def X.isNo (x:X):Bool:=Nat.beq x.ctorIdx 0
theorem non {α:Type} {a:α} {G:Prop} (h:none=some a):G:=nomatch h
section
variable {γ:Type} {G:Prop} {r:γ}
theorem opt2k {x:Option (MV × List MO)} {f:MV→List MO→Option γ} (h:(match x with|some (a,o1)=>f a o1|none=>none)=some r) (k:∀a b,x=some (a,b)→f a b=some r→G):G:=by
 cases x with|none=>exact non h|some p=>exact k _ _ rfl h
theorem optLk {x:Option (List MV × List MO)} {f:List MV→List MO→Option γ} (h:(match x with|some (a,o1)=>f a o1|none=>none)=some r) (k:∀a b,x=some (a,b)→f a b=some r→G):G:=by
 cases x with|none=>exact non h|some p=>exact k _ _ rfl h
theorem optCk {x:Option (List Nat × List FV)} {f:List Nat→List FV→Option γ} (h:(match x with|some (a,o1)=>f a o1|none=>none)=some r) (k:∀a b,x=some (a,b)→f a b=some r→G):G:=by
 cases x with|none=>exact non h|some p=>exact k _ _ rfl h
theorem optFk {x:Option (MV × List MO)} {f:FV→List MO→Option γ} (h:(match x with|some (.fv a,o1)=>f a o1|_=>none)=some r) (k:∀a b,x=some (.fv a,b)→f a b=some r→G):G:=by
 cases x with
 |none=>exact non h
 |some p=>
  cases p with|mk a b=>cases a with|fv a=>exact k a b rfl h|_=>exact non h
theorem optRk {x:Option (MV × List MO)} {f:Nat→List MO→Option γ} (h:(match x with|some (.ref a,o1)=>f a o1|_=>none)=some r) (k:∀a b,x=some (.ref a,b)→f a b=some r→G):G:=by
 cases x with
 |none=>exact non h
 |some p=>
  cases p with|mk a b=>cases a with|ref a=>exact k a b rfl h|_=>exact non h
theorem optIk {x:Option (MV × List MO)} {f:Int→List MO→Option γ} (h:(match x with|some (.fv (.int a),o1)=>f a o1|_=>none)=some r) (k:∀a b,x=some (.fv (.int a),b)→f a b=some r→G):G:=by
 cases x with
 |none=>exact non h
 |some p=>
  cases p with|mk a b=>cases a with|fv a=>(cases a with|int a=>exact k a b rfl h|_=>exact non h)|_=>exact non h
theorem optSk {x:Option (MV × List MO)} {f:List Nat→List MO→Option γ} (h:(match x with|some (.fv (.str a),o1)=>f a o1|_=>none)=some r) (k:∀a b,x=some (.fv (.str a),b)→f a b=some r→G):G:=by
 cases x with
 |none=>exact non h
 |some p=>
  cases p with|mk a b=>cases a with|fv a=>(cases a with|str a=>exact k a b rfl h|_=>exact non h)|_=>exact non h
theorem optPk {x:Option (MV × List MO)} {f:FV→FV→List MO→Option γ} (h:(match x with|some (.fv (.pair a b),o1)=>f a b o1|_=>none)=some r) (k:∀a b c,x=some (.fv (.pair a b),c)→f a b c=some r→G):G:=by
 cases x with
 |none=>exact non h
 |some p=>
  cases p with|mk a b=>cases a with|fv a=>(cases a with|pair a c=>exact k a c b rfl h|_=>exact non h)|_=>exact non h
theorem optBk {x:Option (Bool × List MO)} {f g:List MO→Option γ} (h:(match x with|some (true,o1)=>f o1|some (false,o1)=>g o1|none=>none)=some r) (k:∀b,x=some (true,b)→f b=some r→G) (k':∀b,x=some (false,b)→g b=some r→G):G:=by
 cases x with
 |none=>exact non h
 |some p=>cases p with|mk a b=>cases a with|true=>exact k b rfl h|false=>exact k' b rfl h
theorem optTk {x:Option (Bool × List MO)} {f:Bool→List MO→Option γ} (h:(match x with|some (a,o1)=>f a o1|none=>none)=some r) (k:∀a b,x=some (a,b)→f a b=some r→G):G:=by
 cases x with|none=>exact non h|some p=>exact k _ _ rfl h
theorem optbk {x:Option Bool} {f:Bool→Option γ} (h:(match x with|some ys=>f ys|none=>none)=some r) (k:∀a,x=some a→f a=some r→G):G:=by
 cases x with|none=>exact non h|some p=>exact k _ rfl h
theorem opt1k {x:Option (List FV)} {f:List FV→Option γ} (h:(match x with|some ys=>f ys|none=>none)=some r) (k:∀a,x=some a→f a=some r→G):G:=by
 cases x with|none=>exact non h|some p=>exact k _ rfl h
theorem opthk {x:Option MO} {f:Nat→Option γ} (h:(match x with|some (.hdr k)=>f k|_=>none)=some r) (k:∀a,x=some (.hdr a)→f a=some r→G):G:=by
 cases x with|none=>exact non h|some p=>cases p with|hdr a=>exact k a rfl h|_=>exact non h
theorem optNk {x:Option MO} {y:Option γ} (h:(match x with|some (.list [])=>y|_=>none)=some r) (k:x=some (.list [])→y=some r→G):G:=by
 cases x with
 |none=>exact non h
 |some o=>cases o with|list l=>(cases l with|nil=>exact k rfl h|cons _ _=>exact non h)|_=>exact non h
theorem optDk {x:Option (MV × List MO)} {f:Bool→List MO→Option γ} (h:(match x with|some (.fv (.bool a),o1)=>f a o1|_=>none)=some r) (k:∀a b,x=some (.fv (.bool a),b)→f a b=some r→G):G:=by
 cases x with
 |none=>exact non h
 |some p=>
  cases p with|mk a b=>cases a with|fv a=>(cases a with|bool a=>exact k a b rfl h|_=>exact non h)|_=>exact non h
theorem optVk {x:Option MV} {o:List MO} {r:MV × List MO} (h:(match x with|some .unb=>none|some v=>some (v,o)|none=>none)=some r) (k:∀v,x=some v→v≠.unb→some (v,o)=some r→G):G:=by
 cases x with
 |none=>exact non h
 |some v=>exact k v rfl (fun q=>by subst q;exact non h) (by cases v with|unb=>exact non h|_=>exact h)
theorem ifk {p:Prop} [Decidable p] {a:Option γ} (h:(if p then a else none)=some r) (k:p→a=some r→G):G:=by
 by_cases q:p
 ·rw [if_pos q] at h;exact k q h
 ·rw [if_neg q] at h;cases h
theorem bindk {α:Type} {x:Option α} {f:α→Option γ} (h:x.bind f=some r) (k:∀a,x=some a→f a=some r→G):G:=by
 cases x with|none=>exact non h|some p=>exact k _ rfl h
theorem mapk {α:Type} {x:Option α} {f:α→γ} (h:x.map f=some r) (k:∀a,x=some a→f a=r→G):G:=by
 cases x with|none=>exact non h|some p=>exact k _ rfl (Option.some.inj h)
end
@[elab_as_elim] theorem inj1m {α:Type} {motive:α→Prop} {a b:α} (h:some a=some b) (k:motive a):motive b:=Option.some.inj h▸k
@[elab_as_elim] theorem injPm {α β:Type} {motive:α→β→Prop} {a c:α} {b d:β} (h:(a,b)=(c,d)) (k:motive a b):motive c d:=
 have h1:a=c:=congrArg Prod.fst h
 have h2:b=d:=congrArg Prod.snd h
 h1▸h2▸k
@[elab_as_elim] theorem inj2m {α β:Type} {motive:α→β→Prop} {a c:α} {b d:β} (h:some (a,b)=some (c,d)) (k:motive a b):motive c d:=injPm (Option.some.inj h) k
theorem dec1 {p:Prop} [Decidable p] (h:decide p=true):p:=of_decide_eq_true h
theorem dec2 {p q:Prop} [Decidable p] [Decidable q] (h:(decide p&&decide q)=true):p∧q:=
 (Bool.and_eq_true_iff.mp h).imp of_decide_eq_true of_decide_eq_true
theorem decA {p:Bool} {q:Prop} [Decidable q] (h:(p&&decide q)=true):p=true∧q:=
 (Bool.and_eq_true_iff.mp h).imp id of_decide_eq_true
mutual
noncomputable def ev (T:Tbl):X→List MV→List MO→Option (MV × List MO)
 |.no,_,objs=>some (.unb,objs)
 |.cn _,_,objs=>some (.fv .none,objs)
 |.cb b _,_,objs=>some (.fv (.bool b),objs)
 |.ci i _,_,objs=>some (.fv (.int i),objs)
 |.cs s _,_,objs=>some (.fv (.str s),objs)
 |.var i _,vars,objs=>match vars[i]? with
   |some .unb=>none
   |some v=>some (v,objs)
   |none=>none
 |.gi g _,_,objs=>(match g with|3=>some (.fv (.int 40),objs)|4=>some (.fv (.int 2),objs)|5=>some (.fv (.int 1),objs)|g=>if g<3 then some (.gl g,objs) else none)
 |.bin l o r _,vars,objs=>match ev T l vars objs with
   |some (a,o1)=>match ev T r vars o1 with
    |some (b,o2)=>binop o a b o2
    |none=>none
   |none=>none
 |.neg i _ _,_,objs=>some (.fv (.int (-i)),objs)
 |.not x _,vars,objs=>match ev T x vars objs with
   |some (v,o1)=>(truthyM v o1).map fun b=>(.fv (.bool (!b)),o1)
   |none=>none
 |.bop c xs _,vars,objs=>evB T c xs vars objs
 |.ite t b e _,vars,objs=>match evT T t (ev T t vars objs) vars objs with
   |some (true,o1)=>ev T b vars o1
   |some (false,o1)=>ev T e vars o1
   |none=>none
 |.cmp l o r _,vars,objs=>match ev T l vars objs with
   |some (a,o1)=>match ev T r vars o1 with
    |some (b,o2)=>(cmpop o a b o2).map fun c=>(.fv (.bool c),o2)
    |none=>none
   |none=>none
 |.isTy neg ty x _ _ _ _,vars,objs=>match ev T x vars objs with
   |some (v,o1)=>isTyM neg ty v o1
   |none=>none
 |.fn f a _ _,vars,objs=>match evs T a vars objs with
   |some (vs,o1)=>callM T f vs o1
   |none=>none
 |.bi b a _ _ _ _,vars,objs=>match evs T a vars objs with
   |some (vs,o1)=>builtin b vs o1
   |none=>none
 |.me o m a _ _,vars,objs=>match ev T o vars objs with
   |some (v,o1)=>if recvOk m v o1 then (match evs T a vars o1 with
    |some (vs,o2)=>methodM m v vs o2
    |none=>none) else none
   |none=>none
 |.hm o m a kw _ _ _,vars,objs=>match ev T o vars objs with
   |some (.ref i,o1)=>match o1[i]? with
    |some (.hdr _)=>match evs T a vars o1 with
     |some (vs,o2)=>match evs T kw vars o2 with
      |some (ks,o3)=>callM T (100+m) (.ref i::(vs++ks)) o3
      |none=>none
     |none=>none
    |_=>none
   |_=>none
 |.newH a _ _,vars,objs=>match ev T a vars objs with
   |some (.ref i,o1)=>match o1[i]? with
    |some (.list [])=>some (.ref o1.length,o1++[.hdr i])
    |_=>none
   |_=>none
 |.hin neg x o _,vars,objs=>match ev T x vars objs with
   |some (v,o1)=>match ev T o vars o1 with
    |some (.ref i,o2)=>match o2[i]? with
     |some (.hdr _)=>match callM T 105 [.ref i,v] o2 with
      |some (.fv (.bool b),o3)=>some (.fv (.bool (b !=neg)),o3)
      |_=>none
     |_=>none
    |_=>none
   |none=>none
 |.hat o _,vars,objs=>match ev T o vars objs with
   |some (.ref i,o1)=>match o1[i]? with
    |some (.hdr k)=>some (.ref k,o1)
    |_=>none
   |_=>none
 |.sub o i _,vars,objs=>match ev T o vars objs with
   |some (a,o1)=>match ev T i vars o1 with
    |some (b,o2)=>(nthM a b o2).map fun v=>(v,o2)
    |none=>none
   |none=>none
 |.sl o l u _ _,vars,objs=>match ev T o vars objs with
   |some (a,o1)=>match ev T l vars o1 with
    |some (x,o2)=>match ev T u vars o2 with
     |some (y,o3)=>sliceM a x y o3
     |none=>none
    |none=>none
   |none=>none
 |.lst xs _,vars,objs=>match evs T xs vars objs with
   |some (vs,o1)=>match vs.mapM fvOf with
    |some ys=>if ys.length≤lenLim then some (.ref o1.length,o1++[.list ys]) else none
    |none=>none
   |none=>none
 |.tup a b _,vars,objs=>match ev T a vars objs with
   |some (.fv x,o1)=>match ev T b vars o1 with
    |some (.fv y,o2)=>some (.fv (.pair x y),o2)
    |_=>none
   |_=>none
 |.comp elt ti iter cond _ caps _ _,vars,objs=>match ev T iter vars objs with
   |some (x,o1)=>match compIn vars caps x o1 with
    |some (rs,full)=>match compTurns rs.length (fun it vs os=>
       match (if cond.isNo then some (true,os) else evT T cond (ev T cond (vs.set ti (.fv it)) os) (vs.set ti (.fv it)) os) with
       |some (true,os1)=>match ev T elt (vs.set ti (.fv it)) os1 with
        |some (.fv y,os2)=>some ([y],vs.set ti (.fv it),os2)
        |_=>none
       |some (false,os1)=>some ([],vs.set ti (.fv it),os1)
       |none=>none) (renum rs x) (origOf (renum rs x) (pick rs o1)) full ((capsOf vars caps).map (renum rs)) (pick rs o1) [] with
     |some (ys,_,oc')=>compOut rs oc' o1 (.list ys)
     |none=>none
    |none=>none
   |none=>none
 |.comp2 elt ti iter tj iter2 _ caps _ _ _,vars,objs=>match ev T iter vars objs with
   |some (x,o1)=>match compIn vars caps x o1 with
    |some (rs,full)=>match compTurns rs.length (fun it vs os=>
       match ev T iter2 (vs.set ti (.fv it)) os with
       |some (.fv (.str s),os1)=>match srcItems (.fv (.str s)) os1 with
        |some full2=>if okTake rs.length os1 then compTurns rs.length (fun it2 ws os2=>
          match ev T elt (ws.set tj (.fv it2)) os2 with
          |some (.fv y,os3)=>some ([y],ws.set tj (.fv it2),os3)
          |_=>none) (.fv (.str s)) none full2 (vs.set ti (.fv it)) (os1.take rs.length) [] else none
        |none=>none
       |_=>none) (renum rs x) (origOf (renum rs x) (pick rs o1)) full ((capsOf vars caps).map (renum rs)) (pick rs o1) [] with
     |some (ys,_,oc')=>compOut rs oc' o1 (.list ys)
     |none=>none
    |none=>none
   |none=>none
 |.dcomp key val ti iter _ caps _ _,vars,objs=>match ev T iter vars objs with
   |some (x,o1)=>match compIn vars caps x o1 with
    |some (rs,full)=>match compTurns rs.length (fun it vs os=>
       match ev T key (vs.set ti (.fv it)) os with
       |some (.fv (.int k),os1)=>match ev T val (vs.set ti (.fv it)) os1 with
        |some (.fv y,os2)=>some ([.pair (.int k) y],vs.set ti (.fv it),os2)
        |_=>none
       |_=>none) (renum rs x) (origOf (renum rs x) (pick rs o1)) full ((capsOf vars caps).map (renum rs)) (pick rs o1) [] with
     |some (ys,_,oc')=>match dictOf? ys with
       |some es=>compOut rs oc' o1 (.dict es)
       |none=>none
     |none=>none
    |none=>none
   |none=>none
noncomputable def evs (T:Tbl):Xs→List MV→List MO→Option (List MV × List MO)
 |.nil,_,objs=>some ([],objs)
 |.cons x xs,vars,objs=>match ev T x vars objs with
   |some (v,o1)=>match evs T xs vars o1 with
    |some (vs,o2)=>some (v::vs,o2)
    |none=>none
   |none=>none
noncomputable def evB (T:Tbl) (c:Bool):Xs→List MV→List MO→Option (MV × List MO)
 |.nil,_,_=>none
 |.cons x .nil,vars,objs=>ev T x vars objs
 |.cons x (.cons y ys),vars,objs=>match ev T x vars objs with
   |some (v,o1)=>match truthyM v o1 with
    |some b=>if b=c then evB T c (.cons y ys) vars o1 else some (v,o1)
    |none=>none
   |none=>none
noncomputable def evA (T:Tbl) (c:Bool):Xs→List MV→List MO→Option (Bool × List MO)
 |.nil,_,objs=>some (c,objs)
 |.cons x xs,vars,objs=>match evT T x (ev T x vars objs) vars objs with
   |some (b,o1)=>if b=c then evA T c xs vars o1 else some (!c,o1)
   |none=>none
noncomputable def evT (T:Tbl):X→Option (MV × List MO)→List MV→List MO→Option (Bool × List MO)
 |.not x _,_,vars,objs=>(evT T x (ev T x vars objs) vars objs).map fun p=>(!p.1,p.2)
 |.bop c xs _,_,vars,objs=>evA T c xs vars objs
 |.ite t b e _,_,vars,objs=>match evT T t (ev T t vars objs) vars objs with
   |some (true,o1)=>evT T b (ev T b vars o1) vars o1
   |some (false,o1)=>evT T e (ev T e vars o1) vars o1
   |none=>none
 |_,whole,_,_=>match whole with
   |some (v,o1)=>(truthyM v o1).map fun b=>(b,o1)
   |none=>none
end
noncomputable def X.isComp (x:X):Bool:=Nat.ble 25 x.ctorIdx
noncomputable def MV.plain:MV→Bool|.edict=>false|.unb=>false|_=>true
mutual
noncomputable def ex (T:Tbl):S→MS→Option (Fl × MS)
 |.asg i e _ _,s=>match ev T e s.vars s.objs with
   |some (v,o)=>if v.plain&&(!e.isComp||!s.vars.contains .edict) then some (.next,{s with vars:=s.vars.set i v,objs:=o}) else none
   |none=>none
 |.asg2 i j e _ _ _,s=>match ev T e s.vars s.objs with
   |some (v,o)=>if v.plain then some (.next,{s with vars:=(s.vars.set i v).set j v,objs:=o}) else none
   |none=>none
 |.asgT i j e _ _ _ _,s=>match ev T e s.vars s.objs with
   |some (.fv (.pair a b),o)=>some (.next,{s with vars:=(s.vars.set i (.fv a)).set j (.fv b),objs:=o})
   |_=>none
 |.swp i j a b _ _ _ _ _,s=>match ev T a s.vars s.objs with
   |some (.fv x,o1)=>match ev T b s.vars o1 with
    |some (.fv y,o2)=>some (.next,{s with vars:=(s.vars.set j (.fv y)).set i (.fv x),objs:=o2})
    |_=>none
   |_=>none
 |.asgS o i e _ _,s=>match ev T e s.vars s.objs with
   |some (.fv v,o1)=>match ev T o s.vars o1 with
    |some (.ref r,o2)=>match ev T i s.vars o2 with
     |some (.fv (.int k),o3)=>match listAt o3 r with
      |some xs=>if 0≤k&&k<xs.length&&xs.length≤lenLim then some (.next,{s with objs:=o3.set r (.list (xs.set k.toNat v))}) else none
      |none=>none
     |_=>none
    |_=>none
   |_=>none
 |.aug i op e _ _,s=>match s.vars[i]? with
   |some (.fv a)=>match ev T e s.vars s.objs with
    |some (.fv b,o1)=>match binop op (.fv a) (.fv b) o1 with
     |some (c,o2)=>some (.next,{s with vars:=s.vars.set i c,objs:=o2})
     |none=>none
    |_=>none
   |_=>none
 |.augS o i op e _ _,s=>match ev T o s.vars s.objs with
   |some (.ref r,o1)=>match ev T i s.vars o1 with
    |some (.fv (.int k),o2)=>match listAt o2 r with
     |some xs=>if 0≤k&&k<xs.length&&xs.length≤lenLim then match xs[k.toNat]? with
       |some (.int a)=>match ev T e s.vars o2 with
        |some (.fv (.int b),o3)=>match arith op a b with
         |some c=>match listAt o3 r with
          |some ys=>if k<ys.length&&ys.length≤lenLim then some (.next,{s with objs:=o3.set r (.list (ys.set k.toNat (.int c)))}) else none
          |none=>none
         |none=>none
        |_=>none
       |_=>none
      else none
     |none=>none
    |_=>none
   |_=>none
 |.iff t b e _,s=>match evT T t (ev T t s.vars s.objs) s.vars s.objs with
   |some (true,o)=>exs T b {s with objs:=o}
   |some (false,o)=>exs T e {s with objs:=o}
   |none=>none
 |.whl t b _,s=>whileTurns (fun s=>(evT T t (ev T t s.vars s.objs) s.vars s.objs).map fun p=>(p.1,{s with objs:=p.2})) (fun s=>exs T b s) 64 s
 |.forS ti iter b e _ _,s=>match ev T iter s.vars s.objs with
   |some (x,o)=>match (if noDict (origOf x o) then srcItems x o else none) with
    |some full=>match turns (fun it s=>exs T b {s with vars:=s.vars.set ti (.fv it)}) (origOf x o) full {s with its:=x::s.its,objs:=o} with
     |some (none,s')=>exs T e {s' with its:=s'.its.tail}
     |some (some f,s')=>some (f,{s' with its:=s'.its.tail})
     |none=>none
    |none=>none
   |none=>none
 |.for2 ti tj iter b _ _ _ _,s=>match ev T iter s.vars s.objs with
   |some (x,o)=>match (if noDict (origOf x o) then srcItems x o else none) with
    |some full=>match turns (fun it s=>match it with
       |.pair a c=>exs T b {s with vars:=(s.vars.set ti (.fv a)).set tj (.fv c)}
       |_=>none) (origOf x o) full {s with its:=x::s.its,objs:=o} with
     |some (none,s')=>some (.next,{s' with its:=s'.its.tail})
     |some (some f,s')=>some (f,{s' with its:=s'.its.tail})
     |none=>none
    |none=>none
   |none=>none
 |.forG ti tj arg b _ _ _ _ _ _,s=>match ev T arg s.vars s.objs with
   |some (.fv (.str t),o)=>if t.length≤lim then
     match turns (fun it s=>match it with
       |.pair a c=>exs T b {s with vars:=(s.vars.set ti (.fv a)).set tj (.fv c)}
       |_=>none) none (escItems t) {s with its:=.fv .none::s.its,objs:=o} with
     |some (none,s')=>some (.next,{s' with its:=s'.its.tail})
     |some (some f,s')=>some (f,{s' with its:=s'.its.tail})
     |none=>none
    else none
   |_=>none
 |.forE _ _ o _ _ _ _ _ _ _,s=>match ev T o s.vars s.objs with
   |some (.edict,o)=>some (.next,{s with objs:=o})
   |_=>none
 |.ret e _,s=>match ev T e s.vars s.objs with
   |some (v,o)=>some (.ret v,{s with objs:=o})
   |none=>none
 |.brk _,s=>some (.brk,s)
 |.xp e _,s=>match ev T e s.vars s.objs with
   |some (_,o)=>some (.next,{s with objs:=o})
   |none=>none
 |.dead _,_=>none
noncomputable def exs (T:Tbl):Ss→MS→Option (Fl × MS)
 |.nil,s=>some (.next,s)
 |.cons a r,s=>match ex T a s with
   |some (.next,s')=>exs T r s'
   |some (f,s')=>some (f,s')
   |none=>none
 |.gc r,s=>exs T r s.gc
end
noncomputable def runBody (T:Tbl) (body:Ss) (vars:List MV) (objs:List MO):Option (MV × List MO):=
 match exs T body ⟨vars,[],objs,objs.length⟩ with
 |some (.ret v,s)=>some (v,s.objs)
 |some (.next,s)=>some (.fv .none,s.objs)
 |_=>none
end
section
noncomputable def fnames:List Str:=["_law_cells","_law_words","_law_order","_law_ones","_law_sized","_law_octets","_law_rows","_law_word","_law_tied","_law_way",
 "pretty_flags","_parse_varint","_check_parenthesis","_strip_quoted_realnames","_levenshtein_distance","_substitution_cost","law"]
noncomputable def gnames:List Str:=["COMPILER_FLAG_NAMES","_name_disallowed_re","_value_disallowed_re","_MAX_STRING_SIZE","_MOVE_COST","_CASE_COST"]
noncomputable def hnames:List Str:=["add_header","get_all","items","get","_convert_string_type","__contains__","__init__"]
noncomputable def fname (i:Nat):Str:=fnames.getD i default
noncomputable def gname (i:Nat):Str:=gnames.getD i default
noncomputable def hname (i:Nat):Str:=hnames.getD i default
noncomputable def BI.name:BI→Str
 |.len=> "len" |.range=> "range" |.listRange=> "list" |.min=> "min" |.max=> "max" |.ord=> "ord" |.chr=> "chr" |.strInt=> "str" |.hex=> "hex"
 |.sorted=> "sorted" |.next=> "next" |.iter=> "iter"
noncomputable def ME.name:ME→Str
 |.append=> "append" |.index=> "index" |.join=> "join" |.upper=> "upper" |.lower=> "lower" |.split=> "split" |.get=> "get" |.search=> "search"
noncomputable def nm (ns:Names) (i:Nat):Str:=(ns.map (·.1)).getD i default
noncomputable def scopeOf (ns:Names):Scope:={kind:=.function,names:=ns,isGenerator:=false,isCoroutine:=false}
mutual
noncomputable def X.dec (ns:Names):X→PySem.Expr
 |.no=>.Constant .none 0 default
 |.cn p=>.Constant .none 0 p
 |.cb b p=>.Constant (.bool b) 0 p
 |.ci i p=>.Constant (.int i) 0 p
 |.cs s p=>.Constant (.str ⟨s.toArray⟩) 0 p
 |.var i p=>.Name (nm ns i) p
 |.gi g p=>.Name (gname g) p
 |.bin l o r p=>.BinOp (l.dec ns) o.op (r.dec ns) p
 |.neg i pc p=>.UnaryOp .USub (.Constant (.int i) 0 pc) p
 |.not x p=>.UnaryOp .Not (x.dec ns) p
 |.bop c xs p=>.BoolOp (if c then .And else .Or) (xs.dec ns) p
 |.ite t b e p=>.IfExp (t.dec ns) (b.dec ns) (e.dec ns) p
 |.cmp l o r p=>.Compare (l.dec ns) [o.op] [r.dec ns] p
 |.isTy neg ty x pt pc ps p=>.Compare (.Call (.Name "type" pt) [x.dec ns] [] pc) [if neg then .IsNot else .Is] [.Name (if ty=0 then "str" else "list") ps] p
 |.fn f a pn p=>.Call (.Name (fname f) pn) (a.dec ns) [] p
 |.bi b a pn pm pk p=>match b with
   |.listRange=>.Call (.Name "list" pn) [.Call (.Name "range" pm) (a.dec ns) [] pk] [] p
   |b=>.Call (.Name b.name pn) (a.dec ns) [] p
 |.me o m a pa p=>.Call (.Attribute (o.dec ns) m.name pa) (a.dec ns) [] p
 |.hm o m a kw pa pk p=>.Call (.Attribute (o.dec ns) (hname m) pa) (a.dec ns) (kw.decKw ns pk) p
 |.newH a pn p=>.Call (.Name "Headers" pn) [a.dec ns] [] p
 |.hin neg x o p=>.Compare (x.dec ns) [if neg then .NotIn else .In] [o.dec ns] p
 |.hat o p=>.Attribute (o.dec ns) "_headers" p
 |.sub o i p=>.Subscript (o.dec ns) (i.dec ns) p
 |.sl o l u ps p=>.Subscript (o.dec ns) (.Slice (if l.isNo then none else some (l.dec ns)) (if u.isNo then none else some (u.dec ns)) none ps) p
 |.lst xs p=>.List (xs.dec ns) p
 |.tup a b p=>.Tuple [a.dec ns,b.dec ns] 0 p
 |.comp elt ti iter cond cs _ pt p=>.ListComp (elt.dec cs) [⟨.Name (nm cs ti) pt,iter.dec ns,if cond.isNo then [] else [cond.dec cs],0⟩] (scopeOf cs) p
 |.comp2 elt ti iter tj iter2 cs _ pt pt2 p=>.ListComp (elt.dec cs) [⟨.Name (nm cs ti) pt,iter.dec ns,[],0⟩,⟨.Name (nm cs tj) pt2,iter2.dec cs,[],0⟩] (scopeOf cs) p
 |.dcomp k v ti iter cs _ pt p=>.DictComp (k.dec cs) (v.dec cs) [⟨.Name (nm cs ti) pt,iter.dec ns,[],0⟩] (scopeOf cs) p
noncomputable def Xs.dec (ns:Names):Xs→List PySem.Expr
 |.nil=>[]
 |.cons x xs=>x.dec ns::xs.dec ns
noncomputable def Xs.decKw (ns:Names) (pk:Pos):Xs→List Keyword
 |.nil=>[]
 |.cons x xs=>⟨some "name",x.dec ns,pk⟩::xs.decKw ns pk
end
mutual
noncomputable def S.dec (ns:Names):S→Stmt
 |.asg i e pn p=>.Assign [.Name (nm ns i) pn] (e.dec ns) p
 |.asg2 i j e pi pj p=>.Assign [.Name (nm ns i) pi,.Name (nm ns j) pj] (e.dec ns) p
 |.asgT i j e pi pj pt p=>.Assign [.Tuple [.Name (nm ns i) pi,.Name (nm ns j) pj] 0 pt] (e.dec ns) p
 |.swp i j a b pi pj pt pv p=>.Assign [.Tuple [.Name (nm ns i) pi,.Name (nm ns j) pj] 0 pt] (.Tuple [a.dec ns,b.dec ns] 0 pv) p
 |.asgS o i e ps p=>.Assign [.Subscript (o.dec ns) (i.dec ns) ps] (e.dec ns) p
 |.aug i op e pn p=>.AugAssign (.Name (nm ns i) pn) op.op (e.dec ns) p
 |.augS o i op e ps p=>.AugAssign (.Subscript (o.dec ns) (i.dec ns) ps) op.op (e.dec ns) p
 |.iff t b e p=>.If (t.dec ns) (b.dec ns) (e.dec ns) p
 |.whl t b p=>.While (t.dec ns) (b.dec ns) [] p
 |.forS ti it b e pt p=>.For (.Name (nm ns ti) pt) (it.dec ns) (b.dec ns) (e.dec ns) p
 |.for2 ti tj it b pi pj pt p=>.For (.Tuple [.Name (nm ns ti) pi,.Name (nm ns tj) pj] 0 pt) (it.dec ns) (b.dec ns) [] p
 |.forG ti tj a b pi pj pt pf pc p=>.For (.Tuple [.Name (nm ns ti) pi,.Name (nm ns tj) pj] 0 pt) (.Call (.Name "_iter_escaped_chars" pf) [a.dec ns] [] pc) (b.dec ns) [] p
 |.forE ti tj o b pi pj pt pa pc p=>.For (.Tuple [.Name (nm ns ti) pi,.Name (nm ns tj) pj] 0 pt) (.Call (.Attribute (o.dec ns) "items" pa) [] [] pc) (b.dec ns) [] p
 |.ret e p=>.Return (some (e.dec ns)) p
 |.brk p=>.Break p
 |.xp e p=>.Expr (e.dec ns) p
 |.dead s=>s
noncomputable def Ss.dec (ns:Names):Ss→List Stmt
 |.nil=>[]
 |.cons s r=>s.dec ns::r.dec ns
 |.gc r=>r.dec ns
end
end
end Mine
end
section
set_option maxRecDepth 100000
open PySem
namespace Mine
section
noncomputable def nsFstripquotedrealnames:Names:=[("addr",.local),("start",.local),("open_pos",.local),("result",.local),("pos",.local),("ch",.local),("_iter_escaped_chars",.globalImplicit),("len",.globalImplicit)]
noncomputable def bFstripquotedrealnames:Ss:=
 (.cons (.iff (.cmp (.cs [34] (pq 20 7 10)) .notIn (.var 0 (pq 20 18 22)) (pq 20 7 22)) (.cons (.ret (.var 0 (pq 21 15 19)) (pq 21 8 19))
  .nil) .nil ⟨20,4,21,19⟩)
  (.cons (.asg 1 (.ci 0 (pq 22 12 13)) (pq 22 4 9) (pq 22 4 13))
  (.cons (.asg 2 (.cn (pq 23 15 19)) (pq 23 4 12) (pq 23 4 19))
  (.cons (.asg 3 (.lst .nil (pq 24 13 15)) (pq 24 4 10) (pq 24 4 15))
  (.cons (.forG 4 5 (.var 0 (pq 25 39 43)) (.cons (.iff (.cmp (.var 5 (pq 26 11 13)) .eq (.cs [34] (pq 26 17 20)) (pq 26 11 20)) (.cons (.iff (.cmp (.var 2 (pq 27 15 23)) .is (.cn (pq 27 27 31)) (pq 27 15 31)) (.cons (.asg 2 (.var 4 (pq 28 27 30)) (pq 28 16 24) (pq 28 16 30))
  .nil) (.cons (.iff (.cmp (.var 1 (pq 30 19 24)) .ne (.var 2 (pq 30 28 36)) (pq 30 19 36)) (.cons (.xp (.me (.var 3 (pq 31 20 26)) .append (.cons (.sl (.var 0 (pq 31 34 38)) (.var 1 (pq 31 39 44)) (.var 2 (pq 31 45 53)) (pq 31 39 53) (pq 31 34 54)) .nil) (pq 31 20 33) (pq 31 20 55)) (pq 31 20 55))
  .nil) .nil ⟨30,16,31,55⟩)
  (.cons (.asg 1 (.bin (.var 4 (pq 32 24 27)) .add (.ci 1 (pq 32 30 31)) (pq 32 24 31)) (pq 32 16 21) (pq 32 16 31))
  (.cons (.asg 2 (.cn (pq 33 27 31)) (pq 33 16 24) (pq 33 16 31))
  .nil))) ⟨27,12,33,31⟩)
  .nil) .nil ⟨26,8,33,31⟩)
  .nil) (pq 25 8 11) (pq 25 13 15) (pq 25 8 15) (pq 25 19 38) (pq 25 19 44) ⟨25,4,33,31⟩)
  (.cons (.iff (.cmp (.var 1 (pq 34 7 12)) .lt (.bi .len (.cons (.var 0 (pq 34 19 23)) .nil) (pq 34 15 18) (pq 34 15 18) (pq 34 15 18) (pq 34 15 24)) (pq 34 7 24)) (.cons (.xp (.me (.var 3 (pq 35 8 14)) .append (.cons (.sl (.var 0 (pq 35 22 26)) (.var 1 (pq 35 27 32)) .no (pq 35 27 33) (pq 35 22 34)) .nil) (pq 35 8 21) (pq 35 8 35)) (pq 35 8 35))
  .nil) .nil ⟨34,4,35,35⟩)
  (.cons (.ret (.me (.cs [] (pq 36 11 13)) .join (.cons (.var 3 (pq 36 19 25)) .nil) (pq 36 11 18) (pq 36 11 26)) (pq 36 4 26))
  .nil)))))))
noncomputable def nsFcheckparenthesis:Names:=[("addr",.local),("opens",.local),("pos",.local),("ch",.local),("_strip_quoted_realnames",.globalImplicit),("_iter_escaped_chars",.globalImplicit)]
noncomputable def bFcheckparenthesis:Ss:=
 (.cons (.asg 0 (.fn 13 (.cons (.var 0 (pq 38 35 39)) .nil) (pq 38 11 34) (pq 38 11 40)) (pq 38 4 8) (pq 38 4 40))
  (.cons (.asg 1 (.ci 0 (pq 39 12 13)) (pq 39 4 9) (pq 39 4 13))
  (.cons (.forG 2 3 (.var 0 (pq 40 39 43)) (.cons (.iff (.cmp (.var 3 (pq 41 11 13)) .eq (.cs [40] (pq 41 17 20)) (pq 41 11 20)) (.cons (.aug 1 .add (.ci 1 (pq 42 21 22)) (pq 42 12 17) (pq 42 12 22))
  .nil) (.cons (.iff (.cmp (.var 3 (pq 43 13 15)) .eq (.cs [41] (pq 43 19 22)) (pq 43 13 22)) (.cons (.aug 1 .sub (.ci 1 (pq 44 21 22)) (pq 44 12 17) (pq 44 12 22))
  (.cons (.iff (.cmp (.var 1 (pq 45 15 20)) .lt (.ci 0 (pq 45 23 24)) (pq 45 15 24)) (.cons (.ret (.cb false (pq 46 23 28)) (pq 46 16 28))
  .nil) .nil ⟨45,12,46,28⟩)
  .nil)) .nil ⟨43,8,46,28⟩)
  .nil) ⟨41,8,46,28⟩)
  .nil) (pq 40 8 11) (pq 40 13 15) (pq 40 8 15) (pq 40 19 38) (pq 40 19 44) ⟨40,4,46,28⟩)
  (.cons (.ret (.cmp (.var 1 (pq 47 11 16)) .eq (.ci 0 (pq 47 20 21)) (pq 47 11 21)) (pq 47 4 21))
  .nil))))
noncomputable def nsFprettyflags:Names:=[("flags",.local),("names",.local),("i",.local),("flag",.local),("range",.globalImplicit),("COMPILER_FLAG_NAMES",.globalImplicit),("hex",.globalImplicit)]
noncomputable def bFprettyflags:Ss:=
 (.cons (.asg 1 (.lst .nil (pq 51 12 14)) (pq 51 4 9) (pq 51 4 14))
  (.cons (.forS 2 (.bi .range (.cons (.ci 32 (pq 52 19 21)) .nil) (pq 52 13 18) (pq 52 13 18) (pq 52 13 18) (pq 52 13 22)) (.cons (.asg 3 (.bin (.ci 1 (pq 53 15 16)) .shl (.var 2 (pq 53 20 21)) (pq 53 15 21)) (pq 53 8 12) (pq 53 8 21))
  (.cons (.iff (.bin (.var 0 (pq 54 11 16)) .band (.var 3 (pq 54 19 23)) (pq 54 11 23)) (.cons (.xp (.me (.var 1 (pq 55 12 17)) .append (.cons (.me (.gi 0 (pq 55 25 44)) .get (.cons (.var 3 (pq 55 49 53)) (.cons (.bi .hex (.cons (.var 3 (pq 55 59 63)) .nil) (pq 55 55 58) (pq 55 55 58) (pq 55 55 58) (pq 55 55 64)) .nil)) (pq 55 25 48) (pq 55 25 65)) .nil) (pq 55 12 24) (pq 55 12 66)) (pq 55 12 66))
  (.cons (.aug 0 .bxor (.var 3 (pq 56 21 25)) (pq 56 12 17) (pq 56 12 25))
  (.cons (.iff (.not (.var 0 (pq 57 19 24)) (pq 57 15 24)) (.cons (.brk (pq 58 16 21))
  .nil) .nil ⟨57,12,58,21⟩)
  .nil))) .nil ⟨54,8,58,21⟩)
  .nil)) (.cons (.xp (.me (.var 1 (pq 60 8 13)) .append (.cons (.bi .hex (.cons (.var 0 (pq 60 25 30)) .nil) (pq 60 21 24) (pq 60 21 24) (pq 60 21 24) (pq 60 21 31)) .nil) (pq 60 8 20) (pq 60 8 32)) (pq 60 8 32))
  .nil) (pq 52 8 9) ⟨52,4,60,32⟩)
  (.cons (.ret (.me (.cs [44,32] (pq 61 11 15)) .join (.cons (.var 1 (pq 61 21 26)) .nil) (pq 61 11 20) (pq 61 11 27)) (pq 61 4 27))
  .nil)))
noncomputable def nsFparsevarint:Names:=[("iterator",.local),("b",.local),("val",.local),("next",.globalImplicit)]
noncomputable def bFparsevarint:Ss:=
 (.cons (.asg 1 (.bi .next (.cons (.var 0 (pq 63 13 21)) .nil) (pq 63 8 12) (pq 63 8 12) (pq 63 8 12) (pq 63 8 22)) (pq 63 4 5) (pq 63 4 22))
  (.cons (.asg 2 (.bin (.var 1 (pq 64 10 11)) .band (.ci 63 (pq 64 14 16)) (pq 64 10 16)) (pq 64 4 7) (pq 64 4 16))
  (.cons (.whl (.bin (.var 1 (pq 65 10 11)) .band (.ci 64 (pq 65 14 16)) (pq 65 10 16)) (.cons (.aug 2 .shl (.ci 6 (pq 66 16 17)) (pq 66 8 11) (pq 66 8 17))
  (.cons (.asg 1 (.bi .next (.cons (.var 0 (pq 67 17 25)) .nil) (pq 67 12 16) (pq 67 12 16) (pq 67 12 16) (pq 67 12 26)) (pq 67 8 9) (pq 67 8 26))
  (.cons (.aug 2 .bor (.bin (.var 1 (pq 68 15 16)) .band (.ci 63 (pq 68 19 21)) (pq 68 15 21)) (pq 68 8 11) (pq 68 8 21))
  .nil))) ⟨65,4,68,21⟩)
  (.cons (.ret (.var 2 (pq 69 11 14)) (pq 69 4 14))
  .nil))))
noncomputable def nsFsubstitutioncost:Names:=[("ch_a",.local),("ch_b",.local),("_CASE_COST",.globalImplicit),("_MOVE_COST",.globalImplicit)]
noncomputable def bFsubstitutioncost:Ss:=
 (.cons (.iff (.cmp (.var 0 (pq 75 7 11)) .eq (.var 1 (pq 75 15 19)) (pq 75 7 19)) (.cons (.ret (.ci 0 (pq 76 15 16)) (pq 76 8 16))
  .nil) .nil ⟨75,4,76,16⟩)
  (.cons (.iff (.cmp (.me (.var 0 (pq 77 7 11)) .lower .nil (pq 77 7 17) (pq 77 7 19)) .eq (.me (.var 1 (pq 77 23 27)) .lower .nil (pq 77 23 33) (pq 77 23 35)) (pq 77 7 35)) (.cons (.ret (.gi 5 (pq 78 15 25)) (pq 78 8 25))
  .nil) .nil ⟨77,4,78,25⟩)
  (.cons (.ret (.gi 4 (pq 79 11 21)) (pq 79 4 21))
  .nil)))
noncomputable def nsFlevenshteindistance:Names:=[("a",.local),("b",.local),("max_cost",.local),("pre",.local),("post",.local),("row",.local),("result",.local),("bindex",.local),("bchar",.local),("distance",.local),("minimum",.local),("index",.local),("substitute",.local),("insert_delete",.local),("_MOVE_COST",.globalImplicit),("len",.globalImplicit),("_MAX_STRING_SIZE",.globalImplicit),("list",.globalImplicit),("range",.globalImplicit),("_substitution_cost",.globalImplicit),("min",.globalImplicit)]
noncomputable def bFlevenshteindistance:Ss:=
 (.cons (.iff (.cmp (.var 0 (pq 81 7 8)) .eq (.var 1 (pq 81 12 13)) (pq 81 7 13)) (.cons (.ret (.ci 0 (pq 82 15 16)) (pq 82 8 16))
  .nil) .nil ⟨81,4,82,16⟩)
  (.cons (.asg 3 (.ci 0 (pq 83 10 11)) (pq 83 4 7) (pq 83 4 11))
  (.cons (.whl (.bop true (.cons (.sl (.var 0 (pq 84 10 11)) (.var 3 (pq 84 12 15)) .no (pq 84 12 16) (pq 84 10 17)) (.cons (.sl (.var 1 (pq 84 22 23)) (.var 3 (pq 84 24 27)) .no (pq 84 24 28) (pq 84 22 29)) (.cons (.cmp (.sub (.var 0 (pq 84 35 36)) (.var 3 (pq 84 37 40)) (pq 84 35 41)) .eq (.sub (.var 1 (pq 84 45 46)) (.var 3 (pq 84 47 50)) (pq 84 45 51)) (pq 84 35 51)) .nil))) (pq 84 10 52)) (.cons (.aug 3 .add (.ci 1 (pq 85 15 16)) (pq 85 8 11) (pq 85 8 16))
  .nil) ⟨84,4,85,16⟩)
  (.cons (.asg 0 (.sl (.var 0 (pq 86 8 9)) (.var 3 (pq 86 10 13)) .no (pq 86 10 14) (pq 86 8 15)) (pq 86 4 5) (pq 86 4 15))
  (.cons (.asg 1 (.sl (.var 1 (pq 87 8 9)) (.var 3 (pq 87 10 13)) .no (pq 87 10 14) (pq 87 8 15)) (pq 87 4 5) (pq 87 4 15))
  (.cons (.asg 4 (.ci 0 (pq 88 11 12)) (pq 88 4 8) (pq 88 4 12))
  (.cons (.whl (.bop true (.cons (.sl (.var 0 (pq 89 10 11)) .no (.bop false (.cons (.var 4 (pq 89 13 17)) (.cons (.cn (pq 89 21 25)) .nil)) (pq 89 13 25)) (pq 89 12 25) (pq 89 10 26)) (.cons (.sl (.var 1 (pq 89 31 32)) .no (.bop false (.cons (.var 4 (pq 89 34 38)) (.cons (.cn (pq 89 42 46)) .nil)) (pq 89 34 46)) (pq 89 33 46) (pq 89 31 47)) (.cons (.cmp (.sub (.var 0 (pq 89 53 54)) (.bin (.var 4 (pq 89 55 59)) .sub (.ci 1 (pq 89 62 63)) (pq 89 55 63)) (pq 89 53 64)) .eq (.sub (.var 1 (pq 89 68 69)) (.bin (.var 4 (pq 89 70 74)) .sub (.ci 1 (pq 89 77 78)) (pq 89 70 78)) (pq 89 68 79)) (pq 89 53 79)) .nil))) (pq 89 10 80)) (.cons (.aug 4 .sub (.ci 1 (pq 90 16 17)) (pq 90 8 12) (pq 90 8 17))
  .nil) ⟨89,4,90,17⟩)
  (.cons (.asg 0 (.sl (.var 0 (pq 91 8 9)) .no (.bop false (.cons (.var 4 (pq 91 11 15)) (.cons (.cn (pq 91 19 23)) .nil)) (pq 91 11 23)) (pq 91 10 23) (pq 91 8 24)) (pq 91 4 5) (pq 91 4 24))
  (.cons (.asg 1 (.sl (.var 1 (pq 92 8 9)) .no (.bop false (.cons (.var 4 (pq 92 11 15)) (.cons (.cn (pq 92 19 23)) .nil)) (pq 92 11 23)) (pq 92 10 23) (pq 92 8 24)) (pq 92 4 5) (pq 92 4 24))
  (.cons (.iff (.bop false (.cons (.not (.var 0 (pq 93 11 12)) (pq 93 7 12)) (.cons (.not (.var 1 (pq 93 20 21)) (pq 93 16 21)) .nil)) (pq 93 7 21)) (.cons (.ret (.bin (.gi 4 (pq 94 15 25)) .mul (.bin (.bi .len (.cons (.var 0 (pq 94 33 34)) .nil) (pq 94 29 32) (pq 94 29 32) (pq 94 29 32) (pq 94 29 35)) .add (.bi .len (.cons (.var 1 (pq 94 42 43)) .nil) (pq 94 38 41) (pq 94 38 41) (pq 94 38 41) (pq 94 38 44)) (pq 94 29 44)) (pq 94 15 45)) (pq 94 8 45))
  .nil) .nil ⟨93,4,94,45⟩)
  (.cons (.iff (.bop false (.cons (.cmp (.bi .len (.cons (.var 0 (pq 95 11 12)) .nil) (pq 95 7 10) (pq 95 7 10) (pq 95 7 10) (pq 95 7 13)) .gt (.gi 3 (pq 95 16 32)) (pq 95 7 32)) (.cons (.cmp (.bi .len (.cons (.var 1 (pq 95 40 41)) .nil) (pq 95 36 39) (pq 95 36 39) (pq 95 36 39) (pq 95 36 42)) .gt (.gi 3 (pq 95 45 61)) (pq 95 36 61)) .nil)) (pq 95 7 61)) (.cons (.ret (.bin (.var 2 (pq 96 15 23)) .add (.ci 1 (pq 96 26 27)) (pq 96 15 27)) (pq 96 8 27))
  .nil) .nil ⟨95,4,96,27⟩)
  (.cons (.iff (.cmp (.bi .len (.cons (.var 1 (pq 97 11 12)) .nil) (pq 97 7 10) (pq 97 7 10) (pq 97 7 10) (pq 97 7 13)) .lt (.bi .len (.cons (.var 0 (pq 97 20 21)) .nil) (pq 97 16 19) (pq 97 16 19) (pq 97 16 19) (pq 97 16 22)) (pq 97 7 22)) (.cons (.swp 0 1 (.var 1 (pq 98 16 17)) (.var 0 (pq 98 19 20)) (pq 98 8 9) (pq 98 11 12) (pq 98 8 12) (pq 98 15 21) (pq 98 8 21))
  .nil) .nil ⟨97,4,98,21⟩)
  (.cons (.iff (.cmp (.bin (.bin (.bi .len (.cons (.var 1 (pq 99 12 13)) .nil) (pq 99 8 11) (pq 99 8 11) (pq 99 8 11) (pq 99 8 14)) .sub (.bi .len (.cons (.var 0 (pq 99 21 22)) .nil) (pq 99 17 20) (pq 99 17 20) (pq 99 17 20) (pq 99 17 23)) (pq 99 8 23)) .mul (.gi 4 (pq 99 27 37)) (pq 99 7 37)) .gt (.var 2 (pq 99 40 48)) (pq 99 7 48)) (.cons (.ret (.bin (.var 2 (pq 100 15 23)) .add (.ci 1 (pq 100 26 27)) (pq 100 15 27)) (pq 100 8 27))
  .nil) .nil ⟨99,4,100,27⟩)
  (.cons (.asg 5 (.bi .listRange (.cons (.gi 4 (pq 101 21 31)) (.cons (.bin (.gi 4 (pq 101 33 43)) .mul (.bin (.bi .len (.cons (.var 0 (pq 101 51 52)) .nil) (pq 101 47 50) (pq 101 47 50) (pq 101 47 50) (pq 101 47 53)) .add (.ci 1 (pq 101 56 57)) (pq 101 47 57)) (pq 101 33 58)) (.cons (.gi 4 (pq 101 60 70)) .nil))) (pq 101 10 14) (pq 101 15 20) (pq 101 15 71) (pq 101 10 72)) (pq 101 4 7) (pq 101 4 72))
  (.cons (.asg 6 (.ci 0 (pq 102 13 14)) (pq 102 4 10) (pq 102 4 14))
  (.cons (.forS 7 (.bi .range (.cons (.bi .len (.cons (.var 1 (pq 103 28 29)) .nil) (pq 103 24 27) (pq 103 24 27) (pq 103 24 27) (pq 103 24 30)) .nil) (pq 103 18 23) (pq 103 18 23) (pq 103 18 23) (pq 103 18 31)) (.cons (.asg 8 (.sub (.var 1 (pq 104 16 17)) (.var 7 (pq 104 18 24)) (pq 104 16 25)) (pq 104 8 13) (pq 104 8 25))
  (.cons (.asg2 9 6 (.bin (.var 7 (pq 105 28 34)) .mul (.gi 4 (pq 105 37 47)) (pq 105 28 47)) (pq 105 8 16) (pq 105 19 25) (pq 105 8 47))
  (.cons (.asg 10 (.ci 9223372036854775807 (pq 106 18 37)) (pq 106 8 15) (pq 106 8 37))
  (.cons (.forS 11 (.bi .range (.cons (.bi .len (.cons (.var 0 (pq 107 31 32)) .nil) (pq 107 27 30) (pq 107 27 30) (pq 107 27 30) (pq 107 27 33)) .nil) (pq 107 21 26) (pq 107 21 26) (pq 107 21 26) (pq 107 21 34)) (.cons (.asg 12 (.bin (.var 9 (pq 108 25 33)) .add (.fn 15 (.cons (.var 8 (pq 108 55 60)) (.cons (.sub (.var 0 (pq 108 62 63)) (.var 11 (pq 108 64 69)) (pq 108 62 70)) .nil)) (pq 108 36 54) (pq 108 36 71)) (pq 108 25 71)) (pq 108 12 22) (pq 108 12 71))
  (.cons (.asg 9 (.sub (.var 5 (pq 109 23 26)) (.var 11 (pq 109 27 32)) (pq 109 23 33)) (pq 109 12 20) (pq 109 12 33))
  (.cons (.asg 13 (.bin (.bi .min (.cons (.var 6 (pq 110 32 38)) (.cons (.var 9 (pq 110 40 48)) .nil)) (pq 110 28 31) (pq 110 28 31) (pq 110 28 31) (pq 110 28 49)) .add (.gi 4 (pq 110 52 62)) (pq 110 28 62)) (pq 110 12 25) (pq 110 12 62))
  (.cons (.asg 6 (.bi .min (.cons (.var 13 (pq 111 25 38)) (.cons (.var 12 (pq 111 40 50)) .nil)) (pq 111 21 24) (pq 111 21 24) (pq 111 21 24) (pq 111 21 51)) (pq 111 12 18) (pq 111 12 51))
  (.cons (.asgS (.var 5 (pq 112 12 15)) (.var 11 (pq 112 16 21)) (.var 6 (pq 112 25 31)) (pq 112 12 22) (pq 112 12 31))
  (.cons (.iff (.cmp (.var 6 (pq 113 15 21)) .lt (.var 10 (pq 113 24 31)) (pq 113 15 31)) (.cons (.asg 10 (.var 6 (pq 114 26 32)) (pq 114 16 23) (pq 114 16 32))
  .nil) .nil ⟨113,12,114,32⟩)
  .nil)))))) .nil (pq 107 12 17) ⟨107,8,114,32⟩)
  (.cons (.iff (.cmp (.var 10 (pq 115 11 18)) .gt (.var 2 (pq 115 21 29)) (pq 115 11 29)) (.cons (.ret (.bin (.var 2 (pq 116 19 27)) .add (.ci 1 (pq 116 30 31)) (pq 116 19 31)) (pq 116 12 31))
  .nil) .nil ⟨115,8,116,31⟩)
  .nil))))) .nil (pq 103 8 14) ⟨103,4,116,31⟩)
  (.cons (.ret (.var 6 (pq 117 11 17)) (pq 117 4 17))
  .nil)))))))))))))))))
noncomputable def nsHconvertstringtype:Names:=[("self",.local),("value",.local),("name",.local),("regex",.local),("type",.globalImplicit),("str",.globalImplicit),("_name_disallowed_re",.globalImplicit),("_value_disallowed_re",.globalImplicit),("ValueError",.globalImplicit),("AssertionError",.globalImplicit),("repr",.globalImplicit)]
noncomputable def bHconvertstringtype:Ss:=
 (.cons (.iff (.isTy false 0 (.var 1 (pq 144 16 21)) (pq 144 11 15) (pq 144 11 22) (pq 144 26 29) (pq 144 11 29)) (.cons (.asg 3 (.ite (.var 2 (pq 145 43 47)) (.gi 1 (pq 145 20 39)) (.gi 2 (pq 145 53 73)) (pq 145 20 73)) (pq 145 12 17) (pq 145 12 73))
  (.cons (.iff (.me (.var 3 (pq 146 15 20)) .search (.cons (.var 1 (pq 146 28 33)) .nil) (pq 146 15 27) (pq 146 15 34)) (.cons (.dead (.Raise (some (.Call (.Name "ValueError" (pq 147 22 32)) [(.Constant (.str "Control characters not allowed in headers") 0 (pq 147 33 76))] [] (pq 147 22 77))) none (pq 147 16 77)))
  .nil) .nil ⟨146,12,147,77⟩)
  (.cons (.ret (.var 1 (pq 148 19 24)) (pq 148 12 24))
  .nil))) .nil ⟨144,8,148,24⟩)
  (.cons (.dead (.Raise (some (.Call (.Name "AssertionError" (pq 149 14 28)) [(.Call (.Attribute (.Constant (.str "Header names/values must be of type str (got {0})") 0 (pq 149 29 80)) "format" (pq 149 29 87)) [(.Call (.Name "repr" (pq 149 88 92)) [(.Name "value" (pq 149 93 98))] [] (pq 149 88 99))] [] (pq 149 29 100))] [] (pq 149 14 101))) none (pq 149 8 101)))
  .nil))
noncomputable def nsHcontains:Names:=[("self",.local),("name",.local)]
noncomputable def bHcontains:Ss:=
 (.cons (.ret (.cmp (.hm (.var 0 (pq 166 15 19)) 3 (.cons (.var 1 (pq 166 24 28)) .nil) .nil (pq 166 15 23) (pq 166 15 29) (pq 166 15 29)) .isNot (.cn (pq 166 37 41)) (pq 166 15 41)) (pq 166 8 41))
  .nil)
noncomputable def nsHgetall:Names:=[("self",.local),("name",.cell)]
noncomputable def bHgetall:Ss:=
 (.cons (.asg 1 (.hm (.var 0 (pq 169 15 19)) 4 (.cons (.me (.var 1 (pq 169 41 45)) .lower .nil (pq 169 41 51) (pq 169 41 53)) .nil) (.cons (.cb true (pq 169 60 64)) .nil) (pq 169 15 40) (pq 169 55 64) (pq 169 15 65)) (pq 169 8 12) (pq 169 8 65))
  (.cons (.ret (.comp (.sub (.var 1 (pq 170 16 18)) (.ci 1 (pq 170 19 20)) (pq 170 16 21)) 1 (.hat (.var 0 (pq 170 32 36)) (pq 170 32 45)) (.cmp (.me (.sub (.var 1 (pq 170 49 51)) (.ci 0 (pq 170 52 53)) (pq 170 49 54)) .lower .nil (pq 170 49 60) (pq 170 49 62)) .eq (.var 2 (pq 170 66 70)) (pq 170 49 70)) [(".0",.local),("kv",.local),("name",.free)] [none,none,some 1] (pq 170 26 28) (pq 170 15 71)) (pq 170 8 71))
  .nil))
noncomputable def nsHget:Names:=[("self",.local),("name",.local),("default",.local),("k",.local),("v",.local)]
noncomputable def bHget:Ss:=
 (.cons (.asg 1 (.hm (.var 0 (pq 173 15 19)) 4 (.cons (.me (.var 1 (pq 173 41 45)) .lower .nil (pq 173 41 51) (pq 173 41 53)) .nil) (.cons (.cb true (pq 173 60 64)) .nil) (pq 173 15 40) (pq 173 55 64) (pq 173 15 65)) (pq 173 8 12) (pq 173 8 65))
  (.cons (.for2 3 4 (.hat (.var 0 (pq 174 20 24)) (pq 174 20 33)) (.cons (.iff (.cmp (.me (.var 3 (pq 175 15 16)) .lower .nil (pq 175 15 22) (pq 175 15 24)) .eq (.var 1 (pq 175 28 32)) (pq 175 15 32)) (.cons (.ret (.var 4 (pq 176 23 24)) (pq 176 16 24))
  .nil) .nil ⟨175,12,176,24⟩)
  .nil) (pq 174 12 13) (pq 174 15 16) (pq 174 12 16) ⟨174,8,176,24⟩)
  (.cons (.ret (.var 2 (pq 177 15 22)) (pq 177 8 22))
  .nil)))
noncomputable def nsHitems:Names:=[("self",.local)]
noncomputable def bHitems:Ss:=
 (.cons (.ret (.sl (.hat (.var 0 (pq 186 15 19)) (pq 186 15 28)) .no .no (pq 186 29 30) (pq 186 15 31)) (pq 186 8 31))
  .nil)
noncomputable def nsHaddheader:Names:=[("self",.local),("_name",.local),("_value",.local),("_params",.local),("parts",.local),("k",.local),("v",.local),("_formatparam",.globalImplicit)]
noncomputable def bHaddheader:Ss:=
 (.cons (.asg 4 (.lst .nil (pq 201 16 18)) (pq 201 8 13) (pq 201 8 18))
  (.cons (.iff (.cmp (.var 2 (pq 202 11 17)) .isNot (.cn (pq 202 25 29)) (pq 202 11 29)) (.cons (.asg 2 (.hm (.var 0 (pq 203 21 25)) 4 (.cons (.var 2 (pq 203 47 53)) .nil) (.cons (.cb false (pq 203 60 65)) .nil) (pq 203 21 46) (pq 203 55 65) (pq 203 21 66)) (pq 203 12 18) (pq 203 12 66))
  (.cons (.xp (.me (.var 4 (pq 204 12 17)) .append (.cons (.var 2 (pq 204 25 31)) .nil) (pq 204 12 24) (pq 204 12 32)) (pq 204 12 32))
  .nil)) .nil ⟨202,8,204,32⟩)
  (.cons (.forE 5 6 (.var 3 (pq 205 20 27)) (.cons (.dead (.Assign [(.Name "k" (pq 206 12 13))] (.Call (.Attribute (.Name "self" (pq 206 16 20)) "_convert_string_type" (pq 206 16 41)) [(.Name "k" (pq 206 42 43))] [⟨some "name",(.Constant (.bool true) 0 (pq 206 50 54)),(pq 206 45 54)⟩] (pq 206 16 55)) (pq 206 12 55))) (.cons (.dead (.If (.Compare (.Name "v" (pq 207 15 16)) [.Is] [(.Constant .none 0 (pq 207 20 24))] (pq 207 15 24)) [(.Expr (.Call (.Attribute (.Name "parts" (pq 208 16 21)) "append" (pq 208 16 28)) [(.Call (.Attribute (.Name "k" (pq 208 29 30)) "replace" (pq 208 29 38)) [(.Constant (.str "_") 0 (pq 208 39 42)),(.Constant (.str "-") 0 (pq 208 44 47))] [] (pq 208 29 48))] [] (pq 208 16 49)) (pq 208 16 49))] [(.Assign [(.Name "v" (pq 210 16 17))] (.Call (.Attribute (.Name "self" (pq 210 20 24)) "_convert_string_type" (pq 210 20 45)) [(.Name "v" (pq 210 46 47))] [⟨some "name",(.Constant (.bool false) 0 (pq 210 54 59)),(pq 210 49 59)⟩] (pq 210 20 60)) (pq 210 16 60)),(.Expr (.Call (.Attribute (.Name "parts" (pq 211 16 21)) "append" (pq 211 16 28)) [(.Call (.Name "_formatparam" (pq 211 29 41)) [(.Call (.Attribute (.Name "k" (pq 211 42 43)) "replace" (pq 211 42 51)) [(.Constant (.str "_") 0 (pq 211 52 55)),(.Constant (.str "-") 0 (pq 211 57 60))] [] (pq 211 42 61)),(.Name "v" (pq 211 63 64))] [] (pq 211 29 65))] [] (pq 211 16 66)) (pq 211 16 66))] ⟨207,12,211,66⟩)) .nil)) (pq 205 12 13) (pq 205 15 16) (pq 205 12 16) (pq 205 20 33) (pq 205 20 35) ⟨205,8,211,66⟩)
  (.cons (.xp (.me (.hat (.var 0 (pq 212 8 12)) (pq 212 8 21)) .append (.cons (.tup (.hm (.var 0 (pq 212 30 34)) 4 (.cons (.var 1 (pq 212 56 61)) .nil) (.cons (.cb true (pq 212 68 72)) .nil) (pq 212 30 55) (pq 212 63 72) (pq 212 30 73)) (.me (.cs [59,32] (pq 212 75 79)) .join (.cons (.var 4 (pq 212 85 90)) .nil) (pq 212 75 84) (pq 212 75 91)) (pq 212 29 92)) .nil) (pq 212 8 28) (pq 212 8 93)) (pq 212 8 93))
  .nil))))
noncomputable def nsFlawcells:Names:=[("script",.local),("cells",.local),("place",.local),("range",.globalImplicit),("len",.globalImplicit)]
noncomputable def bFlawcells:Ss:=
 (.cons (.asg 1 (.lst (.cons (.ci 18 (pq 215 13 15)) (.cons (.ci 45 (pq 215 17 19)) (.cons (.ci 2 (pq 215 21 22)) (.cons (.ci 30000 (pq 215 24 29)) (.cons (.ci 17 (pq 215 31 33)) .nil))))) (pq 215 12 34)) (pq 215 4 9) (pq 215 4 34))
  (.cons (.forS 2 (.bi .range (.cons (.bi .len (.cons (.var 0 (pq 216 27 33)) .nil) (pq 216 23 26) (pq 216 23 26) (pq 216 23 26) (pq 216 23 34)) .nil) (pq 216 17 22) (pq 216 17 22) (pq 216 17 22) (pq 216 17 35)) (.cons (.augS (.var 1 (pq 217 8 13)) (.bin (.var 2 (pq 217 14 19)) .fmod (.ci 5 (pq 217 22 23)) (pq 217 14 23)) .add (.sub (.var 0 (pq 217 28 34)) (.var 2 (pq 217 35 40)) (pq 217 28 41)) (pq 217 8 24) (pq 217 8 41))
  .nil) .nil (pq 216 8 13) ⟨216,4,217,41⟩)
  (.cons (.ret (.var 1 (pq 218 11 16)) (pq 218 4 16))
  .nil)))
noncomputable def nsFlawwords:Names:=[("places",.local),("low",.local),("names",.local),("words",.local),("place",.local),("range",.globalImplicit),("str",.globalImplicit)]
noncomputable def bFlawwords:Ss:=
 (.cons (.asg 2 (.lst (.cons (.cs [79,80,84,73,77,73,90,69,68] (pq 220 13 24)) (.cons (.cs [78,69,87,76,79,67,65,76,83] (pq 220 26 37)) (.cons (.cs [86,65,82,65,82,71,83] (pq 220 39 48)) (.cons (.cs [86,65,82,75,69,89,87,79,82,68,83] (pq 220 50 63)) (.cons (.cs [78,69,83,84,69,68] (pq 220 65 73)) (.cons (.cs [71,69,78,69,82,65,84,79,82] (pq 220 75 86)) (.cons (.cs [78,79,70,82,69,69] (pq 220 88 96)) (.cons (.cs [67,79,82,79,85,84,73,78,69] (pq 220 98 109)) (.cons (.cs [73,84,69,82,65,66,76,69,95,67,79,82,79,85,84,73,78,69] (pq 220 111 131)) (.cons (.cs [65,83,89,78,67,95,71,69,78,69,82,65,84,79,82] (pq 220 133 150)) .nil)))))))))) (pq 220 12 151)) (pq 220 4 9) (pq 220 4 151))
  (.cons (.asg 3 (.lst .nil (pq 221 12 14)) (pq 221 4 9) (pq 221 4 14))
  (.cons (.forS 4 (.bi .range (.cons (.var 1 (pq 222 23 26)) (.cons (.bin (.var 1 (pq 222 28 31)) .add (.var 0 (pq 222 34 40)) (pq 222 28 40)) .nil)) (pq 222 17 22) (pq 222 17 22) (pq 222 17 22) (pq 222 17 41)) (.cons (.iff (.cmp (.var 4 (pq 223 11 16)) .lt (.ci 10 (pq 223 19 21)) (pq 223 11 21)) (.cons (.xp (.me (.var 3 (pq 224 12 17)) .append (.cons (.sub (.var 2 (pq 224 25 30)) (.var 4 (pq 224 31 36)) (pq 224 25 37)) .nil) (pq 224 12 24) (pq 224 12 38)) (pq 224 12 38))
  .nil) (.cons (.xp (.me (.var 3 (pq 226 12 17)) .append (.cons (.bin (.bin (.cs [48,120] (pq 226 25 29)) .add (.bi .strInt (.cons (.bin (.ci 2 (pq 226 36 37)) .pow (.bin (.var 4 (pq 226 42 47)) .fmod (.ci 4 (pq 226 50 51)) (pq 226 42 51)) (pq 226 36 52)) .nil) (pq 226 32 35) (pq 226 32 35) (pq 226 32 35) (pq 226 32 53)) (pq 226 25 53)) .add (.bin (.cs [48] (pq 226 56 59)) .mul (.bin (.var 4 (pq 226 63 68)) .fdiv (.ci 4 (pq 226 72 73)) (pq 226 63 73)) (pq 226 56 74)) (pq 226 25 74)) .nil) (pq 226 12 24) (pq 226 12 75)) (pq 226 12 75))
  .nil) ⟨223,8,226,75⟩)
  .nil) .nil (pq 222 8 13) ⟨222,4,226,75⟩)
  (.cons (.ret (.var 3 (pq 227 11 16)) (pq 227 4 16))
  .nil))))
noncomputable def nsFlaworder:Names:=[("words",.local),("draw",.local),("rest",.local),("order",.local),("place",.local),("len",.globalImplicit)]
noncomputable def bFlaworder:Ss:=
 (.cons (.asg 2 (.var 0 (pq 229 11 16)) (pq 229 4 8) (pq 229 4 16))
  (.cons (.asg 3 (.lst .nil (pq 230 12 14)) (pq 230 4 9) (pq 230 4 14))
  (.cons (.whl (.cmp (.var 2 (pq 231 10 14)) .ne (.lst .nil (pq 231 18 20)) (pq 231 10 20)) (.gc (.cons (.asg 4 (.bin (.var 1 (pq 232 16 20)) .fmod (.bi .len (.cons (.var 2 (pq 232 27 31)) .nil) (pq 232 23 26) (pq 232 23 26) (pq 232 23 26) (pq 232 23 32)) (pq 232 16 32)) (pq 232 8 13) (pq 232 8 32))
  (.cons (.asg 1 (.bin (.var 1 (pq 233 15 19)) .fdiv (.bi .len (.cons (.var 2 (pq 233 27 31)) .nil) (pq 233 23 26) (pq 233 23 26) (pq 233 23 26) (pq 233 23 32)) (pq 233 15 32)) (pq 233 8 12) (pq 233 8 32))
  (.cons (.xp (.me (.var 3 (pq 234 8 13)) .append (.cons (.sub (.var 2 (pq 234 21 25)) (.var 4 (pq 234 26 31)) (pq 234 21 32)) .nil) (pq 234 8 20) (pq 234 8 33)) (pq 234 8 33))
  (.cons (.asg 2 (.bin (.sl (.var 2 (pq 235 15 19)) .no (.var 4 (pq 235 21 26)) (pq 235 20 26) (pq 235 15 27)) .add (.sl (.var 2 (pq 235 30 34)) (.bin (.var 4 (pq 235 35 40)) .add (.ci 1 (pq 235 43 44)) (pq 235 35 44)) .no (pq 235 35 45) (pq 235 30 46)) (pq 235 15 46)) (pq 235 8 12) (pq 235 8 46))
  .nil))))) ⟨231,4,235,46⟩)
  (.cons (.ret (.var 3 (pq 236 11 16)) (pq 236 4 16))
  .nil))))
noncomputable def nsFlawones:Names:=[("number",.cell),("range",.globalImplicit)]
noncomputable def bFlawones:Ss:=
 (.cons (.ret (.comp (.var 1 (pq 238 12 17)) 1 (.bi .range (.cons (.ci 5 (pq 238 37 38)) .nil) (pq 238 31 36) (pq 238 31 36) (pq 238 31 36) (pq 238 31 39)) (.cmp (.bin (.bin (.var 2 (pq 238 43 49)) .fdiv (.bin (.ci 2 (pq 238 53 54)) .pow (.var 1 (pq 238 58 63)) (pq 238 53 63)) (pq 238 43 63)) .fmod (.ci 2 (pq 238 66 67)) (pq 238 43 67)) .eq (.ci 1 (pq 238 71 72)) (pq 238 43 72)) [(".0",.local),("place",.local),("number",.free)] [none,none,some 0] (pq 238 22 27) (pq 238 11 73)) (pq 238 4 73))
  .nil)
noncomputable def nsFlawsized:Names:=[("text",.local),("turn",.local)]
noncomputable def bFlawsized:Ss:=
 (.cons (.iff (.cmp (.bin (.var 1 (pq 240 7 11)) .fmod (.ci 2 (pq 240 14 15)) (pq 240 7 15)) .eq (.ci 0 (pq 240 19 20)) (pq 240 7 20)) (.cons (.ret (.me (.var 0 (pq 241 15 19)) .upper .nil (pq 241 15 25) (pq 241 15 27)) (pq 241 8 27))
  .nil) .nil ⟨240,4,241,27⟩)
  (.cons (.ret (.me (.var 0 (pq 242 11 15)) .lower .nil (pq 242 11 21) (pq 242 11 23)) (pq 242 4 23))
  .nil))
noncomputable def nsFlawoctets:Names:=[("number",.local),("signs",.local),("chr",.globalImplicit)]
noncomputable def bFlawoctets:Ss:=
 (.cons (.asg 1 (.bi .chr (.cons (.bin (.ci 128 (pq 244 16 19)) .add (.bin (.var 0 (pq 244 22 28)) .fmod (.ci 64 (pq 244 31 33)) (pq 244 22 33)) (pq 244 16 33)) .nil) (pq 244 12 15) (pq 244 12 15) (pq 244 12 15) (pq 244 12 34)) (pq 244 4 9) (pq 244 4 34))
  (.cons (.whl (.cmp (.var 0 (pq 245 10 16)) .ge (.ci 64 (pq 245 20 22)) (pq 245 10 22)) (.cons (.asg 0 (.bin (.var 0 (pq 246 17 23)) .fdiv (.ci 64 (pq 246 27 29)) (pq 246 17 29)) (pq 246 8 14) (pq 246 8 29))
  (.cons (.asg 1 (.bin (.bi .chr (.cons (.bin (.ci 192 (pq 247 20 23)) .add (.bin (.var 0 (pq 247 26 32)) .fmod (.ci 64 (pq 247 35 37)) (pq 247 26 37)) (pq 247 20 37)) .nil) (pq 247 16 19) (pq 247 16 19) (pq 247 16 19) (pq 247 16 38)) .add (.var 1 (pq 247 41 46)) (pq 247 16 46)) (pq 247 8 13) (pq 247 8 46))
  .nil)) ⟨245,4,247,46⟩)
  (.cons (.ret (.var 1 (pq 248 11 16)) (pq 248 4 16))
  .nil)))
noncomputable def nsFlawrows:Names:=[("places",.local),("ahead",.local),("draw",.local),("rows",.local),("two",.local),("one",.local),("text",.local),("place",.local),("closes",.local),("range",.globalImplicit),("_check_parenthesis",.globalImplicit)]
noncomputable def bFlawrows:Ss:=
 (.cons (.asg 3 (.lst .nil (pq 250 11 13)) (pq 250 4 8) (pq 250 4 13))
  (.cons (.forS 4 (.bi .range (.cons (.ci 1 (pq 251 21 22)) (.cons (.var 0 (pq 251 24 30)) .nil)) (pq 251 15 20) (pq 251 15 20) (pq 251 15 20) (pq 251 15 31)) (.gc (.cons (.forS 5 (.bi .range (.cons (.var 4 (pq 252 25 28)) .nil) (pq 252 19 24) (pq 252 19 24) (pq 252 19 24) (pq 252 19 29)) (.gc (.cons (.asg 6 (.bin (.cs [40] (pq 253 19 22)) .mul (.var 1 (pq 253 25 30)) (pq 253 19 30)) (pq 253 12 16) (pq 253 12 30))
  (.cons (.forS 7 (.bi .range (.cons (.var 0 (pq 254 31 37)) .nil) (pq 254 25 30) (pq 254 25 30) (pq 254 25 30) (pq 254 25 38)) (.gc (.cons (.iff (.cmp (.var 7 (pq 255 19 24)) .eq (.bin (.var 2 (pq 255 28 32)) .fmod (.var 0 (pq 255 35 41)) (pq 255 28 41)) (pq 255 19 41)) (.cons (.aug 6 .add (.sub (.lst (.cons (.cs [] (pq 256 29 31)) (.cons (.cs [92,41] (pq 256 33 38)) (.cons (.cs [92,92] (pq 256 40 46)) (.cons (.cs [34,92,34,40,34] (pq 256 48 56)) (.cons (.cs [92,34] (pq 256 58 63)) (.cons (.cs [34] (pq 256 65 68)) .nil)))))) (pq 256 28 69)) (.bin (.bin (.var 2 (pq 256 70 74)) .fdiv (.var 0 (pq 256 78 84)) (pq 256 70 84)) .fmod (.ci 6 (pq 256 87 88)) (pq 256 70 88)) (pq 256 28 89)) (pq 256 20 24) (pq 256 20 89))
  .nil) .nil ⟨255,16,256,89⟩)
  (.cons (.aug 6 .add (.ite (.cmp (.var 7 (pq 257 31 36)) .inn (.tup (.var 5 (pq 257 41 44)) (.var 4 (pq 257 46 49)) (pq 257 40 50)) (pq 257 31 50)) (.cs [40] (pq 257 24 27)) (.cs [41] (pq 257 56 59)) (pq 257 24 59)) (pq 257 16 20) (pq 257 16 59))
  .nil))) .nil (pq 254 16 21) ⟨254,12,257,59⟩)
  (.cons (.aug 6 .add (.bin (.cs [41] (pq 258 20 23)) .mul (.bin (.bin (.var 1 (pq 258 27 32)) .add (.ci 4 (pq 258 35 36)) (pq 258 27 36)) .sub (.var 0 (pq 258 39 45)) (pq 258 27 45)) (pq 258 20 46)) (pq 258 12 16) (pq 258 12 46))
  (.cons (.asg 8 (.bop true (.cons (.cmp (.var 5 (pq 259 21 24)) .le (.var 1 (pq 259 28 33)) (pq 259 21 33)) (.cons (.cmp (.var 4 (pq 259 38 41)) .le (.bin (.var 1 (pq 259 45 50)) .add (.ci 2 (pq 259 53 54)) (pq 259 45 54)) (pq 259 38 54)) .nil)) (pq 259 21 54)) (pq 259 12 18) (pq 259 12 54))
  (.cons (.iff (.cmp (.fn 12 (.cons (.var 6 (pq 260 34 38)) .nil) (pq 260 15 33) (pq 260 15 39)) .isNot (.var 8 (pq 260 47 53)) (pq 260 15 53)) (.cons (.ret (.lst .nil (pq 261 23 25)) (pq 261 16 25))
  .nil) .nil ⟨260,12,261,25⟩)
  (.cons (.iff (.var 8 (pq 262 15 21)) (.cons (.iff (.cmp (.fn 12 (.cons (.bin (.var 6 (pq 263 38 42)) .add (.cs [40] (pq 263 45 48)) (pq 263 38 48)) .nil) (pq 263 19 37) (pq 263 19 49)) .isNot (.cb false (pq 263 57 62)) (pq 263 19 62)) (.cons (.ret (.lst .nil (pq 264 27 29)) (pq 264 20 29))
  .nil) .nil ⟨263,16,264,29⟩)
  (.cons (.xp (.me (.var 3 (pq 265 16 20)) .append (.cons (.bin (.bin (.ci 2 (pq 265 28 29)) .pow (.var 5 (pq 265 33 36)) (pq 265 28 36)) .add (.bin (.ci 2 (pq 265 39 40)) .pow (.var 4 (pq 265 44 47)) (pq 265 39 47)) (pq 265 28 47)) .nil) (pq 265 16 27) (pq 265 16 48)) (pq 265 16 48))
  .nil)) .nil ⟨262,12,265,48⟩)
  .nil))))))) .nil (pq 252 12 15) ⟨252,8,265,48⟩)
  .nil)) .nil (pq 251 8 11) ⟨251,4,265,48⟩)
  (.cons (.ret (.var 3 (pq 266 11 15)) (pq 266 4 15))
  .nil)))
noncomputable def nsFlawword:Names:=[("number",.local),("places",.local),("ones",.cell),("_law_ones",.globalImplicit),("range",.globalImplicit)]
noncomputable def bFlawword:Ss:=
 (.cons (.asg 2 (.fn 3 (.cons (.var 0 (pq 268 21 27)) .nil) (pq 268 11 20) (pq 268 11 28)) (pq 268 4 8) (pq 268 4 28))
  (.cons (.ret (.me (.cs [] (pq 269 11 13)) .join (.cons (.comp (.ite (.cmp (.var 1 (pq 269 38 43)) .inn (.var 2 (pq 269 47 51)) (pq 269 38 51)) (.sub (.cs [65,66,67,68,69] (pq 269 20 27)) (.var 1 (pq 269 28 33)) (pq 269 20 34)) (.sub (.cs [97,98,99,100,101] (pq 269 57 64)) (.var 1 (pq 269 65 70)) (pq 269 57 71)) (pq 269 20 71)) 1 (.bi .range (.cons (.var 1 (pq 269 91 97)) .nil) (pq 269 85 90) (pq 269 85 90) (pq 269 85 90) (pq 269 85 98)) .no [(".0",.local),("place",.local),("ones",.free)] [none,none,some 2] (pq 269 76 81) (pq 269 19 99)) .nil) (pq 269 11 18) (pq 269 11 100)) (pq 269 4 100))
  .nil))
noncomputable def nsFlawtied:Names:=[("rows",.local),("names",.local),("places",.local),("more",.local),("ties",.local),("one",.local),("two",.local),("due",.local),("_levenshtein_distance",.globalImplicit),("_law_word",.globalImplicit),("_law_sized",.globalImplicit),("_law_octets",.globalImplicit)]
noncomputable def bFlawtied:Ss:=
 (.cons (.forS 5 (.var 0 (pq 271 15 19)) (.cons (.forS 6 (.var 0 (pq 272 19 23)) (.cons (.iff (.cmp (.var 5 (pq 273 15 18)) .lt (.var 6 (pq 273 21 24)) (pq 273 15 24)) (.cons (.asg 7 (.ite (.cmp (.bin (.var 5 (pq 274 27 30)) .band (.var 6 (pq 274 33 36)) (pq 274 27 36)) .ne (.ci 0 (pq 274 40 41)) (pq 274 27 41)) (.ci 2 (pq 274 22 23)) (.ci 3 (pq 274 47 48)) (pq 274 22 48)) (pq 274 16 19) (pq 274 16 48))
  (.cons (.iff (.cmp (.fn 14 (.cons (.fn 7 (.cons (.var 5 (pq 275 51 54)) (.cons (.var 2 (pq 275 56 62)) .nil)) (pq 275 41 50) (pq 275 41 63)) (.cons (.fn 7 (.cons (.var 6 (pq 275 75 78)) (.cons (.var 2 (pq 275 80 86)) .nil)) (pq 275 65 74) (pq 275 65 87)) (.cons (.ci 2 (pq 275 89 90)) .nil))) (pq 275 19 40) (pq 275 19 91)) .ne (.var 7 (pq 275 95 98)) (pq 275 19 98)) (.cons (.ret (.cb false (pq 276 27 32)) (pq 276 20 32))
  .nil) .nil ⟨275,16,276,32⟩)
  (.cons (.iff (.cmp (.var 7 (pq 277 19 22)) .eq (.ci 2 (pq 277 26 27)) (pq 277 19 27)) (.cons (.xp (.hm (.var 4 (pq 278 20 24)) 0 (.cons (.fn 4 (.cons (.sub (.var 1 (pq 278 47 52)) (.var 5 (pq 278 53 56)) (pq 278 47 57)) (.cons (.ci 0 (pq 278 59 60)) .nil)) (pq 278 36 46) (pq 278 36 61)) (.cons (.fn 5 (.cons (.bin (.bin (.ci 64 (pq 278 75 77)) .mul (.var 3 (pq 278 80 84)) (pq 278 75 84)) .add (.var 6 (pq 278 87 90)) (pq 278 75 90)) .nil) (pq 278 63 74) (pq 278 63 91)) .nil)) .nil (pq 278 20 35) (pq 278 20 92) (pq 278 20 92)) (pq 278 20 92))
  (.cons (.iff (.cmp (.hm (.var 4 (pq 279 23 27)) 0 (.cons (.fn 4 (.cons (.sub (.var 1 (pq 279 50 55)) (.var 6 (pq 279 56 59)) (pq 279 50 60)) (.cons (.ci 1 (pq 279 62 63)) .nil)) (pq 279 39 49) (pq 279 39 64)) (.cons (.fn 5 (.cons (.bin (.bin (.ci 64 (pq 279 78 80)) .mul (.var 3 (pq 279 83 87)) (pq 279 78 87)) .add (.var 5 (pq 279 90 93)) (pq 279 78 93)) .nil) (pq 279 66 77) (pq 279 66 94)) .nil)) .nil (pq 279 23 38) (pq 279 23 95) (pq 279 23 95)) .isNot (.cn (pq 279 103 107)) (pq 279 23 107)) (.cons (.ret (.cb false (pq 280 31 36)) (pq 280 24 36))
  .nil) .nil ⟨279,20,280,36⟩)
  .nil)) .nil ⟨277,16,280,36⟩)
  .nil))) .nil ⟨273,12,280,36⟩)
  .nil) .nil (pq 272 12 15) ⟨272,8,280,36⟩)
  .nil) .nil (pq 271 8 11) ⟨271,4,280,36⟩)
  (.cons (.ret (.cb true (pq 281 11 15)) (pq 281 4 15))
  .nil))
noncomputable def nsFlawway:Names:=[("number",.cell),("names",.local),("low",.local),("order",.cell),("more",.cell),("picks",.local),("ties",.local),("seen",.local),("path",.local),("turn",.local),("told",.local),("other",.local),("tape",.local),("least",.local),("found",.local),("k",.local),("words",.local),("later",.local),("len",.globalImplicit),("_law_sized",.globalImplicit),("iter",.globalImplicit),("range",.globalImplicit),("_parse_varint",.globalImplicit),("pretty_flags",.globalImplicit),("max",.globalImplicit)]
noncomputable def bFlawway:Ss:=
 (.cons (.asg 8 (.lst .nil (pq 283 11 13)) (pq 283 4 8) (pq 283 4 13))
  (.cons (.whl (.bop true (.cons (.cmp (.var 0 (pq 284 10 16)) .ge (.ci 0 (pq 284 20 21)) (pq 284 10 21)) (.cons (.cmp (.bi .len (.cons (.var 8 (pq 284 30 34)) .nil) (pq 284 26 29) (pq 284 26 29) (pq 284 26 29) (pq 284 26 35)) .le (.bi .len (.cons (.var 1 (pq 284 43 48)) .nil) (pq 284 39 42) (pq 284 39 42) (pq 284 39 42) (pq 284 39 49)) (pq 284 26 49)) .nil)) (pq 284 10 49)) ((.cons (.asg 9 (.bi .len (.cons (.var 8 (pq 285 19 23)) .nil) (pq 285 15 18) (pq 285 15 18) (pq 285 15 18) (pq 285 15 24)) (pq 285 8 12) (pq 285 8 24))
  (.cons (.xp (.hm (.var 7 (pq 286 8 12)) 0 (.cons (.fn 4 (.cons (.sub (.var 1 (pq 286 35 40)) (.var 0 (pq 286 41 47)) (pq 286 35 48)) (.cons (.var 9 (pq 286 50 54)) .nil)) (pq 286 24 34) (pq 286 24 55)) (.cons (.cs [] (pq 286 57 59)) .nil)) .nil (pq 286 8 23) (pq 286 8 60) (pq 286 8 60)) (pq 286 8 60))
  (.cons (.xp (.me (.var 8 (pq 287 8 12)) .append (.cons (.var 0 (pq 287 20 26)) .nil) (pq 287 8 19) (pq 287 8 27)) (pq 287 8 27))
  (.cons (.asg 10 (.hm (.var 6 (pq 288 15 19)) 1 (.cons (.fn 4 (.cons (.sub (.var 1 (pq 288 39 44)) (.var 0 (pq 288 45 51)) (pq 288 39 52)) (.cons (.bin (.var 9 (pq 288 54 58)) .add (.ci 1 (pq 288 61 62)) (pq 288 54 62)) .nil)) (pq 288 28 38) (pq 288 28 63)) .nil) .nil (pq 288 15 27) (pq 288 15 64) (pq 288 15 64)) (pq 288 8 12) (pq 288 8 64))
  (.cons (.iff (.cmp (.var 10 (pq 289 11 15)) .ne (.comp (.fn 5 (.cons (.bin (.bin (.ci 64 (pq 289 32 34)) .mul (.var 3 (pq 289 37 41)) (pq 289 32 41)) .add (.var 1 (pq 289 44 49)) (pq 289 32 49)) .nil) (pq 289 20 31) (pq 289 20 50)) 1 (.var 1 (pq 289 64 69)) (.bop true (.cons (.cmp (.var 4 (pq 289 73 79)) .ne (.var 1 (pq 289 83 88)) (pq 289 73 88)) (.cons (.cmp (.bin (.var 4 (pq 289 93 99)) .band (.var 1 (pq 289 102 107)) (pq 289 93 107)) .ne (.ci 0 (pq 289 111 112)) (pq 289 93 112)) .nil)) (pq 289 73 112)) [(".0",.local),("other",.local),("_law_octets",.globalImplicit),("more",.free),("number",.free)] [none,none,none,some 4,some 0] (pq 289 55 60) (pq 289 19 113)) (pq 289 11 113)) (.cons (.ret (.lst .nil (pq 290 19 21)) (pq 290 12 21))
  .nil) .nil ⟨289,8,290,21⟩)
  (.cons (.asg 12 (.bi .iter (.cons (.comp2 (.bin (.bi .ord (.cons (.var 2 (pq 291 25 29)) .nil) (pq 291 21 24) (pq 291 21 24) (pq 291 21 24) (pq 291 21 30)) .sub (.bin (.ci 128 (pq 291 33 36)) .mul (.bin (.bi .ord (.cons (.var 2 (pq 291 44 48)) .nil) (pq 291 40 43) (pq 291 40 43) (pq 291 40 43) (pq 291 40 49)) .fmod (.ci 2 (pq 291 52 53)) (pq 291 40 53)) (pq 291 33 54)) (pq 291 21 54)) 1 (.var 10 (pq 291 68 72)) 2 (.var 1 (pq 291 85 90)) [(".0",.local),("signs",.local),("sign",.local),("ord",.globalImplicit)] [none,none,none,none] (pq 291 59 64) (pq 291 77 81) (pq 291 20 91)) .nil) (pq 291 15 19) (pq 291 15 19) (pq 291 15 19) (pq 291 15 92)) (pq 291 8 12) (pq 291 8 92))
  (.cons (.asg 13 (.bi .len (.cons (.var 3 (pq 292 20 25)) .nil) (pq 292 16 19) (pq 292 16 19) (pq 292 16 19) (pq 292 16 26)) (pq 292 8 13) (pq 292 8 26))
  (.cons (.asg 14 (.lst .nil (pq 293 16 18)) (pq 293 8 13) (pq 293 8 18))
  (.cons (.forS 15 (.bi .range (.cons (.bi .len (.cons (.var 10 (pq 294 27 31)) .nil) (pq 294 23 26) (pq 294 23 26) (pq 294 23 26) (pq 294 23 32)) .nil) (pq 294 17 22) (pq 294 17 22) (pq 294 17 22) (pq 294 17 33)) ((.cons (.asg 11 (.bin (.fn 11 (.cons (.var 12 (pq 295 34 38)) .nil) (pq 295 20 33) (pq 295 20 39)) .sub (.bin (.ci 64 (pq 295 42 44)) .mul (.var 4 (pq 295 47 51)) (pq 295 42 51)) (pq 295 20 51)) (pq 295 12 17) (pq 295 12 51))
  (.cons (.iff (.hin true (.fn 4 (.cons (.sub (.var 1 (pq 296 26 31)) (.var 11 (pq 296 32 37)) (pq 296 26 38)) (.cons (.var 9 (pq 296 40 44)) .nil)) (pq 296 15 25) (pq 296 15 45)) (.var 7 (pq 296 53 57)) (pq 296 15 57)) (.cons (.asg 16 (.me (.fn 10 (.cons (.bin (.bin (.var 0 (pq 297 38 44)) .bxor (.var 11 (pq 297 47 52)) (pq 297 38 52)) .mul (.bin (.ci 2 (pq 297 56 57)) .pow (.var 2 (pq 297 61 64)) (pq 297 56 64)) (pq 297 37 64)) .nil) (pq 297 24 36) (pq 297 24 65)) .split (.cons (.cs [44,32] (pq 297 72 76)) .nil) (pq 297 24 71) (pq 297 24 77)) (pq 297 16 21) (pq 297 16 77))
  (.cons (.asg 17 (.bi .max (.cons (.comp (.me (.var 2 (pq 298 29 34)) .index (.cons (.var 1 (pq 298 41 45)) .nil) (pq 298 29 40) (pq 298 29 46)) 1 (.var 16 (pq 298 59 64)) .no [(".0",.local),("word",.local),("order",.free)] [none,none,some 3] (pq 298 51 55) (pq 298 28 65)) .nil) (pq 298 24 27) (pq 298 24 27) (pq 298 24 27) (pq 298 24 66)) (pq 298 16 21) (pq 298 16 66))
  (.cons (.iff (.cmp (.var 17 (pq 299 19 24)) .lt (.var 13 (pq 299 27 32)) (pq 299 19 32)) (.cons (.asg 13 (.var 17 (pq 300 28 33)) (pq 300 20 25) (pq 300 20 33))
  (.cons (.asg 14 (.lst .nil (pq 301 28 30)) (pq 301 20 25) (pq 301 20 30))
  .nil)) .nil ⟨299,16,301,30⟩)
  (.cons (.iff (.cmp (.var 17 (pq 302 19 24)) .eq (.var 13 (pq 302 28 33)) (pq 302 19 33)) (.cons (.xp (.me (.var 14 (pq 303 20 25)) .append (.cons (.var 11 (pq 303 33 38)) .nil) (pq 303 20 32) (pq 303 20 39)) (pq 303 20 39))
  .nil) .nil ⟨302,16,303,39⟩)
  .nil)))) .nil ⟨296,12,303,39⟩)
  .nil))) .nil (pq 294 12 13) ⟨294,8,303,39⟩)
  (.cons (.asg 0 (.neg 1 (pq 304 18 19) (pq 304 17 19)) (pq 304 8 14) (pq 304 8 19))
  (.cons (.iff (.cmp (.var 14 (pq 305 11 16)) .ne (.lst .nil (pq 305 20 22)) (pq 305 11 22)) (.cons (.asg 0 (.sub (.var 14 (pq 306 21 26)) (.bin (.var 5 (pq 306 27 32)) .fmod (.bi .len (.cons (.var 14 (pq 306 39 44)) .nil) (pq 306 35 38) (pq 306 35 38) (pq 306 35 38) (pq 306 35 45)) (pq 306 27 45)) (pq 306 21 46)) (pq 306 12 18) (pq 306 12 46))
  (.cons (.asg 5 (.bin (.var 5 (pq 307 20 25)) .fdiv (.bi .len (.cons (.var 14 (pq 307 33 38)) .nil) (pq 307 29 32) (pq 307 29 32) (pq 307 29 32) (pq 307 29 39)) (pq 307 20 39)) (pq 307 12 17) (pq 307 12 39))
  .nil)) .nil ⟨305,8,307,39⟩)
  .nil)))))))))))) ⟨284,4,307,39⟩)
  (.cons (.ret (.var 8 (pq 308 11 15)) (pq 308 4 15))
  .nil)))
noncomputable def nsFlaw:Names:=[("script",.local),("cells",.local),("places",.local),("ahead",.local),("low",.cell),("words",.cell),("rows",.local),("names",.local),("first",.local),("more",.local),("above",.local),("due",.cell),("word",.local),("ties",.local),("seen",.local),("path",.local),("_law_cells",.globalImplicit),("_law_words",.globalImplicit),("_law_rows",.globalImplicit),("len",.globalImplicit),("hex",.globalImplicit),("_law_ones",.globalImplicit),("pretty_flags",.globalImplicit),("_law_word",.globalImplicit),("_levenshtein_distance",.globalImplicit),("Headers",.globalImplicit),("_law_tied",.globalImplicit),("_law_way",.globalImplicit),("_law_order",.globalImplicit),("sorted",.globalImplicit),("range",.globalImplicit)]
noncomputable def bFlaw:Ss:=
 (.cons (.asg 1 (.fn 0 (.cons (.var 0 (pq 310 23 29)) .nil) (pq 310 12 22) (pq 310 12 30)) (pq 310 4 9) (pq 310 4 30))
  (.cons (.asgT 2 3 (.sub (.lst (.cons (.tup (.ci 5 (pq 311 22 23)) (.ci 1 (pq 311 25 26)) (pq 311 21 27)) (.cons (.tup (.ci 4 (pq 311 30 31)) (.ci 1 (pq 311 33 34)) (pq 311 29 35)) (.cons (.tup (.ci 4 (pq 311 38 39)) (.ci 2 (pq 311 41 42)) (pq 311 37 43)) .nil))) (pq 311 20 44)) (.bin (.sub (.var 1 (pq 311 45 50)) (.ci 0 (pq 311 51 52)) (pq 311 45 53)) .fmod (.ci 3 (pq 311 56 57)) (pq 311 45 57)) (pq 311 20 58)) (pq 311 4 10) (pq 311 12 17) (pq 311 4 17) (pq 311 4 58))
  (.cons (.asg 4 (.bin (.bin (.sub (.var 1 (pq 312 10 15)) (.ci 0 (pq 312 16 17)) (pq 312 10 18)) .fdiv (.ci 3 (pq 312 22 23)) (pq 312 10 23)) .fmod (.ci 28 (pq 312 26 28)) (pq 312 10 28)) (pq 312 4 7) (pq 312 4 28))
  (.cons (.asg 5 (.fn 1 (.cons (.var 2 (pq 313 23 29)) (.cons (.var 4 (pq 313 31 34)) .nil)) (pq 313 12 22) (pq 313 12 35)) (pq 313 4 9) (pq 313 4 35))
  (.cons (.asg 6 (.fn 6 (.cons (.var 2 (pq 314 21 27)) (.cons (.var 3 (pq 314 29 34)) (.cons (.sub (.var 1 (pq 314 36 41)) (.ci 4 (pq 314 42 43)) (pq 314 36 44)) .nil))) (pq 314 11 20) (pq 314 11 45)) (pq 314 4 8) (pq 314 4 45))
  (.cons (.iff (.cmp (.var 6 (pq 315 7 11)) .eq (.lst .nil (pq 315 15 17)) (pq 315 7 17)) (.cons (.ret (.cb false (pq 316 15 20)) (pq 316 8 20))
  .nil) .nil ⟨315,4,316,20⟩)
  (.cons (.asg 7 (.dcomp (.var 1 (pq 317 13 19)) (.fn 10 (.cons (.bin (.var 1 (pq 317 34 40)) .mul (.bin (.ci 2 (pq 317 43 44)) .pow (.var 3 (pq 317 48 51)) (pq 317 43 51)) (pq 317 34 51)) .nil) (pq 317 21 33) (pq 317 21 52)) 1 (.var 6 (pq 317 67 71)) [(".0",.local),("number",.local),("pretty_flags",.globalImplicit),("low",.free)] [none,none,none,some 4] (pq 317 57 63) (pq 317 12 72)) (pq 317 4 9) (pq 317 4 72))
  (.cons (.asg 8 (.sub (.var 6 (pq 318 12 16)) (.bin (.sub (.var 1 (pq 318 17 22)) (.ci 2 (pq 318 23 24)) (pq 318 17 25)) .fmod (.bi .len (.cons (.var 6 (pq 318 32 36)) .nil) (pq 318 28 31) (pq 318 28 31) (pq 318 28 31) (pq 318 28 37)) (pq 318 17 37)) (pq 318 12 38)) (pq 318 4 9) (pq 318 4 38))
  (.cons (.asg 9 (.bin (.bin (.sub (.var 1 (pq 319 11 16)) (.ci 3 (pq 319 17 18)) (pq 319 11 19)) .fdiv (.ci 7 (pq 319 23 24)) (pq 319 11 24)) .fmod (.bin (.ci 2 (pq 319 27 28)) .pow (.ci 24 (pq 319 32 34)) (pq 319 27 34)) (pq 319 11 34)) (pq 319 4 8) (pq 319 4 34))
  (.cons (.asg 10 (.ite (.cmp (.var 9 (pq 320 40 44)) .gt (.ci 0 (pq 320 47 48)) (pq 320 40 48)) (.lst (.cons (.bin (.bi .hex (.cons (.var 9 (pq 320 17 21)) .nil) (pq 320 13 16) (pq 320 13 16) (pq 320 13 16) (pq 320 13 22)) .add (.cs [48,48,48,48,48,48,48,48] (pq 320 25 35)) (pq 320 13 35)) .nil) (pq 320 12 36)) (.lst .nil (pq 320 54 56)) (pq 320 12 56)) (pq 320 4 9) (pq 320 4 56))
  (.cons (.asg 11 (.bin (.bin (.comp (.sub (.var 2 (pq 321 11 16)) (.var 1 (pq 321 17 22)) (pq 321 11 23)) 1 (.fn 3 (.cons (.var 8 (pq 321 47 52)) .nil) (pq 321 37 46) (pq 321 37 53)) .no [(".0",.local),("place",.local),("words",.free)] [none,none,some 5] (pq 321 28 33) (pq 321 10 54)) .add (.lst (.cons (.cs [48,120,56,48,48,48,48,48,48,48] (pq 321 58 70)) .nil) (pq 321 57 71)) (pq 321 10 71)) .add (.var 10 (pq 321 74 79)) (pq 321 10 79)) (pq 321 4 7) (pq 321 4 79))
  (.cons (.iff (.cmp (.fn 10 (.cons (.bin (.bin (.var 8 (pq 322 20 25)) .mul (.bin (.ci 2 (pq 322 28 29)) .pow (.var 4 (pq 322 33 36)) (pq 322 28 36)) (pq 322 20 36)) .add (.bin (.bin (.bin (.ci 2 (pq 322 40 41)) .mul (.var 9 (pq 322 44 48)) (pq 322 40 48)) .add (.ci 1 (pq 322 51 52)) (pq 322 40 52)) .mul (.bin (.ci 2 (pq 322 56 57)) .pow (.ci 31 (pq 322 61 63)) (pq 322 56 63)) (pq 322 39 63)) (pq 322 20 63)) .nil) (pq 322 7 19) (pq 322 7 64)) .ne (.me (.cs [44,32] (pq 322 68 72)) .join (.cons (.var 11 (pq 322 78 81)) .nil) (pq 322 68 77) (pq 322 68 82)) (pq 322 7 82)) (.cons (.ret (.cb false (pq 323 15 20)) (pq 323 8 20))
  .nil) .nil ⟨322,4,323,20⟩)
  (.cons (.asg 12 (.bin (.cs [122] (pq 324 11 14)) .add (.fn 7 (.cons (.var 8 (pq 324 27 32)) (.cons (.var 2 (pq 324 34 40)) .nil)) (pq 324 17 26) (pq 324 17 41)) (pq 324 11 41)) (pq 324 4 8) (pq 324 4 41))
  (.cons (.iff (.cmp (.fn 14 (.cons (.var 12 (pq 325 29 33)) (.cons (.fn 7 (.cons (.bin (.ci 31 (pq 325 45 47)) .sub (.var 8 (pq 325 50 55)) (pq 325 45 55)) (.cons (.var 2 (pq 325 57 63)) .nil)) (pq 325 35 44) (pq 325 35 64)) (.cons (.bin (.bin (.var 2 (pq 325 66 72)) .add (.ci 1 (pq 325 75 76)) (pq 325 66 76)) .add (.bin (.sub (.var 1 (pq 325 79 84)) (.ci 4 (pq 325 85 86)) (pq 325 79 87)) .fmod (.ci 3 (pq 325 90 91)) (pq 325 79 91)) (pq 325 66 91)) .nil))) (pq 325 7 28) (pq 325 7 92)) .ne (.bin (.var 2 (pq 325 96 102)) .add (.ci 2 (pq 325 105 106)) (pq 325 96 106)) (pq 325 7 106)) (.cons (.ret (.cb false (pq 326 15 20)) (pq 326 8 20))
  .nil) .nil ⟨325,4,326,20⟩)
  (.cons (.asg 13 (.newH (.lst .nil (pq 327 19 21)) (pq 327 11 18) (pq 327 11 22)) (pq 327 4 8) (pq 327 4 22))
  (.cons (.iff (.not (.fn 8 (.cons (.var 6 (pq 328 21 25)) (.cons (.var 7 (pq 328 27 32)) (.cons (.var 2 (pq 328 34 40)) (.cons (.var 9 (pq 328 42 46)) (.cons (.var 13 (pq 328 48 52)) .nil))))) (pq 328 11 20) (pq 328 11 53)) (pq 328 7 53)) (.cons (.ret (.cb false (pq 329 15 20)) (pq 329 8 20))
  .nil) .nil ⟨328,4,329,20⟩)
  (.cons (.asg 14 (.newH (.lst .nil (pq 330 19 21)) (pq 330 11 18) (pq 330 11 22)) (pq 330 4 8) (pq 330 4 22))
  (.cons (.asg 15 (.fn 9 (.cons (.var 8 (pq 331 20 25)) (.cons (.var 7 (pq 331 27 32)) (.cons (.var 4 (pq 331 34 37)) (.cons (.fn 2 (.cons (.var 5 (pq 331 50 55)) (.cons (.sub (.var 1 (pq 331 57 62)) (.ci 1 (pq 331 63 64)) (pq 331 57 65)) .nil)) (pq 331 39 49) (pq 331 39 66)) (.cons (.var 9 (pq 331 68 72)) (.cons (.sub (.var 1 (pq 331 74 79)) (.ci 3 (pq 331 80 81)) (pq 331 74 82)) (.cons (.var 13 (pq 331 84 88)) (.cons (.var 14 (pq 331 90 94)) .nil)))))))) (pq 331 11 19) (pq 331 11 95)) (pq 331 4 8) (pq 331 4 95))
  (.cons (.asg 11 (.comp (.me (.cs [44,32] (pq 332 11 15)) .join (.cons (.comp (.sub (.var 2 (pq 332 22 27)) (.var 1 (pq 332 28 33)) (pq 332 22 34)) 1 (.fn 3 (.cons (.var 1 (pq 332 58 64)) .nil) (pq 332 48 57) (pq 332 48 65)) .no [(".0",.local),("place",.local),("words",.free)] [none,none,some 3] (pq 332 39 44) (pq 332 21 66)) .nil) (pq 332 11 20) (pq 332 11 67)) 1 (.var 15 (pq 332 82 86)) .no [(".0",.local),("number",.local),("_law_ones",.globalImplicit),("words",.free)] [none,none,none,some 5] (pq 332 72 78) (pq 332 10 87)) (pq 332 4 7) (pq 332 4 87))
  (.cons (.ret (.bop true (.cons (.cmp (.bi .sorted (.cons (.var 15 (pq 333 18 22)) .nil) (pq 333 11 17) (pq 333 11 17) (pq 333 11 17) (pq 333 11 23)) .eq (.var 6 (pq 333 27 31)) (pq 333 11 31)) (.cons (.cmp (.hm (.var 14 (pq 333 36 40)) 2 .nil .nil (pq 333 36 46) (pq 333 36 48) (pq 333 36 48)) .eq (.comp (.tup (.fn 4 (.cons (.sub (.var 3 (pq 333 65 68)) (.var 1 (pq 333 69 73)) (pq 333 65 74)) (.cons (.var 1 (pq 333 76 80)) .nil)) (pq 333 54 64) (pq 333 54 81)) (.cs [] (pq 333 83 85)) (pq 333 53 86)) 1 (.bi .range (.cons (.bi .len (.cons (.var 11 (pq 333 109 112)) .nil) (pq 333 105 108) (pq 333 105 108) (pq 333 105 108) (pq 333 105 113)) .nil) (pq 333 99 104) (pq 333 99 104) (pq 333 99 104) (pq 333 99 114)) .no [(".0",.local),("turn",.local),("_law_sized",.globalImplicit),("due",.free)] [none,none,none,some 11] (pq 333 91 95) (pq 333 52 115)) (pq 333 36 115)) .nil)) (pq 333 11 115)) (pq 333 4 115))
  .nil))))))))))))))))))))
end
end Mine
end
section
open PySem
namespace Mine
section
noncomputable def bodies:List (Nat × Names × Ss):=[(0,nsFlawcells,bFlawcells),(1,nsFlawwords,bFlawwords),(2,nsFlaworder,bFlaworder),(3,nsFlawones,bFlawones),(4,nsFlawsized,bFlawsized),(5,nsFlawoctets,bFlawoctets),(6,nsFlawrows,bFlawrows),(7,nsFlawword,bFlawword),(8,nsFlawtied,bFlawtied),(9,nsFlawway,bFlawway),(10,nsFprettyflags,bFprettyflags),(11,nsFparsevarint,bFparsevarint),(12,nsFcheckparenthesis,bFcheckparenthesis),(13,nsFstripquotedrealnames,bFstripquotedrealnames),(14,nsFlevenshteindistance,bFlevenshteindistance),(15,nsFsubstitutioncost,bFsubstitutioncost),(16,nsFlaw,bFlaw),(100,nsHaddheader,bHaddheader),(101,nsHgetall,bHgetall),(102,nsHitems,bHitems),(103,nsHget,bHget),(104,nsHconvertstringtype,bHconvertstringtype),(105,nsHcontains,bHcontains)]
noncomputable def bodyF (f:Nat):Option (Names × Ss):=bodies.lookup f
noncomputable def arities:List (Nat × Nat):=[(0,1),(1,2),(2,2),(3,1),(4,2),(5,1),(6,3),(7,2),(8,5),(9,8),(10,1),(11,1),(12,1),(13,1),(14,3),(15,2),(16,1),(100,3),(101,2),(102,1),(103,2),(104,3),(105,2)]
noncomputable def arity (f:Nat):Nat:=(arities.lookup f).getD 0
noncomputable def moreOf (f:Nat):List MV:=if f=100 then [.edict] else if f=103 then [.fv .none] else []
noncomputable def varsF (f:Nat) (ns:Names) (vs:List MV):Option (List MV):=
 let n:=arity f
 let more:=moreOf f
 if vs.length=n&&vs.all MV.plain then some (vs++more++List.replicate (ns.length-n-more.length) .unb) else none
noncomputable def tblN:Nat→Tbl
 |0=>fun _ _ _=>none
 |n+1=>fun f vs objs=>match bodyF f with
  |some (ns,b)=>match varsF f ns vs with
   |some vars=>runBody (tblN n) b vars objs
   |none=>none
  |none=>none
noncomputable def law (script:List Int):Option (MV × List MO):=tblN 10 16 [.ref 0] [.fz (script.map .int)]
end
end Mine
end
section
open PySem PySem.W PyProof.Rows
namespace Mine
section
set_option genInjectivity false in
set_option genSizeOf false in
structure W0 where
 prog:Program
 w:World
 h0:Heap
 mg:Str→Option Value
 mb:Str→Option Value
 gl:Nat→Value
 cls:Addr
 fnA:Nat→Addr
 hkey:Int
 g:h0.Ns mainGlobals mg
 b:h0.Ns builtinsNs mb
 lim:h0.NoLimit
 fzo:Obj
noncomputable def FRel (h:Heap):FV→Value→Prop
 |.none,v=>v=.none
 |.bool b,v=>v=.bool b
 |.int i,v=>∃t,v=.int i t
 |.str s,v=>∃t,v=.str ⟨s.toArray⟩ t
 |.pair x y,v=>∃a u w n,v=.ref a∧h.get? a=some {cls:=.type "tuple",data:=.seq #[u,w] n}∧FRel h x u∧FRel h y w
inductive All2 {α β:Type} (R:α→β→Prop):List α→List β→Prop
 |nil:All2 R [] []
 |cons {a b l m}:R a b→All2 R l m→All2 R (a::l) (b::m)
noncomputable def Imm (o:Obj):Prop:=(o.cls=.type "tuple" ∧∃xs n,o.data=.seq xs n)∨(o.cls=.type "range" ∧∃vs,o.data=.fields vs)
noncomputable def Hard (o:Obj):Prop:=(∃c,o.cls=.ref c)∨o.cls=.type "dict"
noncomputable def KeepImm (h h':Heap):Prop:=∀a o,h.get? a=some o→Imm o→h'.get? a=some o
theorem FRel.keep {h h':Heap} (k:KeepImm h h') {x:FV}:∀{v:Value},FRel h x v→FRel h' x v:=by
 induction x with
 |pair x y ix iy=>intro v r;obtain ⟨a,u,w,n,e,g,r1,r2⟩:=r;exact ⟨a,u,w,n,e,k _ _ g (.inl ⟨rfl,_,_,rfl⟩),ix r1,iy r2⟩
 |_=>exact id
section
variable {α β:Type} {R R':α→β→Prop} {l l':List α} {m m':List β}
theorem All2.imp (f:∀a b,R a b→R' a b) (h:All2 R l m):All2 R' l m:=by
 induction h with
 |nil=>exact .nil
 |cons p _ ih=>exact .cons (f _ _ p) ih
theorem All2.len (h:All2 R l m):l.length=m.length:=by
 induction h with
 |nil=>rfl
 |cons _ _ ih=>exact congrArg (· +1) ih
theorem All2.at (h:All2 R l m):∀i:Nat,(l[i]?=none∧m[i]?=none)∨∃a b,l[i]?=some a∧m[i]?=some b∧R a b:=by
 induction h with
 |nil=>exact fun _=>.inl ⟨rfl,rfl⟩
 |cons p _ ih=>exact fun i=>by cases i with|zero=>exact .inr ⟨_,_,rfl,rfl,p⟩|succ i=>exact ih i
theorem All2.get (h:All2 R l m) {i:Nat} {a:α} (e:l[i]?=some a):∃b,m[i]?=some b∧R a b:=
 (h.at i).elim (fun q=>nomatch q.1.symm.trans e) fun ⟨_,b,e1,e2,r⟩=>⟨b,e2,Option.some.inj (e1.symm.trans e)▸r⟩
theorem All2.get2 (h:All2 R l m) {i:Nat} {b:β} (e:m[i]?=some b):∃a,l[i]?=some a∧R a b:=
 (h.at i).elim (fun q=>nomatch q.2.symm.trans e) fun ⟨a,_,e1,e2,r⟩=>⟨a,e1,Option.some.inj (e2.symm.trans e)▸r⟩
theorem All2.append (h:All2 R l m) (k:All2 R l' m'):All2 R (l++l') (m++m'):=by
 induction h with
 |nil=>exact k
 |cons p _ ih=>exact .cons p ih
theorem All2.take (n:Nat) (h:All2 R l m):All2 R (l.take n) (m.take n):=by
 induction h generalizing n with
 |nil=>cases n<;>exact .nil
 |cons p _ ih=>cases n with|zero=>exact .nil|succ n=>exact .cons p (ih n)
theorem All2.drop (n:Nat) (h:All2 R l m):All2 R (l.drop n) (m.drop n):=by
 induction h generalizing n with
 |nil=>cases n<;>exact .nil
 |cons p r ih=>cases n with|zero=>exact .cons p r|succ n=>exact ih n
theorem All2.set (i:Nat) {a:α} {b:β} (h:All2 R l m) (k:R a b):All2 R (l.set i a) (m.set i b):=by
 induction h generalizing i with
 |nil=>exact .nil
 |cons p r ih=>cases i with|zero=>exact .cons k r|succ i=>exact .cons p (ih i)
end
section
variable (W:W0)
noncomputable def VRel (ρ:List Addr) (h:Heap):MV→Value→Prop
 |.fv x,v=>FRel h x v
 |.ref i,v=>∃a,ρ[i]?=some a∧v=.ref a
 |.rng a b c,v=>∃r t u w,v=.ref r∧IsRange h r a b c t u w
 |.edict,v=>∃d n,v=.ref d∧d∉ρ∧h.get? d=some {cls:=.type "dict",data:=.dict #[] n}
 |.gl g,v=>v=W.gl g
 |.unb,v=>v=.none
noncomputable def ObjIs (ρ:List Addr) (h:Heap) (a:Addr):MO→Prop
 |.list xs=>∃vs n,h.get? a=some {cls:=.type "list",data:=.seq vs n}∧All2 (FRel h) xs vs.toList
 |.dict es=>∃(o:Obj) (kvs:List (Int × Value)),h.get? a=some o∧o.IsDictOf (intKind W.prog W.w) kvs∧All2 (fun (p:Int × FV) (q:Int × Value)=>p.1=q.1∧FRel h p.2 q.2) es kvs
 |.hdr k=>∃dx la t n,h.get? a=some (instObj W.cls dx)∧h.get? dx=some (dictOf [⟨W.hkey,.str "_headers" t,.ref la⟩] n)∧ρ[k]?=some la∧dx∉ρ
 |.lit k i=>∃la,ρ[k]?=some la∧h.IsListIter a la i
 |.fz xs=>h.get? a=some W.fzo∧∃vs n,W.fzo={cls:=.type "list",data:=.seq vs n}∧All2 (FRel h) xs vs.toList
end
structure Step (P:List Addr) (s s':Shared):Prop where
 keep:∀(a:Addr) (o:Obj),s.heap.get? a=some o→a∉P→s'.heap.get? a=some o
 inst:∀(a:Addr) (o:Obj),s.heap.get? a=some o→Hard o→s'.heap.get? a=some o
 os:s'.os=s.os
 gens:∀(g:Nat) (st:GenState),s.gens[g]?=some st→s'.gens[g]?=some st
 bare:AllBare s.gens→AllBare s'.gens
theorem dead {h:Heap} {a:Addr} {o:Obj} (e:h.get? a=some o) (n:h.get? a=none):False:=by rw [e] at n;cases n
theorem noneOf {α:Type} {x:Option α} (k:∀o,x=some o→False):x=none:=by
 cases x with
 |none=>rfl
 |some o=>exact (k o rfl).elim
theorem back_none {h h':Heap} {a b:Addr} (k:∀o,h.get? a=some o→h'.get? b=some o) (n:h'.get? b=none):h.get? a=none:=noneOf fun o e=>dead (k o e) n
theorem fresh_size (h:Heap):h.get? h.objs.size=none:=noneOf fun _ e=>Nat.lt_irrefl _ (Heap.lt_size e)
theorem Step.refl (P:List Addr) (s:Shared):Step P s s:=⟨fun _ _ e _=>e,fun _ _ e _=>e,rfl,fun _ _ e=>e,id⟩
theorem Step.trans {P P':List Addr} {s s' s'':Shared} (x:Step P s s') (y:Step P' s' s'') (hP:∀a∈P',a∈P∨s.heap.get? a=none):Step P s s'':=
 ⟨fun a o e n=>y.keep a o (x.keep a o e n) fun m=>(hP a m).elim n (dead e),fun a o e q=>y.inst a o (x.inst a o e q) q,y.os.trans x.os,
  fun g st e=>y.gens g st (x.gens g st e),fun b=>y.bare (x.bare b)⟩
theorem Step.mono {P P':List Addr} {s s':Shared} (x:Step P s s') (h:∀a∈P,a∈P'∨s.heap.get? a=none):Step P' s s':=
 ⟨fun a o e n=>x.keep a o e fun m=>(h a m).elim n (dead e),x.inst,x.os,x.gens,x.bare⟩
section
variable (W:W0)
structure ORel (ρ:List Addr) (objs:List MO) (h:Heap):Prop where
 len:ρ.length=objs.length
 nodup:ρ.Nodup
 objs:∀(i:Nat) (mo:MO) (a:Addr),objs[i]?=some mo→ρ[i]?=some a→ObjIs W ρ h a mo
 new:∀a∈ρ,W.h0.get? a=none
 base:∀a o,W.h0.get? a=some o→h.get? a=some o
end
theorem ObjIs.cls {W:W0} {ρ:List Addr} {h:Heap} {a:Addr} {mo:MO} (x:ObjIs W ρ h a mo):∃o,h.get? a=some o∧((∃c,o.cls=.ref c)∨∃T,o.cls=.type T∧(T= "list" ∨T= "dict" ∨T= "list_iterator")):=by
 cases mo with
 |list=>exact x.elim fun _ x=>x.elim fun _ x=>⟨_,x.1,.inr ⟨_,rfl,.inl rfl⟩⟩
 |dict=>exact x.elim fun o x=>x.elim fun _ x=>⟨o,x.1,.inr ⟨_,x.2.1.elim fun _ d=>d.elim fun _ d=>d.1.1,.inr (.inl rfl)⟩⟩
 |hdr=>exact x.elim fun _ x=>x.elim fun _ x=>x.elim fun _ x=>x.elim fun _ x=>⟨_,x.1,.inl ⟨_,rfl⟩⟩
 |lit=>exact x.elim fun _ x=>x.2.elim fun o x=>⟨o,x.1,.inr ⟨_,x.2.1,.inr (.inr rfl)⟩⟩
 |fz=>exact x.2.elim fun _ x2=>x2.elim fun _ x2=>⟨_,x.1,.inr ⟨_,congrArg Obj.cls x2.1,.inl rfl⟩⟩
theorem ObjIs.notImm {W:W0} {ρ:List Addr} {h:Heap} {a:Addr} {mo:MO} {o:Obj} (x:ObjIs W ρ h a mo) (e:h.get? a=some o) (i:Imm o):False:=by
 obtain ⟨o',e',c⟩:=x.cls
 obtain rfl:o=o':=Option.some.inj (e.symm.trans e')
 have i:o.cls=.type "tuple" ∨o.cls=.type "range" :=i.imp And.left And.left
 have n:∀T T',o.cls=.type T→o.cls=.type T'→T=T':=fun T T' a b=>Value.type.inj (a.symm.trans b)
 rcases c with ⟨c,hc⟩|⟨T,hc,hT⟩
 ·rcases i with i|i<;>exact nomatch hc.symm.trans i
 ·rcases i with i|i<;>rw [n _ _ hc i] at hT<;>exact absurd hT (by decide)
theorem ORel.notImm {W:W0} {ρ:List Addr} {objs:List MO} {h:Heap} (R:ORel W ρ objs h) {a:Addr} {o:Obj} (m:a∈ρ) (e:h.get? a=some o) (im:Imm o):False:=by
 obtain ⟨i,hi,rfl⟩:=List.mem_iff_getElem.mp m
 have hl:i<objs.length:=R.len▸hi
 exact (R.objs i objs[i] ρ[i] (List.getElem?_eq_getElem hl) (List.getElem?_eq_getElem hi)).notImm e im
theorem Step.imm {W:W0} {ρ:List Addr} {objs:List MO} {s s':Shared} (x:Step ρ s s') (R:ORel W ρ objs s.heap):KeepImm s.heap s'.heap:=
 fun a o e i=>x.keep a o e fun m=>R.notImm m e i
theorem ObjIs.alive {W:W0} {ρ:List Addr} {h:Heap} {a:Addr} {mo:MO} (x:ObjIs W ρ h a mo):∃o,h.get? a=some o:=x.cls.imp fun _ x=>x.1
theorem ORel.h0 {W:W0} {ρ:List Addr} {objs:List MO} {h:Heap} {a:Addr} (R:ORel W ρ objs h) (n:h.get? a=none):W.h0.get? a=none:=back_none (R.base a) n
theorem ORel.alive {W:W0} {ρ:List Addr} {objs:List MO} {h:Heap} (R:ORel W ρ objs h) {a:Addr} (m:a∈ρ):∃o,h.get? a=some o:=by
 obtain ⟨i,hi,rfl⟩:=List.mem_iff_getElem.mp m
 have hl:i<objs.length:=R.len▸hi
 exact (R.objs i objs[i] ρ[i] (List.getElem?_eq_getElem hl) (List.getElem?_eq_getElem hi)).alive
noncomputable def Grows (ρ ρ':List Addr) (h:Heap):Prop:=∃new,ρ'=ρ++new∧∀a∈new,h.get? a=none
theorem Grows.refl (ρ:List Addr) (h:Heap):Grows ρ ρ h:=⟨[],by simp,by simp⟩
theorem Grows.get {ρ ρ':List Addr} {h:Heap} (x:Grows ρ ρ' h) {i:Nat} {a:Addr} (e:ρ[i]?=some a):ρ'[i]?=some a:=by
 obtain ⟨n,rfl,_⟩:=x
 rw [List.getElem?_append_left (List.getElem?_eq_some_iff.mp e).1];exact e
theorem Grows.mem {ρ ρ':List Addr} {h:Heap} (x:Grows ρ ρ' h) {a:Addr} (m:a∈ρ'):a∈ρ∨h.get? a=none:=by
 obtain ⟨n,rfl,hn⟩:=x
 rcases List.mem_append.mp m with q|q
 ·exact .inl q
 ·exact .inr (hn a q)
theorem Grows.sub {ρ ρ':List Addr} {h:Heap} (x:Grows ρ ρ' h) {a:Addr} (m:a∈ρ):a∈ρ':=by
 obtain ⟨n,rfl,hn⟩:=x
 exact List.mem_append_left _ m
theorem fresh_back {W:W0} {ρ ρ':List Addr} {o1:List MO} {s s':Shared} (x:Step ρ s s') (G:Grows ρ ρ' s.heap) (R:ORel W ρ' o1 s'.heap) {a:Addr} (n:s'.heap.get? a=none):s.heap.get? a=none:=
 noneOf fun o e=>(Classical.em (a∈ρ)).elim (fun m=>(R.alive (G.sub m)).elim fun _ e'=>dead e' n) fun m=>dead (x.keep a o e m) n
theorem Grows.trans {W:W0} {ρ ρ' ρ'':List Addr} {o1:List MO} {s s':Shared} (x:Grows ρ ρ' s.heap) (y:Grows ρ' ρ'' s'.heap) (st:Step ρ s s') (R:ORel W ρ' o1 s'.heap):Grows ρ ρ'' s.heap:=by
 have x':=x
 obtain ⟨n,rfl,hn⟩:=x
 obtain ⟨m,rfl,hm⟩:=y
 refine ⟨n++m,by rw [List.append_assoc],fun a ha=>?_⟩
 rcases List.mem_append.mp ha with q|q
 ·exact hn a q
 ·exact fresh_back st x' R (hm a q)
theorem VRel.mono {W:W0} {ρ ρ':List Addr} {h h':Heap} (k:KeepImm h h') (kp:∀a o,h.get? a=some o→a∉ρ→h'.get? a=some o) (G:Grows ρ ρ' h) {x:MV} {v:Value} (r:VRel W ρ h x v):VRel W ρ' h' x v:=by
 cases x with
 |fv=>exact FRel.keep k r
 |ref=>exact r.imp fun a r=>⟨G.get r.1,r.2⟩
 |rng=>exact r.imp fun r p=>p.imp fun t p=>p.imp fun u p=>p.imp fun w p=>⟨p.1,k _ _ p.2 (.inr ⟨rfl,_,rfl⟩)⟩
 |edict=>exact r.imp fun d p=>p.imp fun n p=>⟨p.1,fun m=>(G.mem m).elim p.2.1 (dead p.2.2),kp _ _ p.2.2 p.2.1⟩
 |_=>exact r
structure Ok (W:W0) (ρ:List Addr) (s:Shared) (ρ':List Addr) (objs':List MO) (s':Shared):Prop where
 grows:Grows ρ ρ' s.heap
 step:Step ρ s s'
 rel:ORel W ρ' objs' s'.heap
theorem Ok.refl {W:W0} {ρ:List Addr} {objs:List MO} {s:Shared} (R:ORel W ρ objs s.heap):Ok W ρ s ρ objs s:=⟨.refl _ _,.refl _ _,R⟩
theorem Ok.trans {W:W0} {ρ ρ' ρ'':List Addr} {o1 o2:List MO} {s s' s'':Shared} (x:Ok W ρ s ρ' o1 s') (y:Ok W ρ' s' ρ'' o2 s''):Ok W ρ s ρ'' o2 s'':=
 ⟨x.grows.trans y.grows x.step x.rel,x.step.trans y.step fun _ m=>x.grows.mem m,y.rel⟩
theorem Ok.vrel {W:W0} {ρ ρ':List Addr} {objs o1:List MO} {s s':Shared} {x:MV} {v:Value} (k:Ok W ρ s ρ' o1 s') (R:ORel W ρ objs s.heap) (r:VRel W ρ s.heap x v):VRel W ρ' s'.heap x v:=
 VRel.mono (k.step.imm R) k.step.keep k.grows r
theorem Ok.frel {W:W0} {ρ ρ':List Addr} {objs o1:List MO} {s s':Shared} {x:FV} {v:Value} (k:Ok W ρ s ρ' o1 s') (R:ORel W ρ objs s.heap) (r:FRel s.heap x v):FRel s'.heap x v:=
 FRel.keep (k.step.imm R) r
noncomputable def PostE (W:W0) (ρ:List Addr) (s:Shared) (mv:MV) (objs':List MO) (v:Value) (s':Shared):Prop:=
 ∃ρ',Ok W ρ s ρ' objs' s'∧VRel W ρ' s'.heap mv v
noncomputable def OptRel (W:W0) (ρ:List Addr) (h:Heap) (o:Option Value):MV→Prop
 |.unb=>o=none
 |x=>∃v,o=some v∧VRel W ρ h x v
section
variable {W:W0} {ρ ρ':List Addr} {h h':Heap} {o:Option Value} {x y:MV}
theorem OptRel.some (q:OptRel W ρ h o x) (n:x≠.unb):∃v,o=.some v∧VRel W ρ h x v:=by
 cases x with
 |unb=>exact (n rfl).elim
 |_=>exact q
theorem OptRel.mk (n:x≠.unb) (q:∃v,o=.some v∧VRel W ρ h x v):OptRel W ρ h o x:=by
 cases x with
 |unb=>exact (n rfl).elim
 |_=>exact q
theorem OptRel.of {v:Value} (r:VRel W ρ h x v) (n:x≠.unb):OptRel W ρ h (Option.some v) x:=.mk n ⟨v,rfl,r⟩
theorem OptRel.to (q:OptRel W ρ h o x) (u:x=.unb↔y=.unb) (f:∀v,o=.some v→VRel W ρ h x v→VRel W ρ' h' y v):OptRel W ρ' h' o y:=by
 by_cases n:x=.unb
 ·cases n;cases u.mp rfl;exact q
 ·exact .mk (fun e=>n (u.mpr e)) ((q.some n).imp fun v p=>⟨p.1,f v p.1 p.2⟩)
theorem OptRel.imp (f:∀x v,VRel W ρ h x v→VRel W ρ' h' x v) (q:OptRel W ρ h o x):OptRel W ρ' h' o x:=q.to .rfl fun v _=>f x v
end
noncomputable def ownOf (env:Env):List Addr:=env.locals::env.cells.map (·.2)
structure FR (W:W0) (env:Env) (ns:Names) (vars:List MV) (ρ:List Addr) (h:Heap):Prop where
 names:All2 (fun (p q:Str × NameKind)=>p.1=q.1∧(q.2=p.2∨(p.2=.free∧q.2=.cell))) ns env.scope.names
 plain:∀p∈ns,(p.1==("__debug__" :Str))=false∧(p.1==("__classdict__" :Str))=false
 kind:env.scope.kind=.function
 glob:env.globals=mainGlobals
 blt:env.builtins=builtinsNs
 nodup:(ns.map (·.1)).Nodup
 len:vars.length=ns.length
 loc:∃m,h.Ns env.locals m∧m "_headers" =none∧∀(i:Nat) (x:Str) (mv:MV),env.scope.names[i]?=some (x,.local)→vars[i]?=some mv→OptRel W ρ h (m x) mv∧(mv=.edict→m x≠some (.ref env.locals)∧m x≠some (.ref sysModules))
 cel:∀(i:Nat) (x:Str) (k:NameKind) (mv:MV),env.scope.names[i]?=some (x,k)→k=.cell∨k=.free→vars[i]?=some mv→∃c o,env.cells.lookup x=some c∧h.IsCell c o∧OptRel W ρ h o mv∧mv≠.edict
 apart:∀a∈ownOf env,a∉ρ∧W.h0.get? a=none∧∃o,h.get? a=some o
 cinj:∀x y c,env.cells.lookup x=some c→env.cells.lookup y=some c→x=y
 cloc:∀x c,env.cells.lookup x=some c→c≠env.locals
theorem mem_of_lookup {x:Str} {c:Addr} {l:List (Str × Addr)} (h:l.lookup x=some c):c∈l.map (·.2):=List.mem_map_of_mem (f:=Prod.snd) (PySem.mem_of_lookup h)
theorem FR.move {W:W0} {env:Env} {ns:Names} {vars vars':List MV} {ρ ρ':List Addr} {h h':Heap} (F:FR W env ns vars ρ h) (hn:∀m,h.Ns env.locals m→h'.Ns env.locals m) (hc:∀c∈ownOf env,c≠env.locals→∀o,h.get? c=some o→h'.get? c=some o) (al:∀a∈ownOf env,a∉ρ')
  (hl:vars'.length=vars.length) (hv:∀(i:Nat) (y:MV),vars'[i]?=some y→∃x,vars[i]?=some x∧(x=.unb↔y=.unb)∧(y=.edict→x=.edict)∧∀v,(x=.edict→v≠.ref env.locals)→VRel W ρ h x v→VRel W ρ' h' y v):FR W env ns vars' ρ' h':=by
 obtain ⟨m,hm,hhd,hlo⟩:=F.loc
 refine ⟨F.names,F.plain,F.kind,F.glob,F.blt,F.nodup,hl.trans F.len,⟨m,hn m hm,hhd,fun i x mv e1 e2=>?_⟩,fun i x kk mv e1 e2 e3=>?_,fun a ha=>?_,F.cinj,F.cloc⟩
 ·obtain ⟨y,ey,u,ed,k⟩:=hv i mv e2
  obtain ⟨q1,q2⟩:=hlo i x y e1 ey
  exact ⟨q1.to u fun v e=>k v fun h hv=>(q2 h).1 (hv▸e),fun h=>q2 (ed h)⟩
 ·obtain ⟨y,ey,u,ed,k⟩:=hv i mv e3
  obtain ⟨c,o,hcc,⟨ob,hb,hd⟩,hr,hne⟩:=F.cel i x kk y e1 e2 ey
  exact ⟨c,o,hcc,⟨ob,hc _ (.tail _ (mem_of_lookup hcc)) (F.cloc _ _ hcc) ob hb,hd⟩,hr.to u fun v e=>k v fun h=>(hne h).elim,fun h=>hne (ed h)⟩
 ·obtain ⟨p,q,o,e⟩:=F.apart a ha
  refine ⟨al a ha,q,?_⟩
  by_cases hal:a=env.locals
  ·obtain ⟨o',_,_,e',_⟩:=hn m hm
   exact ⟨o',hal▸e'⟩
  ·exact ⟨o,hc a ha hal o e⟩
theorem FR.keep {W:W0} {env:Env} {ns:Names} {vars:List MV} {ρ ρ':List Addr} {h h':Heap} (F:FR W env ns vars ρ h) (own:∀a∈ownOf env,∀o,h.get? a=some o→h'.get? a=some o) (al:∀a∈ownOf env,a∉ρ') (kv:∀x∈vars,∀v,VRel W ρ h x v→VRel W ρ' h' x v):FR W env ns vars ρ' h':=
 F.move (fun m hm=>hm.imp fun o p=>p.imp fun es p=>p.imp fun ep p=>⟨own _ (.head _) o p.1,p.2⟩) (fun c hc _=>own c hc) al rfl fun i y e=>⟨y,e,.rfl,id,fun v _=>kv y (List.mem_of_getElem? e) v⟩
theorem FR.ok {W:W0} {env:Env} {ns:Names} {vars:List MV} {ρ ρ':List Addr} {objs o1:List MO} {s s':Shared} (F:FR W env ns vars ρ s.heap) (R:ORel W ρ objs s.heap) (k:Ok W ρ s ρ' o1 s'):FR W env ns vars ρ' s'.heap:=
 F.keep (fun a ha o e=>k.step.keep a o e (F.apart a ha).1) (fun a ha m=>(k.grows.mem m).elim (F.apart a ha).1 fun n=>(F.apart a ha).2.2.elim fun _ e=>dead e n) fun _ _ _=>k.vrel R
noncomputable def NoE (_:Value) (_:Shared):Prop:=False
structure Room (d:Nat) (A:Around):Prop where
 depth:A.depth+d≤900
 units:A.units+20*d≤9000
 quiet:A.handled=none
theorem Room.up {d u k:Nat} (h:u+20*(d+1)≤9000) (hk:k≤20):u+k+20*d≤9000:=
 Nat.le_trans (Nat.add_right_comm u k (20*d)▸Nat.add_le_add_left hk (u+20*d)) h
theorem Room.dp {a d:Nat} (h:a+(d+1)≤900):a+1+d≤900:=Nat.add_right_comm a 1 d▸h
theorem Room.in1 {d:Nat} {A:Around} (r:Room (d+1) A):Room d A.in1:=⟨Nat.le_of_succ_le r.depth,Room.up r.units (by decide),r.quiet⟩
theorem Room.deeper {d:Nat} {A:Around} (r:Room (d+1) A) (env:Env):Room d (A.deeper env):=⟨Room.dp r.depth,Room.up r.units (by decide),r.quiet⟩
theorem Room.le {d d':Nat} {A:Around} (r:Room d A) (h:d'≤d):Room d' A:=⟨Nat.le_trans (Nat.add_le_add_left h _) r.depth,Nat.le_trans (Nat.add_le_add_left (Nat.mul_le_mul_left 20 h) _) r.units,r.quiet⟩
theorem Room.lt {d:Nat} {A:Around} (r:Room d A):A.depth<recursionLimit:=Nat.lt_of_le_of_lt (Nat.le_trans (Nat.le_add_right _ d) r.depth) (by decide)
theorem Room.c {d:Nat} {A:Around} (r:Room d A):A.units<cLine:=Nat.lt_of_le_of_lt (Nat.le_trans (Nat.le_add_right _ (20*d)) r.units) (by decide)
end
section
section
variable {W:W0} {ρ:List Addr} {objs:List MO} {s:Shared}
theorem Ok.toks (R:ORel W ρ objs s.heap) (k:Nat):Ok W ρ s ρ objs {s with toks:=k}:=⟨.refl _ _,⟨fun _ _ e _=>e,fun _ _ e _=>e,rfl,fun _ _ e=>e,id⟩,R⟩
theorem PostE.toks {mv:MV} {v:Value} (R:ORel W ρ objs s.heap) (r:VRel W ρ s.heap mv v) (k:Nat):PostE W ρ s mv objs v {s with toks:=k}:=⟨ρ,Ok.toks R k,r⟩
theorem PostE.same {mv:MV} {v:Value} (R:ORel W ρ objs s.heap) (r:VRel W ρ s.heap mv v):PostE W ρ s mv objs v s:=⟨ρ,Ok.refl R,r⟩
theorem getpush {h:Heap} {a:Addr} {o o':Obj} (e:h.get? a=some o):(h.push o').get? a=some o:=Heap.get?_push_of_some _ e
theorem keepImm_push (h:Heap) (o:Obj):KeepImm h (h.push o):=fun _ _ e _=>getpush e
theorem keepImm_of {h h':Heap} (k:∀a o,h.get? a=some o→h'.get? a=some o):KeepImm h h':=fun a o e _=>k a o e
theorem ObjIs.move {h h':Heap} {a:Addr} (ka:∀o,h.get? a=some o→h'.get? a=some o) (ki:KeepImm h h') (kd:∀{dx t la n},dx∉ρ→h.get? dx=some (dictOf [⟨W.hkey,.str "_headers" t,.ref la⟩] n)→h'.get? dx=some (dictOf [⟨W.hkey,.str "_headers" t,.ref la⟩] n)) {mo:MO} (z:ObjIs W ρ h a mo):ObjIs W ρ h' a mo:=by
 cases mo with
 |list xs=>exact z.imp fun vs z=>z.imp fun n z=>z.imp (ka _) (·.imp fun _ _=>FRel.keep ki)
 |dict es=>exact z.imp fun o z=>z.imp fun kvs z=>⟨ka _ z.1,z.2.1,z.2.2.imp fun _ _ p=>⟨p.1,FRel.keep ki p.2⟩⟩
 |hdr m=>exact z.imp fun dx z=>z.imp fun la z=>z.imp fun t z=>z.imp fun n z=>⟨ka _ z.1,kd z.2.2.2 z.2.1,z.2.2⟩
 |lit m i=>exact z.imp fun la z=>⟨z.1,z.2.imp fun ob z=>⟨ka _ z.1,z.2⟩⟩
 |fz xs=>exact ⟨ka _ z.1,z.2.imp fun vs z=>z.imp fun n z=>⟨z.1,z.2.imp fun _ _=>FRel.keep ki⟩⟩
theorem ObjIs.ext {h:Heap} {a:Addr} {ρ':List Addr} (p:∀{k:Nat} {b:Addr},ρ[k]?=some b→ρ'[k]?=some b) (n:∀{dx:Addr} {o:Obj},h.get? dx=some o→dx∉ρ→dx∉ρ') {mo:MO} (z:ObjIs W ρ h a mo):ObjIs W ρ' h a mo:=by
 cases mo with
 |hdr m=>exact z.imp fun dx z=>z.imp fun la z=>z.imp fun t z=>z.imp fun c z=>⟨z.1,z.2.1,p z.2.2.1,n z.2.1 z.2.2.2⟩
 |lit m i=>exact z.imp fun la z=>⟨p z.1,z.2⟩
 |_=>exact z
theorem app_get {new:List Addr} {i:Nat} {b:Addr} (e:ρ[i]?=some b):(ρ++new)[i]?=some b:=(List.getElem?_append_left (List.getElem?_eq_some_iff.mp e).1).trans e
theorem ObjIs.grow {h h':Heap} {a:Addr} (k:∀a o,h.get? a=some o→h'.get? a=some o) {new:List Addr} (hnew:∀b∈new,h'.get? b=none∨h.get? b=none) {mo:MO} (z:ObjIs W ρ h a mo):ObjIs W (ρ++new) h' a mo:=
 (z.ext (ρ':=ρ++new) app_get fun e nm m=>(List.mem_append.mp m).elim nm fun q=>(hnew _ q).elim (dead (k _ _ e)) (dead e)).move (k a) (fun a o e _=>k a o e) (fun _ e=>k _ _ e)
theorem Ok.keepAll (R:ORel W ρ objs s.heap) {h':Heap} (k:∀a o,s.heap.get? a=some o→h'.get? a=some o) (tk:Nat):Ok W ρ s ρ objs {s with heap:=h',toks:=tk}:=by
 refine ⟨.refl _ _,⟨fun a o e _=>k a o e,fun a o e _=>k a o e,rfl,fun _ _ e=>e,id⟩,⟨R.len,R.nodup,fun i mo a e1 e2=>?_,R.new,fun a o e=>k a o (R.base a o e)⟩⟩
 exact (R.objs i mo a e1 e2).move (k a) (fun a o e _=>k a o e) fun _ e=>k _ _ e
theorem PostE.keepAll {mv:MV} {v:Value} (R:ORel W ρ objs s.heap) {h':Heap} (k:∀a o,s.heap.get? a=some o→h'.get? a=some o) (r:VRel W ρ h' mv v) (tk:Nat):PostE W ρ s mv objs v {s with heap:=h',toks:=tk}:=
 ⟨ρ,Ok.keepAll R k tk,r⟩
theorem ORel.snoc {h':Heap} {os:List MO} {c:Addr} {mo:MO} (R:ORel W ρ objs s.heap) (hl:ρ.length=os.length) (hc:c∉ρ) (c0:W.h0.get? c=none) (old:∀(i:Nat) (mo:MO) (a:Addr),os[i]?=some mo→ρ[i]?=some a→ObjIs W (ρ++[c]) h' a mo) (x:ObjIs W (ρ++[c]) h' c mo) (base:∀a o,W.h0.get? a=some o→h'.get? a=some o):ORel W (ρ++[c]) (os++[mo]) h':=by
 refine ⟨by rw [List.length_append,List.length_append,hl];rfl,List.nodup_append.mpr ⟨R.nodup,List.nodup_cons.mpr ⟨fun h=>(nomatch h),.nil⟩,fun a ha b hb e=>hc (List.mem_singleton.mp hb▸e▸ha)⟩,fun i mo' a e1 e2=>?_,fun a m=>(List.mem_append.mp m).elim (R.new a) fun q=>List.mem_singleton.mp q▸c0,base⟩
 rcases Nat.lt_or_ge i os.length with hi|hi
 ·exact old i mo' a ((List.getElem?_append_left hi).symm.trans e1) ((List.getElem?_append_left (hl▸hi)).symm.trans e2)
 ·have q1:=(List.getElem?_append_right hi).symm.trans e1
  have q2:=(List.getElem?_append_right (hl▸hi)).symm.trans e2
  exact List.mem_singleton.mp (List.mem_of_getElem? q1)▸List.mem_singleton.mp (List.mem_of_getElem? q2)▸x
theorem Ok.new (R:ORel W ρ objs s.heap) {h':Heap} (k:∀a o,s.heap.get? a=some o→h'.get? a=some o) {c:Addr} {mo:MO} (hc:s.heap.get? c=none)
  (x:ObjIs W (ρ++[c]) h' c mo) (tk:Nat):Ok W ρ s (ρ++[c]) (objs++[mo]) {s with heap:=h',toks:=tk}:=
 have hn:∀b∈[c],s.heap.get? b=none:=fun b hb=>List.mem_singleton.mp hb▸hc
 ⟨⟨_,rfl,hn⟩,⟨fun a o' e _=>k a o' e,fun a o' e _=>k a o' e,rfl,fun _ _ e=>e,id⟩,R.snoc R.len (fun m=>(R.alive m).elim fun _ e=>dead e hc) (R.h0 hc) (fun i mo' a e1 e2=>(R.objs i mo' a e1 e2).grow k fun b hb=>.inr (hn b hb)) x fun a o' e=>k a o' (R.base a o' e)⟩
theorem lastOf (R:ORel W ρ objs s.heap) (c:Addr):(ρ++[c])[objs.length]?=some c:=by
 rw [List.getElem?_append_right (by rw [R.len];exact Nat.le_refl _),R.len];simp
theorem PostE.newList (R:ORel W ρ objs s.heap) {h':Heap} (k:∀a o,s.heap.get? a=some o→h'.get? a=some o) {c:Addr} {vs:Array Value} {n:Nat} {xs:List FV} (hc:s.heap.get? c=none)
  (g:h'.get? c=some {cls:=.type "list",data:=.seq vs n}) (al:All2 (FRel h') xs vs.toList) (tk:Nat):PostE W ρ s (.ref objs.length) (objs++[.list xs]) (.ref c) {s with heap:=h',toks:=tk}:=
 ⟨_,Ok.new R k hc (mo:=.list xs) ⟨vs,n,g,al⟩ tk,c,lastOf R c,rfl⟩
end
theorem bitNot_neg (x:Int) (h:0≤x):¬0≤Builtin.bitNot x:=by unfold Builtin.bitNot;omega
theorem band_eq {a b:Int} (ha:0≤a) (hb:0≤b):Builtin.bitAnd a b=((a.toNat&&&b.toNat:Nat):Int):=by
 unfold Builtin.bitAnd;rw [decide_eq_true ha,decide_eq_true hb]
theorem bor_eq {a b:Int} (ha:0≤a) (hb:0≤b):Builtin.bitOr a b=((a.toNat|||b.toNat:Nat):Int):=by
 unfold Builtin.bitOr Builtin.bitAnd
 rw [decide_eq_false (bitNot_neg a ha),decide_eq_false (bitNot_neg b hb)]
 simp only [Builtin.bitNot]
 have e1:(-(-a-1)-1).toNat=a.toNat:=by congr 1;omega
 have e2:(-(-b-1)-1).toNat=b.toNat:=by congr 1;omega
 rw [e1,e2];omega
theorem nat_xor_add (x:Nat):∀y:Nat,(x^^^y)+(x&&&y)=x|||y:=by
 induction x using Nat.strongRecOn with
 |ind x ih=>
  intro y
  by_cases h:x=0
  ·subst h;rw [Nat.zero_xor,Nat.zero_and,Nat.zero_or];rfl
  have q:=ih (x/2) (Nat.div_lt_self (Nat.pos_of_ne_zero h) (by decide)) (y/2)
  rw [←Nat.xor_div_two,←Nat.and_div_two,←Nat.or_div_two] at q
  have m:(x^^^y)%2+(x&&&y)%2=(x|||y)%2:=by
   rw [show (x^^^y)%2=(x%2)^^^(y%2) from Nat.xor_mod_two_pow (n:=1),show (x&&&y)%2=(x%2)&&&(y%2) from Nat.and_mod_two_pow (n:=1),show (x|||y)%2=(x%2)|||(y%2) from Nat.or_mod_two_pow (n:=1)]
   rcases Nat.mod_two_eq_zero_or_one x with e|e<;>rcases Nat.mod_two_eq_zero_or_one y with f|f<;>rw [e,f]<;>rfl
  rw [←Nat.div_add_mod (x^^^y) 2,←Nat.div_add_mod (x&&&y) 2,←Nat.div_add_mod (x|||y) 2,←q,←m,Nat.mul_add,Nat.add_assoc,Nat.add_assoc,Nat.add_left_comm (_%2)]
theorem nat_xor (x y:Nat):(x|||y)-(x&&&y)=x^^^y:=by rw [←nat_xor_add,Nat.add_sub_cancel]
theorem bxor_eq {a b:Int} (ha:0≤a) (hb:0≤b):Builtin.bitXor a b=((a.toNat^^^b.toNat:Nat):Int):=by
 unfold Builtin.bitXor
 rw [bor_eq ha hb,band_eq ha hb,←nat_xor]
 have:(a.toNat&&&b.toNat)≤(a.toNat|||b.toNat):=Nat.le_trans Nat.and_le_left Nat.left_le_or
 omega
section
variable {prog:Program} {w:World} {A:Around} {E:Value→Shared→Prop} {s:Shared} {Q:Value→Shared→Prop}
theorem big_lt {a:Int} (h:a.natAbs<big):a.natAbs<2^64:=by unfold big at h;omega
theorem mulOk {a b:Int} (h:(decide (a.natAbs<big)||decide (b.natAbs<big))=true):IntMulOk a b:=by
 rcases Bool.or_eq_true_iff.mp h with h|h
 ·exact IntMulOk.of_left (intBits_le (big_lt (of_decide_eq_true h)))
 ·exact IntMulOk.of_right (intBits_le (big_lt (of_decide_eq_true h)))
theorem noPylong {a b:Int} (h0:0<b) (hb:b<big):Builtin.divisionGoesByPylong a b=false:=by
 unfold Builtin.divisionGoesByPylong
 have hne:(b==0)=false:=by simp;omega
 have hl:b.natAbs.log2<64:=by
  rw [Nat.log2_lt (by omega)]
  unfold big at hb;omega
 simp only [hne]
 rw [Bool.and_eq_false_iff];left
 simp;omega
theorem thousand {b:Int} (h:b≤1000):b≤1000000:=Int.le_trans h (by decide)
theorem arith_ok {o:BO} {a b c:Int} {t u:Tok} (e:arith o a b=some c) (h:Q (.int c s.toks) {s with toks:=s.toks+1}):wpAny (model prog w) A (binaryOp o.op (.int a t) (.int b u)) Q E s:=by
 have k:∀{x},some x=some c→Q (.int x s.toks) {s with toks:=s.toks+1}:=fun q=>Option.some.inj q▸h
 cases o with
 |add=>exact PyProof.Rows.add_int (k e)
 |sub=>exact PyProof.Rows.sub_int (k e)
 |mul=>exact ifk e fun hh e=>PyProof.Rows.mul_int (k e) (mulOk hh)
 |fdiv=>exact ifk e fun hh e=>floordiv_int (Int.ne_of_gt (dec2 hh).1) (k e) (.inl (noPylong (dec2 hh).1 (dec2 hh).2))
 |fmod=>exact ifk e fun hh e=>mod_int' (Int.ne_of_gt hh) (k e)
 |pow=>exact ifk e fun hh e=>pow_int_small (dec2 (decA hh).1).1 (thousand (dec2 (decA hh).1).2) (big_lt (decA hh).2) (k e)
 |band=>exact ifk e fun hh e=>and_int (by rw [band_eq (dec2 hh).1 (dec2 hh).2];exact k e)
 |bxor=>exact ifk e fun hh e=>xor_int (by rw [bxor_eq (dec2 hh).1 (dec2 hh).2];exact k e)
 |bor=>exact ifk e fun hh e=>or_int (by rw [bor_eq (dec2 hh).1 (dec2 hh).2];exact k e)
 |shl=>exact ifk e fun hh e=>lshift_int_small (dec2 (decA hh).1).1 (thousand (dec2 (decA hh).1).2) (big_lt (decA hh).2) (k e)
noncomputable def BO.inpl:BO→Bool
 |.add|.sub|.bxor|.bor|.shl=>true
 |_=>false
theorem iarith_ok {o:BO} {a b c:Int} {t u:Tok} (ho:o.inpl=true) (e:arith o a b=some c) (h:Q (.int c s.toks) {s with toks:=s.toks+1}):wpAny (model prog w) A (inplaceOp o.op (.int a t) (.int b u)) Q E s:=by
 have k:∀{x},some x=some c→Q (.int x s.toks) {s with toks:=s.toks+1}:=fun q=>Option.some.inj q▸h
 cases o with
 |add=>exact PyProof.Rows.iadd_int (k e)
 |sub=>exact PyProof.Rows.isub_int (k e)
 |bxor=>exact ifk e fun hh e=>ixor_int (by rw [bxor_eq (dec2 hh).1 (dec2 hh).2];exact k e)
 |bor=>exact ifk e fun hh e=>ior_int (by rw [bor_eq (dec2 hh).1 (dec2 hh).2];exact k e)
 |shl=>exact ifk e fun hh e=>ilshift_int_small (dec2 (decA hh).1).1 (thousand (dec2 (decA hh).1).2) (big_lt (decA hh).2) (k e)
 |_=>exact Bool.noConfusion ho
end
theorem str_append (a b:List Nat):(⟨a.toArray⟩:Str)++⟨b.toArray⟩=⟨(a++b).toArray⟩:=by
 show Str.append _ _=_
 simp [Str.append]
theorem str_len (a:List Nat):(⟨a.toArray⟩:Str).length=a.length:=by simp [Str.length]
theorem str_eq (a b:List Nat):((⟨a.toArray⟩:Str)==⟨b.toArray⟩)=(a==b):=by
 by_cases h:a=b
 ·subst h;simp
 ·have:(⟨a.toArray⟩:Str)≠⟨b.toArray⟩:=fun e=>h (by injection e with e;simpa using congrArg Array.toList e)
  rw [beq_eq_false_iff_ne.mpr this,beq_eq_false_iff_ne.mpr h]
theorem reps (a:List Nat):∀(n:Nat) (acc:Array Nat),(List.replicate n a.toArray).foldl (· ++ ·) acc=(acc.toList++(List.replicate n a).flatten).toArray
 |0,acc=>by simp
 |n+1,acc=>by
  rw [List.replicate_succ,List.foldl_cons,reps a n]
  simp [List.replicate_succ]
noncomputable def FV.py:FV→PyData
 |.none=>.none
 |.bool b=>.bool b
 |.int i=>.int i
 |.str s=>.str ⟨s.toArray⟩
 |.pair a b=>.tuple [a.py,b.py]
theorem FRel.reads {h:Heap} {x:FV}:∀{v:Value},FRel h x v→∃as,Reads h v x.py as:=by
 induction x with
 |none=>exact fun e=>by cases e;exact ⟨_,.none⟩
 |bool b=>exact fun e=>by cases e;exact ⟨_,.bool b⟩
 |int i=>exact fun e=>e.elim fun t e=>by cases e;exact ⟨_,.int i t⟩
 |str s=>exact fun e=>e.elim fun t e=>by cases e;exact ⟨_,.str _ t⟩
 |pair x y ix iy=>
  intro v r
  obtain ⟨a,u,w,n,e,g,r1,r2⟩:=r
  obtain ⟨as,ra⟩:=ix r1
  obtain ⟨bs,rb⟩:=iy r2
  cases e
  exact ⟨_,.tuple g rfl rfl (.cons ra (.cons rb .nil))⟩
theorem FRel.readsAll {h:Heap} {xs:List FV} {vs:List Value} (r:All2 (FRel h) xs vs):∃as,ReadsAll h vs (xs.map FV.py) as:=by
 induction r with
 |nil=>exact ⟨_,.nil⟩
 |cons p _ ih=>exact p.reads.elim fun _ ra=>ih.elim fun _ rb=>⟨_,.cons ra rb⟩
theorem list_reads {h:Heap} {a:Addr} {vs:Array Value} {n:Nat} {xs:List FV} (g:h.get? a=some {cls:=.type "list",data:=.seq vs n}) (r:All2 (FRel h) xs vs.toList):
  ∃as,Reads h (.ref a) (.list (xs.map FV.py)) as:=by
 obtain ⟨as,ra⟩:=FRel.readsAll r
 exact ⟨_,.list g rfl rfl ra⟩
theorem FV.isStr_is {x:FV} (h:x.isStr=true):∃s,x=.str s∧chars s=true:=by
 cases x with
 |str s=>exact ⟨_,rfl,h⟩
 |_=>cases h
theorem FV.isPair_is {x:FV} (h:x.isPair=true):∃s t,x=.pair (.str s) (.str t)∧chars s=true∧chars t=true:=by
 cases x with
 |pair a b=>cases a with
  |str a=>cases b with
   |str b=>exact ⟨_,_,rfl,Bool.and_eq_true_iff.mp h⟩
   |_=>cases h
  |_=>cases h
 |_=>cases h
theorem FV.isInt_is {x:FV} (h:x.isInt=true):∃i,x=.int i:=by
 cases x with
 |int s=>exact ⟨_,rfl⟩
 |_=>cases h
theorem chars_ok {s:List Nat} (h:chars s=true):PyData.strOk (⟨s.toArray⟩:Str)=true:=by
 simp only [PyData.strOk]
 simpa [chars] using h
structure KindOk (p:FV→Bool) (S:Spec.Shape):Prop where
 lay:∀x,p x=true→x.py.canLay0=true
 depth:∀x,p x=true→x.py.depth≤1
 has:∀x,p x=true→S.has x.py=true
 same:∀x y,p x=true→p y=true→Spec.same x.py y.py=decide (x=y)
theorem kindI:KindOk FV.isInt .int where
 lay x h:=by obtain ⟨a,rfl⟩:=FV.isInt_is h;rfl
 depth x h:=by obtain ⟨a,rfl⟩:=FV.isInt_is h;exact Nat.zero_le _
 has x h:=by obtain ⟨a,rfl⟩:=FV.isInt_is h;rfl
 same x y h k:=by
  obtain ⟨a,rfl⟩:=FV.isInt_is h
  obtain ⟨b,rfl⟩:=FV.isInt_is k
  exact decide_eq_decide.mpr ⟨fun e=>e▸rfl,FV.int.inj⟩
theorem str_same (a b:List Nat):((⟨a.toArray⟩:Str)==⟨b.toArray⟩)=decide (a=b):=(str_eq a b).trans (Bool.eq_iff_iff.mpr (beq_iff_eq.trans decide_eq_true_iff.symm))
theorem kindS:KindOk FV.isStr .str where
 lay x h:=by obtain ⟨a,rfl,q⟩:=FV.isStr_is h;exact chars_ok q
 depth x h:=by obtain ⟨a,rfl,q⟩:=FV.isStr_is h;exact Nat.zero_le _
 has x h:=by obtain ⟨a,rfl,q⟩:=FV.isStr_is h;rfl
 same x y h k:=by
  obtain ⟨a,rfl,_⟩:=FV.isStr_is h
  obtain ⟨b,rfl,_⟩:=FV.isStr_is k
  exact (str_same a b).trans (decide_eq_decide.mpr ⟨fun e=>e▸rfl,FV.str.inj⟩)
theorem kindP:KindOk FV.isPair (.tuple [.str,.str]) where
 lay x h:=by obtain ⟨a,b,rfl,q,r⟩:=FV.isPair_is h;simpa [FV.py,PyData.canLay0,PyData.canLayAll0] using ⟨chars_ok q,chars_ok r⟩
 depth x h:=by obtain ⟨a,b,rfl,q⟩:=FV.isPair_is h;exact Nat.le_refl 1
 has x h:=by obtain ⟨a,b,rfl,q⟩:=FV.isPair_is h;rfl
 same x y h k:=by
  obtain ⟨a,b,rfl,_⟩:=FV.isPair_is h
  obtain ⟨c,d,rfl,_⟩:=FV.isPair_is k
  show ((_==_)&&((_==_)&&true))=_
  rw [str_same,str_same,Bool.and_true,←Bool.decide_and]
  exact decide_eq_decide.mpr ⟨fun e=>by rw [e.1,e.2],fun e=>⟨FV.str.inj (FV.pair.inj e).1,FV.str.inj (FV.pair.inj e).2⟩⟩
theorem kinds {xs ys:List FV} (h:sameKind xs ys=true):∃p S,KindOk p S∧SeqAt.plainShape S.list=true∧xs.all p=true∧ys.all p=true:=by
 rcases Bool.or_eq_true_iff.mp h with h|h
 ·rcases Bool.or_eq_true_iff.mp h with h|h
  ·exact ⟨_,_,kindI,rfl,Bool.and_eq_true_iff.mp h⟩
  ·exact ⟨_,_,kindS,rfl,Bool.and_eq_true_iff.mp h⟩
 ·exact ⟨_,_,kindP,rfl,Bool.and_eq_true_iff.mp h⟩
section
variable {p:FV→Bool} {S:Spec.Shape} (K:KindOk p S)
include K
theorem KindOk.sames {xs:List FV}:∀{ys:List FV},xs.all p=true→ys.all p=true→Spec.sameAll (xs.map FV.py) (ys.map FV.py)=(xs==ys):=by
 induction xs with
 |nil=>intro ys _ _;cases ys<;>rfl
 |cons x r ih=>
  intro ys h k
  cases ys with
  |nil=>rfl
  |cons y t=>
   have h:=Bool.and_eq_true_iff.mp h
   have k:=Bool.and_eq_true_iff.mp k
   show (Spec.same x.py y.py&&Spec.sameAll (r.map FV.py) (t.map FV.py))=_
   rw [K.same x y h.1 k.1,ih h.2 k.2];rfl
theorem KindOk.lays {xs:List FV} (h:xs.all p=true):PyData.canLayAll0 (xs.map FV.py)=true:=by
 induction xs with
 |nil=>rfl
 |cons x r ih=>
  have h:=Bool.and_eq_true_iff.mp h
  exact Bool.and_eq_true_iff.mpr ⟨K.lay x h.1,ih h.2⟩
theorem KindOk.depths {xs:List FV} (h:xs.all p=true):PyData.depthAll (xs.map FV.py)≤1:=by
 induction xs with
 |nil=>exact Nat.zero_le _
 |cons x r ih=>
  have h:=Bool.and_eq_true_iff.mp h
  exact Nat.max_le.mpr ⟨K.depth x h.1,ih h.2⟩
theorem KindOk.shaped {xs:List FV} (h:xs.all p=true):SeqAt.shaped (.list (xs.map FV.py))=true:=by
 have:=K.depths h
 have e2:(PyData.list (xs.map FV.py)).canLay0=true:=K.lays h
 have e:(PyData.list (xs.map FV.py)).depth=PyData.depthAll (xs.map FV.py)+1:=by simp [PyData.depth]
 unfold SeqAt.shaped
 rw [e,e2];simp;omega
theorem KindOk.hass {xs:List FV} (h:xs.all p=true):S.list.has (.list (xs.map FV.py))=true:=by
 have q:(xs.map FV.py).all S.has=true:=by
  rw [List.all_map];exact List.all_eq_true.mpr fun x hx=>K.has x (List.all_eq_true.mp h x hx)
 simpa [Spec.Shape.has] using q
end
end
section
section
variable {W:W0} {ρ:List Addr} {objs:List MO} {s:Shared}
theorem listAt_is {i:Nat} {xs:List FV} (e:listAt objs i=some xs):objs[i]?=some (.list xs):=by
 unfold listAt at e
 generalize objs[i]?=x at*
 cases x with
 |none=>exact non e
 |some o=>cases o with|list ys=>exact inj1m e rfl|_=>exact non e
theorem ORel.at (R:ORel W ρ objs s.heap) {i:Nat} {mo:MO} {v:Value} (e:objs[i]?=some mo) (r:VRel W ρ s.heap (.ref i) v):∃a,v=.ref a∧ρ[i]?=some a∧ObjIs W ρ s.heap a mo:=by
 obtain ⟨a,q,rfl⟩:=r
 exact ⟨a,rfl,q,R.objs i mo a e q⟩
theorem ORel.list (R:ORel W ρ objs s.heap) {i:Nat} {xs:List FV} {v:Value} (e:listAt objs i=some xs) (r:VRel W ρ s.heap (.ref i) v):
  ∃a vs n,v=.ref a∧ρ[i]?=some a∧s.heap.get? a=some {cls:=.type "list",data:=.seq vs n}∧All2 (FRel s.heap) xs vs.toList∧xs.length=vs.size:=by
 obtain ⟨a,rfl,q,vs,n,g,al⟩:=R.at (listAt_is e) r
 exact ⟨a,vs,n,rfl,q,g,al,by rw [al.len,Array.length_toList]⟩
theorem Ok.set (R:ORel W ρ objs s.heap) {h':Heap} {i:Nat} {a:Addr} {mo:MO} (q:ρ[i]?=some a) (k:∀b o,b≠a→s.heap.get? b=some o→h'.get? b=some o) (ni:∀o,s.heap.get? a=some o→¬Hard o) (x:KeepImm s.heap h'→ObjIs W ρ h' a mo) (tk:Nat):
  Ok W ρ s ρ (objs.set i mo) {s with heap:=h',toks:=tk}:=by
 have ma:a∈ρ:=List.mem_of_getElem? q
 have ki:KeepImm s.heap h':=fun b o e im=>k b o (fun hb=>by subst hb;exact R.notImm ma e im) e
 refine ⟨.refl _ _,⟨fun b o e n=>k b o (fun hb=>n (hb▸ma)) e,fun b o e cq=>k b o (fun hb=>by subst hb;exact ni o e cq) e,rfl,fun _ _ e=>e,id⟩,⟨by simp [R.len],R.nodup,fun j mo' b e1 e2=>?_,R.new,fun b o e=>k b o (fun hb=>?_) (R.base b o e)⟩⟩
 ·by_cases hj:i=j
  ·subst hj
   rw [q] at e2;cases e2
   obtain ⟨hl,rfl⟩:=List.getElem?_eq_some_iff.mp e1
   simp only [List.getElem_set_self]
   exact x ki
  ·rw [List.getElem?_set_ne hj] at e1
   have hb:b≠a:=fun hb=>by
    subst hb
    exact hj ((List.getElem?_inj (List.getElem?_eq_some_iff.mp q).1 R.nodup).mp (q.trans e2.symm))
   exact ObjIs.move (k b · hb) ki (fun nm=>k _ _ fun h=>nm (h▸ma)) (R.objs j mo' b e1 e2)
 ·subst hb;exact dead e (R.new _ ma)
theorem pushed {h:Heap} (o:Obj):∀a o',h.get? a=some o'→(h.push o).get? a=some o':=fun _ _ e=>getpush e
theorem Ok.newList (R:ORel W ρ objs s.heap) {vs:Array Value} {xs:List FV} (al:All2 (FRel s.heap) xs vs.toList) (k:Nat):
  PostE W ρ s (.ref objs.length) (objs++[.list xs]) (.ref s.heap.objs.size) {s with heap:=s.heap.push {cls:=.type "list",data:=.seq vs},toks:=k}:=
 PostE.newList R (pushed _) (fresh_size _) (Heap.get?_push_size _ rfl) (al.imp fun _ _=>FRel.keep (keepImm_push _ _)) k
theorem fint {i:Int} {t:Tok}:VRel W ρ s.heap (.fv (.int i)) (.int i t):=⟨t,rfl⟩
theorem fbool {b:Bool}:VRel W ρ s.heap (.fv (.bool b)) (.bool b):=rfl
theorem fstr {l:List Nat} {t:Tok}:VRel W ρ s.heap (.fv (.str l)) (.str ⟨l.toArray⟩ t):=⟨t,rfl⟩
section
variable {β:Type} {r:β} {v:MV} {va:Value} {G:Value→Prop}
@[elab_as_elim] theorem wIk {f:Int→Option β} (e:wI f v=some r) (ra:VRel W ρ s.heap v va) (k:∀i t,f i=some r→G (.int i t)):G va:=by
 cases v with
 |fv x=>cases x with|int i=>exact ra.elim fun t q=>q▸k i t e|_=>exact non e
 |_=>exact non e
@[elab_as_elim] theorem wSk {f:List Nat→Option β} (e:wS f v=some r) (ra:VRel W ρ s.heap v va) (k:∀l t,f l=some r→G (.str ⟨l.toArray⟩ t)):G va:=by
 cases v with
 |fv x=>cases x with|str i=>exact ra.elim fun t q=>q▸k i t e|_=>exact non e
 |_=>exact non e
theorem wFk {f:FV→Option β} {G:Prop} (e:wF f v=some r) (ra:VRel W ρ s.heap v va) (k:∀x,FRel s.heap x va→f x=some r→G):G:=by
 cases v with|fv x=>exact k x ra e|_=>exact non e
theorem wRk {f:Nat→Option β} {G:Prop} (e:wR f v=some r) (ra:VRel W ρ s.heap v va) (k:∀i,VRel W ρ s.heap (.ref i) va→f i=some r→G):G:=by
 cases v with|ref x=>exact k x ra e|_=>exact non e
theorem wGk {f:Nat→Option β} {G:Prop} (e:wG f v=some r) (ra:VRel W ρ s.heap v va) (k:∀g,va=W.gl g→f g=some r→G):G:=by
 cases v with|gl x=>exact k x ra e|_=>exact non e
theorem wLk {f:Nat→List FV→Option β} {G:Prop} (e:wL objs f v=some r) (R:ORel W ρ objs s.heap) (ra:VRel W ρ s.heap v va)
  (k:∀(i:Nat) (a:Addr) (vs:Array Value) (n:Nat) (xs:List FV),va=.ref a→ρ[i]?=some a→s.heap.get? a=some {cls:=.type "list",data:=.seq vs n}→All2 (FRel s.heap) xs vs.toList→xs.length=vs.size→f i xs=some r→G):G:=
 wRk e ra fun i ra e=>bindk e fun xs hx e=>by
  obtain ⟨a,vs,n,q,g,h1,h2,h3⟩:=R.list hx ra
  exact k i a vs n xs q g h1 h2 h3 e
variable {vs:List MV} {us:List Value} {R:MV→Value→Prop} {H:List Value→Prop}
@[elab_as_elim] theorem w0k {f:Option β} (e:w0 f vs=some r) (rs:All2 R vs us) (k:f=some r→H []):H us:=by
 cases rs with|nil=>exact k e|cons _ _=>exact non e
@[elab_as_elim] theorem w1k {f:MV→Option β} (e:w1 f vs=some r) (rs:All2 R vs us) (k:∀a u,R a u→f a=some r→H [u]):H us:=by
 cases rs with
 |nil=>exact non e
 |cons p q=>cases q with|nil=>exact k _ _ p e|cons _ _=>exact non e
@[elab_as_elim] theorem w2k {f:MV→MV→Option β} (e:w2 f vs=some r) (rs:All2 R vs us) (k:∀a b u v,R a u→R b v→f a b=some r→H [u,v]):H us:=by
 cases rs with
 |nil=>exact non e
 |cons p q=>
  cases q with
  |nil=>exact non e
  |cons p' q=>cases q with|nil=>exact k _ _ _ _ p p' e|cons _ _=>exact non e
@[elab_as_elim] theorem w3k {f:MV→MV→MV→Option β} (e:w3 f vs=some r) (rs:All2 R vs us) (k:∀a b c u v w,R a u→R b v→R c w→f a b c=some r→H [u,v,w]):H us:=by
 cases rs with
 |nil=>exact non e
 |cons p q=>exact w2k (f:=f _) (H:=fun l=>H (_::l)) (by cases q with|nil=>exact e|cons p q=>cases q with|nil=>exact e|cons p q=>cases q with|nil=>exact e|cons _ _=>exact e) q fun a b u v=>k _ a b _ u v p
end
end
section
variable {A:Around} {W:W0} {ρ:List Addr} {objs objs':List MO} {s:Shared}
theorem lim_fits {n:Nat} (h:n≤lim):n≤sizeLine:=Nat.le_trans h (by decide)
theorem list_isList {h:Heap} {a:Addr} {vs:Array Value} {n:Nat} (g:h.get? a=some {cls:=.type "list",data:=.seq vs n}):h.IsList a vs:=⟨_,g,rfl,n,rfl⟩
theorem mul_ok {a:List Nat} {n:Int} {t u:Tok} (h0:0≤n) (h1:n≤1000) (h2:a.length≤100) (R:ORel W ρ objs s.heap):
  wpAny (model W.prog W.w) A (binaryOp .Mult (.str ⟨a.toArray⟩ t) (.int n u)) (PostE W ρ s (.fv (.str (List.replicate n.toNat a).flatten)) objs) NoE s:=by
 have hmul:a.length*n.toNat≤100000:=Nat.mul_le_mul h2 (Int.toNat_le.mpr h1)
 refine P.mul_str (by rw [Bool.or_eq_false_iff];exact ⟨decide_eq_false (Int.not_lt.mpr (Int.le_trans (by decide) h0)),decide_eq_false (by omega)⟩) (fun hn _=>?_) (fun _ _=>?_) ?_
 ·rw [str_len]
  have:(100:Int)≤(2^63-1)/n:=by
   rw [Int.le_ediv_iff_mul_le (by omega)];omega
  omega
 ·rw [str_len]
  unfold Builtin.Str.tooLong
  exact decide_eq_false (by unfold sizeLine;omega)
 ·split
  ·rename_i hn
   have:n.toNat=0:=by omega
   rw [this]
   exact ⟨by decide,PostE.toks R (mv:=.fv (.str _)) ⟨_,rfl⟩ _⟩
  ·split
   ·rename_i hn hx
    rw [Bool.or_eq_true] at hx
    have:(List.replicate n.toNat a).flatten=a:=by
     rcases hx with hx|hx
     ·have:n=1:=by simpa using hx
      subst this;simp
     ·rw [str_len] at hx
      have:a=[]:=by simpa using hx
      subst this;simp
    rw [this]
    exact PostE.same R fstr
   ·have hr:=reps a n.toNat #[]
    rw [hr]
    refine ⟨?_,?_⟩
    ·show (⟨_⟩:Str).length≤sizeLine
     rw [str_len]
     refine lim_fits ?_
     have:([]++(List.replicate n.toNat a).flatten).length=n.toNat*a.length:=by simp
     show (#[].toList++(List.replicate n.toNat a).flatten).length≤lim
     rw [show (#[]:Array Nat).toList=[] from rfl,this,Nat.mul_comm];exact hmul
    ·exact PostE.toks R (mv:=.fv (.str _)) ⟨_,rfl⟩ _
theorem binop_ok {o:BO} {a b mv:MV} {va vb:Value} (e:binop o a b objs=some (mv,objs')) (R:ORel W ρ objs s.heap) (ra:VRel W ρ s.heap a va) (rb:VRel W ρ s.heap b vb):
  wpAny (model W.prog W.w) A (binaryOp o.op va vb) (PostE W ρ s mv objs') NoE s:=by
 cases a with
 |fv x=>
  cases x with
  |int i=>
   obtain ⟨t,rfl⟩:=ra
   exact wIk e rb fun j u e=>mapk e fun c e q=>injPm q (arith_ok e (PostE.toks R fint _))
  |str l=>
   obtain ⟨t,rfl⟩:=ra
   cases o with
   |add=>exact wSk e rb fun l' u e=>ifk e fun h e=>inj2m e (PyProof.Rows.add_str (fun t' tk=>by rw [str_append];exact PostE.toks R fstr _) (by rw [str_len,str_len];exact lim_fits h))
   |mul=>exact wIk e rb fun n u e=>ifk e fun h e=>inj2m e (mul_ok (dec2 (decA h).1).1 (dec2 (decA h).1).2 (decA h).2 R)
   |_=>exact non e
  |_=>exact non e
 |ref i=>
  cases o with
  |add=>
   have e:addR .add (.ref i) b objs=_:=e
   refine wLk e R ra fun _ a vs n xs qa _ g al el e=>wLk e R rb fun _ b us m ys qb _ g' al' el' e=>ifk e fun h e=>inj2m e ?_
   subst qa;subst qb
   refine P.add_list g g' ?_ (by rw [←el,←el'];exact Nat.le_trans h (by decide))
   exact Ok.newList R (by rw [Array.toList_append];exact al.append al') _
  |_=>exact non e
 |_=>exact non e
theorem occ_one (c:Nat) (b:List Nat):(!(Builtin.Str.occurrences (⟨b.toArray⟩:Str) ⟨[c].toArray⟩ 0 (⟨b.toArray⟩:Str).length 1).isEmpty)=b.contains c:=by
 have:=StrLaws.found_one ⟨b.toArray⟩ c
 rw [show ([c].toArray)= #[c] from rfl,this]
 simp
theorem none_eq {mv:MV} {v:Value} (r:VRel W ρ s.heap mv v) (h:mv≠.unb) (hg:∀g,mv=.gl g→v≠.none):(v==Value.none)=(mv== .fv .none):=by
 cases mv with
 |fv x=>
  cases x with
  |none=>cases r;rfl
  |bool b=>cases r;rfl
  |int i=>obtain ⟨t,rfl⟩:=r;rfl
  |str l=>obtain ⟨t,rfl⟩:=r;rfl
  |pair x y=>obtain ⟨a,u,w,n,rfl,_⟩:=r;rfl
 |ref i=>obtain ⟨a,_,rfl⟩:=r;rfl
 |rng a b c=>obtain ⟨a,t,u,w,rfl,_⟩:=r;rfl
 |edict=>obtain ⟨a,_,rfl,_⟩:=r;rfl
 |gl g=>
  have:v≠.none:=hg g rfl
  rw [beq_eq_false_iff_ne.mpr this];rfl
 |unb=>exact absurd rfl h
theorem ints_of {h:Heap} {xs:List FV} {vs:List Value} (r:All2 (FRel h) xs vs) (q:xs.all FV.isInt=true):∃ns,xs=ns.map .int∧IntsAre vs ns:=by
 induction r with
 |nil=>exact ⟨[],rfl,.nil⟩
 |cons p r ih=>
  have q:=Bool.and_eq_true_iff.mp q
  obtain ⟨ns,e,i⟩:=ih q.2
  obtain ⟨k,rfl⟩:=FV.isInt_is q.1
  obtain ⟨t,rfl⟩:=p
  exact ⟨k::ns,congrArg _ e,.cons k t i⟩
theorem any_contains (a:Int):∀ns:List Int,(ns.any fun x=>x==a)=(ns.map FV.int).contains (.int a)
 |[]=>rfl
 |n::r=>by
  rw [List.any_cons,List.map_cons,List.contains_cons,any_contains a r]
  congr 1
  by_cases h:n=a
  ·subst h;simp
  ·have:FV.int a≠FV.int n:=fun e=>h (by injection e with e;exact e.symm)
   rw [beq_eq_false_iff_ne.mpr h,beq_eq_false_iff_ne.mpr this]
section
variable {a b:MV} {va vb:Value} {c:Bool}
theorem eqM_ok {d:Nat} (rm:Room (d+8) A) (e:eqM objs a b=some c) (R:ORel W ρ objs s.heap) (ra:VRel W ρ s.heap a va) (rb:VRel W ρ s.heap b vb):
  wpAny (model W.prog W.w) A (compareOp .Eq va vb) (PostE W ρ s (.fv (.bool c)) objs) NoE s∧wpAny (model W.prog W.w) A (compareOp .NotEq va vb) (PostE W ρ s (.fv (.bool !c)) objs) NoE s:=by
 cases a with
 |fv x=>
  cases x with
  |int i=>
   obtain ⟨t,rfl⟩:=ra
   exact wIk e rb fun j u e=>inj1m e ⟨PyProof.Rows.eq_int (PostE.same R fbool),PyProof.Rows.ne_int (PostE.same R fbool)⟩
  |str i=>
   obtain ⟨t,rfl⟩:=ra
   exact wSk e rb fun j u e=>inj1m e ⟨PyProof.Rows.eq_str (by rw [str_eq];exact PostE.same R fbool),PyProof.Rows.ne_str (by show PostE W ρ s _ objs (.bool (!(_==_))) s;rw [str_eq];exact PostE.same R fbool)⟩
  |_=>exact non e
 |ref i=>
  refine wLk e R ra fun _ a vs n xs qa _ g al el e=>wLk e R rb fun _ b us m ys qb _ g' al' el' e=>ifk e fun h e=>inj1m e ?_
  subst qa;subst qb
  obtain ⟨as,r1⟩:=list_reads g al
  obtain ⟨bs,r2⟩:=list_reads g' al'
  have hroom:A.units+64<cLine:=Nat.lt_of_le_of_lt (Nat.add_le_add_right (Nat.le_trans (Nat.le_add_right _ _) rm.units) 64) (by decide)
  obtain ⟨p,S,K,hf,h1,h2⟩:=kinds h
  have q:Spec.same (.list (xs.map FV.py)) (.list (ys.map FV.py))=(xs==ys):=K.sames h1 h2
  have nm:=SeqAt.noMix_of_shape S.list hf _ _ (K.hass h1) (K.hass h2)
  exact ⟨eq_dataH_same r1 r2 (K.shaped h1) (K.shaped h2) hroom nm (q▸PostE.same R fbool),ne_dataH_same r1 r2 (K.shaped h1) (K.shaped h2) hroom nm (q▸PostE.same R fbool)⟩
 |_=>exact non e
theorem intM_ok {o:CmpOp} {f:Int→Int→Bool} (q:∀{i j t u},wpAny (model W.prog W.w) A (compareOp o (.int i t) (.int j u)) (PostE W ρ s (.fv (.bool (f i j))) objs) NoE s) (e:intM f a b=some c) (ra:VRel W ρ s.heap a va) (rb:VRel W ρ s.heap b vb):
  wpAny (model W.prog W.w) A (compareOp o va vb) (PostE W ρ s (.fv (.bool c)) objs) NoE s:=
 wIk e ra fun i t e=>wIk e rb fun j u e=>inj1m e q
theorem isN_ok (e:isN a b=some c) (R:ORel W ρ objs s.heap) (ra:VRel W ρ s.heap a va) (rb:VRel W ρ s.heap b vb) (hg:∀g,W.gl g≠.none):
  vb=.none∧(va==Value.none)=c:=by
 refine wFk e rb fun x rb e=>?_
 cases x with
 |none=>
  by_cases h:a=.unb
  ·rw [if_pos h] at e;exact non e
  ·rw [if_neg h] at e
   exact ⟨rb,inj1m e (none_eq ra h fun g q=>by subst q;rw [show va=W.gl g from ra];exact hg g)⟩
 |_=>exact non e
theorem inM_ok {i:Int} {t:Tok} (e:inM objs i b=some c) (R:ORel W ρ objs s.heap) (rb:VRel W ρ s.heap b vb):
  wpAny (model W.prog W.w) A (compareOp .In (.int i t) vb) (PostE W ρ s (.fv (.bool c)) objs) NoE s:=by
 cases b with
 |fv x=>
  cases x with
  |pair x y=>
   cases x with
   |int x=>
    cases y with
    |int y=>
     obtain ⟨p,x,y,n,rfl,g,⟨t1,rfl⟩,⟨t2,rfl⟩⟩:=rb
     refine in_tuple_ints ⟨_,g,rfl,n,rfl⟩ (.cons _ t1 (.cons _ t2 .nil)) ?_
     refine inj1m e ?_
     rw [List.any_cons,List.any_cons,List.any_nil,Bool.or_false,Bool.beq_comm (a:=i),Bool.beq_comm (a:=i)]
     exact PostE.same R fbool
    |_=>exact non e
   |_=>exact non e
  |_=>exact non e
 |ref j=>
  refine wLk e R rb fun _ b vs n xs q _ g al el e=>ifk e fun h e=>inj1m e ?_
  subst q
  obtain ⟨ns,rfl,hi⟩:=ints_of al (decA h).1
  have hl:s.heap.IsList b vs.toList.toArray:=list_isList g
  refine in_list_ints hl hi ?_
  rw [any_contains]
  exact PostE.same R fbool
 |_=>exact non e
theorem cmpop_ok {d:Nat} {o:CO} (rm:Room (d+8) A) (e:cmpop o a b objs=some c) (R:ORel W ρ objs s.heap) (ra:VRel W ρ s.heap a va) (rb:VRel W ρ s.heap b vb)
  (hg:∀g,W.gl g≠.none):
  wpAny (model W.prog W.w) A (compareOp o.op va vb) (PostE W ρ s (.fv (.bool c)) objs) NoE s:=by
 cases o with
 |eq=>exact (eqM_ok rm e R ra rb).1
 |ne=>exact mapk e fun c' e q=>q▸(eqM_ok rm e R ra rb).2
 |lt=>exact intM_ok (PyProof.Rows.lt_int (PostE.same R fbool)) e ra rb
 |le=>exact intM_ok (le_int (PostE.same R fbool)) e ra rb
 |gt=>exact intM_ok (PyProof.Rows.gt_int (PostE.same R fbool)) e ra rb
 |ge=>exact intM_ok (ge_int (PostE.same R fbool)) e ra rb
 |is=>
  obtain ⟨rfl,q⟩:=isN_ok e R ra rb hg
  exact is_none_gen (q▸PostE.same R fbool)
 |isNot=>
  cases b with
  |fv y=>
   cases y with
   |bool y=>
    refine wFk e ra fun x ra e=>?_
    cases x with
    |bool x=>cases ra;cases rb;exact inj1m e (isnot_bool (PostE.same R fbool))
    |_=>exact non e
   |none=>
    refine mapk e fun c' e q=>?_
    obtain ⟨rfl,q'⟩:=isN_ok e R ra rb hg
    exact q▸isnot_none_gen (q'▸PostE.same R fbool)
   |_=>exact non e
  |_=>exact non e
 |notIn=>
  refine wSk e ra fun l t e=>?_
  cases l with
  |nil=>exact non e
  |cons x l=>
   cases l with
   |nil=>exact wSk e rb fun m u e=>ifk e fun _ e=>inj1m e (notIn_str (by rw [occ_one];exact PostE.same R fbool))
   |cons _ _=>exact non e
 |inn=>exact wIk e ra fun i t e=>inM_ok e R rb
end
end
end
end Mine
end
section
open PySem PySem.W PyProof.Rows PySem.Spec
namespace Mine
section
noncomputable def BI.val:BI→Value
 |.len=>.builtin "len" |.range=>.type "range" |.listRange=>.type "list" |.min=>.builtin "min" |.max=>.builtin "max" |.ord=>.builtin "ord" |.chr=>.builtin "chr" |.strInt=>.type "str"
 |.hex=>.builtin "hex" |.sorted=>.builtin "sorted" |.next=>.builtin "next" |.iter=>.builtin "iter"
theorem ints?_is {xs:List FV}:∀{ns:List Int},ints? xs=some ns→xs=ns.map .int:=by
 induction xs with
 |nil=>exact fun e=>Option.some.inj e▸rfl
 |cons x r ih=>
  intro ns e
  cases x with
  |int i=>exact mapk e fun ms e q=>q▸congrArg (FV.int i:: ·) (ih e)
  |_=>exact non e
theorem ints_all (ns:List Int):(ns.map FV.int).all FV.isInt=true:=by rw [List.all_map];exact List.all_eq_true.mpr fun _ _=>rfl
theorem all2_ints {h:Heap} {vs:List Value} {ns:List Int} (r:IntsAre vs ns):All2 (FRel h) (ns.map .int) vs:=by
 induction r with
 |nil=>exact .nil
 |cons n t _ ih=>exact .cons ⟨t,rfl⟩ ih
theorem maxInts_is {ns:List Int} {m:Int} (e:maxInts ns=some m):m∈ns∧∀a∈ns,a≤m:=by
 cases ns with
 |nil=>cases e
 |cons x r=>
  injection e with e;subst e
  have:∀(l:List Int) (x:Int),(l.foldl (fun m y=>if m<y then y else m) x)∈x::l∧∀a∈x::l,a≤l.foldl (fun m y=>if m<y then y else m) x:=by
   intro l
   induction l with
   |nil=>intro x;simp
   |cons y l ih=>
    intro x
    obtain ⟨h1,h2⟩:=ih (if x<y then y else x)
    rw [List.foldl_cons]
    refine ⟨?_,fun a ha=>?_⟩
    ·rcases List.mem_cons.mp h1 with h|h
     ·rw [h];split<;>simp
     ·exact List.mem_cons_of_mem _ (List.mem_cons_of_mem _ h)
    ·have h3:=h2 _ (List.mem_cons_self ..)
     have h4:x≤(if x<y then y else x)∧y≤(if x<y then y else x):=by split<;>omega
     rcases List.mem_cons.mp ha with h|h
     ·subst h;exact Int.le_trans h4.1 h3
     ·rcases List.mem_cons.mp h with h|h
      ·subst h;exact Int.le_trans h4.2 h3
      ·exact h2 a (List.mem_cons_of_mem _ h)
  exact this r x
theorem insertInt_perm (x:Int):∀l:List Int,(insertInt x l).Perm (x::l)
 |[]=>.refl _
 |y::r=>by
  unfold insertInt;split
  ·exact .refl _
  ·exact ((insertInt_perm x r).cons y).trans (.swap _ _ _)
theorem insertInt_sorted (x:Int):∀{l:List Int},l.Pairwise (·≤·)→(insertInt x l).Pairwise (·≤·)
 |[],_=>by simp [insertInt]
 |y::r,h=>by
  unfold insertInt;split
  ·rename_i q
   refine List.pairwise_cons.mpr ⟨fun a ha=>?_,h⟩
   rcases List.mem_cons.mp ha with e|e
   ·omega
   ·have:=(List.pairwise_cons.mp h).1 a e;omega
  ·rename_i q
   refine List.pairwise_cons.mpr ⟨fun a ha=>?_,insertInt_sorted x (List.pairwise_cons.mp h).2⟩
   rcases List.mem_cons.mp ((insertInt_perm x r).mem_iff.mp ha) with e|e
   ·omega
   ·exact (List.pairwise_cons.mp h).1 a e
theorem sortInts_perm:∀l:List Int,(sortInts l).Perm l
 |[]=>.refl _
 |x::r=>(insertInt_perm x _).trans ((sortInts_perm r).cons x)
theorem sortInts_sorted:∀l:List Int,(sortInts l).Pairwise (·≤·)
 |[]=>.nil
 |x::r=>insertInt_sorted x (sortInts_sorted r)
theorem sorted_unique {l m:List Int} (h1:l.Pairwise (·≤·)) (h2:m.Pairwise (·≤·)) (p:l.Perm m):l=m:=
 p.eq_of_pairwise (fun a b _ _ h h'=>Int.le_antisymm h h') h1 h2
theorem digit_str:∀n:Nat,n<10→Str.ofString (toString (n:Int))=⟨[48+n].toArray⟩:=by decide+kernel
theorem hex_is {i:Int} (h:0≤i):baseText "0x" 16 i=⟨(hexOf i).toArray⟩:=by
 rw [baseText_nonneg h]
 have e1:Str.ofString "" =⟨[].toArray⟩:=by decide+kernel
 have e2:Str.ofString "0x" =⟨[48,120].toArray⟩:=by decide+kernel
 have e3:Str.ofString (String.ofList (Nat.toDigits 16 i.natAbs))=⟨((Nat.toDigits 16 i.toNat).map Char.toNat).toArray⟩:=by
  rw [Str.ofString_eq_toList]
  have:i.natAbs=i.toNat:=by omega
  simp [this]
 rw [e1,e2,e3,str_append,str_append];rfl
theorem nb {x:Int} (h:x.natAbs<big): -4611686018427387903≤x∧x≤4611686018427387903:=by unfold big at h;omega
theorem rngFrom_get (c:Int) (n:Nat):∀(a:Int) (j:Nat),j<n→(rngFrom c n a)[j]?=some (.int (a+j*c)):=by
 induction n with
 |zero=>exact fun _ _ h=>absurd h (Nat.not_lt_zero _)
 |succ n ih=>
  intro a j h
  cases j with
  |zero=>exact congrArg (fun x=>some (FV.int x)) ((Int.add_zero a).symm.trans (congrArg (a+ ·) (Int.zero_mul c).symm))
  |succ j=>exact (ih (a+c) j (Nat.lt_of_succ_lt_succ h)).trans (congrArg (fun x=>some (FV.int x)) (by rw [Int.natCast_succ,Int.add_mul,Int.one_mul,Int.add_assoc,Int.add_comm c]))
theorem rngFrom_len (c:Int) (n:Nat):∀a:Int,(rngFrom c n a).length=n:=by
 induction n with
 |zero=>exact fun _=>rfl
 |succ n ih=>exact fun a=>congrArg (· +1) (ih (a+c))
theorem all2_of {α β:Type} {R:α→β→Prop} {l:List α}:∀{m:List β},l.length=m.length→(∀(j:Nat) (a:α) (b:β),l[j]?=some a→m[j]?=some b→R a b)→All2 R l m:=by
 induction l with
 |nil=>intro m h _;cases m with|nil=>exact .nil|cons _ _=>cases h
 |cons a l ih=>intro m h f;cases m with|nil=>cases h|cons b m=>exact .cons (f 0 a b rfl rfl) (ih (Nat.succ.inj h) fun j=>f (j+1))
theorem all2_0 {α β:Type} {R:α→β→Prop} {us:List β} (h:All2 R [] us):us=[]:=by cases h;rfl
theorem all2_1 {α β:Type} {R:α→β→Prop} {a:α} {us:List β} (h:All2 R [a] us):∃u,us=[u]∧R a u:=by cases h with|cons p q=>cases q;exact ⟨_,rfl,p⟩
theorem all2_2 {α β:Type} {R:α→β→Prop} {a b:α} {us:List β} (h:All2 R [a,b] us):∃u v,us=[u,v]∧R a u∧R b v:=by
 cases h with|cons p q=>obtain ⟨v,rfl,r⟩:=all2_1 q;exact ⟨_,_,rfl,p,r⟩
theorem all2_3 {α β:Type} {R:α→β→Prop} {a b c:α} {us:List β} (h:All2 R [a,b,c] us):∃u v w,us=[u,v,w]∧R a u∧R b v∧R c w:=by
 cases h with|cons p q=>obtain ⟨v,w,rfl,r⟩:=all2_2 q;exact ⟨_,_,_,rfl,p,r⟩
section
variable {A:Around} {W:W0} {ρ:List Addr} {objs objs':List MO} {s:Shared}
theorem rangeSize_of {a b c:Int} (hc:0<c) (ha:a.natAbs<big) (hb:b.natAbs<big) (hc':c≤1000):Builtin.Range.rangeSize a b c=(rngCount a b c:Int)∧(rngCount a b c:Int)≤(b-a).toNat∧Builtin.Range.small a b c=true:=by
 have h1:Builtin.Range.rangeSize a b c=(rngCount a b c:Int)∧(rngCount a b c:Int)≤(b-a).toNat:=by
  unfold Builtin.Range.rangeSize rngCount
  rw [if_pos hc]
  by_cases h:a<b
  ·rw [if_pos h,if_pos h]
   have h0:0≤(b-a-1)/c:=Int.ediv_nonneg (Int.sub_nonneg_of_le (Int.sub_pos_of_lt h)) (Int.le_of_lt hc)
   have h2:(b-a-1)/c+1≤b-a:=Int.add_le_of_le_sub_right (Int.ediv_le_self _ (Int.sub_nonneg_of_le (Int.sub_pos_of_lt h)))
   rw [Int.toNat_of_nonneg (Int.le_trans h0 (Int.le_add_one (Int.le_refl _)))]
   exact ⟨rfl,Int.le_trans h2 (Int.self_le_toNat _)⟩
  ·rw [if_neg h,if_neg h];exact ⟨rfl,Int.natCast_nonneg _⟩
 refine ⟨h1.1,h1.2,?_⟩
 have f:∀x:Int,-9223372036854775808≤x→x<9223372036854775808→Builtin.Range.rangeFitsLong x=true:=fun x l u=>by
  unfold Builtin.Range.rangeFitsLong;rw [decide_eq_true (show-(2^63)≤x from l),decide_eq_true (show x<2^63 from u)];rfl
 have n:∀x:Int,x.natAbs<big→Builtin.Range.rangeFitsLong x=true:=fun x h=>f x (Int.le_trans (by decide) (nb h).1) (Int.lt_of_le_of_lt (nb h).2 (by decide))
 unfold Builtin.Range.small
 rw [h1.1,n a ha,n b hb,f c (Int.le_trans (by decide) (Int.le_of_lt hc)) (Int.lt_of_le_of_lt hc' (by decide)),f _ (Int.le_trans (by decide) (Int.natCast_nonneg _)) (Int.lt_of_le_of_lt h1.2 (by have:=nb ha;have:=nb hb;omega)),if_pos hc,
  f (b+(c-1)) (Int.le_trans (by decide) (Int.add_le_add (nb hb).1 (Int.sub_nonneg_of_le hc))) (Int.lt_of_le_of_lt (Int.add_le_add (nb hb).2 (Int.sub_le_sub_right hc' 1)) (by decide)),Bool.or_true]
 rfl
theorem next_list {E:Value→Shared→Prop} {prog:Program} {w:World} {it l:Addr} {i:Nat} {items:Array Value} {x:Value} {Q:Value→Shared→Prop} (hit:s.heap.IsListIter it l i)
  (hl:s.heap.IsList l items) (hx:items[i]?=some x)
  (hQ:∀h',h'.IsListIter it l (i+1)→Heap.SameBut it s.heap h'→Q x {s with heap:=h'}):
  wpAny (model prog w) A (call (.builtin "next") [.ref it]) Q E s:=by
 obtain ⟨o,ho,hc,hd⟩:=id hit
 obtain ⟨ol,hol,_,nl,hdl⟩:=hl
 refine Calls.call_function_entry (by decide+kernel) (by decide+kernel) kdk_entry_next (kdk_args_next _) ?_
 unfold Builtin.«next»
 refine wpAny_bind (m:=someArgs "next" 1 2 _) (wpAny_of_eq (a:=[Value.ref it]) (by first|rfl|kernel_rfl!) ?_)
 dsimp only
 refine wpAny_bind (wpAny_specialOf (name:=Str.ofString "__next__") hit.typeIs slot_listiter_next.lookup ?_)
 refine wpAny_ite_split (fun hab=>absurd hab (by decide)) (fun _=>?_)
 refine wpAny_bind (wpAny_callSpecial?_slot (name:=Str.ofString "__next__") hit.typeIs slot_listiter_next
  (wpAny_call_entry slot_listiter_next hit.typeIs entry_listiter_next ?_ (args_listiter_next _)))
 show wpAny _ _ (field (.ref it) 0>>=_) _ _ s
 refine wpAny_bind (wpAny_field ho hd (x:=.ref l) rfl ?_)
 show wpAny _ _ (if (Value.ref l==Value.none)=true then _ else _) _ _ s
 rw [if_neg (show ¬((Value.ref l==Value.none)=true) from Bool.false_ne_true)]
 show wpAny _ _ (field (.ref it) 1>>=_) _ _ s
 refine wpAny_bind (wpAny_field ho hd (x:=.int i 0) rfl ?_)
 show wpAny _ _ (seqItems? (.ref l)>>=_) _ _ s
 refine wpAny_bind (wpAny_seqItems hol hdl ?_)
 simp only [Int.toNat_natCast,hx]
 refine wpAny_bind (wpAny_setField ho hd (by simp) (wpAny_pure ⟨x,rfl,wpAny_pure ⟨x,rfl,hQ _ ?_ (Heap.SameBut.update ..)⟩⟩))
 exact ⟨_,Heap.get?_update_self _ ho (Obj.isFreed_of_fields (Obj.data_mapFields hd _)),(Obj.cls_mapFields ..).trans hc,by
  rw [Obj.data_mapFields hd];simp [rawInt]⟩
theorem iter_list {E:Value→Shared→Prop} {prog:Program} {w:World} {l:Addr} {items:Array Value} {Q:Value→Shared→Prop} (hl:s.heap.IsList l items)
  (hQ:Q (.ref s.heap.objs.size) {s with heap:=s.heap.push {cls:=.type "list_iterator",data:=.fields #[.ref l,.int 0 0]}}):
  wpAny (model prog w) A (call (.builtin "iter") [.ref l]) Q E s:=by
 refine Calls.call_function_entry (by decide+kernel) (by decide+kernel) kdk_entry_iter (kdk_args_iter _) ?_
 unfold Builtin.«iter»
 refine wpAny_bind (m:=someArgs "iter" 1 2 _) (wpAny_of_eq (a:=[Value.ref l]) (by first|rfl|kernel_rfl!) ?_)
 show wpAny _ _ (pyIter (.ref l)>>=_) _ _ _
 refine wpAny_bind (wpAny_pyIter_list hl ?_)
 exact wpAny_pure ⟨_,rfl,hQ⟩
theorem notSys {a:Addr} (R:ORel W ρ objs s.heap) (hsm:W.h0.get? sysModules≠none) (m:a∈ρ):(a==sysModules)=false:=by
 rw [beq_eq_false_iff_ne]
 rintro rfl
 exact hsm (R.new _ m)
theorem mem_of_get {i:Nat} {a:Addr} (e:ρ[i]?=some a):a∈ρ:=List.mem_of_getElem? e
theorem ints_same {ns ns':List Int} (h:ns.map FV.int=ns'.map .int):ns=ns':=by
 have:=congrArg (List.map fun x=>match x with|FV.int i=>i|_=>0) h
 rw [List.map_map,List.map_map] at this
 exact (List.map_id ns).symm.trans (this.trans (List.map_id ns'))
section
variable {v mv:MV} {u:Value}
theorem len_ok (e:lenM objs v=some (mv,objs')) (R:ORel W ρ objs s.heap) (ru:VRel W ρ s.heap v u) (hsm:W.h0.get? sysModules≠none):
  wpAny (model W.prog W.w) A (call (.builtin "len") [u]) (PostE W ρ s mv objs') NoE s:=by
 have fit:∀{n:Nat},n≤lenLim→(n:Int)<2^63:=fun h=>Int.lt_of_le_of_lt (Int.ofNat_le.mpr h) (by decide)
 cases v with
 |fv x=>
  refine wSk e ru fun l t e=>ifk e fun h e=>inj2m e (PyProof.Rows.len_str ?_ ?_)
  ·rw [str_len];exact Int.not_le.mpr<|Int.lt_of_le_of_lt (Int.ofNat_le.mpr h) (show ((lim:Nat):Int)<2^63 by decide)
  ·rw [str_len];exact PostE.toks R fint _
 |ref i=>
  refine bindk e fun o ho e=>?_
  have ls:∀{a:Addr} {vs:Array Value} {n:Nat} {xs:List FV},s.heap.get? a=some {cls:=.type "list",data:=.seq vs n}→All2 (FRel s.heap) xs vs.toList→xs.length≤lenLim→
    wpAny (model W.prog W.w) A (call (.builtin "len") [.ref a]) (PostE W ρ s (.fv (.int xs.length)) objs) NoE s:=fun {a vs n xs} g al h=>by
   have el:xs.length=vs.size:=by rw [al.len,Array.length_toList]
   rw [el] at h ⊢
   exact len_list (list_isList g) (fit h) (PostE.toks R fint _)
  cases o with
  |list xs=>
   obtain ⟨a,rfl,q,vs,n,g,al⟩:=R.at ho ru
   exact ifk e fun h e=>inj2m e (ls g al h)
  |dict es=>
   obtain ⟨a,rfl,q,o,kvs,g,⟨es',ep,h1,h2⟩,al⟩:=R.at ho ru
   refine ifk e fun h e=>inj2m e ?_
   rw [al.len] at h ⊢
   exact call_len_dict (knd:=intKind W.prog W.w) (kvs:=kvs) (notSys R hsm (mem_of_get q)) ⟨o,es',ep,g,h1,h2⟩ (fit h) (PostE.toks R fint _)
  |fz xs=>
   obtain ⟨a,rfl,q,g,vs,n,eq,al⟩:=R.at ho ru
   exact ifk e fun h e=>inj2m e (ls (eq▸g) al h)
  |_=>exact non e
 |_=>exact non e
theorem max_ok (rm:A.handled=none) {a:Addr} {vs:Array Value} {n:Nat} {ns:List Int} {m:Int} (R:ORel W ρ objs s.heap) (g:s.heap.get? a=some {cls:=.type "list",data:=.seq vs n}) (al:All2 (FRel s.heap) (ns.map .int) vs.toList) (hm:maxInts ns=some m):
  wpAny (model W.prog W.w) A (call (.builtin "max") [.ref a]) (PostE W ρ s (.fv (.int m)) objs) NoE s:=by
 obtain ⟨ns',hns,hi⟩:=ints_of al (ints_all ns)
 obtain rfl:=ints_same hns
 obtain ⟨ps,hp⟩:=hi.allInts.items
 have hl:s.heap.IsList a (intItems ps):=hp▸list_isList g
 have hnum:ns=ps.toList.map (·.1):=by rw [←hi.numsOf,←nums_intItems,←hp]
 have hlen:ns.length=ps.size:=by rw [hnum,List.length_map,Array.length_toList]
 obtain ⟨m1,m2⟩:=maxInts_is hm
 have hsz:0<ps.size:=hlen▸List.length_pos_of_mem m1
 refine max_intList rm hl hsz fun v h' tk hv k=>?_
 obtain ⟨t,rfl⟩:=intItems_at hv
 obtain ⟨h1,h2⟩:=argBest_gt (numAt ps) (ps.size-1)
 refine PostE.keepAll (mv:=.fv (.int m)) R k ⟨t,congrArg (Value.int · t) (Int.le_antisymm (m2 _ ?_) ?_)⟩ tk
 ·rw [hnum,numAt_eq];exact getD_mem (by rw [List.length_map,Array.length_toList];omega)
 ·rw [hnum] at m1
  obtain ⟨j,hj,rfl⟩:=mem_getD m1
  rw [List.length_map,Array.length_toList] at hj
  rw [←numAt_eq];exact h2 j (Nat.le_sub_one_of_lt hj)
theorem strInt_ok {i:Int} {t:Tok} (h0:0≤i) (h1:i<10) (R:ORel W ρ objs s.heap):wpAny (model W.prog W.w) A (call (.type "str") [.int i t]) (PostE W ρ s (.fv (.str [48+i.toNat])) objs) NoE s:=by
 obtain ⟨n,rfl⟩:=Int.eq_ofNat_of_zero_le h0
 have hn:n<10:=Int.ofNat_lt.mp h1
 refine P.str_of_int ?_ ?_
 ·show n.log2<_
  by_cases hz:n=0
  ·subst hz;decide
  ·rw [Nat.log2_lt hz]
   exact Nat.lt_of_lt_of_le hn (Nat.le_trans (by decide:10≤2^4) (Nat.pow_le_pow_right (by decide) (by decide)))
 ·rw [digit_str n hn];exact PostE.toks R (mv:=.fv (.str _)) ⟨_,rfl⟩ _
theorem biSorted_ok (rm:A.handled=none) {a:Addr} {vs:Array Value} {n:Nat} {ns:List Int} (R:ORel W ρ objs s.heap) (g:s.heap.get? a=some {cls:=.type "list",data:=.seq vs n}) (al:All2 (FRel s.heap) (ns.map .int) vs.toList) (h:ns.length≤60):
  wpAny (model W.prog W.w) A (call (.builtin "sorted") [.ref a]) (PostE W ρ s (.ref objs.length) (objs++[.list ((sortInts ns).map .int)])) NoE s:=by
 obtain ⟨ns',hns,hi⟩:=ints_of al (ints_all ns)
 obtain rfl:=ints_same hns
 have hl:s.heap.IsList a vs.toList.toArray:=list_isList g
 refine sorted_ints hl hi (by rw [IntsAre.length hi];exact Nat.lt_of_le_of_lt h (by decide)) fun out ns' a1 a2 a3=>?_
 obtain ⟨e,he⟩:=sortedAll_at s.heap vs.toList out
 obtain rfl:ns'=sortInts ns:=sorted_unique a3 (sortInts_sorted ns) (a2.trans (sortInts_perm ns).symm)
 refine PostE.newList R (fun _ _=>sortedAll_old) ?_ he (all2_ints a1) _
 exact noneOf fun o q=>Nat.not_lt.mpr (Nat.le_succ _) (Heap.lt_size q)
theorem lit_ok {i:Nat} {o:MO} (e:litM objs i o=some (mv,objs')) (ho:objs[i]?=some o) (R:ORel W ρ objs s.heap) (ru:VRel W ρ s.heap (.ref i) u):
  wpAny (model W.prog W.w) A (call (.builtin "next") [u]) (PostE W ρ s mv objs') NoE s:=by
 cases o with
 |lit k p=>
  refine bindk e fun xs hl e=>bindk e fun x hv e=>inj2m e ?_
  obtain ⟨a,rfl,q,la,qk,hit⟩:=R.at ho ru
  obtain ⟨vs,n,g,al⟩:=R.objs _ _ _ (listAt_is hl) qk
  obtain ⟨v,hv',pv⟩:=al.get hv
  refine next_list hit (list_isList g) (Array.getElem?_toList▸hv') fun h' hit' hs=>?_
  have K:Ok W ρ s ρ (objs.set i (.lit k (p+1))) {s with heap:=h'}:=
   Ok.set R q (mo:=.lit k (p+1)) (fun b o hb e=>(hs.2 b hb).trans e) (fun o e=>by obtain ⟨o',e',hc,_⟩:=hit;rw [e] at e';cases e';rintro (⟨c,h⟩|h)<;>rw [hc] at h<;>exact absurd h (by simp))
    (fun _=>⟨la,qk,hit'⟩) s.toks
  exact ⟨ρ,K,K.frel R pv⟩
 |_=>exact non e
end
theorem builtin_ok {d:Nat} {b:BI} {vs:List MV} {mv:MV} {us:List Value} (rm:Room d A) (hb:b≠.listRange) (e:builtin b vs objs=some (mv,objs')) (R:ORel W ρ objs s.heap) (rs:All2 (VRel W ρ s.heap) vs us) (hsm:W.h0.get? sysModules≠none):
  wpAny (model W.prog W.w) A (call b.val us) (PostE W ρ s mv objs') NoE s:=by
 cases b with
 |len=>exact w1k e rs fun v u ru e=>len_ok e R ru hsm
 |range=>
  have new:∀{a b c:Int} {x y z:Tok} {tk:Nat},PostE W ρ s (.rng a b c) objs (.ref s.heap.objs.size) {s with heap:=s.heap.push {cls:=.type "range",data:=.fields #[.int a x,.int b y,.int c z]},toks:=tk}:=
   fun {a b c x y z tk}=>PostE.keepAll R (pushed _) (mv:=.rng _ _ _) ⟨_,_,_,_,rfl,Heap.get?_push_size _ rfl⟩ _
  cases rs with
  |nil=>exact non e
  |cons p q=>
   cases q with
   |nil=>exact wIk e p fun b t e=>ifk e fun h e=>inj2m e (call_range_1 new)
   |cons p' q=>
    cases q with
    |nil=>exact wIk (G:=fun v=>wpAny _ _ (call _ [v,_]) _ _ _) e p fun a t e=>wIk (G:=fun v=>wpAny _ _ (call _ [_,v]) _ _ _) e p' fun b u e=>ifk e fun h e=>inj2m e (call_range_2 new)
    |cons _ _=>exact non e
 |listRange=>exact absurd rfl hb
 |min=>
  refine w2k e rs fun a b u v ra rb e=>wIk (G:=fun u=>wpAny _ _ (call _ [u,v]) _ _ _) e ra fun a t e=>wIk (G:=fun v=>wpAny _ _ (call _ [_,v]) _ _ _) e rb fun b t' e=>inj2m e ?_
  refine min_two_ints rm.quiet fun h' tk k=>PostE.keepAll R k ?_ tk
  split
  ·exact ⟨_,rfl⟩
  ·exact ⟨_,rfl⟩
 |max=>
  refine w1k e rs fun v u ru e=>wLk e R ru fun i a vs n xs q _ g al el e=>bindk e fun ns hn e=>bindk e fun m hm e=>ifk e fun h e=>inj2m e ?_
  subst q
  obtain rfl:=ints?_is hn
  exact max_ok rm.quiet R g al hm
 |ord=>
  refine w1k e rs fun v u ru e=>wSk e ru fun l t e=>?_
  cases l with
  |nil=>exact non e
  |cons c l=>cases l with|nil=>exact inj2m e (P.ord_of_char (PostE.toks R fint _))|cons _ _=>exact non e
 |chr=>
  refine w1k e rs fun v u ru e=>wIk e ru fun l t e=>ifk e fun h e=>inj2m e ?_
  exact P.chr_of_int (Bool.or_eq_false_iff.mpr ⟨decide_eq_false (Int.not_lt.mpr (dec2 h).1),decide_eq_false (by have:=(dec2 h).2;omega)⟩) (PostE.toks R (mv:=.fv (.str _)) ⟨_,rfl⟩ _)
 |strInt=>exact w1k e rs fun v u ru e=>wIk e ru fun l t e=>ifk e fun h e=>inj2m e (strInt_ok (dec2 h).1 (dec2 h).2 R)
 |hex=>
  refine w1k e rs fun v u ru e=>wIk e ru fun l t e=>ifk e fun h e=>inj2m e (P.hex_of_int ?_ ?_)
  ·rw [hex_is (dec2 h).1];exact PostE.toks R fstr _
  ·rw [hex_is (dec2 h).1,str_len];exact lim_fits (dec2 h).2
 |sorted=>
  refine w1k e rs fun v u ru e=>wLk e R ru fun i a vs n xs q _ g al el e=>bindk e fun ns hn e=>ifk e fun h e=>inj2m e ?_
  subst q
  obtain rfl:=ints?_is hn
  exact biSorted_ok rm.quiet R g al (of_decide_eq_true (Bool.and_eq_true_iff.mp h).1)
 |next=>exact w1k e rs fun v u ru e=>wRk e ru fun i ru e=>bindk e fun o ho e=>lit_ok e ho R ru
 |iter=>
  refine w1k e rs fun v u ru e=>wLk e R ru fun i a vs n xs q qi g al el e=>inj2m e ?_
  subst q
  refine iter_list (list_isList g) ⟨_,Ok.new R (pushed _) (fresh_size _) (mo:=.lit _ 0) ⟨a,?_,⟨_,Heap.get?_push_size _ rfl,rfl,rfl⟩⟩ s.toks,_,lastOf R _,rfl⟩
  rw [List.getElem?_append_left (List.getElem?_eq_some_iff.mp qi).1];exact qi
end
end
section
theorem dedup_mem {x:Nat} {l:List Nat}:x∈dedup l↔x∈l:=by
 induction l with
 |nil=>exact .rfl
 |cons y r ih=>
  rw [dedup,List.mem_cons,List.mem_cons,List.mem_filter,ih]
  by_cases h:x=y
  ·exact ⟨fun _=>.inl h,fun _=>.inl h⟩
  ·exact or_congr .rfl ⟨fun q=>q.1,fun q=>⟨q,bne_iff_ne.mpr h⟩⟩
theorem dedup_nodup (l:List Nat):(dedup l).Nodup:=by
 induction l with
 |nil=>exact .nil
 |cons y r ih=>exact List.nodup_cons.mpr ⟨fun m=>bne_iff_ne.mp (List.mem_filter.mp m).2 rfl,ih.filter _⟩
theorem idxOf_get {rs:List Nat} {i:Nat} (m:i∈rs):rs[rs.idxOf i]?=some i:=by
 rw [List.getElem?_eq_getElem (List.idxOf_lt_length_of_mem m),List.getElem_idxOf (List.idxOf_lt_length_of_mem m)]
theorem idxOf_of_get {rs:List Nat} (nd:rs.Nodup) {i j:Nat} (e:rs[j]?=some i):rs.idxOf i=j:=by
 have m:=List.mem_of_getElem? e
 have:=idxOf_get m
 exact (List.getElem?_inj (List.idxOf_lt_length_of_mem m) nd).mp (this.trans e.symm)
section
variable {W:W0} {ρ:List Addr} {objs:List MO} {s:Shared} {rs:List Nat}
noncomputable def prt (ρ:List Addr) (rs:List Nat):List Addr:=rs.map fun i=>ρ.getD i 0
theorem part_get {i j:Nat} (e:rs[j]?=some i):(prt ρ rs)[j]?=some (ρ.getD i 0):=by
 unfold prt;rw [List.getElem?_map,e];rfl
theorem getD_of {α:Type} {l:List α} {i:Nat} {a d:α} (e:l[i]?=some a):l.getD i d=a:=by rw [List.getD_eq_getElem?_getD,e];rfl
theorem closed_at (hc:closed rs objs=true) {i:Nat} (m:i∈rs):∃o,objs[i]?=some o∧∀k,o.next=some k→k∈rs:=by
 have:=List.all_eq_true.mp hc i m
 cases e:objs[i]? with
 |none=>rw [e] at this;cases this
 |some o=>rw [e] at this;exact ⟨o,rfl,fun k hk=>by dsimp only at this;rw [hk] at this;exact List.contains_iff_mem.mp this⟩
theorem part_at (R:ORel W ρ objs s.heap) (hc:closed rs objs=true) {i:Nat} (m:i∈rs):∃a,ρ[i]?=some a∧ρ.getD i 0=a:=by
 obtain ⟨o,ho,_⟩:=closed_at hc m
 have h:=List.getElem?_eq_getElem (R.len▸(List.getElem?_eq_some_iff.mp ho).1:i<ρ.length)
 exact ⟨_,h,getD_of h⟩
theorem part_sub (R:ORel W ρ objs s.heap) (hc:closed rs objs=true) {a:Addr} (m:a∈prt ρ rs):a∈ρ:=by
 obtain ⟨i,hi,rfl⟩:=List.mem_map.mp m
 obtain ⟨b,hb,e⟩:=part_at R hc hi
 rw [e];exact List.mem_of_getElem? hb
theorem pick_get {j i:Nat} {o:MO} (e:rs[j]?=some i) (ho:objs[i]?=some o):(pick rs objs)[j]?=some (renumO rs o):=by
 unfold pick
 rw [List.getElem?_map,e]
 simp [List.getD_eq_getElem?_getD,ho]
theorem ORel.part (R:ORel W ρ objs s.heap) (nd:rs.Nodup) (hc:closed rs objs=true):ORel W (prt ρ rs) (pick rs objs) s.heap:=by
 have pw:(prt ρ rs).Nodup:=List.pairwise_map.mpr (List.Pairwise.imp_of_mem (fun {i k} hi hk hne e=>by
  obtain ⟨a,ha,ea⟩:=part_at R hc hi
  obtain ⟨b,hb,eb⟩:=part_at R hc hk
  exact hne ((List.getElem?_inj (List.getElem?_eq_some_iff.mp ha).1 R.nodup).mp (ha.trans ((ea.symm.trans (e.trans eb))▸hb.symm)))) nd)
 refine ⟨(List.length_map _).trans (List.length_map _).symm,pw,fun j mo a e1 e2=>?_,fun a m=>R.new a (part_sub R hc m),R.base⟩
 ·obtain ⟨i,hi,rfl⟩:=Option.map_eq_some_iff.mp (List.getElem?_map.symm.trans e2)
  have mi:=List.mem_of_getElem? hi
  obtain ⟨o,ho,hn⟩:=closed_at hc mi
  obtain ⟨b,hb,eb⟩:=part_at R hc mi
  rw [eb]
  obtain rfl:=Option.some.inj ((pick_get hi ho).symm.trans e1)
  have z:=R.objs i o _ ho hb
  have ptr:∀{k la},o.next=some k→ρ[k]?=some la→(prt ρ rs)[rs.idxOf k]?=some la:=fun hk hla=>(part_get (idxOf_get (hn _ hk))).trans (congrArg some (getD_of hla))
  cases o with
  |hdr k=>exact z.imp fun dx z=>z.imp fun la z=>z.imp fun t z=>z.imp fun n z=>⟨z.1,z.2.1,ptr rfl z.2.2.1,fun m=>z.2.2.2 (part_sub R hc m)⟩
  |lit k p=>exact z.imp fun la z=>⟨ptr rfl z.1,z.2⟩
  |_=>exact z
theorem VRel.part (R:ORel W ρ objs s.heap) (hc:closed rs objs=true) {x:MV} {v:Value} (hx:∀i,x=.ref i→i∈rs) (r:VRel W ρ s.heap x v):VRel W (prt ρ rs) s.heap (renum rs x) v:=by
 cases x with
 |ref i=>exact r.imp fun a r=>⟨(part_get (idxOf_get (hx i rfl))).trans (congrArg some (getD_of r.1)),r.2⟩
 |edict=>exact r.imp fun d r=>r.imp fun n r=>⟨r.1,fun m=>r.2.1 (part_sub R hc m),r.2.2⟩
 |_=>exact r
theorem roots_mem {vs:List MV} {i:Nat} (m:MV.ref i∈vs):i∈rootsOf vs objs:=by
 unfold rootsOf
 rw [dedup_mem,List.mem_flatMap]
 exact ⟨_,m,List.mem_cons_self ..⟩
theorem all2_mem {α β:Type} {R R':α→β→Prop} {l:List α} {m:List β} (r:All2 R l m) (f:∀a b,a∈l→R a b→R' a b):All2 R' l m:=by
 induction r with
 |nil=>exact .nil
 |cons p _ ih=>exact .cons (f _ _ (.head _) p) (ih fun a b m=>f a b (.tail _ m))
theorem all2_map {α β γ:Type} {R:α→β→Prop} {f:γ→α} {l:List γ} {m:List β} (r:All2 (fun c b=>R (f c) b) l m):All2 R (l.map f) m:=by
 induction r with
 |nil=>exact .nil
 |cons p _ ih=>exact .cons p ih
theorem VRel.parts (R:ORel W ρ objs s.heap) {vs:List MV} {us:List Value} (hc:closed (rootsOf vs objs) objs=true) (r:All2 (VRel W ρ s.heap) vs us):
  All2 (VRel W (prt ρ (rootsOf vs objs)) s.heap) (vs.map (renum (rootsOf vs objs))) us:=
 all2_map (all2_mem r fun _ _ m q=>VRel.part R hc (fun _ e=>roots_mem (e▸m)) q)
theorem optOk {γ:Type} {G:Prop} {r:γ} {x:Option MO} {f:MO→Option γ} (h:(match x with|some a=>f a|none=>none)=some r) (k:∀a,x=some a→f a=some r→G):G:=by
 cases x with|none=>exact non h|some p=>exact k _ rfl h
theorem optOsk {γ:Type} {G:Prop} {r:γ} {x:Option (List MO)} {f:List MO→Option γ} (h:(match x with|some a=>f a|none=>none)=some r) (k:∀a,x=some a→f a=some r→G):G:=by
 cases x with|none=>exact non h|some p=>exact k _ rfl h
theorem back_get {oc objs:List MO}:∀{i:Nat} {os:List MO},backFrom rs oc i objs=some os→os.length=objs.length∧∀(j:Nat) (o:MO),objs[j]?=some o→
   ∃o',os[j]?=some o'∧(i+j∈rs→∃n,oc[rs.idxOf (i+j)]?=some n∧back1 rs o n=some o')∧(i+j∉rs→o'=o):=by
 induction objs with
 |nil=>exact fun e=>Option.some.inj e▸⟨rfl,fun j o h=>non h⟩
 |cons o r ih=>
  intro i os e
  refine optOk e fun o' h1 e=>optOsk e fun r' h2 e=>?_
  obtain rfl:=Option.some.inj e
  obtain ⟨hl,hf⟩:=ih h2
  refine ⟨congrArg (· +1) hl,fun j x hx=>?_⟩
  cases j with
  |zero=>
   obtain rfl:=Option.some.inj hx
   refine ⟨o',rfl,fun m=>?_,fun m=>?_⟩
   ·rw [if_pos (List.contains_iff_mem.mpr (show i∈rs from m))] at h1
    exact optOk h1 fun n hn h=>⟨n,hn,h⟩
   ·rw [if_neg fun h=>m (show i∈rs from List.contains_iff_mem.mp h)] at h1
    exact (Option.some.inj h1).symm
  |succ j=>exact Nat.succ_add_eq_add_succ i j▸hf j x hx
theorem back1_is {ρc ρ':List Addr} {h h':Heap} {a:Addr} {o n mo:MO} (hb:back1 rs o n=some mo) (z:ObjIs W ρ h a o) (zc:ObjIs W ρc h' a n) (ki:∀o,h.get? a=some o→Hard o→h'.get? a=some o) (dxk:∀{dx:Addr} {ob:Obj},h.get? dx=some ob→dx∉ρ→h'.get? dx=some ob∧dx∉ρ')
  (p:∀{k:Nat} {b:Addr},ρ[k]?=some b→ρ'[k]?=some b) (pc:∀{m k:Nat} {b:Addr},rs[m]?=some k→ρc[m]?=some b→ρ'[k]?=some b):ObjIs W ρ' h' a mo:=by
 cases o with
 |hdr k=>
  obtain rfl:=Option.some.inj hb
  exact z.imp fun dx z=>z.imp fun la z=>z.imp fun t z=>z.imp fun n z=>⟨ki _ z.1 (.inl ⟨_,rfl⟩),(dxk z.2.1 z.2.2.2).1,p z.2.2.1,(dxk z.2.1 z.2.2.2).2⟩
 |lit k i=>cases n with
  |lit m i=>exact ifk hb fun hk hb=>Option.some.inj hb▸zc.imp fun la q=>⟨pc hk q.1,q.2⟩
  |_=>exact non hb
 |list xs=>cases n with
  |list xs=>exact Option.some.inj hb▸zc
  |_=>exact non hb
 |dict xs=>cases n with
  |dict xs=>exact Option.some.inj hb▸zc
  |_=>exact non hb
 |fz xs=>cases n with
  |fz xs=>exact Option.some.inj hb▸zc
  |_=>exact non hb
section
variable {ρc:List Addr} {oc os:List MO} {s':Shared}
theorem in_part (R:ORel W ρ objs s.heap) (hc:closed rs objs=true) (K:Ok W (prt ρ rs) s ρc oc s') {j i:Nat} {a:Addr} (e:rs[j]?=some i) (ea:ρc[j]?=some a):ρ[i]?=some a:=by
 obtain ⟨b,hb,eb⟩:=part_at R hc (List.mem_of_getElem? e)
 exact Option.some.inj ((K.grows.get ((part_get e).trans (congrArg some eb))).symm.trans ea)▸hb
theorem back_obj {ex:List Addr} (R:ORel W ρ objs s.heap) (nd:rs.Nodup) (hc:closed rs objs=true) (K:Ok W (prt ρ rs) s ρc oc s') (e:putBack rs oc objs=some os)
  (hex:∀a∈ex,s.heap.get? a=none) (j:Nat) (mo:MO) (a:Addr) (e1:os[j]?=some mo) (e2:ρ[j]?=some a):ObjIs W (ρ++ex) s'.heap a mo:=by
 obtain ⟨hl,hf⟩:=back_get e
 have ho:=List.getElem?_eq_getElem (hl▸(List.getElem?_eq_some_iff.mp e1).1:j<objs.length)
 generalize objs[j]'_=o at ho
 obtain ⟨o',q1,q2,q3⟩:=hf j o ho
 obtain rfl:mo=o':=Option.some.inj (e1.symm.trans q1)
 rw [Nat.zero_add] at q2 q3
 have z:=R.objs j o a ho e2
 have dxk:∀{dx:Addr} {ob:Obj},s.heap.get? dx=some ob→dx∉ρ→s'.heap.get? dx=some ob∧dx∉ρ++ex:=fun g nm=>
  ⟨K.step.keep _ _ g fun m=>nm (part_sub R hc m),fun m=>(List.mem_append.mp m).elim nm fun h=>dead g (hex _ h)⟩
 by_cases m:j∈rs
 ·obtain ⟨n,hn,hb⟩:=q2 m
  obtain ⟨b,hb1,hb2⟩:=part_at R hc m
  obtain rfl:a=b:=Option.some.inj (e2.symm.trans hb1)
  exact back1_is hb z (K.rel.objs _ n a hn (K.grows.get ((part_get (idxOf_get m)).trans (congrArg some hb2)))) (K.step.inst a) dxk app_get fun hk hb=>app_get (in_part R hc K hk hb)
 ·obtain rfl:=q3 m
  have na:a∉prt ρ rs:=fun h=>by
   obtain ⟨i,hi,e⟩:=List.mem_map.mp h
   obtain ⟨b,hb1,hb2⟩:=part_at R hc hi
   obtain rfl:a=b:=e.symm.trans hb2
   exact m ((List.getElem?_inj (List.getElem?_eq_some_iff.mp hb1).1 R.nodup).mp (hb1.trans e2.symm)▸hi)
  exact (z.ext (ρ':=ρ++ex) app_get fun g nm=>(dxk g nm).2).move (fun o e=>K.step.keep a o e na) (K.step.imm (R.part nd hc)) fun nm e=>K.step.keep _ _ e fun m=>nm (List.mem_append_left _ (part_sub R hc m))
theorem Ok.back (R:ORel W ρ objs s.heap) (nd:rs.Nodup) (hc:closed rs objs=true) (K:Ok W (prt ρ rs) s ρc oc s') (e:putBack rs oc objs=some os):Ok W ρ s ρ os s':=
 ⟨.refl _ _,K.step.mono fun a m=>.inl (part_sub R hc m),⟨by rw [(back_get e).1,R.len],R.nodup,fun i mo a e1 e2=>List.append_nil ρ▸back_obj (ex:=[]) R nd hc K e (fun _ h=>nomatch h) i mo a e1 e2,R.new,K.rel.base⟩⟩
theorem Ok.backNew (R:ORel W ρ objs s.heap) (nd:rs.Nodup) (hc:closed rs objs=true) (K:Ok W (prt ρ rs) s ρc oc s') (e:putBack rs oc objs=some os)
  {a:Addr} {mo:MO} (ha:s.heap.get? a=none) (ha0:W.h0.get? a=none) (x:ObjIs W (ρ++[a]) s'.heap a mo):Ok W ρ s (ρ++[a]) (os++[mo]) s':=
 have hn:∀b∈[a],s.heap.get? b=none:=fun b hb=>List.mem_singleton.mp hb▸ha
 ⟨⟨_,rfl,hn⟩,K.step.mono fun a m=>.inl (part_sub R hc m),R.snoc (by rw [(back_get e).1,R.len]) (fun m=>(R.alive m).elim fun _ e=>dead e ha) ha0 (back_obj R nd hc K e hn) x K.rel.base⟩
theorem comeBack_ok {v mv:MV} {objs':List MO} {u:Value} (R:ORel W ρ objs s.heap) (nd:rs.Nodup) (hc:closed rs objs=true) (e:comeBack rs v oc objs=some (mv,objs')) (P:PostE W (prt ρ rs) s v oc u s'):
  PostE W ρ s mv objs' u s':=by
 obtain ⟨ρc,K,r⟩:=P
 refine optOsk e fun os ho e=>?_
 have KB:=Ok.back R nd hc K ho
 cases v with
 |ref k=>
  obtain ⟨a,ea,rfl⟩:=r
  have e:(if k<rs.length then some (MV.ref (rs.getD k 0),os) else oc[k]?.bind (newBack os))=some (mv,objs'):=e
  by_cases hk:k<rs.length
  ·rw [if_pos hk] at e
   have hg:rs[k]?=some (rs.getD k 0):=(List.getElem?_eq_getElem hk).trans (congrArg some (getD_of (List.getElem?_eq_getElem hk)).symm)
   exact inj2m e ⟨ρ,KB,a,in_part R hc K hg ea,rfl⟩
  ·rw [if_neg hk] at e
   have hlen:os.length=ρ.length:=by rw [(back_get ho).1,R.len]
   obtain ⟨nw,hρ,hf⟩:=id K.grows
   have mn:a∈nw:=List.mem_of_getElem? ((List.getElem?_append_right (by rw [prt,List.length_map];exact Nat.le_of_not_lt hk)).symm.trans (hρ▸ea))
   have at_:∀{ob},(ρ++[a])[os.length]?=some ob↔a=ob:=by rw [hlen,List.getElem?_append_right (Nat.le_refl _),Nat.sub_self];exact ⟨Option.some.inj,congrArg some⟩
   refine bindk e fun o hx e=>?_
   have z:=K.rel.objs _ _ _ hx ea
   have new:=fun {mo} x=>Ok.backNew R nd hc K ho (hf a mn) (K.rel.new a (List.mem_of_getElem? ea)) (mo:=mo) x
   cases o with
   |list xs=>exact inj2m e ⟨_,new z,a,at_.mpr rfl,rfl⟩
   |dict xs=>exact inj2m e ⟨_,new z,a,at_.mpr rfl,rfl⟩
   |_=>exact non e
 |edict=>exact non e
 |_=>exact inj2m e ⟨ρ,KB,r⟩
end
noncomputable def kwsOf (f:Nat):List Str:=if f=104 then ["name"] else []
noncomputable def FnOk (W:W0) (d:Nat) (fv:Value) (kws:List Str) (spec:List MV→List MO→Option (MV × List MO)):Prop:=
 ∀(A:Around) (s:Shared) (ρ:List Addr) (objs:List MO) (mvs:List MV) (pos ks:List Value) (mv:MV) (objs':List MO),Room d A→ORel W ρ objs s.heap→All2 (VRel W ρ s.heap) mvs (pos++ks)→ks.length=kws.length→
  spec mvs objs=some (mv,objs')→codeAny (model W.prog W.w) A (.call fv ⟨pos,kws.zip ks⟩) (fun r s'=>∃v,r=.ok (.ret v)∧PostE W ρ s mv objs' v s') s
theorem callM_ok {A:Around} {d f:Nat} {T:Tbl} {fv:Value} {kws:List Str} {vs:List MV} {mv:MV} {objs':List MO} {pos ks:List Value} (C:FnOk W d fv kws (T f)) (rm:Room d A) (R:ORel W ρ objs s.heap) (r:All2 (VRel W ρ s.heap) vs (pos++ks))
  (hk:ks.length=kws.length) (e:callM T f vs objs=some (mv,objs')):codeAny (model W.prog W.w) A (.call fv ⟨pos,kws.zip ks⟩) (fun r s'=>∃v,r=.ok (.ret v)∧PostE W ρ s mv objs' v s') s:=by
 refine ifk e fun hc e=>opt2k e fun v oc he e=>codeAny_mono (C A s _ _ _ pos ks v oc rm (R.part (dedup_nodup _) hc) (VRel.parts R hc r) hk he) fun r s' h=>?_
 obtain ⟨u,rfl,P⟩:=h
 exact ⟨u,rfl,comeBack_ok R (dedup_nodup _) hc e P⟩
end
end
section
theorem any1 {α:Type} {x:Option α} {f:α→Bool} (h:x.any f=true):∃a,x=some a∧f a=true:=by
 cases x with
 |none=>cases h
 |some a=>exact ⟨a,rfl,h⟩
noncomputable def isGlob (ns:Names) (x:Str):Bool:=ns.lookup x==some .globalImplicit
noncomputable def Xs.some:Xs→Bool
 |.nil=>false
 |.cons _ _=>true
set_option backward.match.sparseCases false in
noncomputable def X.fnSome:X→Bool
 |.fn _ a _ _=>a.some
 |_=>false
noncomputable def simpleBase (x:X):Bool:=[4,5,6,20,21].contains x.ctorIdx||x.fnSome
noncomputable def Xs.toList:Xs→List X
 |.nil=>[]
 |.cons x xs=>x::xs.toList
noncomputable def capOk (ns:Names) (p:(Str × NameKind) × Option Nat):Bool:=match p.2 with
 |some i=>p.1.2== .free&&ns[i]?.any fun q=>p.1.1==q.1&&(q.2== .cell||q.2== .free)
 |none=>p.1.2== .local||p.1.2== .globalImplicit
noncomputable def nsOk (ns:Names):Bool:=decide (ns.map (·.1)).Nodup&&ns.all fun p=>(!(p.1==("__debug__" :Str))&&!(p.1==("__classdict__" :Str)))&&!(p.1==("_headers" :Str))
noncomputable def compOk (ns cs:Names) (caps:List (Option Nat)) (ti:Nat):Bool:=
 nsOk cs&&caps.length==cs.length&&(cs.zip caps).all (capOk ns)&&cs[ti]?.any fun q=>q.2== .local&&!(q.1==(".0" :Str))
mutual
noncomputable def X.wf (ns:Names):X→Bool
 |.no=>true|.cn _=>true|.cb .. =>true|.ci .. =>true|.cs .. =>true|.neg .. =>true
 |.var i _=>ns[i]?.any fun q=>q.2== .local||q.2== .cell||q.2== .free
 |.gi g _=>isGlob ns (gname g)
 |.bin l _ r _=>l.wf ns&&r.wf ns
 |.not x _=>x.wf ns
 |.bop _ xs _=>xs.wf ns
 |.ite t b e _=>t.wf ns&&b.wf ns&&e.wf ns
 |.cmp l _ r _=>l.wf ns&&r.wf ns
 |.isTy _ ty x _ _ _ _=>x.wf ns&&isGlob ns "type" &&isGlob ns (if ty=0 then "str" else "list")
 |.fn f a _ _=>decide (f<17)&&isGlob ns (fname f)&&a.wf ns
 |.bi b a _ _ _ _=>isGlob ns b.name&&(b !=.listRange||isGlob ns "range")&&a.wf ns&&a.some
 |.me o _ a pa p=>pa.endLine==p.line&&simpleBase o&&o.wf ns&&a.wf ns&&decide (a.toList.length≤2)
 |.hm o m a kw pa _ p=>pa.endLine==p.line&&simpleBase o&&o.wf ns&&a.wf ns&&kw.wf ns&&decide (m<6)&&kw.toList.length==(kwsOf (100+m)).length&&decide (a.toList.length≤3)
 |.newH a _ _=>isGlob ns "Headers" &&a.wf ns
 |.hin neg x o _=>neg&&x.wf ns&&o.wf ns
 |.hat o _=>simpleBase o&&o.wf ns
 |.sub o i _=>o.wf ns&&i.wf ns
 |.sl o l u _ _=>o.wf ns&&l.wf ns&&u.wf ns
 |.lst xs _=>xs.wf ns
 |.tup a b _=>a.wf ns&&b.wf ns
 |.comp elt ti iter cond cs caps _ _=>iter.wf ns&&elt.wf cs&&cond.wf cs&&compOk ns cs caps ti
 |.comp2 elt ti iter tj iter2 cs caps _ _ _=>iter.wf ns&&elt.wf cs&&iter2.wf cs&&compOk ns cs caps ti&&compOk ns cs caps tj&&ti !=tj
 |.dcomp k v ti iter cs caps _ _=>iter.wf ns&&k.wf cs&&v.wf cs&&compOk ns cs caps ti
noncomputable def Xs.wf (ns:Names):Xs→Bool
 |.nil=>true
 |.cons x xs=>x.wf ns&&xs.wf ns
end
theorem star_dec (ns:Names) (env:Env):∀(x:X) (rest:List Expr),starEach (x.dec ns::rest) env=(false,eval (x.dec ns) env)::starEach rest env:=by
 intro x rest
 cases x with
 |bi b=>cases b<;>rfl
 |_=>rfl
theorem beh_dec (ns:Names) (op:CmpOp):∀x:X,behindInMarks op (x.dec ns)=false:=by
 intro x
 cases x with
 |bi b=>cases b<;>rfl
 |_=>rfl
theorem fold_dec (ns:Names) (env:Env):∀(x:X) (v:Value),foldedSetIterable (x.dec ns) env v=pure v:=by
 intro x v
 cases x with
 |bi b=>cases b<;>rfl
 |_=>rfl
theorem base_dec (ns:Names) (env:Env) (name:Str) (whole:Sem Value):∀x:X,simpleBase x=true→attributeBase (x.dec ns) name env whole=whole:=by
 intro x h
 cases x with
 |fn f a pn p=>cases a with
  |nil=>exact Bool.noConfusion (show false=true from h)
  |cons x xs=>rfl
 |_=>first|rfl|exact Bool.noConfusion (show false=true from h)
noncomputable def nsG:Names:=[("addr",.local),("pos",.local),("escape",.local),("ch",.local),("enumerate",.globalImplicit)]
noncomputable def gPos:S:=.asg 1 (.ci 0 (pq 7 10 11)) (pq 7 4 7) (pq 7 4 11)
noncomputable def gEsc0:S:=.asg 2 (.cb false (pq 8 13 18)) (pq 8 4 10) (pq 8 4 18)
noncomputable def gEsc1:S:=.asg 2 (.cb false (pq 12 21 26)) (pq 12 12 18) (pq 12 12 26)
noncomputable def gEsc2:S:=.asg 2 (.cb true (pq 14 21 25)) (pq 14 12 18) (pq 14 12 25)
noncomputable def gY1:X:=.tup (.var 1 (pq 11 19 22)) (.bin (.cs [92] (pq 11 24 28)) .add (.var 3 (pq 11 31 33)) (pq 11 24 33)) (pq 11 18 34)
noncomputable def gY2:X:=.tup (.var 1 (pq 16 19 22)) (.var 3 (pq 16 24 26)) (pq 16 18 27)
noncomputable def gY3:X:=.tup (.var 1 (pq 18 15 18)) (.cs [92] (pq 18 20 24)) (pq 18 14 25)
noncomputable def gT:X:=.cmp (.var 3 (pq 13 13 15)) .eq (.cs [92] (pq 13 19 23)) (pq 13 13 23)
noncomputable def gTarget:Expr:=.Tuple [.Name (nm nsG 1) (pq 9 8 11),.Name (nm nsG 3) (pq 9 13 15)] 0 (pq 9 8 15)
noncomputable def gBody:List Stmt:=[.If ((X.var 2 (pq 10 11 17)).dec nsG) [.Expr (.Yield (some (gY1.dec nsG)) (pq 11 12 34)) (pq 11 12 34),gEsc1.dec nsG]
 [.If (gT.dec nsG) [gEsc2.dec nsG] [.Expr (.Yield (some (gY2.dec nsG)) (pq 16 12 27)) (pq 16 12 27)] ⟨13,8,16,27⟩] ⟨10,8,16,27⟩]
noncomputable def gIter:Expr:=.Call (.Name "enumerate" (pq 9 19 28)) [(X.var 0 (pq 9 29 33)).dec nsG] [] (pq 9 19 34)
noncomputable def gFor:Stmt:=.For gTarget gIter gBody [] ⟨9,4,16,27⟩
noncomputable def gLast:Stmt:=.If ((X.var 2 (pq 17 7 13)).dec nsG) [.Expr (.Yield (some (gY3.dec nsG)) (pq 18 8 25)) (pq 18 8 25)] [] ⟨17,4,18,25⟩
noncomputable def genBody:List Stmt:=[gPos.dec nsG,gEsc0.dec nsG,gFor,gLast]
noncomputable def MoreIs (h h':Heap):MV→Value→Prop
 |.edict,v=>∃d n,v=.ref d∧h.get? d=none∧h'.get? d=some {cls:=.type "dict",data:=.dict #[] n}
 |.fv .none,v=>v=.none
 |_,_=>False
structure FdOk (W:W0) (f:Nat) (fd:FuncData) (ns:Names) (b:Ss):Prop where
 body:fd.body=.stmts (b.dec ns)
 names:fd.scope.names=ns
 kind:fd.scope.kind=.function
 co:fd.scope.isCoroutine=false
 gen:fd.scope.isGenerator=false
 glb:fd.globals=mainGlobals
 blt:fd.builtins=builtinsNs
 clo:fd.closure=[]
 cd:W.h0.CodeRec fd.code fd.qualname
 bind:∀(A:Around) (s:Shared) (pos ks:List Value) (Q:List (Str × Value)→Shared→Prop) (E:Value→Shared→Prop),pos.length+ks.length=arity f→ks.length=(kwsOf f).length→(∀a o,W.h0.get? a=some o→s.heap.get? a=some o)→
  (∀mores h',(∀a o,s.heap.get? a=some o→h'.get? a=some o)→All2 (MoreIs s.heap h') (moreOf f) mores→Q (((ns.map (·.1)).take (arity f+(moreOf f).length)).zip (pos++ks++mores)) {s with heap:=h'})→
  wpAny (model W.prog W.w) A (bindArgs fd ⟨pos,(kwsOf f).zip ks⟩) Q E s
noncomputable def WOkP.fo (W:W0):Prop:=∀f,f<17∨(100≤f∧f<106)→∃o fd,W.h0.get? (W.fnA f)=some o∧o.data=.func fd
noncomputable def WOkP.fds (W:W0):Prop:=∀f ns b,bodyF f=some (ns,b)→∃o fd,W.h0.get? (W.fnA f)=some o∧o.data=.func fd∧FdOk W f fd ns b
noncomputable def WOkP.gi (W:W0):Prop:=(∃t,W.mg (gname 3)=some (.int 40 t))∧(∃t,W.mg (gname 4)=some (.int 2 t))∧(∃t,W.mg (gname 5)=some (.int 1 t))
noncomputable def WOkP.fl (W:W0):Prop:=∃d o kvs,W.gl 0=.ref d∧W.h0.get? d=some o∧o.IsDictOf (intKind W.prog W.w) kvs∧(d==sysModules)=false∧All2 (fun (p:Int × List Nat) (q:Int × Value)=>p.1=q.1∧∃t,q.2=.str ⟨p.2.toArray⟩ t) flagNames kvs
noncomputable def WOkP.pat (W:W0):Prop:=∀g,g=1∨g=2→∃a o,W.gl g=.ref a∧W.h0.get? a=some o∧o.cls=.type "re.Pattern" ∧o.dict=none
noncomputable def WOkP.sea (W:W0):Prop:=∀(g:Nat) (l:List Nat) (t:Tok),((g=1∧l.any badName=false)∨(g=2∧l.any badValue=false))→l.length≤lim→∀(A:Around) (s:Shared) (Q:Value→Shared→Prop),A.handled=none→
  (∀a o,W.h0.get? a=some o→s.heap.get? a=some o)→(∀k,Q .none {s with toks:=k})→wpAny (model W.prog W.w) A (call (.builtin "re.Pattern.search") [W.gl g,.str ⟨l.toArray⟩ t]) Q NoE s
noncomputable def WOkP.gen (W:W0):Prop:=∃(ga:Addr) (o:Obj) (fd:FuncData),W.mg "_iter_escaped_chars" =some (.ref ga)∧W.h0.get? ga=some o∧o.data=.func fd∧fd.body=.stmts genBody∧fd.scope.names=nsG∧fd.scope.kind=.function∧fd.scope.isCoroutine=false∧fd.scope.isGenerator=true∧
  fd.globals=mainGlobals∧fd.builtins=builtinsNs∧fd.closure=[]∧W.h0.CodeRec fd.code fd.qualname∧∀s v,BindsTo s fd ⟨[v],[]⟩ [("addr",v)]
noncomputable def WOkP.enu (W:W0):Prop:=W.mg "enumerate" =none∧W.mb "enumerate" =some (.type "enumerate")
noncomputable def WOkP.met (W:W0):Prop:=∀(m:Nat),m<6→∀(A:Around) (s:Shared) (x dx la:Addr) (t:Tok) (n:Nat) (pl:Sem Bool) (Q:Value × List Value→Shared→Prop),(∀a o,W.h0.get? a=some o→s.heap.get? a=some o)→
  s.heap.get? x=some (instObj W.cls dx)→s.heap.get? dx=some (dictOf [⟨W.hkey,.str "_headers" t,.ref la⟩] n)→Q (.ref (W.fnA (100+m)),[.ref x]) s→wpAny (model W.prog W.w) A (getMethod (.ref x) (hname m) pl) Q NoE s
noncomputable def WOkP.att (W:W0):Prop:=∀(A:Around) (s:Shared) (x dx la:Addr) (t:Tok) (n:Nat) (Q:Value→Shared→Prop),(∀a o,W.h0.get? a=some o→s.heap.get? a=some o)→
  s.heap.get? x=some (instObj W.cls dx)→s.heap.get? dx=some (dictOf [⟨W.hkey,.str "_headers" t,.ref la⟩] n)→(∀k,Q (.ref la) {s with toks:=k})→wpAny (model W.prog W.w) A (getAttr (.ref x) "_headers" true) Q NoE s
noncomputable def WOkP.cll (W:W0):Prop:=∀(A:Around) (s:Shared) (pos:Pos) (t:Sem Value) (Q:Value→Shared→Prop),wpAny (model W.prog W.w) A t (fun v s1=>(∀a o,W.h0.get? a=some o→s1.heap.get? a=some o)∧wpAny (model W.prog W.w) A (call (.ref W.cls) [v]) Q NoE s1) NoE s→
  wpAny (model W.prog W.w) A (callWith pos (.ref W.cls) [] [(false,t)] []) Q NoE s
noncomputable def WOkP.new (W:W0):Prop:=∀(A:Around) (s:Shared) (la:Addr) (n:Nat) (Q:Value→Shared→Prop),Room 2 A→(∀a o,W.h0.get? a=some o→s.heap.get? a=some o)→s.heap.get? la=some {cls:=.type "list",data:=.seq #[] n}→
  (∀(x dx:Addr) (h':Heap) (tk:Nat) (t:Tok) (m:Nat),(∀a o,s.heap.get? a=some o→h'.get? a=some o)→s.heap.get? x=none→s.heap.get? dx=none→x≠dx→h'.get? x=some (instObj W.cls dx)→
   h'.get? dx=some (dictOf [⟨W.hkey,.str "_headers" t,.ref la⟩] m)→Q (.ref x) {s with heap:=h',toks:=tk})→
  wpAny (model W.prog W.w) A (call (.ref W.cls) [.ref la]) Q NoE s
noncomputable def WOkP.nin (W:W0):Prop:=∀(A:Around) (s:Shared) (x dx la:Addr) (t:Tok) (n:Nat) (v:Value) (Q:Value→Shared→Prop),(∀a o,W.h0.get? a=some o→s.heap.get? a=some o)→
  s.heap.get? x=some (instObj W.cls dx)→s.heap.get? dx=some (dictOf [⟨W.hkey,.str "_headers" t,.ref la⟩] n)→wpAny (model W.prog W.w) A (call (.ref (W.fnA 105)) [.ref x,v]) (fun r s'=>∃b,r=.bool b∧Q (.bool (!b)) s') NoE s→
  wpAny (model W.prog W.w) A (compareOp .NotIn v (.ref x)) Q NoE s
structure WOk (W:W0):Prop where
 fn:∀f,f<17→W.mg (fname f)=some (.ref (W.fnA f))
 fo:WOkP.fo W
 fds:WOkP.fds W
 bi:∀b:BI,W.mg b.name=none∧W.mb b.name=some b.val
 ty:W.mg "type" =none∧W.mb "type" =some (.type "type")
 gl:∀g,g<3→W.mg (gname g)=some (W.gl g)
 gn:∀g,W.gl g≠.none
 gi:WOkP.gi W
 sys:W.h0.get? sysModules≠none
 fl:WOkP.fl W
 pat:WOkP.pat W
 sea:WOkP.sea W
 gen:WOkP.gen W
 enu:WOkP.enu W
 gcls:W.mg "Headers" =some (.ref W.cls)
 met:WOkP.met W
 att:WOkP.att W
 cll:WOkP.cll W
 new:WOkP.new W
 nin:WOkP.nin W
end
section
theorem and2 {a b:Bool} (h:(a&&b)=true):a=true∧b=true:=Bool.and_eq_true_iff.mp h
theorem and3 {a b c:Bool} (h:(a&&b&&c)=true):(a=true∧b=true)∧c=true:=⟨and2 (and2 h).1,(and2 h).2⟩
theorem and4 {a b c d:Bool} (h:(a&&b&&c&&d)=true):((a=true∧b=true)∧c=true)∧d=true:=⟨and3 (and2 h).1,(and2 h).2⟩
theorem and5 {a b c d e:Bool} (h:(a&&b&&c&&d&&e)=true):(((a=true∧b=true)∧c=true)∧d=true)∧e=true:=⟨and4 (and2 h).1,(and2 h).2⟩
theorem and6 {a b c d e f:Bool} (h:(a&&b&&c&&d&&e&&f)=true):((((a=true∧b=true)∧c=true)∧d=true)∧e=true)∧f=true:=⟨and5 (and2 h).1,(and2 h).2⟩
theorem and8 {a b c d e f g i:Bool} (h:(a&&b&&c&&d&&e&&f&&g&&i)=true):((((((a=true∧b=true)∧c=true)∧d=true)∧e=true)∧f=true)∧g=true)∧i=true:=⟨⟨and6 (and2 (and2 h).1).1,(and2 (and2 h).1).2⟩,(and2 h).2⟩
theorem lookup_nodup:∀{l:Names} {i:Nat} {x:Str} {k:NameKind},(l.map (·.1)).Nodup→l[i]?=some (x,k)→l.lookup x=some k
 |[],_,_,_,_,e=>by simp at e
 |(y,k')::r,0,x,k,_,e=>by
  simp at e;obtain ⟨rfl,rfl⟩:=e
  rw [List.lookup_cons];simp
 |(y,k')::r,i+1,x,k,nd,e=>by
  simp only [List.getElem?_cons_succ] at e
  simp only [List.map_cons,List.nodup_cons] at nd
  have hne:(x==y)=false:=by
   rw [beq_eq_false_iff_ne]
   rintro rfl
   exact nd.1 (List.mem_map.mpr ⟨_,List.mem_of_getElem? e,rfl⟩)
  rw [List.lookup_cons,hne]
  exact lookup_nodup nd.2 e
theorem lookup_get:∀{l:Names} {x:Str} {k:NameKind},l.lookup x=some k→∃i:Nat,l[i]?=some (x,k)
 |[],_,_,e=>by cases e
 |(y,k')::r,x,k,e=>by
  rw [List.lookup_cons] at e
  split at e
  ·rename_i h
   cases e
   exact ⟨0,by simp [beq_iff_eq.mp h]⟩
  ·obtain ⟨i,hi⟩:=lookup_get e
   exact ⟨i+1,by simpa using hi⟩
theorem all2_fst:∀{ns ms:Names},All2 (fun (p q:Str × NameKind)=>p.1=q.1∧(q.2=p.2∨(p.2=.free∧q.2=.cell))) ns ms→ns.map (·.1)=ms.map (·.1)
 |_,_,.nil=>rfl
 |_,_,.cons p r=>by simp [p.1,all2_fst r]
section
variable {W:W0} {env:Env} {ns:Names} {vars:List MV} {ρ:List Addr} {h:Heap}
theorem FR.kindAt (F:FR W env ns vars ρ h) {i:Nat} {x:Str} {k:NameKind} (e:ns[i]?=some (x,k)):
  ∃k',env.scope.names[i]?=some (x,k')∧env.kindOf x=some k'∧(k'=k∨(k=.free∧k'=.cell)):=by
 obtain ⟨⟨y,k'⟩,h1,h2,h3⟩:=F.names.get e
 simp only at h2 h3;subst h2
 refine ⟨k',h1,lookup_nodup ?_ h1,h3⟩
 rw [←all2_fst F.names];exact F.nodup
theorem FR.nm (F:FR W env ns vars ρ h) {i:Nat} {x:Str} {k:NameKind} (e:ns[i]?=some (x,k)):nm ns i=x:=by
 unfold Mine.nm
 simp [List.getD_eq_getElem?_getD,e]
theorem FR.globKind (F:FR W env ns vars ρ h) {x:Str} (e:isGlob ns x=true):env.kindOf x=some .globalImplicit∧(x==("__debug__" :Str))=false:=by
 have e':ns.lookup x=some .globalImplicit:=by simpa [isGlob] using e
 obtain ⟨i,hi⟩:=lookup_get e'
 obtain ⟨k',_,h2,h3⟩:=F.kindAt hi
 have:k'=.globalImplicit:=h3.elim id fun q=>nomatch q.1
 exact ⟨this▸h2,(F.plain _ (List.mem_of_getElem? hi)).1⟩
end
section
variable {A:Around} {W:W0} {ρ:List Addr} {objs objs':List MO} {s:Shared} {env:Env} {ns:Names} {vars:List MV} {E:Value→Shared→Prop}
theorem glob_ok {x:Str} {v:Value} {p:Pos} {Q:Value→Shared→Prop} (F:FR W env ns vars ρ s.heap) (R:ORel W ρ objs s.heap) (hg:isGlob ns x=true) (hv:W.mg x=some v) (h:Q v s):
  wpAny (model W.prog W.w) A (eval (.Name x p) env) Q E s:=by
 obtain ⟨hk,hd⟩:=F.globKind hg
 exact Calls.Name_function_global F.kind hk (Calls.loadGlobal_global (by rw [F.glob];exact W.g.keeps R.base) hv h) hd
theorem bname_ok {x:Str} {v:Value} {p:Pos} {Q:Value→Shared→Prop} (F:FR W env ns vars ρ s.heap) (R:ORel W ρ objs s.heap) (hg:isGlob ns x=true) (hv:W.mg x=none∧W.mb x=some v) (h:Q v s):
  wpAny (model W.prog W.w) A (eval (.Name x p) env) Q E s:=by
 obtain ⟨hk,hd⟩:=F.globKind hg
 exact Calls.Name_function_global F.kind hk (Calls.loadGlobal_builtin (by rw [F.glob];exact W.g.keeps R.base) hv.1 (by rw [F.blt];exact W.b.keeps R.base) hv.2 h) hd
theorem loadVar_ok {i:Nat} {mv:MV} {x:Str} {k:NameKind} {Q:Value→Shared→Prop} (F:FR W env ns vars ρ s.heap) (hi:ns[i]?=some (x,k)) (hk:k=.local∨k=.cell∨k=.free) (e:vars[i]?=some mv) (hu:mv≠.unb)
  (h:∀v,VRel W ρ s.heap mv v→Q v s):wpAny (model W.prog W.w) A (loadName env x) Q E s:=by
 obtain ⟨k',h1,h2,h3⟩:=F.kindAt hi
 have hp:=F.plain _ (List.mem_of_getElem? hi)
 have hkk:k'=.local∨k'=.cell∨k'=.free:=by
  rcases h3 with h3|h3
  ·rw [h3];exact hk
  ·exact .inr (.inl h3.2)
 rcases hkk with rfl|hk'
 ·obtain ⟨m,hn,_,hl⟩:=F.loc
  obtain ⟨v,hv,r⟩:=(hl i x mv h1 e).1.some hu
  exact wpAny_loadName_local F.kind h2 hn hv (h v r)
 ·obtain ⟨c,o,hc,hcell,ho,_⟩:=F.cel i x k' mv h1 hk' e
  obtain ⟨v,rfl,r⟩:=ho.some hu
  rcases hk' with rfl|rfl
  ·exact wpAny_loadName_cell F.kind h2 hc hcell (h v r)
  ·exact wpAny_loadName_free F.kind h2 hc hcell (h v r) hp.2
theorem PostE.after {ρ1:List Addr} {o1:List MO} {s1 s2:Shared} {mv:MV} {v:Value} (K:Ok W ρ s ρ1 o1 s1) (P:PostE W ρ1 s1 mv objs' v s2):PostE W ρ s mv objs' v s2:=by
 obtain ⟨ρ2,K2,r⟩:=P
 exact ⟨ρ2,K.trans K2,r⟩
end
noncomputable def SX (W:W0) (d:Nat) (ns:Names) (x:X) (run:List MV→List MO→Option (MV × List MO)):Prop:=
 ∀(vars:List MV) (objs:List MO) (mv:MV) (objs':List MO),run vars objs=some (mv,objs')→∀(A:Around) (env:Env) (s:Shared) (ρ:List Addr),Room (d+8) A→FR W env ns vars ρ s.heap→ORel W ρ objs s.heap→
  wpAny (model W.prog W.w) A (eval (x.dec ns) env) (PostE W ρ s mv objs') NoE s
noncomputable def PostL (W:W0) (ρ:List Addr) (s:Shared) (mvs:List MV) (objs':List MO) (vs:List Value) (s':Shared):Prop:=
 ∃ρ',Ok W ρ s ρ' objs' s'∧All2 (VRel W ρ' s'.heap) mvs vs
noncomputable def SL (W:W0) (d:Nat) (ns:Names) (xs:Xs) (run:List MV→List MO→Option (List MV × List MO)):Prop:=
 ∀(vars:List MV) (objs:List MO) (mvs:List MV) (objs':List MO),run vars objs=some (mvs,objs')→∀(A:Around) (env:Env) (s:Shared) (ρ:List Addr),Room (d+8) A→FR W env ns vars ρ s.heap→ORel W ρ objs s.heap→
  (∀pos,wpAny (model W.prog W.w) A (spliced (backTo pos (starEach (xs.dec ns) env))) (PostL W ρ s mvs objs') NoE s)∧∀pk pos,wpAny (model W.prog W.w) A (evalAll ((backToKw pos (keywordEach (xs.decKw ns pk) env)).map (·.2))) (PostL W ρ s mvs objs') NoE s
noncomputable def PostB (W:W0) (ρ:List Addr) (s:Shared) (b:Bool) (objs':List MO) (r:Bool) (s':Shared):Prop:=r=b∧∃ρ',Ok W ρ s ρ' objs' s'
noncomputable def ST (W:W0) (d:Nat) (ns:Names) (x:X) (run:List MV→List MO→Option (Bool × List MO)):Prop:=
 ∀(vars:List MV) (objs:List MO) (b:Bool) (objs':List MO),run vars objs=some (b,objs')→∀(A:Around) (env:Env) (s:Shared) (ρ:List Addr),Room (d+8) A→FR W env ns vars ρ s.heap→ORel W ρ objs s.heap→
  wpAny (model W.prog W.w) A (isTrue (x.dec ns) env (eval (x.dec ns) env)) (PostB W ρ s b objs') NoE s
noncomputable def TblOk (W:W0) (d:Nat) (T:Tbl):Prop:=∀f,FnOk W d (.ref (W.fnA f)) (kwsOf f) (T f)
theorem NoE.imp {E:Value→Shared→Prop}:∀e s,NoE e s→E e s:=fun _ _ h=>h.elim
section
variable {W:W0} {A:Around} {ρ ρ1:List Addr} {s s1:Shared} {mv:MV} {mvs:List MV} {o o1:List MO} {E:Value→Shared→Prop} {b:Bool}
theorem seqE {t:Sem Value} {Q:Value→Shared→Prop} (h:wpAny (model W.prog W.w) A t (PostE W ρ s mv o) NoE s1) (k:∀ρ1 s1 v,Ok W ρ s ρ1 o s1→VRel W ρ1 s1.heap mv v→Q v s1):wpAny (model W.prog W.w) A t Q E s1:=wpAny_mono h (fun v s1 P=>P.elim fun ρ1 P=>k ρ1 s1 v P.1 P.2) NoE.imp
theorem seqL {t:Sem (List Value)} {Q:List Value→Shared→Prop} (h:wpAny (model W.prog W.w) A t (PostL W ρ s mvs o) NoE s1) (k:∀ρ1 s1 vs,Ok W ρ s ρ1 o s1→All2 (VRel W ρ1 s1.heap) mvs vs→Q vs s1):wpAny (model W.prog W.w) A t Q E s1:=wpAny_mono h (fun v s1 P=>P.elim fun ρ1 P=>k ρ1 s1 v P.1 P.2) NoE.imp
theorem seqB {t:Sem Bool} {Q:Bool→Shared→Prop} (h:wpAny (model W.prog W.w) A t (PostB W ρ s b o) NoE s1) (k:∀ρ1 s1,Ok W ρ s ρ1 o s1→Q b s1):wpAny (model W.prog W.w) A t Q E s1:=wpAny_mono h (fun r s1 P=>by obtain ⟨rfl,ρ1,K⟩:=P;exact k ρ1 s1 K) NoE.imp
theorem lastE {t:Sem Value} (K:Ok W ρ s ρ1 o1 s1) (h:wpAny (model W.prog W.w) A t (PostE W ρ1 s1 mv o) NoE s1):wpAny (model W.prog W.w) A t (PostE W ρ s mv o) NoE s1:=wpAny_mono h (fun _ _ P=>P.after K) NoE.imp
theorem PostB.after {r:Bool} (K:Ok W ρ s ρ1 o1 s1) (P:PostB W ρ1 s1 b o r s2):PostB W ρ s b o r s2:=⟨P.1,P.2.imp fun _ K2=>K.trans K2⟩
theorem lastB {t:Sem Bool} (K:Ok W ρ s ρ1 o1 s1) (h:wpAny (model W.prog W.w) A t (PostB W ρ1 s1 b o) NoE s1):wpAny (model W.prog W.w) A t (PostB W ρ s b o) NoE s1:=wpAny_mono h (fun _ _ P=>P.after K) NoE.imp
end
section
variable {W:W0} {d:Nat} {ns:Names} {T:Tbl}
theorem no {e:Value} {s:Shared}:NoE e s→NoE e s:=id
theorem sx_var {i:Nat} {p:Pos} (hw:(X.var i p).wf ns=true):SX W d ns (.var i p) (ev T (.var i p)):=by
 intro vars objs mv objs' e A env s ρ rm F R
 obtain ⟨⟨x,k⟩,hi,hw⟩:=any1 hw
 refine optVk e fun v hv hu e=>inj2m e ?_
 have hk:k=.local∨k=.cell∨k=.free:=by
  rcases Bool.or_eq_true_iff.mp hw with h|h
  ·exact (Bool.or_eq_true_iff.mp h).imp eq_of_beq fun h=>.inl (eq_of_beq h)
  ·exact .inr (.inr (eq_of_beq h))
 show wpAny _ _ (eval (.Name (nm ns i) p) env) _ _ _
 rw [F.nm hi]
 exact wpAny_Name (loadVar_ok F hi hk hv hu fun v r=>PostE.same R r) (F.plain _ (List.mem_of_getElem? hi)).1
theorem sx_gi {g:Nat} {p:Pos} (WK:WOk W) (hw:(X.gi g p).wf ns=true):SX W d ns (.gi g p) (ev T (.gi g p)):=by
 intro vars objs mv objs' e A env s ρ rm F R
 have low:∀g,g<3→isGlob ns (gname g)=true→some (MV.gl g,objs)=some (mv,objs')→wpAny (model W.prog W.w) A (eval (.Name (gname g) p) env) (PostE W ρ s mv objs') NoE s:=fun g hg hw e=>inj2m e (glob_ok F R hw (WK.gl g hg) (PostE.same R rfl))
 have one:∀g i,(∃t,W.mg (gname g)=some (.int i t))→isGlob ns (gname g)=true→some (MV.fv (.int i),objs)=some (mv,objs')→wpAny (model W.prog W.w) A (eval (.Name (gname g) p) env) (PostE W ρ s mv objs') NoE s:=fun g i h hw e=>inj2m e (h.elim fun t ht=>glob_ok F R hw ht (PostE.same R ⟨t,rfl⟩))
 match g,hw,e with
 |0,hw,e=>exact low 0 (by decide) hw e
 |1,hw,e=>exact low 1 (by decide) hw e
 |2,hw,e=>exact low 2 (by decide) hw e
 |3,hw,e=>exact one 3 40 WK.gi.1 hw e
 |4,hw,e=>exact one 4 2 WK.gi.2.1 hw e
 |5,hw,e=>exact one 5 1 WK.gi.2.2 hw e
 |g+6,hw,e=>exact ifk (a:=some (MV.gl (g+6),objs)) (p:=g+6<3) e fun h _=>absurd h (by omega)
theorem sx_bin {l r:X} {o:BO} {p:Pos} (hl:SX W d ns l (ev T l)) (hr:SX W d ns r (ev T r)):SX W d ns (.bin l o r p) (ev T (.bin l o r p)):=by
 intro vars objs mv objs' e A env s ρ rm F R
 refine opt2k e fun a o1 h1 e=>?_
 refine opt2k e fun b o2 h2 e=>?_
 refine wpAny_BinOp (seqE (hl _ _ _ _ h1 A env s ρ rm F R) fun ρ1 s1 va K1 ra=>?_)
 refine seqE (hr _ _ _ _ h2 A env s1 ρ1 rm (F.ok R K1) K1.rel) fun ρ2 s2 vb K2 rb=>?_
 exact lastE (K1.trans K2) (binop_ok e K2.rel (K2.vrel K1.rel ra) rb)
theorem truthy_ok {A:Around} {ρ:List Addr} {objs:List MO} {s:Shared} {mv:MV} {v:Value} {b:Bool} (e:truthyM mv objs=some b) (R:ORel W ρ objs s.heap) (r:VRel W ρ s.heap mv v):
  wpAny (model W.prog W.w) A (truthy v) (PostB W ρ s b objs) NoE s:=by
 cases mv with
 |fv x=>
  cases x with
  |bool c=>cases r;exact inj1m e (wpAny_truthy_bool ⟨rfl,ρ,Ok.refl R⟩)
  |none=>cases r;exact inj1m e (truthy_none ⟨rfl,ρ,Ok.refl R⟩)
  |int i=>obtain ⟨t,rfl⟩:=r;exact inj1m e (PyProof.Rows.truthy_int ⟨rfl,ρ,Ok.refl R⟩)
  |str l=>
   obtain ⟨t,rfl⟩:=r
   refine ifk e fun h e=>inj1m e (P.truthy_str (by rw [str_len];have:_≤100000:=h;omega) ?_)
   rw [str_len]
   refine ⟨?_,ρ,Ok.toks R _⟩
   cases l<;>rfl
  |pair x y=>exact non e
 |_=>exact non e
end
end
section
section
variable {W:W0} {d:Nat} {ns:Names} {T:Tbl}
theorem sx_const {x:X} {mv:MV} (hx:∀vars objs,ev T x vars objs=some (mv,objs))
  (h:∀(A:Around) (env:Env) (s:Shared) (Q:Value→Shared→Prop),(∀v tk,(∀(ρ:List Addr) (h:Heap),VRel W ρ h mv v)→Q v {s with toks:=tk})→wpAny (model W.prog W.w) A (eval (x.dec ns) env) Q NoE s):SX W d ns x (ev T x):=by
 intro vars objs mv' objs' e A env s ρ rm F R
 rw [hx] at e;cases e
 exact h A env s _ fun v tk r=>PostE.toks R (r ρ s.heap) tk
theorem sx_cn {p:Pos}:SX W d ns (.cn p) (ev T (.cn p)):=sx_const (fun _ _=>rfl) fun A env s Q h=>wpAny_Constant_none (h .none s.toks fun _ _=>rfl)
theorem sx_no:SX W d ns .no (ev T .no):=sx_const (mv:=.unb) (fun _ _=>rfl) fun A env s Q h=>wpAny_Constant_none (h .none s.toks fun _ _=>rfl)
theorem sx_cb {b:Bool} {p:Pos}:SX W d ns (.cb b p) (ev T (.cb b p)):=sx_const (fun _ _=>rfl) fun A env s Q h=>wpAny_Constant_bool (h (.bool b) s.toks fun _ _=>rfl)
theorem sx_ci {i:Int} {p:Pos}:SX W d ns (.ci i p) (ev T (.ci i p)):=sx_const (fun _ _=>rfl) fun A env s Q h=>wpAny_Constant_int (h (.int i _) _ fun _ _=>⟨_,rfl⟩)
theorem sx_cs {l:List Nat} {p:Pos}:SX W d ns (.cs l p) (ev T (.cs l p)):=sx_const (fun _ _=>rfl) fun A env s Q h=>wpAny_Constant_str (h (.str ⟨l.toArray⟩ _) _ fun _ _=>⟨_,rfl⟩)
theorem sx_neg {i:Int} {pc p:Pos}:SX W d ns (.neg i pc p) (ev T (.neg i pc p)):=sx_const (mv:=.fv (.int (-i))) (fun _ _=>rfl) fun A env s Q h=>
 wpAny_UnaryOp (wpAny_Constant_int (neg_int (h (.int (-i) _) _ fun _ _=>⟨_,rfl⟩)))
theorem sx_not {x:X} {p:Pos} (hx:SX W d ns x (ev T x)):SX W d ns (.not x p) (ev T (.not x p)):=by
 intro vars objs mv objs' e A env s ρ rm F R
 refine opt2k e fun v o1 h1 e=>?_
 refine mapk e fun b e q=>?_
 refine injPm q ?_
 refine wpAny_UnaryOp (seqE (hx _ _ _ _ h1 A env s ρ rm F R) fun ρ1 s1 va K1 ra=>?_)
 refine not_value (seqB (truthy_ok e K1.rel ra) fun ρ2 s2 K2=>?_)
 exact ⟨ρ2,K1.trans K2,rfl⟩
theorem sx_ite {t b e:X} {p:Pos} (ht:ST W d ns t fun vars objs=>evT T t (ev T t vars objs) vars objs) (hb:SX W d ns b (ev T b)) (he:SX W d ns e (ev T e)):SX W d ns (.ite t b e p) (ev T (.ite t b e p)):=by
 intro vars objs mv objs' q A env s ρ rm F R
 refine wpAny_IfExp ?_
 refine optBk q (fun o1 h1 q=>?_) fun o1 h1 q=>?_
 ·refine seqB (ht _ _ _ _ h1 A env s ρ rm F R) fun ρ1 s1 K1=>?_
  rw [if_pos rfl]
  exact lastE K1 (hb _ _ _ _ q A env s1 ρ1 rm (F.ok R K1) K1.rel)
 ·refine seqB (ht _ _ _ _ h1 A env s ρ rm F R) fun ρ1 s1 K1=>?_
  rw [if_neg (by simp)]
  exact lastE K1 (he _ _ _ _ q A env s1 ρ1 rm (F.ok R K1) K1.rel)
theorem sx_cmp {l r:X} {o:CO} {p:Pos} (WK:WOk W) (hl:SX W d ns l (ev T l)) (hr:SX W d ns r (ev T r)):SX W d ns (.cmp l o r p) (ev T (.cmp l o r p)):=by
 intro vars objs mv objs' e A env s ρ rm F R
 refine opt2k e fun a o1 h1 e=>?_
 refine opt2k e fun b o2 h2 e=>?_
 refine mapk e fun c e q=>?_
 refine injPm q ?_
 refine wpAny_Compare1 (seqE (hl _ _ _ _ h1 A env s ρ rm F R) fun ρ1 s1 va K1 ra=>?_) (beh_dec ns o.op r)
 refine seqE (hr _ _ _ _ h2 A env s1 ρ1 rm (F.ok R K1) K1.rel) fun ρ2 s2 vb K2 rb=>?_
 exact lastE (K1.trans K2) (cmpop_ok (d:=d) rm e K2.rel (K2.vrel K1.rel ra) rb WK.gn)
theorem sx_tup {a b:X} {p:Pos} (ha:SX W d ns a (ev T a)) (hb:SX W d ns b (ev T b)):SX W d ns (.tup a b p) (ev T (.tup a b p)):=by
 intro vars objs mv objs' e A env s ρ rm F R
 refine optFk e fun x o1 h1 e=>?_
 refine optFk e fun y o2 h2 e=>?_
 refine inj2m e ?_
 refine wpAny_Tuple ?_
 rw [star_dec,star_dec]
 refine Calls.spliced_cons (seqE (ha _ _ _ _ h1 A env s ρ rm F R) fun ρ1 s1 va K1 ra=>?_)
 refine Calls.spliced_cons (seqE (hb _ _ _ _ h2 A env s1 ρ1 rm (F.ok R K1) K1.rel) fun ρ2 s2 vb K2 rb=>?_)
 refine Calls.spliced_nil ⟨by show 2≤2^24;decide,?_⟩
 refine PostE.after (K1.trans K2) (PostE.keepAll K2.rel (pushed _) ?_ _)
 exact ⟨_,va,vb,0,rfl,Heap.get?_push_size _ rfl,FRel.keep (keepImm_push _ _) (K2.frel K1.rel ra),FRel.keep (keepImm_push _ _) rb⟩
theorem fv_all:∀{vs:List MV} {ys:List FV},vs.mapM fvOf=some ys→vs=ys.map .fv
 |[],ys,e=>by cases e;rfl
 |v::r,ys,e=>by
  rw [List.mapM_cons] at e
  cases v with
  |fv x=>
   simp only [fvOf,Option.pure_def,Option.bind_eq_bind,Option.bind_some] at e
   cases h:r.mapM fvOf with
   |none=>rw [h] at e;cases e
   |some zs=>rw [h] at e;cases e;rw [fv_all h];rfl
  |ref i=>cases e
  |rng a b c=>cases e
  |edict=>cases e
  |gl g=>cases e
  |unb=>cases e
theorem all2_fv {ρ:List Addr} {h:Heap}:∀{ys:List FV} {vs:List Value},All2 (VRel W ρ h) (ys.map .fv) vs→All2 (FRel h) ys vs
 |[],_,.nil=>.nil
 |_::_,_,.cons p r=>.cons p (all2_fv r)
theorem sx_lst {xs:Xs} {p:Pos} (hx:SL W d ns xs (evs T xs)):SX W d ns (.lst xs p) (ev T (.lst xs p)):=by
 intro vars objs mv objs' e A env s ρ rm F R
 refine optLk e fun vs o1 h1 e=>?_
 refine opt1k e fun ys h2 e=>?_
 refine ifk e fun hl e=>?_
 refine inj2m e ?_
 refine wpAny_List (seqL ((hx _ _ _ _ h1 A env s ρ rm F R).1 p) fun ρ1 s1 us K1 ra=>?_)
 have:=fv_all h2
 subst this
 have al:=all2_fv ra
 refine ⟨by rw [←al.len];exact Nat.le_trans hl (by decide),PostE.after K1 (Ok.newList K1.rel (by simpa using al) _)⟩
theorem sl_nil:SL W d ns .nil (evs T .nil):=by
 intro vars objs mvs objs' e A env s ρ rm F R
 cases e
 exact ⟨fun pos=>wpAny_pure ⟨ρ,Ok.refl R,.nil⟩,fun pk pos=>wpAny_pure ⟨ρ,Ok.refl R,.nil⟩⟩
theorem sl_cons {x:X} {xs:Xs} (hx:SX W d ns x (ev T x)) (hxs:SL W d ns xs (evs T xs)):SL W d ns (.cons x xs) (evs T (.cons x xs)):=by
 intro vars objs mvs objs' e A env s ρ rm F R
 refine opt2k e fun v o1 h1 e=>?_
 refine optLk e fun vs o2 h2 e=>?_
 refine inj2m e ?_
 have key:∀{u:Value} {s1 s2:Shared} {ρ1:List Addr} {us:List Value},Ok W ρ s ρ1 o1 s1→VRel W ρ1 s1.heap v u→PostL W ρ1 s1 vs o2 us s2→PostL W ρ s (v::vs) o2 (u::us) s2:=by
  rintro u s1 s2 ρ1 us K1 ra ⟨ρ2,K2,rb⟩
  exact ⟨ρ2,K1.trans K2,.cons (K2.vrel K1.rel ra) rb⟩
 refine ⟨fun pos=>?_,fun pk pos=>?_⟩
 ·show wpAny _ _ (spliced (backTo pos (starEach (x.dec ns::xs.dec ns) env))) _ _ _
  rw [star_dec]
  refine Calls.spliced_cons (seqE (hx _ _ _ _ h1 A env s ρ rm F R) fun ρ1 s1 va K1 ra=>?_)
  exact wpAny_mono ((hxs _ _ _ _ h2 A env s1 ρ1 rm (F.ok R K1) K1.rel).1 pos) (fun us s2 P2=>key K1 ra P2) NoE.imp
 ·refine wpAny_evalAll_cons (wpAny_bind (seqE (hx _ _ _ _ h1 A env s ρ rm F R) fun ρ1 s1 va K1 ra=>?_))
  refine wpAny_bind (wpAny_standAt (wpAny_pure ?_))
  exact wpAny_mono ((hxs _ _ _ _ h2 A env s1 ρ1 rm (F.ok R K1) K1.rel).2 pk pos) (fun us s2 P2=>key K1 ra P2) NoE.imp
end
end
section
section
variable {W:W0} {d:Nat} {ns:Names} {T:Tbl}
theorem subd_dec (ns:Names) (i:X) (o v:Value):subscripted (i.dec ns) false o v=operate [o,v] (getItem o v):=by
 cases i<;>try rfl
 rename_i b a pn pm pk p
 cases b<;>rfl
theorem seqIndex_nn {i:Int} {n:Nat} (h:0≤i) (hi:i.toNat<n):seqIndex? i n=some i.toNat:=by
 unfold seqIndex?
 simp only [show ¬i<0 by omega,if_false]
 rw [if_pos (by simp;omega)]
theorem lookup_value {h:Heap}:∀{es:List (Int × FV)} {kvs:List (Int × Value)},All2 (fun (p:Int × FV) (q:Int × Value)=>p.1=q.1∧FRel h p.2 q.2) es kvs→∀{k:Int} {x:FV},es.lookup k=some x→∃v,valueAt kvs k=some v∧FRel h x v
 |_,_,.nil,k,x,e=>by cases e
 |(k1,y)::r,(k2,v)::t,.cons p q,k,x,e=>by
  obtain ⟨rfl,pv⟩:k1=k2∧FRel h y v:=p
  rw [List.lookup_cons] at e
  unfold valueAt
  rw [List.find?_cons]
  by_cases hk:k1=k
  ·subst hk
   simp at e;subst e
   exact ⟨v,by simp,pv⟩
  ·have:(k==k1)=false:=by rw [beq_eq_false_iff_ne];exact fun h=>hk h.symm
   rw [this] at e
   simp only [hk,decide_false]
   exact lookup_value q e
section
variable {A:Around} {ρ:List Addr} {objs:List MO} {s:Shared} {mv:MV} {va:Value} {value:Expr} {i:X}
theorem nthS_ok {l:List Nat} {k:Int} {c:Nat} {t u:Tok} (hb:k.natAbs<big) (hc:(if 0≤k then l[k.toNat]? else if 0≤k+l.length then l[(k+l.length).toNat]? else none)=some c) (R:ORel W ρ objs s.heap):
  wpAny (model W.prog W.w) A (subscriptTail value (i.dec ns) (.str ⟨l.toArray⟩ t) (.int k u)) (PostE W ρ s (.fv (.str [c])) objs) NoE s:=by
 have hk:k.natAbs<4611686018427387904:=hb
 refine tail_any (T:= "str") (typeIs_str _ _ _) slot_str_getitem.lookup (PyProof.Rows.getItem_str (c:=c) (by rw [Bool.or_eq_false_iff];exact ⟨decide_eq_false (by omega),decide_eq_false (by omega)⟩) ?_ (PostE.toks R (mv:=.fv (.str _)) ⟨_,rfl⟩ _)) (subd_dec ns i _ _)
 rw [str_len]
 by_cases h0:0≤k
 ·rw [if_pos h0] at hc
  rw [seqIndex_nn h0 (List.getElem?_eq_some_iff.mp hc).1];simpa only [Option.bind_some,List.getElem?_toArray] using hc
 ·rw [if_neg h0] at hc
  refine ifk hc fun h1 hc=>?_
  have hl:=(List.getElem?_eq_some_iff.mp hc).1
  have:seqIndex? k l.length=some (k+l.length).toNat:=by
   unfold seqIndex?
   rw [if_pos (Int.not_le.mp h0)]
   exact if_pos (by simp;omega)
  rw [this];simpa only [Option.bind_some,List.getElem?_toArray] using hc
theorem nthL_ok {xs:List FV} {k:Int} {t:Tok} {a:Addr} {vs:Array Value} {n:Nat} (e:nthL xs k=some mv) (g:s.heap.get? a=some {cls:=.type "list",data:=.seq vs n}) (al:All2 (FRel s.heap) xs vs.toList) (R:ORel W ρ objs s.heap):
  wpAny (model W.prog W.w) A (subscriptTail value (i.dec ns) (.ref a) (.int k t)) (PostE W ρ s mv objs) NoE s:=
 ifk e fun h e=>mapk e fun x hx e=>by
  obtain ⟨v,hv,rv⟩:=al.get hx
  subst e
  exact tail_any (list_isList g).typeIs slot_list_getitem.lookup (wpAny_getItem_list (x:=v) (list_isList g) (dec2 h).1 (Int.lt_trans (dec2 h).2 (by decide)) (Array.getElem?_toList▸hv) (PostE.same R rv)) (subd_dec ns i _ _)
theorem nthM_ok {a b:MV} {vb:Value} (e:nthM a b objs=some mv) (R:ORel W ρ objs s.heap) (ra:VRel W ρ s.heap a va) (rb:VRel W ρ s.heap b vb):
  wpAny (model W.prog W.w) A (subscriptTail value (i.dec ns) va vb) (PostE W ρ s mv objs) NoE s:=by
 refine wIk e rb fun k t e=>?_
 cases a with
 |fv x=>
  cases x with
  |str l=>
   obtain ⟨u,rfl⟩:=ra
   exact ifk e fun hb e=>mapk e fun c hc e=>e▸nthS_ok hb hc R
  |pair x y=>
   obtain ⟨p,u,w,n,rfl,g,r1,r2⟩:=ra
   have ht:IsTup s.heap p #[u,w]:=⟨_,g,rfl,n,rfl⟩
   by_cases h:k=0
   ·subst h
    exact inj1m e (tail_any ht.typeIs slot_tuple_getitem.lookup (getItem_tuple ht (by decide) (by decide) (j:=0) rfl rfl (PostE.same R r1)) (subd_dec ns i _ _))
   ·have e:=(if_neg h).symm.trans e
    refine ifk e fun h e=>?_
    subst h
    exact inj1m e (tail_any ht.typeIs slot_tuple_getitem.lookup (getItem_tuple ht (by decide) (by decide) (j:=1) rfl rfl (PostE.same R r2)) (subd_dec ns i _ _))
  |_=>exact non e
 |ref r=>
  refine bindk e fun o ho e=>?_
  cases o with
  |list xs=>
   obtain ⟨a,rfl,q,vs,n,g,al⟩:=R.at ho ra
   exact nthL_ok e g al R
  |dict es=>
   obtain ⟨a,rfl,q,o,kvs,g,hd,al⟩:=R.at ho ra
   refine mapk e fun x hx e=>?_
   obtain ⟨v,hv,rv⟩:=lookup_value al hx
   have hD:s.heap.DictOf (intKind W.prog W.w) a kvs:=Heap.dictOf_iff.mpr ⟨o,g,hd⟩
   exact e▸tail_any hD.typeIs slot_dict_getitem.lookup (wpAny_getItem_of (knd:=intKind W.prog W.w) (k:=_) (key:=.int _ t) (by simp [intKind,Value.isInt]) hD.mapOf hv (PostE.toks R (mv:=.fv _) rv _)) (subd_dec ns i _ _)
  |fz xs=>
   obtain ⟨a,rfl,q,g,vs,n,eq,al⟩:=R.at ho ra
   exact nthL_ok e (eq▸g) al R
  |_=>exact non e
 |_=>exact non e
end
theorem sx_sub {o i:X} {p:Pos} (ho:SX W d ns o (ev T o)) (hi:SX W d ns i (ev T i)):SX W d ns (.sub o i p) (ev T (.sub o i p)):=by
 intro vars objs mv objs' e A env s ρ rm F R
 refine opt2k e fun a o1 h1 e=>opt2k e fun b o2 h2 e=>mapk e fun c e q=>injPm q ?_
 refine Subscript_ (seqE (ho _ _ _ _ h1 A env s ρ rm F R) fun ρ1 s1 va K1 ra=>?_)
 refine seqE (hi _ _ _ _ h2 A env s1 ρ1 rm (F.ok R K1) K1.rel) fun ρ2 s2 vb K2 rb=>?_
 exact lastE (K1.trans K2) (nthM_ok e K2.rel (K2.vrel K1.rel ra) rb)
theorem isNo_is {l:X} (h:l.isNo=true):l=.no:=by
 cases l with|no=>rfl|_=>exact Bool.noConfusion h
theorem part_ok {l:X} (hl:SX W d ns l (ev T l)) {vars:List MV} {objs objs':List MO} {mv:MV} (e:ev T l vars objs=some (mv,objs')) {A:Around} {env:Env} {s:Shared} {ρ:List Addr} (rm:Room (d+8) A) (F:FR W env ns vars ρ s.heap) (R:ORel W ρ objs s.heap):
  wpAny (model W.prog W.w) A (evalPart (if l.isNo then none else some (l.dec ns)) env) (PostE W ρ s mv objs') NoE s:=by
 by_cases h:l.isNo=true
 ·rw [if_pos h,evalPart_none]
  rw [isNo_is h] at e
  exact inj2m e (wpAny_pure (PostE.same R rfl))
 ·rw [if_neg h,evalPart_some]
  exact hl _ _ _ _ e A env s ρ rm F R
noncomputable def clipI (n:Nat) (dflt:Int):Option Int→Int
 |none=>dflt
 |some i=>max 0 (min (if i<0 then i+n else i) n)
theorem bound_is {n dn b:Nat} {mv:MV} {ρ:List Addr} {h:Heap} {v:Value} (e:bound? n dn mv=some b) (r:VRel W ρ h mv v) (hd:dn≤n):∃q:Option (Int × Tok),v=partValue q∧IsPart v (q.map (·.1))∧clipI n dn (q.map (·.1))=b∧b≤n:=by
 cases mv with
 |unb=>cases r;exact inj1m e ⟨none,rfl,.none,rfl,hd⟩
 |fv x=>
  cases x with
  |none=>cases r;exact inj1m e ⟨none,rfl,.none,rfl,hd⟩
  |int i=>
   obtain ⟨t,rfl⟩:=r
   refine ifk e fun _ e=>inj1m e ⟨some (_,t),rfl,.int _ _,?_⟩
   show max 0 (min (if i<0 then i+n else i) n)=((if i<0 then (i+n).toNat else min i.toNat n:Nat):Int)∧(if i<0 then (i+n).toNat else min i.toNat n)≤n
   by_cases h:i<0
   ·have h':i+n≤n:=by lia
    rw [if_pos h,if_pos h,Int.min_eq_left h',Int.toNat_eq_max,Int.max_comm]
    exact ⟨rfl,Int.toNat_le.mpr h'⟩
   ·obtain ⟨m,rfl⟩:=Int.eq_ofNat_of_zero_le (Int.not_lt.mp h)
    rw [if_neg h,if_neg h]
    refine ⟨(Int.max_eq_right (Int.le_min.mpr ⟨Int.natCast_nonneg m,Int.natCast_nonneg n⟩)).trans ?_,Nat.min_le_right _ _⟩
    rcases Nat.le_total m n with q|q
    ·exact (Int.min_eq_left (Int.ofNat_le.mpr q)).trans (congrArg Int.ofNat (Nat.min_eq_left q).symm)
    ·exact (Int.min_eq_right (Int.ofNat_le.mpr q)).trans (congrArg Int.ofNat (Nat.min_eq_right q).symm)
  |_=>exact non e
 |_=>exact non e
theorem sliceIdx_clip (lo hi:Option Int) (n a b:Nat) (ha:clipI n 0 lo=a) (hb:clipI n n hi=b):Builtin.Str.strSliceIndices lo hi 1 n=(List.range (b-a)).map (a+ ·):=by
 have:Builtin.Str.strSliceIndices lo hi 1 n=sliceRange (clipI n 0 lo) (clipI n n hi) 1:=by
  unfold Builtin.Str.strSliceIndices clipI
  cases lo<;>cases hi<;>simp
 rw [this,ha,hb,sliceRange_one]
theorem slicePick_clip (items:Array Value) (lo hi:Option Int) (a b:Nat) (ha:clipI items.size 0 lo=a) (hb:clipI items.size items.size hi=b):slicePick items lo hi none=((items.toList.drop a).take (b-a)).toArray:=by
 have:sliceBounds lo hi none items.size=((a:Int),(b:Int),1):=by
  rw [←ha,←hb]
  unfold sliceBounds clipI
  cases lo<;>cases hi<;>simp
 unfold slicePick
 rw [this]
 simp only [sliceRange_one,pick_run]
section
variable {A:Around} {ρ:List Addr} {objs objs':List MO} {s:Shared} {mv:MV} {va vl vu:Value} {value sl:Expr} {a:Addr}
theorem slS_ok {str:List Nat} {ba bb:Nat} {t:Tok} {ql qu:Option (Int × Tok)} (hlim:str.length≤lim) (hslo:s.heap.get? a=some {cls:=.type "slice",data:=.fields #[partValue ql,partValue qu,.none]})
  (cl:clipI str.length 0 (ql.map (·.1))=ba) (cu:clipI str.length str.length (qu.map (·.1))=bb) (bl:ba≤str.length) (bu:bb≤str.length) (R:ORel W ρ objs s.heap):
  wpAny (model W.prog W.w) A (getItem (.str ⟨str.toArray⟩ t) (.ref a)) (PostE W ρ s (.fv (.str ((str.drop ba).take (bb-ba)))) objs) NoE s:=by
 refine wpAny_getItem_str_slice (l:=ql) (u:=qu) (st:=none) ⟨_,hslo,rfl,rfl⟩ rfl ?_
 have hp:slicePicked (⟨str.toArray⟩:Str) ql qu none=(List.range (bb-ba)).map (ba+ ·):=by
  unfold slicePicked
  rw [str_len]
  exact sliceIdx_clip _ _ _ _ _ cl cu
 unfold sliceMade
 split
 ·rename_i hh
  simp only [Bool.and_eq_true,beq_iff_eq] at hh
  have h5:=hh.2
  rw [hp,List.length_map,List.length_range,str_len] at h5
  have e1:(str.drop ba).take (bb-ba)=str:=by
   obtain rfl:ba=0:=by omega
   exact List.take_of_length_le (Nat.le_of_eq h5.symm)
  rw [e1]
  exact PostE.same R fstr
 ·rw [hp]
  have e2:((List.range (bb-ba)).map (ba+ ·)).filterMap ((⟨str.toArray⟩:Str).cps[·]?)=(str.drop ba).take (bb-ba):=by
   have:=pick_run str.toArray ba (bb-ba)
   simpa using this
  rw [e2]
  refine ⟨?_,PostE.toks R fstr _⟩
  rw [str_len]
  exact lim_fits (Nat.le_trans (Nat.le_trans (List.length_take_le' _ _) (List.length_drop▸Nat.sub_le _ _)) hlim)
theorem sliceM_ok {v l u:MV} (e:sliceM v l u objs=some (mv,objs')) (hsl:s.heap.IsSliceOf a vl vu .none) (hslo:s.heap.get? a=some {cls:=.type "slice",data:=.fields #[vl,vu,.none]})
  (R:ORel W ρ objs s.heap) (ra:VRel W ρ s.heap v va) (rl:VRel W ρ s.heap l vl) (ru:VRel W ρ s.heap u vu):
  ∃T id,s.TypeIs va T∧typeLookup (.type T) "__getitem__" =pure (some (.builtin id))∧wpAny (model W.prog W.w) A (getItem va (.ref a)) (PostE W ρ s mv objs') NoE s:=by
 cases v with
 |fv x=>
  refine wSk e ra fun str t e=>bindk e fun ba hba e=>bindk e fun bb hbb e=>ifk e fun hlim e=>inj2m e ?_
  obtain ⟨ql,rfl,il,cl,bl⟩:=bound_is hba rl (Nat.zero_le _)
  obtain ⟨qu,rfl,iu,cu,bu⟩:=bound_is hbb ru (Nat.le_refl _)
  exact ⟨"str",_,typeIs_str _ _ _,slot_str_getitem.lookup,slS_ok hlim hslo cl cu bl bu R⟩
 |ref i=>
  refine wLk e R ra fun i a vs n xs qa _ g al el e=>bindk e fun ba hba e=>bindk e fun bb hbb e=>ifk e fun hh e=>inj2m e ?_
  subst qa
  obtain ⟨ql,rfl,il,cl,bl⟩:=bound_is hba rl (Nat.zero_le _)
  obtain ⟨qu,rfl,iu,cu,bu⟩:=bound_is hbb ru (Nat.le_refl _)
  refine ⟨_,_,(list_isList g).typeIs,slot_list_getitem.lookup,wpAny_getItem_list_slice (list_isList g) hsl il iu .none nofun ?_ (by rw [←el];exact Nat.le_trans (decA hh).2 (by decide))⟩
  rw [el] at cl cu
  rw [slicePick_clip _ _ _ _ _ cl cu]
  exact Ok.newList R ((al.drop _).take _) _
 |_=>exact non e
end
theorem sx_sl {o l u:X} {ps p:Pos} (ho:SX W d ns o (ev T o)) (hl:SX W d ns l (ev T l)) (hu:SX W d ns u (ev T u)):SX W d ns (.sl o l u ps p) (ev T (.sl o l u ps p)):=by
 intro vars objs mv objs' e A env s ρ rm F R
 refine opt2k e fun a o1 h1 e=>opt2k e fun x o2 h2 e=>opt2k e fun y o3 h3 e=>?_
 show wpAny _ _ (eval (.Subscript (o.dec ns) (.Slice (if l.isNo then none else some (l.dec ns)) (if u.isNo then none else some (u.dec ns)) none ps) p) env) _ _ _
 refine Subscript_ (seqE (ho _ _ _ _ h1 A env s ρ rm F R) fun ρ1 s1 va K1 ra=>?_)
 refine wpAny_Slice (seqE (part_ok hl h2 rm (F.ok R K1) K1.rel) fun ρ2 s2 vl K2 rl=>?_)
 refine seqE (part_ok hu h3 rm ((F.ok R K1).ok K1.rel K2) K2.rel) fun ρ3 s3 vu K3 ru=>?_
 rw [evalPart_none]
 refine wpAny_pure ?_
 have ra3:=K3.vrel K2.rel (K2.vrel K1.rel ra)
 have rl3:=K3.vrel K2.rel rl
 have K:=(K1.trans K2).trans K3
 have K4:Ok W ρ3 s3 ρ3 o3 {s3 with heap:=s3.heap.push {cls:=.type "slice",data:=.fields #[vl,vu,.none]}}:=Ok.keepAll K3.rel (pushed _) s3.toks
 refine lastE (K.trans K4) ?_
 obtain ⟨T,id,h1,h2,h3⟩:=sliceM_ok e (Heap.IsSliceOf.new ..) (Heap.get?_push_size _ rfl) K4.rel (K4.vrel K3.rel ra3) (K4.vrel K3.rel rl3) (K4.vrel K3.rel ru)
 exact tail_any (ops:=[.ref s3.heap.objs.size,_]) h1 h2 h3 rfl
end
end
section
section
variable {W:W0} {d:Nat} {ns:Names} {T:Tbl}
noncomputable def opOf (c:Bool):BoolOp:=if c then .And else .Or
noncomputable def SB (W:W0) (d:Nat) (ns:Names) (xs:Xs) (run:Bool→List MV→List MO→Option (MV × List MO)):Prop:=
 ∀(c:Bool) (p:Pos) (vars:List MV) (objs:List MO) (mv:MV) (objs':List MO),run c vars objs=some (mv,objs')→∀(A:Around) (env:Env) (s:Shared) (ρ:List Addr),Room (d+8) A→FR W env ns vars ρ s.heap→ORel W ρ objs s.heap→
  wpAny (model W.prog W.w) A (eval (.BoolOp (opOf c) (xs.dec ns) p) env) (PostE W ρ s mv objs') NoE s
noncomputable def SA (W:W0) (d:Nat) (ns:Names) (xs:Xs) (run:Bool→List MV→List MO→Option (Bool × List MO)):Prop:=
 ∀(c:Bool) (p:Pos) (whole:Sem Value) (vars:List MV) (objs:List MO) (b:Bool) (objs':List MO),run c vars objs=some (b,objs')→∀(A:Around) (env:Env) (s:Shared) (ρ:List Addr),Room (d+8) A→FR W env ns vars ρ s.heap→ORel W ρ objs s.heap→
  wpAny (model W.prog W.w) A (isTrue (.BoolOp (opOf c) (xs.dec ns) p) env whole) (PostB W ρ s b objs') NoE s
theorem sb_nil:SB W d ns .nil fun c=>evB T c .nil:=fun _ _ _ _ _ _ e=>non e
theorem sb_cons {x:X} {xs:Xs} (hx:SX W d ns x (ev T x)) (hxs:SB W d ns xs fun c=>evB T c xs):SB W d ns (.cons x xs) fun c=>evB T c (.cons x xs):=by
 intro c p vars objs mv objs' e A env s ρ rm F R
 cases xs with
 |nil=>exact BoolOp_one (hx _ _ _ _ e A env s ρ rm F R)
 |cons y ys=>
  refine opt2k e fun v o1 h1 e=>optbk e fun b hb e=>?_
  have h:=hx _ _ _ _ h1 A env s ρ rm F R
  have hb:=fun s1 ρ1 va (K1:Ok W ρ s ρ1 o1 s1) (ra:VRel W ρ1 s1.heap v va)=>truthy_ok (A:=A) hb K1.rel ra
  have go:∀{s1 ρ1 s2 ρ2 va},(K1:Ok W ρ s ρ1 o1 s1)→(ra:VRel W ρ1 s1.heap v va)→Ok W ρ1 s1 ρ2 o1 s2→b=c→wpAny (model W.prog W.w) A (eval (.BoolOp (opOf c) ((Xs.cons y ys).dec ns) p) env) (PostE W ρ s mv objs') NoE s2:=fun K1 ra K2 q=>
   lastE (K1.trans K2) (hxs c p _ _ _ _ ((if_pos q).symm.trans e) A env _ _ rm ((F.ok R K1).ok K1.rel K2) K2.rel)
  have stop:∀{s1 ρ1 s2 ρ2 va},(K1:Ok W ρ s ρ1 o1 s1)→(ra:VRel W ρ1 s1.heap v va)→Ok W ρ1 s1 ρ2 o1 s2→b≠c→PostE W ρ s mv objs' va s2:=fun K1 ra K2 q=>
   inj2m ((if_neg q).symm.trans e) ⟨_,K1.trans K2,K2.vrel K1.rel ra⟩
  cases c with
  |true=>
   refine BoolOp_and (seqE h fun ρ1 s1 va K1 ra=>seqB (hb s1 ρ1 va K1 ra) fun ρ2 s2 K2=>?_)
   cases b with
   |true=>exact go K1 ra K2 rfl
   |false=>exact stop K1 ra K2 nofun
  |false=>
   refine BoolOp_or (seqE h fun ρ1 s1 va K1 ra=>seqB (hb s1 ρ1 va K1 ra) fun ρ2 s2 K2=>?_)
   cases b with
   |false=>exact go K1 ra K2 rfl
   |true=>exact stop K1 ra K2 nofun
theorem sx_bop {c:Bool} {xs:Xs} {p:Pos} (h:SB W d ns xs fun c=>evB T c xs):SX W d ns (.bop c xs p) (ev T (.bop c xs p)):=by
 intro vars objs mv objs' e A env s ρ rm F R
 have:=h c p _ _ _ _ e A env s ρ rm F R
 cases c<;>exact this
theorem sa_nil:SA W d ns .nil fun c=>evA T c .nil:=by
 intro c p whole vars objs b objs' e A env s ρ rm F R
 refine inj2m e ?_
 cases c
 ·exact isTrue_or_nil ⟨rfl,ρ,Ok.refl R⟩
 ·exact isTrue_and_nil ⟨rfl,ρ,Ok.refl R⟩
theorem sa_cons {x:X} {xs:Xs} (hx:ST W d ns x fun vars objs=>evT T x (ev T x vars objs) vars objs) (hxs:SA W d ns xs fun c=>evA T c xs):SA W d ns (.cons x xs) fun c=>evA T c (.cons x xs):=by
 intro c p whole vars objs b objs' e A env s ρ rm F R
 refine optTk e fun v o1 h1 e=>?_
 have h:=hx _ _ _ _ h1 A env s ρ rm F R
 have go:∀{s1 ρ1},Ok W ρ s ρ1 o1 s1→v=c→wpAny (model W.prog W.w) A (isTrue (.BoolOp (opOf c) (xs.dec ns) p) env whole) (PostB W ρ s b objs') NoE s1:=fun K1 q=>
  lastB K1 (hxs c p whole _ _ _ _ ((if_pos q).symm.trans e) A env _ _ rm (F.ok R K1) K1.rel)
 have stop:∀{s1 ρ1},Ok W ρ s ρ1 o1 s1→v≠c→PostB W ρ s b objs' (!c) s1:=fun K1 q=>
  inj2m ((if_neg q).symm.trans e) ⟨rfl,_,K1⟩
 cases c with
 |true=>
  refine isTrue_and (seqB h fun ρ1 s1 K1=>?_)
  cases v with
  |true=>exact go K1 rfl
  |false=>exact stop K1 nofun
 |false=>
  refine isTrue_or (seqB h fun ρ1 s1 K1=>?_)
  cases v with
  |false=>exact go K1 rfl
  |true=>exact stop K1 nofun
theorem st_not {x:X} {p:Pos} (hx:ST W d ns x fun vars objs=>evT T x (ev T x vars objs) vars objs):ST W d ns (.not x p) fun vars objs=>evT T (.not x p) (ev T (.not x p) vars objs) vars objs:=by
 intro vars objs b objs' e A env s ρ rm F R
 refine mapk e fun q h1 h2=>injPm h2 ?_
 exact isTrue_not (seqB (hx _ _ _ _ h1 A env s ρ rm F R) fun ρ1 s1 K1=>⟨rfl,ρ1,K1⟩)
theorem st_bop {c:Bool} {xs:Xs} {p:Pos} (h:SA W d ns xs fun c=>evA T c xs):ST W d ns (.bop c xs p) fun vars objs=>evT T (.bop c xs p) (ev T (.bop c xs p) vars objs) vars objs:=by
 intro vars objs b objs' e A env s ρ rm F R
 have:=h c p (eval ((X.bop c xs p).dec ns) env) _ _ _ _ e A env s ρ rm F R
 cases c<;>exact this
theorem st_ite {t b e:X} {p:Pos} (ht:ST W d ns t fun vars objs=>evT T t (ev T t vars objs) vars objs) (hb:ST W d ns b fun vars objs=>evT T b (ev T b vars objs) vars objs) (he:ST W d ns e fun vars objs=>evT T e (ev T e vars objs) vars objs):
  ST W d ns (.ite t b e p) fun vars objs=>evT T (.ite t b e p) (ev T (.ite t b e p) vars objs) vars objs:=by
 intro vars objs r objs' q A env s ρ rm F R
 refine isTrue_IfExp (optBk q (fun o1 h1 q=>?_) fun o1 h1 q=>?_)
 ·exact seqB (ht _ _ _ _ h1 A env s ρ rm F R) fun ρ1 s1 K1=>lastB K1 (hb _ _ _ _ q A env s1 ρ1 rm (F.ok R K1) K1.rel)
 ·exact seqB (ht _ _ _ _ h1 A env s ρ rm F R) fun ρ1 s1 K1=>lastB K1 (he _ _ _ _ q A env s1 ρ1 rm (F.ok R K1) K1.rel)
theorem st_plain {x:X} (hx:SX W d ns x (ev T x)) (hev:∀o vars objs,evT T x o vars objs=match o with|some (v,o1)=>(truthyM v o1).map fun b=>(b,o1)|none=>none)
  (he:∀env whole,isTrue (x.dec ns) env whole=(do let v←whole;standAt (x.dec ns).pos;holding [v] (truthy v))):ST W d ns x fun vars objs=>evT T x (ev T x vars objs) vars objs:=by
 intro vars objs b objs' e A env s ρ rm F R
 simp only [hev] at e
 refine opt2k e fun v o1 h1 e=>?_
 refine mapk e fun c e q=>?_
 refine injPm q ?_
 refine isTrue_plain (seqE (hx _ _ _ _ h1 A env s ρ rm F R) fun ρ1 s1 va K1 ra=>?_) (he env _)
 exact lastB K1 (truthy_ok e K1.rel ra)
noncomputable def SC (W:W0) (d:Nat) (ns:Names) (l:Expr) (op:CmpOp) (r:Expr) (run:List MV→List MO→Option (MV × List MO)):Prop:=
 ∀(vars:List MV) (objs:List MO) (mv:MV) (objs':List MO),run vars objs=some (mv,objs')→∀(A:Around) (env:Env) (s:Shared) (ρ:List Addr),Room (d+8) A→FR W env ns vars ρ s.heap→ORel W ρ objs s.heap→
  wpAny (model W.prog W.w) A (eval l env) (fun a s1=>wpAny (model W.prog W.w) A (eval r env) (fun b s2=>wpAny (model W.prog W.w) A (compareOp op a b) (PostE W ρ s mv objs') NoE s2) NoE s1) NoE s
theorem sx_comp {x:X} {l r:Expr} {op:CmpOp} {p:Pos} (hd:x.dec ns=.Compare l [op] [r] p) (hm:behindInMarks op r=false) (h:SC W d ns l op r (ev T x)):SX W d ns x (ev T x):=by
 intro vars objs mv objs' e A env s ρ rm F R
 rw [hd]
 exact wpAny_Compare1 (h _ _ _ _ e A env s ρ rm F R) hm
theorem st_comp {x:X} {l r:Expr} {op:CmpOp} {p:Pos} (hd:x.dec ns=.Compare l [op] [r] p) (hm:behindInMarks op r=false) (h:SC W d ns l op r (ev T x))
  (hev:∀o vars objs,evT T x o vars objs=match o with|some (v,o1)=>(truthyM v o1).map fun b=>(b,o1)|none=>none):ST W d ns x fun vars objs=>evT T x (ev T x vars objs) vars objs:=by
 intro vars objs b objs' e A env s ρ rm F R
 simp only [hev] at e
 refine opt2k e fun v o1 h1 e=>?_
 refine mapk e fun c e q=>?_
 refine injPm q ?_
 rw [hd]
 refine wpAny_isTrue_Compare1 (wpAny_mono (h _ _ _ _ h1 A env s ρ rm F R) (fun va s1 P1=>?_) NoE.imp) hm
 refine wpAny_mono P1 (fun vb s2 P2=>?_) NoE.imp
 refine wpAny_mono P2 (fun vc s3 P3=>?_) NoE.imp
 obtain ⟨ρ1,K1,ra⟩:=P3
 exact lastB K1 (truthy_ok e K1.rel ra)
theorem sc_cmp {l r:X} {o:CO} {p:Pos} (WK:WOk W) (hl:SX W d ns l (ev T l)) (hr:SX W d ns r (ev T r)):SC W d ns (l.dec ns) o.op (r.dec ns) (ev T (.cmp l o r p)):=by
 intro vars objs mv objs' e A env s ρ rm F R
 refine opt2k e fun a o1 h1 e=>?_
 refine opt2k e fun b o2 h2 e=>?_
 refine mapk e fun c e q=>?_
 refine injPm q ?_
 refine seqE (hl _ _ _ _ h1 A env s ρ rm F R) fun ρ1 s1 va K1 ra=>?_
 refine seqE (hr _ _ _ _ h2 A env s1 ρ1 rm (F.ok R K1) K1.rel) fun ρ2 s2 vb K2 rb=>?_
 exact lastE (K1.trans K2) (cmpop_ok (d:=d) rm e K2.rel (K2.vrel K1.rel ra) rb WK.gn)
theorem plain_dec:∀(a:Xs) (env:Env) (pos:Pos),(backTo pos (starEach (a.dec ns) env)).any (·.1)=false
 |.nil,_,_=>rfl
 |.cons x xs,env,pos=>by
  show (backTo pos (starEach (x.dec ns::xs.dec ns) env)).any (·.1)=false
  rw [star_dec]
  exact plain_dec xs env pos
theorem len_dec:∀(a:Xs),(a.dec ns).length=a.toList.length
 |.nil=>rfl
 |.cons x xs=>congrArg (· +1) (len_dec xs)
theorem args_ok {a kw:Xs} {f:Value} {pos pk:Pos} {vars:List MV} {objs o1 o2:List MO} {vs ks:List MV} (ha:SL W d ns a (evs T a)) (hk:SL W d ns kw (evs T kw)) (e1:evs T a vars objs=some (vs,o1)) (e2:evs T kw vars o1=some (ks,o2))
  {A:Around} {env:Env} {s:Shared} {ρ:List Addr} (rm:Room (d+8) A) (F:FR W env ns vars ρ s.heap) (R:ORel W ρ objs s.heap) {nk:List Str} (hn:nk=kw.toList.map fun _=>("name" :Str)):
  wpAny (model W.prog W.w) A (evalArgs f true (backTo pos (starEach (a.dec ns) env)) (backToKw pos (keywordEach (kw.decKw ns pk) env)))
   (fun x s'=>∃us ws,x=⟨us,nk.zip ws⟩∧ws.length=nk.length∧PostL W ρ s (vs++ks) o2 (us++ws) s') NoE s:=by
 have hall:∀kw:Xs,(backToKw pos (keywordEach (kw.decKw ns pk) env)).all (·.1.isSome)=true:=by
  intro kw
  induction kw using Xs.rec (motive_1:=fun _=>True) with
  |nil=>rfl
  |cons x xs _ ih=>exact ih
  |_=>trivial
 have hnm:∀kw:Xs,(backToKw pos (keywordEach (kw.decKw ns pk) env)).filterMap (·.1)=kw.toList.map fun _=>("name" :Str):=by
  intro kw
  induction kw using Xs.rec (motive_1:=fun _=>True) with
  |nil=>rfl
  |cons x xs _ ih=>exact congrArg (List.cons _) ih
  |_=>trivial
 have fin:∀(us:List Value) (s1:Shared),PostL W ρ s vs o1 us s1→wpAny (model W.prog W.w) A (evalAll ((backToKw pos (keywordEach (kw.decKw ns pk) env)).map (·.2)))
   (fun ws s2=>∃us' ws',(⟨us,((backToKw pos (keywordEach (kw.decKw ns pk) env)).filterMap (·.1)).zip ws⟩:Args)=⟨us',nk.zip ws'⟩∧ws'.length=nk.length∧PostL W ρ s (vs++ks) o2 (us'++ws') s2) NoE s1:=by
  rintro us s1 ⟨ρ1,K1,r1⟩
  refine seqL ((hk _ _ _ _ e2 A env s1 ρ1 rm (F.ok R K1) K1.rel).2 pk pos) fun ρ2 s2 ws K2 r2=>?_
  refine ⟨us,ws,by rw [hnm,hn],?_,ρ2,K1.trans K2,?_⟩
  ·have h1:=r2.len
   have h2:∀(kw:Xs) (objs:List MO) (ks:List MV) (o2:List MO),evs T kw vars objs=some (ks,o2)→ks.length=kw.toList.length:=by
    intro kw
    induction kw using Xs.rec (motive_1:=fun _=>True) with
    |nil=>intro objs ks o2 e;exact inj2m e rfl
    |cons x xs _ ih=>
     intro objs ks o2 e
     exact opt2k e fun v o1 h1 e=>optLk e fun vs o2 h e=>inj2m e (congrArg (· +1) (ih _ _ _ h))
    |_=>trivial
   rw [hn,List.length_map,←h1,h2 _ _ _ _ e2]
  ·exact (all2_mem r1 fun a b _ q=>K2.vrel K1.rel q).append r2
 cases a with
 |nil=>
  refine evalArgs_kw_nil (hall kw) ?_
  cases e1
  exact fin [] s ⟨ρ,Ok.refl R,.nil⟩
 |cons x xs=>
  have hs:=(ha _ _ _ _ e1 A env s ρ rm F R).1 pos
  show wpAny _ _ (evalArgs f true (backTo pos (starEach (x.dec ns::xs.dec ns) env)) _) _ _ _
  have hs':wpAny (model W.prog W.w) A (spliced (backTo pos (starEach (x.dec ns::xs.dec ns) env))) (PostL W ρ s vs o1) NoE s:=hs
  rw [star_dec] at hs' ⊢
  exact evalArgs_kw (hall kw) (wpAny_mono hs' (fun us s1 P1=>fin us s1 P1) NoE.imp)
theorem args_ok0 {a:Xs} {f:Value} {pos:Pos} {vars:List MV} {objs o1:List MO} {vs:List MV} (ha:SL W d ns a (evs T a)) (e1:evs T a vars objs=some (vs,o1))
  {A:Around} {env:Env} {s:Shared} {ρ:List Addr} (rm:Room (d+8) A) (F:FR W env ns vars ρ s.heap) (R:ORel W ρ objs s.heap):
  wpAny (model W.prog W.w) A (evalArgs f true (backTo pos (starEach (a.dec ns) env)) []) (fun x s'=>∃us,x=⟨us,[]⟩∧PostL W ρ s vs o1 us s') NoE s:=by
 refine wpAny_mono (args_ok (kw:=.nil) (pk:=pos) (nk:=[]) ha sl_nil e1 (by rfl) rm F R rfl) (fun x s' P=>?_) NoE.imp
 obtain ⟨us,ws,rfl,hl,P⟩:=P
 have:ws=[]:=List.length_eq_zero_iff.mp hl
 subst this
 refine ⟨us,rfl,?_⟩
 simpa using P
theorem fncall_ok {A:Around} {ρ:List Addr} {objs objs':List MO} {s:Shared} {f:Nat} {vs:List MV} {mv:MV} {us ks:List Value} (TK:TblOk W d T) (rm:Room (d+8) A) (R:ORel W ρ objs s.heap) (r:All2 (VRel W ρ s.heap) vs (us++ks)) (hk:ks.length=(kwsOf f).length)
  (e:callM T f vs objs=some (mv,objs')):wpAny (model W.prog W.w) A (call (.ref (W.fnA f)) us ((kwsOf f).zip ks)) (PostE W ρ s mv objs') NoE s:=by
 refine wpAny_call (codeAny_mono (callM_ok (TK f) (rm.le (by omega)) R r hk e) fun r s' h=>?_)
 obtain ⟨v,rfl,P⟩:=h
 exact P
theorem sx_fn {f:Nat} {a:Xs} {pn p:Pos} (WK:WOk W) (TK:TblOk W d T) (hw:(X.fn f a pn p).wf ns=true) (ha:SL W d ns a (evs T a)):SX W d ns (.fn f a pn p) (ev T (.fn f a pn p)):=by
 intro vars objs mv objs' e A env s ρ rm F R
 obtain ⟨hf,hg⟩:=and2 (and2 hw).1
 replace hf:=of_decide_eq_true hf
 refine optLk e fun vs o1 h1 e=>?_
 show wpAny _ _ (eval (.Call (.Name (fname f) pn) (a.dec ns) [] p) env) _ _ _
 refine Call_Name rfl (glob_ok F R hg (WK.fn f hf) ?_)
 obtain ⟨o,fd,ho,hd⟩:=WK.fo f (.inl hf)
 refine Calls.callWith_function (o:=o) (fd:=fd) (wpAny_mono (args_ok0 ha h1 rm F R) (fun x s1 P=>?_) NoE.imp)
 obtain ⟨us,rfl,ρ1,K1,r1⟩:=P
 refine ⟨⟨K1.rel.base _ _ ho,hd⟩,?_⟩
 have hk:kwsOf f=[]:=if_neg fun (h:f=104)=>absurd (h▸hf:104<17) (by decide)
 have:=fncall_ok (ks:=[]) TK rm K1.rel (by simpa using r1) (by rw [hk];rfl) e
 rw [hk] at this
 exact wpAny_mono this (fun _ _ P=>P.after K1) NoE.imp
theorem bi_wf {b:BI} (WK:WOk W):W.mg b.name=none∧W.mb b.name=some b.val:=WK.bi b
theorem bi_val (b:BI):(∃t,b.val=.type t)∨∃t,b.val=.builtin t:=by
 cases b with
 |range|listRange|strInt=>exact .inl ⟨_,rfl⟩
 |_=>exact .inr ⟨_,rfl⟩
theorem sx_bi {b:BI} {a:Xs} {pn pm pk p:Pos} (WK:WOk W) (hw:(X.bi b a pn pm pk p).wf ns=true) (ha:SL W d ns a (evs T a)):SX W d ns (.bi b a pn pm pk p) (ev T (.bi b a pn pm pk p)):=by
 intro vars objs mv objs' e A env s ρ rm F R
 obtain ⟨hg,hg2⟩:=Bool.and_eq_true_iff.mp (and3 hw).1.1
 refine optLk e fun vs o1 h1 e=>?_
 by_cases hb:b=.listRange
 ·subst hb
  show wpAny _ _ (eval (.Call (.Name "list" pn) [.Call (.Name "range" pm) (a.dec ns) [] pk] [] p) env) _ _ _
  refine Call_Name1 (bname_ok F R hg (WK.bi .listRange) ?_)
  refine PyProof.Rows.callWith_type rfl (Calls.evalArgs_plain (Calls.spliced_cons ?_))
  refine Call_Name rfl (bname_ok F R hg2 (WK.bi .range) ?_)
  refine PyProof.Rows.callWith_type (plain_dec a env _) (wpAny_mono (args_ok0 ha h1 rm F R) (fun x s1 P=>?_) NoE.imp)
  obtain ⟨us,rfl,ρ1,K1,r1⟩:=P
  refine w3k (H:=fun us=>wpAny _ _ (call _ ([]++us) _) _ _ _) e r1 fun a b c u v w ra rb rc e=>?_
  refine wIk (G:=fun u=>wpAny _ _ (call _ [u,v,w] _) _ _ _) e ra fun a t1 e=>wIk (G:=fun v=>wpAny _ _ (call _ [_,v,w] _) _ _ _) e rb fun b t2 e=>wIk (G:=fun w=>wpAny _ _ (call _ [_,_,w] _) _ _ _) e rc fun c t3 e=>ifk e fun hc e=>inj2m e ?_
  have h2:=decA hc
  have h3:=decA h2.1
  have h4:=decA h3.1
  have h5:=decA h4.1
  have nl:∀{x:Int},0≤x→x≤1000→x.natAbs<big:=fun h h'=>Nat.lt_of_le_of_lt (Int.ofNat_le.mp (Int.natAbs_of_nonneg h▸h')) (by decide)
  obtain ⟨q1,q2,q3⟩:=rangeSize_of h3.2 (nl (dec2 h5.1).1 (dec2 h5.1).2) (nl h5.2 h4.2) h2.2
  refine call_range_3 (Int.ne_of_gt h3.2) (Calls.spliced_nil ?_) (.inl (noPylong h3.2 (Int.lt_of_le_of_lt h2.2 (by decide))))
  have hr:IsRange (s1.heap.push {cls:=.type "range",data:=.fields #[.int a t1,.int b t2,.int c t3]}) s1.heap.objs.size a b c t1 t2 t3:=Heap.get?_push_size _ rfl
  refine call_list_range rm.quiet hr q3 q1 (Nat.le_trans (Int.ofNat_le.mp q2) (Nat.le_trans (Int.toNat_le_toNat (Int.sub_le_sub h4.2 (dec2 h5.1).1)) (by decide))) fun h' tk acc c' hk hS' hacc=>?_
  refine PostE.after K1 (PostE.newList K1.rel (fun b o eo=>hk b o (pushed _ b o eo)) ?_ hS' ?_ tk)
  ·exact back_none (fun o=>pushed _ _ o) (fresh_size _)
  ·refine all2_of ((rngFrom_len _ _ _).trans hacc.1.symm) fun j x v h1 h2=>?_
   have hj:=(List.getElem?_eq_some_iff.mp h1).1
   unfold rngItems at hj h1
   rw [rngFrom_len] at hj
   obtain ⟨t,rfl⟩:=hacc.2 j v (Array.getElem?_toList▸h2)
   exact inj1m ((rngFrom_get c (rngCount a b c) a j hj).symm.trans h1) ⟨t,rfl⟩
 ·have hdec:(X.bi b a pn pm pk p).dec ns=.Call (.Name b.name pn) (a.dec ns) [] p:=by cases b<;>first|rfl|exact absurd rfl hb
  rw [hdec]
  refine Call_Name rfl (bname_ok F R hg (WK.bi b) ?_)
  have fin:∀x s1,(∃us,x=(⟨us,[]⟩:Args)∧PostL W ρ s vs o1 us s1)→wpAny (model W.prog W.w) A (call b.val ([]++x.pos) x.kw) (PostE W ρ s mv objs') NoE s1:=by
   rintro x s1 ⟨us,rfl,ρ1,K1,r1⟩
   exact lastE K1 (builtin_ok (d:=d+8) rm hb e K1.rel r1 WK.sys)
  have al:∀v,wpAny (model W.prog W.w) A (evalArgs v true (backTo p (starEach (a.dec ns) env)) []) _ NoE s:=fun v=>wpAny_mono (args_ok0 ha h1 rm F R) fin NoE.imp
  rcases bi_val b with ⟨t,q⟩|⟨t,q⟩
  ·rw [q] at al ⊢
   exact PyProof.Rows.callWith_type (plain_dec a env _) (al _)
  ·rw [q] at al ⊢
   exact Calls.callWith_builtin (plain_dec a env _) (al _)
end
end
section
noncomputable def ME.T:ME→String
 |.append=> "list" |.index=> "list" |.join=> "str" |.upper=> "str" |.lower=> "str" |.split=> "str" |.get=> "dict" |.search=> "re.Pattern"
noncomputable def ME.bid:ME→String
 |.append=> "list.append" |.index=> "list.index" |.join=> "str.join" |.upper=> "str.upper" |.lower=> "str.lower" |.split=> "str.split" |.get=> "dict.get" |.search=> "re.Pattern.search"
set_option maxRecDepth 100000 in
theorem plainAttrs_pattern:PlainAttrs "re.Pattern" :=
 ⟨⟨"object.__getattribute__",by rw [typeLookup_type,builtinLookup_eq_fast];kernel_rfl,by decide+kernel⟩,by rw [typeLookup_type,builtinLookup_eq_fast];kernel_rfl⟩
set_option maxRecDepth 100000 in
theorem slot_pattern_search:Slot "re.Pattern" "search" "re.Pattern.search" :=
 .of (owner:= "re.Pattern") (n:= "search") (by rw [typeLookup_type,builtinLookup_eq_fast];kernel_rfl) (by decide+kernel) (by decide+kernel) (by decide+kernel)
  (by first|exact .inl (by decide+kernel)|exact .inr (by decide+kernel)) (by rw [isSubtype_type];kernel_rfl)
set_option maxRecDepth 100000 in
theorem type_pattern_search:typeOf (.builtin "re.Pattern.search")=pure (.type "method_descriptor"):=by show builtinType _=_;rw [builtinType_eq_fast];kernel_rfl
theorem me_attrs:∀m:ME,PlainAttrs m.T
 |.append=>F.plainAttrs_list|.index=>F.plainAttrs_list|.join=>F.plainAttrs_str|.upper=>F.plainAttrs_str|.lower=>F.plainAttrs_str|.split=>F.plainAttrs_str|.get=>F.plainAttrs_dict|.search=>plainAttrs_pattern
theorem me_slot:∀m:ME,Slot m.T m.name m.bid
 |.append=>F.slot_list_append|.index=>F.slot_list_index|.join=>F.slot_str_join|.upper=>F.slot_str_upper|.lower=>F.slot_str_lower|.split=>F.slot_str_split|.get=>F.slot_dict_get|.search=>slot_pattern_search
theorem me_type:∀m:ME,typeOf (.builtin m.bid)=pure (.type "method_descriptor")
 |.append=>F.type_list_append|.index=>F.type_list_index|.join=>F.type_str_join|.upper=>F.type_str_upper|.lower=>F.type_str_lower|.split=>F.type_str_split|.get=>F.type_dict_get|.search=>type_pattern_search
section
variable {W:W0} {d:Nat} {ns:Names} {T:Tbl}
theorem recv_is {ρ:List Addr} {objs:List MO} {s:Shared} {m:ME} {v:MV} {ov:Value} (WK:WOk W) (e:recvOk m v objs=true) (R:ORel W ρ objs s.heap) (r:VRel W ρ s.heap v ov):
  s.TypeIs ov m.T∧∀a,ov=.ref a→∃ob,s.heap.get? a=some ob∧ob.dict=none:=by
 have lst:∀i,(listAt objs i).isSome=true→VRel W ρ s.heap (.ref i) ov→s.TypeIs ov "list" ∧∀a,ov=.ref a→∃ob,s.heap.get? a=some ob∧ob.dict=none:=by
  intro i h q
  obtain ⟨xs,hx⟩:=Option.isSome_iff_exists.mp h
  obtain ⟨a,vs,n,rfl,_,g,_⟩:=R.list hx q
  exact ⟨⟨_,g,rfl⟩,fun b hb=>by cases hb;exact ⟨_,g,rfl⟩⟩
 have str:∀l,VRel W ρ s.heap (.fv (.str l)) ov→s.TypeIs ov "str" ∧∀a,ov=.ref a→∃ob,s.heap.get? a=some ob∧ob.dict=none:=by
  rintro l ⟨t,rfl⟩
  exact ⟨typeIs_str _ _ _,fun a h=>nomatch h⟩
 have pat:∀g,g=1∨g=2→VRel W ρ s.heap (.gl g) ov→s.TypeIs ov "re.Pattern" ∧∀a,ov=.ref a→∃ob,s.heap.get? a=some ob∧ob.dict=none:=by
  intro g hg q
  obtain ⟨a,o,h1,h2,h3,h4⟩:=WK.pat g hg
  have q':ov=W.gl g:=q
  rw [q',h1]
  exact ⟨⟨o,R.base _ _ h2,h3⟩,fun b hb=>by cases hb;exact ⟨o,R.base _ _ h2,h4⟩⟩
 have str:∀v,(match v with|.fv (.str _)=>true|_=>false:Bool)=true→VRel W ρ s.heap v ov→s.TypeIs ov "str" ∧∀a,ov=.ref a→∃ob,s.heap.get? a=some ob∧ob.dict=none:=fun v e r=>by
  cases v with
  |fv x=>cases x with|str l=>exact str l r|_=>exact Bool.noConfusion e
  |_=>exact Bool.noConfusion e
 have lst:∀v,(match v with|.ref i=>(listAt objs i).isSome|_=>false:Bool)=true→VRel W ρ s.heap v ov→s.TypeIs ov "list" ∧∀a,ov=.ref a→∃ob,s.heap.get? a=some ob∧ob.dict=none:=fun v e r=>by
  cases v with
  |ref i=>exact lst i e r
  |_=>exact Bool.noConfusion e
 have gl:∀v (p:Nat→Bool),(match v with|.gl g=>p g|_=>false:Bool)=true→VRel W ρ s.heap v ov→∃g,p g=true∧VRel W ρ s.heap (.gl g) ov:=fun v p e r=>by
  cases v with
  |gl g=>exact ⟨g,e,r⟩
  |_=>exact Bool.noConfusion e
 cases m with
 |append|index=>exact lst v e r
 |get=>
  obtain ⟨g,e,r⟩:=gl v (· ==0) e r
  obtain rfl:=eq_of_beq e
  obtain ⟨d,o,kvs,h1,h2,h3,_,_⟩:=WK.fl
  have q':ov=W.gl 0:=r
  have hD:s.heap.DictOf (intKind W.prog W.w) d kvs:=Heap.dictOf_iff.mpr ⟨o,R.base _ _ h2,h3⟩
  rw [q',h1]
  exact ⟨hD.typeIs,fun b hb=>by cases hb;exact hD.mapOf.noDict _ rfl⟩
 |search=>
  obtain ⟨g,e,r⟩:=gl v (fun g=>g==1||g==2) e r
  exact pat g ((Bool.or_eq_true_iff.mp e).imp eq_of_beq eq_of_beq) r
 |_=>exact str v e r
end
noncomputable def sT (l:List Nat):Str:=⟨l.toArray⟩
theorem join_is (sep:List Nat):∀ys:List (List Nat),Str.join (sT sep) (ys.map sT)=sT (joinL sep ys)
 |[]=>rfl
 |[x]=>rfl
 |x::y::r=>by
  have:=join_is sep (y::r)
  simp only [List.map_cons] at this ⊢
  show sT x++sT sep++Str.join (sT sep) (sT y::r.map sT)=sT (x++sep++joinL sep (y::r))
  rw [this]
  show (⟨x.toArray⟩:Str)++⟨sep.toArray⟩++⟨(joinL sep (y::r)).toArray⟩=_
  rw [str_append,str_append];rfl
theorem txt_join (sep:List Nat) (ys:List (List Nat)):Txt.join (sT sep) (ys.map sT)=sT (joinL sep ys):=by
 unfold Txt.join
 rw [StrLaws.glued_eq_join,join_is]
theorem strs?_is:∀{xs:List FV} {ns:List (List Nat)},strs? xs=some ns→xs=ns.map .str
 |[],_,e=>by cases e;rfl
 |.str i::r,ns,e=>by
  simp only [strs?,Option.map_eq_some_iff] at e
  obtain ⟨ms,e,rfl⟩:=e
  rw [strs?_is e];rfl
 |.none::_,_,e=>by cases e
 |.bool _::_,_,e=>by cases e
 |.int _::_,_,e=>by cases e
 |.pair _ _::_,_,e=>by cases e
theorem strs_vals {h:Heap}:∀{ys:List (List Nat)} {vs:List Value},All2 (FRel h) (ys.map .str) vs→∃l:List (Str × Tok),vs=strValues l∧l.map (·.1)=ys.map sT
 |[],_,.nil=>⟨[],rfl,rfl⟩
 |y::r,_,.cons ⟨t,p⟩ q=>by
  obtain ⟨l,h1,h2⟩:=strs_vals q
  subst p
  exact ⟨(sT y,t)::l,by rw [h1];rfl,by simp [h2]⟩
theorem vals_strs {h:Heap}:∀{l:List (Str × Tok)},All2 (FRel h) ((l.map (·.1)).map fun x=>FV.str x.cps.toList) (strValues l)
 |[]=>.nil
 |(x,t)::l=>.cons ⟨t,by show Value.str x t=.str ⟨x.cps.toList.toArray⟩ t;simp⟩ vals_strs
theorem up_ok:∀c:Nat,c<128→Unicode.upperOf c=[up1 c]:=by decide+kernel
theorem lo_ok:∀c:Nat,c<128→Unicode.lowerOf c=[lo1 c]:=by decide+kernel
theorem placed_one (l:List Nat) (f:Nat→Nat→List Nat) (g:Nat→Nat) (h:∀i c,l[i]?=some c→f i c=[g c]):placed (sT l) f=(l.map g).toArray:=by
 unfold placed sT
 have:(l.toArray.mapIdx fun i c=>(f i c).toArray)=(l.map fun c=> #[g c]).toArray:=by
  apply Array.ext_getElem?
  intro i
  simp only [Array.getElem?_mapIdx,List.getElem?_toArray,List.getElem?_map]
  cases e:l[i]? with
  |none=>rfl
  |some c=>simp [h i c e]
 rw [this]
 have q:∀l:List Nat,((l.map fun c=> #[g c]).toArray).flatten=(l.map g).toArray:=by
  intro l
  apply Array.ext'
  rw [Array.toList_flatten]
  simp only [List.map_map]
  induction l with
  |nil=>rfl
  |cons a r ih=>simpa using ih
 exact q l
theorem ascii_at {l:List Nat} (h:ascii l=true) {i c:Nat} (e:l[i]?=some c):c<128:=by
 have:=List.all_eq_true.mp h c (List.mem_of_getElem? e)
 simpa using this
theorem txt_upper {l:List Nat} (h:ascii l=true):Txt.upper (sT l)=sT (l.map up1):=by
 unfold Txt.upper
 rw [placed_one l _ up1 fun i c e=>up_ok c (ascii_at h e)];rfl
theorem txt_lower {l:List Nat} (h:ascii l=true):Txt.lower (sT l)=sT (l.map lo1):=by
 unfold Txt.lower
 rw [placed_one l _ lo1 fun i c e=>?_]
 ·rfl
 ·have hc:=ascii_at h e
  unfold Unicode.lowerAt
  have:(sT l).cps[i]?=some c:=by simpa [sT] using e
  rw [this]
  have hne:(c==0x3A3)=false:=by simp;omega
  simp only [hne,Bool.false_and,Bool.false_eq_true,if_false]
  exact lo_ok c hc
theorem not_long {n:Nat} (h:n≤16777216):Builtin.Str.tooLong n=false:=by
 unfold Builtin.Str.tooLong
 exact decide_eq_false (by rw [sizeLine_eq];omega)
section
variable {W:W0} {d:Nat} {ns:Names} {T:Tbl}
section
variable {A:Around} {ρ:List Addr} {objs objs':List MO} {s:Shared}
theorem meApp_ok {i:Nat} {xs:List FV} {x:FV} {a:Addr} {ws:Array Value} {n:Nat} {u:Value} (q:ρ[i]?=some a) (g:s.heap.get? a=some {cls:=.type "list",data:=.seq ws n}) (al:All2 (FRel s.heap) xs ws.toList) (el:xs.length=ws.size) (hl:xs.length<lenLim) (ru:FRel s.heap x u) (R:ORel W ρ objs s.heap):
  wpAny (model W.prog W.w) A (call (.builtin "list.append") [.ref a,u]) (PostE W ρ s (.fv .none) (objs.set i (.list (xs++[x])))) NoE s:=by
 refine wpAny_list_append_plain (items:=ws) ⟨n,g⟩ (fun h' hp hs=>?_) (by rw [←el];exact Nat.le_trans (Nat.le_of_lt hl) (by decide))
 obtain ⟨k,hk⟩:=hp
 refine ⟨ρ,Ok.set R q (mo:=.list _) (fun b o hb e=>(hs.2 b hb).trans e) (fun o e=>by rw [g] at e;cases e;rintro (⟨c,h⟩|h)<;>simp at h) (fun ki=>⟨_,k,hk,?_⟩) s.toks,rfl⟩
 rw [Array.toList_push]
 exact (al.imp fun _ _=>FRel.keep ki).append (.cons (FRel.keep ki ru) .nil)
theorem meIndex_ok {xs:List FV} {l:List Nat} {t:Tok} {a:Addr} {ws:Array Value} {n:Nat} (g:s.heap.get? a=some {cls:=.type "list",data:=.seq ws n}) (al:All2 (FRel s.heap) xs ws.toList) (el:xs.length=ws.size)
  (hs:xs.all FV.isStr=true) (hc:xs.contains (.str l)=true) (hl:xs.length≤lenLim) (R:ORel W ρ objs s.heap):
  wpAny (model W.prog W.w) A (call (.builtin "list.index") [.ref a,.str ⟨l.toArray⟩ t]) (PostE W ρ s (.fv (.int (xs.idxOf (.str l)))) objs) NoE s:=by
 have hm:FV.str l∈xs:=List.contains_iff_mem.mp hc
 have hj:xs.idxOf (.str l)<xs.length:=List.idxOf_lt_length_of_mem hm
 have at_:∀(j:Nat) (hj:j<ws.size),∃x,xs[j]?=some (.str x)∧∃t,ws[j]=.str (sT x) t:=by
  intro j hj
  have h1:ws.toList[j]?=some ws[j]:=(Array.getElem?_toList ..).trans (Array.getElem?_eq_getElem hj)
  obtain ⟨x,hx1,hx2⟩:=al.get2 h1
  obtain ⟨y,rfl,_⟩:=FV.isStr_is (List.all_eq_true.mp hs x (List.mem_of_getElem? hx1))
  exact ⟨y,hx1,hx2⟩
 let ee:Value→Bool:=fun v=>match v with|.str y _=>y.cps.toList==l|_=>false
 refine call_meets PySem.F.slot_list_index ⟨_,g,rfl⟩ PySem.F.entry_list_index (PySem.F.args_list_index_2 _ _)
  (MeetsSeq.list_index a ws n (.str ⟨l.toArray⟩ t) ee (fun y hy=>?_) (xs.idxOf (.str l)) (by rw [←el];exact hj) ?_ ?_ ?_) ⟨g,PostE.toks R (mv:=.fv (.int _)) ⟨_,rfl⟩ _⟩
 ·obtain ⟨j,hj,rfl⟩:=Array.mem_iff_getElem.mp hy
  obtain ⟨x,_,t',e'⟩:=at_ j hj
  rw [e']
  have:=eqGives_str (sT x) (sT l) t' t
  have e2:ee (.str (sT x) t')=(sT x==sT l):=(str_eq x l).symm
  rw [e2];exact this
 ·have:xs.length≤10000:=hl
  omega
 ·obtain ⟨x,hx1,t',e'⟩:=at_ (xs.idxOf (.str l)) (by rw [←el];exact hj)
  rw [e']
  have:xs[xs.idxOf (.str l)]?=some (.str l):=by rw [List.getElem?_eq_getElem hj,List.getElem_idxOf hj]
  rw [this] at hx1;cases hx1
  simp [ee,sT]
 ·intro j hj' hlt
  obtain ⟨x,hx1,t',e'⟩:=at_ j hj'
  rw [e']
  have hne:x≠l:=by
   rintro rfl
   have:=List.not_of_lt_findIdx (p:=(· ==FV.str x)) (xs:=xs) hlt
   obtain ⟨h1,h2⟩:=List.getElem?_eq_some_iff.mp hx1
   rw [h2] at this
   simp at this
  exact beq_eq_false_iff_ne.mpr hne
theorem meSplit_ok {l sep:List Nat} {t t':Tok} (h1:l.length≤1000) (h2:sep.length=2) (R:ORel W ρ objs s.heap):
  wpAny (model W.prog W.w) A (call (.builtin "str.split") [.str (sT l) t,.str (sT sep) t']) (PostE W ρ s (.ref objs.length) (objs++[.list ((splitL l sep).map .str)])) NoE s:=by
 have hsz:(sT l).length≤1000:=(str_len l).symm▸h1
 have h0:((sT sep).length==0)=false:=by unfold sT;rw [str_len,h2];rfl
 have hsz2:(Builtin.Str.partsBetween (sT l) (Builtin.Str.occurrences (sT l) (sT sep) 0 (sT l).length ((sT l).length+1)) (sT sep).length).length≤sizeLine:=by
  rw [length_partsBetween]
  have:=StrLaws.occ_length_le (sT l) (sT sep) 0 (sT l).length ((sT l).length+1)
  have h3:sizeLine=16777216:=by decide
  omega
 have fin:∀(lv:List (Str × Tok)) (k:Nat),lv.map (·.1)=Txt.split (sT l) (sT sep)→
   PostE W ρ s (.ref objs.length) (objs++[.list ((splitL l sep).map .str)]) (.ref s.heap.objs.size) {s with heap:=s.heap.push {cls:=.type "list",data:=.seq (strValues lv).toArray},toks:=k}:=by
  intro lv k hlv
  refine Ok.newList R ?_ k
  have hsp:splitL l sep=(Txt.split (sT l) (sT sep)).map (·.cps.toList):=rfl
  rw [hsp,←hlv,List.map_map]
  exact vals_strs (l:=lv)
 cases h1:(decide ((sT l).length<(sT sep).length)||decide (Builtin.Str.strKind (sT l)<Builtin.Str.strKind (sT sep)))
 ·cases hf:(Builtin.Str.occurrences (sT l) (sT sep) 0 (sT l).length ((sT l).length+1)).isEmpty
  ·refine call_meets F.slot_str_split (typeIs_str _ _ _) F.entry_str_split (F.args_str_split_2 _ _) (meets_str_split_sep (sT l) (sT sep) t t' h1 h0 hf (Nat.le_trans hsz (by decide)) hsz2) ?_
   show wants _ _ _ {s with toks:=_,heap:=s.heap.push {cls:=.type "list",data:=.seq (strsFrom s.toks (Builtin.Str.partsBetween (sT l) (Builtin.Str.occurrences (sT l) (sT sep) 0 (sT l).length ((sT l).length+1)) (sT sep).length)).toArray}}
   rw [strsFrom_eq]
   exact fin _ _ ((numbered_texts _ _).trans ((if_neg (ne_true_of_eq_false h1)).trans (if_neg (ne_true_of_eq_false hf))).symm)
  ·exact call_meets F.slot_str_split (typeIs_str _ _ _) F.entry_str_split (F.args_str_split_2 _ _) (meets_str_split_not_found (sT l) (sT sep) t t' h1 h0 hf)
    (fin [(sT l,t)] s.toks ((if_neg (ne_true_of_eq_false h1)).trans (if_pos hf)).symm)
 ·exact call_meets F.slot_str_split (typeIs_str _ _ _) F.entry_str_split (F.args_str_split_2 _ _) (meets_str_split_cannot_occur (sT l) (sT sep) t t' h1)
   (fin [(sT l,t)] s.toks (if_pos h1).symm)
theorem look_is {k:Int} {dflt:FV} {w:Value} {h:Heap} (rw':FRel h dflt w):∀{es:List (Int × List Nat)} {kvs:List (Int × Value)},All2 (fun (p:Int × List Nat) (q:Int × Value)=>p.1=q.1∧∃t,q.2=.str ⟨p.2.toArray⟩ t) es kvs→
  FRel h (((es.lookup k).map FV.str).getD dflt) ((valueAt kvs k).getD w):=by
 intro es kvs al
 induction al with
 |nil=>exact rw'
 | @cons p q es kvs hp r ih=>
  obtain ⟨k1,y⟩:=p
  obtain ⟨k2,v⟩:=q
  obtain ⟨rfl,t,rfl⟩:k1=k2∧∃t,v=.str ⟨y.toArray⟩ t:=hp
  rw [List.lookup_cons]
  unfold valueAt
  rw [List.find?_cons]
  by_cases hk:k1=k
  ·subst hk
   rw [beq_self_eq_true,decide_eq_true rfl]
   exact ⟨t,rfl⟩
  ·rw [beq_eq_false_iff_ne.mpr (Ne.symm hk),decide_eq_false hk]
   exact ih
theorem sea_ok {g:Nat} {bad:Nat→Bool} {x:List Nat} {t:Tok} {mv:MV} {ov:Value} (WK:WOk W) (q:A.handled=none) (hg:∀x:List Nat,x.any bad=false→(g=1∧x.any badName=false)∨(g=2∧x.any badValue=false)) (ho:ov=W.gl g) (e:seaM objs bad x=some (mv,objs')) (R:ORel W ρ objs s.heap):
  wpAny (model W.prog W.w) A (call (.builtin "re.Pattern.search") [ov,.str ⟨x.toArray⟩ t]) (PostE W ρ s mv objs') NoE s:=by
 by_cases hh:(x.any bad||decide (x.length>lim))=true
 ·exact non ((if_pos hh).symm.trans e)
 ·refine inj2m ((if_neg hh).symm.trans e) ?_
  obtain ⟨h1,h2⟩:=Bool.or_eq_false_iff.mp (Bool.eq_false_iff.mpr hh)
  rw [ho]
  exact WK.sea g _ t (hg x h1) (Nat.le_of_not_lt (of_decide_eq_false h2)) A s _ q R.base fun k=>PostE.toks R (mv:=.fv .none) rfl k
theorem methodM_ok {m:ME} {v mv:MV} {vs:List MV} {ov:Value} {us:List Value} (WK:WOk W) (rm:Room (d+8) A) (e:methodM m v vs objs=some (mv,objs')) (R:ORel W ρ objs s.heap)
  (r:VRel W ρ s.heap v ov) (rs:All2 (VRel W ρ s.heap) vs us):wpAny (model W.prog W.w) A (call (.builtin m.bid) (ov::us)) (PostE W ρ s mv objs') NoE s:=by
 cases m with
 |append=>
  refine w1k (H:=fun us=>wpAny _ _ (call _ (ov::us)) _ _ _) e rs fun a u ru e=>wFk e ru fun x ru e=>wLk e R r fun i a ws n xs q qi g al el e=>ifk e fun hl e=>inj2m e ?_
  subst q
  exact meApp_ok qi g al el hl ru R
 |index=>
  refine w1k (H:=fun us=>wpAny _ _ (call _ (ov::us)) _ _ _) e rs fun a u ru e=>wSk (G:=fun u=>wpAny _ _ (call _ [ov,u]) _ _ _) e ru fun l t e=>wLk e R r fun i a ws n xs q _ g al el e=>ifk e fun hh e=>inj2m e ?_
  subst q
  exact meIndex_ok g al el (and2 (decA hh).1).1 (and2 (decA hh).1).2 (decA hh).2 R
 |join=>
  refine w1k (H:=fun us=>wpAny _ _ (call _ (ov::us)) _ _ _) e rs fun a u ru e=>wSk (G:=fun ov=>wpAny _ _ (call _ [ov,u]) _ _ _) e r fun sep t e=>wLk e R ru fun i a ws n xs q _ g al el e=>bindk e fun ys hy e=>ifk e fun hl e=>inj2m e ?_
  subst q
  obtain rfl:=strs?_is hy
  obtain ⟨l,h1,h2⟩:=strs_vals al
  have hL:s.heap.IsList a (strValues l).toArray:=h1▸list_isList g
  refine SC.join (texts:=ys.map sT) hL h2 ?_ (fun t' k=>?_)
  ·unfold JoinOk
   rw [Bool.not_eq_true',StrLaws.joinTotal]
   refine not_long (Nat.le_trans ?_ (Nat.le_trans hl (by decide)))
   simp [sT,str_len,Function.comp_def]
  ·rw [show (⟨sep.toArray⟩:Str)=sT sep from rfl,txt_join]
   exact PostE.toks R (mv:=.fv (.str _)) ⟨_,rfl⟩ _
 |upper=>
  refine w0k (H:=fun us=>wpAny _ _ (call _ (ov::us)) _ _ _) e rs fun e=>wSk (G:=fun ov=>wpAny _ _ (call _ [ov]) _ _ _) e r fun l t e=>ifk e fun hh e=>inj2m e (SC.upper (x:=sT l) ?_ ?_)
  ·rw [txt_upper (decA hh).1]
   exact not_long ((str_len _).trans (List.length_map ..)▸Nat.le_trans (decA hh).2 (by decide))
  ·rw [txt_upper (decA hh).1];exact PostE.toks R (mv:=.fv (.str _)) ⟨_,rfl⟩ _
 |lower=>
  refine w0k (H:=fun us=>wpAny _ _ (call _ (ov::us)) _ _ _) e rs fun e=>wSk (G:=fun ov=>wpAny _ _ (call _ [ov]) _ _ _) e r fun l t e=>ifk e fun hh e=>inj2m e (SC.lower (x:=sT l) ?_ ?_)
  ·rw [txt_lower (decA hh).1]
   exact not_long ((str_len _).trans (List.length_map ..)▸Nat.le_trans (decA hh).2 (by decide))
  ·rw [txt_lower (decA hh).1];exact PostE.toks R (mv:=.fv (.str _)) ⟨_,rfl⟩ _
 |split=>
  exact w1k (H:=fun us=>wpAny _ _ (call _ (ov::us)) _ _ _) e rs fun a u ru e=>wSk (G:=fun ov=>wpAny _ _ (call _ [ov,u]) _ _ _) e r fun l t e=>wSk (G:=fun u=>wpAny _ _ (call _ [_,u]) _ _ _) e ru fun sep t' e=>ifk e fun hh e=>inj2m e
   (meSplit_ok (of_decide_eq_true (and2 hh).1) (eq_of_beq (and2 hh).2) R)
 |get=>
  refine w2k (H:=fun us=>wpAny _ _ (call _ (ov::us)) _ _ _) e rs fun a b u w ru rw' e=>wGk e r fun g q' e=>ifk e fun hg e=>wIk (G:=fun u=>wpAny _ _ (call _ [ov,u,w]) _ _ _) e ru fun k t e=>wFk e rw' fun dflt rw' e=>inj2m e ?_
  obtain ⟨dd,o,kvs,h1,h2,h3,h4,h5⟩:=WK.fl
  rw [q',hg,h1]
  have hD:s.heap.DictOf (intKind W.prog W.w) dd kvs:=Heap.dictOf_iff.mpr ⟨o,R.base _ _ h2,h3⟩
  exact call_meetsIn PySem.F.slot_dict_get hD.typeIs PySem.F.entry_dict_get (PySem.F.args_dict_get_3 _ _ _) (meets_dict_get_default (intKind W.prog W.w) dd (k:=k) (key:=.int k t) (by simp [intKind,Value.isInt]) h4 w)
   ⟨_,hD.mapOf,PostE.toks R (mv:=.fv _) (look_is rw' h5) _⟩
 |search=>
  refine w1k (H:=fun us=>wpAny _ _ (call _ (ov::us)) _ _ _) e rs fun a u ru e=>wSk (G:=fun u=>wpAny _ _ (call _ [ov,u]) _ _ _) e ru fun l t e=>wGk e r fun g q' e=>?_
  by_cases h1:g=1
  ·subst h1;exact sea_ok WK rm.quiet (fun x h=>.inl ⟨rfl,h⟩) q' e R
  ·refine ifk ((if_neg h1).symm.trans e) fun h2 e=>?_
   subst h2;exact sea_ok WK rm.quiet (fun x h=>.inr ⟨rfl,h⟩) q' e R
end
theorem all_dec (a:Xs) (env:Env) (pos:Pos):(backTo pos (starEach (a.dec ns) env)).all (fun x=>!x.1)=true:=
 List.all_eq_true.mpr fun x hx=>Bool.not_eq_true' _▸Bool.eq_false_iff.mpr (List.any_eq_false.mp (plain_dec (ns:=ns) a env pos) x hx)
theorem few_dec {a:Xs} (h:a.toList.length≤3) (env:Env) (pos:Pos):((backTo pos (starEach (a.dec ns) env)).all (fun x=>!x.1)&&(backToKw pos (keywordEach [] env)).all (fun x=>x.1.isSome)
   &&decide ((a.dec ns).length+([]:List Keyword).length+(if ([]:List Keyword).isEmpty then 0 else 1)<30))=true:=by
 rw [show (backTo pos (starEach (a.dec ns) env)).all (fun x=>!x.1)=true from all_dec a env pos,len_dec]
 show (true&&true&&decide (a.toList.length+0+0<30))=true
 exact decide_eq_true (Nat.lt_of_le_of_lt h (by decide))
theorem sx_me {o:X} {m:ME} {a:Xs} {pa p:Pos} (WK:WOk W) (hw:(X.me o m a pa p).wf ns=true) (ho:SX W d ns o (ev T o)) (ha:SL W d ns a (evs T a)):SX W d ns (.me o m a pa p) (ev T (.me o m a pa p)):=by
 intro vars objs mv objs' e A env s ρ rm F R
 have h4:=decA hw
 have hl:=(and3 (and2 h4.1).1).1
 refine opt2k e fun v o1 h1 e=>?_
 refine ifk e fun hrec e=>?_
 refine optLk e fun vs o2 h3 e=>?_
 show wpAny _ _ (eval (.Call (.Attribute (o.dec ns) m.name pa) (a.dec ns) [] p) env) _ _ _
 refine wpAny_Call_method_lateS (base_dec ns env m.name (eval (o.dec ns) env) o hl.2) (few_dec (Nat.le_succ_of_le h4.2) env p) hl.1 (seqE (ho _ _ _ _ h1 A env s ρ rm F R) fun ρ1 s1 ov K1 r1=>?_)
 obtain ⟨hT,hd⟩:=recv_is WK hrec K1.rel r1
 refine ⟨m.T,m.bid,me_attrs m,me_slot m,me_type m,hT,hd,?_⟩
 refine Calls.callWith_builtin (plain_dec a env _) (wpAny_mono (args_ok0 ha h3 rm (F.ok R K1) K1.rel) (fun x s2 P2=>?_) NoE.imp)
 obtain ⟨us,rfl,ρ2,K2,r2⟩:=P2
 exact lastE (K1.trans K2) (methodM_ok (d:=d) WK rm e K2.rel (K2.vrel K1.rel r1) r2)
end
end
section
section
variable {prog:Program} {w:World} {A:Around} {E:Value→Shared→Prop} {s:Shared} {env:Env}
theorem meth_call {o:Expr} {name:Str} {apos pos:Pos} {args:List Expr} {kws:List Keyword} {Q:Value→Shared→Prop}
  (hbase:attributeBase o name env (eval o env)=eval o env)
  (hform:methodCallForm (args.length+kws.length) (backTo pos (starEach args env)) (backToKw pos (keywordEach kws env))=true)
  (hline:(apos.endLine==pos.line)=true)
  (h:wpAny (model prog w) A (eval o env) (fun ov s₁=>∀pl,wpAny (model prog w) A (getMethod ov name pl) (fun q s2=>wpAny (model prog w) A (callWith pos q.1 q.2 (backTo pos (starEach args env)) (backToKw pos (keywordEach kws env))) Q E s2) E s₁) E s):
  wpAny (model prog w) A (eval (.Call (.Attribute o name apos) args kws pos) env) Q E s:=by
 rw [arm_eval_Call,hbase]
 refine wpAny_bind (wpAny_mono h (fun ov s₁ h₁=>?_) fun _ _ e=>e)
 refine wpAny_bind (wpAny_standAt ?_)
 have hpos:methodCallPos true o env apos pos=pure pos:=by unfold methodCallPos;simp [hline]
 unfold methodCall
 rw [hform]
 refine wpAny_bind (wpAny_holding (wpAny_mono (h₁ _) (fun q s2 h2=>?_) fun _ _ e=>e))
 exact wpAny_bind (wpAny_of_eq hpos h2)
theorem attr_gen {o:Expr} {attr:Str} {pos:Pos} {Q:Value→Shared→Prop} (hbase:attributeBase o attr env (eval o env)=eval o env)
  (h:wpAny (model prog w) A (eval o env) (fun ov s₁=>wpAny (model prog w) A (getAttr ov attr true) Q E s₁) E s):
  wpAny (model prog w) A (eval (.Attribute o attr pos) env) Q E s:=by
 rw [arm_eval_Attribute,hbase]
 exact wpAny_bind (wpAny_mono h (fun ov s₁ h₁=>wpAny_bind (wpAny_standAt (wpAny_bind (wpAny_holding (wpAny_mono h₁ (fun r s₂ h₂=>wpAny_bind (wpAny_letTemporaryGo (wpAny_pure h₂))) fun _ _ y=>y))))) fun _ _ y=>y)
theorem is_type {X Y:String} {Q:Value→Shared→Prop} (h:Q (.bool (Value.type X==Value.type Y)) s):wpAny (model prog w) A (compareOp .Is (.type X) (.type Y)) Q E s:=
 wpAny_pure (a:=Value.bool (Value.type X==Value.type Y)) h
end
section
variable {W:W0} {d:Nat} {ns:Names} {T:Tbl}
theorem kw_form:∀(kw:Xs) (pos pk:Pos) (env:Env),(backToKw pos (keywordEach (kw.decKw ns pk) env)).all (fun x=>x.1.isSome)=true
 |.nil,_,_,_=>rfl
 |.cons x xs,pos,pk,env=>kw_form xs pos pk env
theorem kw_len:∀(kw:Xs) (pk:Pos),(kw.decKw ns pk).length=kw.toList.length
 |.nil,_=>rfl
 |.cons x xs,pk=>congrArg (· +1) (kw_len xs pk)
theorem sx_hm {o:X} {m:Nat} {a kw:Xs} {pa pk p:Pos} (WK:WOk W) (TK:TblOk W d T) (hw:(X.hm o m a kw pa pk p).wf ns=true) (ho:SX W d ns o (ev T o)) (ha:SL W d ns a (evs T a)) (hkw:SL W d ns kw (evs T kw)):
  SX W d ns (.hm o m a kw pa pk p) (ev T (.hm o m a kw pa pk p)):=by
 intro vars objs mv objs' e A env s ρ rm F R
 obtain ⟨⟨⟨⟨⟨⟨⟨hl,hb⟩,hwo⟩,hwa⟩,hwk⟩,hm⟩,hkl⟩,hal⟩:=and8 hw
 replace hm:=of_decide_eq_true hm
 replace hal:=of_decide_eq_true hal
 replace hkl:=eq_of_beq hkl
 refine optRk e fun i o1 h1 e=>?_
 refine opthk e fun k hk e=>?_
 refine optLk e fun vs o2 h2 e=>?_
 refine optLk e fun ks o3 h3 e=>?_
 show wpAny _ _ (eval (.Call (.Attribute (o.dec ns) (hname m) pa) (a.dec ns) (kw.decKw ns pk) p) env) _ _ _
 have hkl':kw.toList.length≤1:=by
  rw [hkl];unfold kwsOf;by_cases h:100+m=104
  ·rw [if_pos h];decide
  ·rw [if_neg h];decide
 refine meth_call (base_dec ns env (hname m) (eval (o.dec ns) env) o hb) ?_ hl (wpAny_mono (ho _ _ _ _ h1 A env s ρ rm F R) (fun ov s1 P1=>?_) NoE.imp)
 ·unfold methodCallForm
  rw [show (backTo p (starEach (a.dec ns) env)).all (fun x=>!x.1)=true from all_dec a env p,kw_form,len_dec,kw_len]
  simp
  split<;>omega
 ·obtain ⟨ρ1,K1,r1⟩:=P1
  obtain ⟨x,rfl,q,dx,la,t,n,g,g2,e3,nm⟩:=K1.rel.at hk r1
  intro pl
  refine WK.met m hm A s1 x dx la t n pl _ K1.rel.base g g2 ?_
  obtain ⟨ob,fd,hob,hfd⟩:=WK.fo (100+m) (.inr ⟨Nat.le_add_right _ _,Nat.add_lt_add_left hm _⟩)
  have hnk:kwsOf (100+m)=kw.toList.map fun _=>("name" :Str):=by
   have two:kwsOf (100+m)=[]∨kwsOf (100+m)=[("name" :Str)]:=by
    unfold kwsOf
    by_cases h:100+m=104
    ·exact .inr (if_pos h)
    ·exact .inl (if_neg h)
   generalize kwsOf (100+m)=ks at*
   generalize kw.toList=l at*
   rcases two with rfl|rfl
   ·rw [List.length_eq_zero_iff.mp hkl];rfl
   ·obtain ⟨y,rfl⟩:=List.length_eq_one_iff.mp hkl;rfl
  refine callWith_function_kw (o:=ob) (fd:=fd) (wpAny_mono (args_ok (nk:=kwsOf (100+m)) ha hkw h2 h3 rm (F.ok R K1) K1.rel hnk) (fun y s2 P2=>?_) NoE.imp)
  obtain ⟨us,ws,rfl,hwl,ρ2,K2,r2⟩:=P2
  refine ⟨⟨K2.rel.base _ _ hob,hfd⟩,?_⟩
  refine lastE (K1.trans K2) (fncall_ok (us:=.ref x::us) (ks:=ws) TK rm K2.rel ?_ hwl e)
  exact .cons (K2.vrel K1.rel r1) r2
theorem sx_hat {o:X} {p:Pos} (WK:WOk W) (hw:(X.hat o p).wf ns=true) (ho:SX W d ns o (ev T o)):SX W d ns (.hat o p) (ev T (.hat o p)):=by
 intro vars objs mv objs' e A env s ρ rm F R
 replace hw:=and2 hw
 refine optRk e fun i o1 h1 e=>?_
 refine opthk e fun k hk e=>?_
 refine inj2m e ?_
 show wpAny _ _ (eval (.Attribute (o.dec ns) "_headers" p) env) _ _ _
 refine attr_gen (base_dec ns env "_headers" (eval (o.dec ns) env) o hw.1) (seqE (ho _ _ _ _ h1 A env s ρ rm F R) fun ρ1 s1 ov K1 r1=>?_)
 obtain ⟨x,rfl,q,dx,la,t,n,g,g2,e3,nm⟩:=K1.rel.at hk r1
 exact WK.att A s1 x dx la t n _ K1.rel.base g g2 fun tk=>⟨ρ1,K1.trans (Ok.toks K1.rel tk),la,e3,rfl⟩
theorem sx_newH {a:X} {pn p:Pos} (WK:WOk W) (hw:(X.newH a pn p).wf ns=true) (ha:SX W d ns a (ev T a)):SX W d ns (.newH a pn p) (ev T (.newH a pn p)):=by
 intro vars objs mv objs' e A env s ρ rm F R
 replace hw:=and2 hw
 refine optRk e fun i o1 h1 e=>?_
 refine optNk e fun hi e=>inj2m e ?_
 show wpAny _ _ (eval (.Call (.Name "Headers" pn) [a.dec ns] [] p) env) _ _ _
 refine Call_Name1 (glob_ok F R hw.1 WK.gcls ?_) (star_dec ns env a [])
 refine WK.cll A s p _ _ (seqE (ha _ _ _ _ h1 A env s ρ rm F R) fun ρ1 s1 v K1 r1=>?_)
 obtain ⟨la,rfl,q,vs,n,g,al⟩:=K1.rel.at hi r1
 refine ⟨K1.rel.base,?_⟩
 obtain rfl:vs= #[]:=Array.toList_eq_nil_iff.mp (all2_0 al)
 refine WK.new A s1 la n _ (rm.le (Nat.le_trans (by decide:2≤8) (Nat.le_add_left _ _))) K1.rel.base g fun x dx h' tk t m kp hx hdx hne g1 g2=>PostE.after K1 ?_
 refine ⟨_,Ok.new K1.rel kp hx (mo:=.hdr i) ⟨dx,la,t,m,g1,g2,?_,?_⟩ tk,x,lastOf K1.rel x,rfl⟩
 ·rw [List.getElem?_append_left (List.getElem?_eq_some_iff.mp q).1];exact q
 ·intro hm
  rcases List.mem_append.mp hm with h|h
  ·obtain ⟨o,ho⟩:=K1.rel.alive h
   exact dead ho hdx
  ·simp at h;exact hne h.symm
theorem sc_hin {x o:X} {p:Pos} (WK:WOk W) (TK:TblOk W d T) (hx:SX W d ns x (ev T x)) (ho:SX W d ns o (ev T o)):SC W d ns (x.dec ns) .NotIn (o.dec ns) (ev T (.hin true x o p)):=by
 intro vars objs mv objs' e A env s ρ rm F R
 refine opt2k e fun v o1 h1 e=>?_
 refine optRk e fun i o2 h2 e=>?_
 refine opthk e fun k hk e=>?_
 refine optDk e fun b o3 h3 e=>inj2m e ?_
 refine seqE (hx _ _ _ _ h1 A env s ρ rm F R) fun ρ1 s1 va K1 ra=>?_
 refine seqE (ho _ _ _ _ h2 A env s1 ρ1 rm (F.ok R K1) K1.rel) fun ρ2 s2 vb K2 rb=>?_
 obtain ⟨y,rfl,q,dx,la,t,n,g,g2,e3,nm⟩:=K2.rel.at hk rb
 refine WK.nin A s2 y dx la t n va _ K2.rel.base g g2 ?_
 refine seqE (fncall_ok (f:=105) (us:=[.ref y,va]) (ks:=[]) TK rm K2.rel (.cons rb (.cons (K2.vrel K1.rel ra) .nil)) rfl h3) fun ρ3 s3 r K3 r3=>?_
 cases r3
 refine ⟨b,rfl,ρ3,(K1.trans K2).trans K3,?_⟩
 show VRel W ρ3 s3.heap (.fv (.bool (b !=true))) (.bool (!b))
 cases b<;>rfl
theorem sc_isTy {neg:Bool} {ty:Nat} {x:X} {pt pc ps p:Pos} (WK:WOk W) (hw:(X.isTy neg ty x pt pc ps p).wf ns=true) (hx:SX W d ns x (ev T x)):
  SC W d ns (.Call (.Name "type" pt) [x.dec ns] [] pc) (if neg then .IsNot else .Is) (.Name (if ty=0 then "str" else "list") ps) (ev T (.isTy neg ty x pt pc ps p)):=by
 intro vars objs mv objs' e A env s ρ rm F R
 replace hw:=and3 hw
 obtain ⟨⟨hwx,hgt⟩,hgs⟩:=hw
 have key:∀(v:MV) (o1:List MO) (TT:String) (nm:Str),ev T x vars objs=some (v,o1)→nm=(if ty=0 then ("str" :Str) else ("list" :Str))→(W.mg nm=none∧W.mb nm=some (.type TT))→(Value.type TT==Value.type "builtin_function_or_method")=false→
   (∀(ρ1:List Addr) (s1:Shared) (va:Value),ORel W ρ1 o1 s1.heap→VRel W ρ1 s1.heap v va→s1.TypeIs va TT)→
   wpAny (model W.prog W.w) A (eval (.Call (.Name "type" pt) [x.dec ns] [] pc) env) (fun a s1=>wpAny (model W.prog W.w) A (eval (.Name (if ty=0 then "str" else "list") ps) env)
    (fun b s2=>wpAny (model W.prog W.w) A (compareOp (if neg then .IsNot else .Is) a b) (PostE W ρ s (.fv (.bool (!neg))) o1) NoE s2) NoE s1) NoE s:=by
  intro v o1 TT nm hev hnm hbn hnb hty
  refine Call_Name1 (bname_ok F R hgt WK.ty ?_) (star_dec ns env x [])
  refine PyProof.Rows.callWith_type rfl (Calls.evalArgs_plain (Calls.spliced_cons (seqE (hx _ _ _ _ hev A env s ρ rm F R) fun ρ1 s1 va K1 ra=>?_)))
  refine Calls.spliced_nil (call_type_of (hty ρ1 s1 va K1.rel ra) hnb ?_)
  have hg:isGlob ns nm=true:=by rw [hnm];exact hgs
  rw [←hnm]
  refine bname_ok (F.ok R K1) K1.rel hg hbn ?_
  cases neg with
  |true=>
   rw [if_pos rfl]
   exact isnot_type_same ⟨ρ1,K1,rfl⟩
  |false=>
   rw [if_neg (by simp)]
   refine is_type ⟨ρ1,K1,?_⟩
   show Value.bool _=.bool true
   simp
 refine opt2k e fun v o1 h1 e=>?_
 by_cases hty:ty=0
 ·subst hty
  cases v with
  |fv x=>cases x with
   |str l=>exact inj2m e (key _ _ "str" "str" h1 rfl (WK.bi .strInt) (by decide) (fun ρ1 s1 va _ r=>by obtain ⟨t,rfl⟩:=r;exact typeIs_str _ _ _))
   |_=>exact non e
  |_=>exact non e
 ·refine ifk ((if_neg hty).symm.trans e) fun hty e=>?_
  subst hty
  cases v with
  |ref i=>exact bindk e fun xs hxs e=>inj2m e (key _ _ "list" "list" h1 rfl (WK.bi .listRange) (by decide) (fun ρ1 s1 va R1 r=>by obtain ⟨a,vs,n,rfl,q,g,al⟩:=R1.list hxs r;exact ⟨_,g,rfl⟩))
  |_=>exact non e
end
end
section
section
variable {W:W0} {ρ ρ0:List Addr} {objs:List MO} {s s0 s1:Shared}
structure Loose (W:W0) (ρ:List Addr) (h:Heap) (a:Addr):Prop where
 out:a∉ρ
 imm:∀o,h.get? a=some o→¬Imm o
 dx:∀(t:Tok) (la:Addr) (n:Nat),h.get? a≠some (dictOf [⟨W.hkey,.str "_headers" t,.ref la⟩] n)
theorem Ok.touch (K:Ok W ρ0 s0 ρ objs s) {a:Addr} (h0:s0.heap.get? a=none) (hw:W.h0.get? a=none) (L:Loose W ρ s.heap a) {h':Heap} (k:∀b o,b≠a→s.heap.get? b=some o→h'.get? b=some o) (tk:Nat):Ok W ρ0 s0 ρ objs {s with heap:=h',toks:=tk}:=by
 have ki:KeepImm s.heap h':=fun b o e im=>k b o (fun hb=>by subst hb;exact L.imm o e im) e
 refine ⟨K.grows,⟨fun b o e n=>k b o (fun hb=>by subst hb;exact dead e h0) (K.step.keep b o e n),fun b o e q=>k b o (fun hb=>by subst hb;exact dead e h0) (K.step.inst b o e q),K.step.os,K.step.gens,K.step.bare⟩,⟨K.rel.len,K.rel.nodup,fun i mo b e1 e2=>?_,K.rel.new,fun b o e=>k b o (fun hb=>by subst hb;exact dead e hw) (K.rel.base b o e)⟩⟩
 have hb:b≠a:=fun hb=>L.out (hb▸List.mem_of_getElem? e2)
 exact ObjIs.move (k b · hb) ki (fun _ e=>k _ _ (fun h=>L.dx _ _ _ (h▸e)) e) (K.rel.objs i mo b e1 e2)
theorem VRel.touch {a:Addr} (L:Loose W ρ s.heap a) {h':Heap} (k:∀b o,b≠a→s.heap.get? b=some o→h'.get? b=some o) {x:MV} {v:Value} (ed:x=.edict→v≠.ref a) (r:VRel W ρ s.heap x v):VRel W ρ h' x v:=by
 have ki:KeepImm s.heap h':=fun b o e im=>k b o (fun hb=>L.imm o (hb▸e) im) e
 cases x with
 |fv x=>exact FRel.keep ki r
 |rng a b c=>exact r.imp fun r p=>p.imp fun t p=>p.imp fun u p=>p.imp fun w p=>⟨p.1,ki _ _ p.2 (.inr ⟨rfl,_,rfl⟩)⟩
 |edict=>exact r.imp fun d p=>p.imp fun n p=>⟨p.1,p.2.1,k _ _ (fun h=>ed rfl (h▸p.1)) p.2.2⟩
 |_=>exact r
theorem VRel.notIter {a:Addr} {x:MV} {v:Value} (ed:∀n,s.heap.get? a≠some {cls:=.type "dict",data:=.dict #[] n}) (r:VRel W ρ s.heap x v):x=.edict→v≠.ref a:=by
 rintro rfl rfl
 obtain ⟨d,n,e,_,q⟩:=r
 cases e
 exact ed n q
inductive ItIs (W:W0) (h:Heap) (v:Value) (full:List FV) (orig:Option MO) (i:Nat) (it:Addr):Prop
 |list {la:Addr}:v=.ref la→orig=some (.list full)→h.IsListIter it la i→ItIs W h v full orig i it
 |rng {r:Addr} {a b:Int} {t u w:Tok}:v=.ref r→full=rngItems a b 1→orig=none→IsRange h r a b 1 t u w→IsRangeIter h it (a+i) ((rngCount a b 1:Int)-i) 1→ItIs W h v full orig i it
 |str {T:String} {l:List Nat} {t:Tok}:T= "str_ascii_iterator" ∨T= "str_iterator" →v=.str ⟨l.toArray⟩ t→full=l.map (fun c=>.str [c])→orig=none→h.IsStrIter it T ⟨l.toArray⟩ t i→ItIs W h v full orig i it
 |dict {d:Addr} {es:List (Int × FV)} {kvs:List (Int × Value)} {ep:Nat}:v=.ref d→orig=some (.dict es)→h.IsKeyIter it d i kvs.length ep→h.DictAt (intKind W.prog W.w) d kvs ep→full=kvs.map (fun p=>.int p.1)→(d==sysModules)=false→ItIs W h v full orig i it
noncomputable def iterNames:List String:=["list_iterator","range_iterator","str_ascii_iterator","str_iterator","dict_keyiterator","generator"]
noncomputable def IterObj (o:Obj):Prop:=∃(T:String) (vs:Array Value),o.cls=.type T∧o.data=.fields vs∧iterNames.contains T=true
theorem IterObj.no {o:Obj} (x:IterObj o):(Imm o→False)∧(Hard o→False)∧∀es n,o.data≠.dict es n:=by
 obtain ⟨T,vs,hc,hd,hT⟩:=x
 have n:∀T',o.cls=.type T'→iterNames.contains T'=true:=fun T' h=>Value.type.inj (hc.symm.trans h)▸hT
 exact ⟨fun h=>h.elim (fun h=>absurd (n _ h.1) (by decide)) fun h=>absurd (n _ h.1) (by decide),fun h=>h.elim (fun h=>h.elim fun _ h=>nomatch hc.symm.trans h) fun h=>absurd (n _ h) (by decide),fun es n e=>nomatch hd.symm.trans e⟩
theorem ItIs.obj {h:Heap} {v:Value} {full:List FV} {orig:Option MO} {i:Nat} {it:Addr} (x:ItIs W h v full orig i it):∃o,h.get? it=some o∧IterObj o:=by
 cases x with
 |list _ _ x=>exact x.imp fun o x=>⟨x.1,_,_,x.2.1,x.2.2,by decide⟩
 |rng _ _ _ _ y=>exact ⟨_,y,"range_iterator",_,rfl,rfl,by decide⟩
 |str hT _ _ _ x=>exact x.imp fun o x=>⟨x.1,_,_,x.2.1,x.2.2,by rcases hT with rfl|rfl<;>decide⟩
 |dict _ _ x=>exact x.imp fun o x=>⟨x.1,_,_,x.2.1,x.2.2,by decide⟩
theorem ItIs.keep {h h':Heap} {v:Value} {full:List FV} {orig:Option MO} {i:Nat} {it:Addr} (x:ItIs W h v full orig i it) (k:∀o,h.get? it=some o→h'.get? it=some o) (ki:KeepImm h h') (kd:∀d es o,v=.ref d→orig=some (.dict es)→h.get? d=some o→h'.get? d=some o):ItIs W h' v full orig i it:=by
 cases x with
 |list a b x=>exact .list a b (x.imp fun o x=>⟨k o x.1,x.2⟩)
 |rng a b c x y=>exact .rng a b c (ki _ _ x (.inr ⟨rfl,_,rfl⟩)) (k _ y)
 |str a b c d x=>exact .str a b c d (x.imp fun o x=>⟨k o x.1,x.2⟩)
 |dict a b x y z w=>exact .dict a b (x.imp fun o x=>⟨k o x.1,x.2⟩) (y.imp fun o y=>y.imp fun es y=>⟨kd _ _ o a b y.1,y.2⟩) z w
theorem ItIs.loose {h:Heap} {v:Value} {full:List FV} {orig:Option MO} {i:Nat} {it:Addr} (x:ItIs W h v full orig i it) (out:it∉ρ):Loose W ρ h it∧∀n,h.get? it≠some {cls:=.type "dict",data:=.dict #[] n}:=by
 obtain ⟨o,e,q⟩:=x.obj
 have s:∀{o'},h.get? it=some o'→o=o':=fun e'=>Option.some.inj (e.symm.trans e')
 exact ⟨⟨out,fun o' e'=>s e'▸q.no.1,fun t la n e'=>q.no.2.2 _ _ (congrArg Obj.data (s e'))⟩,fun n e'=>q.no.2.2 _ _ (congrArg Obj.data (s e'))⟩
end
section
variable {W:W0} {ρ ρ0:List Addr} {objs:List MO} {s s0 s1:Shared}
theorem keysOf {h:Heap} {es:List (Int × FV)} {kvs:List (Int × Value)} (al:All2 (fun (p:Int × FV) (q:Int × Value)=>p.1=q.1∧FRel h p.2 q.2) es kvs):es.map (fun p=>FV.int p.1)=kvs.map fun p=>FV.int p.1:=by
 induction al with
 |nil=>rfl
 |cons p _ ih=>rw [List.map_cons,List.map_cons,ih,p.1]
inductive IterP (W:W0) (s:Shared) (v:Value) (full:List FV) (orig:Option MO):Value→Shared→Prop
 |mk {it:Addr} {h':Heap}:s.heap.get? it=none→(∀a o,s.heap.get? a=some o→h'.get? a=some o)→ItIs W h' v full orig 0 it→IterP W s v full orig (.ref it) {s with heap:=h'}
theorem IterP.of {v:Value} {full:List FV} {orig:Option MO} {o:Obj} (h:ItIs W (s.heap.push o) v full orig 0 s.heap.objs.size):IterP W s v full orig (.ref s.heap.objs.size) {s with heap:=s.heap.push o}:=
 ⟨fresh_size _,pushed _,h⟩
theorem iter_ok {A:Around} {x:MV} {full:List FV} {v:Value} (WK:WOk W) (e:srcItems x objs=some full) (R:ORel W ρ objs s.heap) (r:VRel W ρ s.heap x v):
  wpAny (model W.prog W.w) A (pyIter v) (IterP W s v full (origOf x objs)) NoE s:=by
 cases x with
 |rng a b c=>
  refine ifk e fun hc e=>?_
  obtain rfl:=Option.some.inj e
  obtain ⟨r,t,u,w,rfl,q⟩:=r
  obtain ⟨h1,hb⟩:=decA hc
  obtain ⟨rfl,ha⟩:=dec2 h1
  obtain ⟨h1,_,h2⟩:=rangeSize_of (c:=1) (by decide) ha hb (by decide)
  refine wpAny_pyIter_range q h2 (.of (.rng rfl rfl rfl (getpush q) ?_))
  have:=Heap.get?_push_size s.heap (o:={cls:=.type "range_iterator",data:=.fields #[rawInt a,rawInt (Builtin.Range.rangeSize a b 1),rawInt 1]}) rfl
  show (s.heap.push _).get? _=_
  simpa [h1] using this
 |ref i=>
  refine bindk e fun o hx e=>?_
  rw [show origOf (.ref i) objs=some o from hx]
  cases o with
  |list xs=>
   refine ifk e fun _ e=>?_
   obtain rfl:=Option.some.inj e
   obtain ⟨a,rfl,q,vs,n,g,al⟩:=R.at hx r
   exact wpAny_pyIter_list (list_isList g) (.of (.list rfl rfl ⟨_,Heap.get?_push_size _ rfl,rfl,rfl⟩))
  |dict es=>
   obtain rfl:=Option.some.inj e
   obtain ⟨a,rfl,q,o,kvs,g,hd,al⟩:=R.at hx r
   obtain ⟨ep,hep⟩:=(Heap.dictOf_iff.mpr ⟨o,g,hd⟩:s.heap.DictOf (intKind W.prog W.w) a kvs).dictAt
   have hs:=notSys R WK.sys (mem_of_get q)
   exact wpAny_pyIter_dict hs hep (.of (.dict (kvs:=kvs) (ep:=ep) rfl rfl ⟨_,Heap.get?_push_size _ rfl,rfl,rfl⟩ (hep.imp fun o' h=>h.imp fun es' h=>⟨getpush h.1,h.2⟩) (keysOf al) hs))
  |_=>exact non e
 |fv x=>
  cases x with
  |str l=>
   refine ifk e fun _ e=>?_
   obtain rfl:=Option.some.inj e
   obtain ⟨t,rfl⟩:=r
   by_cases ha:(⟨l.toArray⟩:Str).cps.all (· <128)=true
   ·exact wpAny_pyIter_ascii ha (.of (.str (.inl rfl) rfl rfl rfl ⟨_,Heap.get?_push_size _ rfl,rfl,rfl⟩))
   ·exact wpAny_pyIter_wide (Bool.eq_false_iff.mpr ha) (.of (.str (.inr rfl) rfl rfl rfl ⟨_,Heap.get?_push_size _ rfl,rfl,rfl⟩))
  |_=>exact non e
 |_=>exact non e
theorem rng_at {a b:Int} {i:Nat} {x:FV} (h:(rngItems a b 1)[i]?=some x):i<rngCount a b 1∧x=.int (a+i):=by
 have h1:=(List.getElem?_eq_some_iff.mp h).1
 unfold rngItems at h h1
 rw [rngFrom_len] at h1
 rw [rngFrom_get _ _ _ _ h1] at h
 cases h
 exact ⟨h1,by simp⟩
noncomputable def ListAt (h:Heap) (v:Value) (orig:Option MO):Prop:=∀la xs,v=.ref la→orig=some (.list xs)→∃vs n,h.get? la=some {cls:=.type "list",data:=.seq vs n}∧All2 (FRel h) xs vs.toList
theorem ORel.listAt {h h0:Heap} {src:MV} {v:Value} {orig:Option MO} (R:ORel W ρ objs h) (r:VRel W ρ h0 src v) (ho:(origOf src objs==orig)=true):ListAt h v orig:=by
 intro la xs e1 e2
 have ho:origOf src objs=some (.list xs):=(beq_iff_eq.mp ho).trans e2
 cases src with
 |ref j=>exact r.elim fun a p=>R.objs j _ _ ho (Value.ref.inj (e1.symm.trans p.2)▸p.1)
 |_=>cases ho
inductive NextP (W:W0) (s:Shared) (v:Value) (full:List FV) (orig:Option MO) (i:Nat) (it:Addr) (x:FV):Option Value→Shared→Prop
 |mk {u:Value} {h':Heap} {tk:Nat}:FRel h' x u→Heap.SameBut it s.heap h'→ItIs W h' v full orig (i+1) it→NextP W s v full orig i it x (some u) {s with heap:=h',toks:=tk}
inductive EndP (s:Shared) (it:Addr):Option Value→Shared→Prop
 |mk {h':Heap} {tk:Nat}:Heap.ExtBut it s.heap h'→EndP s it none {s with heap:=h',toks:=tk}
theorem one_char {l:List Nat} {i:Nat} {x:FV} (h:(l.map fun c=>FV.str [c])[i]?=some x):∃c,l[i]?=some c∧.str [c]=x:=Option.map_eq_some_iff.mp (List.getElem?_map.symm.trans h)
section
variable {A:Around} {full:List FV} {orig:Option MO} {v:Value} {i:Nat} {it:Addr} {x:FV}
theorem next_item (I:ItIs W s.heap v full orig i it) (hl:ListAt s.heap v orig) (hx:full[i]?=some x):
  wpAny (model W.prog W.w) A (pyNext (.ref it)) (NextP W s v full orig i it x) NoE s:=by
 obtain ⟨oi,ei,q⟩:=I.obj
 have sm:∀{o'},s.heap.get? it=some o'→oi=o':=fun e'=>Option.some.inj (ei.symm.trans e')
 have keepF:∀{h':Heap},Heap.SameBut it s.heap h'→KeepImm s.heap h':=fun hs b o e im=>(hs.2 b (fun hb=>q.no.1 (sm (hb▸e)▸im))).trans e
 cases I with
 |list hv ho I=>
  obtain ⟨vs,n,g,al⟩:=hl _ _ hv ho
  obtain ⟨u,hu,ru⟩:=al.get hx
  exact wpAny_pyNext_list_item I (list_isList g) (Array.getElem?_toList▸hu) fun h' I' hs=>⟨FRel.keep (keepF hs) ru,hs,.list hv ho I'⟩
 |rng hv hf ho q I=>
  obtain ⟨hi,rfl⟩:=rng_at (hf▸hx)
  have e1:∀n:Nat,(n:Int)-(i:Int)-1=(n:Int)-((i+1:Nat):Int):=fun n=>Int.sub_sub ..
  have e2:∀a:Int,a+(i:Int)+1=a+((i+1:Nat):Int):=fun a=>Int.add_assoc ..
  exact wpAny_pyNext_range_item I (Int.sub_pos_of_lt (Int.ofNat_lt.mpr hi)) fun h' I' hs=>⟨⟨_,rfl⟩,hs,.rng hv hf ho (keepF hs _ _ q (.inr ⟨rfl,_,rfl⟩)) (e1 _▸e2 _▸I')⟩
 |str hT hv hf ho I=>
  subst hf
  obtain ⟨c,hc,rfl⟩:=one_char hx
  have hc:(⟨_⟩:Str).cps[i]?=some c:=List.getElem?_toArray.trans hc
  rcases hT with rfl|rfl
  ·exact wpAny_pyNext_ascii_item I hc fun h' I' hs=>⟨⟨_,rfl⟩,hs,.str (.inl rfl) hv rfl ho I'⟩
  ·exact wpAny_pyNext_wide_item I hc fun h' I' hs=>⟨⟨_,rfl⟩,hs,.str (.inr rfl) hv rfl ho I'⟩
 |dict hv ho I y z w=>
  subst z
  obtain ⟨⟨k,u⟩,hk,rfl⟩:=Option.map_eq_some_iff.mp (List.getElem?_map.symm.trans hx)
  refine wpAny_pyNext_dict_item I y hk fun key h' hkey I' hs=>?_
  obtain ⟨t,rfl⟩:=Value.isInt_shape hkey
  refine ⟨⟨t,rfl⟩,hs,.dict hv ho I' (y.imp fun o y=>y.imp fun es y=>⟨(hs.2 _ (fun hb=>?_)).trans y.1,y.2⟩) rfl w⟩
  exact q.no.2.1 (.inr (sm (hb▸y.1)▸y.2.1.1))
theorem next_end (hh:A.handled=none) (I:ItIs W s.heap v full orig i it) (hl:ListAt s.heap v orig) (hx:full[i]?=none):
  wpAny (model W.prog W.w) A (pyNext (.ref it)) (EndP s it) NoE s:=by
 cases I with
 |list hv ho I=>
  obtain ⟨vs,n,g,al⟩:=hl _ _ hv ho
  exact wpAny_pyNext_list_end hh I (list_isList g) (Array.getElem?_eq_none (Array.length_toList▸al.len▸List.getElem?_eq_none_iff.mp hx)) fun h' hs=>⟨hs⟩
 |rng hv hf ho q I=>
  have hx:rngCount _ _ 1≤i:=rngFrom_len .. ▸List.getElem?_eq_none_iff.mp (hf▸hx)
  exact wpAny_pyNext_range_end hh I (Int.sub_nonpos_of_le (Int.ofNat_le.mpr hx)) fun h' hs=>⟨hs⟩
 |str hT hv hf ho I=>
  have hc:(⟨_⟩:Str).cps[i]?=none:=List.getElem?_toArray.trans (Option.map_eq_none_iff.mp (List.getElem?_map.symm.trans (hf▸hx)))
  rcases hT with rfl|rfl
  ·exact wpAny_pyNext_ascii_end hh I hc fun h' hs=>⟨hs⟩
  ·exact wpAny_pyNext_wide_end hh I hc fun h' hs=>⟨hs⟩
 |dict hv ho I y z w=>
  subst z
  exact wpAny_pyNext_dict_end hh I y (Option.map_eq_none_iff.mp (List.getElem?_map.symm.trans hx)) fun h' hs=>⟨hs⟩
end
end
end
section
section
variable {W:W0} {ρ ρ0:List Addr} {objs:List MO} {s s0 s1:Shared} {env:Env} {ns:Names} {vars:List MV}
theorem ns_headers {h:Heap} {a:Addr} {m:Str→Option Value} (hn:h.Ns a m) {k:Int} {t:Tok} {la:Addr} {n:Nat} (e:h.get? a=some (dictOf [⟨k,.str "_headers" t,.ref la⟩] n)):m "_headers" =some (.ref la):=by
 obtain ⟨o,es,ep,ho,hd,_,hm⟩:=hn
 obtain rfl:o=_:=Option.some.inj (ho.symm.trans e)
 obtain ⟨rfl,rfl⟩:=Data.dict.inj hd
 exact (hm _).symm
theorem loose_of {a:Addr} {o:Obj} (e:s.heap.get? a=some o) (out:a∉ρ) (h1:∀xs n,o.data≠.seq xs n) (h2:∀vs,o.data≠.fields vs) (h3:∀(t:Tok) (la:Addr) (n:Nat),o≠dictOf [⟨W.hkey,.str "_headers" t,.ref la⟩] n):Loose W ρ s.heap a:=by
 have q:∀{o'},s.heap.get? a=some o'→o=o':=fun e'=>Option.some.inj (e.symm.trans e')
 exact ⟨out,fun o' e' im=>im.elim (fun h=>h.2.elim fun xs h=>h.elim fun n h=>h1 xs n (q e'▸h)) fun h=>h.2.elim fun vs h=>h2 vs (q e'▸h),fun t la n e'=>h3 t la n (q e')⟩
theorem FR.looseL (F:FR W env ns vars ρ s.heap):Loose W ρ s.heap env.locals:=by
 obtain ⟨m,hm,hh,_⟩:=F.loc
 obtain ⟨o,es,ep,ho,hd,_⟩:=id hm
 exact loose_of ho (F.apart _ (.head _)).1 (fun _ _ q=>nomatch hd.symm.trans q) (fun _ q=>nomatch hd.symm.trans q) fun t la n q=>by subst q;exact nomatch hh.symm.trans (ns_headers hm ho)
theorem looseC {c:Addr} {o:Option Value} (hc:s.heap.IsCell c o) (out:c∉ρ):Loose W ρ s.heap c:=by
 obtain ⟨ob,hb,hd⟩:=hc
 exact loose_of hb out (fun _ _ q=>nomatch hd.symm.trans q) (fun _ q=>nomatch hd.symm.trans q) fun t la n q=>nomatch hd.symm.trans (congrArg Obj.data q)
theorem FR.touch (F:FR W env ns vars ρ s.heap) {a:Addr} (ha:a∉ownOf env) (L:Loose W ρ s.heap a) (ed:(∀mv∈vars,mv≠.edict)∨∀n,s.heap.get? a≠some {cls:=.type "dict",data:=.dict #[] n}) {h':Heap} (k:∀b o,b≠a→s.heap.get? b=some o→h'.get? b=some o):FR W env ns vars ρ h':=
 F.keep (fun b hb o=>k b o fun h=>ha (h▸hb)) (fun b hb=>(F.apart b hb).1) fun x hx v r=>VRel.touch L k (ed.elim (fun h he=>(h x hx he).elim) fun h=>r.notIter h) r
theorem names_inj {l:Names} {i j:Nat} {x:Str} {k k':NameKind} (nd:(l.map (·.1)).Nodup) (h1:l[i]?=some (x,k)) (h2:l[j]?=some (x,k')):i=j:=by
 have e1:(l.map (·.1))[i]?=some x:=by rw [List.getElem?_map,h1];rfl
 have e2:(l.map (·.1))[j]?=some x:=by rw [List.getElem?_map,h2];rfl
 exact (List.getElem?_inj (List.getElem?_eq_some_iff.mp e1).1 nd).mp (e1.trans e2.symm)
theorem FR.nodupS (F:FR W env ns vars ρ s.heap):(env.scope.names.map (·.1)).Nodup:=by rw [←all2_fst F.names];exact F.nodup
theorem set_get {i j:Nat} {mv x:MV} (h:(vars.set i mv)[j]?=some x):(j=i∧x=mv)∨(j≠i∧vars[j]?=some x):=by
 by_cases hj:i=j
 ·subst hj
  obtain ⟨hl,rfl⟩:=List.getElem?_eq_some_iff.mp h
  exact .inl ⟨rfl,List.getElem_set_self _⟩
 ·exact .inr ⟨fun h=>hj h.symm,(List.getElem?_set_ne hj).symm.trans h⟩
theorem FR.put {h':Heap} {a:Addr} {i:Nat} {x:Str} {k:NameKind} {mv:MV} {v:Value} {m m':Str→Option Value} (F:FR W env ns vars ρ s.heap) (hi:env.scope.names[i]?=some (x,k)) (L:Loose W ρ s.heap a) (hs:Heap.SameBut a s.heap h') (al:∃o,h'.get? a=some o) (hp:mv.plain=true) (r:VRel W ρ s.heap mv v)
  (hl:∀(i:Nat) (x:Str) (mv:MV),env.scope.names[i]?=some (x,.local)→vars[i]?=some mv→OptRel W ρ s.heap (m x) mv∧(mv=.edict→m x≠some (.ref env.locals)∧m x≠some (.ref sysModules)))
  (ed:∀(j:Nat) (y:Str),env.scope.names[j]?=some (y,NameKind.local)→vars[j]?=some MV.edict→m y≠some (.ref a)) (hn:h'.Ns env.locals m') (hh:m' "_headers" =none) (mx:k=.local→m' x=some v) (my:∀y,(k=.local→y≠x)→m' y=m y)
  (cx:k≠.local→∀c,env.cells.lookup x=some c→h'.IsCell c (some v)) (cy:∀y c o,(k≠.local→y≠x)→env.cells.lookup y=some c→s.heap.IsCell c o→h'.IsCell c o):FR W env ns (vars.set i mv) ρ h':=by
 have ne:∀{z:MV},z=mv→z≠.edict:=fun e h=>nomatch (show MV.edict.plain=true from (h▸e)▸hp)
 have nu:mv≠.unb:=fun h=>nomatch (show MV.unb.plain=true from h▸hp)
 have tv:∀{x:MV} {v:Value},(x=.edict→v≠.ref a)→VRel W ρ s.heap x v→VRel W ρ h' x v:=fun e r=>VRel.touch L (fun b o hb e=>(hs.2 b hb).trans e) e r
 have new:OptRel W ρ h' (some v) mv:=.of (tv (fun h=>(ne rfl h).elim) r) nu
 have nj:∀{j y k'},env.scope.names[j]?=some (y,k')→j≠i→y≠x:=fun e hj h=>hj (names_inj F.nodupS (h▸e) hi)
 refine ⟨F.names,F.plain,F.kind,F.glob,F.blt,F.nodup,List.length_set.trans F.len,⟨m',hn,hh,fun j y z e1 e2=>?_⟩,fun j y kk z e1 e3 e2=>?_,fun b hb=>⟨(F.apart b hb).1,(F.apart b hb).2.1,?_⟩,F.cinj,F.cloc⟩
 ·rcases set_get e2 with ⟨hj,hz⟩|⟨hj,e2⟩
  ·obtain ⟨rfl,rfl⟩:=Prod.mk.inj (Option.some.inj ((hj▸e1).symm.trans hi))
   exact ⟨(mx rfl).symm▸hz▸new,fun h=>(ne hz h).elim⟩
  ·obtain ⟨q1,q2⟩:=hl j y z e1 e2
   rw [my y fun _=>nj e1 hj]
   exact ⟨q1.to .rfl fun v e=>tv fun h hv=>ed j y e1 (h▸e2) (e.trans (congrArg some hv)),q2⟩
 ·rcases set_get e2 with ⟨hj,hz⟩|⟨hj,e2⟩
  ·obtain ⟨rfl,rfl⟩:=Prod.mk.inj (Option.some.inj ((hj▸e1).symm.trans hi))
   have hk:kk≠.local:=fun h=>by rcases e3 with h'|h'<;>cases h.symm.trans h'
   obtain ⟨c,o,hc,_⟩:=F.cel j y kk _ e1 e3 (List.getElem?_eq_getElem (Nat.lt_of_lt_of_eq (List.getElem?_eq_some_iff.mp e2).1 List.length_set))
   exact ⟨c,_,hc,cx hk c hc,hz▸new,ne hz⟩
  ·obtain ⟨c,o,hc,hcell,hr,hn'⟩:=F.cel j y kk z e1 e3 e2
   exact ⟨c,o,hc,cy y c o (fun _=>nj e1 hj) hc hcell,hr.to .rfl fun v e=>tv fun h=>(hn' h).elim,hn'⟩
 ·obtain ⟨_,_,o,e⟩:=F.apart b hb
  by_cases hba:b=a
  ·exact hba▸al
  ·exact ⟨o,(hs.2 b hba).trans e⟩
inductive StoreP (W:W0) (ρ0:List Addr) (s0:Shared) (ρ:List Addr) (objs:List MO) (env:Env) (ns:Names) (vars:List MV) (k:NameKind) (s:Shared):Shared→Prop
 |mk {h':Heap} {tk:Nat} {a:Addr}:a∈ownOf env→(k=.local→a=env.locals)→Loose W ρ s.heap a→Heap.SameBut a s.heap h'→Ok W ρ0 s0 ρ objs {s with heap:=h',toks:=tk}→FR W env ns vars ρ h'→StoreP W ρ0 s0 ρ objs env ns vars k s {s with heap:=h',toks:=tk}
theorem store_ok {A:Around} {i:Nat} {x:Str} {k:NameKind} {mv:MV} {v:Value} (K:Ok W ρ0 s0 ρ objs s) (F:FR W env ns vars ρ s.heap) (ownL:s0.heap.get? env.locals=none) (hi:ns[i]?=some (x,k)) (ownC:k=.cell→∀c,env.cells.lookup x=some c→s0.heap.get? c=none) (hk:k=.local∨k=.cell) (hx:x≠ "_headers")
  (hp:mv.plain=true) (r:VRel W ρ s.heap mv v):
  wpAny (model W.prog W.w) A (storeName env x v) (fun _=>StoreP W ρ0 s0 ρ objs env ns (vars.set i mv) k s) NoE s:=by
 obtain ⟨k',h1,h2,h3⟩:=F.kindAt hi
 obtain rfl:k'=k:=h3.elim id fun h=>by rcases hk with rfl|rfl<;>cases h.1
 obtain ⟨m,hm,hh,hl⟩:=F.loc
 have kb:∀{a h'},Heap.SameBut a s.heap h'→∀b o,b≠a→s.heap.get? b=some o→h'.get? b=some o:=fun hs b o hb e=>(hs.2 b hb).trans e
 rcases hk with rfl|rfl
 ·refine wpAny_storeName_local h2 hm (fun h' hn hs=>?_) (by rw [F.kind];rfl)
  have L:=F.looseL
  exact ⟨.head _,fun _=>rfl,L,hs,K.touch ownL (F.apart _ (.head _)).2.1 L (kb hs) _,
   F.put h1 L hs (hn.elim fun o h=>h.elim fun _ h=>h.elim fun _ h=>⟨o,h.1⟩) hp r hl (fun j y e1 e2=>((hl j y _ e1 e2).2 rfl).1) hn ((if_neg fun h=>hx h.symm).trans hh) (fun _=>if_pos rfl) (fun y h=>if_neg (h rfl)) (fun h=>(h rfl).elim) fun y c o _ hc q=>q.sameBut hs (F.cloc _ _ hc)⟩
 ·obtain ⟨c,o,hc,hcell,_⟩:=F.cel i x .cell _ h1 (.inl rfl) (List.getElem?_eq_getElem (F.len▸(List.getElem?_eq_some_iff.mp hi).1))
  have hcm:c∈ownOf env:=.tail _ (mem_of_lookup hc)
  have L:Loose W ρ s.heap c:=looseC hcell (F.apart _ hcm).1
  refine wpAny_storeName_cell F.kind h2 hc hcell fun h' hc' hs=>?_
  refine ⟨hcm,(fun h=>nomatch h),L,hs,K.touch (ownC rfl _ hc) (F.apart _ hcm).2.1 L (kb hs) _,
   F.put h1 L hs (hc'.imp fun _ h=>h.1) hp r hl (fun j y e1 e2 h=>?_) (hm.sameBut hs fun h=>F.cloc _ _ hc h.symm) hh (fun h=>nomatch h) (fun _ _=>rfl) (fun _ c2 h=>Option.some.inj (hc.symm.trans h)▸hc') fun y c2 o hy hc2 q=>q.sameBut hs fun h=>hy (fun h=>nomatch h) (F.cinj _ _ _ hc2 (h▸hc))⟩
  obtain ⟨v,e,d,n,rfl,_,q⟩:=(hl j y _ e1 e2).1
  obtain ⟨ob,hb,hd⟩:=hcell
  cases Option.some.inj (h.symm.trans e)
  cases Option.some.inj (hb.symm.trans q)
  cases hd
end
end
section
section
variable {W:W0} {ρ ρ':List Addr} {objs objs':List MO} {s s':Shared}
theorem Ok.take (K:Ok W ρ s ρ' objs' s') (h:okTake ρ.length objs'=true):Ok W ρ s ρ (objs'.take ρ.length) s':=by
 obtain ⟨nw,hρ,hf⟩:=id K.grows
 have hl:ρ.length≤objs'.length:=by rw [←K.rel.len,hρ,List.length_append];exact Nat.le_add_right _ _
 refine ⟨.refl _ _,K.step,⟨by rw [List.length_take,Nat.min_eq_left hl],(List.nodup_append.mp (hρ▸K.rel.nodup)).1,fun i mo a e1 e2=>?_,fun a m=>K.rel.new a (K.grows.sub m),K.rel.base⟩⟩
 have hn:=List.all_eq_true.mp h mo (List.mem_of_getElem? e1)
 rw [List.getElem?_take,if_pos (List.getElem?_eq_some_iff.mp e2).1] at e1
 have z:=K.rel.objs i mo a e1 (K.grows.get e2)
 have back:∀{k:Nat} {b:Addr},decide (k<ρ.length)=true→ρ'[k]?=some b→ρ[k]?=some b:=fun hk e=>(List.getElem?_append_left (of_decide_eq_true hk)).symm.trans (hρ▸e)
 cases mo with
 |hdr k=>exact z.imp fun dx z=>z.imp fun la z=>z.imp fun t z=>z.imp fun n z=>⟨z.1,z.2.1,back hn z.2.2.1,fun m=>z.2.2.2 (K.grows.sub m)⟩
 |lit k p=>exact z.imp fun la z=>⟨back hn z.1,z.2⟩
 |_=>exact z
theorem iter_again {A:Around} {E:Value→Shared→Prop} {v:Value} {full:List FV} {orig:Option MO} {i:Nat} {it:Addr} {Q:Value→Shared→Prop} (I:ItIs W s.heap v full orig i it) (h:Q (.ref it) s):wpAny (model W.prog W.w) A (pyIter (.ref it)) Q E s:=by
 cases I with
 |list _ _ I=>exact wpAny_pyIter_listiter I h
 |rng _ _ _ _ I=>exact wpAny_pyIter_rangeiter I h
 |str hT _ _ _ I=>
  rcases hT with rfl|rfl
  ·exact wpAny_pyIter_striter_ascii I h
  ·exact wpAny_pyIter_striter_wide I h
 |dict _ _ I=>exact wpAny_pyIter_keyiter I h
noncomputable def clFold (env:Env):Names→List (Str × Addr)→List (Str × Addr)
 |[],acc=>acc
 |(n,k)::r,acc=>clFold env r (if k== .free then (n,(env.cells.lookup n).getD 0)::acc else acc)
theorem clos_ok (env:Env) (names:Names) (hf:∀p∈names,p.2=.free→∃c,env.cells.lookup p.1=some c):closureFor (scopeOf names) env=pure (clFold env names []):=by
 have key:∀(l:Names) (acc:List (Str × Addr)),(∀p∈l,p.2=.free→∃c,env.cells.lookup p.1=some c)→
   (forIn l acc (fun (x:Str × NameKind) (r:List (Str × Addr))=>(if (x.snd==NameKind.free)=true then do let a←cellOf env x.fst;pure (ForInStep.yield ((x.fst,a)::r)) else pure (ForInStep.yield r):Sem (ForInStep (List (Str × Addr))))):Sem (List (Str × Addr)))=pure (clFold env l acc):=by
  intro l
  induction l with
  |nil=>intro acc _;rfl
  |cons p r ih=>
   intro acc h
   obtain ⟨n,k⟩:=p
   rw [List.forIn_cons]
   cases hk:(k==NameKind.free) with
   |true=>
    obtain ⟨c,hc⟩:=h (n,k) (.head _) (by simpa using hk)
    have:cellOf env n=pure c:=by unfold cellOf;simp only at hc;rw [hc]
    simp only at hc
    simp only [hk,if_true,this,pure_bind,clFold,hc,Option.getD_some]
    exact ih _ fun p hp=>h p (.tail _ hp)
   |false=>
    simp only [hk,Bool.false_eq_true,if_false,pure_bind,clFold]
    exact ih _ fun p hp=>h p (.tail _ hp)
 have:=key names [] hf
 unfold closureFor
 simp only [scopeOf]
 rw [this];rfl
theorem clFold_sub (env:Env) (l:Names):∀(acc:List (Str × Addr)),(∀p∈l,p.2=.free→∃c,env.cells.lookup p.1=some c)→(∀x c,(x,c)∈acc→env.cells.lookup x=some c)→∀x c,(x,c)∈clFold env l acc→env.cells.lookup x=some c:=by
 induction l with
 |nil=>exact fun _ _ h=>h
 |cons p r ih=>
  intro acc hf h x c m
  refine ih _ (fun p hp=>hf p (.tail _ hp)) (fun y d hm=>?_) x c m
  by_cases hk:(p.2==NameKind.free)=true
  ·rw [if_pos hk] at hm
   rcases List.mem_cons.mp hm with e|hm
   ·obtain ⟨rfl,rfl⟩:=Prod.mk.inj e
    obtain ⟨c,hc⟩:=hf p (.head _) (eq_of_beq hk)
    rw [hc];rfl
   ·exact h y d hm
  ·rw [if_neg hk] at hm;exact h y d hm
theorem clFold_has (env:Env) (l:Names):∀(acc:List (Str × Addr)) (x:Str),((x,NameKind.free)∈l∨x∈acc.map (·.1))→x∈(clFold env l acc).map (·.1):=by
 induction l with
 |nil=>exact fun _ _ h=>h.elim (fun h=>nomatch h) id
 |cons p r ih=>
  intro acc x h
  refine ih _ x ?_
  by_cases hk:(p.2==NameKind.free)=true
  ·rw [if_pos hk]
   rcases h with h|h
   ·exact (List.mem_cons.mp h).elim (fun e=>.inr (e▸.head _)) .inl
   ·exact .inr (.tail _ h)
  ·rw [if_neg hk]
   exact h.imp (fun h=>(List.mem_cons.mp h).elim (fun e=>(hk (by rw [←e];rfl)).elim) id) id
theorem lookup_some {x:Str} {l:List (Str × Addr)} (h:x∈l.map (·.1)):∃c,l.lookup x=some c:=by
 induction l with
 |nil=>cases h
 |cons p r ih=>
  rw [List.lookup_cons]
  cases e:x==p.1 with
  |true=>exact ⟨_,rfl⟩
  |false=>exact (List.mem_cons.mp h).elim (fun h=>nomatch e.symm.trans (beq_iff_eq.mpr h)) ih
end
section
variable {W:W0} {ρ:List Addr} {objs:List MO} {s:Shared} {env:Env} {ns cs:Names} {vars:List MV} {caps:List (Option Nat)} {ti:Nat} {x:MV}
theorem nsOk_is (h:nsOk cs=true):(cs.map (·.1)).Nodup∧∀p∈cs,((p.1==("__debug__" :Str))=false∧(p.1==("__classdict__" :Str))=false)∧(p.1==("_headers" :Str))=false:=by
 obtain ⟨h1,h2⟩:=Bool.and_eq_true_iff.mp h
 refine ⟨of_decide_eq_true h1,fun p hp=>?_⟩
 obtain ⟨h3,h4⟩:=and2 (List.all_eq_true.mp h2 p hp)
 have nt:∀{b:Bool},(!b)=true→b=false:=fun {b} h=>by cases b with|false=>rfl|true=>cases h
 exact ⟨⟨nt (and2 h3).1,nt (and2 h3).2⟩,nt h4⟩
structure CompOk (ns cs:Names) (caps:List (Option Nat)) (ti:Nat):Prop where
 nodup:(cs.map (·.1)).Nodup
 plain:∀p∈cs,((p.1==("__debug__" :Str))=false∧(p.1==("__classdict__" :Str))=false)∧(p.1==("_headers" :Str))=false
 len:caps.length=cs.length
 at_:∀(j:Nat) (y:Str) (k:NameKind),cs[j]?=some (y,k)→∃c,caps[j]?=some c∧capOk ns ((y,k),c)=true
 ti:∃x,cs[ti]?=some (x,.local)
theorem CompOk.of (h:compOk ns cs caps ti=true):CompOk ns cs caps ti:=by
 obtain ⟨⟨⟨h1,h2⟩,h3⟩,h4⟩:=and4 h
 have hl:=eq_of_beq h2
 refine ⟨(nsOk_is h1).1,(nsOk_is h1).2,hl,fun j y k e=>?_,?_⟩
 ·have hj2:j<caps.length:=hl▸(List.getElem?_eq_some_iff.mp e).1
  exact ⟨caps[j],List.getElem?_eq_getElem hj2,List.all_eq_true.mp h3 _ (List.mem_of_getElem? (List.getElem?_zip_eq_some.mpr ⟨e,List.getElem?_eq_getElem hj2⟩))⟩
 ·obtain ⟨⟨x,k⟩,hx,hk⟩:=any1 h4
  exact ⟨x,eq_of_beq (a:=k) (and2 hk).1▸hx⟩
theorem CompOk.cap (C:CompOk ns cs caps ti) {j:Nat} {y:Str} {k:NameKind} (e:cs[j]?=some (y,k)):(caps[j]?=some none∧(k=.local∨k=.globalImplicit))∨∃i k',caps[j]?=some (some i)∧k=.free∧ns[i]?=some (y,k')∧(k'=.cell∨k'=.free):=by
 obtain ⟨c,hc,hok⟩:=C.at_ j y k e
 cases c with
 |none=>exact .inl ⟨hc,(Bool.or_eq_true_iff.mp hok).imp eq_of_beq eq_of_beq⟩
 |some i=>
  obtain ⟨h1,h2⟩:=and2 hok
  obtain ⟨⟨y',k'⟩,hi,h3⟩:=any1 h2
  obtain ⟨h4,h5⟩:=and2 h3
  exact .inr ⟨i,k',hc,eq_of_beq h1,eq_of_beq (a:=y) h4▸hi,(Bool.or_eq_true_iff.mp h5).imp eq_of_beq eq_of_beq⟩
theorem CompOk.cel (C:CompOk ns cs caps ti) (F:FR W env ns vars ρ s.heap) {j:Nat} {y:Str} (e:cs[j]?=some (y,.free)):∃(i:Nat) (mv:MV) (c:Addr) (o:Option Value),caps[j]?=some (some i)∧vars[i]?=some mv∧env.cells.lookup y=some c∧s.heap.IsCell c o∧OptRel W ρ s.heap o mv∧mv≠.edict:=by
 rcases C.cap e with ⟨_,h⟩|⟨i,k',hc,_,hi,hk⟩
 ·rcases h with h|h<;>cases h
 ·obtain ⟨k2,h1,h2,h3⟩:=F.kindAt hi
  have hv:i<vars.length:=F.len▸(List.getElem?_eq_some_iff.mp hi).1
  obtain ⟨c,o,h⟩:=F.cel i y k2 _ h1 (h3.elim (fun h=>h▸hk) fun h=>.inl h.2) (List.getElem?_eq_getElem hv)
  exact ⟨i,_,c,o,hc,List.getElem?_eq_getElem hv,h⟩
theorem CompOk.free (C:CompOk ns cs caps ti) (F:FR W env ns vars ρ s.heap) (p:Str × NameKind) (hp:p∈cs) (hk:p.2=.free):∃c,env.cells.lookup p.1=some c:=by
 obtain ⟨j,hj⟩:=List.mem_iff_getElem?.mp hp
 obtain ⟨_,_,c,_,_,_,h,_⟩:=C.cel F (hk▸hj:cs[j]?=some (p.1,.free))
 exact ⟨c,h⟩
theorem ite_rel {c:Bool} {n:Str} {k:NameKind} (h:c=true→k=.free):n=(if c=true then (n,NameKind.cell) else (n,k)).1∧((if c=true then (n,NameKind.cell) else (n,k)).2=k∨(k=.free∧(if c=true then (n,NameKind.cell) else (n,k)).2=.cell)):=by
 cases c with
 |true=>exact ⟨rfl,.inr ⟨h rfl,rfl⟩⟩
 |false=>exact ⟨rfl,.inl rfl⟩
theorem relabel_all (cs:Names):All2 (fun (p q:Str × NameKind)=>p.1=q.1∧(q.2=p.2∨(p.2=.free∧q.2=.cell))) cs (relabel (scopeOf cs) env).names:=by
 show All2 _ cs (cs.map _)
 induction cs with
 |nil=>exact .nil
 |cons p r ih=>exact .cons (ite_rel fun h=>eq_of_beq (and2 (and2 h).1).1) ih
theorem clFold_at (C:CompOk ns cs caps ti) (F:FR W env ns vars ρ s.heap) {y:Str} {c:Addr} (h:(clFold env cs []).lookup y=some c):env.cells.lookup y=some c:=clFold_sub env cs [] (C.free F) (fun _ _ h=>nomatch h) y c (PySem.mem_of_lookup h)
theorem FR.comp {D:Addr} {h4:Heap} {rs:List Nat} (F:FR W env ns vars ρ s.heap) (R:ORel W ρ objs s.heap) (C:CompOk ns cs caps ti) (hc:closed rs objs=true) (hr:∀i,.ref i∈capsOf vars caps→i∈rs)
  (hC:s.heap.get? D=none) (hn:h4.Ns D fun _=>none) (kp:∀b o,s.heap.get? b=some o→h4.get? b=some o):
  FR W (compEnvC (scopeOf cs) (clFold env cs []) D env) cs ((capsOf vars caps).map (renum rs)) (prt ρ rs) h4:=by
 have back:∀{i:Nat} {y:Str} {k:NameKind},(relabel (scopeOf cs) env).names[i]?=some (y,k)→∃k',cs[i]?=some (y,k')∧(k=k'∨(k'=.free∧k=.cell)):=fun e=>by
  obtain ⟨⟨y',k'⟩,e',rfl,h2⟩:=(relabel_all cs).get2 e
  exact ⟨k',e',h2⟩
 have val:∀{i:Nat} {mv:MV} {c:Option Nat},((capsOf vars caps).map (renum rs))[i]?=some mv→caps[i]?=some c→∃z,z∈capsOf vars caps∧(match c with|some j=>vars.getD j .unb|none=>.unb)=z∧mv=renum rs z:=fun {i mv c} e ec=>by
  rw [List.getElem?_map] at e
  obtain ⟨z,hz,rfl⟩:=Option.map_eq_some_iff.mp e
  refine ⟨z,List.mem_of_getElem? hz,?_,rfl⟩
  unfold capsOf at hz
  rw [List.getElem?_map,ec] at hz
  cases c<;>exact Option.some.inj hz
 refine ⟨relabel_all cs,fun p hp=>(C.plain p hp).1,rfl,F.glob,F.blt,C.nodup,by rw [List.length_map,capsOf,List.length_map,C.len],⟨_,hn,rfl,fun i y mv e1 e2=>?_⟩,fun i y k mv e1 e3 e2=>?_,fun a ha=>?_,fun y z c h1 h2=>F.cinj y z c (clFold_at C F h1) (clFold_at C F h2),fun y c h=>?_⟩
 ·obtain ⟨k',e',h⟩:=back e1
  obtain rfl:.local=k':=h.elim id fun h=>nomatch h.2
  rcases C.cap e' with ⟨hcap,_⟩|⟨_,_,_,h,_⟩
  ·obtain ⟨z,_,rfl,rfl⟩:=val e2 hcap
   exact ⟨rfl,fun h=>nomatch h⟩
  ·cases h
 ·obtain ⟨k',e',h⟩:=back e1
  have hk':k'=.free:=by
   rcases h with rfl|h
   ·rcases C.cap e' with ⟨_,h⟩|⟨_,_,_,h,_⟩
    ·rcases h with rfl|rfl<;>rcases e3 with h|h<;>cases h
    ·exact h
   ·exact h.1
  subst hk'
  obtain ⟨j,x,c,o,hcap,hx,hcl,⟨ob,hb,hd⟩,hrel,hne⟩:=C.cel F e'
  obtain ⟨z,hz,e,rfl⟩:=val e2 hcap
  obtain rfl:x=z:=by rw [←e];exact (congrArg (·.getD MV.unb) hx).symm.trans (List.getD_eq_getElem?_getD ..).symm
  obtain ⟨cl,hcc⟩:=lookup_some (clFold_has env cs [] y (.inl (List.mem_of_getElem? e')))
  obtain rfl:cl=c:=Option.some.inj ((clFold_at C F hcc).symm.trans hcl)
  have ru:∀{y:MV},y=.unb∨y=.edict→(x=y↔renum rs x=y):=fun h=>by cases x<;>first|exact .rfl|(rcases h with rfl|rfl<;>exact ⟨nofun,nofun⟩)
  exact ⟨cl,o,hcc,⟨ob,kp _ _ hb,hd⟩,hrel.to (ru (.inl rfl)) fun v _ r=>VRel.mono (keepImm_of kp) (fun a o e _=>kp a o e) (.refl _ _) (VRel.part R hc (fun i hi=>hr i (hi▸hz)) r),fun h=>hne ((ru (.inr rfl)).mpr h)⟩
 ·rcases List.mem_cons.mp ha with haC|ha
  ·obtain rfl:a=D:=haC
   exact ⟨fun m=>(R.alive (part_sub R hc m)).elim fun _ ho=>dead ho hC,R.h0 hC,hn.imp fun _ h=>h.elim fun _ h=>h.elim fun _ h=>h.1⟩
  ·obtain ⟨⟨y,c⟩,hm,rfl⟩:=List.mem_map.mp ha
   obtain ⟨p,q,o,ho⟩:=F.apart c (.tail _ (mem_of_lookup (clFold_sub env cs [] (C.free F) (fun _ _ h=>nomatch h) y c hm)))
   exact ⟨fun m=>p (part_sub R hc m),q,o,kp _ _ ho⟩
 ·obtain ⟨_,_,o,ho⟩:=F.apart c (.tail _ (mem_of_lookup (clFold_at C F h)))
  exact fun e=>dead ho (e▸hC)
end
end
section
section
variable {W:W0} {ρb:List Addr} {sb:Shared} {env:Env} {cs:Names} {Acc:Heap→List FV→Prop} {D:Addr}
structure CInv (W:W0) (ρb:List Addr) (sb:Shared) (env:Env) (cs:Names) (Acc:Heap→List FV→Prop) (s:Shared) (oc:List MO) (vs:List MV) (pre:List FV):Prop where
 ok:Ok W ρb sb ρb oc s
 fr:FR W env cs vs ρb s.heap
 acc:Acc s.heap pre
 ned:∀mv∈vs,mv≠.edict
structure AccOk (W:W0) (ρb:List Addr) (sb:Shared) (env:Env) (D:Addr) (Acc:Heap→List FV→Prop):Prop where
 d0:sb.heap.get? D=none
 dw:W.h0.get? D=none
 dC:D∉ownOf env
 out:D∉ρb
 loose:∀h ys,Acc h ys→(∀o,h.get? D=some o→¬Imm o)∧∀(t:Tok) (la:Addr) (n:Nat),h.get? D≠some (dictOf [⟨W.hkey,.str "_headers" t,.ref la⟩] n)
 keep:∀h h' ys,Acc h ys→(∀o,h.get? D=some o→h'.get? D=some o)→KeepImm h h'→Acc h' ys
noncomputable def Kept (ρ:List Addr) (out:List Addr) (s s':Shared):Prop:=∀b o,s.heap.get? b=some o→b∉ρ→b∉out→s'.heap.get? b=some o
theorem Kept.refl {ρ out:List Addr} {s:Shared}:Kept ρ out s s:=fun _ _ e _ _=>e
theorem Kept.trans {ρ out out':List Addr} {s s1 s2:Shared} (x:Kept ρ out s s1) (y:Kept ρ out' s1 s2):Kept ρ (out++out') s s2:=
 fun b o e h1 h2=>y b o (x b o e h1 fun h=>h2 (List.mem_append_left _ h)) h1 fun h=>h2 (List.mem_append_right _ h)
theorem Kept.mono {ρ out out':List Addr} {s s1:Shared} (x:Kept ρ out s s1) (h:∀a∈out,a∈out'):Kept ρ out' s s1:=fun b o e h1 h2=>x b o e h1 fun m=>h2 (h b m)
theorem CInv.looseD (AO:AccOk W ρb sb env D Acc) {s:Shared} {oc:List MO} {vs:List MV} {pre:List FV} (I:CInv W ρb sb env cs Acc s oc vs pre):Loose W ρb s.heap D:=⟨AO.out,(AO.loose _ _ I.acc).1,(AO.loose _ _ I.acc).2⟩
theorem CInv.touch (AO:AccOk W ρb sb env D Acc) {s:Shared} {oc:List MO} {vs:List MV} {pre:List FV} (I:CInv W ρb sb env cs Acc s oc vs pre) {a:Addr} (h0:sb.heap.get? a=none) (hw:W.h0.get? a=none) (L:Loose W ρb s.heap a) (ho:a∉ownOf env) (hD:a≠D)
  {h':Heap} (k:∀b o,b≠a→s.heap.get? b=some o→h'.get? b=some o) (tk:Nat):CInv W ρb sb env cs Acc {s with heap:=h',toks:=tk} oc vs pre:=
 ⟨I.ok.touch h0 hw L k tk,I.fr.touch ho L (.inl I.ned) k,AO.keep _ _ _ I.acc (fun o e=>k _ o (fun h=>hD h.symm) e) (fun b o e im=>k b o (fun hb=>by subst hb;exact L.imm o e im) e),I.ned⟩
theorem CInv.keepImm (AO:AccOk W ρb sb env D Acc) {s s':Shared} {oc:List MO} {vs:List MV} {pre:List FV} (I:CInv W ρb sb env cs Acc s oc vs pre) (k:Kept ρb [D,env.locals] s s'):KeepImm s.heap s'.heap:=by
 intro b o e im
 exact k b o e (fun m=>I.ok.rel.notImm m e im) fun m=>(List.mem_cons.mp m).elim (fun h=>(CInv.looseD AO I).imm o (h▸e) im) fun m=>I.fr.looseL.imm o (List.mem_singleton.mp m▸e) im
noncomputable def LoopPost (e:Expr) (depth:Nat) (it acc:Value) (env:Env) (R:Result→Shared→Prop) (I:Nat→Shared→Prop) (m:Nat):Fin→Shared→Prop
 |.done f,s'=>R (.ok f) s'
 |.again c',s'=>c'=.compLoop e depth it acc env∧∃k,k<m∧I k s'
noncomputable def Looper (W:W0) (A:Around) (e:Expr) (depth:Nat) (it acc:Value) (env:Env):Prop:=∀(R:Result→Shared→Prop) (I:Nat→Shared→Prop),
 (∀m s,I m s→wpAny (model W.prog W.w) A (compTurn e depth it acc env) (LoopPost e depth it acc env R I m) NoE s)→∀m s,I m s→codeAny (model W.prog W.w) A (.compLoop e depth it acc env) R s
noncomputable def TurnIs (e:Expr) (depth:Nat) (it acc:Value) (env:Env) (ip px:Pos) (x:Str) (N:Sem Fin):Prop:=
 compTurn e depth it acc env=(standAt ip>>=fun _=>pyNext it>>=fun r=>match r with
   |none=>pure (.done .next)
   |some v=>letOwnedTupleGo (.Name x px) it v>>=fun _=>assign (.Name x px) env v>>=fun _=>N)
inductive StepP (W:W0) (ρb:List Addr) (sb:Shared) (env:Env) (cs:Names) (Acc:Heap→List FV→Prop) (D:Addr) (c:Code) (oc:List MO) (vs:List MV) (pre:List FV) (s:Shared):Fin→Shared→Prop
 |mk {s':Shared}:CInv W ρb sb env cs Acc s' oc vs pre→Kept ρb [D,env.locals] s s'→StepP W ρb sb env cs Acc D c oc vs pre s (.again c) s'
inductive DoneP (W:W0) (ρb:List Addr) (sb:Shared) (env:Env) (cs:Names) (Acc:Heap→List FV→Prop) (out:List Addr) (oc:List MO) (vs:List MV) (pre:List FV) (s:Shared):Result→Shared→Prop
 |mk {s':Shared}:CInv W ρb sb env cs Acc s' oc vs pre→Kept ρb out s s'→DoneP W ρb sb env cs Acc out oc vs pre s (.ok .next) s'
structure ItNew (W:W0) (ρb:List Addr) (sb:Shared) (env:Env) (D it:Addr):Prop where
 i0:sb.heap.get? it=none
 iw:W.h0.get? it=none
 iρ:it∉ρb
 iD:it≠D
 io:it∉ownOf env
inductive CLoop (W:W0) (ρb:List Addr) (sb:Shared) (env:Env) (cs:Names) (Acc:Heap→List FV→Prop) (out:List Addr) (run:List FV→List MV→List MO→List FV→Prop) (It:Heap→Nat→Prop) (full pre:List FV) (s0:Shared) (m:Nat) (s:Shared):Prop
 |mk {rem:List FV} {vs:List MV} {oc:List MO} {acc:List FV} {i:Nat}:rem.length=m→run rem vs oc acc→CInv W ρb sb env cs Acc s oc vs (pre++acc)→It s.heap i→full.drop i=rem→Kept ρb out s0 s→CLoop W ρb sb env cs Acc out run It full pre s0 m s
theorem nin {a b:Addr} {l:List Addr} (h:b∉a::l):b≠a∧b∉l:=⟨fun e=>h (e▸.head _),fun m=>h (.tail _ m)⟩
theorem opt3k {γ:Type} {G:Prop} {r:γ} {x:Option (List FV × List MV × List MO)} {f:List FV→List MV→List MO→Option γ} (h:(match x with|some (a,b,c)=>f a b c|none=>none)=some r) (k:∀a b c,x=some (a,b,c)→f a b c=some r→G):G:=by
 cases x with|none=>exact non h|some p=>exact k _ _ _ rfl h
theorem drop_cons {α:Type} {l r:List α} {i:Nat} {y:α} (h:l.drop i=y::r):l[i]?=some y∧l.drop (i+1)=r:=
 ⟨(List.getElem?_drop (j:=0)).symm.trans (congrArg (·[0]?) h),(List.drop_drop (i:=1)).symm.trans (congrArg (List.drop 1) h)⟩
theorem comp_loop {A:Around} (hA:A.handled=none) {e:Expr} {depth n ti:Nat} {acc xv:Value} {it:Addr} {ip px:Pos} {x:Str} {N:Sem Fin} {src:MV} {full:List FV} {orig:Option MO}
  {step:FV→List MV→List MO→Option (List FV × List MV × List MO)} (AO:AccOk W ρb sb env D Acc) (C0:sb.heap.get? env.locals=none) (hx:cs[ti]?=some (x,.local)) (hxh:x≠ "_headers") (hxv:VRel W ρb sb.heap src xv)
  (hdx:∀d es,xv=.ref d→orig=some (.dict es)→∃o,sb.heap.get? d=some o∧o.cls=.type "dict")
  (hloop:Looper W A e depth (.ref it) acc env) (hT:TurnIs e depth (.ref it) acc env ip px x N) {pre:List FV} (hpre:pre.length≤lenLim)
  (hstep:∀itv vs oc ys vs' oc' s pre',step itv vs oc=some (ys,vs',oc')→okTake n oc'=true→pre'.length≤pre.length+lenLim→CInv W ρb sb env cs Acc s oc (vs.set ti (.fv itv)) pre'→
   wpAny (model W.prog W.w) A N (StepP W ρb sb env cs Acc D (.compLoop e depth (.ref it) acc env) (oc'.take n) vs' (pre'++ys) s) NoE s)
  (N0:ItNew W ρb sb env D it)
  {ysF:List FV} {vsF:List MV} {ocF:List MO} {s0:Shared} {vs0:List MV} {oc0:List MO} (hrun:compTurns n step src orig full vs0 oc0 []=some (ysF,vsF,ocF)) (hI:CInv W ρb sb env cs Acc s0 oc0 vs0 pre)
  (hit:ItIs W s0.heap xv full orig 0 it):
  codeAny (model W.prog W.w) A (.compLoop e depth (.ref it) acc env) (DoneP W ρb sb env cs Acc [D,env.locals,it] ocF vsF (pre++ysF) s0) s0:=by
 refine hloop _ (CLoop W ρb sb env cs Acc [D,env.locals,it] (fun rem vs oc acc=>compTurns n step src orig rem vs oc acc=some (ysF,vsF,ocF)) (fun h i=>ItIs W h xv full orig i it) full pre s0) (fun m s hIs=>?_) full.length s0 ⟨rfl,hrun,(List.append_nil pre).symm▸hI,hit,List.drop_zero,Kept.refl⟩
 clear hrun hI hit
 cases hIs with
 | @mk rem vs oc acc i hm hrun hI hit hrem hk=>
 rw [hT]
 refine wpAny_bind (wpAny_standAt (wpAny_bind ?_))
 have L:=(hit.loose N0.iρ).1
 cases rem with
 |nil=>
  refine ifk hrun fun ho hrun=>?_
  obtain ⟨rfl,q⟩:=Prod.mk.inj (Option.some.inj hrun)
  obtain ⟨rfl,rfl⟩:=Prod.mk.inj q
  refine wpAny_mono (next_end hA hit (hI.ok.rel.listAt hxv ho) (List.getElem?_eq_none_iff.mpr (List.drop_eq_nil_iff.mp hrem))) (fun r s1 P=>?_) NoE.imp
  cases P with
  |mk hs=>exact wpAny_pure ⟨hI.touch AO N0.i0 N0.iw L N0.io N0.iD (fun b o hb e=>hs b o hb e) _,fun b o e h1 h2=>hs b o (nin (nin (nin h2).2).2).1 (hk b o e h1 h2)⟩
 |cons y r=>
  refine ifk hrun fun ho hrun=>opt3k hrun fun ys vs' oc' hst hrun=>ifk hrun fun hlen hrun=>?_
  obtain ⟨hlen,htk⟩:=and2 hlen
  have hlen:=of_decide_eq_true hlen
  obtain ⟨hsome,hdrop⟩:=drop_cons hrem
  refine wpAny_mono (next_item hit (hI.ok.rel.listAt hxv ho) hsome) (fun u s1 P=>?_) NoE.imp
  cases P with
  | @mk u h' tk ru hs hit1=>
  have k1:∀b o,b≠it→s.heap.get? b=some o→h'.get? b=some o:=fun b o hb e=>(hs.2 b hb).trans e
  have hI1:=hI.touch AO N0.i0 N0.iw L N0.io N0.iD k1 tk
  refine wpAny_bind (wpAny_of_eq (a:=()) rfl (wpAny_bind (wpAny_assign_Name (wpAny_mono (store_ok hI1.ok hI1.fr C0 hx (fun h=>nomatch h) (.inl rfl) hxh (mv:=.fv y) rfl ru) (fun _ s2 P=>?_) NoE.imp))))
  cases P with
  | @mk h2 tk2 a ha haL La hs2 K2 F2=>
  obtain rfl:a=env.locals:=haL rfl
  have k2:∀b o,b≠env.locals→h'.get? b=some o→h2.get? b=some o:=fun b o hb e=>(hs2.2 b hb).trans e
  have ki2:KeepImm h' h2:=fun b o e im=>k2 b o (fun hb=>La.imm o (hb▸e) im) e
  have hI2:CInv W ρb sb env cs Acc {s with heap:=h2,toks:=tk2} oc (vs.set ti (.fv y)) (pre++acc):=
   ⟨K2,F2,AO.keep _ _ _ hI1.acc (fun o e=>k2 _ o (fun h=>AO.dC (h▸ha)) e) ki2,fun mv hmv=>(List.mem_or_eq_of_mem_set hmv).elim (hI.ned mv) fun h e=>nomatch h.symm.trans e⟩
  have dkeep:∀{s1 s2:Shared} {o1 o2:List MO},Ok W ρb sb ρb o1 s1→Ok W ρb sb ρb o2 s2→∀d es o,xv=.ref d→orig=some (.dict es)→s1.heap.get? d=some o→s2.heap.get? d=some o:=fun K1 K2 d es o e1 e2 e3=>
   (hdx d es e1 e2).elim fun o' h=>((K1.step.inst d o' h.1 (.inr h.2)).symm.trans e3)▸K2.step.inst d o' h.1 (.inr h.2)
  have hitC:it≠env.locals:=fun h=>N0.io (h▸.head _)
  have hit2:ItIs W h2 xv full orig (i+1) it:=hit1.keep (fun o e=>k2 _ o hitC e) ki2 (dkeep (s2:={s with heap:=h2,toks:=tk2}) hI1.ok K2)
  refine wpAny_mono (hstep y vs oc ys vs' oc' _ (pre++acc) hst htk (by rw [List.length_append];exact Nat.add_le_add_left (Nat.le_trans (Nat.le_add_right _ _) hlen) _) hI2) (fun fin s3 P=>?_) NoE.imp
  cases P with
  |mk hI3 hk3=>
  refine ⟨rfl,r.length,by rw [←hm];exact Nat.lt_succ_self _,rfl,hrun,List.append_assoc .. ▸hI3,?_,hdrop,fun b o e h1 h2'=>?_⟩
  ·exact hit2.keep (fun o e=>hk3 _ o e N0.iρ fun m=>(List.mem_cons.mp m).elim N0.iD fun m=>hitC (List.mem_singleton.mp m)) (hI2.keepImm AO hk3) (dkeep (s1:={s with heap:=h2,toks:=tk2}) K2 hI3.ok)
  ·have q1:=nin h2'
   have q2:=nin q1.2
   exact hk3 b o (k2 b o q2.1 (k1 b o (nin q2.2).1 (hk b o e h1 h2'))) h1 fun m=>(List.mem_cons.mp m).elim q1.1 fun m=>q2.1 (List.mem_singleton.mp m)
end
end
section
section
variable {W:W0} {ρb:List Addr} {sb:Shared} {env:Env} {cs:Names} {D:Addr}
noncomputable def AccL (D:Addr) (h:Heap) (ys:List FV):Prop:=∃vs n,h.get? D=some {cls:=.type "list",data:=.seq vs n}∧All2 (FRel h) ys vs.toList
noncomputable def AccD (W:W0) (D:Addr) (h:Heap) (ys:List FV):Prop:=∃(es:List (Int × FV)) (kvs:List (Int × Value)),ys=es.map (fun p=>.pair (.int p.1) p.2)∧h.DictOf (intKind W.prog W.w) D kvs∧kvs.length≤es.length∧
 ((es.map (·.1)).Nodup→All2 (fun (p:Int × FV) (q:Int × Value)=>p.1=q.1∧FRel h p.2 q.2) es kvs)
theorem accL (d0:sb.heap.get? D=none) (dw:W.h0.get? D=none) (dC:D∉ownOf env) (out:D∉ρb):AccOk W ρb sb env D (AccL D):=by
 refine ⟨d0,dw,dC,out,fun h ys x=>?_,fun h h' ys x k ki=>x.imp fun vs x=>x.imp fun n x=>⟨k _ x.1,x.2.imp fun _ _=>FRel.keep ki⟩⟩
 obtain ⟨vs,n,g,_⟩:=x
 have q:∀{o},h.get? D=some o→o.cls=.type "list" :=fun e=>Option.some.inj (g.symm.trans e)▸rfl
 exact ⟨fun o e im=>im.elim (fun i=>absurd ((q e).symm.trans i.1) (by decide)) fun i=>absurd ((q e).symm.trans i.1) (by decide),fun t la n e=>absurd (show Value.type "dict" =Value.type "list" from q e) (by decide)⟩
theorem accD (d0:sb.heap.get? D=none) (dw:W.h0.get? D=none) (dC:D∉ownOf env) (out:D∉ρb):AccOk W ρb sb env D (AccD W D):=by
 refine ⟨d0,dw,dC,out,fun h ys x=>?_,fun h h' ys x k ki=>?_⟩
 ·obtain ⟨es,kvs,_,⟨o',es',ep,g,hc,hd,hk,_⟩,_⟩:=x
  have q:∀{o},h.get? D=some o→o'=o:=fun e=>Option.some.inj (g.symm.trans e)
  refine ⟨fun o e im=>?_,fun t la n e=>?_⟩
  ·exact im.elim (fun i=>absurd ((q e▸hc.1:o.cls=_).symm.trans i.1) (by decide)) fun i=>absurd ((q e▸hc.1:o.cls=_).symm.trans i.1) (by decide)
  ·obtain ⟨rfl,_⟩:=Data.dict.inj (hd.symm.trans (congrArg Obj.data (q e)))
   obtain ⟨k,hk1,_⟩:=hk ⟨W.hkey,.str "_headers" t,.ref la⟩ (Array.mem_singleton.mpr rfl)
   exact (Value.isInt_shape (show Value.isInt k (.str "_headers" t)=true from hk1)).elim fun _ h=>nomatch h
 ·obtain ⟨es,kvs,e1,hD,hl,al⟩:=x
  obtain ⟨o,g,r⟩:=Heap.dictOf_iff.mp hD
  exact ⟨es,kvs,e1,Heap.dictOf_iff.mpr ⟨o,k _ g,r⟩,hl,fun nd=>(al nd).imp fun _ _ q=>⟨q.1,FRel.keep ki q.2⟩⟩
theorem CInv.after {Acc:Heap→List FV→Prop} (AO:AccOk W ρb sb env D Acc) {s s3:Shared} {oc oc':List MO} {vs:List MV} {pre:List FV} (I:CInv W ρb sb env cs Acc s oc vs pre) (K:Ok W ρb s ρb oc' s3):
  CInv W ρb sb env cs Acc s3 oc' vs pre∧Kept ρb [] s s3:=
 ⟨⟨I.ok.trans K,I.fr.ok I.ok.rel K,AO.keep _ _ _ I.acc (fun o e=>K.step.keep D o e AO.out) (K.step.imm I.ok.rel),I.ned⟩,fun b o e h _=>K.step.keep b o e h⟩
theorem CInv.turn {Acc:Heap→List FV→Prop} (AO:AccOk W ρb sb env D Acc) {s:Shared} {h':Heap} {oc:List MO} {vs:List MV} {pre pre':List FV} (I:CInv W ρb sb env cs Acc s oc vs pre) (hs:Heap.SameBut D s.heap h') (tk:Nat) (a:KeepImm s.heap h'→Acc h' pre'):
  CInv W ρb sb env cs Acc {s with heap:=h',toks:=tk} oc vs pre'∧Kept ρb [D] s {s with heap:=h',toks:=tk}:=by
 have L:=CInv.looseD AO I
 have kb:∀b o,b≠D→s.heap.get? b=some o→h'.get? b=some o:=fun b o hb e=>(hs.2 b hb).trans e
 exact ⟨⟨I.ok.touch AO.d0 AO.dw L kb tk,I.fr.touch AO.dC L (.inl I.ned) kb,a fun b o e im=>kb b o (fun hb=>L.imm o (hb▸e) im) e,I.ned⟩,fun b o e h1 h2=>kb b o (nin h2).1 e⟩
theorem append_ok {A:Around} (AO:AccOk W ρb sb env D (AccL D)) {s:Shared} {oc:List MO} {vs:List MV} {pre:List FV} {y:FV} {v:Value} (I:CInv W ρb sb env cs (AccL D) s oc vs pre) (r:FRel s.heap y v) (hl:pre.length≤2*lenLim):
  wpAny (model W.prog W.w) A (call (.builtin "list.append") [.ref D,v]) (fun _ s'=>CInv W ρb sb env cs (AccL D) s' oc vs (pre++[y])∧Kept ρb [D] s s') NoE s:=by
 obtain ⟨ws,n,g,al⟩:=id I.acc
 have el:pre.length=ws.size:=by rw [al.len,Array.length_toList]
 refine wpAny_list_append_plain (items:=ws) ⟨n,g⟩ (fun h' hp hs=>?_) (by rw [←el];exact Nat.le_trans hl (by decide))
 obtain ⟨k,hk⟩:=hp
 exact I.turn AO hs s.toks fun ki=>⟨_,k,hk,by rw [Array.toList_push];exact (al.imp fun _ _=>FRel.keep ki).append (.cons (FRel.keep ki r) .nil)⟩
theorem stored_new {kvs:List (Int × Value)} {k:Int} {v:Value} (h:k∉kvs.map (·.1)):stored kvs k v=kvs++[(k,v)]:=by
 unfold stored
 rw [if_neg]
 intro q
 obtain ⟨p,hp,e⟩:=List.any_eq_true.mp q
 exact h (List.mem_map.mpr ⟨p,hp,of_decide_eq_true e⟩)
theorem all2_keys {h:Heap} {es:List (Int × FV)} {kvs:List (Int × Value)} (r:All2 (fun (p:Int × FV) (q:Int × Value)=>p.1=q.1∧FRel h p.2 q.2) es kvs):es.map (·.1)=kvs.map (·.1):=by
 induction r with
 |nil=>rfl
 |cons p _ ih=>rw [List.map_cons,List.map_cons,ih,p.1]
theorem dictset_ok {A:Around} (AO:AccOk W ρb sb env D (AccD W D)) {s:Shared} {oc:List MO} {vs:List MV} {pre:List FV} {k:Int} {t:Tok} {y:FV} {v:Value} (I:CInv W ρb sb env cs (AccD W D) s oc vs pre) (r:FRel s.heap y v) (hl:pre.length≤2*lenLim):
  wpAny (model W.prog W.w) A (dictSet D (.int k t) v) (fun _ s'=>CInv W ρb sb env cs (AccD W D) s' oc vs (pre++[.pair (.int k) y])∧Kept ρb [D] s s') NoE s:=by
 obtain ⟨es,kvs,e1,hD,hlen,al⟩:=id I.acc
 have el:es.length=pre.length:=by rw [e1];simp
 refine wpAny_dictSet_pairs (knd:=intKind W.prog W.w) (k:=k) (beq_self_eq_true k) hD (fun h' hD' hs=>?_) (Nat.le_trans (Nat.le_trans hlen (el▸hl)) (by rw [sizeLine_eq];decide))
 refine I.turn AO hs _ fun ki=>⟨es++[(k,y)],_,by rw [e1,List.map_append];rfl,hD',?_,fun nd=>?_⟩
 ·rw [List.length_append];exact Nat.le_trans (stored_length_le kvs k v) (Nat.add_le_add_right hlen 1)
 ·rw [List.map_append,List.nodup_append] at nd
  have al':=al nd.1
  rw [stored_new fun hm=>nd.2.2 k (all2_keys al'▸hm) k (.head _) rfl]
  exact (al'.imp fun _ _ q=>⟨q.1,FRel.keep ki q.2⟩).append (.cons ⟨rfl,FRel.keep ki r⟩ .nil)
end
section
variable {prog:Program} {w:World} {A:Around} {s:Shared}
noncomputable def listN (elt:Expr) (ifs:List Expr) (e:Expr) (it acc:Value) (env:Env):Sem Fin:=do
 let mut ok:=true
 for c in ifs do
  if ok then ok←isTrue c env (eval c env)
 if ok then
  (do let _←call (.builtin "list.append") [acc,←eval elt env])
 again (.compLoop e 0 it acc env)
theorem turn_list (elt iter:Expr) (x:Str) (px:Pos) (ifs:List Expr) (scope:Scope) (pos:Pos) (it acc:Value) (env:Env):
  TurnIs (.ListComp elt [⟨.Name x px,iter,ifs,0⟩] scope pos) 0 it acc env iter.pos px x (listN elt ifs (.ListComp elt [⟨.Name x px,iter,ifs,0⟩] scope pos) it acc env):=by unfold TurnIs;rfl
theorem listN_ok {elt:Expr} {ifs:List Expr} {e:Expr} {it acc:Value} {env:Env} {Q:Fin→Shared→Prop}
  (h:wpAny (model prog w) A (forIn ifs true fun c r=>if r=true then do let ok←isTrue c env (eval c env);pure (ForInStep.yield ok) else pure (ForInStep.yield r)) (fun ok s₃=>
      if ok=true then wpAny (model prog w) A (eval elt env) (fun x s₄=>wpAny (model prog w) A (call (.builtin "list.append") [acc,x]) (fun _ s₅=>Q (.again (.compLoop e 0 it acc env)) s₅) NoE s₄) NoE s₃
      else Q (.again (.compLoop e 0 it acc env)) s₃) NoE s):wpAny (model prog w) A (listN elt ifs e it acc env) Q NoE s:=by
 unfold listN
 refine wpAny_bind (wpAny_mono h (fun ok s₃ h₃=>?_) NoE.imp)
 cases ok with
 |false=>exact wpAny_pure h₃
 |true=>exact wpAny_bind (wpAny_bind (wpAny_mono h₃ (fun x s₄ h₄=>wpAny_bind (wpAny_mono h₄ (fun _ s₅ h₅=>wpAny_pure (wpAny_pure h₅)) NoE.imp)) NoE.imp))
noncomputable def dictN (kx vx:Expr) (e:Expr) (it:Value) (D:Addr) (env:Env):Sem Fin:=do
 (do
  let kv←eval kx env
  let vv←holding [kv] (eval vx env)
  standAt {kx.pos with endLine:=vx.pos.endLine,endCol:=vx.pos.endCol}
  holding [kv,vv] (dictSet D kv vv))
 again (.compLoop e 0 it (.ref D) env)
theorem turn_dict (kx vx iter:Expr) (x:Str) (px:Pos) (scope:Scope) (pos:Pos) (it:Value) (D:Addr) (env:Env):
  TurnIs (.DictComp kx vx [⟨.Name x px,iter,[],0⟩] scope pos) 0 it (.ref D) env iter.pos px x (dictN kx vx (.DictComp kx vx [⟨.Name x px,iter,[],0⟩] scope pos) it D env):=by unfold TurnIs;rfl
theorem dictN_ok {kx vx:Expr} {e:Expr} {it:Value} {D:Addr} {env:Env} {Q:Fin→Shared→Prop}
  (h:wpAny (model prog w) A (eval kx env) (fun kv s₄=>wpAny (model prog w) A (eval vx env) (fun vv s₅=>wpAny (model prog w) A (dictSet D kv vv) (fun _ s₆=>Q (.again (.compLoop e 0 it (.ref D) env)) s₆) NoE s₅) NoE s₄) NoE s):
  wpAny (model prog w) A (dictN kx vx e it D env) Q NoE s:=by
 unfold dictN
 exact wpAny_bind (wpAny_bind (wpAny_mono h (fun kv s₄ h₄=>wpAny_bind (wpAny_holding (wpAny_mono h₄ (fun vv s₅ h₅=>wpAny_bind (wpAny_standAt (wpAny_holding (wpAny_mono h₅ (fun _ s₆ h₆=>wpAny_pure h₆) NoE.imp)))) NoE.imp))) NoE.imp))
noncomputable def outerN (iter2:Expr) (e:Expr) (it acc:Value) (env:Env):Sem Fin:=do
 let x←eval iter2 env
 standAt iter2.pos
 let x←foldedSetIterable iter2 env x
 let _←runOwn (.compStart e 1 (←holding [x] (pyIter x)) acc env) env
 again (.compLoop e 0 it acc env)
theorem turn_outer (elt iter iter2:Expr) (x y:Str) (px py:Pos) (scope:Scope) (pos:Pos) (it acc:Value) (env:Env):
  TurnIs (.ListComp elt [⟨.Name x px,iter,[],0⟩,⟨.Name y py,iter2,[],0⟩] scope pos) 0 it acc env iter.pos px x (outerN iter2 (.ListComp elt [⟨.Name x px,iter,[],0⟩,⟨.Name y py,iter2,[],0⟩] scope pos) it acc env):=by unfold TurnIs;rfl
noncomputable def innerN (elt:Expr) (e:Expr) (it acc:Value) (env:Env):Sem Fin:=do
 (do let _←call (.builtin "list.append") [acc,←eval elt env])
 again (.compLoop e 1 it acc env)
theorem turn_inner (elt iter iter2:Expr) (x y:Str) (px py:Pos) (scope:Scope) (pos:Pos) (it acc:Value) (env:Env):
  TurnIs (.ListComp elt [⟨.Name x px,iter,[],0⟩,⟨.Name y py,iter2,[],0⟩] scope pos) 1 it acc env iter2.pos py y (innerN elt (.ListComp elt [⟨.Name x px,iter,[],0⟩,⟨.Name y py,iter2,[],0⟩] scope pos) it acc env):=by unfold TurnIs;rfl
theorem fin_post {e:Expr} {depth:Nat} {it acc:Value} {env:Env} {R:Result→Shared→Prop} {I:Nat→Shared→Prop} {m:Nat}:∀fin s',LoopPost e depth it acc env R I m fin s'→(match fin with|.done f=>R (.ok f) s'|.again c'=>c'=.compLoop e depth it acc env∧∃k,k<m∧I k s'):=fun fin s' h=>by cases fin<;>exact h
theorem loop_list {W:W0} {elt:Expr} {gens:List Comprehension} {scope:Scope} {pos:Pos} {depth:Nat} {it acc:Value} {env:Env}:Looper W A (.ListComp elt gens scope pos) depth it acc env:=
 fun R I turn m s h=>codeAny_loop rfl I (fun m s hI=>show wpAny _ _ ((compTurn (.ListComp elt gens scope pos) depth it acc env).onRaise (fun x=>do noteFrame x env;theTreesLotGoes x)) _ _ s from wpAny_noted (wpAny_mono (turn m s hI) fin_post NoE.imp)) m h
theorem loop_dict {W:W0} {kx vx:Expr} {gens:List Comprehension} {scope:Scope} {pos:Pos} {depth:Nat} {it acc:Value} {env:Env}:Looper W A (.DictComp kx vx gens scope pos) depth it acc env:=
 fun R I turn m s h=>codeAny_loop rfl I (fun m s hI=>show wpAny _ _ ((compTurn (.DictComp kx vx gens scope pos) depth it acc env).onRaise (fun x=>do noteFrame x env;theTreesLotGoes x)) _ _ s from wpAny_noted (wpAny_mono (turn m s hI) fin_post NoE.imp)) m h
theorem start_inner {elt:Expr} {g1 g2:Comprehension} {scope:Scope} {pos:Pos} {it acc:Value} {env:Env} {R:Result→Shared→Prop} (hg:g2.is_async=0)
  (h0:codeAny (model prog w) A (.compLoop (.ListComp elt [g1,g2] scope pos) 1 it acc env) R s)
  (h:wpAny (model prog w) A (pyIter it) (fun it' s'=>codeAny (model prog w) A (.compLoop (.ListComp elt [g1,g2] scope pos) 1 it' acc env) R s') NoE s):
  codeAny (model prog w) A (.compStart (.ListComp elt [g1,g2] scope pos) 1 it acc env) R s:=by
 obtain ⟨tg,ig,fg,ag⟩:=g2
 simp only at hg;subst hg
 refine codeAny_of_tree ?_
 show wpAny _ _ ((compStart (.ListComp elt [g1,⟨tg,ig,fg,0⟩] scope pos) 1 it acc env).onRaise (fun x=>do noteFrame x env;standAt theWindowsPlace)) _ _ s
 refine wpAny_notedAt ?_
 unfold compStart
 show wpAny _ _ (ask>>=_) _ _ s
 refine wpAny_bind (wpAny_askSetting (wpAny_ite ?_))
 split
 ·first
   |exact wpAny_bind (wpAny_pure (wpAny_pure (And.intro rfl h0)))
   |exact wpAny_pure (And.intro rfl h0)
 ·first
   |exact wpAny_bind (wpAny_rule (wpAny_bind (wpAny_standAt (wpAny_bind (wpAny_mono h (fun it' s' h'=>wpAny_pure (And.intro rfl h')) NoE.imp)))))
   |(refine wpAny_bind (wpAny_rule ?_);show wpAny _ _ (standAt ig.pos>>=_) _ _ s;exact wpAny_bind (wpAny_standAt (wpAny_bind (wpAny_mono h (fun it' s' h'=>wpAny_pure (And.intro rfl h')) NoE.imp))))
end
end
section
structure CompEnd (W:W0) (ρ:List Addr) (s:Shared) (mv:MV) (objs':List MO) (D C:Addr) (s':Shared):Prop where
 res:∃ρ',Ok W ρ s ρ' objs' s'∧VRel W ρ' s'.heap mv (.ref D)∧Loose W ρ' s'.heap C
 c0:s.heap.get? C=none
 cw:W.h0.get? C=none
 ns:∃m,s'.heap.Ns C m
structure CForm (W:W0) (A:Around) (e:Expr) (cs:Names) (ti:Nat) (Acc:Addr→Heap→List FV→Prop) (N:Addr→Addr→Env→Sem Fin) (step:Nat→FV→List MV→List MO→Option (List FV × List MV × List MO)) (newAcc:Sem Value) (o0:Obj):Prop where
 loop:∀it D cenv,Looper W A e 0 (.ref it) (.ref D) cenv
 turn:∀it D cenv,∃ip px,TurnIs e 0 (.ref it) (.ref D) cenv ip px (nm cs ti) (N it D cenv)
 start:∀it D cenv R s,codeAny (model W.prog W.w) A (.compLoop e 0 (.ref it) (.ref D) cenv) R s→wpAny (model W.prog W.w) A (pyIter (.ref it)) (fun it' s'=>codeAny (model W.prog W.w) A (.compLoop e 0 it' (.ref D) cenv) R s')
   (notedBy (model W.prog W.w) A cenv fun x s'=>R (.error x) s') s→codeAny (model W.prog W.w) A (.compStart e 0 (.ref it) (.ref D) cenv) R s
 step:∀{ρb sb cenv D it},AccOk W ρb sb cenv D (Acc D)→sb.heap.get? cenv.locals=none→∀itv vs oc ys vs' oc' s pre,step ρb.length itv vs oc=some (ys,vs',oc')→okTake ρb.length oc'=true→pre.length≤lenLim→CInv W ρb sb cenv cs (Acc D) s oc (vs.set ti (.fv itv)) pre→
   wpAny (model W.prog W.w) A (N it D cenv) (StepP W ρb sb cenv cs (Acc D) D (.compLoop e 0 (.ref it) (.ref D) cenv) (oc'.take ρb.length) vs' (pre++ys) s) NoE s
 new:∀(s:Shared) (Q:Value→Shared→Prop),Q (.ref s.heap.objs.size) {s with heap:=s.heap.push o0}→wpAny (model W.prog W.w) A newAcc Q NoE s
 freed:o0.isFreed=false
 acc:∀{sb ρb env D},sb.heap.get? D=none→W.h0.get? D=none→D∉ownOf env→D∉ρb→AccOk W ρb sb env D (Acc D)
 acc0:∀(h:Heap) (D:Addr),h.get? D=some o0→Acc D h []
section
variable {W:W0} {d:Nat} {ns:Names} {T:Tbl} {A:Around} {ρ ρ1:List Addr} {s s1 s4:Shared} {objs o1 oc' objs':List MO} {mv:MV} {rs:List Nat} {full ysF:List FV} {mo:MO} {cs:Names} {caps:List (Option Nat)} {ti:Nat} {e:Expr}
 {newAcc:Sem Value} {use:Option (Value→Sem Unit)} {Q:Value→Shared→Prop} {o0:Obj} {Acc:Addr→Heap→List FV→Prop} {N:Addr→Addr→Env→Sem Fin} {step:Nat→FV→List MV→List MO→Option (List FV × List MV × List MO)}
theorem relabel_kind (sc:Scope) (env:Env):(relabel sc env).kind=sc.kind:=rfl
theorem own_locals {env:Env}:env.locals∈ownOf env:=.head _
theorem nm_at {i:Nat} {x:Str} {k:NameKind} (e:ns[i]?=some (x,k)):nm ns i=x:=by
 show ((ns.map (·.1))).getD i default=x
 rw [List.getD_eq_getElem?_getD,List.getElem?_map,e];rfl
theorem comp_rest (hA:A.handled=none) (F:CForm W A e cs ti Acc N step newAcc o0) {cenv:Env} {D it:Addr} {xv:Value} {src:MV} {orig:Option MO} {vs0 vsF:List MV} {x:Str} (hx:cs[ti]?=some (x,.local)) (hxh:x≠ "_headers") (K1:Ok W ρ s ρ1 o1 s1) (nd:rs.Nodup) (hc:closed rs o1=true)
  (AO:AccOk W (prt ρ1 rs) s1 cenv D (Acc D)) (I4:CInv W (prt ρ1 rs) s1 cenv cs (Acc D) s4 (pick rs o1) vs0 []) (rb:VRel W (prt ρ1 rs) s1.heap src xv) (hdx:∀d es,xv=.ref d→orig=some (.dict es)→∃o,s1.heap.get? d=some o∧o.cls=.type "dict")
  (N0:ItNew W (prt ρ1 rs) s1 cenv D it) (hit:ItIs W s4.heap xv full orig 0 it) (hC:s1.heap.get? cenv.locals=none) (hrun:compTurns rs.length (step rs.length) src orig full vs0 (pick rs o1) []=some (ysF,vsF,oc')) (hout:compOut rs oc' o1 mo=some (mv,objs'))
  (hobj:∀(ρ':List Addr) (h:Heap),Acc D h ysF→ObjIs W ρ' h D mo) (fin:∀s',CompEnd W ρ s mv objs' D cenv.locals s'→compPost (model W.prog W.w) A NoE use Q (.ref D) cenv.locals (.ok .next) s'):
  codeAny (model W.prog W.w) A (.compStart e 0 (.ref it) (.ref D) cenv) (compPost (model W.prog W.w) A NoE use Q (.ref D) cenv.locals) s4:=by
 have hlen:(prt ρ1 rs).length=rs.length:=List.length_map _
 obtain ⟨ip,px,hT⟩:=F.turn it D cenv
 have loop:=comp_loop hA (n:=rs.length) (pre:=[]) (full:=full) AO hC hx hxh rb hdx (F.loop it D cenv) (nm_at hx▸hT) (Nat.zero_le _)
  (fun itv vs oc ys vs' oc' s pre' a1 a2 a3 a5=>by
   rw [←hlen] at a1 a2 ⊢
   exact F.step AO hC itv vs oc ys vs' oc' s pre' a1 a2 (Nat.zero_add lenLim▸a3) a5) N0 hrun I4 hit
 refine codeAny_mono (F.start it D cenv _ _ loop (iter_again hit loop)) (fun r s' P=>?_)
 cases P with
 |mk I5 _=>
 refine fin s' ?_
 have R1:=K1.rel
 unfold compOut at hout
 cases hos:putBack rs oc' o1 with
 |none=>rw [hos] at hout;exact non hout
 |some os=>
 rw [hos] at hout
 obtain ⟨rfl,rfl⟩:=Prod.mk.inj (Option.some.inj hout)
 have L:=I5.fr.looseL
 have hDC:cenv.locals≠D:=fun h=>AO.dC (h▸own_locals)
 refine ⟨⟨_,K1.trans (Ok.backNew R1 nd hc I5.ok hos AO.d0 AO.dw (hobj (ρ1++[D]) _ I5.acc)),⟨D,?_,rfl⟩,fun hm=>?_,L.imm,L.dx⟩,fresh_back K1.step K1.grows R1 hC,(I5.fr.apart _ own_locals).2.1,I5.fr.loc.imp fun _ h=>h.1⟩
 ·rw [(back_get hos).1,←R1.len,List.getElem?_append_right (Nat.le_refl _),Nat.sub_self];rfl
 ·exact (List.mem_append.mp hm).elim (fun h=>(R1.alive h).elim fun _ ho=>dead ho hC) fun h=>hDC (List.mem_singleton.mp h)
theorem comp_core {env:Env} {vars vsF:List MV} {x:MV} {iter:X} {g:Comprehension} {gs:List Comprehension} {pos:Pos} (WK:WOk W) (CF:CForm W A e cs ti Acc N step newAcc o0)
  (rm:Room (d+8) A) (F:FR W env ns vars ρ s.heap) (R:ORel W ρ objs s.heap) (hiter:SX W d ns iter (ev T iter)) (hev:ev T iter vars objs=some (x,o1)) (hin:compIn vars caps x o1=some (rs,full)) (hco:compOk ns cs caps ti=true)
  (hrun:compTurns rs.length (step rs.length) (renum rs x) (origOf (renum rs x) (pick rs o1)) full ((capsOf vars caps).map (renum rs)) (pick rs o1) []=some (ysF,vsF,oc')) (hout:compOut rs oc' o1 mo=some (mv,objs'))
  (hcl:clausesOf e=g::gs) (hg:g.iter=iter.dec ns) (hobj:∀(ρ':List Addr) (h:Heap) (D:Addr),Acc D h ysF→ObjIs W ρ' h D mo)
  (fin:∀(C D:Addr) (s':Shared),CompEnd W ρ s mv objs' D C s'→compPost (model W.prog W.w) A NoE use Q (.ref D) C (.ok .next) s'):
  wpAny (model W.prog W.w) A (comprehension e (scopeOf cs) env pos newAcc false (eval (iter.dec ns) env) use) Q NoE s:=by
 have C:=CompOk.of hco
 have hfree:=C.free F
 refine ifk hin fun hcond hin=>mapk hin fun full' hsrc hq=>?_
 obtain ⟨rfl,rfl⟩:=Prod.mk.inj hq
 obtain ⟨h1,hxe⟩:=and2 hcond
 obtain ⟨hc,hne⟩:=and2 h1
 have hr:∀i,.ref i∈x::capsOf vars caps→i∈rootsOf (x::capsOf vars caps) o1:=fun i=>roots_mem
 have nd:(rootsOf (x::capsOf vars caps) o1).Nodup:=dedup_nodup _
 generalize rootsOf (x::capsOf vars caps) o1=rs at*
 refine wpAny_comprehension_free (use:=use) (cl:=clFold env cs []) hcl (fun v=>by rw [hg];exact fold_dec ns env iter v) (clos_ok env cs hfree) rfl
  (fun y hy hk=>(List.mem_iff_getElem?.mp hy).elim fun j hj=>lookup_nodup C.nodup (Eq.trans hj (congrArg some (Prod.ext rfl hk)))) (seqE (hiter _ _ _ _ hev A env s ρ rm F R) fun ρ1 s1 xv K1 r1=>?_)
 have F1:=F.ok R K1
 have R1:=K1.rel
 have Rb:=R1.part nd hc
 have rb:VRel W (prt ρ1 rs) s1.heap (renum rs x) xv:=VRel.part R1 hc (fun i hi=>hr i (hi▸.head _)) r1
 refine wpAny_mono (iter_ok WK hsrc Rb rb) (fun itv s2 P2=>?_) NoE.imp
 cases P2 with
 | @mk it h2 hit0 k2 hit=>
 refine CF.new _ _ ?_
 have hD1:s1.heap.get? h2.objs.size=none:=back_none (k2 _) (fresh_size _)
 have k3:∀a o,s1.heap.get? a=some o→(h2.push o0).get? a=some o:=fun a o e=>getpush (k2 a o e)
 have hC1:s1.heap.get? (h2.push o0).objs.size=none:=back_none (k3 _) (fresh_size _)
 refine wpAny_newFunctionEnv (scope:=scopeOf cs) (fun y hy hk=>(List.mem_iff_getElem?.mp hy).elim fun j hj=>?_) (fun y hy=>nomatch hy) (fun h4 hns hsb=>?_) rfl
 ·rcases C.cap (Eq.trans hj (congrArg some (Prod.ext rfl hk)):cs[j]?=some (y.1,.cell)) with ⟨_,h⟩|⟨_,_,_,h,_⟩
  ·rcases h with h|h<;>cases h
  ·cases h
 dsimp only at hns hsb ⊢
 have k4:∀a o,(h2.push o0).get? a=some o→h4.get? a=some o:=fun a o e=>hsb.extBut a o (fun h=>dead (h▸e) (fresh_size _)) (getpush e)
 have FC:=FR.comp F1 R1 C hc (fun i hm=>hr i (.tail _ hm)) hC1 hns fun a o e=>k4 a o (k3 a o e)
 have notOwn:∀a,s1.heap.get? a=none→a≠(h2.push o0).objs.size→a∉ownOf (compEnvC (scopeOf cs) (clFold env cs []) (h2.push o0).objs.size env):=fun a h hne' hm=>
  (List.mem_cons.mp hm).elim hne' fun h'=>by
   obtain ⟨⟨y,c⟩,hm',rfl⟩:=List.mem_map.mp h'
   exact (F1.apart c (.tail _ (mem_of_lookup (clFold_sub env cs [] hfree (fun _ _ h=>nomatch h) y c hm')))).2.2.elim fun o ho=>dead ho h
 have notIn:∀a,s1.heap.get? a=none→a∉prt ρ1 rs:=fun a h hm=>(R1.alive (part_sub R1 hc hm)).elim fun o ho=>dead ho h
 have hDC:h2.objs.size≠(h2.push o0).objs.size:=Heap.size_push .. ▸Nat.ne_of_lt (Nat.lt_succ_self _)
 obtain ⟨oi,ei,_⟩:=hit.obj
 refine comp_rest rm.quiet CF C.ti.choose_spec (fun h=>nomatch (C.plain _ (List.mem_of_getElem? C.ti.choose_spec)).2.symm.trans (beq_iff_eq.mpr h)) K1 nd hc (CF.acc hD1 (R1.h0 hD1) (notOwn _ hD1 hDC) (notIn _ hD1))
  ⟨Ok.keepAll Rb (fun a o e=>k4 a o (k3 a o e)) _,FC,CF.acc0 _ _ (k4 _ _ (Heap.get?_push_size _ CF.freed)),fun v hv=>?_⟩ rb (fun dd es e1 e2=>?_)
  ⟨hit0,R1.h0 hit0,notIn _ hit0,fun h=>dead (h▸ei) (fresh_size h2),notOwn _ hit0 fun h=>dead (h▸getpush (o':=o0) ei) (fresh_size _)⟩ (hit.keep (fun o e=>k4 _ _ (getpush e)) (keepImm_of fun a o e=>k4 _ _ (getpush e)) (fun dd es o _ _ e=>k4 _ _ (getpush e))) hC1 hrun hout (fun ρ' h=>hobj ρ' h _) (fin _ _)
 ·obtain ⟨u,hu,rfl⟩:=List.mem_map.mp hv
  cases u with
  |edict=>exact nomatch (show (!true)=true from List.contains_iff_mem.mpr hu▸hne)
  |_=>exact fun h=>nomatch h
 ·generalize renum rs x=z at e2 rb
  cases z with
  |ref j=>
   obtain ⟨a,ha,rfl⟩:=rb
   cases e1
   obtain ⟨o,kvs,go,⟨es',ep,hc',_⟩,_⟩:=Rb.objs j _ _ e2 ha
   exact ⟨o,go,hc'.1⟩
  |_=>cases e2
theorem compEnd_post {A:Around} {ρ:List Addr} {s s':Shared} {mv:MV} {objs':List MO} {C D:Addr} (h:CompEnd W ρ s mv objs' D C s') (hm:mv≠.edict):compPost (model W.prog W.w) A NoE none (PostE W ρ s mv objs') (.ref D) C (.ok .next) s':=by
 obtain ⟨⟨ρ',K,r,L⟩,c0,cw,m,hn⟩:=h
 refine ⟨m,hn,fun h' hs=>?_⟩
 have k:∀b o,b≠C→s'.heap.get? b=some o→h'.get? b=some o:=fun b o hb e=>(hs.2 b hb).trans e
 exact ⟨ρ',K.touch c0 cw L k s'.toks,VRel.touch L k (fun h=>absurd h hm) r⟩
end
end
section
section
variable {W:W0} {d:Nat} {ns:Names} {T:Tbl}
theorem newList_ok {A:Around} (s:Shared) (Q:Value→Shared→Prop) (h:Q (.ref s.heap.objs.size) {s with heap:=s.heap.push {cls:=.type "list",data:=.seq #[]}}):wpAny (model W.prog W.w) A (newList []) Q NoE s:=
 wpAny_newObj_type (by simpa using h) (by show 0≤sizeLine;exact Nat.zero_le _)
theorem newDict_ok {A:Around} (s:Shared) (Q:Value→Shared→Prop) (h:Q (.ref s.heap.objs.size) {s with heap:=s.heap.push {cls:=.type "dict",data:=.dict #[]}}):wpAny (model W.prog W.w) A newDict Q NoE s:=by
 unfold newDict
 exact wpAny_newObj_type h (by show 0≤sizeLine+1;exact Nat.zero_le _)
theorem accL0 (h:Heap) (D:Addr) (e:h.get? D=some {cls:=.type "list",data:=.seq #[]}):AccL D h []:=⟨#[],0,e,.nil⟩
theorem accD0 (h:Heap) (D:Addr) (e:h.get? D=some {cls:=.type "dict",data:=.dict #[]}):AccD W D h []:=
 ⟨[],[],rfl,⟨_,#[],0,e,⟨rfl,rfl,rfl⟩,rfl,fun _ he=>(Array.not_mem_empty _ he).elim,.nil,List.nodup_nil⟩,Nat.le_refl _,fun _=>.nil⟩
theorem obj_list {ρ':List Addr} {h:Heap} {D:Addr} {ys:List FV} (x:AccL D h ys):ObjIs W ρ' h D (.list ys):=x
theorem pairs?_is {xs:List FV}:∀{es:List (Int × FV)},pairs? xs=some es→xs=es.map fun p=>.pair (.int p.1) p.2:=by
 induction xs with
 |nil=>exact fun e=>Option.some.inj e▸rfl
 |cons x r ih=>
  intro es e
  cases x with
  |pair a b=>cases a with
   |int i=>exact mapk e fun ms e q=>q▸congrArg (FV.pair (.int i) b:: ·) (ih e)
   |_=>exact non e
  |_=>exact non e
theorem pairs_inj {es:List (Int × FV)}:∀{fs:List (Int × FV)},es.map (fun p=>FV.pair (.int p.1) p.2)=fs.map (fun p=>FV.pair (.int p.1) p.2)→es=fs:=by
 induction es with
 |nil=>intro fs h;cases fs with|nil=>rfl|cons _ _=>cases h
 |cons p r ih=>
  intro fs h
  cases fs with
  |nil=>cases h
  |cons q t=>
   obtain ⟨h1,h2⟩:=List.cons.inj h
   obtain ⟨h3,h4⟩:=FV.pair.inj h1
   rw [ih h2,show p=q from Prod.ext (FV.int.inj h3) h4]
theorem optEk {γ:Type} {G:Prop} {r:γ} {x:Option (List (Int × FV))} {f:List (Int × FV)→Option γ} (h:(match x with|some ys=>f ys|none=>none)=some r) (k:∀a,x=some a→f a=some r→G):G:=by
 cases x with|none=>exact non h|some p=>exact k _ rfl h
theorem obj_dict {ρ':List Addr} {h:Heap} {D:Addr} {ys:List FV} {es:List (Int × FV)} (e:dictOf? ys=some es) (x:AccD W D h ys):ObjIs W ρ' h D (.dict es):=
 optEk e fun es' h1 e=>ifk e fun hnd e=>by
  obtain rfl:=Option.some.inj e
  obtain ⟨es2,kvs,h2,hD,_,al⟩:=x
  obtain rfl:=pairs_inj ((pairs?_is h1).symm.trans h2)
  obtain ⟨o,g,r⟩:=Heap.dictOf_iff.mp hD
  exact ⟨o,kvs,g,r,al hnd⟩
noncomputable def step1 (T:Tbl) (elt cond:X) (ti:Nat):FV→List MV→List MO→Option (List FV × List MV × List MO):=fun it vs os=>
 match (if cond.isNo then some (true,os) else evT T cond (ev T cond (vs.set ti (.fv it)) os) (vs.set ti (.fv it)) os) with
 |some (true,os1)=>match ev T elt (vs.set ti (.fv it)) os1 with
  |some (.fv y,os2)=>some ([y],vs.set ti (.fv it),os2)
  |_=>none
 |some (false,os1)=>some ([],vs.set ti (.fv it),os1)
 |none=>none
noncomputable def stepD (T:Tbl) (key val:X) (ti:Nat):FV→List MV→List MO→Option (List FV × List MV × List MO):=fun it vs os=>
 match ev T key (vs.set ti (.fv it)) os with
 |some (.fv (.int k),os1)=>match ev T val (vs.set ti (.fv it)) os1 with
  |some (.fv y,os2)=>some ([.pair (.int k) y],vs.set ti (.fv it),os2)
  |_=>none
 |_=>none
noncomputable def stepI (T:Tbl) (elt:X) (tj:Nat):FV→List MV→List MO→Option (List FV × List MV × List MO):=fun it2 ws os2=>
 match ev T elt (ws.set tj (.fv it2)) os2 with
 |some (.fv y,os3)=>some ([y],ws.set tj (.fv it2),os3)
 |_=>none
noncomputable def stepO (T:Tbl) (elt:X) (ti:Nat) (iter2:X) (tj n:Nat):FV→List MV→List MO→Option (List FV × List MV × List MO):=fun it vs os=>
 match ev T iter2 (vs.set ti (.fv it)) os with
 |some (.fv (.str s),os1)=>match srcItems (.fv (.str s)) os1 with
  |some full2=>if okTake n os1 then compTurns n (stepI T elt tj) (.fv (.str s)) none full2 (vs.set ti (.fv it)) (os1.take n) [] else none
  |none=>none
 |_=>none
section
variable {ρb:List Addr} {sb:Shared} {cenv:Env} {cs:Names} {D it:Addr} {A:Around} {c:Code} {elt cond:X} {ti:Nat} {e:Expr} {itv:FV} {vs vs':List MV} {oc oc':List MO} {ys pre:List FV} {s s1:Shared}
theorem kept2 {a b:Addr} {l:List Addr} (h:∀x∈l,x=a):∀x∈l,x∈[a,b]:=fun x m=>h x m▸.head _
theorem inj3 {α β γ:Type} {a a':α} {b b':β} {c c':γ} (h:some (a,b,c)=some (a',b',c')):a=a'∧b=b'∧c=c':=
 ⟨congrArg Prod.fst (Option.some.inj h),congrArg (·.2.1) (Option.some.inj h),congrArg (·.2.2) (Option.some.inj h)⟩
theorem elt_ok {ρ1:List Addr} {os os2:List MO} {y:FV} {Q:Fin→Shared→Prop} {r:Fin} (AO:AccOk W ρb sb cenv D (AccL D)) (rm:Room (d+8) A) (helt:SX W d cs elt (ev T elt))
  (I:CInv W ρb sb cenv cs (AccL D) s oc vs pre) (K1:Ok W ρb s ρ1 os s1) (he:ev T elt vs os=some (.fv y,os2)) (ht:okTake ρb.length os2=true) (hl:pre.length≤2*lenLim)
  (hQ:∀s',CInv W ρb sb cenv cs (AccL D) s' (os2.take ρb.length) vs (pre++[y])→Kept ρb [D,cenv.locals] s s'→Q r s'):
  wpAny (model W.prog W.w) A (eval (elt.dec cs) cenv) (fun x s₄=>wpAny (model W.prog W.w) A (call (.builtin "list.append") [.ref D,x]) (fun _ s₅=>Q r s₅) NoE s₄) NoE s1:=
 seqE (helt _ _ _ _ he A cenv s1 ρ1 rm (I.fr.ok I.ok.rel K1) K1.rel) fun ρ4 s4 v K4 r4=>
  (I.after AO ((K1.trans K4).take ht)).elim fun I4 k4=>wpAny_mono (append_ok AO I4 r4 hl) (fun _ s5 P=>hQ s5 P.1 ((k4.trans P.2).mono (kept2 fun _=>List.mem_singleton.mp))) NoE.imp
theorem hstep1 (AO:AccOk W ρb sb cenv D (AccL D)) (rm:Room (d+8) A) (helt:SX W d cs elt (ev T elt)) (hcond:ST W d cs cond fun vars objs=>evT T cond (ev T cond vars objs) vars objs)
  (hst:step1 T elt cond ti itv vs oc=some (ys,vs',oc')) (ht:okTake ρb.length oc'=true) (hl:pre.length≤2*lenLim) (I:CInv W ρb sb cenv cs (AccL D) s oc (vs.set ti (.fv itv)) pre):
  wpAny (model W.prog W.w) A (listN (elt.dec cs) (if cond.isNo then [] else [cond.dec cs]) e (.ref it) (.ref D) cenv) (StepP W ρb sb cenv cs (AccL D) D (.compLoop e 0 (.ref it) (.ref D) cenv) (oc'.take ρb.length) vs' (pre++ys) s) NoE s:=by
 refine listN_ok ?_
 have yes:∀{ρ1 s1 os1},Ok W ρb s ρ1 os1 s1→(match ev T elt (vs.set ti (.fv itv)) os1 with|some (.fv y,os2)=>some ([y],vs.set ti (.fv itv),os2)|_=>none)=some (ys,vs',oc')→
   wpAny (model W.prog W.w) A (eval (elt.dec cs) cenv) (fun x s₄=>wpAny (model W.prog W.w) A (call (.builtin "list.append") [.ref D,x]) (fun _ s₅=>StepP W ρb sb cenv cs (AccL D) D (.compLoop e 0 (.ref it) (.ref D) cenv) (oc'.take ρb.length) vs' (pre++ys) s (.again (.compLoop e 0 (.ref it) (.ref D) cenv)) s₅) NoE s₄) NoE s1:=
  fun K1 hst=>optFk hst fun y os2 he hst=>by
   obtain ⟨rfl,rfl,rfl⟩:=inj3 hst
   exact elt_ok AO rm helt I K1 he ht hl fun s' h1 h2=>⟨h1,h2⟩
 unfold step1 at hst
 cases hno:cond.isNo with
 |true=>
  rw [hno] at hst
  exact wpAny_tests_nil (yes (Ok.refl I.ok.rel) hst)
 |false=>
  rw [hno] at hst
  refine wpAny_tests_one (optBk hst (fun os1 h1 hst=>?_) fun os1 h1 hst=>?_)
  ·exact seqB (hcond _ _ _ _ h1 A cenv s ρb rm I.fr I.ok.rel) fun ρ1 s1 K1=>yes K1 hst
  ·obtain ⟨rfl,rfl,rfl⟩:=inj3 hst
   exact seqB (hcond _ _ _ _ h1 A cenv s ρb rm I.fr I.ok.rel) fun ρ1 s1 K1=>(I.after AO (K1.take ht)).elim fun I4 k4=>⟨(List.append_nil pre).symm▸I4,k4.mono fun _ m=>nomatch m⟩
theorem hstepD {key val:X} (AO:AccOk W ρb sb cenv D (AccD W D)) (rm:Room (d+8) A) (hkey:SX W d cs key (ev T key)) (hval:SX W d cs val (ev T val))
  (hst:stepD T key val ti itv vs oc=some (ys,vs',oc')) (ht:okTake ρb.length oc'=true) (hl:pre.length≤2*lenLim) (I:CInv W ρb sb cenv cs (AccD W D) s oc (vs.set ti (.fv itv)) pre):
  wpAny (model W.prog W.w) A (dictN (key.dec cs) (val.dec cs) e (.ref it) D cenv) (StepP W ρb sb cenv cs (AccD W D) D (.compLoop e 0 (.ref it) (.ref D) cenv) (oc'.take ρb.length) vs' (pre++ys) s) NoE s:=
 optIk hst fun k os1 h1 hst=>optFk hst fun y os2 h2 hst=>by
  obtain ⟨rfl,rfl,rfl⟩:=inj3 hst
  refine dictN_ok (seqE (hkey _ _ _ _ h1 A cenv s ρb rm I.fr I.ok.rel) fun ρ1 s1 v K1 r1=>seqE (hval _ _ _ _ h2 A cenv s1 ρ1 rm (I.fr.ok I.ok.rel K1) K1.rel) fun ρ4 s4 u K4 r4=>?_)
  obtain ⟨t,rfl⟩:=r1
  obtain ⟨I4,k4⟩:=I.after AO ((K1.trans K4).take ht)
  exact wpAny_mono (dictset_ok AO I4 r4 hl) (fun _ s5 P=>⟨P.1,(k4.trans P.2).mono (kept2 fun _=>List.mem_singleton.mp)⟩) NoE.imp
theorem hstepI (AO:AccOk W ρb sb cenv D (AccL D)) (rm:Room (d+8) A) (helt:SX W d cs elt (ev T elt))
  (hst:stepI T elt ti itv vs oc=some (ys,vs',oc')) (ht:okTake ρb.length oc'=true) (hl:pre.length≤2*lenLim) (I:CInv W ρb sb cenv cs (AccL D) s oc (vs.set ti (.fv itv)) pre):
  wpAny (model W.prog W.w) A (innerN (elt.dec cs) e (.ref it) (.ref D) cenv) (StepP W ρb sb cenv cs (AccL D) D (.compLoop e 1 (.ref it) (.ref D) cenv) (oc'.take ρb.length) vs' (pre++ys) s) NoE s:=
 optFk hst fun y os2 he hst=>by
  obtain ⟨rfl,rfl,rfl⟩:=inj3 hst
  exact wpAny_bind (wpAny_bind (wpAny_mono (elt_ok (Q:=StepP W ρb sb cenv cs (AccL D) D (.compLoop e 1 (.ref it) (.ref D) cenv) _ _ _ s) AO rm helt I (Ok.refl I.ok.rel) he ht hl fun s' h1 h2=>⟨h1,h2⟩)
   (fun v s4 P=>wpAny_bind (wpAny_mono P (fun _ s5 h=>wpAny_pure (wpAny_pure h)) NoE.imp)) NoE.imp))
theorem hstepO {iter2:X} {tj:Nat} {x y:Str} {px py pos:Pos} {iterE:Expr} {scope:Scope} (he:e=.ListComp (elt.dec cs) [⟨.Name x px,iterE,[],0⟩,⟨.Name y py,iter2.dec cs,[],0⟩] scope pos) (WK:WOk W) (AO:AccOk W ρb sb cenv D (AccL D)) (C0:sb.heap.get? cenv.locals=none) (rm:Room (d+8) A) (helt:SX W d cs elt (ev T elt)) (hiter2:SX W d cs iter2 (ev T iter2))
  (hy:cs[tj]?=some (y,.local)) (hyh:y≠ "_headers") (hst:stepO T elt ti iter2 tj ρb.length itv vs oc=some (ys,vs',oc')) (hl:pre.length≤lenLim) (I:CInv W ρb sb cenv cs (AccL D) s oc (vs.set ti (.fv itv)) pre):
  wpAny (model W.prog W.w) A (outerN (iter2.dec cs) e (.ref it) (.ref D) cenv) (StepP W ρb sb cenv cs (AccL D) D (.compLoop e 0 (.ref it) (.ref D) cenv) (oc'.take ρb.length) vs' (pre++ys) s) NoE s:=
 optSk hst fun l os1 h1 hst=>opt1k hst fun full2 h2 hst=>ifk hst fun ht hst=>by
  refine wpAny_bind (seqE (hiter2 _ _ _ _ h1 A cenv s ρb rm I.fr I.ok.rel) fun ρ3 s3 v K3 r3=>?_)
  obtain ⟨I3,k3⟩:=I.after AO (K3.take ht)
  refine wpAny_bind (wpAny_standAt (wpAny_bind (wpAny_of_eq (fold_dec cs cenv iter2 v) ?_)))
  have hsrc:srcItems (.fv (.str l)) (os1.take ρb.length)=some full2:=h2
  have rb:VRel W ρb s3.heap (.fv (.str l)) v:=r3
  refine wpAny_bind (wpAny_holding (wpAny_mono (iter_ok WK hsrc I3.ok.rel rb) (fun itv2 s4 P=>?_) NoE.imp))
  cases P with
  | @mk it2 h4 hit0 k4 hit=>
  obtain ⟨I4,k4'⟩:=I3.after AO (Ok.keepAll I3.ok.rel k4 s3.toks)
  have loop:=comp_loop (A:=A) rm.quiet (e:=e) (depth:=1) (n:=ρb.length) (acc:=.ref D) (it:=it2) (pre:=pre) (full:=full2) (orig:=none) (src:=.fv (.str l)) (step:=stepI T elt tj)
   AO C0 hy hyh (show VRel W ρb sb.heap (.fv (.str l)) v from r3) (fun dd es _ h=>nomatch h) (he▸loop_list) (he▸turn_inner _ _ _ _ _ _ _ _ _ _ _ _) hl
   (fun itv vs oc ys vs' oc' s pre' h1 h2 h3 h5=>hstepI AO rm helt h1 h2 (Nat.le_trans h3 (Nat.le_trans (Nat.add_le_add_right hl _) (Nat.le_of_eq (Nat.two_mul _).symm))) h5)
   ⟨fresh_back I3.ok.step I3.ok.grows I3.ok.rel hit0,I3.ok.rel.h0 hit0,fun hm=>(I3.ok.rel.alive hm).elim fun _ ho=>dead ho hit0,fun h=>I3.acc.elim fun _ q=>q.elim fun _ q=>dead q.1 (h▸hit0),fun hm=>(I3.fr.apart _ hm).2.2.elim fun _ ho=>dead ho hit0⟩ hst I4 hit
  refine wpAny_bind (wpAny_runOwn (codeAny_mono (he▸start_inner rfl (he▸loop) (he▸iter_again hit loop)) fun r s' P=>?_))
  cases P with
  |mk I5 k5=>
  refine wpAny_pure ⟨?_,fun b o e hb hn=>?_⟩
  ·rw [List.take_of_length_le (by rw [←I5.ok.rel.len];exact Nat.le_refl _)];exact I5
  ·have e3:=k3 b o e hb (fun h=>nomatch h)
   have n1:=nin hn
   exact k5 b o (k4 b o e3) hb fun m=>(List.mem_cons.mp m).elim n1.1 fun m=>(List.mem_cons.mp m).elim (nin n1.2).1 fun m=>dead e3 (List.mem_singleton.mp m▸hit0)
end
end
end
section
noncomputable def X.cv:X→Option (Names × Sem Value × X)
 |.comp _ _ i _ nn _ _ _=>some (nn,newList [],i)
 |.comp2 _ _ i _ _ nn _ _ _ _=>some (nn,newList [],i)
 |.dcomp _ _ _ i nn _ _ _=>some (nn,newDict,i)
 |_=>none
noncomputable def SU (W:W0) (d:Nat) (ns:Names) (x:X) (run:List MV→List MO→Option (MV × List MO)):Prop:=
 ∀(c:Names × Sem Value × X),x.cv=some c→∀(vars:List MV) (objs:List MO) (mv:MV) (objs':List MO),run vars objs=some (mv,objs')→∀(A:Around) (env:Env) (s:Shared) (ρ:List Addr),Room (d+8) A→FR W env ns vars ρ s.heap→ORel W ρ objs s.heap→
  (∃i,mv=.ref i)∧∀(pos:Pos) (use:Option (Value→Sem Unit)) (Q:Value→Shared→Prop),(∀(C D:Addr) (s':Shared),CompEnd W ρ s mv objs' D C s'→compPost (model W.prog W.w) A NoE use Q (.ref D) C (.ok .next) s')→
   wpAny (model W.prog W.w) A (comprehension (x.dec ns) (scopeOf c.1) env pos c.2.1 false (eval (c.2.2.dec ns) env) use) Q NoE s
section
variable {W:W0} {d:Nat} {ns:Names} {T:Tbl} {A:Around} {elt iter cond iter2 key val:X} {ti tj:Nat} {cs:Names} {caps:List (Option Nat)} {pt pt2 p:Pos}
theorem compOut_ref {rs:List Nat} {oc o1 objs':List MO} {mo:MO} {mv:MV} (h:compOut rs oc o1 mo=some (mv,objs')):∃i,mv=.ref i:=by
 unfold compOut at h
 cases e:putBack rs oc o1 with
 |none=>rw [e] at h;exact non h
 |some os=>rw [e] at h;exact ⟨_,(congrArg Prod.fst (Option.some.inj h)).symm⟩
theorem two_lim {n:Nat} (h:n≤lenLim):n≤2*lenLim:=Nat.le_trans h (by decide)
theorem form_list {e:Expr} {step:Nat→FV→List MV→List MO→Option (List FV × List MV × List MO)} {N:Addr→Addr→Env→Sem Fin} (loop:∀it D cenv,Looper W A e 0 (.ref it) (.ref D) cenv) (turn:∀it D cenv,∃ip px,TurnIs e 0 (.ref it) (.ref D) cenv ip px (nm cs ti) (N it D cenv))
  (start:∀it D cenv R s,codeAny (model W.prog W.w) A (.compLoop e 0 (.ref it) (.ref D) cenv) R s→wpAny (model W.prog W.w) A (pyIter (.ref it)) (fun it' s'=>codeAny (model W.prog W.w) A (.compLoop e 0 it' (.ref D) cenv) R s')
   (notedBy (model W.prog W.w) A cenv fun x s'=>R (.error x) s') s→codeAny (model W.prog W.w) A (.compStart e 0 (.ref it) (.ref D) cenv) R s)
  (hs:∀{ρb sb cenv D it},AccOk W ρb sb cenv D (AccL D)→sb.heap.get? cenv.locals=none→∀itv vs oc ys vs' oc' s pre,step ρb.length itv vs oc=some (ys,vs',oc')→okTake ρb.length oc'=true→pre.length≤lenLim→CInv W ρb sb cenv cs (AccL D) s oc (vs.set ti (.fv itv)) pre→
   wpAny (model W.prog W.w) A (N it D cenv) (StepP W ρb sb cenv cs (AccL D) D (.compLoop e 0 (.ref it) (.ref D) cenv) (oc'.take ρb.length) vs' (pre++ys) s) NoE s):
  CForm W A e cs ti AccL N step (newList []) {cls:=.type "list",data:=.seq #[]}:=
 ⟨loop,turn,start,hs,newList_ok,rfl,accL,accL0⟩
theorem su_comp (WK:WOk W) (hco:compOk ns cs caps ti=true) (hiter:SX W d ns iter (ev T iter)) (helt:SX W d cs elt (ev T elt))
  (hcond:ST W d cs cond fun vars objs=>evT T cond (ev T cond vars objs) vars objs):SU W d ns (.comp elt ti iter cond cs caps pt p) (ev T (.comp elt ti iter cond cs caps pt p)):=by
 rintro c hc vars objs mv objs' e A env s ρ rm F R
 obtain rfl:=Option.some.inj hc
 refine opt2k e fun x o1 h1 e=>optCk e fun rs full h2 e=>opt3k e fun ys vsF oc' h3 e=>⟨compOut_ref e,fun pos use Q fin=>?_⟩
 exact comp_core WK (form_list (step:=fun _=>step1 T elt cond ti) (N:=fun it D cenv=>listN _ _ _ _ _ _) (fun _ _ _=>loop_list) (fun _ _ _=>⟨_,_,turn_list _ _ _ _ _ _ _ _ _ _⟩) (fun _ _ _ _ _=>codeAny_compStart_list) fun AO _ _ _ _ _ _ _ _ _ h1 h2 h3=>hstep1 AO rm helt hcond h1 h2 (two_lim h3))
  rm F R hiter h1 h2 hco h3 e rfl rfl (fun _ _ _ x=>obj_list x) fin
theorem su_comp2 (WK:WOk W) (hco:compOk ns cs caps ti=true) (hco2:compOk ns cs caps tj=true) (hiter:SX W d ns iter (ev T iter)) (helt:SX W d cs elt (ev T elt))
  (hiter2:SX W d cs iter2 (ev T iter2)):SU W d ns (.comp2 elt ti iter tj iter2 cs caps pt pt2 p) (ev T (.comp2 elt ti iter tj iter2 cs caps pt pt2 p)):=by
 rintro c hc vars objs mv objs' e A env s ρ rm F R
 obtain rfl:=Option.some.inj hc
 have C:=CompOk.of hco2
 obtain ⟨y,hy⟩:=C.ti
 have hyh:nm cs tj≠ "_headers" :=fun h=>nomatch (C.plain _ (List.mem_of_getElem? hy)).2.symm.trans (beq_iff_eq.mpr ((nm_at hy).symm.trans h))
 refine opt2k e fun x o1 h1 e=>optCk e fun rs full h2 e=>opt3k e fun ys vsF oc' h3 e=>⟨compOut_ref e,fun pos use Q fin=>?_⟩
 exact comp_core WK (form_list (step:=stepO T elt ti iter2 tj) (N:=fun it D cenv=>outerN _ _ _ _ _) (fun _ _ _=>loop_list) (fun _ _ _=>⟨_,_,turn_outer _ _ _ _ _ _ _ _ _ _ _ _⟩) (fun _ _ _ _ _=>codeAny_compStart_list) fun AO C0 _ _ _ _ _ _ _ _ h1 _ h3=>hstepO rfl WK AO C0 rm helt hiter2 ((nm_at hy).symm▸hy) hyh h1 h3)
  rm F R hiter h1 h2 hco h3 e rfl rfl (fun _ _ _ x=>obj_list x) fin
theorem su_dcomp (WK:WOk W) (hco:compOk ns cs caps ti=true) (hiter:SX W d ns iter (ev T iter)) (hkey:SX W d cs key (ev T key)) (hval:SX W d cs val (ev T val)):SU W d ns (.dcomp key val ti iter cs caps pt p) (ev T (.dcomp key val ti iter cs caps pt p)):=by
 rintro c hc vars objs mv objs' e A env s ρ rm F R
 obtain rfl:=Option.some.inj hc
 refine opt2k e fun x o1 h1 e=>optCk e fun rs full h2 e=>opt3k e fun ys vsF oc' h3 e=>optEk e fun es h4 e=>⟨compOut_ref e,fun pos use Q fin=>?_⟩
 exact comp_core WK (CForm.mk (Acc:=AccD W) (step:=fun _=>stepD T key val ti) (N:=fun it D cenv=>dictN _ _ _ _ _ _) (o0:={cls:=.type "dict",data:=.dict #[]}) (fun _ _ _=>loop_dict) (fun _ _ _=>⟨_,_,turn_dict _ _ _ _ _ _ _ _ _ _⟩) (fun _ _ _ _ _=>codeAny_compStart_dict) (fun AO _ _ _ _ _ _ _ _ _ h1 h2 h3=>hstepD AO rm hkey hval h1 h2 (two_lim h3)) newDict_ok rfl accD accD0)
  rm F R hiter h1 h2 hco h3 e rfl rfl (fun _ _ _ x=>obj_dict h4 x) fin
theorem sx_of_su {x:X} {c:Names × Sem Value × X} (hv:x.cv=some c) (hx:∀env,∃pos,eval (x.dec ns) env=comprehension (x.dec ns) (scopeOf c.1) env pos c.2.1 false (eval (c.2.2.dec ns) env)) (h:SU W d ns x (ev T x)):SX W d ns x (ev T x):=by
 intro vars objs mv objs' e A env s ρ rm F R
 obtain ⟨pos,hp⟩:=hx env
 rw [hp]
 obtain ⟨⟨i,hi⟩,hh⟩:=h c hv vars objs mv objs' e A env s ρ rm F R
 exact hh pos none _ fun C D s' hE=>compEnd_post hE (by rw [hi];exact fun h=>nomatch h)
end
end
section
section
variable {W:W0} {d:Nat} {T:Tbl}
theorem st_of {ns:Names} {x:X} (h:SX W d ns x (ev T x)) (hev:∀o vars objs,evT T x o vars objs=match o with|some (v,o1)=>(truthyM v o1).map fun b=>(b,o1)|none=>none)
  (he:∀env whole,isTrue (x.dec ns) env whole=(do let v←whole;standAt (x.dec ns).pos;holding [v] (truthy v))):SX W d ns x (ev T x)∧ST W d ns x fun vars objs=>evT T x (ev T x vars objs) vars objs:=⟨h,st_plain h hev he⟩
mutual
theorem sound (WK:WOk W) (TK:TblOk W d T) (ns:Names):∀x:X,x.wf ns=true→SX W d ns x (ev T x)∧ST W d ns x fun vars objs=>evT T x (ev T x vars objs) vars objs
 |.no,_=>st_of sx_no (fun _ _ _=>rfl) fun _ _=>rfl
 |.cn p,_=>st_of sx_cn (fun _ _ _=>rfl) fun _ _=>rfl
 |.cb b p,_=>st_of sx_cb (fun _ _ _=>rfl) fun _ _=>rfl
 |.ci i p,_=>st_of sx_ci (fun _ _ _=>rfl) fun _ _=>rfl
 |.cs l p,_=>st_of sx_cs (fun _ _ _=>rfl) fun _ _=>rfl
 |.var i p,h=>st_of (sx_var h) (fun _ _ _=>rfl) fun _ _=>rfl
 |.gi g p,h=>st_of (sx_gi WK h) (fun _ _ _=>rfl) fun _ _=>rfl
 |.neg i pc p,_=>st_of sx_neg (fun _ _ _=>rfl) fun _ _=>rfl
 |.bin l o r p,h=>by
  have h:=and2 h
  exact st_of (sx_bin (sound WK TK ns l h.1).1 (sound WK TK ns r h.2).1) (fun _ _ _=>rfl) fun _ _=>rfl
 |.not x p,h=>by
  exact ⟨sx_not (sound WK TK ns x h).1,st_not (sound WK TK ns x h).2⟩
 |.bop c xs p,h=>by
  exact ⟨sx_bop (sounds WK TK ns xs h).2.1,st_bop (sounds WK TK ns xs h).2.2⟩
 |.ite t b e p,h=>by
  have h:=and3 h
  have ht:=sound WK TK ns t h.1.1
  have hb:=sound WK TK ns b h.1.2
  have he:=sound WK TK ns e h.2
  exact ⟨sx_ite ht.2 hb.1 he.1,st_ite ht.2 hb.2 he.2⟩
 |.cmp l o r p,h=>by
  have h:=and2 h
  have hc:=sc_cmp (o:=o) (p:=p) WK (sound WK TK ns l h.1).1 (sound WK TK ns r h.2).1
  exact ⟨sx_comp rfl (beh_dec ns o.op r) hc,st_comp rfl (beh_dec ns o.op r) hc fun _ _ _=>rfl⟩
 |.isTy neg ty x pt pc ps p,h=>by
  have h':=and3 h
  have hc:=sc_isTy WK h (sound WK TK ns x h'.1.1).1
  exact ⟨sx_comp rfl rfl hc,st_comp rfl rfl hc fun _ _ _=>rfl⟩
 |.fn f a pn p,h=>by
  have h':=and3 h
  exact st_of (sx_fn WK TK h (sounds WK TK ns a h'.2).1) (fun _ _ _=>rfl) fun _ _=>rfl
 |.bi b a pn pm pk p,h=>by
  have h':=and4 h
  exact st_of (sx_bi WK h (sounds WK TK ns a h'.1.2).1) (fun _ _ _=>rfl) fun _ _=>by cases b<;>rfl
 |.me o m a pa p,h=>by
  have h':=and5 h
  exact st_of (sx_me WK h (sound WK TK ns o h'.1.1.2).1 (sounds WK TK ns a h'.1.2).1) (fun _ _ _=>rfl) fun _ _=>rfl
 |.hm o m a kw pa pk p,h=>by
  have h':=and8 h
  exact st_of (sx_hm WK TK h (sound WK TK ns o h'.1.1.1.1.1.2).1 (sounds WK TK ns a h'.1.1.1.1.2).1 (sounds WK TK ns kw h'.1.1.1.2).1) (fun _ _ _=>rfl) fun _ _=>rfl
 |.newH a pn p,h=>by
  have h':=and2 h
  exact st_of (sx_newH WK h (sound WK TK ns a h'.2).1) (fun _ _ _=>rfl) fun _ _=>rfl
 |.hin neg x o p,h=>by
  obtain ⟨⟨rfl,hx⟩,ho⟩:=and3 h
  have hc:=sc_hin (p:=p) WK TK (sound WK TK ns x hx).1 (sound WK TK ns o ho).1
  exact ⟨sx_comp rfl (beh_dec ns .NotIn o) hc,st_comp rfl (beh_dec ns .NotIn o) hc fun _ _ _=>rfl⟩
 |.hat o p,h=>by
  have h':=and2 h
  exact st_of (sx_hat WK h (sound WK TK ns o h'.2).1) (fun _ _ _=>rfl) fun _ _=>rfl
 |.sub o i p,h=>by
  have h:=and2 h
  exact st_of (sx_sub (sound WK TK ns o h.1).1 (sound WK TK ns i h.2).1) (fun _ _ _=>rfl) fun _ _=>rfl
 |.sl o l u ps p,h=>by
  have h:=and3 h
  exact st_of (sx_sl (sound WK TK ns o h.1.1).1 (sound WK TK ns l h.1.2).1 (sound WK TK ns u h.2).1) (fun _ _ _=>rfl) fun _ _=>rfl
 |.lst xs p,h=>by
  exact st_of (sx_lst (sounds WK TK ns xs h).1) (fun _ _ _=>rfl) fun _ _=>rfl
 |.tup a b p,h=>by
  have h:=and2 h
  exact st_of (sx_tup (sound WK TK ns a h.1).1 (sound WK TK ns b h.2).1) (fun _ _ _=>rfl) fun _ _=>rfl
 |.comp elt ti iter cond nn caps pt p,h=>by
  have h':=and4 h
  exact st_of (sx_of_su rfl (fun _=>⟨_,rfl⟩) (su_comp WK h'.2 (sound WK TK ns iter h'.1.1.1).1 (sound WK TK nn elt h'.1.1.2).1 (sound WK TK nn cond h'.1.2).2)) (fun _ _ _=>rfl) fun _ _=>rfl
 |.comp2 elt ti iter tj iter2 nn caps pt pt2 p,h=>by
  have h':=and6 h
  exact st_of (sx_of_su rfl (fun _=>⟨_,rfl⟩) (su_comp2 WK h'.1.1.2 h'.1.2 (sound WK TK ns iter h'.1.1.1.1.1).1 (sound WK TK nn elt h'.1.1.1.1.2).1 (sound WK TK nn iter2 h'.1.1.1.2).1)) (fun _ _ _=>rfl) fun _ _=>rfl
 |.dcomp k v ti iter nn caps pt p,h=>by
  have h':=and4 h
  exact st_of (sx_of_su rfl (fun _=>⟨_,rfl⟩) (su_dcomp WK h'.2 (sound WK TK ns iter h'.1.1.1).1 (sound WK TK nn k h'.1.1.2).1 (sound WK TK nn v h'.1.2).1)) (fun _ _ _=>rfl) fun _ _=>rfl
theorem sounds (WK:WOk W) (TK:TblOk W d T) (ns:Names):∀xs:Xs,xs.wf ns=true→SL W d ns xs (evs T xs)∧(SB W d ns xs fun c=>evB T c xs)∧(SA W d ns xs fun c=>evA T c xs)
 |.nil,_=>⟨sl_nil,sb_nil,sa_nil⟩
 |.cons x xs,h=>by
  have h:=and2 h
  have hx:=sound WK TK ns x h.1
  have hxs:=sounds WK TK ns xs h.2
  exact ⟨sl_cons hx.1 hxs.1,sb_cons hx.1 hxs.2.1,sa_cons hx.2 hxs.2.2⟩
end
theorem sound_su (WK:WOk W) (TK:TblOk W d T) (ns:Names) (x:X) (hc:x.isComp=true) (h:x.wf ns=true):SU W d ns x (ev T x):=by
 cases x with
 |comp elt ti iter cond nn caps pt p=>
  have h':=and4 h
  exact su_comp WK h'.2 (sound WK TK ns iter h'.1.1.1).1 (sound WK TK nn elt h'.1.1.2).1 (sound WK TK nn cond h'.1.2).2
 |comp2 elt ti iter tj iter2 nn caps pt pt2 p=>
  have h':=and6 h
  exact su_comp2 WK h'.1.1.2 h'.1.2 (sound WK TK ns iter h'.1.1.1.1.1).1 (sound WK TK nn elt h'.1.1.1.1.2).1 (sound WK TK nn iter2 h'.1.1.1.2).1
 |dcomp k v ti iter nn caps pt p=>
  have h':=and4 h
  exact su_dcomp WK h'.2 (sound WK TK ns iter h'.1.1.1).1 (sound WK TK nn k h'.1.1.2).1 (sound WK TK nn v h'.1.2).1
 |_=>exact Bool.noConfusion (show false=true from hc)
end
end
section
noncomputable def FlRel (W:W0) (ρ:List Addr) (h:Heap):Fl→Flow→Prop
 |.next,f=>f=.next
 |.brk,f=>f=.brk
 |.ret mv,f=>∃v,f=.ret v∧VRel W ρ h mv v
structure SInv (W:W0) (ρ0:List Addr) (s0:Shared) (env:Env) (ns:Names) (itv:List Value) (ms:MS) (ρ:List Addr) (s:Shared):Prop where
 ok:Ok W ρ0 s0 ρ ms.objs s
 fr:FR W env ns ms.vars ρ s.heap
 own:∀a∈ownOf env,s0.heap.get? a=none
 its:All2 (VRel W ρ s.heap) ms.its itv
 ine:∀x∈ms.its,x≠.edict
 n:ms.n=ρ0.length
structure KeptS (env:Env) (ρ:List Addr) (s:Shared) (ρ':List Addr) (s':Shared):Prop where
 kp:∀b o,s.heap.get? b=some o→b∉ρ→b∉ownOf env→s'.heap.get? b=some o
 sub:∀b∈ρ',b∈ρ∨s.heap.get? b=none
 imm:KeepImm s.heap s'.heap
 gens:∀(g:Nat) (st:GenState),s.gens[g]?=some st→s'.gens[g]?=some st
 live:∀b o,s.heap.get? b=some o→∃o',s'.heap.get? b=some o'
noncomputable def PostS (W:W0) (ρ0:List Addr) (s0:Shared) (env:Env) (ns:Names) (itv:List Value) (ms':MS) (fl:Fl) (ρ:List Addr) (s:Shared) (f:Flow) (s':Shared):Prop:=
 ∃ρ',FlRel W ρ' s'.heap fl f∧SInv W ρ0 s0 env ns itv ms' ρ' s'∧KeptS env ρ s ρ' s'
noncomputable def SS (W:W0) (d:Nat) (ns:Names) (run:MS→Option (Fl × MS)) (tree:Env→Sem Flow):Prop:=
 ∀(ms:MS) (fl:Fl) (ms':MS),run ms=some (fl,ms')→∀(A:Around) (env:Env) (s:Shared) (ρ ρ0:List Addr) (s0:Shared) (itv:List Value),Room (d+8) A→SInv W ρ0 s0 env ns itv ms ρ s→
  wpAny (model W.prog W.w) A (tree env) (PostS W ρ0 s0 env ns itv ms' fl ρ s) NoE s
section
variable {W:W0} {ρ ρ0 ρ1 ρ2:List Addr} {s s0 s1 s2:Shared} {env:Env} {ns:Names} {itv:List Value} {ms:MS}
theorem KeptS.refl:KeptS env ρ s ρ s:=⟨fun _ _ e _ _=>e,fun _ m=>.inl m,fun _ _ e _=>e,fun _ _ e=>e,fun _ o e=>⟨o,e⟩⟩
theorem KeptS.trans (x:KeptS env ρ s ρ1 s1) (y:KeptS env ρ1 s1 ρ2 s2) (own:∀a∈ownOf env,∃o,s1.heap.get? a=some o):KeptS env ρ s ρ2 s2:=by
 refine ⟨fun b o e h1 h2=>y.kp b o (x.kp b o e h1 h2) (fun m=>(x.sub b m).elim h1 (dead e)) h2,fun b m=>(y.sub b m).elim (x.sub b) fun h=>?_,fun b o e im=>y.imm b o (x.imm b o e im) im,fun g st e=>y.gens g st (x.gens g st e),fun b o e=>(x.live b o e).elim (y.live b)⟩
 by_cases hr:b∈ρ
 ·exact .inl hr
 ·exact .inr (noneOf fun o e=>(Classical.em (b∈ownOf env)).elim (fun ho=>(own b ho).elim fun _ ho'=>dead ho' h) fun ho=>dead (x.kp b o e hr ho) h)
theorem FR.ownAlive {vars:List MV} {h:Heap} (F:FR W env ns vars ρ h):∀a∈ownOf env,∃o,h.get? a=some o:=fun a ha=>(F.apart a ha).2.2
theorem SInv.tr (I:SInv W ρ0 s0 env ns itv ms ρ1 s1) (x:KeptS env ρ s ρ1 s1) (y:KeptS env ρ1 s1 ρ2 s2):KeptS env ρ s ρ2 s2:=x.trans y I.fr.ownAlive
theorem SInv.expr {o:List MO} (I:SInv W ρ0 s0 env ns itv ms ρ s) (K:Ok W ρ s ρ1 o s1):SInv W ρ0 s0 env ns itv {ms with objs:=o} ρ1 s1∧KeptS env ρ s ρ1 s1:=
 ⟨⟨I.ok.trans K,I.fr.ok I.ok.rel K,I.own,I.its.imp fun _ _ r=>K.vrel I.ok.rel r,I.ine,I.n⟩,⟨fun b o e h _=>K.step.keep b o e h,fun b m=>K.grows.mem m,K.step.imm I.ok.rel,K.step.gens,fun b o e=>
  (Classical.em (b∈ρ)).elim (fun h=>K.rel.alive (K.grows.sub h)) fun h=>⟨o,K.step.keep b o e h⟩⟩⟩
section
variable {d:Nat} {A:Around} {E:Value→Shared→Prop} {x:X} {v:MV} {o:List MO} {ms':MS} {fl:Fl}
theorem SInv.seq {run:List MV→List MO→Option (MV × List MO)} {Q:Value→Shared→Prop} (I:SInv W ρ0 s0 env ns itv ms ρ s) (hx:SX W d ns x run) (h1:run ms.vars ms.objs=some (v,o)) (rm:Room (d+8) A)
  (k:∀ρ1 s1 u,SInv W ρ0 s0 env ns itv {ms with objs:=o} ρ1 s1→KeptS env ρ s ρ1 s1→Ok W ρ s ρ1 o s1→VRel W ρ1 s1.heap v u→Q u s1):wpAny (model W.prog W.w) A (eval (x.dec ns) env) Q E s:=
 seqE (hx _ _ _ _ h1 A env s ρ rm I.fr I.ok.rel) fun ρ1 s1 u K r=>k ρ1 s1 u (I.expr K).1 (I.expr K).2 K r
theorem SInv.test {run:List MV→List MO→Option (Bool × List MO)} {b:Bool} {Q:Bool→Shared→Prop} (I:SInv W ρ0 s0 env ns itv ms ρ s) (hx:ST W d ns x run) (h1:run ms.vars ms.objs=some (b,o)) (rm:Room (d+8) A)
  (k:∀ρ1 s1,SInv W ρ0 s0 env ns itv {ms with objs:=o} ρ1 s1→KeptS env ρ s ρ1 s1→Q b s1):wpAny (model W.prog W.w) A (isTrue (x.dec ns) env (eval (x.dec ns) env)) Q E s:=
 seqB (hx _ _ _ _ h1 A env s ρ rm I.fr I.ok.rel) fun ρ1 s1 K=>k ρ1 s1 (I.expr K).1 (I.expr K).2
theorem lastS {t:Sem Flow} (I:SInv W ρ0 s0 env ns itv ms ρ1 s1) (k:KeptS env ρ s ρ1 s1) (h:wpAny (model W.prog W.w) A t (PostS W ρ0 s0 env ns itv ms' fl ρ1 s1) NoE s1):wpAny (model W.prog W.w) A t (PostS W ρ0 s0 env ns itv ms' fl ρ s) NoE s1:=
 wpAny_mono h (fun _ _ P=>P.imp fun _ P=>⟨P.1,P.2.1,I.tr k P.2.2⟩) NoE.imp
theorem KeptS.all {h':Heap} {tk:Nat} (k:∀b o,s.heap.get? b=some o→h'.get? b=some o):KeptS env ρ s ρ {s with heap:=h',toks:=tk}:=⟨fun b o e _ _=>k b o e,fun _ m=>.inl m,keepImm_of k,fun _ _ e=>e,fun b o e=>⟨o,k b o e⟩⟩
end
theorem SInv.touch (I:SInv W ρ0 s0 env ns itv ms ρ s) {a:Addr} (h0:s0.heap.get? a=none) (hw:W.h0.get? a=none) (L:Loose W ρ s.heap a) (ho:a∉ownOf env) (ed:(∀mv∈ms.vars,mv≠.edict)∨∀n,s.heap.get? a≠some {cls:=.type "dict",data:=.dict #[] n})
  {h':Heap} (k:∀b o,b≠a→s.heap.get? b=some o→h'.get? b=some o) (tk:Nat):SInv W ρ0 s0 env ns itv ms ρ {s with heap:=h',toks:=tk}:=
 ⟨I.ok.touch h0 hw L k tk,I.fr.touch ho L ed k,I.own,all2_mem I.its fun x v hm r=>VRel.touch L k (fun h=>absurd h (I.ine x hm)) r,I.ine,I.n⟩
noncomputable def stOk (ns:Names) (i:Nat):Bool:=ns[i]?.any fun q=>(q.2== .local||q.2== .cell)&&!(q.1==("_headers" :Str))
theorem stOk_is {i:Nat} (h:stOk ns i=true):∃x k,ns[i]?=some (x,k)∧(k=.local∨k=.cell)∧x≠ "_headers" ∧nm ns i=x:=by
 obtain ⟨⟨x,k⟩,hi,h⟩:=any1 h
 obtain ⟨h1,h2⟩:=and2 h
 exact ⟨x,k,hi,(Bool.or_eq_true_iff.mp h1).imp eq_of_beq eq_of_beq,ne_of_beq_false (by rw [Bool.not_eq_true'] at h2;exact h2),nm_at hi⟩
theorem SInv.store {A:Around} {E:Value→Shared→Prop} {i:Nat} {mv:MV} {v:Value} {Q:Unit→Shared→Prop} (I:SInv W ρ0 s0 env ns itv ms ρ s) (hi:stOk ns i=true) (hp:mv.plain=true) (r:VRel W ρ s.heap mv v)
  (q:∀s1,SInv W ρ0 s0 env ns itv {ms with vars:=ms.vars.set i mv} ρ s1→KeptS env ρ s ρ s1→VRel W ρ s1.heap mv v→Q () s1):wpAny (model W.prog W.w) A (storeName env (nm ns i) v) Q E s:=by
 obtain ⟨x,k,hx,hk,hh,hn⟩:=stOk_is hi
 rw [hn]
 refine wpAny_mono (store_ok I.ok I.fr (I.own _ (.head _)) hx (fun _ c hc=>I.own _ (.tail _ (mem_of_lookup hc))) hk hh hp r) (fun _ s1 P=>?_) NoE.imp
 cases P with
 | @mk h' tk a ha _ L hs K F=>
 have kb:∀b o,b≠a→s.heap.get? b=some o→h'.get? b=some o:=fun b o hb e=>(hs.2 b hb).trans e
 exact q _ ⟨K,F,I.own,all2_mem I.its fun x v hm r=>VRel.touch L kb (fun h=>(I.ine x hm h).elim) r,I.ine,I.n⟩ ⟨fun b o e _ h2=>kb b o (fun h=>h2 (h▸ha)) e,fun _ m=>.inl m,fun b o e im=>kb b o (fun hb=>L.imm o (hb▸e) im) e,fun _ _ e=>e,fun b o e=>
  (Classical.em (b=a)).elim (fun hb=>hb▸(F.apart a ha).2.2) fun hb=>⟨o,kb b o hb e⟩⟩ (VRel.touch L kb (fun h=>nomatch (show MV.edict.plain=true from h▸hp)) r)
theorem renum_unb {rs:List Nat} {x:MV}:x=.unb↔renum rs x=.unb:=by cases x<;>first|exact .rfl|exact ⟨nofun,nofun⟩
theorem renum_edict {rs:List Nat} {x:MV} (h:renum rs x=.edict):x=.edict:=by cases x<;>first|exact h|exact (nomatch h)
theorem FR.part {vars:List MV} {objs:List MO} {rs:List Nat} (F:FR W env ns vars ρ s.heap) (R:ORel W ρ objs s.heap) (hc:closed rs objs=true) (hr:∀i,MV.ref i∈vars→i∈rs):FR W env ns (vars.map (renum rs)) (prt ρ rs) s.heap:=
 F.move (fun _ h=>h) (fun _ _ _ _ e=>e) (fun a ha m=>(F.apart a ha).1 (part_sub R hc m)) (List.length_map _) fun i y e=>by
  obtain ⟨x,hx,rfl⟩:=Option.map_eq_some_iff.mp (List.getElem?_map.symm.trans e)
  exact ⟨x,hx,renum_unb,renum_edict,fun v _ r=>VRel.part R hc (fun i hi=>hr i (hi▸List.mem_of_getElem? hx)) r⟩
theorem SInv.gc (I:SInv W ρ0 s0 env ns itv ms ρ s):∃ρ',SInv W ρ0 s0 env ns itv ms.gc ρ' s∧KeptS env ρ s ρ' s:=by
 unfold MS.gc
 have hr:∀i,.ref i∈ms.vars++ms.its→i∈rootsOf (ms.vars++ms.its) ms.objs:=fun i=>roots_mem
 have nd:(rootsOf (ms.vars++ms.its) ms.objs).Nodup:=dedup_nodup _
 generalize rootsOf (ms.vars++ms.its) ms.objs=rs at*
 show ∃ρ',SInv W ρ0 s0 env ns itv (if (closed rs ms.objs&&rs.take ms.n==List.range ms.n)=true then ⟨ms.vars.map (renum rs),ms.its.map (renum rs),pick rs ms.objs,ms.n⟩ else ms) ρ' s∧_
 by_cases hcond:(closed rs ms.objs&&rs.take ms.n==List.range ms.n)=true
 ·rw [if_pos hcond]
  obtain ⟨hc,htake⟩:=and2 hcond
  have htake:=eq_of_beq htake
  have R:=I.ok.rel
  obtain ⟨nw,hρ,hf⟩:=I.ok.grows
  have e1:rs=List.range ms.n++rs.drop ms.n:=htake▸(List.take_append_drop ms.n rs).symm
  refine ⟨prt ρ rs,⟨⟨⟨(rs.drop ms.n).map (fun i=>ρ.getD i 0),?_,fun a ha=>?_⟩,I.ok.step,R.part nd hc⟩,I.fr.part R hc (fun i hm=>hr i (List.mem_append_left _ hm)),I.own,
   all2_map (all2_mem I.its fun a b hm r=>VRel.part R hc (fun i hi=>hr i (List.mem_append_right _ (hi▸hm))) r),fun x hx h=>(List.mem_map.mp hx).elim fun y q=>I.ine y q.1 (renum_edict (q.2.trans h)),I.n⟩,⟨fun _ _ e _ _=>e,fun b m=>.inl (part_sub R hc m),fun _ _ e _=>e,fun _ _ e=>e,fun _ o e=>⟨o,e⟩⟩⟩
  ·have e2:(List.range ms.n).map (fun i=>ρ.getD i 0)=ρ0:=by
    rw [I.n]
    refine List.ext_getElem? fun j=>?_
    rcases Nat.lt_or_ge j ρ0.length with hj|hj
    ·rw [List.getElem?_map,List.getElem?_range hj,List.getElem?_eq_getElem hj,hρ,Option.map_some,List.getD_eq_getElem?_getD,List.getElem?_append_left hj,List.getElem?_eq_getElem hj];rfl
    ·rw [List.getElem?_eq_none (by rw [List.length_map,List.length_range];exact hj),List.getElem?_eq_none hj]
   exact (congrArg (List.map fun i=>ρ.getD i 0) e1).trans (List.map_append.trans (congrArg (· ++_) e2))
  ·obtain ⟨i,hi,rfl⟩:=List.mem_map.mp ha
   obtain ⟨b,hb,e⟩:=part_at R hc (List.mem_of_mem_drop hi)
   have hge:ρ0.length≤i:=Nat.le_of_not_lt fun h=>(List.nodup_append.mp (e1▸nd)).2.2 i (List.mem_range.mpr (I.n.symm▸h)) i hi rfl
   exact e.symm▸hf b (List.mem_of_getElem? ((List.getElem?_append_right hge).symm.trans (hρ▸hb)))
 ·rw [if_neg hcond];exact ⟨ρ,I,KeptS.refl⟩
end
noncomputable def isVar (x:X):Bool:=Nat.beq x.ctorIdx 5
noncomputable def isTup (x:X):Bool:=Nat.beq x.ctorIdx 24
noncomputable def locOk (ns:Names) (i:Nat):Bool:=ns[i]?.any fun q=>q.2== .local
mutual
noncomputable def S.wf (ns:Names):S→Bool
 |.asg i e _ _=>stOk ns i&&e.wf ns
 |.asg2 i j e _ _ _=>stOk ns i&&stOk ns j&&e.wf ns&&!e.isComp
 |.asgT i j e _ _ _ _=>stOk ns i&&stOk ns j&&e.wf ns&&!e.isComp&&!isTup e
 |.swp i j a b pi pj _ _ _=>stOk ns i&&stOk ns j&&a.wf ns&&b.wf ns&&isVar a&&isVar b&&i !=j&&pi.line==pj.line&&locOk ns i&&locOk ns j
 |.asgS o i e _ _=>o.wf ns&&i.wf ns&&e.wf ns
 |.aug i op e _ _=>stOk ns i&&e.wf ns&&op.inpl
 |.augS o i op e _ _=>o.wf ns&&i.wf ns&&e.wf ns&&op.inpl
 |.iff t b e _=>t.wf ns&&b.wf ns&&e.wf ns
 |.whl t b _=>t.wf ns&&b.wf ns
 |.forS ti iter b e _ _=>stOk ns ti&&iter.wf ns&&b.wf ns&&e.wf ns
 |.for2 ti tj iter b _ _ _ _=>stOk ns ti&&stOk ns tj&&iter.wf ns&&b.wf ns
 |.forG ti tj arg b _ _ _ _ _ _=>stOk ns ti&&stOk ns tj&&isGlob ns "_iter_escaped_chars" &&arg.wf ns&&b.wf ns
 |.forE ti tj o _ _ _ _ pa pc _=>o.wf ns&&isVar o&&pa.endLine==pc.line&&locOk ns ti&&locOk ns tj
 |.ret e _=>e.wf ns
 |.brk _=>true
 |.xp e _=>e.wf ns&&!e.isComp
 |.dead _=>true
noncomputable def Ss.wf (ns:Names):Ss→Bool
 |.nil=>true
 |.cons s r=>s.wf ns&&r.wf ns
 |.gc r=>r.wf ns
end
end
section
section
variable {prog:Program} {w:World} {A:Around} {E:Value→Shared→Prop} {s:Shared}
theorem setItem_plain {l:Addr} {items:Array Value} {c:Nat} {k:Int} {t:Tok} {v:Value} {Q:Unit→Shared→Prop} (ho:s.heap.get? l=some {cls:=.type "list",data:=.seq items c}) (h0:0≤k) (hfit:k<2^63) (hn:k<items.size)
  (hQ:∀h' c',h'.get? l=some {cls:=.type "list",data:=.seq (items.setIfInBounds k.toNat v) c'}→Heap.SameBut l s.heap h'→Q () {s with heap:=h'}):
  wpAny (model prog w) A (setItem (.ref l) (.int k t) v) Q E s:=by
 have hl:s.heap.IsList l items:=list_isList ho
 unfold setItem
 try with_reducible refine wpAny_holding ?_
 first|refine wpAny_bind (wpAny_pure ?_)|skip
 refine wpAny_bind (wpAny_sequenceKey hl.typeIs (by decide) ?_)
 refine wpAny_bind (wpAny_callSpecial?_slot (name:=Str.ofString "__setitem__") hl.typeIs slot_list_setitem (wpAny_call_entry slot_list_setitem hl.typeIs entry_list_setitem ?_ (args_list_setitem _ _ _)))
 show wpAny _ _ (Builtin.List.listSubscript? (.int k t)>>=_) _ _ s
 refine wpAny_bind (wpAny_listSubscript_int (fitsIndex_of h0 hfit) ?_)
 obtain ⟨j,rfl⟩:=Int.eq_ofNat_of_zero_le h0
 have hj:j<items.size:=by omega
 have hx':items[j]?=some items[j]:=Array.getElem?_eq_getElem hj
 show wpAny _ _ ((seqItemAt l j>>=fun r=>pure (r.map (j,·)))>>=_) _ _ s
 refine wpAny_bind (wpAny_bind (wpAny_seqItemAt ho rfl (wpAny_pure ?_)))
 rw [hx']
 show wpAny _ _ (setSeqItemAt l j v>>=_) _ _ s
 have e:Obj.mapSeq (·.setIfInBounds j v) ({cls:=.type "list",data:=.seq items c}:Obj)={cls:=.type "list",data:=.seq (items.setIfInBounds j v) c}:=by
  simp [Obj.mapSeq]
 have hfin:=Heap.get?_update_self (a:=l) (Obj.mapSeq (·.setIfInBounds j v)) ho (by rw [e];rfl)
 refine wpAny_bind (wpAny_setSeqItemAt ho rfl ?_)
 have:=hQ (s.heap.update l (Obj.mapSeq (·.setIfInBounds j v))) c (by rw [hfin,e];rfl) (Heap.SameBut.update ..)
 first
  |exact wpAny_bind (wpAny_pure (wpAny_pure ⟨.none,rfl,wpAny_pure this⟩))
  |exact wpAny_pure ⟨.none,rfl,wpAny_pure this⟩
end
theorem swaps_no (ns:Names) (e:X) (h:e.isComp=false) (t:Option Expr) (l:Nat) (env:Env):swapsWith (e.dec ns) t l env=pure false:=by
 cases e with
 |bi b=>cases b<;>rfl
 |comp=>exact Bool.noConfusion (show true=false from h)
 |comp2=>exact Bool.noConfusion (show true=false from h)
 |dcomp=>exact Bool.noConfusion (show true=false from h)
 |_=>rfl
theorem swaps_comp (ns:Names) (e:X) (h:e.isComp=true) (x:Str) (pn:Pos) (l:Nat) (env:Env):∃b:Bool,swapsWith (e.dec ns) (some (.Name x pn)) l env=pure b:=by
 cases e with
 |comp=>exact ⟨_,rfl⟩
 |comp2=>exact ⟨_,rfl⟩
 |dcomp=>exact ⟨_,rfl⟩
 |_=>exact Bool.noConfusion (show false=true from h)
theorem swaps_sub (ns:Names) (e:X) (o i:Expr) (p:Pos) (l:Nat) (env:Env):swapsWith (e.dec ns) (some (.Subscript o i p)) l env=pure false:=by
 cases e with
 |bi b=>cases b<;>rfl
 |_=>rfl
theorem swapped_no (ns:Names) (e:X) (h:isTup e=false) (ts:List Expr) (k:Nat) (p:Pos) (env:Env):swappedStores [.Tuple ts k p] (e.dec ns) env=pure none:=by
 cases e with
 |bi b=>cases b<;>rfl
 |tup=>exact Bool.noConfusion (show true=false from h)
 |_=>rfl
theorem use_comp (ns:Names) (e:X) (h:e.isComp=true):∃c,e.cv=some c∧∀(env:Env) (u:Value→Sem Unit),∃pos,evalThenUse (e.dec ns) env u=(do let _←comprehension (e.dec ns) (scopeOf c.1) env pos c.2.1 false (eval (c.2.2.dec ns) env) (some u)):=by
 cases e with
 |comp=>exact ⟨_,rfl,fun _ _=>⟨_,rfl⟩⟩
 |comp2=>exact ⟨_,rfl,fun _ _=>⟨_,rfl⟩⟩
 |dcomp=>exact ⟨_,rfl,fun _ _=>⟨_,rfl⟩⟩
 |_=>exact Bool.noConfusion (show false=true from h)
section
variable {W:W0} {d:Nat} {ns:Names} {T:Tbl}
theorem assign2_ok {A:Around} {E:Value→Shared→Prop} {env:Env} {s s0:Shared} {ρ ρ0:List Addr} {itv:List Value} {ms:MS} {i j:Nat} {pi pj pt:Pos} {a b:FV} {v:Value} {Q:Unit→Shared→Prop} (rm:Room (d+8) A) (I:SInv W ρ0 s0 env ns itv ms ρ s) (hi:stOk ns i=true) (hj:stOk ns j=true) (r:FRel s.heap (.pair a b) v)
  (q:∀s1,SInv W ρ0 s0 env ns itv {ms with vars:=(ms.vars.set i (.fv a)).set j (.fv b)} ρ s1→KeptS env ρ s ρ s1→Q () s1):wpAny (model W.prog W.w) A (assign (.Tuple [.Name (nm ns i) pi,.Name (nm ns j) pj] 0 pt) env v) Q E s:=by
 obtain ⟨t,u,w,n,rfl,g,r1,r2⟩:=r
 refine wpAny_assign_Tuple (items:= #[u,w]) rm.quiet ⟨_,g,rfl,n,rfl⟩ rfl rfl fun h' he=>?_
 have k:∀b o,s.heap.get? b=some o→h'.get? b=some o:=fun b o e=>he b o (fun hb=>dead (hb▸e) (fresh_size _)) e
 have ki:=keepImm_of k
 have I1:=(I.expr (Ok.keepAll I.ok.rel k s.toks)).1
 exact wpAny_bind (wpAny_holding (wpAny_assign_Name (I1.store hi (mv:=.fv a) rfl (FRel.keep ki r1) fun s2 I2 k2 _=>
  wpAny_bind (m:=holding [] (assign (.Name (nm ns j) pj) env w)) (wpAny_holding (wpAny_assign_Name (I2.store hj (mv:=.fv b) rfl (FRel.keep k2.imm (FRel.keep ki r2)) fun s3 I3 k3 _=>wpAny_pure (q s3 I3 (I2.tr (I1.tr (KeptS.all k) k2) k3))))))))
theorem ss_asg {i:Nat} {e:X} {pn p:Pos} (WK:WOk W) (TK:TblOk W d T) (hw:(S.asg i e pn p).wf ns=true):SS W d ns (ex T (.asg i e pn p)) fun env=>exec ((S.asg i e pn p).dec ns) env:=by
 intro ms fl ms' hr A env s ρ ρ0 s0 itv rm I
 obtain ⟨hi,hwe⟩:=and2 hw
 refine opt2k hr fun v o h1 hr=>ifk hr fun hp hr=>inj2m hr ?_
 obtain ⟨hp,hed⟩:=and2 hp
 have hx:=(sound WK TK ns e hwe).1
 have plain:∀(hs:swapsWith (e.dec ns) (some (.Name (nm ns i) pn)) p.line env=pure false),wpAny (model W.prog W.w) A (exec ((S.asg i e pn p).dec ns) env) (PostS W ρ0 s0 env ns itv {ms with vars:=ms.vars.set i v,objs:=o} .next ρ s) NoE s:=fun hs=>
  wpAny_Assign_Name (I.seq hx h1 rm fun ρ1 s1 u I1 k1 _ r1=>I1.store hi hp r1 fun s2 I2 k2 _=>⟨ρ1,rfl,I2,I1.tr k1 k2⟩) hs
 cases hc:e.isComp with
 |false=>exact plain (swaps_no ns e hc _ _ env)
 |true=>
  obtain ⟨b,hs⟩:=swaps_comp ns e hc (nm ns i) pn p.line env
  cases b with
  |false=>exact plain hs
  |true=>
   have hned:∀mv∈ms.vars,mv≠.edict:=fun mv hm he=>by
    rw [hc,List.contains_iff_mem.mpr (he▸hm)] at hed;cases hed
   show wpAny _ _ (exec (.Assign [.Name (nm ns i) pn] (e.dec ns) p) env) _ _ _
   obtain ⟨c,hcv,hu⟩:=use_comp ns e hc
   obtain ⟨pos,hu⟩:=hu env (assign (.Name (nm ns i) pn) env)
   rw [exec_Assign_Name_used _ _ _ _ hs,hu]
   refine wpAny_bind (wpAny_standAt (wpAny_bind (wpAny_bind (wpAny_mono ((sound_su WK TK ns e hc hwe c hcv _ _ _ _ h1 A env s ρ rm I.fr I.ok.rel).2 pos (some (assign (.Name (nm ns i) pn) env)) (fun _ s'=>PostS W ρ0 s0 env ns itv {ms with vars:=ms.vars.set i v,objs:=o} .next ρ s .next s') fun C D s' hE=>?_) (fun _ s' P=>wpAny_pure (wpAny_pure P)) NoE.imp))))
   obtain ⟨⟨ρ',K,r,L⟩,c0,cw,m,hn⟩:=hE
   obtain ⟨I1,k1⟩:=I.expr K
   have hCo:C∉ownOf env:=fun m=>(I.fr.apart C m).2.2.elim fun _ e=>dead e c0
   show wpAny _ A (assign (.Name (nm ns i) pn) env (.ref D)) _ _ _
   refine wpAny_assign_Name (I1.store hi hp r fun s2 I2 k2 _=>?_)
   have same:∀o,s'.heap.get? C=some o→s2.heap.get? C=some o:=fun o e=>k2.kp C o e L.out hCo
   refine ⟨m,hn.imp fun o q=>q.imp fun es q=>q.imp fun ep q=>⟨same _ q.1,q.2⟩,fun h' hs'=>?_⟩
   have kb:∀b o,b≠C→s2.heap.get? b=some o→h'.get? b=some o:=fun b o hb e=>(hs'.2 b hb).trans e
   have k12:=I1.tr k1 k2
   have kc:∀{b o o'},s.heap.get? b=some o→s2.heap.get? b=some o'→h'.get? b=some o':=fun e0 e=>kb _ _ (fun hb=>dead (hb▸e0) c0) e
   obtain ⟨oC,_,_,hoC,_⟩:=hn
   have q:∀{o},s2.heap.get? C=some o→s'.heap.get? C=some o:=fun e=>Option.some.inj ((same _ hoC).symm.trans e)▸hoC
   exact ⟨ρ',rfl,I2.touch (fresh_back I.ok.step I.ok.grows I.ok.rel c0) cw ⟨L.out,fun o e=>L.imm o (q e),fun t la n e=>L.dx t la n (q e)⟩ hCo (.inl fun mv hm=>(List.mem_or_eq_of_mem_set hm).elim (hned mv) fun h h'=>nomatch (show MV.edict.plain=true from (h.symm.trans h')▸hp)) kb s2.toks,
    ⟨fun b o e h1 h2=>kc e (k12.kp b o e h1 h2),k12.sub,fun b o e im=>kc e (k12.imm b o e im),k12.gens,fun b o e=>(k12.live b o e).imp fun o' e'=>kc e e'⟩⟩
end
end
section
section
variable {W:W0} {d:Nat} {ns:Names} {T:Tbl}
theorem swapsS_no (ns:Names) (e:X) (h:e.isComp=false) (t:Expr) (l:Nat) (env:Env):swapsWithSole [t] (e.dec ns) l env=pure false:=swaps_no ns e h (some t) l env
theorem ss_asg2 {i j:Nat} {e:X} {pi pj p:Pos} (WK:WOk W) (TK:TblOk W d T) (hw:(S.asg2 i j e pi pj p).wf ns=true):SS W d ns (ex T (.asg2 i j e pi pj p)) fun env=>exec ((S.asg2 i j e pi pj p).dec ns) env:=by
 intro ms fl ms' hr A env s ρ ρ0 s0 itv rm I
 obtain ⟨⟨⟨hi,hj⟩,hwe⟩,_⟩:=and4 hw
 exact opt2k hr fun v o h1 hr=>ifk hr fun hp hr=>inj2m hr (wpAny_Assign_two (I.seq (sound WK TK ns e hwe).1 h1 rm fun ρ1 s1 u I1 k1 _ r1=>wpAny_assign_Name (I1.store hi hp r1 fun s2 I2 k2 r2=>
  wpAny_assign_Name (I2.store hj hp r2 fun s3 I3 k3 _=>⟨ρ1,rfl,I3,I2.tr (I1.tr k1 k2) k3⟩))) rfl rfl)
theorem not_true {b:Bool} (h:(!b)=true):b=false:=by cases b with|false=>rfl|true=>cases h
theorem ss_asgT {i j:Nat} {e:X} {pi pj pt p:Pos} (WK:WOk W) (TK:TblOk W d T) (hw:(S.asgT i j e pi pj pt p).wf ns=true):SS W d ns (ex T (.asgT i j e pi pj pt p)) fun env=>exec ((S.asgT i j e pi pj pt p).dec ns) env:=by
 intro ms fl ms' hr A env s ρ ρ0 s0 itv rm I
 obtain ⟨⟨⟨⟨hi,hj⟩,hwe⟩,hc⟩,ht⟩:=and5 hw
 exact optPk hr fun a b o h1 hr=>inj2m hr (Assign_Tuple (I.seq (sound WK TK ns e hwe).1 h1 rm fun ρ1 s1 u I1 k1 _ r1=>assign2_ok rm I1 hi hj r1 fun s2 I2 k2=>⟨ρ1,rfl,I2,I1.tr k1 k2⟩) (swapsS_no ns e (not_true hc) _ _ env) (swapped_no ns e (not_true ht) _ _ _ env))
theorem swapped_vars {i j k l:Nat} {pi pj pt pv qa qb:Pos} {env:Env} (h1:env.kindOf (nm ns i)=some .local) (h2:env.kindOf (nm ns j)=some .local) (hl:pi.line=pj.line) (hk:env.scope.kind=.function) (hne:nm ns i≠nm ns j) (hd:(nm ns k==("__debug__" :Str))=false):
  swappedStores [.Tuple [.Name (nm ns i) pi,.Name (nm ns j) pj] 0 pt] (.Tuple [.Name (nm ns k) qa,.Name (nm ns l) qb] 0 pv) env=pure (some [nm ns i,nm ns j]):=by
 have hb:env.blockKind=.function:=by unfold Env.blockKind;rw [hk];rfl
 have hne':(nm ns i==nm ns j)=false:=by rw [beq_eq_false_iff_ne];exact hne
 have f1:foldedForSure 8 (.Name (nm ns k) qa)=false:=rfl
 have c1:constantsAlone 8 (.Name (nm ns k) qa)=(nm ns k==("__debug__" :Str)):=rfl
 unfold swappedStores
 simp only [h1,h2,hl,hb,Expr.pos,List.head?,Option.map,Option.getD,List.length,List.filterMap,beq_self_eq_true,Bool.and_self,if_true,Bool.or_true,Bool.true_or,Bool.not_true,bne_self_eq_false,Bool.or_self,Bool.false_eq_true,if_false,pure_bind,List.any,f1,List.all,c1,hd,Bool.false_and]
 have:(List.eraseDups [nm ns i,nm ns j]).length=2:=by
  have hne2:(nm ns j==nm ns i)=false:=by rw [beq_eq_false_iff_ne];exact fun h=>hne h.symm
  rw [List.eraseDups_cons]
  simp [List.filter,hne2,List.eraseDups_cons]
 simp [this]
theorem isVar_is {x:X} (h:isVar x=true):∃k q,x=.var k q:=by
 cases x with
 |var k q=>exact ⟨k,q,rfl⟩
 |_=>exact Bool.noConfusion (show false=true from h)
theorem locKind {env:Env} {vars:List MV} {ρ:List Addr} {h:Heap} (F:FR W env ns vars ρ h) {i:Nat} (hl:locOk ns i=true):env.kindOf (nm ns i)=some .local∧∃x,ns[i]?=some (x,.local)∧nm ns i=x:=by
 obtain ⟨⟨x,k⟩,hi,hk⟩:=any1 hl
 obtain rfl:=eq_of_beq (a:=k) hk
 obtain ⟨k',_,e1,f1⟩:=F.kindAt hi
 obtain rfl:k'=.local:=f1.elim id fun h=>nomatch h.1
 exact ⟨nm_at hi▸e1,x,hi,nm_at hi⟩
theorem ss_swp {i j:Nat} {a b:X} {pi pj pt pv p:Pos} (WK:WOk W) (TK:TblOk W d T) (hw:(S.swp i j a b pi pj pt pv p).wf ns=true):SS W d ns (ex T (.swp i j a b pi pj pt pv p)) fun env=>exec ((S.swp i j a b pi pj pt pv p).dec ns) env:=by
 intro ms fl ms' hr A env s ρ ρ0 s0 itv rm I
 have hlj:=(and2 hw).2
 obtain ⟨⟨⟨h2,hij⟩,hl⟩,hli⟩:=and4 (and2 hw).1
 obtain ⟨⟨⟨⟨⟨hi,hj⟩,hwa⟩,hwb⟩,hva⟩,hvb⟩:=and6 h2
 obtain ⟨e1,ni,hni,n1⟩:=locKind I.fr hli
 obtain ⟨e2,nj,hnj,n2⟩:=locKind I.fr hlj
 have hne:nm ns i≠nm ns j:=fun h=>bne_iff_ne.mp hij (names_inj I.fr.nodup hni ((n1.symm.trans (h.trans n2))▸hnj))
 obtain ⟨ka,qa,rfl⟩:=isVar_is hva
 obtain ⟨kb,qb,rfl⟩:=isVar_is hvb
 refine optFk hr fun x o1 h1 hr=>optFk hr fun y o2 h2 hr=>inj2m hr ?_
 have hd:(nm ns ka==("__debug__" :Str))=false:=by
  obtain ⟨⟨z,kz⟩,hz,_⟩:=any1 (show (ns[ka]?.any _)=true from hwa)
  rw [nm_at hz];exact (I.fr.plain _ (List.mem_of_getElem? hz)).1
 have hT:=(sound WK TK ns (.tup (.var ka qa) (.var kb qb) pv) (Bool.and_eq_true_iff.mpr ⟨hwa,hwb⟩)).1
 have hev:ev T (.tup (.var ka qa) (.var kb qb) pv) ms.vars ms.objs=some (.fv (.pair x y),o2):=by
  show (match ev T (.var ka qa) ms.vars ms.objs with|some (.fv x,o1)=>(match ev T (.var kb qb) ms.vars o1 with|some (.fv y,o2)=>some (MV.fv (.pair x y),o2)|_=>none)|_=>none)=_
  rw [h1];show (match ev T (.var kb qb) ms.vars o1 with|some (.fv y,o2)=>some (MV.fv (.pair x y),o2)|_=>none)=_
  rw [h2]
 refine Assign_Tuple_swapped (names:=[nm ns i,nm ns j]) (I.seq hT hev rm fun ρ1 s1 u I1 k1 _ r=>?_) rfl (swapped_vars e1 e2 (eq_of_beq hl) I.fr.kind hne hd)
 obtain ⟨t,u1,w1,n,rfl,g,r1,r2⟩:=r
 refine unpackItems_tuple (items:= #[u1,w1]) rm.quiet ⟨_,g,rfl,n,rfl⟩ fun h' he=>?_
 have k:∀b o,s1.heap.get? b=some o→h'.get? b=some o:=fun b o e=>he b o (fun hb=>dead (hb▸e) (fresh_size _)) e
 have I1':=(I1.expr (Ok.keepAll I1.ok.rel k s1.toks)).1
 exact wpAny_bind (m:=holding [u1] (bindName env (nm ns j) w1)) (wpAny_holding (wpAny_bindName (I1'.store hj (mv:=.fv y) rfl (FRel.keep (keepImm_of k) r2) fun s2 I2 k2 _=>
  wpAny_bind (m:=holding [] (bindName env (nm ns i) u1)) (wpAny_holding (wpAny_bindName (I2.store hi (mv:=.fv x) rfl (FRel.keep (fun b o e im=>k2.imm b o (k b o e) im) r1) fun s3 I3 k3 _=>wpAny_pure ⟨ρ1,rfl,I3,I2.tr (I1'.tr (I1.tr k1 (KeptS.all k)) k2) k3⟩))))))
theorem set_item {A:Around} {E:Value→Shared→Prop} {env:Env} {s0 s3:Shared} {ρ0 ρ3:List Addr} {itv:List Value} {ms:MS} {o3:List MO} {r:Nat} {k:Int} {v:FV} {u ov:Value} {xs:List FV} {t:Tok} {tk:Nat} {Q:Unit→Shared→Prop} (I:SInv W ρ0 s0 env ns itv {ms with objs:=o3} ρ3 s3) (hx:listAt o3 r=some xs) (ro:VRel W ρ3 s3.heap (.ref r) ov) (h0:0≤k) (hlt:k<xs.length) (hlim:xs.length≤lenLim)
  (rv:∀h',KeepImm s3.heap h'→FRel h' v u) (q:∀s4,SInv W ρ0 s0 env ns itv {ms with objs:=o3.set r (.list (xs.set k.toNat v))} ρ3 s4→KeptS env ρ3 s3 ρ3 s4→Q () s4):
  wpAny (model W.prog W.w) A (setItem ov (.int k t) u) Q E {s3 with toks:=tk}:=by
 obtain ⟨a,vs,n,rfl,q',g,al,el⟩:=I.ok.rel.list hx ro
 refine setItem_plain (s:={s3 with toks:=tk}) g h0 (Int.lt_of_lt_of_le hlt (Int.le_trans (Int.ofNat_le.mpr hlim) (by decide))) (el▸hlt) fun h' c' g' hs=>?_
 have K4:Ok W ρ3 s3 ρ3 (o3.set r (.list (xs.set k.toNat v))) {s3 with heap:=h',toks:=tk}:=Ok.set I.ok.rel q' (mo:=.list _) (fun b o hb e=>(hs.2 b hb).trans e) (fun o e hd=>by
  obtain rfl:_=o:=Option.some.inj (g.symm.trans e)
  exact hd.elim (fun h=>h.elim fun _ h=>nomatch h) fun h=>absurd (show Value.type "list" =Value.type "dict" from h) (by decide)) (fun ki=>⟨_,c',g',by
  rw [Array.toList_setIfInBounds]
  exact (al.imp fun _ _=>FRel.keep ki).set k.toNat (rv h' ki)⟩) tk
 exact q _ (I.expr K4).1 (I.expr K4).2
theorem ss_asgS {o i e:X} {ps p:Pos} (WK:WOk W) (TK:TblOk W d T) (hw:(S.asgS o i e ps p).wf ns=true):SS W d ns (ex T (.asgS o i e ps p)) fun env=>exec ((S.asgS o i e ps p).dec ns) env:=by
 intro ms fl ms' hr A env s ρ ρ0 s0 itv rm I
 obtain ⟨⟨hwo,hwi⟩,hwe⟩:=and3 hw
 refine optFk hr fun v o1 h1 hr=>optRk hr fun r o2 h2 hr=>optIk hr fun k o3 h3 hr=>opt1k hr fun xs hx hr=>ifk hr fun hh hr=>inj2m hr ?_
 obtain ⟨hh,hlim⟩:=decA hh
 refine wpAny_Assign_Subscript (I.seq (sound WK TK ns e hwe).1 h1 rm fun ρ1 s1 u I1 k1 K1 r1=>I1.seq (sound WK TK ns o hwo).1 h2 rm fun ρ2 s2 ov I2 k2 K2 r2=>I2.seq (sound WK TK ns i hwi).1 h3 rm fun ρ3 s3 iv I3 k3 K3 r3=>?_) (swaps_sub ns e _ _ _ _ env)
 obtain ⟨t,rfl⟩:=r3
 exact set_item (ms:=ms) (tk:=s3.toks) I3 hx (K3.vrel K2.rel r2) (dec2 hh).1 (dec2 hh).2 hlim (fun h' ki=>FRel.keep ki (K3.frel K2.rel (K2.frel K1.rel r1))) fun s4 I4 k4=>⟨ρ3,rfl,I4,I3.tr (I2.tr (I1.tr k1 k2) k3) k4⟩
theorem inpl_ok {A:Around} {ρ:List Addr} {objs objs':List MO} {s:Shared} {op:BO} {a b:FV} {mv:MV} {va vb:Value} (ho:op.inpl=true) (e:binop op (.fv a) (.fv b) objs=some (mv,objs')) (R:ORel W ρ objs s.heap) (ra:FRel s.heap a va) (rb:FRel s.heap b vb):
  wpAny (model W.prog W.w) A (inplaceOp op.op va vb) (fun v s'=>PostE W ρ s mv objs' v s'∧mv.plain=true) NoE s:=by
 have rb:VRel W ρ s.heap (.fv b) vb:=rb
 cases a with
 |int i=>
  obtain ⟨t,rfl⟩:=ra
  exact wIk e rb fun j u e=>mapk e fun c e q=>injPm q (iarith_ok ho e ⟨PostE.toks R fint _,rfl⟩)
 |str l=>
  obtain ⟨t,rfl⟩:=ra
  cases op with
  |add=>exact wSk e rb fun l' u e=>ifk e fun h e=>inj2m e (PyProof.Rows.iadd_str (fun t' tk=>by rw [str_append];exact ⟨PostE.toks R fstr _,rfl⟩) (by rw [str_len,str_len];exact lim_fits h))
  |mul=>exact Bool.noConfusion ho
  |_=>exact non e
 |_=>exact non e
theorem load_stOk {A:Around} {env:Env} {s:Shared} {ρ:List Addr} {vars:List MV} {i:Nat} {mv:MV} {Q:Value→Shared→Prop} (F:FR W env ns vars ρ s.heap) (hi:stOk ns i=true) (e:vars[i]?=some mv) (hu:mv≠.unb) (h:∀v,VRel W ρ s.heap mv v→Q v s):
  wpAny (model W.prog W.w) A (loadName env (nm ns i)) Q NoE s:=by
 obtain ⟨x,k,hx,hk,hxh,hxn⟩:=stOk_is hi
 rw [hxn]
 exact loadVar_ok F hx (hk.imp id .inl) e hu h
theorem optAk {γ:Type} {G:Prop} {r:γ} {x:Option MV} {f:FV→Option γ} (h:(match x with|some (.fv a)=>f a|_=>none)=some r) (k:∀a,x=some (.fv a)→f a=some r→G):G:=by
 cases x with
 |none=>exact non h
 |some a=>cases a with|fv a=>exact k a rfl h|_=>exact non h
theorem ss_aug {i:Nat} {op:BO} {e:X} {pn p:Pos} (WK:WOk W) (TK:TblOk W d T) (hw:(S.aug i op e pn p).wf ns=true):SS W d ns (ex T (.aug i op e pn p)) fun env=>exec ((S.aug i op e pn p).dec ns) env:=by
 intro ms fl ms' hr A env s ρ ρ0 s0 itv rm I
 obtain ⟨⟨hi,hwe⟩,ho⟩:=and3 hw
 refine optAk hr fun a ha hr=>optFk hr fun b o1 h1 hr=>opt2k hr fun c o2 h2 hr=>inj2m hr ?_
 exact wpAny_AugAssign_Name (load_stOk I.fr hi ha (fun h=>nomatch h) fun va ra=>I.seq (sound WK TK ns e hwe).1 h1 rm fun ρ1 s1 vb I1 k1 K1 r1=>
  wpAny_mono (inpl_ok ho h2 K1.rel (K1.frel I.ok.rel ra) r1) (fun vc s2 P=>P.1.elim fun ρ2 P2=>(I1.expr P2.1).elim fun I2 k2=>I2.store hi P.2 P2.2 fun s3 I3 k3 _=>⟨ρ2,rfl,I3,I2.tr (I1.tr k1 k2) k3⟩) NoE.imp)
theorem aug_sub {A:Around} {env:Env} {s:Shared} {o i value:Expr} {op:Operator} {spos pos:Pos} {Q:Flow→Shared→Prop}
  (h:wpAny (model W.prog W.w) A (eval o env) (fun ov s1=>wpAny (model W.prog W.w) A (eval i env) (fun iv s2=>wpAny (model W.prog W.w) A (getItem ov iv) (fun old s3=>wpAny (model W.prog W.w) A (eval value env) (fun v s4=>
   wpAny (model W.prog W.w) A (inplaceOp op old v) (fun new s5=>wpAny (model W.prog W.w) A (setItem ov iv new) (fun _ s6=>Q .next s6) NoE s5) NoE s4) NoE s3) NoE s2) NoE s1) NoE s)
  (hi:∀ov iv new,augStore i ov iv new=(do holding [new,ov,iv] (setItem ov iv new);release [new,ov,iv] [];pure .next)):wpAny (model W.prog W.w) A (exec (.AugAssign (.Subscript o i spos) op value pos) env) Q NoE s:=by
 rw [arm_exec_AugAssign_3]
 refine wpAny_bind (wpAny_standAt (wpAny_bind (wpAny_mono h (fun ov s1 h1=>?_) NoE.imp)))
 refine wpAny_bind (wpAny_holding (wpAny_mono h1 (fun iv s2 h2=>?_) NoE.imp))
 refine wpAny_bind (wpAny_holding (wpAny_bind (wpAny_standAt (wpAny_bind (wpAny_mono h2 (fun old s3 h3=>?_) NoE.imp)))))
 refine wpAny_bind (wpAny_holding (wpAny_mono h3 (fun v s4 h4=>?_) NoE.imp))
 refine wpAny_bind (wpAny_standAt (wpAny_operate' (wpAny_mono h4 (fun new s5 h5=>?_) NoE.imp)))
 refine wpAny_bind (wpAny_standAt ?_)
 rw [hi]
 exact wpAny_bind (wpAny_holding (wpAny_mono h5 (fun _ s6 h6=>wpAny_bind (wpAny_release' (wpAny_pure h6))) NoE.imp))
theorem aug_dec (ns:Names) (i:X) (ov iv new:Value):augStore (i.dec ns) ov iv new=(do holding [new,ov,iv] (setItem ov iv new);release [new,ov,iv] [];pure .next):=by
 cases i with
 |bi b=>cases b<;>rfl
 |_=>rfl
theorem optJk {γ:Type} {G:Prop} {r:γ} {x:Option FV} {f:Int→Option γ} (h:(match x with|some (.int a)=>f a|_=>none)=some r) (k:∀a,x=some (.int a)→f a=some r→G):G:=by
 cases x with
 |none=>exact non h
 |some a=>cases a with|int a=>exact k a rfl h|_=>exact non h
theorem optik {γ:Type} {G:Prop} {r:γ} {x:Option Int} {f:Int→Option γ} (h:(match x with|some a=>f a|none=>none)=some r) (k:∀a,x=some a→f a=some r→G):G:=by
 cases x with|none=>exact non h|some a=>exact k a rfl h
theorem ss_augS {o i e:X} {op:BO} {ps p:Pos} (WK:WOk W) (TK:TblOk W d T) (hw:(S.augS o i op e ps p).wf ns=true):SS W d ns (ex T (.augS o i op e ps p)) fun env=>exec ((S.augS o i op e ps p).dec ns) env:=by
 intro ms fl ms' hr A env s ρ ρ0 s0 itv rm I
 obtain ⟨⟨⟨hwo,hwi⟩,hwe⟩,hop⟩:=and4 hw
 refine optRk hr fun r o1 h1 hr=>optIk hr fun k o2 h2 hr=>opt1k hr fun xs hx hr=>ifk hr fun hh hr=>optJk hr fun a hxa hr=>optIk hr fun b o3 h3 hr=>optik hr fun c hc hr=>opt1k hr fun ys hy hr=>ifk hr fun hh2 hr=>inj2m hr ?_
 obtain ⟨hh,hlim⟩:=decA hh
 refine aug_sub (I.seq (sound WK TK ns o hwo).1 h1 rm fun ρ1 s1 ov I1 k1 K1 r1=>I1.seq (sound WK TK ns i hwi).1 h2 rm fun ρ2 s2 iv I2 k2 K2 r2=>?_) (aug_dec ns i)
 obtain ⟨t,rfl⟩:=r2
 have ro2:=K2.vrel K1.rel r1
 obtain ⟨ad,vs,n,rfl,q,g,al,el⟩:=K2.rel.list hx ro2
 obtain ⟨old,hold,rold⟩:=al.get hxa
 refine wpAny_getItem_list (x:=old) (list_isList g) (dec2 hh).1 (Int.lt_of_lt_of_le (dec2 hh).2 (Int.le_trans (Int.ofNat_le.mpr hlim) (by decide))) (Array.getElem?_toList▸hold) (I2.seq (sound WK TK ns e hwe).1 h3 rm fun ρ3 s3 vb I3 k3 K3 r3=>?_)
 obtain ⟨tb,rfl⟩:=r3
 obtain ⟨ta,rfl⟩:=rold
 exact iarith_ok hop hc (set_item (ms:=ms) (v:=.int c) I3 hy (K3.vrel K2.rel ro2) (dec2 hh).1 (dec2 hh2).1 (dec2 hh2).2 (fun h' ki=>⟨_,rfl⟩) fun s4 I4 k4=>⟨ρ3,rfl,I4,I3.tr (I2.tr (I1.tr k1 k2) k3) k4⟩)
theorem ss_iff {t:X} {b e:Ss} {p:Pos} (WK:WOk W) (TK:TblOk W d T) (hw:t.wf ns=true) (hb:SS W d ns (exs T b) fun env=>execs (b.dec ns) env) (he:SS W d ns (exs T e) fun env=>execs (e.dec ns) env):
  SS W d ns (ex T (.iff t b e p)) fun env=>exec ((S.iff t b e p).dec ns) env:=by
 intro ms fl ms' hr A env s ρ ρ0 s0 itv rm I
 refine wpAny_If (optBk hr (fun o h1 hr=>I.test (sound WK TK ns t hw).2 h1 rm fun ρ1 s1 I1 k1=>?_) fun o h1 hr=>I.test (sound WK TK ns t hw).2 h1 rm fun ρ1 s1 I1 k1=>?_)
 ·exact lastS I1 k1 (hb _ _ _ hr A env s1 ρ1 ρ0 s0 itv rm I1)
 ·exact lastS I1 k1 (he _ _ _ hr A env s1 ρ1 ρ0 s0 itv rm I1)
theorem ss_ret {e:X} {p:Pos} (WK:WOk W) (TK:TblOk W d T) (hw:e.wf ns=true):SS W d ns (ex T (.ret e p)) fun env=>exec ((S.ret e p).dec ns) env:=by
 intro ms fl ms' hr A env s ρ ρ0 s0 itv rm I
 exact opt2k hr fun v o h1 hr=>inj2m hr (wpAny_Return_some (I.seq (sound WK TK ns e hw).1 h1 rm fun ρ1 s1 u I1 k1 _ r1=>⟨ρ1,⟨u,rfl,r1⟩,I1,k1⟩))
theorem ss_brk {p:Pos}:SS W d ns (ex T (.brk p)) fun env=>exec ((S.brk p).dec ns) env:=by
 intro ms fl ms' hr A env s ρ ρ0 s0 itv rm I
 exact inj2m hr (wpAny_Break ⟨ρ,rfl,I,KeptS.refl⟩)
theorem ss_xp {e:X} {p:Pos} (WK:WOk W) (TK:TblOk W d T) (hw:(S.xp e p).wf ns=true):SS W d ns (ex T (.xp e p)) fun env=>exec ((S.xp e p).dec ns) env:=by
 intro ms fl ms' hr A env s ρ ρ0 s0 itv rm I
 exact opt2k hr fun v o h1 hr=>inj2m hr (wpAny_Expr_any (I.seq (sound WK TK ns e (and2 hw).1).1 h1 rm fun ρ1 s1 u I1 k1 _ r1=>⟨ρ1,rfl,I1,k1⟩) (by unfold interactive;rw [I.fr.kind];rfl) (swaps_no ns e (not_true (and2 hw).2) _ _ env))
theorem ss_dead {st:Stmt}:SS W d ns (ex T (.dead st)) fun env=>exec ((S.dead st).dec ns) env:=fun _ _ _ hr=>non hr
theorem ss_nil:SS W d ns (exs T .nil) fun env=>execs (Ss.nil.dec ns) env:=by
 intro ms fl ms' hr A env s ρ ρ0 s0 itv rm I
 exact inj2m hr (wpAny_execs_nil ⟨ρ,rfl,I,KeptS.refl⟩)
theorem optfk {G:Prop} {x:Option (Fl × MS)} {f:MS→Option (Fl × MS)} {r:Fl × MS} (h:(match x with|some (.next,s')=>f s'|some (fl,s')=>some (fl,s')|none=>none)=some r) (k:∀s,x=some (.next,s)→f s=some r→G) (k':x=some r→r.1≠.next→G):G:=by
 cases x with
 |none=>exact non h
 |some p=>
  obtain ⟨fl,s⟩:=p
  cases fl with
  |next=>exact k s rfl h
  |brk=>exact k' h (Option.some.inj h▸fun e=>nomatch e)
  |ret v=>exact k' h (Option.some.inj h▸fun e=>nomatch e)
theorem ss_cons {a:S} {r:Ss} (ha:SS W d ns (ex T a) fun env=>exec (a.dec ns) env) (hr':SS W d ns (exs T r) fun env=>execs (r.dec ns) env):SS W d ns (exs T (.cons a r)) fun env=>execs ((Ss.cons a r).dec ns) env:=by
 intro ms fl ms' hr A env s ρ ρ0 s0 itv rm I
 refine wpAny_execs_cons (optfk (G:=wpAny _ _ _ _ _ _) hr (fun ms1 h1 hr=>?_) fun h1 hne=>?_)
 ·refine wpAny_mono (ha _ _ _ h1 A env s ρ ρ0 s0 itv rm I) (fun f s1 P=>?_) NoE.imp
  obtain ⟨ρ1,rfl,I1,k1⟩:=P
  exact lastS I1 k1 (hr' _ _ _ hr A env s1 ρ1 ρ0 s0 itv rm I1)
 ·refine wpAny_mono (ha _ _ _ h1 A env s ρ ρ0 s0 itv rm I) (fun f s1 P=>?_) NoE.imp
  obtain ⟨ρ1,hf,P⟩:=P
  cases fl with
  |next=>exact (hne rfl).elim
  |brk=>cases hf;exact ⟨ρ1,rfl,P⟩
  |ret mv=>obtain ⟨v,rfl,r⟩:=hf;exact ⟨ρ1,⟨v,rfl,r⟩,P⟩
theorem ss_gc {r:Ss} (hr':SS W d ns (exs T r) fun env=>execs (r.dec ns) env):SS W d ns (exs T (.gc r)) fun env=>execs ((Ss.gc r).dec ns) env:=by
 intro ms fl ms' hr A env s ρ ρ0 s0 itv rm I
 obtain ⟨ρ1,I1,k1⟩:=I.gc
 exact lastS I1 k1 (hr' _ _ _ hr A env s ρ1 ρ0 s0 itv rm I1)
end
end
section
noncomputable def Cog (o:Obj):Prop:=(o.cls=.type "enumerate" ∨o.cls=.type "str_ascii_iterator" ∨o.cls=.type "str_iterator")∧∃vs,o.data=.fields vs
noncomputable def Priv (P:List Addr) (hi:Heap) (b:Addr) (o:Obj):Prop:=b∈P∨(Cog o∧hi.get? b=none)
structure PrivStep (P:List Addr) (hi:Heap) (g0:Option Nat) (s s1:Shared):Prop where
 heap:∀b o,s.heap.get? b=some o→¬Priv P hi b o→s1.heap.get? b=some o
 os:s1.os=s.os
 gens:∀(g:Nat) (st:GenState),s.gens[g]?=some st→some g≠g0→s1.gens[g]?=some st
 bare:AllBare s.gens→AllBare s1.gens
noncomputable def PObj (W:W0) (o:Obj):Prop:=¬Imm o∧(∀(t:Tok) (la:Addr) (n:Nat),o≠dictOf [⟨W.hkey,.str "_headers" t,.ref la⟩] n)∧∀n,o≠{cls:=.type "dict",data:=.dict #[] n}
theorem Cog.no {o:Obj} (c:Cog o) {T:String} (h:o.cls=.type T) (n:¬(T= "enumerate" ∨T= "str_ascii_iterator" ∨T= "str_iterator")):False:=
 n (c.1.imp (fun c=>Value.type.inj (h.symm.trans c)) fun c=>c.imp (fun c=>Value.type.inj (h.symm.trans c)) fun c=>Value.type.inj (h.symm.trans c))
theorem PObj.cog {W:W0} {o:Obj} (c:Cog o):PObj W o:=
 ⟨fun h=>h.elim (fun h=>c.no h.1 (by decide)) fun h=>c.no h.1 (by decide),fun t la n e=>c.no (T:= "dict") (e▸rfl) (by decide),fun n e=>c.no (T:= "dict") (e▸rfl) (by decide)⟩
section
variable {W:W0} {ρ ρ0 ρ1 ρi:List Addr} {s s0 s1 si:Shared} {env:Env} {ns:Names} {itv:List Value} {ms:MS} {P:List Addr} {g0:Option Nat} {hi:Heap}
theorem ORel.notCog {objs:List MO} {h:Heap} (R:ORel W ρ objs h) {a:Addr} {o:Obj} (m:a∈ρ) (e:h.get? a=some o) (c:Cog o):False:=by
 obtain ⟨i,hi,rfl⟩:=List.mem_iff_getElem.mp m
 have hl:i<objs.length:=R.len▸hi
 obtain ⟨o',e',q⟩:=(R.objs i objs[i] ρ[i] (List.getElem?_eq_getElem hl) (List.getElem?_eq_getElem hi)).cls
 obtain rfl:o=o':=Option.some.inj (e.symm.trans e')
 rcases q with ⟨k,hk⟩|⟨T,hT,hTT⟩
 ·exact c.1.elim (fun h=>nomatch hk.symm.trans h) fun h=>h.elim (fun h=>nomatch hk.symm.trans h) fun h=>nomatch hk.symm.trans h
 ·exact c.no hT fun h=>by rcases hTT with rfl|rfl|rfl<;>exact absurd h (by decide)
noncomputable def PrivOk (W:W0) (P:List Addr) (hi:Heap) (ρ:List Addr) (s0:Shared) (env:Env) (s:Shared):Prop:=
 ∀b o,s.heap.get? b=some o→Priv P hi b o→PObj W o∧s0.heap.get? b=none∧W.h0.get? b=none∧hi.get? b=none∧b∉ρ∧b∉ownOf env
theorem priv_imm (hp:PrivOk W P hi ρ s0 env s) (st:PrivStep P hi g0 s s1):KeepImm s.heap s1.heap:=fun b o e im=>st.heap b o e fun m=>(hp b o e m).1.1 im
theorem VRel.priv (hp:PrivOk W P hi ρ0 s0 env s) (st:PrivStep P hi g0 s s1) {x:MV} {v:Value} (r:VRel W ρ s.heap x v):VRel W ρ s1.heap x v:=by
 have ki:=priv_imm hp st
 cases x with
 |fv x=>exact FRel.keep ki r
 |rng a b c=>exact r.imp fun r p=>p.imp fun t p=>p.imp fun u p=>p.imp fun w p=>⟨p.1,ki _ _ p.2 (.inr ⟨rfl,_,rfl⟩)⟩
 |edict=>exact r.imp fun d p=>p.imp fun n p=>⟨p.1,p.2.1,st.heap _ _ p.2.2 fun m=>(hp _ _ p.2.2 m).1.2.2 n rfl⟩
 |_=>exact r
theorem SInv.priv (I:SInv W ρ0 s0 env ns itv ms ρ s) (hp:PrivOk W P hi ρ s0 env s) (hg:∀g,g0=some g→s0.gens[g]?=none) (st:PrivStep P hi g0 s s1):SInv W ρ0 s0 env ns itv ms ρ s1:=by
 have k0:∀b o o',s0.heap.get? b=some o→s.heap.get? b=some o'→s1.heap.get? b=some o':=fun b o o' e e'=>st.heap b o' e' fun m=>dead e (hp b o' e' m).2.1
 have out:∀{b},b∈ρ→∀o,s.heap.get? b=some o→s1.heap.get? b=some o:=fun m o e=>st.heap _ o e fun q=>(hp _ o e q).2.2.2.2.1 m
 exact ⟨⟨I.ok.grows,⟨fun b o e n=>k0 b o o e (I.ok.step.keep b o e n),fun b o e q=>k0 b o o e (I.ok.step.inst b o e q),st.os.trans I.ok.step.os,fun g x e=>st.gens g x (I.ok.step.gens g x e) fun h=>(nomatch (hg g h.symm).symm.trans e),fun b=>st.bare (I.ok.step.bare b)⟩,
  ⟨I.ok.rel.len,I.ok.rel.nodup,fun i mo b e1 e2=>ObjIs.move (out (List.mem_of_getElem? e2)) (priv_imm hp st) (fun _ e=>st.heap _ _ e fun m=>(hp _ _ e m).1.2.1 _ _ _ rfl) (I.ok.rel.objs i mo b e1 e2),I.ok.rel.new,fun b o e=>st.heap b o (I.ok.rel.base b o e) fun m=>dead e (hp b o (I.ok.rel.base b o e) m).2.2.1⟩⟩,
  I.fr.keep (fun b hb o e=>st.heap b o e fun m=>(hp b o e m).2.2.2.2.2 hb) (fun b hb=>(I.fr.apart b hb).1) fun x _ v r=>r.priv hp st,I.own,I.its.imp fun x v r=>r.priv hp st,I.ine,I.n⟩
theorem KeptS.priv (k:KeptS env ρi si ρ s) (hp:PrivOk W P si.heap ρ0 s0 env s) (hgi:∀g,g0=some g→si.gens[g]?=none) (st:PrivStep P si.heap g0 s s1):KeptS env ρi si ρ s1:=by
 have k0:∀b o o',si.heap.get? b=some o→s.heap.get? b=some o'→s1.heap.get? b=some o':=fun b o o' e e'=>st.heap b o' e' fun m=>dead e (hp b o' e' m).2.2.2.1
 exact ⟨fun b o e h1 h2=>k0 b o o e (k.kp b o e h1 h2),k.sub,fun b o e im=>k0 b o o e (k.imm b o e im),fun g x e=>st.gens g x (k.gens g x e) fun h=>(by rw [hgi g h.symm] at e;cases e),fun b o e=>by
  obtain ⟨o',e'⟩:=k.live b o e
  exact ⟨o',k0 b o o' e e'⟩⟩
structure PrivNew (W:W0) (P:List Addr) (g0:Option Nat) (s0 si:Shared) (env:Env):Prop where
 priv:∀a∈P,s0.heap.get? a=none∧W.h0.get? a=none∧si.heap.get? a=none∧a∉ownOf env
 gen:∀g,g0=some g→s0.gens[g]?=none∧si.gens[g]?=none
 si:∀b,si.heap.get? b=none→s0.heap.get? b=none∧W.h0.get? b=none∧b∉ownOf env
structure ForIt (W:W0) (A:Around) (P:List Addr) (g0:Option Nat) (hi:Heap) (Inv:MS→List Addr→Shared→Prop) (target:Expr) (it:Value) (full:List FV) (orig:Option MO) (It:Shared→Nat→Prop):Prop where
 next:∀{ms ρ s i x},Inv ms ρ s→(origOf (ms.its.headD .unb) ms.objs==orig)=true→It s i→full[i]?=some x→
   wpAny (model W.prog W.w) A (pyNext it) (fun r s1=>∃u,r=some u∧PrivStep P hi g0 s s1∧FRel s1.heap x u∧(∀a∈P,∃o,s1.heap.get? a=some o∧PObj W o)∧
    wpAny (model W.prog W.w) A (letOwnedTupleGo target it u) (fun _ s2=>PrivStep P hi g0 s1 s2∧It s2 (i+1)) NoE s1) NoE s
 done:∀{ms ρ s i},Inv ms ρ s→(origOf (ms.its.headD .unb) ms.objs==orig)=true→It s i→full[i]?=none→wpAny (model W.prog W.w) A (pyNext it) (fun r s1=>r=none∧PrivStep P hi g0 s s1) NoE s
 keep:∀{s s1 i},It s i→(∀b o,s.heap.get? b=some o→Priv P hi b o→s1.heap.get? b=some o)→KeepImm s.heap s1.heap→(∀(g:Nat) (st:GenState),s.gens[g]?=some st→s1.gens[g]?=some st)→(∀a o,W.h0.get? a=some o→s1.heap.get? a=some o)→It s1 i
 pobj:∀{s i},It s i→∀a∈P,∃o,s.heap.get? a=some o∧PObj W o
inductive FLoop (P:List Addr) (Inv:MS→List Addr→Shared→Prop) (Kp:List Addr→Shared→Prop) (full:List FV) (It:Shared→Nat→Prop) (run:List FV→MS→Prop) (m:Nat) (s:Shared):Prop
 |mk {rem:List FV} {ms:MS} {ρ:List Addr} {i:Nat}:rem.length=m→run rem ms→Inv ms ρ s→It s i→full.drop i=rem→Kp ρ s→(∀a∈P,a∉ρ)→FLoop P Inv Kp full It run m s
theorem PrivNew.ok (N:PrivNew W P g0 s0 si env) {ms:MS} {ρ:List Addr} {s:Shared} (I:SInv W ρ0 s0 env ns itv ms ρ s) (hpo:∀a∈P,∃o,s.heap.get? a=some o∧PObj W o) (ho:∀a∈P,a∉ρ):PrivOk W P si.heap ρ s0 env s:=by
 intro b o e m
 rcases m with m|⟨m,hn⟩
 ·obtain ⟨o',e',p⟩:=hpo b m
  obtain ⟨q1,q2,q3,q4⟩:=N.priv b m
  exact ⟨Option.some.inj (e'.symm.trans e)▸p,q1,q2,q3,ho b m,q4⟩
 ·obtain ⟨q1,q2,q4⟩:=N.si b hn
  exact ⟨PObj.cog m,q1,q2,hn,fun h=>I.ok.rel.notCog h e m,q4⟩
theorem turnk {G:Prop} {step:FV→MS→Option (Fl × MS)} {orig:Option MO} {x:FV} {r:List FV} {ms msF:MS} {res:Option Fl} (h:turns step orig (x::r) ms=some (res,msF)) (k:∀fl ms',(origOf (ms.its.headD .unb) ms.objs==orig)=true→step x ms=some (fl,ms')→(fl=.next→turns step orig r ms'=some (res,msF))→(fl≠.next→res=some (match fl with|.brk=>.next|fl=>fl)∧msF=ms')→G):G:=
 ifk h fun ho h=>by
  cases e:step x ms with
  |none=>rw [e] at h;exact non h
  |some p=>
   obtain ⟨fl,ms'⟩:=p
   rw [e] at h
   refine k fl ms' ho e (fun q=>by subst q;exact h) fun q=>?_
   cases fl with
   |next=>exact (q rfl).elim
   |_=>exact ⟨(congrArg Prod.fst (Option.some.inj h)).symm,(congrArg Prod.snd (Option.some.inj h)).symm⟩
theorem flow_fin {I:Nat→Shared→Prop} {Post:Flow→Shared→Prop} {m:Nat} {fl:Fl} {f:Flow} {s3:Shared} {ms':MS} (P:PostS W ρ0 s0 env ns itv ms' fl ρ s f s3) (kn:fl=.next→∀ρ',SInv W ρ0 s0 env ns itv ms' ρ' s3→KeptS env ρ s ρ' s3→∃m',m'<m∧I m' s3)
  (kx:fl≠.next→∀ρ' f',FlRel W ρ' s3.heap (match fl with|.brk=>.next|fl=>fl) f'→SInv W ρ0 s0 env ns itv ms' ρ' s3→KeptS env ρ s ρ' s3→Post f' s3):(match (generalizing:=false) f with|.next|.cont=>∃m',m'<m∧I m' s3|.brk=>Post .next s3|.ret v=>Post (.ret v) s3):=by
 obtain ⟨ρ',hf,I3,k3⟩:=P
 cases fl with
 |next=>cases hf;exact kn rfl ρ' I3 k3
 |brk=>cases hf;exact kx (fun h=>nomatch h) ρ' .next rfl I3 k3
 |ret mv=>obtain ⟨v,rfl,rv⟩:=hf;exact kx (fun h=>nomatch h) ρ' (.ret v) ⟨v,rfl,rv⟩ I3 k3
theorem for_loop {A:Around} {target:Expr} {body orelse:List Stmt} {it xv:Value} {full:List FV} {orig:Option MO} {It:Shared→Nat→Prop} {step:FV→MS→Option (Fl × MS)} {res:Option Fl} {msF:MS} {Post:Flow→Shared→Prop}
  (F:ForIt W A P g0 si.heap (fun ms ρ s=>SInv W ρ0 s0 env ns (xv::itv) ms ρ s∧KeptS env ρi si ρ s) target it full orig It) (N:PrivNew W P g0 s0 si env)
  (hbody:∀x u ms fl ms' ρ s,step x ms=some (fl,ms')→SInv W ρ0 s0 env ns (xv::itv) ms ρ s→FRel s.heap x u→wpAny (model W.prog W.w) A (assign target env u) (fun _ s2=>wpAny (model W.prog W.w) A (execs body env) (PostS W ρ0 s0 env ns (xv::itv) ms' fl ρ s) NoE s2) NoE s)
  (helse:∀ρ s,res=none→SInv W ρ0 s0 env ns (xv::itv) msF ρ s→KeptS env ρi si ρ s→wpAny (model W.prog W.w) A (execs orelse env) Post NoE s)
  (hdone:∀fl ρ s f,res=some fl→SInv W ρ0 s0 env ns (xv::itv) msF ρ s→FlRel W ρ s.heap fl f→KeptS env ρi si ρ s→Post f s)
  {ms0:MS} (hrun:turns step orig full ms0=some (res,msF)) (hI:SInv W ρ0 s0 env ns (xv::itv) ms0 ρ s) (hit:It s 0) (hk:KeptS env ρi si ρ s) (hout:∀a∈P,a∉ρ):
  codeAny (model W.prog W.w) A (.forLoop target it body orelse env) (fun r s'=>match r with|.ok f=>Post f s'|.error e=>cameBackBy (model W.prog W.w) A env NoE e s') s:=by
 refine codeAny_forLoop_any (FLoop P (fun ms ρ s=>SInv W ρ0 s0 env ns (xv::itv) ms ρ s) (fun ρ s=>KeptS env ρi si ρ s) full It fun rem ms=>turns step orig rem ms=some (res,msF)) (fun m s hIs=>?_) full.length ⟨rfl,hrun,hI,hit,List.drop_zero,hk,hout⟩
 clear hrun hI hit hk hout
 cases hIs with
 | @mk rem ms ρ i hm hrun hI hit hrem hk hout=>
 have hpo:=N.ok hI (F.pobj hit) hout
 cases rem with
 |nil=>
  refine ifk hrun fun ho hrun=>?_
  obtain ⟨rfl,rfl⟩:=Prod.mk.inj (Option.some.inj hrun)
  refine wpAny_mono (F.done ⟨hI,hk⟩ ho hit (List.getElem?_eq_none_iff.mpr (List.drop_eq_nil_iff.mp hrem))) (fun r s1 Q=>?_) NoE.imp
  obtain ⟨rfl,st⟩:=Q
  exact wpAny_mono (helse ρ s1 rfl (hI.priv hpo (fun g h=>(N.gen g h).1) st) (hk.priv hpo (fun g h=>(N.gen g h).2) st)) (fun f s3 h=>h) NoE.imp
 |cons x r=>
  refine turnk hrun fun fl ms' ho hst hn hx=>?_
  obtain ⟨hsome,hdrop⟩:=drop_cons hrem
  refine wpAny_mono (F.next ⟨hI,hk⟩ ho hit hsome) (fun u s1 Q=>?_) NoE.imp
  obtain ⟨u,rfl,st,ru,hpo1,hlet⟩:=Q
  refine wpAny_mono hlet (fun _ s1' Q=>?_) NoE.imp
  obtain ⟨st2,hit1⟩:=Q
  have g1:=fun g h=>(N.gen g h).1
  have g2:=fun g h=>(N.gen g h).2
  have hpk1:=N.ok (hI.priv hpo g1 st) hpo1 hout
  have hI2:=(hI.priv hpo g1 st).priv hpk1 g1 st2
  have hk2:=(hk.priv hpo g2 st).priv hpk1 g2 st2
  have hpo2:=N.ok hI2 (F.pobj hit1) hout
  exact wpAny_mono (hbody x u ms fl ms' ρ s1' hst hI2 (FRel.keep (priv_imm hpk1 st2) ru)) (fun _ s2 Q=>wpAny_mono Q (fun f s3 Q=>flow_fin Q
   (fun q ρ' hI3 hk3=>⟨r.length,hm▸Nat.lt_succ_self _,rfl,hn q,hI3,F.keep hit1 (fun b o e m=>hk3.kp b o e (hpo2 b o e m).2.2.2.2.1 (hpo2 b o e m).2.2.2.2.2) hk3.imm hk3.gens hI3.ok.rel.base,hdrop,hI2.tr hk2 hk3,fun a ha m'=>(hk3.sub a m').elim (hout a ha) fun h=>(F.pobj hit1 a ha).elim fun o e=>dead e.1 h⟩)
   fun q ρ' f' h hI3 hk3=>hdone _ ρ' s3 f' (hx q).1 ((hx q).2▸hI3) h (hI2.tr hk2 hk3)) NoE.imp) NoE.imp
end
end
section
section
variable {W:W0} {d:Nat} {ns:Names} {T:Tbl}
theorem IterObj.priv {o:Obj} (x:IterObj o):PObj W o:=⟨x.no.1,fun t la n q=>x.no.2.2 _ _ (congrArg Obj.data q),fun n q=>x.no.2.2 _ _ (congrArg Obj.data q)⟩
noncomputable def LetOk (W:W0) (A:Around) (target:Expr):Prop:=∀(s:Shared) (it:Addr) (u:Value) (o:Obj),s.heap.get? it=some o→IterObj o→wpAny (model W.prog W.w) A (letOwnedTupleGo target (.ref it) u) (fun _ s1=>s1=s) NoE s
theorem letTuple_ok {A:Around} {ts:List Expr} {k:Nat} {p:Pos}:LetOk W A (.Tuple ts k p):=by
 intro s it u o e x
 unfold letOwnedTupleGo
 cases u with
 |ref a=>
  refine wpAny_bind (m:=load it) (wpAny_load e ?_)
  obtain ⟨n,vs,hc,hd,hT⟩:=x
  have hn:(["enumerate","zip","dict_itemiterator","dict_reverseitemiterator","odict_iterator","itertools.zip_longest","itertools.pairwise"].contains n)=false:=by
   have:∀m∈iterNames,(["enumerate","zip","dict_itemiterator","dict_reverseitemiterator","odict_iterator","itertools.zip_longest","itertools.pairwise"].contains m)=false:=by decide
   exact this n (List.contains_iff_mem.mp hT)
  rw [hc,hd]
  simp only [hn,Bool.false_and,Bool.false_eq_true,if_false]
  exact wpAny_pure rfl
 |_=>exact wpAny_pure rfl
theorem All2.tail {α β:Type} {R:α→β→Prop} {l:List α} {b:β} {m:List β} (h:All2 R l (b::m)):All2 R l.tail m:=h.drop 1 |> fun q=>by rw [List.drop_one] at q;exact q
theorem SInv.pop {env:Env} {s s0:Shared} {ρ ρ0:List Addr} {itv:List Value} {ms:MS} {xv:Value} (I:SInv W ρ0 s0 env ns (xv::itv) ms ρ s):SInv W ρ0 s0 env ns itv {ms with its:=ms.its.tail} ρ s:=
 ⟨I.ok,I.fr,I.own,All2.tail I.its,fun y hy=>I.ine y (List.mem_of_mem_tail hy),I.n⟩
theorem SInv.listAt {env:Env} {s s0:Shared} {ρ ρ0:List Addr} {itv:List Value} {ms:MS} {xv:Value} {orig:Option MO} (I:SInv W ρ0 s0 env ns (xv::itv) ms ρ s) (ho:(origOf (ms.its.headD .unb) ms.objs==orig)=true):ListAt s.heap xv orig:=by
 have hits:=I.its
 generalize ms.its=l at ho hits
 cases hits with
 |cons py _=>exact I.ok.rel.listAt py ho
theorem for_gen {A:Around} {env:Env} {s s0:Shared} {ρ ρ0:List Addr} {itv:List Value} {ms:MS} {iter:X} {target:Expr} {p:Pos} {body orelse:List Stmt} {x:MV} {o:List MO} {full:List FV} {step:FV→MS→Option (Fl × MS)} {res:Option Fl} {msF ms':MS} {fl:Fl}
  (WK:WOk W) (TK:TblOk W d T) (rm:Room (d+8) A) (hw:iter.wf ns=true) (I:SInv W ρ0 s0 env ns itv ms ρ s) (h1:ev T iter ms.vars ms.objs=some (x,o)) (h2:(if noDict (origOf x o) then srcItems x o else none)=some full)
  (h3:turns step (origOf x o) full {ms with its:=x::ms.its,objs:=o}=some (res,msF)) (hlet:LetOk W A target)
  (hbody:∀xv x u ms fl ms' ρ s,step x ms=some (fl,ms')→SInv W ρ0 s0 env ns (xv::itv) ms ρ s→FRel s.heap x u→wpAny (model W.prog W.w) A (assign target env u) (fun _ s2=>wpAny (model W.prog W.w) A (execs body env) (PostS W ρ0 s0 env ns (xv::itv) ms' fl ρ s) NoE s2) NoE s)
  (helse:∀ρ s,res=none→SInv W ρ0 s0 env ns itv {msF with its:=msF.its.tail} ρ s→wpAny (model W.prog W.w) A (execs orelse env) (PostS W ρ0 s0 env ns itv ms' fl ρ s) NoE s)
  (hdone:∀f,res=some f→fl=f∧ms'={msF with its:=msF.its.tail}):
  wpAny (model W.prog W.w) A (exec (.For target (iter.dec ns) body orelse p) env) (PostS W ρ0 s0 env ns itv ms' fl ρ s) NoE s:=by
 refine ifk h2 fun hnd h2=>wpAny_For (I.seq (sound WK TK ns iter hw).1 h1 rm fun ρ1 s1 xv I1 k1 K1 r1=>?_) fun v=>fold_dec ns env iter v
 refine wpAny_mono (iter_ok WK h2 K1.rel r1) (fun itvv s2 P2=>?_) NoE.imp
 cases P2 with
 | @mk it h' hit0 k2 hit=>
 obtain ⟨I2,k2'⟩:=I1.expr (Ok.keepAll K1.rel k2 s1.toks)
 have hsi:s.heap.get? it=none:=fresh_back K1.step K1.grows K1.rel hit0
 have I3:SInv W ρ0 s0 env ns (xv::itv) {ms with its:=x::ms.its,objs:=o} ρ1 {s1 with heap:=h',toks:=s1.toks}:=
  ⟨I2.ok,I2.fr,I2.own,.cons (VRel.mono (keepImm_of k2) (fun a oo e _=>k2 a oo e) (.refl _ _) r1) I2.its,fun y hy=>(List.mem_cons.mp hy).elim (fun h q=>(by subst q;subst h;exact non h2)) (I.ine y),I2.n⟩
 have nd:∀{es},origOf x o≠some (.dict es):=fun e=>by rw [e] at hnd;cases hnd
 have sub:∀{Q:Addr→Prop},Q it→∀a∈[it],Q a:=fun h a ha=>List.mem_singleton.mp ha▸h
 have fresh:∀b,s.heap.get? b=none→s0.heap.get? b=none∧W.h0.get? b=none∧b∉ownOf env:=fun b hb=>⟨fresh_back I.ok.step I.ok.grows I.ok.rel hb,I.ok.rel.h0 hb,fun m=>(I.fr.apart b m).2.2.elim fun _ e=>dead e hb⟩
 have pb:∀{h:Heap} {i:Nat},ItIs W h xv full (origOf x o) i it→∃oo,h.get? it=some oo∧PObj W oo:=fun q=>q.obj.imp fun _ q=>⟨q.1,q.2.priv⟩
 refine for_loop (P:=[it]) (g0:=none) (It:=fun s i=>ItIs W s.heap xv full (origOf x o) i it) (ρi:=ρ) (si:=s) (orig:=origOf x o) (full:=full) (xv:=xv) (step:=step)
  ⟨fun Q ho hI hy=>wpAny_mono (next_item hI (Q.1.listAt ho) hy) (fun r s1 P=>?_) NoE.imp,fun Q ho hI hy=>wpAny_mono (next_end rm.quiet hI (Q.1.listAt ho) hy) (fun r s1 P=>?_) NoE.imp,
   fun hI hk ki _ _=>hI.keep (fun oo e=>hk it oo e (.inl (.head _))) ki (fun dd es oo _ e2 _=>(nd e2).elim),fun hI=>sub (pb hI)⟩
  ⟨sub ⟨(fresh it hsi).1,(fresh it hsi).2.1,hsi,(fresh it hsi).2.2⟩,nofun,fresh⟩ (hbody xv)
  (fun ρ' s' hres I' k'=>lastS I'.pop k' (helse ρ' s' hres I'.pop)) (fun fl' ρ' s' f hres I' hf k'=>?_) h3 I3 hit (I1.tr k1 k2') (sub fun m=>(K1.rel.alive m).elim fun oo e=>dead e hit0)
 ·cases P with
  | @mk u h' tk ru hs hI'=>
  refine ⟨u,rfl,⟨fun b oo e hb=>(hs.2 b (fun h=>hb (.inl (h▸.head _)))).trans e,rfl,fun g st e _=>e,id⟩,ru,sub (pb hI'),?_⟩
  obtain ⟨oo,e,q⟩:=hI'.obj
  exact wpAny_mono (hlet _ it u oo e q) (fun _ s2 h=>by subst h;exact ⟨⟨fun b oo e _=>e,rfl,fun g st e _=>e,id⟩,hI'⟩) NoE.imp
 ·cases P with
  |mk hs=>exact ⟨rfl,⟨fun b oo e hb=>hs b oo (fun h=>hb (.inl (h▸.head _))) e,rfl,fun g st e _=>e,id⟩⟩
 ·obtain ⟨rfl,rfl⟩:=hdone fl' hres
  exact ⟨ρ',hf,I'.pop,k'⟩
theorem optXk {γ:Type} {G:Prop} {r:γ} {x:Option (Option Fl × MS)} {f:MS→Option γ} {g:Fl→MS→Option γ} (h:(match x with|some (none,s)=>f s|some (some fl,s)=>g fl s|none=>none)=some r) (k:∀s,x=some (none,s)→f s=some r→G) (k':∀fl s,x=some (some fl,s)→g fl s=some r→G):G:=by
 cases x with
 |none=>exact non h
 |some p=>cases p with|mk a s=>cases a with|none=>exact k s rfl h|some fl=>exact k' fl s rfl h
theorem optXe {x:Option (Option Fl × MS)} {fl:Fl} {ms':MS} (h:(match x with|some (none,s')=>some (.next,{s' with its:=s'.its.tail})|some (some f,s')=>some (f,{s' with its:=s'.its.tail})|none=>none)=some (fl,ms')):∃res msF,x=some (res,msF)∧res.getD .next=fl∧{msF with its:=msF.its.tail}=ms':=
 optXk h (fun s e h=>⟨_,s,e,congrArg Prod.fst (Option.some.inj h),congrArg Prod.snd (Option.some.inj h)⟩) fun f s e h=>⟨_,s,e,congrArg Prod.fst (Option.some.inj h),congrArg Prod.snd (Option.some.inj h)⟩
theorem ss_forS {ti:Nat} {iter:X} {b e:Ss} {pt p:Pos} (WK:WOk W) (TK:TblOk W d T) (hti:stOk ns ti=true) (hw:iter.wf ns=true) (hb:SS W d ns (exs T b) fun env=>execs (b.dec ns) env) (he:SS W d ns (exs T e) fun env=>execs (e.dec ns) env):
  SS W d ns (ex T (.forS ti iter b e pt p)) fun env=>exec ((S.forS ti iter b e pt p).dec ns) env:=by
 intro ms fl ms' hr A env s ρ ρ0 s0 itv rm I
 have go:=fun {x o full res msF fl ms'}=>for_gen (A:=A) (env:=env) (ns:=ns) (x:=x) (o:=o) (full:=full) (res:=res) (msF:=msF) (fl:=fl) (ms':=ms') (iter:=iter) (target:=.Name (nm ns ti) pt) (p:=p) (body:=b.dec ns) (orelse:=e.dec ns) (step:=fun it s=>exs T b {s with vars:=s.vars.set ti (.fv it)}) WK TK rm hw I
 have body:∀xv x u ms fl ms' ρ s,exs T b {ms with vars:=ms.vars.set ti (.fv x)}=some (fl,ms')→SInv W ρ0 s0 env ns (xv::itv) ms ρ s→FRel s.heap x u→
   wpAny (model W.prog W.w) A (assign (.Name (nm ns ti) pt) env u) (fun _ s2=>wpAny (model W.prog W.w) A (execs (b.dec ns) env) (PostS W ρ0 s0 env ns (xv::itv) ms' fl ρ s) NoE s2) NoE s:=fun xv x u ms fl ms' ρ s hst I ru=>
  wpAny_assign_Name (I.store hti (mv:=.fv x) rfl ru fun s2 I2 k2 _=>lastS I2 k2 (hb _ _ _ hst A env s2 ρ ρ0 s0 (xv::itv) rm I2))
 exact opt2k hr fun x o h1 hr=>opt1k hr fun full h2 hr=>optXk hr
  (fun msF h3 hr=>go h1 h2 h3 (fun _ _ _ _ _ _=>wpAny_pure rfl) body (fun ρ s _ I'=>he _ _ _ hr A env s ρ ρ0 s0 itv rm I') fun f h=>nomatch h)
  fun f msF h3 hr=>go h1 h2 h3 (fun _ _ _ _ _ _=>wpAny_pure rfl) body (fun ρ s h _=>nomatch h) fun f' h=>⟨(congrArg Prod.fst (Option.some.inj hr)).symm.trans (Option.some.inj h),(congrArg Prod.snd (Option.some.inj hr)).symm⟩
theorem pairk {G:Prop} {x:FV} {r:Fl × MS} {f:FV→FV→Option (Fl × MS)} (h:(match x with|.pair a c=>f a c|_=>none)=some r) (k:∀a c,x=.pair a c→f a c=some r→G):G:=by
 cases x with|pair a c=>exact k a c rfl h|_=>exact non h
theorem body2 {ti tj:Nat} {b:Ss} {pi pj pt:Pos} {A:Around} {env:Env} {s s0:Shared} {ρ ρ0:List Addr} {itv:List Value} {x:FV} {u:Value} {ms ms':MS} {fl:Fl} (hti:stOk ns ti=true) (htj:stOk ns tj=true) (rm:Room (d+8) A) (hb:SS W d ns (exs T b) fun env=>execs (b.dec ns) env)
  (hst:(match x with|.pair a c=>exs T b {ms with vars:=(ms.vars.set ti (.fv a)).set tj (.fv c)}|_=>none)=some (fl,ms')) (I:SInv W ρ0 s0 env ns itv ms ρ s) (ru:FRel s.heap x u):
  wpAny (model W.prog W.w) A (assign (.Tuple [.Name (nm ns ti) pi,.Name (nm ns tj) pj] 0 pt) env u) (fun _ s2=>wpAny (model W.prog W.w) A (execs (b.dec ns) env) (PostS W ρ0 s0 env ns itv ms' fl ρ s) NoE s2) NoE s:=
 pairk hst fun a c q hst=>assign2_ok rm I hti htj (q▸ru) fun s2 I2 k2=>lastS I2 k2 (hb _ _ _ hst A env s2 ρ ρ0 s0 itv rm I2)
theorem ss_for2 {ti tj:Nat} {iter:X} {b:Ss} {pi pj pt p:Pos} (WK:WOk W) (TK:TblOk W d T) (hti:stOk ns ti=true) (htj:stOk ns tj=true) (hw:iter.wf ns=true) (hb:SS W d ns (exs T b) fun env=>execs (b.dec ns) env):
  SS W d ns (ex T (.for2 ti tj iter b pi pj pt p)) fun env=>exec ((S.for2 ti tj iter b pi pj pt p).dec ns) env:=by
 intro ms fl ms' hr A env s ρ ρ0 s0 itv rm I
 refine opt2k hr fun x o h1 hr=>opt1k hr fun full h2 hr=>?_
 obtain ⟨res,msF,h3,rfl,rfl⟩:=optXe hr
 exact for_gen (target:=.Tuple [.Name (nm ns ti) pi,.Name (nm ns tj) pj] 0 pt) (orelse:=[]) WK TK rm hw I h1 h2 h3 letTuple_ok (fun xv x u ms fl ms' ρ s hst I ru=>body2 hti htj rm hb hst I ru)
  (fun ρ s hres I'=>wpAny_execs_nil ⟨ρ,by rw [hres];rfl,I',KeptS.refl⟩) fun f h=>⟨by rw [h];rfl,rfl⟩
theorem whilek {G:Prop} {test:MS→Option (Bool × MS)} {body:MS→Option (Fl × MS)} {n:Nat} {ms ms':MS} {fl:Fl} (h:whileTurns test body (n+1) ms=some (fl,ms')) (k:∀s1 f s2,test ms=some (true,s1)→body s1=some (f,s2)→(f=.next→whileTurns test body n s2=some (fl,ms'))→(f≠.next→fl=(match f with|.brk=>.next|f=>f)∧ms'=s2)→G) (k':test ms=some (false,ms')→fl=.next→G):G:=by
 have h:(match test ms with|some (true,s')=>(match body s' with|some (.next,s'')=>whileTurns test body n s''|some (.brk,s'')=>some (.next,s'')|some (.ret v,s'')=>some (.ret v,s'')|none=>none)|some (false,s')=>some (.next,s')|none=>none)=some (fl,ms'):=h
 cases e:test ms with
 |none=>rw [e] at h;exact non h
 |some p=>
  obtain ⟨b,s1⟩:=p
  rw [e] at h
  cases b with
  |false=>exact k' (e.trans (congrArg (fun x=>some (false,x)) (congrArg Prod.snd (Option.some.inj h)))) (congrArg Prod.fst (Option.some.inj h)).symm
  |true=>
   cases e2:body s1 with
   |none=>exact non (show none=_ by have h:(match body s1 with|some (.next,s'')=>whileTurns test body n s''|some (.brk,s'')=>some (.next,s'')|some (.ret v,s'')=>some (.ret v,s'')|none=>none)=some (fl,ms'):=h;rw [e2] at h;exact h)
   |some p=>
    obtain ⟨f,s2⟩:=p
    have h:(match body s1 with|some (.next,s'')=>whileTurns test body n s''|some (.brk,s'')=>some (.next,s'')|some (.ret v,s'')=>some (.ret v,s'')|none=>none)=some (fl,ms'):=h
    rw [e2] at h
    refine k s1 f s2 e e2 (fun q=>by subst q;exact h) fun q=>?_
    cases f with
    |next=>exact (q rfl).elim
    |_=>exact ⟨(congrArg Prod.fst (Option.some.inj h)).symm,(congrArg Prod.snd (Option.some.inj h)).symm⟩
inductive WLoop (run:Nat→MS→Prop) (Inv:MS→List Addr→Shared→Prop) (m:Nat) (s:Shared):Prop
 |mk {ms:MS} {ρ:List Addr}:run m ms→Inv ms ρ s→WLoop run Inv m s
noncomputable def whlTest (T:Tbl) (t:X):MS→Option (Bool × MS):=fun s=>(evT T t (ev T t s.vars s.objs) s.vars s.objs).map fun p=>(p.1,{s with objs:=p.2})
theorem testk {G:Prop} {t:X} {ms m1:MS} {b:Bool} (h:whlTest T t ms=some (b,m1)) (k:∀o,evT T t (ev T t ms.vars ms.objs) ms.vars ms.objs=some (b,o)→{ms with objs:=o}=m1→G):G:=
 mapk h fun p ht q=>by
  obtain ⟨c,o⟩:=p
  obtain ⟨rfl,rfl⟩:=Prod.mk.inj q
  exact k o ht rfl
theorem ss_whl {t:X} {b:Ss} {p:Pos} (WK:WOk W) (TK:TblOk W d T) (hw:t.wf ns=true) (hb:SS W d ns (exs T b) fun env=>execs (b.dec ns) env):
  SS W d ns (ex T (.whl t b p)) fun env=>exec ((S.whl t b p).dec ns) env:=by
 intro ms fl ms' hr A env s ρ ρ0 s0 itv rm I
 refine wpAny_While (codeAny_whileLoop (WLoop (fun m ms1=>whileTurns (whlTest T t) (exs T b) m ms1=some (fl,ms')) fun ms1 ρ1 s'=>SInv W ρ0 s0 env ns itv ms1 ρ1 s'∧KeptS env ρ s ρ1 s') (fun m s1 hI=>?_) 64 ⟨hr,I,KeptS.refl⟩)
 clear I hr
 cases hI with
 | @mk ms1 ρ1 hrun Q=>
 cases m with
 |zero=>exact non hrun
 |succ m=>
  refine whilek hrun (fun m1 f m2 ht0 hbr hn hx=>testk ht0 fun o ht e=>?_) fun ht0 hf=>testk ht0 fun o ht e=>?_
  ·refine Q.1.test (sound WK TK ns t hw).2 ht rm fun ρ2 s2 I2 k2=>?_
   show wpAny _ A (execs (b.dec ns) env) _ _ s2
   rw [e] at I2
   exact wpAny_mono (hb _ _ _ hbr A env s2 ρ2 ρ0 s0 itv rm I2) (fun g s3 P=>flow_fin (Post:=PostS W ρ0 s0 env ns itv ms' fl ρ s) P (fun q ρ3 I3 k3=>⟨m,Nat.lt_succ_self _,hn q,I3,I2.tr (Q.1.tr Q.2 k2) k3⟩)
    fun q ρ3 f' h I3 k3=>⟨ρ3,(hx q).1▸h,(hx q).2▸I3,I2.tr (Q.1.tr Q.2 k2) k3⟩) NoE.imp
  ·refine Q.1.test (sound WK TK ns t hw).2 ht rm fun ρ2 s2 I2 k2=>?_
   show wpAny _ A (execs [] env) _ _ s2
   exact wpAny_execs_nil ⟨ρ2,hf▸rfl,e▸I2,Q.1.tr Q.2 k2⟩
theorem ns_one {h:Heap} {a:Addr} {m m2:Str→Option Value} (x:h.Ns a m) (y:h.Ns a m2):m=m2:=by
 obtain ⟨o,es,ep,ho,hd,_,hf⟩:=x
 obtain ⟨o',es',ep',ho',hd',_,hf'⟩:=y
 obtain rfl:o=o':=Option.some.inj (ho.symm.trans ho')
 obtain ⟨rfl,_⟩:=Data.dict.inj (hd.symm.trans hd')
 exact funext fun x=>(hf x).symm.trans (hf' x)
theorem FR.same {env:Env} {vars:List MV} {ρ:List Addr} {s:Shared} (F:FR W env ns vars ρ s.heap) {h':Heap} {m:Str→Option Value} (hm:s.heap.Ns env.locals m) (hn:h'.Ns env.locals m) (k:∀b o,b≠env.locals→s.heap.get? b=some o→h'.get? b=some o):FR W env ns vars ρ h':=
 F.move (fun _ h=>ns_one hm h▸hn) (fun c _ hne o e=>k c o hne e) (fun a ha=>(F.apart a ha).1) rfl fun i y e=>⟨y,e,.rfl,id,fun v ed r=>VRel.touch F.looseL k ed r⟩
theorem optGk {γ:Type} {G:Prop} {r:γ} {x:Option (MV × List MO)} {f:List MO→Option γ} (h:(match x with|some (.edict,o)=>f o|_=>none)=some r) (k:∀o,x=some (.edict,o)→f o=some r→G):G:=by
 cases x with
 |none=>exact non h
 |some p=>cases p with|mk a b=>cases a with|edict=>exact k b rfl h|_=>exact non h
theorem ss_forE {ti tj:Nat} {o:X} {b:Ss} {pi pj pt pa pc p:Pos} (WK:WOk W) (TK:TblOk W d T) (hw:(S.forE ti tj o b pi pj pt pa pc p).wf ns=true):SS W d ns (ex T (.forE ti tj o b pi pj pt pa pc p)) fun env=>exec ((S.forE ti tj o b pi pj pt pa pc p).dec ns) env:=by
 intro ms fl ms' hr A env s ρ ρ0 s0 itv rm I
 obtain ⟨⟨⟨⟨hwo,hv⟩,hl⟩,hli⟩,hlj⟩:=and5 hw
 obtain ⟨k,q,rfl⟩:=isVar_is hv
 refine optGk hr fun o' h1 hr=>inj2m hr (optVk h1 fun v hk _ h1=>?_)
 obtain ⟨rfl,rfl⟩:=Prod.mk.inj (Option.some.inj h1)
 obtain ⟨⟨y,ky⟩,hy,hwo⟩:=any1 (show (ns[k]?.any _)=true from hwo)
 obtain ⟨k',h1',h2',h3'⟩:=I.fr.kindAt hy
 have hny:=nm_at hy
 have hloc':k'=.local:=by
  have hk2:k'=.local∨k'=.cell∨k'=.free:=h3'.elim (fun h=>h▸(Bool.or_eq_true_iff.mp hwo).elim (fun h=>(Bool.or_eq_true_iff.mp h).imp eq_of_beq fun h=>.inl (eq_of_beq h)) fun h=>.inr (.inr (eq_of_beq h))) fun h=>.inr (.inl h.2)
  exact hk2.elim id fun h=>((I.fr.cel k y k' _ h1' h hk).elim fun _ q=>q.elim fun _ q=>(q.2.2.2 rfl).elim)
 subst hloc'
 obtain ⟨m,hm,hh,hl2⟩:=I.fr.loc
 obtain ⟨⟨v,hmv,dd,n,rfl,hdρ,hget⟩,hed⟩:=hl2 k y _ h1' hk
 obtain ⟨he1,he2⟩:=hed rfl
 refine wpAny_For_items_locals (knd:=intKind W.prog W.w) (d:=dd) (kvs:=[]) (ep:=n) (m:=m) rm.quiet (locKind I.fr hli).1 (locKind I.fr hlj).1 (by rw [I.fr.kind];rfl) (fun h=>he1 (hmv.trans (congrArg (fun x=>some (Value.ref x)) h))) (beq_eq_false_iff_ne.mpr fun h=>he2 (hmv.trans (congrArg (fun x=>some (Value.ref x)) h)))
  ⟨_,#[],hget,⟨rfl,rfl,rfl⟩,rfl,(fun e he=>(Array.not_mem_empty e he).elim),.nil,List.nodup_nil⟩ hm rfl hl
  (fun Q' hQ'=>?_) (fun _ m'=>m'=m) rfl (fun i k v key m₁ s₁ h=>nomatch h) (fun h' tk m' hn' hJ hk'=>?_) (fun v=>rfl) (fun e s' h=>h.elim)
 ·show wpAny _ _ (eval (.Name (nm ns k) q) env) _ _ _
  rw [hny]
  exact wpAny_Name (wpAny_loadName_local I.fr.kind h2' hm hmv hQ') (I.fr.plain _ (List.mem_of_getElem? hy)).1
 ·subst hJ
  have L:=I.fr.looseL
  have hlo:env.locals∈ownOf env:=.head _
  exact ⟨ρ,rfl,⟨I.ok.touch (I.own _ hlo) (I.fr.apart _ hlo).2.1 L hk' tk,I.fr.same hm hn' hk',I.own,all2_mem I.its fun x v hx r=>VRel.touch L hk' (fun h=>(I.ine x hx h).elim) r,I.ine,I.n⟩,⟨fun b oo e _ h2=>hk' b oo (fun h=>h2 (h▸hlo)) e,fun _ m=>.inl m,fun b oo e im=>hk' b oo (fun hb=>L.imm oo (hb▸e) im) e,fun _ _ e=>e,fun b oo e=>
   (Classical.em (b=env.locals)).elim (fun hb=>hn'.imp fun _ q=>q.elim fun _ q=>q.elim fun _ q=>hb▸q.1) fun hb=>⟨oo,hk' b oo hb e⟩⟩⟩
end
end
end Mine
end
section
open PySem PySem.W PyProof.Rows PySem.Spec
open Sem (wp)
namespace Mine
section
section
variable {M:Model} {A:Around} {R:GenEnd} {Y:Protocol} {n:Nat} {s₀:Shared} {c:Code} {fs:List Frame} {s:Shared} {env:Env}
 {K:Flow→Sem Fin} {H:Value→Sem Fin} {gd:Bool→Bool} {lv:List Value→List Value}
theorem seg_bw {α β:Type} {m:Sem α} {f:α→Sem β} {K:β→Sem Fin} (h:wpAny M (A.over c fs) m (fun a s'=>Seg M A R Y n s₀ c ((f a).wrap K H gd lv) fs s') NoE s):Seg M A R Y n s₀ c ((m>>=f).wrap K H gd lv) fs s:=by
 rw [Sem.bind_eq_wrap',Sem.wrap_wrap]
 exact seg_wrap (wpAny_mono h (fun _ _ h=>h) NoE.imp)
theorem seg_plain {st:Stmt} (h:wpAny M (A.over c fs) (exec st env) (fun a s'=>Seg M A R Y n s₀ c (K a) fs s') NoE s):Seg M A R Y n s₀ c ((exec st env).wrap K H gd lv) fs s:=
 seg_wrap (wpAny_mono h (fun _ _ h=>h) NoE.imp)
theorem seg_If {test:Expr} {body orelse:List Stmt} {pos:Pos} (h:wpAny M (A.over c fs) (isTrue test env (eval test env)) (fun b s'=>Seg M A R Y n s₀ c ((execs (if b then body else orelse) env).wrap K H gd lv) fs s') NoE s):
  Seg M A R Y n s₀ c ((exec (.If test body orelse pos) env).wrap K H gd lv) fs s:=by
 rw [exec_If]
 refine seg_bw (wpAny_standAt ?_)
 refine seg_bw (wpAny_mono h (fun b s' h'=>?_) NoE.imp)
 cases b<;>exact h'
noncomputable def under (K:Flow→Sem Fin) (H:Value→Sem Fin) (gd:Bool→Bool) (lv:List Value→List Value) (env:Env) (c:Code) (p:Pos):Frame:=
 .ret (fun r=>((match r with|.ok f=>(.pure f:Sem Flow)|.error e=>.raise e).onRaise fun (x:Value)=>do
    if (←field x 1)==Value.none then unsupported "frame.own-activation:exception-without-traceback"
    setFlight x env.frame).wrap K H gd lv) none (gd false) (lv []) c p []
theorem seg_For {target iter:Expr} {body orelse:List Stmt} {pos:Pos}
  (h:wpAny M (A.over c fs) (eval iter env) (fun x s1=>wpAny M (A.over c fs) (pyIter x) (fun it s2=>∀p,Seg M A R Y n s₀ (.forLoop target it body orelse env) (M.den (.forLoop target it body orelse env)) (under K H gd lv env c p::fs) s2) NoE s1) NoE s)
  (hs:∀x,foldedSetIterable iter env x=pure x):Seg M A R Y n s₀ c ((exec (.For target iter body orelse pos) env).wrap K H gd lv) fs s:=by
 rw [exec_For]
 refine seg_bw (wpAny_standAt ?_)
 refine seg_bw (wpAny_mono h (fun x s1 h1=>?_) NoE.imp)
 refine seg_bw (wpAny_of_eq (hs x) ?_)
 refine seg_bw (wpAny_standAt ?_)
 refine seg_bw (wpAny_holding (wpAny_mono h1 (fun it s2 h2=>?_) NoE.imp))
 exact seg_call h2
theorem under_next {p:Pos} (h:Seg M A R Y n s₀ c (K .next) fs s) {c':Code}:Seg M A R Y n s₀ c' (leafOf (.ok .next)) (under K H gd lv env c p::fs) s:=seg_leaf _ h
end
section
variable {prog:Program} {w:World} {A:Around} {R:GenEnd} {Y:Protocol} {n:Nat} {s₀:Shared} {fs:List Frame} {s:Shared} {env:Env}
theorem seg_forLoop {target:Expr} {it:Value} {body:List Stmt}
  (h:∀(K:Flow→Sem Fin) (H:Value→Sem Fin) (gd:Bool→Bool),gd false=false→(K .next=.pure (.again (.forLoop target it body [] env)))→
   wpAny (model prog w) (A.over (.forLoop target it body [] env) fs) (pyNext it) (fun r s1=>match r with
    |none=>Seg (model prog w) A R Y n s₀ (.block [] env) (leafOf (.ok .next)) fs s1
    |some v=>wpAny (model prog w) (A.over (.forLoop target it body [] env) fs) (letOwnedTupleGo target it v) (fun _ s2=>wpAny (model prog w) (A.over (.forLoop target it body [] env) fs) (assign target env v) (fun _ s3=>
      Seg (model prog w) A R Y n s₀ (.forLoop target it body [] env) ((execs body env).wrap K H gd id) fs s3) NoE s2) NoE s1) NoE s):
  Seg (model prog w) A R Y n s₀ (.forLoop target it body [] env) ((model prog w).den (.forLoop target it body [] env)) fs s:=by
 show Seg _ A R Y n s₀ _ ((forTurn target it body [] env).onRaise (fun x=>do noteFrame x env;theTreesLotGoes x)) fs s
 unfold forTurn
 rw [Sem.onRaise_eq_wrap]
 refine seg_bw (wpAny_standAt ?_)
 have key:=h (fun f=>Sem.wrap Sem.pure (fun e=>((do noteFrame e env;theTreesLotGoes e:Sem Unit)).bind fun _=>.raise e) id id (match f with
  |.next|.cont=>(again (.forLoop target it body [] env):Sem PySem.Fin)
  |.brk=>pure (.done .next)
  |.ret v=>pure (.done (.ret v)))) (fun e=>((do noteFrame e env;theTreesLotGoes e:Sem Unit)).bind fun _=>.raise e) id rfl rfl
 refine seg_bw (wpAny_onRaise (wpAny_mono key (fun r s1 h1=>?_) NoE.imp))
 cases r with
 |none=>
  show Seg _ A R Y n s₀ _ (.pure (.again (.block [] env))) fs s1
  exact seg_again rfl h1
 |some v=>
  refine seg_bw (wpAny_mono h1 (fun _ s2 h2=>?_) NoE.imp)
  refine seg_bw (wpAny_mono h2 (fun _ s3 h3=>?_) NoE.imp)
  show Seg _ A R Y n s₀ _ (((execs body env)>>=fun f=>_).wrap _ _ _ _) fs s3
  rw [Sem.bind_eq_wrap',Sem.wrap_wrap]
  exact h3
end
end
end Mine
end
section
open PySem PySem.W PyProof.Rows PySem.Spec
namespace Mine
section
noncomputable def T0:Tbl:=fun _ _ _=>none
theorem T0ok {W:W0} {d:Nat}:TblOk W d T0:=fun f A s ρ objs mvs pos ks mv objs' _ _ _ _ e=>nomatch e
noncomputable def emp (s:Shared):Shared:={s with heap:={}}
theorem emp_get {s:Shared} (a:Addr):(emp s).heap.get? a=none:=by
 show Heap.get? {} a=none
 rfl
section
variable {W:W0} {env:Env} {hi:Heap} {s0 s s1:Shared} {vars:List MV}
structure GInv (W:W0) (env:Env) (hi:Heap) (s0:Shared) (vars:List MV) (s:Shared):Prop where
 inv:SInv W [] (emp s0) env nsG [] ⟨vars,[],[],0⟩ [] s
 keep:∀b o,s0.heap.get? b=some o→¬Priv [env.locals] hi b o→s.heap.get? b=some o
 live:∀b o,hi.get? b=some o→∃o',s.heap.get? b=some o'
 cells:env.cells=[]
 base:∀b o,W.h0.get? b=some o→∃o',hi.get? b=some o'
 addr:∃x,vars[0]?=some (.fv x)
theorem GInv.own (G:GInv W env hi s0 vars s):ownOf env=[env.locals]:=by unfold ownOf;rw [G.cells];rfl
theorem GInv.lcls (G:GInv W env hi s0 vars s):∃o,s.heap.get? env.locals=some o∧(Cog o→False)∧PObj W o:=by
 obtain ⟨m,⟨o,es,ep,ho,hd,_,hmm⟩,hh,hl⟩:=G.inv.fr.loc
 have L:=G.inv.fr.looseL
 obtain ⟨x,hx⟩:=G.addr
 obtain ⟨k',h1,h2,h3⟩:=G.inv.fr.kindAt (i:=0) (x:= "addr") (k:=.local) rfl
 obtain rfl:k'=.local:=h3.elim id fun h=>nomatch h.1
 obtain ⟨v,hv,r⟩:=(hl 0 _ _ h1 hx).1.some (fun h=>nomatch h)
 refine ⟨o,ho,fun c=>c.2.elim fun vs e=>(nomatch hd.symm.trans e),L.imm o ho,fun t la n e=>L.dx t la n (e▸ho),fun n e=>?_⟩
 subst e;cases hd
 exact nomatch (show none=some v from (hmm "addr").trans hv)
theorem GInv.privOk (G:GInv W env hi s0 vars s):PrivOk W [] hi [] (emp s0) env s:=by
 intro b o e m
 rcases m with m|⟨m,hn⟩
 ·cases m
 ·refine ⟨PObj.cog m,emp_get _,noneOf fun oo q=>(G.base b oo q).elim fun _ e'=>dead e' hn,hn,List.not_mem_nil,fun h=>?_⟩
  obtain ⟨o',e',nc,_⟩:=G.lcls
  rw [G.own] at h
  exact nc (Option.some.inj (e.symm.trans (List.mem_singleton.mp h▸e'))▸m)
theorem GInv.cog (G:GInv W env hi s0 vars s) (st:PrivStep [] hi none s s1):GInv W env hi s0 vars s1:=
 ⟨G.inv.priv (g0:=none) G.privOk (fun g h=>nomatch h) st,fun b o e m=>st.heap b o (G.keep b o e m) fun h=>m (h.imp (fun h=>nomatch h) id),fun b o e=>(G.live b o e).imp fun o' e'=>st.heap b o' e' fun h=>h.elim (fun h=>nomatch h) fun h=>dead e h.2,G.cells,G.base,G.addr⟩
theorem GInv.kept {vars':List MV} (G:GInv W env hi s0 vars s) (I:SInv W [] (emp s0) env nsG [] ⟨vars',[],[],0⟩ [] s1) (k:KeptS env [] s [] s1) (ad:∃x,vars'[0]?=some (.fv x)):GInv W env hi s0 vars' s1:=
 ⟨I,fun b o e m=>k.kp b o (G.keep b o e m) List.not_mem_nil fun h=>m (.inl (G.own▸h)),fun b o e=>(G.live b o e).elim (k.live b),G.cells,G.base,ad⟩
theorem grows_nil {ρ:List Addr} (h:ρ.length=0):ρ=[]:=List.eq_nil_of_length_eq_zero h
theorem GInv.step {ρ1:List Addr} (G:GInv W env hi s0 vars s) (K:Ok W [] s ρ1 [] s1):GInv W env hi s0 vars s1∧ρ1=[]∧∀b o,s.heap.get? b=some o→s1.heap.get? b=some o:=by
 obtain rfl:ρ1=[]:=grows_nil (K.rel.len)
 exact ⟨G.kept (G.inv.expr K).1 (G.inv.expr K).2 G.addr,rfl,fun b o e=>K.step.keep b o e List.not_mem_nil⟩
theorem GInv.out (G:GInv W env hi s0 vars s) (k:KeptS env [] s [] s1):∀b o,s.heap.get? b=some o→b≠env.locals→s1.heap.get? b=some o:=fun b o e hb=>k.kp b o e List.not_mem_nil fun h=>hb (List.mem_singleton.mp (G.own▸h))
variable {A:Around}
theorem g_eval (WK:WOk W) {x:X} {mv:MV} {E:Value→Shared→Prop} {Q:Value→Shared→Prop} (hw:x.wf nsG=true) (e:ev T0 x vars []=some (mv,[])) (G:GInv W env hi s0 vars s) (rm:Room (0+8) A)
  (k:∀v s1,GInv W env hi s0 vars s1→VRel W [] s1.heap mv v→(∀b o,s.heap.get? b=some o→s1.heap.get? b=some o)→Q v s1):wpAny (model W.prog W.w) A (eval (x.dec nsG) env) Q E s:=
 seqE ((sound WK T0ok nsG x hw).1 _ _ _ _ e A env s [] rm G.inv.fr G.inv.ok.rel) fun ρ1 s1 v K r=>k v s1 (G.step K).1 ((G.step K).2.1▸r) (G.step K).2.2
theorem g_test (WK:WOk W) {x:X} {b:Bool} {E:Value→Shared→Prop} {Q:Bool→Shared→Prop} (hw:x.wf nsG=true) (e:evT T0 x (ev T0 x vars []) vars []=some (b,[])) (G:GInv W env hi s0 vars s) (rm:Room (0+8) A)
  (k:∀s1,GInv W env hi s0 vars s1→(∀b o,s.heap.get? b=some o→s1.heap.get? b=some o)→Q b s1):wpAny (model W.prog W.w) A (isTrue (x.dec nsG) env (eval (x.dec nsG) env)) Q E s:=
 seqB ((sound WK T0ok nsG x hw).2 _ _ _ _ e A env s [] rm G.inv.fr G.inv.ok.rel) fun ρ1 s1 K=>k s1 (G.step K).1 (G.step K).2.2
theorem g_asg (WK:WOk W) {i:Nat} {e:X} {pn p:Pos} {mv:MV} {E:Value→Shared→Prop} {Q:Flow→Shared→Prop} (hw:(S.asg i e pn p).wf nsG=true) (hr:ex T0 (.asg i e pn p) ⟨vars,[],[],0⟩=some (.next,⟨vars.set i mv,[],[],0⟩)) (hi0:i≠0) (G:GInv W env hi s0 vars s) (rm:Room (0+8) A)
  (k:∀s1,GInv W env hi s0 (vars.set i mv) s1→(∀b o,s.heap.get? b=some o→b≠env.locals→s1.heap.get? b=some o)→Q .next s1):wpAny (model W.prog W.w) A (exec ((S.asg i e pn p).dec nsG) env) Q E s:=by
 refine wpAny_mono (ss_asg WK T0ok hw _ _ _ hr A env s [] [] (emp s0) [] rm G.inv) (fun f s1 P=>?_) NoE.imp
 obtain ⟨ρ',rfl,I1,k1⟩:=P
 obtain rfl:ρ'=[]:=grows_nil I1.ok.rel.len
 exact k s1 (G.kept I1 k1 (G.addr.imp fun x hx=>(List.getElem?_set_ne hi0).trans hx)) (G.out k1)
theorem g_let {a b:FV} {v:Value} {E:Value→Shared→Prop} {Q:Unit→Shared→Prop} (G:GInv W env hi s0 vars s) (rm:Room (0+8) A) (r:FRel s.heap (.pair a b) v)
  (k:∀s1,GInv W env hi s0 ((vars.set 1 (.fv a)).set 3 (.fv b)) s1→(∀b o,s.heap.get? b=some o→b≠env.locals→s1.heap.get? b=some o)→Q () s1):wpAny (model W.prog W.w) A (assign gTarget env v) Q E s:=
 assign2_ok (i:=1) (j:=3) (pi:=(pq 9 8 11)) (pj:=(pq 9 13 15)) (pt:=(pq 9 8 15)) rm G.inv (by decide) (by decide) r fun s1 I1 k1=>
  k s1 (G.kept I1 k1 (G.addr.imp fun x hx=>(List.getElem?_set_ne (by decide)).trans ((List.getElem?_set_ne (by decide)).trans hx))) (G.out k1)
structure Stay (W:W0) (P:List Addr) (hi:Heap) (s s1:Shared):Prop where
 keep:∀b o,s.heap.get? b=some o→Priv P hi b o→s1.heap.get? b=some o
 imm:KeepImm s.heap s1.heap
 base:∀a o,W.h0.get? a=some o→s1.heap.get? a=some o
 live:∀b o,hi.get? b=some o→∃o',s1.heap.get? b=some o'
theorem GInv.of (F:FR W env nsG vars [] s.heap) (base:∀b o,W.h0.get? b=some o→s.heap.get? b=some o) (live:∀b o,hi.get? b=some o→∃o',s.heap.get? b=some o')
  (hc:env.cells=[]) (hb0:∀b o,W.h0.get? b=some o→∃o',hi.get? b=some o') (ad:∃x,vars[0]?=some (.fv x)):GInv W env hi s vars s:=
 ⟨⟨⟨.refl _ _,⟨fun b o e=>(nomatch (emp_get b).symm.trans e),fun b o e=>(nomatch (emp_get b).symm.trans e),rfl,fun _ _ e=>e,id⟩,⟨rfl,.nil,fun i mo a e=>non e,fun a h=>(List.not_mem_nil h).elim,base⟩⟩,F,fun a _=>emp_get a,.nil,fun x h=>(List.not_mem_nil h).elim,rfl⟩,fun b o e _=>e,live,hc,hb0,ad⟩
theorem GInv.stay {P:List Addr} (G:GInv W env hi s0 vars s) (hP:env.locals∈P) (hv:∀mv∈vars,(∃x,mv=.fv x)∨mv=.unb) (y:Stay W P hi s s1):GInv W env hi s1 vars s1:=
 .of (G.inv.fr.keep (fun b hb o e=>y.keep b o e (.inl (List.mem_singleton.mp (G.own▸hb)▸hP))) (fun b hb=>List.not_mem_nil) fun x hx v r=>by
  rcases hv x hx with ⟨x,rfl⟩|rfl
  ·exact FRel.keep y.imm r
  ·exact r) y.base y.live G.cells G.base G.addr
end
end
section
noncomputable def YG (W:W0) (P:List Addr) (L:Addr) (hi:Heap) (full:List FV):Protocol:=fun m s0 v s1 kap=>
 PrivStep [L] hi none s0 s1∧(∃o,s1.heap.get? L=some o∧PObj W o)∧FRel s1.heap (full.getD (full.length-1-m) .none) v∧∀s2,Stay W P hi s1 s2→kap (.send .none) s2
noncomputable def RG (L:Addr) (hi:Heap):GenEnd:=fun n s0 r s1=>r=.ok (.ret .none)∧n=0∧PrivStep [L] hi none s0 s1
section
variable {W:W0} {env:Env} {hi:Heap} {s0 s s1:Shared} {vars:List MV} {P:List Addr} {A:Around} {full:List FV}
theorem GInv.pstep (G:GInv W env hi s0 vars s):PrivStep [env.locals] hi none s0 s:=⟨G.keep,G.inv.ok.step.os,fun g st e _=>G.inv.ok.step.gens g st e,G.inv.ok.step.bare⟩
noncomputable def fvs (vars:List MV):Prop:=∀mv∈vars,(∃x,mv=.fv x)∨mv=.unb
theorem g_yield (WK:WOk W) {x:X} {a b:FV} {ypos pos:Pos} {n:Nat} {c:Code} {fs:List Frame} {K:Flow→Sem PySem.Fin} {H:Value→Sem PySem.Fin} {gd:Bool→Bool} {lv:List Value→List Value}
  (hw:x.wf nsG=true) (e:ev T0 x vars []=some (.fv (.pair a b),[])) (hfull:full.getD (full.length-1-n) .none=.pair a b) (G:GInv W env hi s0 vars s) (rm:Room (0+8) (A.over c fs)) (hfs:splitAtGen fs=none) (hgd:gd false=false) (hfg:fs.any Frame.guarded=false)
  (hv:fvs vars) (hP:env.locals∈P) (hco:env.scope.isCoroutine=false) (hin:interactive env=false)
  (next:∀s2,GInv W env hi s2 vars s2→(∀b o,s.heap.get? b=some o→Priv P hi b o→s2.heap.get? b=some o)→Seg (model W.prog W.w) A (RG env.locals hi) (YG W P env.locals hi full) n s2 c (K .next) fs s2):
  Seg (model W.prog W.w) A (RG env.locals hi) (YG W P env.locals hi full) (n+1) s0 c ((exec (.Expr (.Yield (some (x.dec nsG)) ypos) pos) env).wrap K H gd lv) fs s:=by
 refine seg_Expr_Yield hfs hgd hfg (g_eval WK hw e G rm fun v s1 G1 r1 k1 kap hk=>?_) hco hin
 obtain ⟨o1,ho1,_,po1⟩:=G1.lcls
 exact ⟨G1.pstep,⟨o1,ho1,po1⟩,hfull▸r1,fun s2 y=>hk .none s2 (next s2 (G1.stay hP hv y) fun b o e m=>y.keep b o (k1 b o e) m)⟩
theorem PrivStep.toNil {h':Heap} {tk:Nat} {e it:Addr} {oe oi:Obj} (he:s.heap.get? e=some oe) (ce:Cog oe) (hie:hi.get? e=none) (hii:s.heap.get? it=some oi) (ci:Cog oi) (hit:hi.get? it=none)
  (k:∀b o,b≠e→b≠it→s.heap.get? b=some o→h'.get? b=some o):PrivStep [] hi none s {s with heap:=h',toks:=tk}:=
 ⟨fun b o eb m=>k b o (fun h=>by subst h;rw [he] at eb;cases eb;exact m (.inr ⟨ce,hie⟩)) (fun h=>by subst h;rw [hii] at eb;cases eb;exact m (.inr ⟨ci,hit⟩)) eb,rfl,fun _ _ e _=>e,id⟩
end
end
section
section
variable {W:W0} {env:Env} {hi:Heap} {P:List Addr} {A:Around} {full:List FV}
theorem drop_step {full:List FV} {x:FV} {r:List FV} {n:Nat} (h:full.drop (full.length-(n+1))=x::r) (hr:r.length=n):full.getD (full.length-1-n) .none=x∧full.drop (full.length-n)=r:=by
 obtain ⟨h1,h2⟩:=drop_cons h
 have hl:n+1≤full.length:=by
  have:=congrArg List.length h
  rw [List.length_drop,List.length_cons,hr] at this
  exact this▸Nat.sub_le _ _
 refine ⟨?_,?_⟩
 ·rw [Nat.sub_sub,Nat.add_comm 1,List.getD_eq_getElem?_getD,h1];rfl
 ·rw [←h2,Nat.sub_add_eq,Nat.sub_add_cancel (Nat.le_sub_of_add_le (Nat.add_comm 1 n▸hl))]
noncomputable def gv (l:List Nat) (last:Nat) (esc:Bool) (chv:MV):List MV:=[.fv (.str l),.fv (.int last),.fv (.bool esc),chv,.unb]
noncomputable def okc (chv:MV):Prop:=(∃x,chv=.fv x)∨chv=.unb
theorem fvs_gv {l:List Nat} {last:Nat} {esc:Bool} {chv:MV} (h:okc chv):fvs (gv l last esc chv):=fun mv hm=>
 (List.mem_cons.mp hm).elim (fun e=>.inl ⟨_,e⟩) fun hm=>(List.mem_cons.mp hm).elim (fun e=>.inl ⟨_,e⟩) fun hm=>(List.mem_cons.mp hm).elim (fun e=>.inl ⟨_,e⟩) fun hm=>(List.mem_cons.mp hm).elim (fun e=>e▸h) fun hm=>.inr (List.mem_singleton.mp hm)
theorem gv_asg {l:List Nat} {last:Nat} {esc b:Bool} {chv:MV} {p q r:Pos}:ex T0 (.asg 2 (.cb b p) q r) ⟨gv l last esc chv,[],[],0⟩=some (.next,⟨(gv l last esc chv).set 2 (.fv (.bool b)),[],[],0⟩):=rfl
theorem gT_ev (l:List Nat) (i cc:Nat):evT T0 gT (ev T0 gT (gv l i false (.fv (.str [cc]))) []) (gv l i false (.fv (.str [cc]))) []=some (decide (cc=92),[]):=by
 have:evT T0 gT (ev T0 gT (gv l i false (.fv (.str [cc]))) []) (gv l i false (.fv (.str [cc]))) []=some (([cc]:List Nat)== [92],[]):=by rfl
 rw [this,Bool.eq_iff_iff.mpr ((beq_iff_eq (a:=[cc])).trans (List.singleton_inj.trans decide_eq_true_iff.symm))]
theorem drawsOf {A:Around} (hh:A.handled=none) (it:Addr) (l:List Nat) (t:Tok):Draws W.prog W.w A it [it] l.length (fun i v=>∃c u,l[i]?=some c∧v=.str ⟨#[c]⟩ u) (fun i h=>h.IsStrIter it (strIterType ⟨l.toArray⟩) ⟨l.toArray⟩ t i):=by
 unfold strIterType
 split
 ·simpa using Draws.strAscii (prog:=W.prog) (w:=W.w) hh it ⟨l.toArray⟩ t
 ·simpa using Draws.strWide (prog:=W.prog) (w:=W.w) hh it ⟨l.toArray⟩ t
theorem cogE {h:Heap} {e it:Addr} {i:Int} {old:Value} (he:IsEnum h e it i old):∃o,h.get? e=some o∧Cog o:=⟨_,he,.inl rfl,_,rfl⟩
theorem cogS {h:Heap} {it:Addr} {x:Str} {t:Tok} {i:Nat} (he:h.IsStrIter it (strIterType x) x t i):∃o,h.get? it=some o∧Cog o:=by
 obtain ⟨o,e,c,d⟩:=he
 refine ⟨o,e,.inr ?_,_,d⟩
 unfold strIterType at c
 by_cases q:x.cps.all (· <128)=true
 ·rw [if_pos q] at c;exact .inl c
 ·rw [if_neg q] at c;exact .inr c
theorem escGo_len {i:Nat} {esc:Bool} {x:FV} {r:List FV} {n:Nat} (hn:n=(x::r).length):∃n',n=n'+1∧r.length=n':=⟨_,hn,rfl⟩
structure EnAt (l:List Nat) (t:Tok) (e it:Addr) (i:Nat) (h:Heap):Prop where
 en:∃old,IsEnum h e it (i:Int) old
 st:h.IsStrIter it (strIterType ⟨l.toArray⟩) ⟨l.toArray⟩ t i
theorem EnAt.keep {l:List Nat} {t:Tok} {e it:Addr} {i:Nat} {h h':Heap} (x:EnAt l t e it i h) (k:∀o b,b=e∨b=it→Cog o→h.get? b=some o→h'.get? b=some o):EnAt l t e it i h':=by
 obtain ⟨⟨old,he⟩,hs⟩:=x
 obtain ⟨o',e',c'⟩:=cogS hs
 obtain ⟨o,e,r⟩:=hs
 exact ⟨⟨old,k _ _ (.inl rfl) ⟨.inl rfl,_,rfl⟩ he⟩,o,k o it (.inr rfl) (Option.some.inj (e'.symm.trans e)▸c') e,r⟩
theorem gen_loop (WK:WOk W) {l:List Nat} {t:Tok} {e it:Addr} (hne:e≠it) (heL:e≠env.locals) (hiL:it≠env.locals) (hie:hi.get? e=none) (hii:hi.get? it=none) (hP:env.locals∈P)
  (hco:env.scope.isCoroutine=false) (hin:interactive env=false) {K:Flow→Sem PySem.Fin} {H:Value→Sem PySem.Fin} {gd:Bool→Bool} {lv:List Value→List Value} {c:Code} {p:Pos} (hgd:gd false=false)
  (rm:Room (0+8) (A.over (.forLoop gTarget (.ref e) gBody [] env) [under K H gd lv env c p]))
  (hK:∀(i:Nat) (esc:Bool) (last:Nat) (chv:MV) (n:Nat) (s0 s:Shared),n=(escGo i esc last []).length→full.drop (full.length-n)=escGo i esc last []→GInv W env hi s0 (gv l last esc chv) s→okc chv→
   Seg (model W.prog W.w) A (RG env.locals hi) (YG W P env.locals hi full) n s0 c (K .next) [] s) (r:List Nat):
  ∀(i last:Nat) (esc:Bool) (chv:MV) (n:Nat) (s0 s:Shared),l.drop i=r→i≤l.length→n=(escGo i esc last r).length→full.drop (full.length-n)=escGo i esc last r→GInv W env hi s0 (gv l last esc chv) s→okc chv→EnAt l t e it i s.heap→
   Seg (model W.prog W.w) A (RG env.locals hi) (YG W P env.locals hi full) n s0 (.forLoop gTarget (.ref e) gBody [] env) ((model W.prog W.w).den (.forLoop gTarget (.ref e) gBody [] env)) [under K H gd lv env c p] s:=by
 have hfg:([under K H gd lv env c p]:List Frame).any Frame.guarded=false:=by
  show ((gd false)||false)=false
  rw [hgd];rfl
 have D:=drawsOf (W:=W) (A:=(A.over (.forLoop gTarget (.ref e) gBody [] env) [under K H gd lv env c p]).in1) rm.quiet it l t
 have nL:∀{b},b=e∨b=it→b≠env.locals:=fun h=>by rcases h with rfl|rfl<;>assumption
 have nH:∀{b},b=e∨b=it→hi.get? b=none:=fun h=>by rcases h with rfl|rfl<;>assumption
 induction r with
 |nil=>
  intro i last esc chv n s0 s hr hle hn hfull G hc ⟨⟨old,he⟩,hst⟩
  obtain rfl:i=l.length:=Nat.le_antisymm hle (List.drop_eq_nil_iff.mp hr)
  obtain ⟨oe,hoe,ce⟩:=cogE he
  obtain ⟨oi,hoi,ci⟩:=cogS hst
  exact seg_forLoop fun K' H' gd' hgd' hK'=>wpAny_pyNext_enum_endD D he hst fun h' hx=>
   under_next (hK l.length esc last chv n s0 _ hn hfull (G.cog (PrivStep.toNil (tk:=s.toks) hoe ce hie hoi ci hii fun b o _ hb e=>hx b o hb e)) hc)
 |cons cc r ih=>
  intro i last esc chv n s0 s hr hle hn hfull G hc ⟨⟨old,he⟩,hst⟩
  obtain ⟨hget,hr1⟩:=drop_cons hr
  have hlt:i<l.length:=(List.getElem?_eq_some_iff.mp hget).1
  refine seg_forLoop fun K' H' gd' hgd' hK'=>wpAny_pyNext_enum_itemD D he hst hlt hne (fun h=>hne (List.mem_singleton.mp h)) fun x h' tk hPx heo hst' hT hsz hk=>?_
  obtain ⟨c1,u,hc1,rfl⟩:=hPx
  obtain rfl:cc=c1:=Option.some.inj (hget.symm.trans hc1)
  refine wpAny_letOwnedTupleGo_enum heo fun h2 he2 hs2=>?_
  obtain ⟨oe,hoe,ce⟩:=cogE he
  obtain ⟨oi,hoi,ci⟩:=cogS hst
  have G2:=G.cog (PrivStep.toNil (h':=h2) (tk:=tk+1) hoe ce hie hoi ci hii fun b o hbe hbi eb=>(hs2.2 b hbe).trans (hk b o hbe hbi eb))
  refine g_let (a:=.int i) (b:=.str [cc]) G2 rm ⟨s.heap.objs.size,.int i tk,.str ⟨#[cc]⟩ u,0,rfl,(hs2.2 _ (Nat.ne_of_gt (Heap.lt_size he))).trans hT,⟨_,rfl⟩,⟨_,rfl⟩⟩ fun s3 G3 k3=>?_
  have E3:EnAt l t e it (i+1) s3.heap:=EnAt.keep (h:=h2) ⟨⟨_,he2⟩,hst'.extBut hs2.extBut (Ne.symm hne)⟩ fun o b hb _ e=>k3 b o e (nL hb)
  have hG3:GInv W env hi s0 (gv l i esc (.fv (.str [cc]))) s3:=G3
  have okcc:okc (.fv (.str [cc])):=.inl ⟨_,rfl⟩
  have again_:∀(esc':Bool) (n':Nat) (s0' s':Shared),n'=(escGo (i+1) esc' i r).length→full.drop (full.length-n')=escGo (i+1) esc' i r→GInv W env hi s0' (gv l i esc' (.fv (.str [cc]))) s'→EnAt l t e it (i+1) s'.heap→
    Seg (model W.prog W.w) A (RG env.locals hi) (YG W P env.locals hi full) n' s0' (.forLoop gTarget (.ref e) gBody [] env) (K' .next) [under K H gd lv env c p] s':=fun esc' n' s0' s' h1 h2 h3 h4=>by
   rw [hK']
   exact seg_again rfl (ih (i+1) i esc' _ n' s0' s' hr1 hlt h1 h2 h3 okcc h4)
  show Seg _ A _ _ n s0 _ ((execs gBody env).wrap K' H' gd' id) _ s3
  refine seg_execs_cons (seg_If (g_test WK (b:=esc) (by decide) (by rfl) hG3 rm fun s4 G4 k4=>?_))
  have E4:=E3.keep fun o b _ _=>k4 b o
  cases esc with
  |true=>
   obtain ⟨n',rfl,hn'⟩:=escGo_len (x:=.pair (.int i) (.str [92,cc])) (r:=escGo (i+1) false i r) (i:=i) (esc:=true) hn
   have hd:=drop_step (x:=.pair (.int i) (.str [92,cc])) hfull hn'
   refine seg_execs_cons (g_yield WK (a:=.int i) (b:=.str [92,cc]) (by decide) (by rfl) hd.1 G4 rm rfl hgd' hfg (fvs_gv okcc) hP hco hin fun s5 G5 k5=>seg_execs_cons (seg_plain (g_asg WK (by decide) gv_asg (by decide) G5 rm fun s6 G6 k6=>?_)))
   exact again_ false n' s5 s6 hn'.symm hd.2 G6 (E4.keep fun o b hb hc e=>k6 b o (k5 b o e (.inr ⟨hc,nH hb⟩)) (nL hb))
  |false=>
   refine seg_execs_cons (seg_If (g_test WK (x:=gT) (b:=decide (cc=92)) (by decide) (gT_ev l i cc) G4 rm fun s5 G5 k5=>?_))
   have E5:=E4.keep fun o b _ _=>k5 b o
   by_cases h92:cc=92
   ·rw [decide_eq_true h92]
    refine seg_execs_cons (seg_plain (g_asg WK (by decide) gv_asg (by decide) G5 rm fun s6 G6 k6=>?_))
    have es:escGo i false last (cc::r)=escGo (i+1) true i r:=if_pos h92
    exact again_ true n s0 s6 (es▸hn) (es▸hfull) G6 (E5.keep fun o b hb _ e=>k6 b o e (nL hb))
   ·rw [decide_eq_false h92]
    have es:escGo i false last (cc::r)=.pair (.int i) (.str [cc])::escGo (i+1) false i r:=if_neg h92
    obtain ⟨n',rfl,hn'⟩:=escGo_len (i:=i) (esc:=true) (es▸hn)
    have hd:=drop_step (es▸hfull) hn'
    exact seg_execs_cons (g_yield WK (a:=.int i) (b:=.str [cc]) (by decide) (by rfl) hd.1 G5 rm rfl hgd' hfg (fvs_gv okcc) hP hco hin fun s6 G6 k6=>again_ false n' s6 s6 hn'.symm hd.2 G6 (E5.keep fun o b hb hc e=>k6 b o e (.inr ⟨hc,nH hb⟩)))
end
end
section
section
variable {prog:Program} {w:World} {A:Around} {E:Value→Shared→Prop} {s:Shared}
theorem pyNext_genR {a:Addr} {g n:Nat} {gs:GenState} {P:Nat→Shared→Shared→Prop} {Y:Protocol} {Q:Option Value→Shared→Prop} (hh:A.handled=none)
  (hl:s.heap.NoLimit) (hroom:A.depth<recursionLimit)
  (hg:s.heap.IsGen a g) (hgs:s.gens[g]?=some gs)
  (hgo:gs.Goes (model prog w) A.in1 (fun n s₀ r s₁=>r=.ok (.ret .none)∧P n s₀ s₁) Y n (.send .none) (s.setGen g .running))
  (hY:∀v s₁ gs',gs'.bare=true→Y (n-1) (s.setGen g .running) v s₁ (fun r' s''=>match n with
    |0=>False
    |m+1=>gs'.Goes (model prog w) A.in1 (fun n s₀ r s₁=>r=.ok (.ret .none)∧P n s₀ s₁) Y m r' s'')→Q (some v) (s₁.setGen g gs'))
  (hP:∀s₁,P n (s.setGen g .running) s₁→∀h',(∀b o,s₁.heap.get? b=some o→h'.get? b=some o)→Q none {s₁.setGen g .finished with heap:=h'}):
  wpAny (model prog w) A (pyNext (.ref a)) Q E s:=by
 unfold pyNext
 refine wpAny_bind (wpAny_attempt (wpAny_callSpecial?_slot (name:=Str.ofString "__next__") hg.typeIs slot_gen_next
  (wpAny_call_entry slot_gen_next hg.typeIs entry_gen_next ?_ (args_gen_next _))))
 show wpAny _ _ (Builtin.Generator.genWake (.ref a) (.send .none)) _ _ s
 unfold Builtin.Generator.genWake
 refine wpAny_bind (wpAny_holding (wpAny_genNumber hg (wpAny_bind (wpAny_genState hgs ?_))))
 cases gs with
 |running=>exact hgo.elim
 |finished=>exact hgo.elim
 |_=>
  refine wpAny_bind (wpAny_roomToWake hl hroom ?_)
  show wpAny _ _ (.resume g (.send .none) [] _) _ _ s
  refine wpAny_resumeQ hgs hgo (fun x s₁ hx=>?_) (fun v s₁ gs' hb hv=>?_)
  ·obtain ⟨rfl,hp⟩:=hx
   show wpAny _ _ (newExc (.type "StopIteration") []>>=_) _ _ _
   refine wpAny_bind ?_
   simp only [newExc,newTuple]
   refine wpAny_bind (wpAny_newObj_type ?_ (by size_fits))
   refine wpAny_bind (m:=firstArgMember _ _) (wpAny_of_eq (a:=Value.none) (by first|rfl|(simp only [firstArgMember];rfl)) ?_)
   refine wpAny_newObj_type ?_ (by size_fits)
   simp only [raiseNew]
   refine wpAny_bind (wpAny_bind (wpAny_handled ?_))
   rw [show A.in1.handled=none from hh]
   refine wpAny_throw ?_
   refine wpAny_bind (wpAny_isInstance (T:= "StopIteration") (b:=true) ⟨_,Heap.get?_push_size _ rfl,rfl⟩ isSubtype_stop ?_)
   exact wpAny_pure (hP s₁ hp _ fun b o hb=>Heap.get?_push_of_some _ (Heap.get?_push_of_some _ hb))
  ·exact wpAny_pure ⟨v,rfl,wpAny_pure (hY v s₁ gs' hb hv)⟩
end
section
variable {W:W0} {env:Env} {hi:Heap} {P:List Addr} {A:Around} {s:Shared}
noncomputable def gs0 (l:List Nat):List MV:=[.fv (.str l),.unb,.unb,.unb,.unb]
theorem escGo_full (l:List Nat):(escItems l).drop ((escItems l).length-(escItems l).length)=escGo 0 false 0 l:=by rw [Nat.sub_self];rfl
theorem gen_start (WK:WOk W) {l:List Nat} (hP:env.locals∈P) (hco:env.scope.isCoroutine=false) (hin:interactive env=false) (rm:Room 9 A) (G:GInv W env hi s (gs0 l) s):
  Seg (model W.prog W.w) A (RG env.locals hi) (YG W P env.locals hi (escItems l)) (escItems l).length s (.func genBody env) ((model W.prog W.w).den (.func genBody env)) [] s:=by
 have hd8:A.depth+1+8≤900:=Room.dp rm.depth
 have hu8:A.units+3+20*8≤9000:=Room.up rm.units (by decide)
 have rmF:Room (0+8) (A.over (.func genBody env) []):=⟨hd8,hu8,rm.quiet⟩
 refine seg_func (seg_execs_cons (seg_plain (g_asg WK (mv:=.fv (.int 0)) (by decide) (by rfl) (by decide) G rmF fun s1 G1 k1=>seg_execs_cons (seg_plain (g_asg WK (mv:=.fv (.bool false)) (by decide) (by rfl) (by decide) G1 rmF fun s2 G2 k2=>seg_execs_cons (seg_For ?_ (fun x=>rfl)))))))
 refine Call_Name1 (bname_ok G2.inv.fr G2.inv.ok.rel (by decide) WK.enu (PyProof.Rows.callWith_type rfl (Calls.evalArgs_plain (Calls.spliced_cons ?_))))
 refine g_eval WK (x:=.var 0 (pq 9 29 33)) (mv:=.fv (.str l)) (by decide) (by rfl) G2 rmF fun v s3 G3 r3 k3=>?_
 obtain ⟨t,rfl⟩:=r3
 refine Calls.spliced_nil (call_enumerate_str fun h' he hst hsz hk=>wpAny_pyIter_enum he fun p=>?_)
 have n1:s3.heap.get? s3.heap.objs.size=none:=fresh_size _
 have n2:s3.heap.get? (s3.heap.objs.size+1)=none:=noneOf fun o q=>Nat.not_lt.mpr (Nat.le_succ _) (Heap.lt_size q)
 have al3:∀b,s3.heap.get? b=none→hi.get? b=none:=fun b h=>noneOf fun o q=>(G3.live b o q).elim fun _ e'=>dead e' h
 obtain ⟨oL,hoL,_⟩:=G3.lcls
 have G4:GInv W env hi s (gv l 0 false .unb) {s3 with heap:=h'}:=G3.cog ⟨fun b o e _=>hk b o e,rfl,fun _ _ e _=>e,id⟩
 refine gen_loop WK (l:=l) (t:=t) (e:=s3.heap.objs.size+1) (it:=s3.heap.objs.size) (Nat.succ_ne_self _) (fun h=>dead hoL (h▸n2)) (fun h=>dead hoL (h▸n1)) (al3 _ n2) (al3 _ n1) hP hco hin (gd:=id) rfl
  ?_ (fun i esc last chv n s0 s5 hn hfull G5 hc=>?_) l 0 0 false .unb _ s _ rfl (Nat.zero_le _) rfl (escGo_full l) G4 (.inr rfl) ⟨⟨_,he⟩,hst⟩
 ·exact ⟨(show A.depth+1+0+(0+8)≤_ from hd8),(show A.units+3+0+20*(0+8)≤_ from hu8),rm.quiet⟩
 subst hn
 refine seg_execs_cons (seg_If (g_test WK (b:=esc) (by decide) (by rfl) G5 rmF fun s6 G6 k6=>?_))
 cases esc with
 |true=>
  have hd:=drop_step (n:=0) (x:=.pair (.int last) (.str [92])) (r:=[]) hfull rfl
  exact seg_execs_cons (g_yield WK (a:=.int last) (b:=.str [92]) (by decide) (by rfl) hd.1 G6 rmF rfl rfl rfl (fvs_gv hc) hP hco hin fun s7 G7 k7=>seg_end (.ok (.ret .none)) ⟨rfl,rfl,G7.pstep⟩)
 |false=>exact seg_end (.ok (.ret .none)) ⟨rfl,rfl,G6.pstep⟩
end
end
section
section
variable {W:W0} {d:Nat} {ns:Names} {T:Tbl}
theorem setGen_get {s:Shared} {g:Nat} {st x:GenState} (h:s.gens[g]?=some x):(s.setGen g st).gens[g]?=some st:=
 Array.getElem?_setIfInBounds_self_of_lt (Array.getElem?_eq_some_iff.mp h).1
theorem setGen_ne {s:Shared} {g k:Nat} {st:GenState} (h:k≠g):(s.setGen g st).gens[k]?=s.gens[k]?:=
 Array.getElem?_setIfInBounds_ne (Ne.symm h)
theorem setGen_bare {s:Shared} {g:Nat} {st:GenState} (hb:st.bare=true) (b:AllBare s.gens):AllBare (s.setGen g st).gens:=fun y hy=>
 (Array.mem_or_eq_of_mem_setIfInBounds hy).elim (b y) fun h=>h▸hb
noncomputable def GIt (W:W0) (A:Around) (P:List Addr) (hi:Heap) (a L:Addr) (g:Nat) (full:List FV) (s:Shared) (i:Nat):Prop:=
 s.heap.IsGen a g∧(∃o,s.heap.get? L=some o∧PObj W o)∧∃gs,s.gens[g]?=some gs∧∀s2,Stay W P hi s s2→gs.Goes (model W.prog W.w) A.in1 (RG L hi) (YG W P L hi full) (full.length-i) (.send .none) (s2.setGen g .running)
theorem isGen_pobj {h:Heap} {a:Addr} {g:Nat} (x:h.IsGen a g):∃o,h.get? a=some o∧IterObj o∧(Cog o→False):=by
 obtain ⟨o,nm,qn,e,c,dd,_⟩:=x
 have n:∀{T},o.cls=.type T→ "generator" =T:=fun h=>Value.type.inj (c.symm.trans h)
 exact ⟨o,e,⟨_,_,c,dd,by decide⟩,fun h=>h.1.elim (fun h=>absurd (n h) (by decide)) fun h=>h.elim (fun h=>absurd (n h) (by decide)) fun h=>absurd (n h) (by decide)⟩
theorem PrivStep.wake {P:List Addr} {hi:Heap} {L:Addr} {g:Nat} {st st':GenState} {s s1:Shared} (x:PrivStep [L] hi none (s.setGen g st) s1) (hb:st.bare=true) (hb':st'.bare=true) (hL:L∈P) {h':Heap} (k:∀b o,s1.heap.get? b=some o→h'.get? b=some o):PrivStep P hi (some g) s {s1.setGen g st' with heap:=h'}:=
 ⟨fun b o e m=>k b o (x.heap b o e fun h=>m (h.elim (fun q=>.inl ((List.mem_singleton.mp q).symm▸hL)) .inr)),x.os,fun j sk e hk=>by
  have hne:j≠g:=fun h=>hk (congrArg some h)
  exact (setGen_ne (s:=s1) hne).trans (x.gens j sk ((setGen_ne (s:=s) hne).trans e) (fun h=>nomatch h)),fun b=>setGen_bare hb' (x.bare (setGen_bare hb b))⟩
theorem gen_next {A:Around} {P:List Addr} {hi:Heap} {a L:Addr} {g:Nat} {full:List FV} {s:Shared} {i:Nat} {x:FV} (rm:Room 9 A) (base:∀b o,W.h0.get? b=some o→s.heap.get? b=some o) (live:∀b o,hi.get? b=some o→∃o',s.heap.get? b=some o') (haL:a≠L) (hL:L∈P)
  (I:GIt W A P hi a L g full s i) (hx:full[i]?=some x):
  wpAny (model W.prog W.w) A (pyNext (.ref a)) (fun r s1=>∃u,r=some u∧PrivStep P hi (some g) s s1∧FRel s1.heap x u∧GIt W A P hi a L g full s1 (i+1)) NoE s:=by
 obtain ⟨hg,hLo,gs,hgs,go⟩:=I
 have hlt:i<full.length:=(List.getElem?_eq_some_iff.mp hx).1
 obtain ⟨n,hn⟩:∃n,full.length-i=n+1:=Nat.exists_eq_add_one_of_ne_zero (Nat.sub_ne_zero_of_lt hlt)
 have hl:full.length=n+1+i:=(Nat.sub_eq_iff_eq_add (Nat.le_of_lt hlt)).mp hn
 have go1:=go s ⟨fun _ _ e _=>e,fun _ _ e _=>e,base,live⟩
 rw [hn] at go1
 refine pyNext_genR rm.quiet (W.lim.keeps base) rm.lt hg hgs go1 (fun v s1 gs' hb hY=>?_) (fun s1 hP=>(Nat.succ_ne_zero n hP.1).elim)
 obtain ⟨st,hLo1,r,cont⟩:=hY
 rw [show full.length-1-(n+1-1)=i by rw [hl,Nat.add_sub_cancel,Nat.sub_sub,Nat.add_comm 1 n,Nat.add_sub_cancel_left],List.getD_eq_getElem?_getD,hx] at r
 obtain ⟨oa,hoa,_,nca⟩:=isGen_pobj hg
 have hka:s1.heap.get? a=some oa:=st.heap a oa hoa fun m=>m.elim (fun m=>haL (List.mem_singleton.mp m)) fun m=>nca m.1
 refine ⟨v,rfl,st.wake rfl hb hL fun _ _ e=>e,r,?_,hLo1,gs',setGen_get (st.gens g _ (setGen_get hgs) (fun h=>nomatch h)),fun s2 y=>?_⟩
 ·obtain ⟨o,nm,qn,e,rr⟩:=hg
  obtain rfl:oa=o:=Option.some.inj (hoa.symm.trans e)
  exact ⟨oa,nm,qn,hka,rr⟩
 ·rw [show full.length-(i+1)=n by rw [hl,Nat.add_right_comm,Nat.add_assoc,Nat.add_sub_cancel]]
  exact cont (s2.setGen g .running) ⟨y.keep,y.imm,y.base,y.live⟩
theorem gen_end {A:Around} {P:List Addr} {hi:Heap} {a L:Addr} {g:Nat} {full:List FV} {s:Shared} {i:Nat} (rm:Room 9 A) (base:∀b o,W.h0.get? b=some o→s.heap.get? b=some o) (live:∀b o,hi.get? b=some o→∃o',s.heap.get? b=some o') (hL:L∈P) (hiL:hi.get? L=none) (hb0:∀b o,W.h0.get? b=some o→∃o',hi.get? b=some o')
  (I:GIt W A P hi a L g full s i) (hx:full[i]?=none):
  wpAny (model W.prog W.w) A (pyNext (.ref a)) (fun r s1=>r=none∧PrivStep P hi (some g) s s1) NoE s:=by
 obtain ⟨hg,hLo,gs,hgs,go⟩:=I
 have go1:=go s ⟨fun _ _ e _=>e,fun _ _ e _=>e,base,live⟩
 rw [Nat.sub_eq_zero_of_le (List.getElem?_eq_none_iff.mp hx)] at go1
 refine pyNext_genR rm.quiet (W.lim.keeps base) rm.lt hg hgs go1 (fun v s1 gs' hb hY=>?_) (fun s1 hP h' hk=>⟨rfl,hP.2.wake rfl rfl hL hk⟩)
 obtain ⟨st,_,_,cont⟩:=hY
 have np:∀b o o',hi.get? b=some o→¬Priv [L] hi b o':=fun b o o' e m=>m.elim (fun m=>dead (List.mem_singleton.mp m▸e) hiL) fun m=>dead e m.2
 exact (cont s1 ⟨fun _ _ e _=>e,fun _ _ e _=>e,fun b o e=>(hb0 b o e).elim fun o' e'=>st.heap b o (base b o e) (np b o' o e'),fun b o e=>(live b o e).imp fun o' e'=>st.heap b o' e' (np b o o' e)⟩).elim
theorem GIt.keep {A:Around} {P:List Addr} {hi:Heap} {a L:Addr} {g:Nat} {full:List FV} {s s1:Shared} {i:Nat} (ha:a∈P) (hL:L∈P) (I:GIt W A P hi a L g full s i) (k:∀b o,s.heap.get? b=some o→Priv P hi b o→s1.heap.get? b=some o) (ki:KeepImm s.heap s1.heap)
  (kg:∀(g:Nat) (st:GenState),s.gens[g]?=some st→s1.gens[g]?=some st):GIt W A P hi a L g full s1 i:=by
 obtain ⟨⟨o,nm,qn,e,rr⟩,⟨oL,eL,pL⟩,gs,hgs,go⟩:=I
 exact ⟨⟨o,nm,qn,k a o e (.inl ha),rr⟩,⟨oL,k L oL eL (.inl hL),pL⟩,gs,kg g gs hgs,fun s2 y=>go s2 ⟨fun b o e m=>y.keep b o (k b o e m) m,fun b o e im=>y.imm b o (ki b o e im) im,y.base,y.live⟩⟩
theorem lk1 {x y:Str} {v:Value} (h:(x==y)=false):[(y,v)].reverse.lookup x=none:=by
 show (match x==y with|true=>some v|false=>none)=none
 rw [h]
theorem gfr {env:Env} {h:Heap} {l:List Nat} {t:Tok} (hn:env.scope.names=nsG) (hk:env.scope.kind=.function) (hg:env.globals=mainGlobals) (hb:env.builtins=builtinsNs) (hc:env.cells=[]) (hns:h.Ns env.locals (fun x=>[((("addr" :Str)),(Value.str ⟨l.toArray⟩ t))].reverse.lookup x)) (hw:W.h0.get? env.locals=none):
  FR W env nsG (gs0 l) [] h:=by
 have hno:∀{x c},env.cells.lookup x=some c→False:=fun e=>by rw [hc] at e;cases e
 refine ⟨by rw [hn];exact .cons ⟨rfl,.inl rfl⟩ (.cons ⟨rfl,.inl rfl⟩ (.cons ⟨rfl,.inl rfl⟩ (.cons ⟨rfl,.inl rfl⟩ (.cons ⟨rfl,.inl rfl⟩ .nil)))),by decide,hk,hg,hb,by decide,rfl,⟨_,hns,lk1 (by decide),fun i x mv e1 e2=>?_⟩,fun i x k mv e1 e2 e3=>?_,fun b hb=>?_,fun x y c e=>(hno e).elim,fun x c e=>(hno e).elim⟩
 ·rw [hn] at e1
  cases i with
  |zero=>cases e1;cases e2;exact ⟨⟨_,rfl,t,rfl⟩,fun h=>nomatch h⟩
  |succ i=>
   have q:∀p∈nsG.tail,(p.1==("addr" :Str))=false:=by decide
   have u:mv=.unb:=by
    have:∀m∈[MV.unb,.unb,.unb,.unb],m=.unb:=by decide
    exact this mv (List.mem_of_getElem? (l:=[MV.unb,.unb,.unb,.unb]) e2)
   subst u
   exact ⟨lk1 (q _ (List.mem_of_getElem? (l:=nsG.tail) (i:=i) e1)),fun h=>nomatch h⟩
 ·rw [hn] at e1
  have:∀p∈nsG,p.2≠.cell∧p.2≠.free:=by decide
  exact (e2.elim (this _ (List.mem_of_getElem? e1)).1 (this _ (List.mem_of_getElem? e1)).2).elim
 ·unfold ownOf at hb
  rw [hc] at hb
  obtain rfl:b=env.locals:=List.mem_singleton.mp hb
  exact ⟨List.not_mem_nil,hw,hns.elim fun o q=>q.elim fun _ q=>q.elim fun _ q=>⟨o,q.1⟩⟩
end
end
section
section
variable {W:W0} {d:Nat} {ns:Names} {T:Tbl}
theorem push_keep {gs:Array GenState} {x:GenState} (g:Nat) (st:GenState) (e:gs[g]?=some st):(gs.push x)[g]?=some st:=by
 have hl:=(Array.getElem?_eq_some_iff.mp e).1
 rw [Array.getElem?_push_lt hl];rw [Array.getElem?_eq_getElem hl] at e;exact e
theorem gs0_fvs {l:List Nat}:fvs (gs0 l):=fun mv hm=>(List.mem_cons.mp hm).elim (fun e=>.inl ⟨_,e⟩) fun hm=>by
 have:∀m∈[MV.unb,.unb,.unb,.unb],m=.unb:=by decide
 exact .inr (this mv hm)
theorem forG_run {ti tj:Nat} {b:Ss} {pi pj pt:Pos} {A:Around} {env envG:Env} {s s0 s1:Shared} {ρ ρ0 ρ1:List Addr} {itv:List Value} {ms ms':MS} {fl:Fl} {o:List MO} {l:List Nat} {t:Tok} {h1 h2:Heap} {tk:Nat} {a:Addr} {sc:Scope} {res:Option Fl} {msF:MS}
  (WK:WOk W) (TK:TblOk W d T) (rm10:Room 10 A) (rm:Room (d+8) A) (I:SInv W ρ0 s0 env ns itv ms ρ s) (K1:Ok W ρ s ρ1 o s1)
  (hrun:turns (fun it s=>match it with
       |.pair a c=>exs T b {s with vars:=(s.vars.set ti (.fv a)).set tj (.fv c)}
       |_=>none) none (escItems l) {ms with its:=.fv .none::ms.its,objs:=o}=some (res,msF))
  (eS:envG.scope=sc) (hnames:sc.names=nsG) (hkind:sc.kind=.function) (hco:sc.isCoroutine=false) (eC:envG.cells=[]) (eG:envG.globals=mainGlobals) (eB:envG.builtins=builtinsNs)
  (kp:∀b o,h1.get? b=some o→h2.get? b=some o) (kk:∀b o,s1.heap.get? b=some o→h1.get? b=some o) (hns:h1.Ns envG.locals (fun x=>[((("addr" :Str)),(Value.str ⟨l.toArray⟩ t))].reverse.lookup x)) (kL:s1.heap.get? envG.locals=none) (ka:h1.get? a=none)
  (hga:h2.IsGen a s1.gens.size) (hti:stOk ns ti=true) (htj:stOk ns tj=true) (hb:SS W d ns (exs T b) fun env=>execs (b.dec ns) env)
  (hr:res.getD .next=fl∧{msF with its:=msF.its.tail}=ms'):
  codeAny (model W.prog W.w) A (.forLoop (.Tuple [.Name (nm ns ti) pi,.Name (nm ns tj) pj] 0 pt) (.ref a) (b.dec ns) [] env)
   (fun r s'=>match r with|.ok f=>PostS W ρ0 s0 env ns itv ms' fl ρ s f s'|.error e=>cameBackBy (model W.prog W.w) A env NoE e s')
   {s1 with heap:=h2,toks:=tk,gens:=s1.gens.push (.fresh (.func genBody envG))}:=by
 subst eS
 obtain ⟨rfl,rfl⟩:=hr
 have rm9:Room 9 A:=rm10.le (by decide)
 have I1:=(I.expr K1).1
 have Kh:=Ok.keepAll K1.rel (fun b o e=>kp b o (kk b o e)) tk
 have K2:Ok W ρ1 s1 ρ1 o {s1 with heap:=h2,toks:=tk,gens:=s1.gens.push (.fresh (.func genBody envG))}:=⟨Kh.grows,⟨Kh.step.keep,Kh.step.inst,rfl,push_keep,fun b=>b.push rfl⟩,Kh.rel⟩
 have hns2:h2.Ns envG.locals _:=hns.keeps kp
 have hsz:(s1.gens.push (.fresh (.func genBody envG)))[s1.gens.size]?=some (GenState.fresh (.func genBody envG)):=Array.getElem?_push_size
 generalize hS2:({s1 with heap:=h2,toks:=tk,gens:=s1.gens.push (.fresh (.func genBody envG))}:Shared)=S2 at K2 ⊢
 rw [show s1.gens.push (.fresh (.func genBody envG))=S2.gens from hS2▸rfl] at hsz
 rw [show h2=S2.heap from hS2▸rfl] at hga hns2
 clear hS2 Kh
 have I2:=(I1.expr K2).1
 have k02:=I1.tr (I.expr K1).2 (I1.expr K2).2
 have fresh:∀b,s.heap.get? b=none→s0.heap.get? b=none∧W.h0.get? b=none∧b∉ownOf env:=fun b hb=>⟨fresh_back I.ok.step I.ok.grows I.ok.rel hb,I.ok.rel.h0 hb,fun m=>(I.fr.apart b m).2.2.elim fun _ e=>dead e hb⟩
 have haL:a≠envG.locals:=fun h=>hns.elim fun oo q=>q.elim fun _ q=>q.elim fun _ q=>dead q.1 (h▸ka)
 have nP:∀b∈[a,envG.locals],s1.heap.get? b=none:=fun b hb=>(List.mem_cons.mp hb).elim (fun e=>e▸back_none (kk a) ka) fun hb=>List.mem_singleton.mp hb▸kL
 have nS:∀b∈[a,envG.locals],s.heap.get? b=none:=fun b hb=>fresh_back K1.step K1.grows K1.rel (nP b hb)
 have mL:envG.locals∈[a,envG.locals]:=.tail _ (.head _)
 have hb0:∀b o,W.h0.get? b=some o→∃o',s.heap.get? b=some o':=fun b o e=>⟨o,I.ok.rel.base b o e⟩
 have G0:GInv W envG s.heap S2 (gs0 l) S2:=.of (gfr hnames hkind eG eB eC hns2 (fresh _ (nS _ mL)).2.1) K2.rel.base k02.live eC hb0 ⟨_,rfl⟩
 have hit:GIt W A [a,envG.locals] s.heap a envG.locals s1.gens.size (escItems l) S2 0:=by
  obtain ⟨oL,hoL,_,pL⟩:=G0.lcls
  exact ⟨hga,⟨oL,hoL,pL⟩,_,hsz,fun s2 y=>⟨rfl,gen_start WK (P:=[a,envG.locals]) mL hco (by unfold interactive;rw [hkind];rfl) rm10.in1 (G0.stay (P:=[a,envG.locals]) (s1:=s2.setGen s1.gens.size .running) mL gs0_fvs ⟨y.keep,y.imm,y.base,y.live⟩)⟩⟩
 have I3:SInv W ρ0 s0 env ns (.none::itv) {ms with its:=.fv .none::ms.its,objs:=o} ρ1 S2:=
  ⟨I2.ok,I2.fr,I2.own,.cons rfl I2.its,fun y hy=>(List.mem_cons.mp hy).elim (fun h q=>nomatch h.symm.trans q) (I.ine y),I2.n⟩
 have gs:s.gens[s1.gens.size]?=none:=noneOf fun st q=>Nat.lt_irrefl _ (Array.getElem?_eq_some_iff.mp (K1.step.gens _ st q)).1
 have pb:∀{s i sh},GIt W A [a,envG.locals] sh a envG.locals s1.gens.size (escItems l) s i→∀c∈[a,envG.locals],∃oo,s.heap.get? c=some oo∧PObj W oo:=fun h c hc=>(List.mem_cons.mp hc).elim (fun e=>(isGen_pobj h.1).imp fun oo q=>⟨e▸q.1,q.2.1.priv⟩) fun hc=>List.mem_singleton.mp hc▸h.2.1
 refine for_loop (res:=res) (P:=[a,envG.locals]) (g0:=some s1.gens.size) (It:=GIt W A [a,envG.locals] s.heap a envG.locals s1.gens.size (escItems l)) (ρi:=ρ) (si:=s) (orig:=none) (full:=escItems l) (xv:=.none)
   (step:=fun it s=>match it with
       |.pair a c=>exs T b {s with vars:=(s.vars.set ti (.fv a)).set tj (.fv c)}
       |_=>none)
   ⟨fun Q _ hI hy=>wpAny_mono (gen_next rm9 Q.1.ok.rel.base Q.2.live haL mL hI hy) (fun r s'' P=>?_) NoE.imp,fun Q _ hI hy=>gen_end rm9 Q.1.ok.rel.base Q.2.live mL (nS _ mL) hb0 hI hy,fun hI hk ki kg _=>hI.keep (.head _) mL hk ki kg,pb⟩
   ⟨fun c hc=>⟨(fresh c (nS c hc)).1,(fresh c (nS c hc)).2.1,nS c hc,(fresh c (nS c hc)).2.2⟩,fun g h=>?_,fresh⟩ (fun x u ms fl ms' ρ s' hst I ru=>body2 hti htj rm hb hst I ru)
   (fun ρ' s' hres I' k'=>wpAny_execs_nil ⟨ρ',hres▸rfl,I'.pop,k'⟩) (fun fl' ρ' s' f hres I' hf k'=>⟨ρ',hres▸hf,I'.pop,k'⟩) hrun I3 hit k02 fun c hc m=>(K1.rel.alive m).elim fun oo e=>dead e (nP c hc)
 ·obtain ⟨u,rfl,st,ru,hI'⟩:=P
  refine ⟨u,rfl,st,ru,pb hI',?_⟩
  obtain ⟨oo,e,q,_⟩:=isGen_pobj hI'.1
  exact wpAny_mono (letTuple_ok _ _ _ _ e q) (fun _ s2 h=>by subst h;exact ⟨⟨fun b oo e _=>e,rfl,fun g st e _=>e,id⟩,hI'⟩) NoE.imp
 ·obtain rfl:=Option.some.inj h
  exact ⟨noneOf fun st q=>(nomatch gs.symm.trans (I.ok.step.gens _ st q)),gs⟩
theorem ss_forG {ti tj:Nat} {arg:X} {b:Ss} {pi pj pt pf pc p:Pos} (WK:WOk W) (TK:TblOk W d T) (hd2:2≤d) (hw:(S.forG ti tj arg b pi pj pt pf pc p).wf ns=true)
  (hb:SS W d ns (exs T b) fun env=>execs (b.dec ns) env):SS W d ns (ex T (.forG ti tj arg b pi pj pt pf pc p)) fun env=>exec ((S.forG ti tj arg b pi pj pt pf pc p).dec ns) env:=by
 intro ms fl ms' hr A env s ρ ρ0 s0 itv rm I
 obtain ⟨⟨⟨⟨hti,htj⟩,hg⟩,hw⟩,_⟩:=and5 hw
 refine optSk hr fun l o h1 hr=>ifk hr fun hlim hr=>?_
 obtain ⟨res,msF,h3,hr⟩:=optXe hr
 obtain ⟨ga,og,fd,hmg,hog,hod,hbody,hnames,hkind,hco,hgen,hglb,hblt,hclo,hcd,hbind⟩:=WK.gen
 have h1s:evs T (Xs.cons arg .nil) ms.vars ms.objs=some ([.fv (.str l)],o):=by
  show (match ev T arg ms.vars ms.objs with|some (v,o1)=>some ([v],o1)|none=>none)=_
  rw [h1]
 have rm10:Room 10 A:=rm.le (Nat.add_le_add_right hd2 8)
 refine wpAny_For (Call_Name rfl (glob_ok I.fr I.ok.rel hg hmg (Calls.callWith_function (o:=og) (fd:=fd) (wpAny_mono (args_ok0 (sounds WK TK ns (.cons arg .nil) (Bool.and_eq_true_iff.mpr ⟨hw,rfl⟩)).1 h1s rm I.fr I.ok.rel) (fun x s1 P1=>?_) NoE.imp)))) (fun v=>rfl)
 obtain ⟨us,rfl,ρ1,K1,r1⟩:=P1
 obtain ⟨v,rfl,t,rfl⟩:=all2_1 r1
 refine ⟨⟨K1.rel.base _ _ hog,hod⟩,wpAny_call (codeAny_call_generator rm.lt (K1.rel.base _ _ hog) hod hco hgen hbody (hcd.keeps K1.rel.base) (hbind _ _ _ _ _ _ (wpAny_newFunctionEnv (by rw [hnames];decide) (fun x hx=>?_) (fun h' hns hsame=>?_) hkind)))⟩
 ·rw [List.mem_singleton.mp hx,hnames]
  exact (by decide:nsG.lookup ("addr" :Str)=some NameKind.local)
 have kk:∀b o,s1.heap.get? b=some o→h'.get? b=some o:=fun b o e=>hsame.extBut b o (Nat.ne_of_lt (Heap.lt_size e)) (Heap.get?_push_of_some _ e)
 refine ⟨(W.lim.keeps K1.rel.base).keeps kk,?_⟩
 have hgobj:=fun (nm qn:Value)=>(show (h'.push {cls:=.type "generator",data:=.fields #[.int s1.gens.size 0,nm,qn]}).IsGen h'.objs.size s1.gens.size from ⟨_,_,_,Heap.get?_push_size _ rfl,rfl,rfl,rfl⟩)
 exact wpAny_pyIter_gen (g:=s1.gens.size) (hgobj _ _) (codeAny_mono (forG_run (s1:=s1) (tk:=s1.toks+1+1+1) (a:=h'.objs.size) WK TK rm10 rm I K1 h3 rfl hnames hkind hco hclo hglb hblt (pushed _) kk hns (fresh_size _) (fresh_size _) (hgobj _ _) hti htj hb hr) (fun r s' h=>h))
end
end
section
section
variable {W:W0} {d:Nat} {T:Tbl}
mutual
theorem soundS (WK:WOk W) (TK:TblOk W d T) (hd:2≤d) (ns:Names):∀st:S,st.wf ns=true→SS W d ns (ex T st) fun env=>exec (st.dec ns) env
 |.asg i e pn p,h=>ss_asg WK TK h
 |.asg2 i j e pi pj p,h=>ss_asg2 WK TK h
 |.asgT i j e pi pj pt p,h=>ss_asgT WK TK h
 |.swp i j a b pi pj pt pv p,h=>ss_swp WK TK h
 |.asgS o i e ps p,h=>ss_asgS WK TK h
 |.aug i op e pn p,h=>ss_aug WK TK h
 |.augS o i op e ps p,h=>ss_augS WK TK h
 |.iff t b e p,h=>by
  have h:=and3 h
  exact ss_iff WK TK h.1.1 (soundSs WK TK hd ns b h.1.2) (soundSs WK TK hd ns e h.2)
 |.whl t b p,h=>by
  have h:=and2 h
  exact ss_whl WK TK h.1 (soundSs WK TK hd ns b h.2)
 |.forS ti iter b e pt p,h=>by
  have h:=and4 h
  exact ss_forS WK TK h.1.1.1 h.1.1.2 (soundSs WK TK hd ns b h.1.2) (soundSs WK TK hd ns e h.2)
 |.for2 ti tj iter b pi pj pt p,h=>by
  have h:=and4 h
  exact ss_for2 WK TK h.1.1.1 h.1.1.2 h.1.2 (soundSs WK TK hd ns b h.2)
 |.forG ti tj arg b pi pj pt pf pc p,h=>ss_forG WK TK hd h (soundSs WK TK hd ns b (and2 h).2)
 |.forE ti tj o b pi pj pt pa pc p,h=>ss_forE WK TK h
 |.ret e p,h=>ss_ret WK TK h
 |.brk p,h=>ss_brk
 |.xp e p,h=>ss_xp WK TK h
 |.dead st,h=>ss_dead
theorem soundSs (WK:WOk W) (TK:TblOk W d T) (hd:2≤d) (ns:Names):∀st:Ss,st.wf ns=true→SS W d ns (exs T st) fun env=>execs (st.dec ns) env
 |.nil,h=>ss_nil
 |.cons s r,h=>by
  have h:=and2 h
  exact ss_cons (soundS WK TK hd ns s h.1) (soundSs WK TK hd ns r h.2)
 |.gc r,h=>ss_gc (soundSs WK TK hd ns r h)
end
end
end
end Mine
end
section
set_option maxRecDepth 100000
open PySem PySem.W PyProof.Rows PySem.Spec
namespace Mine
section
noncomputable def fnWf (f:Nat) (ns:Names) (b:Ss):Bool:=
 b.wf ns&&nsOk ns&&decide (arity f+(moreOf f).length≤ns.length)&&(ns.take (arity f+(moreOf f).length)).all (fun p=>p.2== .local||p.2== .cell)&&ns.all (fun p=>p.2== .local||p.2== .cell||p.2== .globalImplicit)&&(!(moreOf f).contains .edict||ns.all fun p=>!(p.2== .cell))
set_option maxHeartbeats 4000000 in
theorem wf_all:(bodies.all fun p=>fnWf p.1 p.2.1 p.2.2)=true:=by decide+kernel
theorem lookup_in {β:Type} {f:Nat} {x:β} (l:List (Nat × β)) (h:l.lookup f=some x):(f,x)∈l:=by
 induction l with
 |nil=>exact non h
 |cons p r ih=>
  rw [List.lookup_cons] at h
  cases e:f==p.1 with
  |true=>
   rw [e] at h
   rw [show (f,x)=p from Prod.ext (beq_iff_eq.mp e) (Option.some.inj h).symm];exact .head _
  |false=>rw [e] at h;exact .tail _ (ih h)
theorem fn_wf {f:Nat} {ns:Names} {b:Ss} (h:bodyF f=some (ns,b)):fnWf f ns b=true:=List.all_eq_true.mp wf_all _ (lookup_in _ h)
section
variable {kindOf:Str→Option NameKind} {x:Str} {binds:List (Str × Value)}
theorem upd_ne {n:Str} {v:Value} {m:Str→Option Value} (h:x≠n):(fun y=>if y=n then some v else m y) x=m x:=if_neg h
theorem bindL_out:∀{m:Str→Option Value},x∉binds.map (·.1)→bindL kindOf binds m x=m x:=by
 induction binds with
 |nil=>exact fun _=>rfl
 |cons p r ih=>
  intro m h
  refine (ih fun q=>h (.tail _ q)).trans ?_
  by_cases hk:kindOf p.1=some .local
  ·rw [if_pos hk];exact upd_ne fun e=>h (e▸.head _)
  ·rw [if_neg hk]
theorem bindC_out:∀{m:Str→Option Value},x∉binds.map (·.1)→bindC kindOf binds m x=m x:=by
 induction binds with
 |nil=>exact fun _=>rfl
 |cons p r ih=>
  intro m h
  refine (ih fun q=>h (.tail _ q)).trans ?_
  by_cases hk:kindOf p.1=some .local
  ·rw [if_pos hk]
  ·rw [if_neg hk];exact upd_ne fun e=>h (e▸.head _)
theorem bind_get {v:Value} (hk:kindOf x=some .local∨kindOf x≠some .local):∀{m:Str→Option Value} {i:Nat},(binds.map (·.1)).Nodup→binds[i]?=some (x,v)→(kindOf x=some .local→bindL kindOf binds m x=some v)∧(kindOf x≠some .local→bindC kindOf binds m x=some v):=by
 induction binds with
 |nil=>exact fun _ h=>non h
 |cons p r ih=>
  intro m i nd h
  obtain ⟨n1,n2⟩:=List.nodup_cons.mp nd
  cases i with
  |zero=>
   obtain rfl:p=(x,v):=Option.some.inj h
   refine ⟨fun hk=>(bindL_out n1).trans ?_,fun hk=>(bindC_out n1).trans ?_⟩
   ·rw [if_pos hk];exact if_pos rfl
   ·rw [if_neg hk];exact if_pos rfl
  |succ i=>exact ⟨fun hk=>(ih n2 h).1 hk,fun hk=>(ih n2 h).2 hk⟩
end
theorem cellsFrom_is (names:List (Str × NameKind)):∀(n:Nat) (acc:List (Str × Addr)),(cellsFrom n names acc).map (·.1)=((names.filter (fun p=>p.2== .cell)).map (·.1)).reverse++acc.map (·.1):=by
 induction names with
 |nil=>exact fun _ _=>rfl
 |cons p r ih=>
  intro n acc
  show (if (p.2==NameKind.cell)=true then cellsFrom (n+1) r ((p.1,n)::acc) else cellsFrom n r acc).map (·.1)=_
  by_cases hk:(p.2==NameKind.cell)=true
  ·rw [if_pos hk,ih,List.filter_cons_of_pos (p:=fun q:Str × NameKind=>q.2== .cell) (a:=p) hk,List.map_cons,List.map_cons,List.reverse_cons,List.append_assoc];rfl
  ·rw [if_neg hk,ih,List.filter_cons_of_neg (p:=fun q:Str × NameKind=>q.2== .cell) (a:=p) hk]
theorem cells_have {ns:Names} {x:Str} {n:Nat} (h:(x,NameKind.cell)∈ns):∃c,(cellsFrom n ns []).lookup x=some c:=
 lookup_some (by rw [cellsFrom_is];exact List.mem_append_left _ (List.mem_reverse.mpr (List.mem_map.mpr ⟨_,List.mem_filter.mpr ⟨h,rfl⟩,rfl⟩)))
theorem lookup_mem_nodup {x:Str} {c:Addr} {l:List (Str × Addr)} (nd:(l.map (·.1)).Nodup) (h:(x,c)∈l):l.lookup x=some c:=by
 induction l with
 |nil=>cases h
 |cons p r ih=>
  obtain ⟨n1,n2⟩:=List.nodup_cons.mp nd
  rw [List.lookup_cons]
  rcases List.mem_cons.mp h with h|h
  ·rw [←h];show (match x==x with|true=>some c|false=>_)=_;rw [beq_self_eq_true]
  ·rw [beq_eq_false_iff_ne.mpr fun e=>n1 (List.mem_map.mpr ⟨(x,c),h,e⟩)];exact ih n2 h
theorem all2_self {ns:Names}:All2 (fun (p q:Str × NameKind)=>p.1=q.1∧(q.2=p.2∨(p.2=.free∧q.2=.cell))) ns ns:=by
 induction ns with
 |nil=>exact .nil
 |cons a l ih=>exact .cons ⟨rfl,.inl rfl⟩ ih
noncomputable def bindsOf (ns:Names) (k:Nat) (vals:List Value):List (Str × Value):=((ns.map (·.1)).take k).zip vals
section
variable {ns:Names} {k:Nat} {vals:List Value} {x:Str} {kk:NameKind} {i:Nat}
theorem bo_keys (h:vals.length=k) (hk:k≤ns.length):(bindsOf ns k vals).map (·.1)=(ns.map (·.1)).take k:=List.map_fst_zip (by rw [h,List.length_take,List.length_map];exact Nat.min_le_left _ _)
theorem bo_name (hi:i<k):((ns.map (·.1)).take k)[i]?=ns[i]?.map (·.1):=(List.getElem?_take_of_lt hi).trans List.getElem?_map
theorem bo_in (h:vals.length=k) (hi:i<k) (e:ns[i]?=some (x,kk)):∃v,vals[i]?=some v∧(bindsOf ns k vals)[i]?=some (x,v):=
 ⟨_,List.getElem?_eq_getElem (h▸hi),List.getElem?_zip_eq_some.mpr ⟨(bo_name hi).trans (by rw [e];rfl),List.getElem?_eq_getElem (h▸hi)⟩⟩
theorem bo_out {v:Value} (h:vals.length=k) (e:(bindsOf ns k vals)[i]?=some (x,v)):∃kk,ns[i]?=some (x,kk)∧i<k:=by
 obtain ⟨e1,e2⟩:=List.getElem?_zip_eq_some.mp e
 have hi:i<k:=h▸(List.getElem?_eq_some_iff.mp e2).1
 obtain ⟨⟨y,kk⟩,e3,rfl⟩:=Option.map_eq_some_iff.mp ((bo_name hi).symm.trans e1)
 exact ⟨kk,e3,hi⟩
theorem bo_look {R:MV→Value→Prop} {mvs:List MV} {m:Nat} {mv:MV} (nd:(ns.map (·.1)).Nodup) (h:vals.length=k) (hk:k≤ns.length) (r:All2 R mvs vals) (e1:ns[i]?=some (x,kk)) (e2:(mvs++List.replicate m MV.unb)[i]?=some mv):
  (∃v,(bindsOf ns k vals)[i]?=some (x,v)∧R mv v)∨(x∉(bindsOf ns k vals).map (·.1)∧mv=.unb):=by
 have hl:mvs.length=k:=r.len.trans h
 rcases Nat.lt_or_ge i k with hi|hi
 ·obtain ⟨v,h1,h2⟩:=bo_in h hi e1
  obtain ⟨v',h3,rv⟩:=r.get ((List.getElem?_append_left (hl▸hi)).symm.trans e2)
  exact .inl ⟨v,h2,Option.some.inj (h3.symm.trans h1)▸rv⟩
 ·refine .inr ⟨fun hx=>?_,List.eq_of_mem_replicate (List.mem_of_getElem? ((List.getElem?_append_right (hl▸hi)).symm.trans e2))⟩
  obtain ⟨⟨y,v⟩,hm,rfl⟩:=List.mem_map.mp hx
  obtain ⟨j,hj⟩:=List.mem_iff_getElem?.mp hm
  obtain ⟨k',e3,hlt⟩:=bo_out h hj
  exact absurd (names_inj nd e1 e3▸hlt) (Nat.not_lt.mpr hi)
end
section
variable {W:W0} {d:Nat}
theorem kindOf_eq {env:Env} {ns:Names} (h:env.scope.names=ns) (x:Str):env.kindOf x=ns.lookup x:=by unfold Env.kindOf;rw [h]
structure ArgOk (W:W0) (ρ:List Addr) (h:Heap) (env:Env) (ed:Prop) (mv:MV) (v:Value):Prop where
 rel:VRel W ρ h mv v
 nu:mv≠.unb
 ed:mv=.edict→ed∧v≠.ref env.locals∧v≠.ref sysModules
theorem fn_frame {env:Env} {ns:Names} {k m:Nat} {vals:List Value} {mvs:List MV} {ρ:List Addr} {h:Heap} {ed:Prop} (eN:env.scope.names=ns) (eS:env.scope.kind=.function) (eG:env.globals=mainGlobals) (eB:env.builtins=builtinsNs) (hns:nsOk ns=true) (hv:vals.length=k) (hk:k≤ns.length) (hm:k+m=ns.length)
  (hkinds:∀x,(x,NameKind.free)∉ns) (hed:ed→∀x,(x,NameKind.cell)∉ns) (r:All2 (ArgOk W ρ h env ed) mvs vals) (hN:h.Ns env.locals (bindL env.kindOf (bindsOf ns k vals) fun _=>none))
  (hC:∀x c,env.cells.lookup x=some c→h.IsCell c (bindC env.kindOf (bindsOf ns k vals) (fun _=>none) x)) (hcell:∀x,(x,NameKind.cell)∈ns→∃c,env.cells.lookup x=some c) (apart:∀a∈ownOf env,a∉ρ∧W.h0.get? a=none∧∃o,h.get? a=some o)
  (cinj:∀x y c,env.cells.lookup x=some c→env.cells.lookup y=some c→x=y) (cloc:∀x c,env.cells.lookup x=some c→c≠env.locals):FR W env ns (mvs++List.replicate m .unb) ρ h:=by
 obtain ⟨nd,hpl⟩:=nsOk_is hns
 have keys:=bo_keys hv hk
 have ndB:((bindsOf ns k vals).map (·.1)).Nodup:=keys▸(List.take_sublist _ _).nodup nd
 have kd:∀{i:Nat} {x:Str} {kk:NameKind},ns[i]?=some (x,kk)→env.kindOf x=some kk:=fun e=>(kindOf_eq eN _).trans (lookup_nodup nd e)
 have em:∀{i:Nat} {x:Str} {kk:NameKind},ns[i]?=some (x,kk)→env.kindOf x=some .local∨env.kindOf x≠some .local:=fun _=>Classical.em _
 refine ⟨eN.symm▸all2_self,fun p hp=>(hpl p hp).1,eS,eG,eB,nd,by rw [List.length_append,List.length_replicate,r.len,hv,hm],⟨_,hN,bindL_out fun hx=>?_,fun i x mv e1 e2=>?_⟩,fun i x kk mv e1 e3 e2=>?_,apart,cinj,cloc⟩
 ·obtain ⟨p,hp,hpe⟩:=List.mem_map.mp (List.mem_of_mem_take (keys▸hx))
  exact nomatch (hpl p hp).2.symm.trans (beq_iff_eq.mpr hpe)
 ·rw [eN] at e1
  rcases bo_look nd hv hk r e1 e2 with ⟨v,hb,q⟩|⟨hx,rfl⟩
  ·rw [(bind_get (em e1) ndB hb).1 (kd e1)]
   exact ⟨OptRel.of q.rel q.nu,fun h=>⟨fun e=>(q.ed h).2.1 (Option.some.inj e),fun e=>(q.ed h).2.2 (Option.some.inj e)⟩⟩
  ·rw [bindL_out hx];exact ⟨rfl,fun h=>nomatch h⟩
 ·rw [eN] at e1
  obtain rfl:kk=.cell:=e3.elim id fun h=>(hkinds x (h▸List.mem_of_getElem? e1)).elim
  obtain ⟨c,hc⟩:=hcell x (List.mem_of_getElem? e1)
  refine ⟨c,_,hc,hC x c hc,?_⟩
  rcases bo_look nd hv hk r e1 e2 with ⟨v,hb,q⟩|⟨hx,rfl⟩
  ·rw [(bind_get (em e1) ndB hb).2 (by rw [kd e1];decide)]
   exact ⟨OptRel.of q.rel q.nu,fun h=>hed (q.ed h).1 x (List.mem_of_getElem? e1)⟩
  ·rw [bindC_out hx];exact ⟨rfl,fun h=>nomatch h⟩
theorem more_nu {f:Nat}:∀mv∈moreOf f,mv≠.unb:=by
 unfold moreOf
 by_cases h:f=100
 ·rw [if_pos h];exact fun mv hm=>List.mem_singleton.mp hm▸fun h=>nomatch h
 ·rw [if_neg h]
  by_cases h:f=103
  ·rw [if_pos h];exact fun mv hm=>List.mem_singleton.mp hm▸fun h=>nomatch h
  ·rw [if_neg h];exact fun mv hm=>nomatch hm
theorem runk {G:Prop} {T:Tbl} {b:Ss} {vars:List MV} {objs objs':List MO} {mv:MV} (h:runBody T b vars objs=some (mv,objs')) (k:∀fl s,exs T b ⟨vars,[],objs,objs.length⟩=some (fl,s)→s.objs=objs'→(fl=.ret mv∨(fl=.next∧mv=.fv .none))→G):G:=by
 unfold runBody at h
 cases e:exs T b ⟨vars,[],objs,objs.length⟩ with
 |none=>rw [e] at h;exact non h
 |some p=>
  obtain ⟨fl,s⟩:=p
  rw [e] at h
  cases fl with
  |next=>exact k _ s e (congrArg Prod.snd (Option.some.inj h)) (.inr ⟨rfl,(congrArg Prod.fst (Option.some.inj h)).symm⟩)
  |ret v=>exact k _ s e (congrArg Prod.snd (Option.some.inj h)) (.inl (congrArg Fl.ret (congrArg Prod.fst (Option.some.inj h))))
  |brk=>exact non h
theorem optBFk {γ:Type} {G:Prop} {r:γ} {x:Option (Names × Ss)} {f:Names→Ss→Option γ} (h:(match x with|some (a,b)=>f a b|none=>none)=some r) (k:∀a b,x=some (a,b)→f a b=some r→G):G:=by
 cases x with|none=>exact non h|some p=>exact k _ _ rfl h
theorem optVsk {γ:Type} {G:Prop} {r:γ} {x:Option (List MV)} {f:List MV→Option γ} (h:(match x with|some a=>f a|none=>none)=some r) (k:∀a,x=some a→f a=some r→G):G:=by
 cases x with|none=>exact non h|some p=>exact k _ rfl h
theorem fn_ok (WK:WOk W) {n:Nat} (TK:TblOk W d (tblN n)) (hd2:2≤d):TblOk W (d+9) (tblN (n+1)):=by
 intro f A s ρ objs mvs pos ks mv objs' rm R r hkl e
 refine optBFk e fun ns b hb e=>optVsk e fun vars hv e=>?_
 obtain ⟨o,fd,ho,hod,F⟩:=WK.fds f ns b hb
 obtain ⟨⟨⟨⟨⟨hw,hns⟩,hlen⟩,hpar⟩,hkinds⟩,hedict⟩:=and6 (fn_wf hb)
 have hlen:=of_decide_eq_true hlen
 refine ifk hv fun hargs hv=>?_
 obtain ⟨harity,hpl⟩:=and2 hargs
 have harity:=of_decide_eq_true harity
 obtain rfl:=Option.some.inj hv
 have hap:pos.length+ks.length=arity f:=List.length_append.symm.trans (r.len.symm.trans harity)
 refine codeAny_call_function rm.lt (R.base _ _ ho) hod F.co F.gen F.body (F.cd.keeps R.base) (F.bind _ _ _ _ _ _ hap hkl R.base fun mores h' kh hm=>?_)
 rw [F.clo]
 have hN:(pos++ks++mores).length=arity f+(moreOf f).length:=by rw [List.length_append,List.length_append,hap,hm.len]
 show wpAny _ _ (newFunctionEnv _ _ [] (bindsOf ns (arity f+(moreOf f).length) (pos++ks++mores)) _ _ _ none _) _ _ _
 have nd:=(nsOk_is hns).1
 refine wpAny_newFunctionEnv_cells F.kind (fun x hx=>?_) (fun env he s' X=>?_)
 ·obtain ⟨i,hi⟩:=List.mem_iff_getElem?.mp hx
  obtain ⟨k,hk',hlt⟩:=bo_out hN hi
  rw [F.names]
  rcases Bool.or_eq_true_iff.mp (List.all_eq_true.mp hpar (x.1,k) (List.mem_of_getElem? ((List.getElem?_take_of_lt hlt).trans hk'))) with q|q
  ·exact .inl (eq_of_beq q▸lookup_nodup nd hk')
  ·obtain rfl:=eq_of_beq (a:=k) q
   exact .inr ⟨lookup_nodup nd hk',Option.isSome_iff_exists.mpr (cells_have (List.mem_of_getElem? hk'))⟩
 have eL:env.locals=h'.objs.size:=he▸rfl
 have eC:env.cells=cellsFrom (h'.objs.size+1) ns []:=by rw [he,←F.names];rfl
 have eN:env.scope.names=ns:=by rw [he];exact F.names
 have eS:env.scope.kind=.function:=by rw [he];exact F.kind
 have eG:env.globals=mainGlobals:=by rw [he];exact F.glb
 have eB:env.builtins=builtinsNs:=by rw [he];exact F.blt
 clear he
 obtain ⟨h'',tk,hs',kk⟩:=X.done
 have k2:∀b o,s.heap.get? b=some o→h''.get? b=some o:=fun b o e=>kk b o (kh b o e)
 have hh:s'.heap=h'':=by rw [hs']
 have cellUp:∀x c,(x,c)∈env.cells→h'.objs.size<c:=fun x c m=>eL▸X.above x c m
 have ownFresh:∀a∈ownOf env,s.heap.get? a=none:=fun a ha=>noneOf fun oo q=>Nat.not_lt.mpr ((List.mem_cons.mp ha).elim (fun h=>(h.trans eL)▸Nat.le_refl _) fun h=>by
  obtain ⟨⟨x,c⟩,hc,rfl⟩:=List.mem_map.mp h
  exact Nat.le_of_lt (cellUp x c hc)) (Heap.lt_size (kh a oo q))
 have K0:Ok W ρ s ρ objs s':=by rw [hs'];exact Ok.keepAll R k2 tk
 have moreR:All2 (ArgOk W ρ s'.heap env (.edict∈moreOf f)) (moreOf f) mores:=all2_mem hm fun mv v hmem q=>by
  cases mv with
  |edict=>
   obtain ⟨dd,m,rfl,q1,q2⟩:=q
   exact ⟨⟨dd,m,rfl,fun h=>(R.alive h).elim fun _ e=>dead e q1,hh▸kk _ _ q2⟩,(fun h=>nomatch h),fun _=>⟨hmem,fun h=>Nat.lt_irrefl _ (((Value.ref.inj h).trans eL)▸Heap.lt_size q2),fun h=>WK.sys (R.h0 (Value.ref.inj h▸q1))⟩⟩
  |fv x=>cases x with
   |none=>exact ⟨q,(fun h=>nomatch h),(fun h=>nomatch h)⟩
   |_=>cases q
  |_=>cases q
 have argR:All2 (ArgOk W ρ s'.heap env (.edict∈moreOf f)) mvs (pos++ks):=all2_mem r fun mv v hmem q=>by
  have hp:=List.all_eq_true.mp hpl mv hmem
  exact ⟨K0.vrel R q,(fun h=>nomatch (show MV.unb.plain=true from h▸hp)),(fun h=>nomatch (show MV.edict.plain=true from h▸hp))⟩
 have FRm:FR W env ns (mvs++moreOf f++List.replicate (ns.length-arity f-(moreOf f).length) .unb) ρ s'.heap:=by
  refine fn_frame eN eS eG eB hns hN hlen (by rw [Nat.sub_sub,Nat.add_sub_of_le hlen]) (fun x hx=>nomatch List.all_eq_true.mp hkinds _ hx) (fun hed x hx=>?_) (argR.append moreR) X.toInCall.ns X.cell (fun x hx=>eC▸cells_have hx) (fun a ha=>⟨fun m=>(R.alive m).elim fun _ e=>dead e (ownFresh a ha),R.h0 (ownFresh a ha),?_⟩)
   (fun x y c e1 e2=>name_of_addr X.apart (PySem.mem_of_lookup e1) (PySem.mem_of_lookup e2)) (fun x c e=>eL▸Nat.ne_of_gt (cellUp x c (PySem.mem_of_lookup e)))
  ·rcases Bool.or_eq_true_iff.mp hedict with h1|h1
   ·rw [List.contains_iff_mem.mpr hed] at h1;cases h1
   ·exact nomatch List.all_eq_true.mp h1 _ hx
  ·rcases List.mem_cons.mp ha with h|h
   ·exact h▸X.toInCall.ns.imp fun o q=>q.elim fun _ q=>q.elim fun _ q=>q.1
   ·obtain ⟨⟨x,c⟩,hc,rfl⟩:=List.mem_map.mp h
    exact (X.cell x c (lookup_mem_nodup (by rw [eC,cellsFrom_is,List.map_nil,List.append_nil];exact (List.reverse_perm _).nodup_iff.mpr ((List.filter_sublist.map _).nodup nd)) hc)).imp fun oo q=>q.1
 refine ⟨(W.lim.keeps R.base).keeps fun b o e=>hh▸k2 b o e,codeAny_func (runk e fun fl ms' hr ho' hfl=>?_)⟩
 refine wpAny_mono (soundSs WK TK hd2 ns b hw _ _ _ hr (A.deeper env) env s' ρ ρ s [] (rm.deeper env) ⟨K0,FRm,ownFresh,.nil,(fun x hx=>nomatch hx),R.len.symm⟩) (fun fl s3 P=>?_) NoE.imp
 obtain ⟨ρ',hf,I3,_⟩:=P
 subst ho'
 rcases hfl with rfl|⟨rfl,rfl⟩
 ·obtain ⟨v',rfl,rv⟩:=hf
  exact ⟨v',rfl,ρ',I3.ok,rv⟩
 ·cases hf
  exact ⟨_,rfl,ρ',I3.ok,rfl⟩
end
end
end Mine
end
section
open PySem PySem.W PyProof.Rows PySem.Spec
namespace Mine
section
theorem tbl_ok {W:W0} (WK:WOk W):∀n:Nat,TblOk W (2+9*n) (tblN n)
 |0=>fun f A s ρ objs mvs pos ks mv objs' _ _ _ _ e=>nomatch e
 |n+1=>by
  have:=fn_ok WK (tbl_ok WK n) (by omega)
  rw [show 2+9*(n+1)=2+9*n+9 by omega]
  exact this
end
end Mine
end
section
open PySem
namespace Mine
section
section
variable {T:Tbl} {s s' s1:MS} {v:MV} {o o1:List MO} {b:Bool}
theorem exs_step {a:S} {r:Ss} (h:ex T a s=some (.next,s')):exs T (.cons a r) s=exs T r s':=by
 show (match ex T a s with|some (.next,s')=>exs T r s'|some (f,s')=>some (f,s')|none=>none)=_
 rw [h]
theorem exs_ret {a:S} {r:Ss} (h:ex T a s=some (.ret v,s')):exs T (.cons a r) s=some (.ret v,s'):=by
 show (match ex T a s with|some (.next,s')=>exs T r s'|some (f,s')=>some (f,s')|none=>none)=_
 rw [h]
theorem exs_brk {a:S} {r:Ss} (h:ex T a s=some (.brk,s')):exs T (.cons a r) s=some (.brk,s'):=by
 show (match ex T a s with|some (.next,s')=>exs T r s'|some (f,s')=>some (f,s')|none=>none)=_
 rw [h]
theorem ex_asg {i:Nat} {e:X} {p q:Pos} (h:ev T e s.vars s.objs=some (v,o)) (hp:(v.plain&&(!e.isComp||!s.vars.contains .edict))=true):ex T (.asg i e p q) s=some (.next,⟨s.vars.set i v,s.its,o,s.n⟩):=by
 show (match ev T e s.vars s.objs with|some (v,o)=>if v.plain&&(!e.isComp||!s.vars.contains .edict) then some (Fl.next,{s with vars:=s.vars.set i v,objs:=o}) else none|none=>none)=_
 rw [h];exact if_pos hp
theorem ex_ret {e:X} {q:Pos} (h:ev T e s.vars s.objs=some (v,o)):ex T (.ret e q) s=some (.ret v,⟨s.vars,s.its,o,s.n⟩):=by
 show (match ev T e s.vars s.objs with|some (v,o)=>some (Fl.ret v,{s with objs:=o})|none=>none)=_
 rw [h]
theorem ex_xp {e:X} {q:Pos} (h:ev T e s.vars s.objs=some (v,o)):ex T (.xp e q) s=some (.next,⟨s.vars,s.its,o,s.n⟩):=by
 show (match ev T e s.vars s.objs with|some (_,o)=>some (Fl.next,{s with objs:=o})|none=>none)=_
 rw [h]
theorem ex_iff {t:X} {c e:Ss} {q:Pos} (h:evT T t (ev T t s.vars s.objs) s.vars s.objs=some (b,o)):ex T (.iff t c e q) s=exs T (if b then c else e) ⟨s.vars,s.its,o,s.n⟩:=by
 show (match evT T t (ev T t s.vars s.objs) s.vars s.objs with|some (true,o)=>exs T c {s with objs:=o}|some (false,o)=>exs T e {s with objs:=o}|none=>none)=_
 rw [h];cases b<;>rfl
theorem runBody_ret {body:Ss} {vars:List MV} {objs:List MO} (h:exs T body ⟨vars,[],objs,objs.length⟩=some (.ret v,s)):runBody T body vars objs=some (v,s.objs):=by
 unfold runBody;rw [h]
theorem while_go {test:MS→Option (Bool × MS)} {body:MS→Option (Fl × MS)} {n:Nat} {s2:MS} (h:test s=some (true,s')) (hb:body s'=some (.next,s2)):whileTurns test body (n+1) s=whileTurns test body n s2:=by
 show (match test s with|some (true,s')=>(match body s' with|some (.next,s'')=>whileTurns test body n s''|some (.brk,s'')=>some (.next,s'')|some (.ret v,s'')=>some (.ret v,s'')|none=>none)|some (false,s')=>some (.next,s')|none=>none)=_
 rw [h];simp only [hb]
theorem while_stop {test:MS→Option (Bool × MS)} {body:MS→Option (Fl × MS)} {n:Nat} (h:test s=some (false,s')):whileTurns test body (n+1) s=some (.next,s'):=by
 show (match test s with|some (true,s')=>(match body s' with|some (.next,s'')=>whileTurns test body n s''|some (.brk,s'')=>some (.next,s'')|some (.ret v,s'')=>some (.ret v,s'')|none=>none)|some (false,s')=>some (.next,s')|none=>none)=_
 rw [h]
theorem turns_nil {step:FV→MS→Option (Fl × MS)} {orig:Option MO} (h:origOf (s.its.headD .unb) s.objs=orig):turns step orig [] s=some (none,s):=by
 show (if origOf (s.its.headD .unb) s.objs==orig then some (none,s) else none)=_
 rw [h];simp
theorem turns_next {step:FV→MS→Option (Fl × MS)} {orig:Option MO} {x:FV} {r:List FV} (h:origOf (s.its.headD .unb) s.objs=orig) (hs:step x s=some (.next,s')):turns step orig (x::r) s=turns step orig r s':=by
 show (if origOf (s.its.headD .unb) s.objs==orig then (match step x s with|some (.next,s')=>turns step orig r s'|some (.brk,s')=>some (some .next,s')|some (.ret v,s')=>some (some (.ret v),s')|none=>none) else none)=_
 rw [h,hs];simp
theorem turns_ret {step:FV→MS→Option (Fl × MS)} {orig:Option MO} {x:FV} {r:List FV} (h:origOf (s.its.headD .unb) s.objs=orig) (hs:step x s=some (.ret v,s')):turns step orig (x::r) s=some (some (.ret v),s'):=by
 show (if origOf (s.its.headD .unb) s.objs==orig then (match step x s with|some (.next,s')=>turns step orig r s'|some (.brk,s')=>some (some .next,s')|some (.ret v,s')=>some (some (.ret v),s')|none=>none) else none)=_
 rw [h,hs];simp
theorem turns_brk {step:FV→MS→Option (Fl × MS)} {orig:Option MO} {x:FV} {r:List FV} (h:origOf (s.its.headD .unb) s.objs=orig) (hs:step x s=some (.brk,s')):turns step orig (x::r) s=some (some .next,s'):=by
 show (if origOf (s.its.headD .unb) s.objs==orig then (match step x s with|some (.next,s')=>turns step orig r s'|some (.brk,s')=>some (some .next,s')|some (.ret v,s')=>some (some (.ret v),s')|none=>none) else none)=_
 rw [h,hs];simp
end
theorem bindE {α β:Type} {x:Option α} {a:α} {f:α→Option β} (h:x=some a):x.bind f=f a:=h▸rfl
theorem listAt_of {i:Nat} {o:List MO} {xs:List FV} (h:o[i]?=some (.list xs)):listAt o i=some xs:=by unfold listAt;rw [h]
theorem listE {β:Type} {i:Nat} {o:List MO} {xs:List FV} (h:o[i]?=some (.list xs)) {f:Nat→List FV→Option β}:wL o f (.ref i)=f i xs:=bindE (listAt_of h)
theorem nthL_nat {xs:List FV} {j:Nat} {v:FV} (hj:j<1000000) (hv:xs[j]?=some v):nthL xs (j:Int)=some (.fv v):=
 (if_pos (Bool.and_eq_true_iff.mpr ⟨decide_eq_true (Int.natCast_nonneg j),decide_eq_true (Int.ofNat_lt.mpr (Nat.lt_trans hj (by decide)))⟩)).trans (congrArg (Option.map MV.fv) hv)
theorem nth_list {i:Nat} {o:List MO} {xs:List FV} {j:Nat} {v:FV} (h:o[i]?=some (.list xs)) (hj:j<1000) (hv:xs[j]?=some v):nthM (.ref i) (.fv (.int j)) o=some (.fv v):=
 (bindE h).trans (nthL_nat (Nat.lt_trans hj (by decide)) hv)
theorem nth_fz {i:Nat} {o:List MO} {xs:List FV} {j:Nat} {v:FV} (h:o[i]?=some (.fz xs)) (hj:j<1000000) (hv:xs[j]?=some v):nthM (.ref i) (.fv (.int j)) o=some (.fv v):=
 (bindE h).trans (nthL_nat hj hv)
theorem len_list {i:Nat} {o:List MO} {xs:List FV} (h:o[i]?=some (.list xs)) (hl:xs.length≤lenLim):builtin .len [.ref i] o=some (.fv (.int xs.length),o):=
 (bindE h).trans (if_pos hl)
theorem eq_two {i j:Nat} {o:List MO} {xs ys:List FV} (h1:listAt o i=some xs) (h2:listAt o j=some ys) (hk:sameKind xs ys=true):cmpop .eq (.ref i) (.ref j) o=some (xs==ys):=
 (bindE h1).trans ((bindE h2).trans (if_pos hk))
theorem ne_two {i j:Nat} {o:List MO} {xs ys:List FV} (h1:listAt o i=some xs) (h2:listAt o j=some ys) (hk:sameKind xs ys=true):cmpop .ne (.ref i) (.ref j) o=some (!(xs==ys)):=
 congrArg (Option.map (!·)) (eq_two h1 h2 hk)
theorem nth_dict {i:Nat} {o:List MO} {es:List (Int × FV)} {j:Int} {v:FV} (h:o[i]?=some (.dict es)) (hv:es.lookup j=some v):nthM (.ref i) (.fv (.int j)) o=some (.fv v):=
 (bindE h).trans (congrArg (Option.map MV.fv) hv)
theorem max_int {i:Nat} {o:List MO} {xs:List FV} {ns:List Int} {m:Int} (h:listAt o i=some xs) (h1:ints? xs=some ns) (h2:maxInts ns=some m) (h3:ns.length≤lenLim):builtin .max [.ref i] o=some (.fv (.int m),o):=
 (bindE h).trans ((bindE h1).trans ((bindE h2).trans (if_pos h3)))
theorem mul_int {a:List Nat} {n:Int} {o:List MO} (h:(decide (0≤n)&&decide (n≤1000)&&decide (a.length≤100))=true):binop .mul (.fv (.str a)) (.fv (.int n)) o=some (.fv (.str (List.replicate n.toNat a).flatten),o):=if_pos h
theorem hex_int {n:Int} {o:List MO} (h:(decide (0≤n)&&decide ((hexOf n).length≤lim))=true):builtin .hex [.fv (.int n)] o=some (.fv (.str (hexOf n)),o):=if_pos h
theorem next_is {i k p:Nat} {objs:List MO} {xs:List FV} {x:FV} (h:objs[i]?=some (.lit k p)) (hl:listAt objs k=some xs) (hx:xs[p]?=some x):builtin .next [.ref i] objs=some (.fv x,objs.set i (.lit k (p+1))):=
 (bindE h).trans ((bindE hl).trans (bindE hx))
noncomputable def octGo:Nat→Nat→List Nat→List Nat
 |0,_,s=>s
 |f+1,n,s=>if 64≤n then octGo f (n/64) ((192+n/64%64)::s) else s
noncomputable def octs (n:Nat):List Nat:=octGo 63 n [128+n%64]
theorem chr_int {i:Int} {objs:List MO} (h:(decide (0≤i)&&decide (i<1114112))=true):builtin .chr [.fv (.int i)] objs=some (.fv (.str [i.toNat]),objs):=if_pos h
theorem chr_ok {k:Nat} {objs:List MO} (h:k<1114112):builtin .chr [.fv (.int k)] objs=some (.fv (.str [k]),objs):=
 chr_int (Bool.and_eq_true_iff.mpr ⟨decide_eq_true (Int.natCast_nonneg k),decide_eq_true (Int.ofNat_lt.mpr h)⟩)
theorem fdiv_nat (a b:Nat):((a:Int).fdiv b)=((a/b:Nat):Int):=by
 rw [Int.fdiv_eq_ediv_of_nonneg _ (by omega)];rfl
theorem fmod_nat (a b:Nat):((a:Int).fmod b)=((a%b:Nat):Int):=by
 rw [Int.fmod_eq_emod_of_nonneg _ (by omega)];rfl
theorem octs_loop (T:Tbl):∀(f n:Nat) (signs:List Nat) (c:MV) (m:Nat),n<64^(f+1)→signs.length+f≤100→
  ∃s',whileTurns (fun s=>(evT T (.cmp (.var 0 (pq 245 10 16)) .ge (.ci 64 (pq 245 20 22)) (pq 245 10 22)) (ev T (.cmp (.var 0 (pq 245 10 16)) .ge (.ci 64 (pq 245 20 22)) (pq 245 10 22)) s.vars s.objs) s.vars s.objs).map fun p=>(p.1,{s with objs:=p.2}))
   (fun s=>exs T (.cons (.asg 0 (.bin (.var 0 (pq 246 17 23)) .fdiv (.ci 64 (pq 246 27 29)) (pq 246 17 29)) (pq 246 8 14) (pq 246 8 29))
  (.cons (.asg 1 (.bin (.bi .chr (.cons (.bin (.ci 192 (pq 247 20 23)) .add (.bin (.var 0 (pq 247 26 32)) .fmod (.ci 64 (pq 247 35 37)) (pq 247 26 37)) (pq 247 20 37)) .nil) (pq 247 16 19) (pq 247 16 19) (pq 247 16 19) (pq 247 16 38)) .add (.var 1 (pq 247 41 46)) (pq 247 16 46)) (pq 247 8 13) (pq 247 8 46)) .nil)) s) (f+1) ⟨[.fv (.int n),.fv (.str signs),c],[],[],0⟩=some (.next,s')∧s'.vars[1]?=some (.fv (.str (octGo f n signs)))∧s'.objs=[]:=by
 intro f
 induction f with
 |zero=>
  intro n signs c m hn hl
  refine ⟨_,while_stop (s':=⟨[.fv (.int n),.fv (.str signs),c],[],[],0⟩) ?_,rfl,rfl⟩
  show some (decide ((64:Int)≤(n:Int)),_)=_
  rw [decide_eq_false (by simp at hn;omega)]
 |succ f ih=>
  intro n signs c m hn hl
  by_cases h:64≤n
  ·have hq:n/64<64^(f+1):=by rw [Nat.div_lt_iff_lt_mul (by omega)];rw [Nat.pow_succ] at hn;exact hn
   obtain ⟨s',e1,e2,e3⟩:=ih (n/64) ((192+n/64%64)::signs) c m hq (by simp;omega)
   refine ⟨s',?_,by rw [e2];simp only [octGo,if_pos h],e3⟩
   rw [while_go (s':=⟨[.fv (.int n),.fv (.str signs),c],[],[],0⟩) (s2:=⟨[.fv (.int (n/64:Nat)),.fv (.str ((192+n/64%64)::signs)),c],[],[],0⟩) ?_ ?_]
   ·exact e1
   ·show some (decide ((64:Int)≤(n:Int)),_)=_
    rw [decide_eq_true (by omega)]
   ·refine (exs_step (ex_asg (v:=.fv (.int (n/64:Nat))) (o:=[]) ?_ rfl)).trans ((exs_step (ex_asg (v:=.fv (.str ((192+n/64%64)::signs))) (o:=[]) ?_ rfl)).trans rfl)
    ·show some (MV.fv (.int ((n:Int).fdiv 64)),_)=_
     rw [show (64:Int)=((64:Nat):Int) from rfl,fdiv_nat]
    ·show (match builtin .chr [.fv (.int (192+(((n/64:Nat)):Int).fmod 64))] [] with|some (a,o1)=>binop .add a (.fv (.str signs)) o1|none=>none)=_
     rw [show (64:Int)=((64:Nat):Int) from rfl,fmod_nat,show (192:Int)+((n/64%64:Nat):Int)=((192+n/64%64:Nat):Int) by simp,chr_ok (by omega)]
     show (if 1+signs.length≤lim then _ else _)=_
     rw [if_pos (by unfold lim;omega)];rfl
  ·refine ⟨_,while_stop (s':=⟨[.fv (.int n),.fv (.str signs),c],[],[],0⟩) ?_,by simp only [octGo,if_neg h];rfl,rfl⟩
   show some (decide ((64:Int)≤(n:Int)),_)=_
   rw [decide_eq_false (by omega)]
end
end Mine
end
section
set_option maxRecDepth 4000
open PySem
namespace Mine
section
theorem T5 (k n:Nat) (h:n<2^60):tblN (k+1) 5 [.fv (.int n)] []=some (.fv (.str (octs n)),[]):=by
 obtain ⟨s',e1,e2,e3⟩:=octs_loop (tblN k) 63 n [128+n%64] .unb 0 (Nat.lt_of_lt_of_le h (by decide)) (by simp)
 have e:ev (tblN k) (.var 1 (pq 248 11 16)) s'.vars s'.objs=some (.fv (.str (octs n)),[]):=by
  show (match s'.vars[1]? with|some .unb=>none|some v=>some (v,s'.objs)|none=>none)=_
  rw [e2,e3];rfl
 show runBody (tblN k) bFlawoctets [.fv (.int n),.unb,.unb] []=_
 refine runBody_ret (s:=⟨s'.vars,s'.its,[],s'.n⟩) ?_
 refine (exs_step (ex_asg (v:=.fv (.str [128+n%64])) (o:=[]) ?_ rfl)).trans ?_
 case refine_2=>
  refine (exs_step (s':=s') ?_).trans (exs_ret (ex_ret e))
  exact e1
 show builtin .chr [.fv (.int (128+((n:Nat):Int).fmod 64))] []=_
 rw [show (64:Int)=((64:Nat):Int) from rfl,fmod_nat,show (128:Int)+((n%64:Nat):Int)=((128+n%64:Nat):Int) by simp,chr_ok (by omega)]
theorem T4 (k:Nat) (l:List Nat) (t:Nat) (ha:ascii l=true) (hl:l.length≤lim):tblN (k+1) 4 [.fv (.str l),.fv (.int t)] []=some (.fv (.str (if t%2=0 then l.map up1 else l.map lo1)),[]):=by
 have hm:(t:Int).fmod 2=((t%2:Nat):Int):=by rw [show (2:Int)=((2:Nat):Int) from rfl,fmod_nat]
 have hc:(ascii l&&decide (l.length≤lim))=true:=by rw [ha,decide_eq_true hl];rfl
 have hu:∀objs,methodM .upper (.fv (.str l)) [] objs=some (.fv (.str (l.map up1)),objs):=fun objs=>if_pos hc
 have hlo:∀objs,methodM .lower (.fv (.str l)) [] objs=some (.fv (.str (l.map lo1)),objs):=fun objs=>if_pos hc
 show runBody (tblN k) bFlawsized [.fv (.str l),.fv (.int t)] []=_
 by_cases h:t%2=0
 ·rw [if_pos h]
  refine runBody_ret (s:=⟨[.fv (.str l),.fv (.int t)],[],[],0⟩) (exs_ret ((ex_iff (b:=true) (o:=[]) ?_).trans (exs_ret (ex_ret (hu [])))))
  show some ((((t:Int).fmod 2)==(0:Int)),_)=_
  rw [hm,h];rfl
 ·rw [if_neg h]
  refine runBody_ret (s:=⟨[.fv (.str l),.fv (.int t)],[],[],0⟩) ((exs_step ((ex_iff (b:=false) (o:=[]) ?_).trans rfl)).trans ?_)
  case refine_2=>refine exs_ret (ex_ret ?_);exact hlo []
  show some ((((t:Int).fmod 2)==(0:Int)),_)=_
  rw [hm,show t%2=1 by omega];rfl
end
section
noncomputable def chain:Nat→List Nat→Prop
 |b,[]=>b&&&64=0
 |b,d::r=>b&&&64=64∧chain d r
noncomputable def pvFold (v:Nat) (l:List Nat):Nat:=l.foldl (fun v d=>v*64+(d&&&63)) v
noncomputable def intL (l:List Nat):List FV:=l.map fun (c:Nat)=>.int c
theorem and_nat (a b:Nat):arith .band (a:Int) (b:Int)=some ((a&&&b:Nat):Int):=by
 show (if 0≤(a:Int)&&0≤(b:Int) then some ((((a:Int).toNat&&&(b:Int).toNat:Nat)):Int) else none)=_
 rw [if_pos (by simp)];simp
theorem or_step (v d:Nat):arith .bor ((v*64:Nat):Int) ((d&&&63:Nat):Int)=some ((v*64+(d&&&63):Nat):Int):=by
 show (if 0≤((v*64:Nat):Int)&&0≤((d&&&63:Nat):Int) then some (((((v*64:Nat):Int).toNat|||((d&&&63:Nat):Int).toNat:Nat)):Int) else none)=_
 rw [if_pos (by simp;omega)]
 have h:d&&&63<2^6:=Nat.lt_of_le_of_lt Nat.and_le_right (by decide)
 have:=Nat.shiftLeft_add_eq_or_of_lt h v
 rw [Nat.shiftLeft_eq] at this
 simp only [Int.toNat_natCast]
 rw [show v*64=v*2^6 from rfl,←this]
theorem shl_step (v:Nat) (h:v<4611686018427387904):arith .shl (v:Int) 6=some ((v*64:Nat):Int):=by
 show (if 0≤(6:Int)&&(6:Int)≤1000&&(v:Int).natAbs<big then some ((v:Int)*2^(6:Int).toNat) else none)=_
 rw [if_pos (by rw [Int.natAbs_natCast];simp only [Bool.and_eq_true,decide_eq_true_eq];exact ⟨⟨by decide,by decide⟩,h⟩)];simp
theorem next_lit (xs:List Nat) (i d:Nat) (h:xs[i]?=some d):builtin .next [.ref 0] [.lit 1 i,.list (intL xs)]=some (.fv (.int d),[.lit 1 (i+1),.list (intL xs)]):=by
 exact next_is (xs:=intL xs) rfl rfl (by unfold intL;rw [List.getElem?_map,h];rfl)
theorem pv_loop (T:Tbl) (xs:List Nat) (c:MV) (m:Nat):∀(seq:List Nat) (b v i f:Nat),chain b seq→seq.isPrefixOf (xs.drop i)=true→(v+1)*64^seq.length≤2^60→seq.length≤f→
  ∃b',whileTurns (fun s=>(evT T (.bin (.var 1 (pq 65 10 11)) .band (.ci 64 (pq 65 14 16)) (pq 65 10 16)) (ev T (.bin (.var 1 (pq 65 10 11)) .band (.ci 64 (pq 65 14 16)) (pq 65 10 16)) s.vars s.objs) s.vars s.objs).map fun p=>(p.1,{s with objs:=p.2}))
   (fun s=>exs T (.cons (.aug 2 .shl (.ci 6 (pq 66 16 17)) (pq 66 8 11) (pq 66 8 17))
  (.cons (.asg 1 (.bi .next (.cons (.var 0 (pq 67 17 25)) .nil) (pq 67 12 16) (pq 67 12 16) (pq 67 12 16) (pq 67 12 26)) (pq 67 8 9) (pq 67 8 26))
  (.cons (.aug 2 .bor (.bin (.var 1 (pq 68 15 16)) .band (.ci 63 (pq 68 19 21)) (pq 68 15 21)) (pq 68 8 11) (pq 68 8 21))
  .nil))) s) (f+1) ⟨[.ref 0,.fv (.int b),.fv (.int v),c],[],[.lit 1 i,.list (intL xs)],m⟩=some (.next,⟨[.ref 0,.fv (.int b'),.fv (.int (pvFold v seq:Nat)),c],[],[.lit 1 (i+seq.length),.list (intL xs)],m⟩):=by
 intro seq
 induction seq with
 |nil=>
  intro b v i f hc hp hs hf
  refine ⟨b,?_⟩
  refine while_stop (s':=⟨[.ref 0,.fv (.int b),.fv (.int v),c],[],[.lit 1 i,.list (intL xs)],m⟩) ?_
  have ha:arith .band (b:Int) 64=some ((b&&&64:Nat):Int):=and_nat b 64
  show (match ((arith .band (b:Int) 64).map fun c=>(MV.fv (.int c),[MO.lit 1 i,.list (intL xs)])) with|some (v,o1)=>(truthyM v o1).map fun b=>(b,o1)|none=>none).map _=_
  rw [ha,hc];rfl
 |cons d r ih=>
  intro b v i f hc hp hs hf
  obtain ⟨f,rfl⟩:∃g,f=g+1:=⟨f-1,by simp at hf;omega⟩
  have hx:xs.drop i=d::(xs.drop (i+1))∧r.isPrefixOf (xs.drop (i+1))=true:=by
   cases hd:xs.drop i with
   |nil=>rw [hd] at hp;cases hp
   |cons y t=>
    rw [hd] at hp
    have:xs.drop (i+1)=t:=by
     have:=congrArg (List.drop 1) hd
     rw [List.drop_drop] at this
     simpa [Nat.add_comm] using this
    rw [this]
    simp only [List.isPrefixOf,Bool.and_eq_true,beq_iff_eq] at hp
    rw [hp.1];exact ⟨rfl,hp.2⟩
  have hget:xs[i]?=some d:=by
   have:=congrArg (·[0]?) hx.1
   simpa using this
  have hd63:d&&&63<64:=Nat.lt_of_le_of_lt Nat.and_le_right (by decide)
  have hs2:(v*64+(d&&&63)+1)*64^r.length≤2^60:=by
   refine Nat.le_trans (Nat.mul_le_mul_right _ (show v*64+(d&&&63)+1≤(v+1)*64 by omega)) ?_
   rw [List.length_cons,Nat.pow_succ,Nat.mul_comm (64^r.length) 64,←Nat.mul_assoc] at hs;exact hs
  have hv:v<4611686018427387904:=by
   have h1:(v+1)*1≤(v+1)*64^(d::r).length:=Nat.mul_le_mul_left _ (Nat.one_le_pow _ _ (by decide))
   omega
  obtain ⟨b',e⟩:=ih d (v*64+(d&&&63)) (i+1) f hc.2 hx.2 hs2 (by simpa using hf)
  refine ⟨b',?_⟩
  have ha:arith .band (b:Int) 64=some ((b&&&64:Nat):Int):=and_nat b 64
  have hb:arith .band (d:Int) 63=some ((d&&&63:Nat):Int):=and_nat d 63
  rw [while_go (s':=⟨[.ref 0,.fv (.int b),.fv (.int v),c],[],[.lit 1 i,.list (intL xs)],m⟩) (s2:=⟨[.ref 0,.fv (.int d),.fv (.int (v*64+(d&&&63):Nat)),c],[],[.lit 1 (i+1),.list (intL xs)],m⟩) ?_ ?_]
  ·rw [e,List.length_cons,show i+1+r.length=i+(r.length+1) by omega];rfl
  ·show (match ((arith .band (b:Int) 64).map fun c=>(MV.fv (.int c),[MO.lit 1 i,.list (intL xs)])) with|some (v,o1)=>(truthyM v o1).map fun b=>(b,o1)|none=>none).map _=_
   rw [ha,hc.1];rfl
  ·refine (exs_step (s':=⟨[.ref 0,.fv (.int b),.fv (.int (v*64:Nat)),c],[],[.lit 1 i,.list (intL xs)],m⟩) ?_).trans ((exs_step (ex_asg (v:=.fv (.int d)) (o:=[.lit 1 (i+1),.list (intL xs)]) ?nx rfl)).trans ((exs_step (s':=⟨[.ref 0,.fv (.int d),.fv (.int (v*64+(d&&&63):Nat)),c],[],[.lit 1 (i+1),.list (intL xs)],m⟩) ?_).trans rfl))
   case nx=>exact next_lit xs i d hget
   ·show (match (arith .shl (v:Int) 6).map fun c=>(MV.fv (.int c),[MO.lit 1 i,.list (intL xs)]) with|some (x,o2)=>some (Fl.next,(⟨[MV.ref 0,.fv (.int b),.fv (.int v),c].set 2 x,[],o2,m⟩:MS))|none=>none)=_
    rw [shl_step v hv];rfl
   ·show (match (match (arith .band (d:Int) 63).map fun c=>(MV.fv (.int c),[MO.lit 1 (i+1),.list (intL xs)]) with|some (MV.fv (.int x),o1)=>some (x,o1)|_=>none) with|some (x,o1)=>(match (arith .bor ((v*64:Nat):Int) x).map fun c=>(MV.fv (.int c),o1) with|some (y,o2)=>some (Fl.next,(⟨[MV.ref 0,.fv (.int d),.fv (.int (v*64:Nat)),c].set 2 y,[],o2,m⟩:MS))|none=>none)|none=>none)=_
    rw [hb];dsimp only [Option.map];rw [or_step];rfl
end
section
noncomputable def conv (c:Nat):Nat:=c-128*(c%2)
noncomputable def hiD:Nat→Nat→List Nat
 |0,_=>[]
 |f+1,n=>if 64≤n then hiD f (n/64)++[192+n/64%64] else []
theorem octGo_hi:∀(f n:Nat) (s:List Nat),octGo f n s=hiD f n++s
 |0,n,s=>rfl
 |f+1,n,s=>by
  unfold octGo hiD
  split
  ·rw [octGo_hi];simp
  ·rfl
theorem octs_hi (n:Nat):octs n=hiD 63 n++[128+n%64]:=octGo_hi ..
theorem conv_facts:∀d:Nat,d<64→conv (192+d)&&&64=64∧conv (192+d)&&&63=d∧conv (128+d)&&&64=0∧conv (128+d)&&&63=d:=by decide+kernel
theorem hiD_mem:∀(f n:Nat),∀c∈hiD f n,∃d,d<64∧c=192+d
 |0,n,c,h=>by cases h
 |f+1,n,c,h=>by
  unfold hiD at h
  split at h
  ·rcases List.mem_append.mp h with h|h
   ·exact hiD_mem f _ c h
   ·exact ⟨_,Nat.mod_lt _ (by decide),List.mem_singleton.mp h⟩
  ·cases h
theorem hiD_len:∀(f j n:Nat),n<64^(j+1)→(hiD f n).length≤j
 |0,j,n,h=>Nat.zero_le _
 |f+1,j,n,h=>by
  unfold hiD
  split
  ·rename_i h64
   cases j with
   |zero=>simp at h;omega
   |succ j=>
    have:=hiD_len f j (n/64) (by rw [Nat.div_lt_iff_lt_mul (by decide)];rw [Nat.pow_succ] at h;exact h)
    rw [List.length_append];simp;exact this
  ·exact Nat.zero_le _
theorem pvFold_append (v:Nat) (a b:List Nat):pvFold v (a++b)=pvFold (pvFold v a) b:=List.foldl_append
theorem hiD_fold:∀(f n:Nat),n<64^(f+1)→pvFold 0 ((hiD f n).map conv)=n/64
 |0,n,h=>by simp at h;show 0=_;omega
 |f+1,n,h=>by
  unfold hiD
  split
  ·rw [List.map_append,pvFold_append,hiD_fold f (n/64) (by rw [Nat.div_lt_iff_lt_mul (by decide)];rw [Nat.pow_succ] at h;exact h)]
   show n/64/64*64+(conv (192+n/64%64)&&&63)=_
   rw [(conv_facts _ (Nat.mod_lt _ (by decide))).2.1];omega
  ·show 0=_;omega
theorem octs_fold {n:Nat} (h:n<2^60):pvFold 0 ((octs n).map conv)=n:=by
 rw [octs_hi,List.map_append,pvFold_append,hiD_fold 63 n (Nat.lt_of_lt_of_le h (by decide))]
 show n/64*64+(conv (128+n%64)&&&63)=_
 rw [(conv_facts _ (Nat.mod_lt _ (by decide))).2.2.2];omega
theorem chain_of:∀(l:List Nat) (b last:Nat),(∀d∈b::l,d&&&64=64)→last&&&64=0→chain b (l++[last])
 |[],b,last,h,h0=>⟨h b (.head _),h0⟩
 |d::l,b,last,h,h0=>⟨h b (.head _),chain_of l d last (fun x hx=>h x (.tail _ hx)) h0⟩
theorem octs_split (n:Nat):∃b seq,(octs n).map conv=b::seq∧chain b seq:=by
 have h0:=(conv_facts _ (Nat.mod_lt n (by decide:0<64))).2.2.1
 have hm:∀d∈(hiD 63 n).map conv,d&&&64=64:=by
  intro d hd
  obtain ⟨c,hc,rfl⟩:=List.mem_map.mp hd
  obtain ⟨e,he,rfl⟩:=hiD_mem 63 n c hc
  exact (conv_facts e he).1
 rw [octs_hi,List.map_append]
 cases h:(hiD 63 n).map conv with
 |nil=>exact ⟨_,[],rfl,h0⟩
 |cons b r=>rw [h] at hm;exact ⟨b,_,rfl,chain_of r b _ hm h0⟩
theorem T11 (k n i:Nat) (xs:List Nat) (h:n<2^30) (hp:((octs n).map conv).isPrefixOf (xs.drop i)=true):
  tblN (k+1) 11 [.ref 0] [.lit 1 i,.list (intL xs)]=some (.fv (.int n),[.lit 1 (i+(octs n).length),.list (intL xs)]):=by
 obtain ⟨b,seq,e,hc⟩:=octs_split n
 have hlen:seq.length≤4:=by
  have h1:=congrArg List.length e
  rw [List.length_map,octs_hi,List.length_append,List.length_cons] at h1
  have:=hiD_len 63 4 n (Nat.lt_of_lt_of_le h (by decide))
  simp at h1;omega
 have hl:(octs n).length=seq.length+1:=by
  have h1:=congrArg List.length e
  rwa [List.length_map] at h1
 have hf:=octs_fold (n:=n) (Nat.lt_of_lt_of_le h (by decide))
 rw [e] at hp hf
 have hx:xs[i]?=some b∧seq.isPrefixOf (xs.drop (i+1))=true:=by
  cases hd:xs.drop i with
  |nil=>rw [hd] at hp;cases hp
  |cons y t=>
   rw [hd] at hp
   simp only [List.isPrefixOf,Bool.and_eq_true,beq_iff_eq] at hp
   have h1:xs[i]?=some y:=by have:=congrArg (·[0]?) hd;simpa using this
   have h2:xs.drop (i+1)=t:=by
    have:=congrArg (List.drop 1) hd
    rw [List.drop_drop] at this
    simpa [Nat.add_comm] using this
   rw [hp.1,h2];exact ⟨h1,hp.2⟩
 have hb:b&&&63<64:=Nat.lt_of_le_of_lt Nat.and_le_right (by decide)
 obtain ⟨b',ew⟩:=pv_loop (tblN k) xs .unb 2 seq b (b&&&63) (i+1) 63 hc hx.2 (Nat.le_trans (Nat.mul_le_mul (show (b&&&63)+1≤64 by omega) (Nat.pow_le_pow_right (by decide) hlen)) (by decide)) (by omega)
 show runBody (tblN k) bFparsevarint [.ref 0,.unb,.unb,.unb] [.lit 1 i,.list (intL xs)]=_
 have hfin:pvFold (b&&&63) seq=n:=by rw [←hf];show _=pvFold (0*64+(b&&&63)) seq;rw [Nat.zero_mul,Nat.zero_add]
 rw [hl,show i+(seq.length+1)=i+1+seq.length by omega]
 refine runBody_ret (s:=⟨[.ref 0,.fv (.int b'),.fv (.int (pvFold (b&&&63) seq:Nat)),.unb],[],[.lit 1 (i+1+seq.length),.list (intL xs)],2⟩) (v:=.fv (.int n)) ?_
 refine (exs_step (ex_asg (v:=.fv (.int b)) (o:=[.lit 1 (i+1),.list (intL xs)]) ?nx rfl)).trans ((exs_step (ex_asg (v:=.fv (.int (b&&&63:Nat))) (o:=[.lit 1 (i+1),.list (intL xs)]) ?an rfl)).trans ?wh)
 case nx=>exact next_lit xs i b hx.1
 case an=>
  show (arith .band (b:Int) 63).map (fun c=>(MV.fv (.int c),[MO.lit 1 (i+1),.list (intL xs)]))=_
  rw [show arith .band (b:Int) 63=some ((b&&&63:Nat):Int) from and_nat b 63];rfl
 case wh=>
  refine (exs_step (s':=⟨[.ref 0,.fv (.int b'),.fv (.int (pvFold (b&&&63) seq:Nat)),.unb],[],[.lit 1 (i+1+seq.length),.list (intL xs)],2⟩) ?_).trans (exs_ret (ex_ret ?_))
  ·exact ew
  ·rw [hfin];rfl
end
section
noncomputable def fine (s:List Nat):Bool:=s.all (fun c=>decide (32≤c)&&c !=127)&&decide (s.length≤1000)
theorem fine_len {s:List Nat} (h:fine s=true):s.length≤1000:=by
 unfold fine at h
 simp only [Bool.and_eq_true,decide_eq_true_eq] at h
 exact h.2
theorem fine_lim {s:List Nat} (h:fine s=true):s.length≤lim:=Nat.le_trans (fine_len h) (by decide)
theorem fine_not {s:List Nat} (h:fine s=true) {bad:Nat→Bool} (hb:∀c,32≤c→c≠127→bad c=false):(s.any bad||decide (s.length>lim))=false:=by
 have hl:=fine_lim h
 unfold fine at h
 rw [Bool.and_eq_true] at h
 rw [Bool.or_eq_false_iff]
 refine ⟨?_,decide_eq_false (by omega)⟩
 rw [List.any_eq_false]
 intro c hc
 have:=List.all_eq_true.mp h.1 c hc
 simp only [Bool.and_eq_true,decide_eq_true_eq,bne_iff_ne,ne_eq] at this
 rw [hb c this.1 this.2];exact Bool.false_ne_true
theorem badN {c:Nat} (h:32≤c) (h2:c≠127):badName c=false:=by
 unfold badName
 rw [Bool.or_eq_false_iff];exact ⟨decide_eq_false (by omega),beq_eq_false_iff_ne.mpr h2⟩
theorem badV {c:Nat} (h:32≤c) (h2:c≠127):badValue c=false:=by
 unfold badValue
 rw [Bool.or_eq_false_iff,Bool.and_eq_false_iff];exact ⟨.inl (decide_eq_false (by omega)),beq_eq_false_iff_ne.mpr h2⟩
theorem runBody_next {T:Tbl} {body:Ss} {vars:List MV} {objs:List MO} {s:MS} (h:exs T body ⟨vars,[],objs,objs.length⟩=some (.next,s)):runBody T body vars objs=some (.fv .none,s.objs):=by
 unfold runBody;rw [h]
theorem T104 (k:Nat) (s:List Nat) (b:Bool) (hs:List FV) (h:fine s=true):tblN (k+1) 104 [.ref 0,.fv (.str s),.fv (.bool b)] [.hdr 1,.list hs]=some (.fv (.str s),[.hdr 1,.list hs]):=by
 have h1:∀objs,methodM .search (.gl 1) [.fv (.str s)] objs=some (.fv .none,objs):=fun objs=>by
  show (if (s.any badName||decide (s.length>lim))=true then none else _)=_
  rw [fine_not h fun c=>badN];rfl
 have h2:∀objs,methodM .search (.gl 2) [.fv (.str s)] objs=some (.fv .none,objs):=fun objs=>by
  show (if (s.any badValue||decide (s.length>lim))=true then none else _)=_
  rw [fine_not h fun c=>badV];rfl
 show runBody (tblN k) bHconvertstringtype [.ref 0,.fv (.str s),.fv (.bool b),.unb,.unb,.unb,.unb,.unb,.unb,.unb,.unb] [.hdr 1,.list hs]=_
 cases b with
 |true=>
  refine runBody_ret (s:=⟨[.ref 0,.fv (.str s),.fv (.bool true),.gl 1,.unb,.unb,.unb,.unb,.unb,.unb,.unb],[],[.hdr 1,.list hs],2⟩) (exs_ret ((ex_iff (b:=true) (o:=[.hdr 1,.list hs]) rfl).trans ?_))
  refine (exs_step (ex_asg (v:=.gl 1) (o:=[.hdr 1,.list hs]) rfl rfl)).trans ((exs_step ((ex_iff (b:=false) (o:=[.hdr 1,.list hs]) ?_).trans rfl)).trans (exs_ret (ex_ret rfl)))
  show (match methodM .search (.gl 1) [.fv (.str s)] [.hdr 1,.list hs] with|some (v,o1)=>(truthyM v o1).map fun b=>(b,o1)|none=>none)=_
  rw [h1];rfl
 |false=>
  refine runBody_ret (s:=⟨[.ref 0,.fv (.str s),.fv (.bool false),.gl 2,.unb,.unb,.unb,.unb,.unb,.unb,.unb],[],[.hdr 1,.list hs],2⟩) (exs_ret ((ex_iff (b:=true) (o:=[.hdr 1,.list hs]) rfl).trans ?_))
  refine (exs_step (ex_asg (v:=.gl 2) (o:=[.hdr 1,.list hs]) rfl rfl)).trans ((exs_step ((ex_iff (b:=false) (o:=[.hdr 1,.list hs]) ?_).trans rfl)).trans (exs_ret (ex_ret rfl)))
  show (match methodM .search (.gl 2) [.fv (.str s)] [.hdr 1,.list hs] with|some (v,o1)=>(truthyM v o1).map fun b=>(b,o1)|none=>none)=_
  rw [h2];rfl
theorem conv_in (k:Nat) (s:List Nat) (b:Bool) (hs:List FV) (rest:List MO) (h:fine s=true) (hr:backFrom [0,1] [.hdr 1,.list hs] 2 rest=some rest):callM (tblN (k+1)) 104 [.ref 0,.fv (.str s),.fv (.bool b)] (.hdr 1::.list hs::rest)=some (.fv (.str s),.hdr 1::.list hs::rest):=by
 show (match tblN (k+1) 104 [.ref 0,.fv (.str s),.fv (.bool b)] [.hdr 1,.list hs] with|some (v,oc)=>comeBack [0,1] v oc (.hdr 1::.list hs::rest)|none=>none)=_
 rw [T104 k s b hs h]
 show (match (match (match backFrom [0,1] [.hdr 1,.list hs] 2 rest with|some r'=>some (MO.list hs::r')|none=>none) with|some r'=>some (MO.hdr 1::r')|none=>none) with|some os=>some (MV.fv (.str s),os)|none=>none)=_
 rw [hr]
theorem T100 (k:Nat) (n v:List Nat) (hs:List FV) (hn:fine n=true) (hv:fine v=true) (hl:hs.length<lenLim):
  tblN (k+2) 100 [.ref 0,.fv (.str n),.fv (.str v)] [.hdr 1,.list hs]=some (.fv .none,[.hdr 1,.list (hs++[.pair (.str n) (.str v)]),.list [.str v]]):=by
 show runBody (tblN (k+1)) bHaddheader [.ref 0,.fv (.str n),.fv (.str v),.edict,.unb,.unb,.unb,.unb] [.hdr 1,.list hs]=_
 refine runBody_next (s:=⟨[.ref 0,.fv (.str n),.fv (.str v),.edict,.ref 2,.unb,.unb,.unb],[],[.hdr 1,.list (hs++[.pair (.str n) (.str v)]),.list [.str v]],2⟩) ?_
 refine (exs_step (s':=⟨[.ref 0,.fv (.str n),.fv (.str v),.edict,.ref 2,.unb,.unb,.unb],[],[.hdr 1,.list hs,.list []],2⟩) rfl).trans ((exs_step (s':=⟨[.ref 0,.fv (.str n),.fv (.str v),.edict,.ref 2,.unb,.unb,.unb],[],[.hdr 1,.list hs,.list [.str v]],2⟩) ((ex_iff (b:=true) (o:=[.hdr 1,.list hs,.list []]) rfl).trans ?a)).trans
  ((exs_step (s':=⟨[.ref 0,.fv (.str n),.fv (.str v),.edict,.ref 2,.unb,.unb,.unb],[],[.hdr 1,.list hs,.list [.str v]],2⟩) rfl).trans ((exs_step (ex_xp (v:=.fv .none) (o:=[.hdr 1,.list (hs++[.pair (.str n) (.str v)]),.list [.str v]]) ?b)).trans rfl)))
 case a=>
  refine (exs_step (ex_asg (v:=.fv (.str v)) (o:=[.hdr 1,.list hs,.list []]) ?_ rfl)).trans ((exs_step (ex_xp (v:=.fv .none) (o:=[.hdr 1,.list hs,.list [.str v]]) rfl)).trans rfl)
  exact conv_in k v false hs [.list []] hv rfl
 case b=>
  have e1:=conv_in k n true hs [.list [.str v]] hn rfl
  have e2:methodM .join (.fv (.str [59,32])) [.ref 2] [.hdr 1,.list hs,.list [.str v]]=some (.fv (.str v),[.hdr 1,.list hs,.list [.str v]]):=by
   show (if ([v].map List.length).sum+ [v].length*2≤lim then some (MV.fv (.str v),_) else none)=_
   rw [if_pos (by have:=fine_len hv;simp;unfold lim;omega)]
  have e3:methodM .append (.ref 1) [.fv (.pair (.str n) (.str v))] [.hdr 1,.list hs,.list [.str v]]=some (.fv .none,[.hdr 1,.list (hs++[.pair (.str n) (.str v)]),.list [.str v]]):=if_pos hl
  show (match (match (match callM (tblN (k+1)) 104 [.ref 0,.fv (.str n),.fv (.bool true)] [.hdr 1,.list hs,.list [.str v]] with|some (.fv x,o1)=>(match methodM .join (.fv (.str [59,32])) [.ref 2] o1 with|some (.fv y,o2)=>some (MV.fv (.pair x y),o2)|_=>none)|_=>none) with|some (w,o1)=>some ([w],o1)|none=>none) with|some (vs,o2)=>methodM .append (.ref 1) vs o2|none=>none)=_
  rw [e1];dsimp only;rw [e2];exact e3
end
section
theorem compTurns_all {n:Nat} {step:FV→List MV→List MO→Option (List FV × List MV × List MO)} {src:MV} {orig:Option MO} {os:List MO} (I:List MV→Prop) (g:FV→List FV) (ho:origOf src os=orig) (ht:okTake n os=true) (hn:os.take n=os):
  ∀(l:List FV) (vs:List MV) (acc:List FV),I vs→(∀x∈l,∀vs,I vs→∃vs',I vs'∧step x vs os=some (g x,vs',os))→acc.length+(l.flatMap g).length≤lenLim→∃vs',compTurns n step src orig l vs os acc=some (acc++l.flatMap g,vs',os)
 |[],vs,acc,hI,hs,hl=>⟨vs,by
  show (if origOf src os==orig then some (acc,vs,os) else none)=_
  rw [ho];simp⟩
 |x::r,vs,acc,hI,hs,hl=>by
  obtain ⟨vs',hI',e⟩:=hs x (.head _) vs hI
  have h1:(x::r).flatMap g=g x++r.flatMap g:=rfl
  rw [h1,List.length_append] at hl
  obtain ⟨vs'',e2⟩:=compTurns_all I g ho ht hn r vs' (acc++g x) hI' (fun y hy=>hs y (.tail _ hy)) (by rw [List.length_append];omega)
  refine ⟨vs'',?_⟩
  show (if origOf src os==orig then (match step x vs os with|some (ys,vs',objs')=>if acc.length+ys.length≤lenLim&&okTake n objs' then compTurns n step src orig r vs' (objs'.take n) (acc++ys) else none|none=>none) else none)=_
  rw [ho,e,h1,←List.append_assoc,←e2]
  simp only [beq_self_eq_true,if_true]
  rw [if_pos (by rw [ht,decide_eq_true (by omega)];rfl),hn]
noncomputable def hd (e:List Nat × List Nat):FV:=.pair (.str e.1) (.str e.2)
noncomputable def low (s:List Nat):List Nat:=s.map lo1
noncomputable def hdrOk (es:List (List Nat × List Nat)):Bool:=es.all fun e=>ascii e.1&&decide (e.1.length≤1000)
theorem hdr_mem {es:List (List Nat × List Nat)} (h:hdrOk es=true) {e:List Nat × List Nat} (m:e∈es):ascii e.1=true∧e.1.length≤lim:=by
 have:=List.all_eq_true.mp h e m
 simp only [Bool.and_eq_true,decide_eq_true_eq] at this
 exact ⟨this.1,Nat.le_trans this.2 (by decide)⟩
theorem lower_ok {s:List Nat} {objs:List MO} (ha:ascii s=true) (hl:s.length≤lim):methodM .lower (.fv (.str s)) [] objs=some (.fv (.str (low s)),objs):=if_pos (by rw [ha,decide_eq_true hl];rfl)
theorem lo1_facts:∀c:Nat,c<128→lo1 c<128∧(32≤c→32≤lo1 c)∧(c≠127→lo1 c≠127)∧lo1 (lo1 c)=lo1 c∧lo1 (up1 c)=lo1 c∧up1 c<128∧(32≤c→32≤up1 c)∧(c≠127→up1 c≠127):=by decide+kernel
theorem fine_low {s:List Nat} (h:fine s=true) (ha:ascii s=true):fine (low s)=true:=by
 unfold fine at h ⊢
 rw [Bool.and_eq_true] at h ⊢
 refine ⟨?_,by simpa [low] using h.2⟩
 rw [List.all_eq_true] at*
 intro c hc
 obtain ⟨d,hd,rfl⟩:=List.mem_map.mp hc
 have h1:=h.1 d hd
 have h2:=List.all_eq_true.mp ha d hd
 simp only [Bool.and_eq_true,decide_eq_true_eq,bne_iff_ne,ne_eq] at h1 h2 ⊢
 have:=lo1_facts d h2
 exact ⟨this.2.1 h1.1,this.2.2.1 h1.2⟩
theorem ask_ok (k:Nat) (q:List Nat) (hs:List FV) (v2:MV) (rest:List MV) (h:fine q=true) (ha:ascii q=true) (pa:Pos:=(pq 0 0 0)) (pk:Pos:=(pq 0 0 0)) (p:Pos:=(pq 0 0 0)) (p1:Pos:=(pq 0 0 0)) (p2:Pos:=(pq 0 0 0)) (p3:Pos:=(pq 0 0 0)) (p4:Pos:=(pq 0 0 0)):
  ev (tblN (k+1)) (.hm (.var 0 p1) 4 (.cons (.me (.var 1 p2) .lower .nil p3 p4) .nil) (.cons (.cb true pa) .nil) pa pk p) (.ref 0::.fv (.str q)::rest) [.hdr 1,.list hs]=some (.fv (.str (low q)),[.hdr 1,.list hs]):=by
 have e1:=lower_ok (objs:=[.hdr 1,.list hs]) ha (fine_lim h)
 have e2:=conv_in k (low q) true hs [] (fine_low h ha) rfl
 show (match (match methodM .lower (.fv (.str q)) [] [.hdr 1,.list hs] with|some (w,o1)=>some ([w],o1)|none=>none) with|some (vs,o2)=>callM (tblN (k+1)) 104 (.ref 0::(vs++[MV.fv (.bool true)])) o2|none=>none)=_
 rw [e1];exact e2
end
section
noncomputable def gets (q:List Nat) (es:List (List Nat × List Nat)):List FV:=(es.filter fun e=>low e.1==q).map fun e=>.str e.2
theorem gets_flat (q:List Nat):∀es:List (List Nat × List Nat),(es.map hd).flatMap (fun x=>match x with|.pair (.str a) (.str b)=>if low a==q then [FV.str b] else []|_=>[])=gets q es
 |[]=>rfl
 |e::r=>by
  rw [List.map_cons,List.flatMap_cons,gets_flat q r]
  unfold gets
  show (if low e.1==q then [FV.str e.2] else [])++_=_
  by_cases h:low e.1==q
  ·rw [if_pos h,List.filter_cons_of_pos (p:=fun e:List Nat × List Nat=>low e.1==q) h];rfl
  ·rw [if_neg h,List.filter_cons_of_neg (p:=fun e:List Nat × List Nat=>low e.1==q) h];rfl
theorem T101 (k:Nat) (q:List Nat) (es:List (List Nat × List Nat)) (h:fine q=true) (ha:ascii q=true) (hes:hdrOk es=true) (hl:es.length≤1000):
  tblN (k+2) 101 [.ref 0,.fv (.str q)] [.hdr 1,.list (es.map hd)]=some (.ref 2,[.hdr 1,.list (es.map hd),.list (gets (low q) es)]):=by
 have hlen:(gets (low q) es).length≤lenLim:=by
  unfold gets
  rw [List.length_map]
  exact Nat.le_trans (List.length_filter_le ..) (Nat.le_trans hl (by decide))
 have hsrc:(es.map hd).length≤lenLim:=by rw [List.length_map];exact Nat.le_trans hl (by decide)
 show runBody (tblN (k+1)) bHgetall [.ref 0,.fv (.str q)] [.hdr 1,.list (es.map hd)]=_
 refine runBody_ret (s:=⟨[.ref 0,.fv (.str (low q))],[],[.hdr 1,.list (es.map hd),.list (gets (low q) es)],2⟩) ((exs_step (ex_asg (v:=.fv (.str (low q))) (o:=[.hdr 1,.list (es.map hd)]) ?ask rfl)).trans (exs_ret (ex_ret ?_)))
 case ask=>exact ask_ok k q _ .unb [] h ha
 obtain ⟨vs',e⟩:=compTurns_all (n:=1) (src:=.ref 0) (orig:=some (.list (es.map hd))) (os:=[.list (es.map hd)]) (step:=fun it vs os=>
       match evT (tblN (k+1)) (.cmp (.me (.sub (.var 1 (pq 170 49 51)) (.ci 0 (pq 170 52 53)) (pq 170 49 54)) .lower .nil (pq 170 49 60) (pq 170 49 62)) .eq (.var 2 (pq 170 66 70)) (pq 170 49 70)) (ev (tblN (k+1)) (.cmp (.me (.sub (.var 1 (pq 170 49 51)) (.ci 0 (pq 170 52 53)) (pq 170 49 54)) .lower .nil (pq 170 49 60) (pq 170 49 62)) .eq (.var 2 (pq 170 66 70)) (pq 170 49 70)) (vs.set 1 (.fv it)) os) (vs.set 1 (.fv it)) os with
       |some (true,os1)=>match ev (tblN (k+1)) (.sub (.var 1 (pq 170 16 18)) (.ci 1 (pq 170 19 20)) (pq 170 16 21)) (vs.set 1 (.fv it)) os1 with
        |some (.fv y,os2)=>some ([y],vs.set 1 (.fv it),os2)
        |_=>none
       |some (false,os1)=>some ([],vs.set 1 (.fv it),os1)
       |none=>none)
  (fun vs=>∃x,vs=[.unb,x,.fv (.str (low q))]) (fun x=>match x with|.pair (.str a) (.str b)=>if low a==low q then [FV.str b] else []|_=>[]) rfl rfl rfl (es.map hd) [.unb,.unb,.fv (.str (low q))] [] ⟨_,rfl⟩ (fun x hx vs hI=>by
   obtain ⟨e,he,rfl⟩:=List.mem_map.mp hx
   obtain ⟨y,rfl⟩:=hI
   obtain ⟨h1,h2⟩:=hdr_mem hes he
   refine ⟨[.unb,.fv (hd e),.fv (.str (low q))],⟨_,rfl⟩,?_⟩
   have e1:=lower_ok (objs:=[.list (es.map hd)]) h1 h2
   have e2:ev (tblN (k+1)) (.cmp (.me (.sub (.var 1 (pq 170 49 51)) (.ci 0 (pq 170 52 53)) (pq 170 49 54)) .lower .nil (pq 170 49 60) (pq 170 49 62)) .eq (.var 2 (pq 170 66 70)) (pq 170 49 70)) [.unb,.fv (hd e),.fv (.str (low q))] [.list (es.map hd)]=some (.fv (.bool (low e.1==low q)),[.list (es.map hd)]):=by
    show (match methodM .lower (.fv (.str e.1)) [] [.list (es.map hd)] with|some (a,o1)=>(match some ((MV.fv (.str (low q))),o1) with|some (b,o2)=>(cmpop .eq a b o2).map fun c=>(MV.fv (.bool c),o2)|none=>none)|none=>none)=_
    rw [e1];rfl
   show (match evT (tblN (k+1)) _ (ev (tblN (k+1)) _ [.unb,.fv (hd e),.fv (.str (low q))] [.list (es.map hd)]) [.unb,.fv (hd e),.fv (.str (low q))] [.list (es.map hd)] with|some (true,os1)=>_|some (false,os1)=>_|none=>none)=_
   rw [e2]
   show _=some (if low e.1==low q then [FV.str e.2] else [],[MV.unb,.fv (hd e),.fv (.str (low q))],[MO.list (es.map hd)])
   cases low e.1==low q<;>rfl) (by rw [gets_flat];simpa using hlen)
 rw [gets_flat,List.nil_append] at e
 have hci:compIn [.ref 0,.fv (.str (low q))] [none,none,some 1] (.ref 1) [.hdr 1,.list (es.map hd)]=some ([1],es.map hd):=by
  show (if (es.map hd).length≤lenLim then some (es.map hd) else none).map (fun full=>([1],full))=_
  rw [if_pos hsrc];rfl
 show (match compIn [.ref 0,.fv (.str (low q))] [none,none,some 1] (.ref 1) [.hdr 1,.list (es.map hd)] with|some (rs,full)=>(match compTurns rs.length _ (renum rs (.ref 1)) (origOf (renum rs (.ref 1)) (pick rs [.hdr 1,.list (es.map hd)])) full _ (pick rs [.hdr 1,.list (es.map hd)]) [] with|some (ys,_,oc')=>compOut rs oc' [.hdr 1,.list (es.map hd)] (.list ys)|none=>none)|none=>none)=_
 rw [hci]
 refine Eq.trans (b:=match some (gets (low q) es,vs',[MO.list (es.map hd)]) with|some (ys,_,oc')=>compOut [1] oc' [.hdr 1,.list (es.map hd)] (.list ys)|none=>none) ?_ rfl
 rw [←e];rfl
end
section
noncomputable def found (q:List Nat) (es:List (List Nat × List Nat)):Option (List Nat × List Nat):=es.find? fun e=>low e.1==q
noncomputable def getStep (T:Tbl):FV→MS→Option (Fl × MS):=fun it s=>match it with
 |.pair a c=>exs T (.cons (.iff (.cmp (.me (.var 3 (pq 175 15 16)) .lower .nil (pq 175 15 22) (pq 175 15 24)) .eq (.var 1 (pq 175 28 32)) (pq 175 15 32)) (.cons (.ret (.var 4 (pq 176 23 24)) (pq 176 16 24)) .nil) .nil ⟨175,12,176,24⟩) .nil) {s with vars:=(s.vars.set 3 (.fv a)).set 4 (.fv c)}
 |_=>none
theorem get_step (T:Tbl) (lq:List Nat) (e:List Nat × List Nat) (x y:MV) (objs:List MO) (h1:ascii e.1=true) (h2:e.1.length≤lim):
  getStep T (hd e) ⟨[.ref 0,.fv (.str lq),.fv .none,x,y],[.ref 1],objs,2⟩=some (if low e.1==lq then .ret (.fv (.str e.2)) else .next,⟨[.ref 0,.fv (.str lq),.fv .none,.fv (.str e.1),.fv (.str e.2)],[.ref 1],objs,2⟩):=by
 have e1:=lower_ok (objs:=objs) h1 h2
 have ht:∀p1 p2 p3 p4 p5,evT T (.cmp (.me (.var 3 p1) .lower .nil p2 p3) .eq (.var 1 p4) p5) (ev T (.cmp (.me (.var 3 p1) .lower .nil p2 p3) .eq (.var 1 p4) p5) [.ref 0,.fv (.str lq),.fv .none,.fv (.str e.1),.fv (.str e.2)] objs) [.ref 0,.fv (.str lq),.fv .none,.fv (.str e.1),.fv (.str e.2)] objs=some (low e.1==lq,objs):=by
  intro p1 p2 p3 p4 p5
  show (match (match methodM .lower (.fv (.str e.1)) [] objs with|some (a,o1)=>(match some ((MV.fv (.str lq)),o1) with|some (b,o2)=>(cmpop .eq a b o2).map fun c=>(MV.fv (.bool c),o2)|none=>none)|none=>none) with|some (v,o1)=>(truthyM v o1).map fun b=>(b,o1)|none=>none)=_
  rw [e1];rfl
 cases hb:low e.1==lq with
 |true=>exact exs_ret ((ex_iff (b:=true) (o:=objs) ((ht ..).trans (by rw [hb]))).trans (exs_ret (ex_ret rfl)))
 |false=>exact (exs_step ((ex_iff (b:=false) (o:=objs) ((ht ..).trans (by rw [hb]))).trans rfl)).trans rfl
theorem get_loop (T:Tbl) (lq:List Nat) (objs:List MO) (orig:Option MO) (ho:objs[1]?=orig):∀(l:List (List Nat × List Nat)) (x y:MV),hdrOk l=true→
  ∃x' y',turns (getStep T) orig (l.map hd) ⟨[.ref 0,.fv (.str lq),.fv .none,x,y],[.ref 1],objs,2⟩=some ((found lq l).map fun e=>Fl.ret (.fv (.str e.2)),⟨[.ref 0,.fv (.str lq),.fv .none,x',y'],[.ref 1],objs,2⟩)
 |[],x,y,_=>⟨x,y,turns_nil ho⟩
 |e::r,x,y,h=>by
  obtain ⟨h1,h2⟩:=hdr_mem h (.head _)
  have hs:=get_step T lq e x y objs h1 h2
  unfold found
  rw [List.find?_cons]
  cases hb:low e.1==lq with
  |true=>
   rw [hb] at hs
   exact ⟨.fv (.str e.1),.fv (.str e.2),turns_ret (s:=⟨[.ref 0,.fv (.str lq),.fv .none,x,y],[.ref 1],objs,2⟩) ho hs⟩
  |false=>
   rw [hb] at hs
   obtain ⟨x',y',e'⟩:=get_loop T lq objs orig ho r (.fv (.str e.1)) (.fv (.str e.2)) (by unfold hdrOk at h ⊢;rw [List.all_cons,Bool.and_eq_true] at h;exact h.2)
   exact ⟨x',y',(turns_next (s:=⟨[.ref 0,.fv (.str lq),.fv .none,x,y],[.ref 1],objs,2⟩) ho hs).trans e'⟩
theorem T103 (k:Nat) (q:List Nat) (es:List (List Nat × List Nat)) (h:fine q=true) (ha:ascii q=true) (hes:hdrOk es=true) (hl:es.length≤1000):
  tblN (k+2) 103 [.ref 0,.fv (.str q)] [.hdr 1,.list (es.map hd)]=some (match found (low q) es with|some e=>.fv (.str e.2)|none=>.fv .none,[.hdr 1,.list (es.map hd)]):=by
 have hsrc:(es.map hd).length≤lenLim:=by rw [List.length_map];exact Nat.le_trans hl (by decide)
 obtain ⟨x',y',e⟩:=get_loop (tblN (k+1)) (low q) [.hdr 1,.list (es.map hd)] (some (.list (es.map hd))) rfl es .unb .unb hes
 have hfor:∀b p1 p2 p3 p4 p5 p6,getStep (tblN (k+1))=(fun it s=>match it with|.pair a c=>exs (tblN (k+1)) b {s with vars:=(s.vars.set 3 (.fv a)).set 4 (.fv c)}|_=>none)→
   ex (tblN (k+1)) (.for2 3 4 (.hat (.var 0 p1) p2) b p3 p4 p5 p6) ⟨[.ref 0,.fv (.str (low q)),.fv .none,.unb,.unb],[],[.hdr 1,.list (es.map hd)],2⟩=
    (match turns (getStep (tblN (k+1))) (some (.list (es.map hd))) (es.map hd) ⟨[.ref 0,.fv (.str (low q)),.fv .none,.unb,.unb],[.ref 1],[.hdr 1,.list (es.map hd)],2⟩ with
     |some (none,s')=>some (.next,{s' with its:=s'.its.tail})
     |some (some f,s')=>some (f,{s' with its:=s'.its.tail})
     |none=>none):=by
  intro b p1 p2 p3 p4 p5 p6 hb
  rw [hb]
  show (match (if (es.map hd).length≤lenLim then some (es.map hd) else none) with|some full=>_|none=>none)=_
  rw [if_pos hsrc];rfl
 show runBody (tblN (k+1)) bHget [.ref 0,.fv (.str q),.fv .none,.unb,.unb] [.hdr 1,.list (es.map hd)]=_
 cases hf:found (low q) es with
 |some x=>
  rw [hf] at e
  refine runBody_ret (s:=⟨[.ref 0,.fv (.str (low q)),.fv .none,x',y'],[],[.hdr 1,.list (es.map hd)],2⟩) ((exs_step (ex_asg (v:=.fv (.str (low q))) (o:=[.hdr 1,.list (es.map hd)]) ?ask rfl)).trans (exs_ret ?_))
  case ask=>exact ask_ok k q _ .unb [.fv .none,.unb,.unb] h ha
  refine (hfor _ _ _ _ _ _ _ rfl).trans ?_
  rw [e];rfl
 |none=>
  rw [hf] at e
  refine runBody_ret (s:=⟨[.ref 0,.fv (.str (low q)),.fv .none,x',y'],[],[.hdr 1,.list (es.map hd)],2⟩) ((exs_step (ex_asg (v:=.fv (.str (low q))) (o:=[.hdr 1,.list (es.map hd)]) ?ask rfl)).trans ((exs_step (s':=⟨[.ref 0,.fv (.str (low q)),.fv .none,x',y'],[],[.hdr 1,.list (es.map hd)],2⟩) ?_).trans (exs_ret (ex_ret rfl))))
  case ask=>exact ask_ok k q _ .unb [.fv .none,.unb,.unb] h ha
  refine (hfor _ _ _ _ _ _ _ rfl).trans ?_
  rw [e];rfl
theorem T105 (k:Nat) (q:List Nat) (es:List (List Nat × List Nat)) (h:fine q=true) (ha:ascii q=true) (hes:hdrOk es=true) (hl:es.length≤1000):
  tblN (k+3) 105 [.ref 0,.fv (.str q)] [.hdr 1,.list (es.map hd)]=some (.fv (.bool (found (low q) es).isSome),[.hdr 1,.list (es.map hd)]):=by
 show runBody (tblN (k+2)) bHcontains [.ref 0,.fv (.str q)] [.hdr 1,.list (es.map hd)]=_
 refine runBody_ret (s:=⟨[.ref 0,.fv (.str q)],[],[.hdr 1,.list (es.map hd)],2⟩) (exs_ret (ex_ret ?_))
 show (match (match tblN (k+2) 103 [.ref 0,.fv (.str q)] [.hdr 1,.list (es.map hd)] with|some (v,oc)=>comeBack [0,1] v oc [.hdr 1,.list (es.map hd)]|none=>none) with|some (a,o1)=>(cmpop .isNot a (.fv .none) o1).map fun c=>(MV.fv (.bool c),o1)|none=>none)=_
 rw [T103 k q es h ha hes hl]
 cases found (low q) es<;>rfl
end
section
theorem T102 (k:Nat) (hs:List FV) (hl:hs.length≤lenLim):tblN (k+1) 102 [.ref 0] [.hdr 1,.list hs]=some (.ref 2,[.hdr 1,.list hs,.list hs]):=by
 show runBody (tblN k) bHitems [.ref 0] [.hdr 1,.list hs]=_
 refine runBody_ret (s:=⟨[.ref 0],[],[.hdr 1,.list hs,.list hs],2⟩) (exs_ret (ex_ret ?_))
 show (if 0≤hs.length&&hs.length≤hs.length&&hs.length≤lenLim then some (MV.ref 2,[MO.hdr 1,.list hs]++[.list ((hs.drop 0).take (hs.length-0))]) else none)=_
 rw [if_pos (by simp;exact hl)];simp
theorem rngFrom_cons (n j:Nat):rngFrom 1 (n+1) (j:Int)=.int j::rngFrom 1 n ((j+1:Nat):Int):=rfl
theorem rng_items (n:Nat):rngItems 0 n 1=rngFrom 1 n ((0:Nat):Int):=by
 unfold rngItems rngCount
 split
 ·rw [Int.ediv_one];congr 1;omega
 ·rename_i h
  have:n=0:=by omega
  subst this;rfl
noncomputable def Ss.at:Ss→Nat→S
 |.cons a _,0=>a
 |.cons _ r,n+1=>r.at n
 |.gc r,n=>r.at n
 |.nil,_=>.brk (pq 0 0 0)
noncomputable def S.body:S→Ss
 |.forS _ _ b _ _ _=>b
 |.for2 _ _ _ b _ _ _ _=>b
 |.whl _ b _=>b
 |.iff _ b _ _=>b
 |_=>.nil
noncomputable def S.test:S→X
 |.whl t _ _=>t
 |.iff t _ _ _=>t
 |.asg _ e _ _=>e
 |.ret e _=>e
 |.xp e _=>e
 |_=>.no
noncomputable def forStep (T:Tbl) (ti:Nat) (b:Ss):FV→MS→Option (Fl × MS):=fun it s=>exs T b {s with vars:=s.vars.set ti (.fv it)}
noncomputable def cellsStep (T:Tbl):FV→MS→Option (Fl × MS):=forStep T 2 (bFlawcells.at 1).body
theorem ex_forS {T:Tbl} {s s':MS} {ti:Nat} {iter:X} {b e:Ss} {pt p:Pos} {x:MV} {o:List MO} {full:List FV} (h1:ev T iter s.vars s.objs=some (x,o)) (hd:noDict (origOf x o)=true) (h2:srcItems x o=some full)
  (h3:turns (forStep T ti b) (origOf x o) full ⟨s.vars,x::s.its,o,s.n⟩=some (none,s')):ex T (.forS ti iter b e pt p) s=exs T e ⟨s'.vars,s'.its.tail,s'.objs,s'.n⟩:=by
 unfold forStep at h3
 simp only [ex,h1,hd,if_true,h2,h3]
theorem ex_augS {T:Tbl} {s:MS} {o i e:X} {op:BO} {p q:Pos} {r:Nat} {o1 o2 o3:List MO} {k a b c:Int} {xs ys:List FV} (h1:ev T o s.vars s.objs=some (.ref r,o1)) (h2:ev T i s.vars o1=some (.fv (.int k),o2)) (h3:listAt o2 r=some xs) (h4:(0≤k&&k<xs.length&&xs.length≤lenLim)=true)
  (h5:xs[k.toNat]?=some (.int a)) (h6:ev T e s.vars o2=some (.fv (.int b),o3)) (h7:arith op a b=some c) (h8:listAt o3 r=some ys) (h9:(k<ys.length&&ys.length≤lenLim)=true):ex T (.augS o i op e p q) s=some (.next,⟨s.vars,s.its,o3.set r (.list (ys.set k.toNat (.int c))),s.n⟩):=by
 simp only [ex,h1,h2,h3,h4,h5,h6,h7,h8,h9,if_true]
theorem cells_step (T:Tbl) (script cs:List Int) (x:MV) (j:Nat) (itv:MV) (hj:j<script.length) (hlen:script.length≤1000) (hc:cs.length=5):
  ∃cs':List Int,cs'.length=5∧cellsStep T (.int j) ⟨[.ref 0,.ref 1,x,.unb,.unb],[itv],[.fz (script.map .int),.list (cs.map .int)],1⟩=some (.next,⟨[.ref 0,.ref 1,.fv (.int j),.unb,.unb],[itv],[.fz (script.map .int),.list (cs'.map .int)],1⟩):=by
 have hm:(j:Int).fmod 5=((j%5:Nat):Int):=fmod_nat j 5
 have h5:j%5<5:=Nat.mod_lt _ (by decide)
 refine ⟨cs.set (j%5) (cs[j%5]'(by omega)+script[j]),by simpa using hc,?_⟩
 have e1:(cs.map FV.int)[((j%5:Nat):Int).toNat]?=some (.int (cs[j%5]'(by omega))):=by
  rw [Int.toNat_natCast,List.getElem?_map,List.getElem?_eq_getElem (by omega)];rfl
 have e2:nthM (.ref 0) (.fv (.int j)) [.fz (script.map .int),.list (cs.map .int)]=some (.fv (.int script[j])):=by
  exact nth_fz rfl (Nat.lt_of_lt_of_le hj (Nat.le_trans hlen (by decide))) (by rw [List.getElem?_map,List.getElem?_eq_getElem hj];rfl)
 have hcl:(cs.map FV.int).length=5:=by rw [List.length_map,hc]
 refine (exs_step (ex_augS (r:=1) (a:=cs[j%5]'(by omega)) (b:=script[j]) (c:=cs[j%5]'(by omega)+script[j]) (ys:=cs.map .int) (o1:=[.fz (script.map .int),.list (cs.map .int)]) (o2:=[.fz (script.map .int),.list (cs.map .int)]) (k:=((j%5:Nat):Int)) (xs:=cs.map .int) rfl ?_ rfl ?_ e1 (o3:=[.fz (script.map .int),.list (cs.map .int)]) ?_ rfl rfl ?_)).trans ?_
 ·show (arith .fmod (j:Int) 5).map (fun c=>(MV.fv (.int c),[MO.fz (script.map .int),.list (cs.map .int)]))=_
  rw [show arith .fmod (j:Int) 5=some ((j:Int).fmod 5) from rfl,hm];rfl
 ·rw [hcl];simp only [Bool.and_eq_true,decide_eq_true_eq];exact ⟨⟨Int.natCast_nonneg _,Int.ofNat_lt.mpr h5⟩,by decide⟩
 ·show (nthM (.ref 0) (.fv (.int j)) [.fz (script.map .int),.list (cs.map .int)]).map (fun v=>(v,[MO.fz (script.map .int),.list (cs.map .int)]))=_
  rw [e2];rfl
 ·rw [hcl];simp only [Bool.and_eq_true,decide_eq_true_eq];exact ⟨Int.ofNat_lt.mpr h5,by decide⟩
 ·rw [Int.toNat_natCast,List.map_set];rfl
theorem cells_loop (T:Tbl) (script:List Int) (itv:MV) (ho:origOf itv [.fz (script.map .int),.list []]=none) (hitv:∀o,origOf itv o=none) (hlen:script.length≤1000):∀(n j:Nat) (cs:List Int) (x:MV),j+n=script.length→cs.length=5→
  ∃(cs':List Int) (x':MV),cs'.length=5∧turns (cellsStep T) none (rngFrom 1 n (j:Int)) ⟨[.ref 0,.ref 1,x,.unb,.unb],[itv],[.fz (script.map .int),.list (cs.map .int)],1⟩=some (none,⟨[.ref 0,.ref 1,x',.unb,.unb],[itv],[.fz (script.map .int),.list (cs'.map .int)],1⟩)
 |0,j,cs,x,_,hc=>⟨cs,x,hc,turns_nil (hitv _)⟩
 |n+1,j,cs,x,h,hc=>by
  obtain ⟨cs1,hc1,e⟩:=cells_step T script cs x j itv (by omega) hlen hc
  obtain ⟨cs2,x2,hc2,e2⟩:=cells_loop T script itv ho hitv hlen n (j+1) cs1 (.fv (.int j)) (by omega) hc1
  exact ⟨cs2,x2,hc2,(turns_next (s:=⟨[.ref 0,.ref 1,x,.unb,.unb],[itv],[.fz (script.map .int),.list (cs.map .int)],1⟩) (hitv _) e).trans e2⟩
theorem T0c (k:Nat) (script:List Int) (h:script.length≤1000):∃cs:List Int,cs.length=5∧tblN (k+1) 0 [.ref 0] [.fz (script.map .int)]=some (.ref 1,[.fz (script.map .int),.list (cs.map .int)]):=by
 obtain ⟨cs,x',hc,e⟩:=cells_loop (tblN k) script (.rng 0 script.length 1) rfl (fun _=>rfl) h script.length 0 [18,45,2,30000,17] .unb (by omega) rfl
 refine ⟨cs,hc,?_⟩
 have hl:(script.map FV.int).length=script.length:=List.length_map ..
 have e1:builtin .len [.ref 0] [.fz (script.map .int),.list ([18,45,2,30000,17].map .int)]=some (.fv (.int script.length),[.fz (script.map .int),.list ([18,45,2,30000,17].map .int)]):=by
  exact (if_pos (hl▸Nat.le_trans h (by decide))).trans (by rw [hl])
 have hbn:(script.length:Int).natAbs<big:=by
  rw [Int.natAbs_natCast]
  exact Nat.lt_of_le_of_lt h (by decide)
 have e2:∀o,builtin .range [.fv (.int script.length)] o=some (.rng 0 script.length 1,o):=fun o=>if_pos hbn
 show runBody (tblN k) bFlawcells [.ref 0,.unb,.unb,.unb,.unb] [.fz (script.map .int)]=_
 refine runBody_ret (s:=⟨[.ref 0,.ref 1,x',.unb,.unb],[],[.fz (script.map .int),.list (cs.map .int)],1⟩) ((exs_step (s':=⟨[.ref 0,.ref 1,.unb,.unb,.unb],[],[.fz (script.map .int),.list ([18,45,2,30000,17].map .int)],1⟩) rfl).trans ((exs_step (s':=⟨[.ref 0,.ref 1,x',.unb,.unb],[],[.fz (script.map .int),.list (cs.map .int)],1⟩) ?_).trans (exs_ret (ex_ret rfl))))
 have e3:srcItems (.rng 0 script.length 1) [.fz (script.map .int),.list ([18,45,2,30000,17].map .int)]=some (rngFrom 1 script.length ((0:Nat):Int)):=by
  show (if (1:Int)=1&&(0:Int).natAbs<big&&(script.length:Int).natAbs<big then some (rngItems 0 script.length 1) else none)=_
  rw [if_pos (by simp only [Bool.and_eq_true,decide_eq_true_eq];exact ⟨⟨trivial,by decide⟩,hbn⟩),rng_items]
 refine (ex_forS (x:=.rng 0 script.length 1) (s':=⟨[.ref 0,.ref 1,x',.unb,.unb],[.rng 0 script.length 1],[.fz (script.map .int),.list (cs.map .int)],1⟩) (o:=[.fz (script.map .int),.list ([18,45,2,30000,17].map .int)]) ?_ rfl e3 ?tr).trans rfl
 case tr=>exact e
 show (match (match builtin .len [.ref 0] [.fz (script.map .int),.list ([18,45,2,30000,17].map .int)] with|some (w,o1)=>some ([w],o1)|none=>none) with|some (vs,o1)=>builtin .range vs o1|none=>none)=_
 rw [e1];exact e2 _
end
section
noncomputable def leh {α:Type}:Nat→List α→Int→List α
 |0,_,_=>[]
 |f+1,ws,d=>match ws[(d.fmod ws.length).toNat]? with
  |some w=>w::leh f (ws.eraseIdx (d.fmod ws.length).toNat) (d.fdiv ws.length)
  |none=>[]
theorem appendM_ok {i:Nat} {o:List MO} {xs:List FV} {v:FV} (h:o[i]?=some (.list xs)) (hl:xs.length<lenLim):methodM .append (.ref i) [.fv v] o=some (.fv .none,o.set i (.list (xs++[v]))):=by
 refine (bindE (listAt_of h)).trans ?_
 exact if_pos hl
theorem bound_nat {n d j:Nat} (hj:j≤1000):bound? n d (.fv (.int j))=some (min j n):=by
 show (if (j:Int).natAbs<big then some (if (j:Int)<0 then ((j:Int)+n).toNat else min (j:Int).toNat n) else none)=_
 rw [if_pos (by rw [Int.natAbs_natCast];exact Nat.lt_of_le_of_lt hj (by decide)),if_neg (by omega),Int.toNat_natCast]
theorem slice_ok {i:Nat} {o:List MO} {xs:List FV} {l u:MV} {a b:Nat} (h:o[i]?=some (.list xs)) (hl:bound? xs.length 0 l=some a) (hu:bound? xs.length xs.length u=some b) (hab:a≤b) (hb:b≤xs.length) (hx:xs.length≤lenLim):
  sliceM (.ref i) l u o=some (.ref o.length,o++[.list ((xs.drop a).take (b-a))]):=by
 refine (bindE (listAt_of h)).trans ?_
 exact (bindE hl).trans ((bindE hu).trans (if_pos (by rw [decide_eq_true hab,decide_eq_true hb,decide_eq_true hx];rfl)))
theorem addl_ok {i j:Nat} {o:List MO} {xs ys:List FV} (h:o[i]?=some (.list xs)) (h2:o[j]?=some (.list ys)) (hl:xs.length+ys.length≤lenLim):binop .add (.ref i) (.ref j) o=some (.ref o.length,o++[.list (xs++ys)]):=by
 refine (bindE (listAt_of h)).trans ?_
 refine (bindE (listAt_of h2)).trans ?_
 exact if_pos hl
theorem order_turn (T:Tbl) (rest order:List FV) (w:FV) (d:Int) (i j:Nat) (o:List MO) (x:MV) (its:List MV) (n:Nat) (hi:o[i]?=some (.list rest)) (hj:o[j]?=some (.list order)) (hij:i≠j) (hr:rest.length≤100) (ho:order.length≤100) (hw:rest[(d.fmod rest.length).toNat]?=some w):
  exs T (match (bFlaworder.at 2).body with|.gc r=>r|r=>r) ⟨[.ref 0,.fv (.int d),.ref i,.ref j,x,.unb],its,o,n⟩=
   some (.next,⟨[.ref 0,.fv (.int (d.fdiv rest.length)),.ref (o.length+2),.ref j,.fv (.int (d.fmod rest.length)),.unb],its,
    o.set j (.list (order++[w]))++[.list (rest.take (d.fmod rest.length).toNat)]++[.list (rest.drop ((d.fmod rest.length).toNat+1))]++[.list (rest.eraseIdx (d.fmod rest.length).toNat)],n⟩):=by
 have hlt:(d.fmod rest.length).toNat<rest.length:=(List.getElem?_eq_some_iff.mp hw).1
 have hpos:(0:Int)<rest.length:=by omega
 have hnn:0≤d.fmod rest.length:=Int.fmod_nonneg_of_pos d hpos
 obtain ⟨pl,hpl⟩:=Int.eq_ofNat_of_zero_le hnn
 rw [hpl] at hlt hw ⊢
 rw [Int.toNat_natCast] at hlt hw ⊢
 have hl:∀o:List MO,o[i]?=some (.list rest)→builtin .len [.ref i] o=some (.fv (.int rest.length),o):=fun o h=>len_list h (Nat.le_trans hr (by decide))
 have hbig:(rest.length:Int)<((4611686018427387904:Nat):Int):=by omega
 have am:arith .fmod d rest.length=some (pl:Int):=by
  show (if 0<(rest.length:Int) then some (d.fmod rest.length) else none)=_
  rw [if_pos hpos,hpl]
 have ad:arith .fdiv d rest.length=some (d.fdiv rest.length):=by
  show (if 0<(rest.length:Int)&&(rest.length:Int)<big then some (d.fdiv rest.length) else none)=_
  exact if_pos (by rw [decide_eq_true hpos,decide_eq_true (show (rest.length:Int)<(big:Nat) from hbig)];rfl)
 have hi1:(o.set j (.list (order++[w])))[i]?=some (.list rest):=by rw [List.getElem?_set_ne (Ne.symm hij)];exact hi
 have app:∀{o:List MO} {k:Nat} {y z:MO},o[k]?=some y→(o++[z])[k]?=some y:=fun h=>by rw [List.getElem?_append_left (List.getElem?_eq_some_iff.mp h).1];exact h
 have at_end:∀(o:List MO) (z:MO),(o++[z])[o.length]?=some z:=fun o z=>by simp
 have s1:=slice_ok (l:=.unb) (u:=.fv (.int pl)) (a:=0) (b:=min pl rest.length) hi1 rfl (bound_nat (by omega)) (Nat.zero_le _) (Nat.min_le_right ..) (Nat.le_trans hr (by decide))
 have t1:(rest.drop 0).take (min pl rest.length-0)=rest.take pl:=by rw [List.drop_zero,Nat.sub_zero,Nat.min_eq_left (Nat.le_of_lt hlt)]
 rw [t1] at s1
 have s2:=slice_ok (l:=.fv (.int ((pl+1:Nat):Int))) (u:=.unb) (a:=min (pl+1) rest.length) (b:=rest.length) (app hi1 (z:=.list (rest.take pl))) (bound_nat (by omega)) rfl (Nat.min_le_right ..) (Nat.le_refl _) (Nat.le_trans hr (by decide))
 have t2:(rest.drop (min (pl+1) rest.length)).take (rest.length-min (pl+1) rest.length)=rest.drop (pl+1):=by
  rw [Nat.min_eq_left hlt,List.take_of_length_le (by rw [List.length_drop];exact Nat.le_refl _)]
 rw [t2] at s2
 have s3:=addl_ok (xs:=rest.take pl) (ys:=rest.drop (pl+1)) (app (at_end (o.set j (MO.list (order++[w]))) (MO.list (rest.take pl))) (z:=MO.list (rest.drop (pl+1)))) (at_end (o.set j (MO.list (order++[w]))++[MO.list (rest.take pl)]) (MO.list (rest.drop (pl+1)))) (by
  rw [List.length_take,List.length_drop];exact Nat.le_trans (show _≤100 by omega) (by decide))
 have t3:rest.take pl++rest.drop (pl+1)=rest.eraseIdx pl:=(List.eraseIdx_eq_take_drop_succ ..).symm
 rw [t3] at s3
 have hlen:(o.set j (MO.list (order++[w]))++[MO.list (rest.take pl)]++[MO.list (rest.drop (pl+1))]).length=o.length+2:=by simp
 rw [hlen] at s3
 refine (exs_step (ex_asg (v:=.fv (.int pl)) (o:=o) ?c1 rfl)).trans ((exs_step (ex_asg (v:=.fv (.int (d.fdiv rest.length))) (o:=o) ?c2 rfl)).trans ((exs_step (ex_xp (v:=.fv .none) (o:=o.set j (.list (order++[w]))) ?c3)).trans ((exs_step (ex_asg (v:=.ref (o.length+2)) (o:=o.set j (.list (order++[w]))++[.list (rest.take pl)]++[.list (rest.drop (pl+1))]++[.list (rest.eraseIdx pl)]) ?c4 rfl)).trans rfl)))
 case c1=>
  show (match builtin .len [.ref i] o with|some (b,o2)=>binop .fmod (.fv (.int d)) b o2|none=>none)=_
  rw [hl o hi]
  show (arith .fmod d rest.length).map (fun c=>(MV.fv (.int c),o))=_
  rw [am];rfl
 case c2=>
  show (match builtin .len [.ref i] o with|some (b,o2)=>binop .fdiv (.fv (.int d)) b o2|none=>none)=_
  rw [hl o hi]
  show (arith .fdiv d rest.length).map (fun c=>(MV.fv (.int c),o))=_
  rw [ad];rfl
 case c3=>
  show (if (listAt o j).isSome then (match (match (nthM (.ref i) (.fv (.int pl)) o).map fun v=>(v,o) with|some (v,o1)=>some ([v],o1)|none=>none) with|some (vs,o2)=>methodM .append (.ref j) vs o2|none=>none) else none)=_
  rw [listAt_of hj,nth_list hi (by omega) hw]
  exact appendM_ok hj (Nat.lt_of_le_of_lt ho (by decide))
 case c4=>
  show (match sliceM (.ref i) .unb (.fv (.int pl)) (o.set j (.list (order++[w]))) with|some (a,o1)=>(match sliceM (.ref i) (.fv (.int ((pl:Int)+1))) .unb o1 with|some (b,o2)=>binop .add a b o2|none=>none)|none=>none)=_
  rw [s1];dsimp only
  rw [show ((pl:Int)+1)=((pl+1:Nat):Int) from rfl,s2];dsimp only
  exact s3
end
section
inductive OSh (ws:List FV):Nat→Nat→List MO→List FV→List FV→Prop
 |a:OSh ws 0 1 [.list ws,.list []] ws []
 |b {rest order:List FV} {x y z:MO}:OSh ws 5 2 [.list ws,x,.list order,y,z,.list rest] rest order
 |c {rest order:List FV} {y z:MO}:OSh ws 4 1 [.list ws,.list order,y,z,.list rest] rest order
theorem OSh.at {ws rest order:List FV} {i j:Nat} {o:List MO} (h:OSh ws i j o rest order):o[0]?=some (.list ws)∧o[i]?=some (.list rest)∧o[j]?=some (.list order)∧j<o.length:=by
 cases h<;>exact ⟨rfl,rfl,rfl,by simp⟩
theorem OSh.gc {ws rest order:List FV} {i j:Nat} {o:List MO} (h:OSh ws i j o rest order) (d:Int) (x:MV) (hx:x=.unb∨∃p,x=.fv (.int p)):
  ∃i' j' o',MS.gc ⟨[.ref 0,.fv (.int d),.ref i,.ref j,x,.unb],[],o++[.list []],1⟩=⟨[.ref 0,.fv (.int d),.ref i',.ref j',x,.unb],[],o',1⟩∧o'[i']?=some (.list rest)∧o'[j']?=some (.list order)∧i'≠j'∧
   ∀(w:FV) (p q:MO) (r:List FV),OSh ws (o'.length+2) j' (o'.set j' (.list (order++[w]))++[p]++[q]++[.list r]) r (order++[w]):=by
 cases h with
 |a=>rcases hx with rfl|⟨p,rfl⟩<;>exact ⟨0,1,[.list ws,.list []],rfl,rfl,rfl,by decide,fun w p q r=>.c⟩
 |b=>rcases hx with rfl|⟨p,rfl⟩<;>exact ⟨1,2,[.list ws,.list rest,.list order],rfl,rfl,rfl,by decide,fun w p q r=>.b⟩
 |c=>rcases hx with rfl|⟨p,rfl⟩<;>exact ⟨1,2,[.list ws,.list rest,.list order],rfl,rfl,rfl,by decide,fun w p q r=>.b⟩
theorem order_test (T:Tbl) {ws rest order:List FV} {i j:Nat} {o:List MO} (h:OSh ws i j o rest order) (hs:rest.all FV.isStr=true) (d:Int) (x:MV):
  (evT T (bFlaworder.at 2).test (ev T (bFlaworder.at 2).test [.ref 0,.fv (.int d),.ref i,.ref j,x,.unb] o) [.ref 0,.fv (.int d),.ref i,.ref j,x,.unb] o).map (fun p=>(p.1,(⟨[.ref 0,.fv (.int d),.ref i,.ref j,x,.unb],[],p.2,1⟩:MS)))=
   some (!rest.isEmpty,⟨[.ref 0,.fv (.int d),.ref i,.ref j,x,.unb],[],o++[.list []],1⟩):=by
 obtain ⟨_,hi,_,_⟩:=h.at
 have h1:listAt (o++[MO.list []]) i=some rest:=listAt_of (by rw [List.getElem?_append_left (List.getElem?_eq_some_iff.mp hi).1];exact hi)
 have h2:listAt (o++[MO.list []]) o.length=some []:=listAt_of (by simp)
 have hk:sameKind rest []=true:=by unfold sameKind;rw [hs];simp
 have hc:cmpop .ne (.ref i) (.ref o.length) (o++[.list []])=some (!rest.isEmpty):=by
  exact (ne_two h1 h2 hk).trans (by cases rest<;>rfl)
 show (match (cmpop .ne (.ref i) (.ref o.length) (o++[MO.list []])).map (fun c=>(MV.fv (.bool c),o++[MO.list []])) with|some (v,o1)=>(truthyM v o1).map fun b=>(b,o1)|none=>none).map _=_
 rw [hc];rfl
noncomputable def orderB:Ss:=match (bFlaworder.at 2).body with|.gc r=>r|r=>r
theorem exs_gc {T:Tbl} {r:Ss} {s:MS}:exs T (.gc r) s=exs T r s.gc:=rfl
theorem orderB_is:(bFlaworder.at 2).body=.gc orderB:=rfl
theorem order_loop (T:Tbl) (ws:List FV):∀(f:Nat) (rest order:List FV) (d:Int) (i j:Nat) (o:List MO) (x:MV),OSh ws i j o rest order→(x=.unb∨∃p,x=.fv (.int p))→rest.all FV.isStr=true→rest.length≤f→order.length+rest.length≤100→
  ∃(i' j':Nat) (o':List MO) (x':MV) (d':Int),
   whileTurns (fun s=>(evT T (bFlaworder.at 2).test (ev T (bFlaworder.at 2).test s.vars s.objs) s.vars s.objs).map fun p=>(p.1,{s with objs:=p.2})) (fun s=>exs T (bFlaworder.at 2).body s) (f+1) ⟨[.ref 0,.fv (.int d),.ref i,.ref j,x,.unb],[],o,1⟩=
    some (.next,⟨[.ref 0,.fv (.int d'),.ref i',.ref j',x',.unb],[],o',1⟩)∧o'[0]?=some (.list ws)∧o'[j']?=some (.list (order++leh rest.length rest d))∧1≤j'
 |f,[],order,d,i,j,o,x,h,hx,hs,hf,hl=>by
  obtain ⟨h0,hi,hj,hlt⟩:=h.at
  have hj1:1≤j:=by cases h<;>decide
  have ht:=order_test T h hs d x
  rw [show (!([]:List FV).isEmpty)=false from rfl] at ht
  refine ⟨i,j,o++[.list []],x,d,while_stop ht,?_,?_,hj1⟩
  ·rw [List.getElem?_append_left (by omega)];exact h0
  ·rw [List.getElem?_append_left hlt,hj];simp [leh]
 |0,y::r,order,d,i,j,o,x,h,hx,hs,hf,hl=>by simp at hf
 |f+1,y::r,order,d,i,j,o,x,h,hx,hs,hf,hl=>by
  obtain ⟨i1,j1,o1,hg,h1,h2,h3,h4⟩:=h.gc d x hx
  have hpos:(0:Int)<((y::r).length:Int):=by rw [List.length_cons];omega
  have ht:=order_test T h hs d x
  rw [show (!(y::r).isEmpty)=true from rfl] at ht
  have hnn:=Int.fmod_nonneg_of_pos d hpos
  have hlt:=Int.fmod_lt_of_pos d hpos
  have hlt2:(d.fmod (y::r).length).toNat<(y::r).length:=by omega
  have hw:(y::r)[(d.fmod (y::r).length).toNat]?=some (y::r)[(d.fmod (y::r).length).toNat]:=List.getElem?_eq_getElem hlt2
  have hls:(y::r).length≤100:=by omega
  have tn:=order_turn T (y::r) order _ d i1 j1 o1 x [] 1 h1 h2 h3 hls (by omega) hw
  have hel:((y::r).eraseIdx (d.fmod (y::r).length).toNat).length=r.length:=by rw [List.length_eraseIdx,if_pos hlt2];simp
  obtain ⟨i',j',o',x',d',e,q1,q2,q3⟩:=order_loop T ws f ((y::r).eraseIdx (d.fmod (y::r).length).toNat) (order++[(y::r)[(d.fmod (y::r).length).toNat]]) (d.fdiv (y::r).length) _ _ _ (.fv (.int (d.fmod (y::r).length))) (h4 _ _ _ _) (.inr ⟨_,rfl⟩)
   (by rw [List.all_eq_true] at hs ⊢;exact fun z hz=>hs z (List.mem_of_mem_eraseIdx hz)) (by rw [hel];simp at hf;omega) (by rw [hel];simp at hl ⊢;omega)
  refine ⟨i',j',o',x',d',?_,q1,?_,q3⟩
  ·refine (while_go (s':=⟨[.ref 0,.fv (.int d),.ref i,.ref j,x,.unb],[],o++[.list []],1⟩) ht ?_).trans e
   rw [orderB_is,exs_gc,hg];exact tn
  ·rw [q2,hel]
   have hc:leh (r.length+1) (y::r) d=(y::r)[(d.fmod (y::r).length).toNat]::leh r.length ((y::r).eraseIdx (d.fmod (y::r).length).toNat) (d.fdiv (y::r).length):=by
    conv=>lhs;unfold leh
    rw [hw]
   exact congrArg (fun l=>some (MO.list l)) (by rw [List.append_assoc];exact congrArg (order++ ·) hc.symm)
theorem T2 (k:Nat) (ws:List FV) (d:Int) (hs:ws.all FV.isStr=true) (hl:ws.length≤60):∃(j:Nat) (oc:List MO),tblN (k+1) 2 [.ref 0,.fv (.int d)] [.list ws]=some (.ref j,oc)∧1≤j∧oc[0]?=some (.list ws)∧oc[j]?=some (.list (leh ws.length ws d)):=by
 obtain ⟨i',j',o',x',d',e,h0,hj,h1⟩:=order_loop (tblN k) ws 63 ws [] d 0 1 [.list ws,.list []] .unb .a (.inl rfl) hs (by omega) (by simp;omega)
 refine ⟨j',o',?_,h1,h0,by simpa using hj⟩
 show runBody (tblN k) bFlaworder [.ref 0,.fv (.int d),.unb,.unb,.unb,.unb] [.list ws]=_
 refine runBody_ret (s:=⟨[.ref 0,.fv (.int d'),.ref i',.ref j',x',.unb],[],o',1⟩) ?_
 refine (exs_step (s':=⟨[.ref 0,.fv (.int d),.ref 0,.unb,.unb,.unb],[],[.list ws],1⟩) rfl).trans ((exs_step (s':=⟨[.ref 0,.fv (.int d),.ref 0,.ref 1,.unb,.unb],[],[.list ws,.list []],1⟩) rfl).trans ((exs_step (s':=⟨[.ref 0,.fv (.int d'),.ref i',.ref j',x',.unb],[],o',1⟩) ?w).trans (exs_ret (ex_ret rfl))))
 case w=>exact e
end
section
section
variable {T:Tbl} {vars:List MV} {o o1 o2 o3:List MO} {a b c v:MV} {vs ws:List MV}
theorem ev_bin {l r:X} {op:BO} {p:Pos} (h1:ev T l vars o=some (a,o1)) (h2:ev T r vars o1=some (b,o2)):ev T (.bin l op r p) vars o=binop op a b o2:=by
 show (match ev T l vars o with|some (a,o1)=>(match ev T r vars o1 with|some (b,o2)=>binop op a b o2|none=>none)|none=>none)=_
 rw [h1];dsimp only;rw [h2]
theorem ev_cmp {l r:X} {op:CO} {p:Pos} {q:Bool} (h1:ev T l vars o=some (a,o1)) (h2:ev T r vars o1=some (b,o2)) (h3:cmpop op a b o2=some q):ev T (.cmp l op r p) vars o=some (.fv (.bool q),o2):=by
 show (match ev T l vars o with|some (a,o1)=>(match ev T r vars o1 with|some (b,o2)=>(cmpop op a b o2).map fun c=>(MV.fv (.bool c),o2)|none=>none)|none=>none)=_
 rw [h1];dsimp only;rw [h2];dsimp only;rw [h3];rfl
theorem evT_cmp {l r:X} {op:CO} {p:Pos} {q:Bool} (h:ev T (.cmp l op r p) vars o=some (.fv (.bool q),o1)):evT T (.cmp l op r p) (ev T (.cmp l op r p) vars o) vars o=some (q,o1):=by
 rw [h];rfl
theorem ev_fn {f:Nat} {xs:Xs} {pn p:Pos} (h:evs T xs vars o=some (vs,o1)):ev T (.fn f xs pn p) vars o=callM T f vs o1:=by
 show (match evs T xs vars o with|some (vs,o1)=>callM T f vs o1|none=>none)=_
 rw [h]
theorem ev_bi {f:BI} {xs:Xs} {pn pm pk p:Pos} (h:evs T xs vars o=some (vs,o1)):ev T (.bi f xs pn pm pk p) vars o=builtin f vs o1:=by
 show (match evs T xs vars o with|some (vs,o1)=>builtin f vs o1|none=>none)=_
 rw [h]
theorem ev_me {x:X} {m:ME} {xs:Xs} {pa p:Pos} (h1:ev T x vars o=some (a,o1)) (hr:recvOk m a o1=true) (h2:evs T xs vars o1=some (vs,o2)):ev T (.me x m xs pa p) vars o=methodM m a vs o2:=by
 show (match ev T x vars o with|some (v,o1)=>if recvOk m v o1 then (match evs T xs vars o1 with|some (vs,o2)=>methodM m v vs o2|none=>none) else none|none=>none)=_
 rw [h1];dsimp only;rw [hr,h2];rfl
theorem ev_sub {x i:X} {p:Pos} {r:MV} (h1:ev T x vars o=some (a,o1)) (h2:ev T i vars o1=some (b,o2)) (h3:nthM a b o2=some r):ev T (.sub x i p) vars o=some (r,o2):=by
 show (match ev T x vars o with|some (a,o1)=>(match ev T i vars o1 with|some (b,o2)=>(nthM a b o2).map fun v=>(v,o2)|none=>none)|none=>none)=_
 rw [h1];dsimp only;rw [h2];dsimp only;rw [h3];rfl
theorem ev_hm {x:X} {m i k:Nat} {xs kw:Xs} {pa pk p:Pos} (h1:ev T x vars o=some (.ref i,o1)) (hh:o1[i]?=some (.hdr k)) (h2:evs T xs vars o1=some (vs,o2)) (h3:evs T kw vars o2=some (ws,o3)):ev T (.hm x m xs kw pa pk p) vars o=callM T (100+m) (.ref i::(vs++ws)) o3:=by
 show (match ev T x vars o with|some (.ref i,o1)=>(match o1[i]? with|some (.hdr _)=>(match evs T xs vars o1 with|some (vs,o2)=>(match evs T kw vars o2 with|some (ks,o3)=>callM T (100+m) (.ref i::(vs++ks)) o3|none=>none)|none=>none)|_=>none)|_=>none)=_
 rw [h1];dsimp only;rw [hh];dsimp only;rw [h2];dsimp only;rw [h3]
theorem evs_nil:evs T .nil vars o=some ([],o):=rfl
theorem evs_cons {x:X} {xs:Xs} (h1:ev T x vars o=some (v,o1)) (h2:evs T xs vars o1=some (vs,o2)):evs T (.cons x xs) vars o=some (v::vs,o2):=by
 show (match ev T x vars o with|some (v,o1)=>(match evs T xs vars o1 with|some (vs,o2)=>some (v::vs,o2)|none=>none)|none=>none)=_
 rw [h1];dsimp only;rw [h2]
theorem evs_1 {x:X} (h1:ev T x vars o=some (v,o1)):evs T (.cons x .nil) vars o=some ([v],o1):=evs_cons h1 rfl
theorem ev_var {i:Nat} {p:Pos} (h:vars[i]?=some v) (hu:v≠.unb):ev T (.var i p) vars o=some (v,o):=by
 show (match vars[i]? with|some .unb=>none|some v=>some (v,o)|none=>none)=_
 rw [h];cases v<;>first|rfl|exact absurd rfl hu
theorem callM_0 {f:Nat} {xs:List FV} {oc:List MO} {y:FV} (h:T f (xs.map .fv) []=some (.fv y,oc)) (hb:backFrom [] oc 0 o=some o):callM T f (xs.map .fv) o=some (.fv y,o):=by
 have h1:rootsOf (xs.map MV.fv) o=[]:=by
  unfold rootsOf
  have:(xs.map MV.fv).flatMap (refsOf o)=[]:=by
   induction xs with
   |nil=>rfl
   |cons x r ih=>simp [refsOf]
  rw [this];rfl
 have h2:(xs.map MV.fv).map (renum [])=xs.map .fv:=by
  rw [List.map_map];rfl
 unfold callM
 rw [h1]
 show (match T f ((xs.map MV.fv).map (renum [])) [] with|some (v,oc)=>comeBack [] v oc o|none=>none)=_
 rw [h2,h]
 show (match backFrom [] oc 0 o with|some os=>some (MV.fv y,os)|none=>none)=_
 rw [hb]
theorem back_nil {oc:List MO}:∀(o:List MO) (i:Nat),backFrom [] oc i o=some o
 |[],i=>rfl
 |x::r,i=>by
  show (match (some x:Option MO) with|some o'=>(match backFrom [] oc (i+1) r with|some r'=>some (o'::r')|none=>none)|none=>none)=_
  rw [back_nil r (i+1)]
theorem callM_fv {f:Nat} (xs:List FV) {oc:List MO} {y:FV} (h:T f (xs.map .fv) []=some (.fv y,oc)):callM T f (xs.map .fv) o=some (.fv y,o):=callM_0 h (back_nil o 0)
end
end
end Mine
end
section
open PySem
namespace Mine
section
noncomputable def six:List (List Nat):=[[],[92,41],[92,92],[34,92,34,40,34],[92,34],[34]]
noncomputable def pieceAt (a b place:Nat):List Nat:=if place=a then six.getD b [] else []
noncomputable def markAt (one two place:Nat):List Nat:=if place=one||place=two then [40] else [41]
noncomputable def mid (a b one two:Nat) (l:List Nat):List Nat:=l.flatMap fun place=>pieceAt a b place++markAt one two place
noncomputable def txt (p ah a b one two:Nat):List Nat:=List.replicate ah 40++mid a b one two (List.range p)++List.replicate (ah+4-p) 41
noncomputable def closesB (ah one two:Nat):Bool:=decide (one≤ah)&&decide (two≤ah+2)
noncomputable def chk1 (p ah a b one two:Nat):Bool:=decide (tblN 8 12 [.fv (.str (txt p ah a b one two))] []=some (.fv (.bool (closesB ah one two)),[]))&&(!closesB ah one two||decide (tblN 8 12 [.fv (.str (txt p ah a b one two++[40]))] []=some (.fv (.bool false),[])))
noncomputable def chkAll (p ah:Nat):Bool:=(List.range p).all fun a=>(List.range 6).all fun b=>(List.range p).all fun two=>(List.range two).all fun one=>chk1 p ah a b one two
set_option maxRecDepth 100000
theorem chk41:chkAll 4 1=true:=by decide+kernel
theorem chk42:chkAll 4 2=true:=by decide+kernel
theorem chk51:chkAll 5 1=true:=by decide+kernel
theorem chk_of {p ah:Nat} (h:chkAll p ah=true) {a b one two:Nat} (h1:a<p) (h2:b<6) (h3:two<p) (h4:one<two):
  tblN 8 12 [.fv (.str (txt p ah a b one two))] []=some (.fv (.bool (closesB ah one two)),[])∧(closesB ah one two=true→tblN 8 12 [.fv (.str (txt p ah a b one two++[40]))] []=some (.fv (.bool false),[])):=by
 have:=List.all_eq_true.mp (List.all_eq_true.mp (List.all_eq_true.mp (List.all_eq_true.mp h a (List.mem_range.mpr h1)) b (List.mem_range.mpr h2)) two (List.mem_range.mpr h3)) one (List.mem_range.mpr h4)
 unfold chk1 at this
 simp only [Bool.and_eq_true,decide_eq_true_eq,Bool.or_eq_true,Bool.not_eq_true'] at this
 refine ⟨this.1,fun hc=>this.2.resolve_left fun q=>?_⟩
 rw [hc] at q;cases q
end
end Mine
end
section
set_option maxRecDepth 4000
open PySem
namespace Mine
section
noncomputable def RV (p ah:Nat) (d:Int) (two one:MV) (t:MV) (x cl:MV):List MV:=[.fv (.int p),.fv (.int ah),.fv (.int d),.ref 0,two,one,t,x,cl,.unb,.unb]
noncomputable def rowsFor2:S:=(bFlawrows.at 1)
noncomputable def rowsB2:Ss:=match rowsFor2.body with|.gc r=>r|r=>r
noncomputable def rowsFor1:S:=rowsB2.at 0
noncomputable def rowsB1:Ss:=match rowsFor1.body with|.gc r=>r|r=>r
noncomputable def rowsFor0:S:=rowsB1.at 1
noncomputable def rowsB0:Ss:=match rowsFor0.body with|.gc r=>r|r=>r
theorem rows_gc {p ah:Nat} {d:Int} {two one t x cl:MV} {rows:List FV} {junk:List MO} {its:List MV} (h2:okc two) (h1:okc one) (ht:okc t) (hx:okc x) (hc:okc cl) (hi:∀v∈its,∃a b c,v=.rng a b c):
  MS.gc ⟨RV p ah d two one t x cl,its,.list rows::junk,0⟩=⟨RV p ah d two one t x cl,its,[.list rows],0⟩:=by
 have hits:its.flatMap (refsOf (.list rows::junk))=[]:=by
  induction its with
  |nil=>rfl
  |cons v r ih=>
   obtain ⟨a,b,c,rfl⟩:=hi v (.head _)
   rw [List.flatMap_cons,ih fun v hv=>hi v (.tail _ hv)];rfl
 have hmap:its.map (renum [0])=its:=by
  clear hits
  induction its with
  |nil=>rfl
  |cons v r ih=>
   obtain ⟨a,b,c,rfl⟩:=hi v (.head _)
   rw [List.map_cons,ih fun v hv=>hi v (.tail _ hv)];rfl
 have hro:rootsOf (RV p ah d two one t x cl++its) (.list rows::junk)=[0]:=by
  unfold rootsOf
  rw [List.flatMap_append,hits,List.append_nil]
  rcases h2 with ⟨_,rfl⟩|rfl<;>rcases h1 with ⟨_,rfl⟩|rfl<;>rcases ht with ⟨_,rfl⟩|rfl<;>rcases hx with ⟨_,rfl⟩|rfl<;>rcases hc with ⟨_,rfl⟩|rfl<;>rfl
 have hre:(RV p ah d two one t x cl).map (renum [0])=RV p ah d two one t x cl:=by
  rcases h2 with ⟨_,rfl⟩|rfl<;>rcases h1 with ⟨_,rfl⟩|rfl<;>rcases ht with ⟨_,rfl⟩|rfl<;>rcases hx with ⟨_,rfl⟩|rfl<;>rcases hc with ⟨_,rfl⟩|rfl<;>rfl
 unfold MS.gc
 simp only [hro]
 rw [if_pos (by rfl),hre,hmap];rfl
theorem mod_ok {d:Int} {p a:Nat} (h:d.fmod p=(a:Int)) (hp:0<p):arith .fmod d p=some (a:Int):=by
 show (if 0<(p:Int) then some (d.fmod p) else none)=_
 rw [if_pos (by omega),h]
theorem six_at (b:Nat) (hb:b<6):(six.map FV.str)[b]?=some (.str (six.getD b [])):=by
 have:∀b,b<6→(six.map FV.str)[b]?=some (.str (six.getD b [])):=by decide
 exact this b hb
theorem six_len (b:Nat):(six.getD b []).length≤5:=by
 rcases Nat.lt_or_ge b 6 with h|h
 ·have:∀b,b<6→(six.getD b []).length≤5:=by decide
  exact this b h
 ·rw [List.getD_eq_getElem?_getD,List.getElem?_eq_none (by simpa [six] using h)];simp
theorem ex_aug {T:Tbl} {s:MS} {i:Nat} {op:BO} {e:X} {p q:Pos} {a b:FV} {c:MV} {o1 o2:List MO} (h0:s.vars[i]?=some (.fv a)) (h1:ev T e s.vars s.objs=some (.fv b,o1)) (h2:binop op (.fv a) (.fv b) o1=some (c,o2)):ex T (.aug i op e p q) s=some (.next,⟨s.vars.set i c,s.its,o2,s.n⟩):=by
 show (match s.vars[i]? with|some (.fv a)=>(match ev T e s.vars s.objs with|some (.fv b,o1)=>(match binop op (.fv a) (.fv b) o1 with|some (c,o2)=>some (Fl.next,{s with vars:=s.vars.set i c,objs:=o2})|none=>none)|_=>none)|_=>none)=_
 rw [h0];dsimp only;rw [h1];dsimp only;rw [h2]
theorem ev_ite {T:Tbl} {vars:List MV} {o o1:List MO} {t b e:X} {p:Pos} {q:Bool} (h:evT T t (ev T t vars o) vars o=some (q,o1)):ev T (.ite t b e p) vars o=ev T (if q then b else e) vars o1:=by
 show (match evT T t (ev T t vars o) vars o with|some (true,o1)=>ev T b vars o1|some (false,o1)=>ev T e vars o1|none=>none)=_
 rw [h];cases q<;>rfl
theorem add_str {a b:List Nat} {o:List MO} (h:a.length+b.length≤lim):binop .add (.fv (.str a)) (.fv (.str b)) o=some (.fv (.str (a++b)),o):=if_pos h
theorem eq_nat {a b:Nat} {o:List MO}:cmpop .eq (.fv (.int a)) (.fv (.int b)) o=some (decide (a=b)):=by
 show some ((a:Int)==(b:Int))=_
 by_cases h:a=b
 ·subst h;simp
 ·rw [decide_eq_false h];simp;omega
theorem place_turn (T:Tbl) (p ah a b two one place:Nat) (d:Int) (t:List Nat) (x cl:MV) (rows:List FV) (junk:List MO) (its:List MV) (ha:d.fmod p=(a:Int)) (hb:(d.fdiv p).fmod 6=(b:Int)) (hp:0<p) (hp2:p<1000) (hb6:b<6) (htl:t.length≤1000)
  (hx:okc x) (hc:okc cl) (hi:∀v∈its,∃a b c,v=.rng a b c):
  ∃junk',forStep T 7 rowsFor0.body (.int place) ⟨RV p ah d (.fv (.int two)) (.fv (.int one)) (.fv (.str t)) x cl,its,.list rows::junk,0⟩=
   some (.next,⟨RV p ah d (.fv (.int two)) (.fv (.int one)) (.fv (.str (t++(pieceAt a b place++markAt one two place)))) (.fv (.int place)) cl,its,.list rows::junk',0⟩):=by
 have hg:=rows_gc (p:=p) (ah:=ah) (d:=d) (two:=.fv (.int two)) (one:=.fv (.int one)) (t:=.fv (.str t)) (x:=.fv (.int place)) (cl:=cl) (rows:=rows) (junk:=junk) (its:=its) (.inl ⟨_,rfl⟩) (.inl ⟨_,rfl⟩) (.inl ⟨_,rfl⟩) (.inl ⟨_,rfl⟩) hc hi
 have hbody:rowsFor0.body=.gc rowsB0:=rfl
 have e0:forStep T 7 rowsFor0.body (.int place) ⟨RV p ah d (.fv (.int two)) (.fv (.int one)) (.fv (.str t)) x cl,its,.list rows::junk,0⟩=exs T rowsB0 ⟨RV p ah d (.fv (.int two)) (.fv (.int one)) (.fv (.str t)) (.fv (.int place)) cl,its,[.list rows],0⟩:=by
  rw [←hg,←exs_gc,←hbody];rfl
 rw [e0]
 have mid1:∃o1,ex T (rowsB0.at 0) ⟨RV p ah d (.fv (.int two)) (.fv (.int one)) (.fv (.str t)) (.fv (.int place)) cl,its,[.list rows],0⟩=some (.next,⟨RV p ah d (.fv (.int two)) (.fv (.int one)) (.fv (.str (t++pieceAt a b place))) (.fv (.int place)) cl,its,.list rows::o1,0⟩):=by
  have hm:=mod_ok ha hp
  have ht:∀q1 q2 q3 q4 q5,evT T (.cmp (.var 7 q1) .eq (.bin (.var 2 q2) .fmod (.var 0 q3) q4) q5) (ev T (.cmp (.var 7 q1) .eq (.bin (.var 2 q2) .fmod (.var 0 q3) q4) q5) (RV p ah d (.fv (.int two)) (.fv (.int one)) (.fv (.str t)) (.fv (.int place)) cl) [.list rows]) (RV p ah d (.fv (.int two)) (.fv (.int one)) (.fv (.str t)) (.fv (.int place)) cl) [.list rows]=some (decide (place=a),[.list rows]):=by
   intro q1 q2 q3 q4 q5
   refine evT_cmp (ev_cmp (a:=.fv (.int place)) (b:=.fv (.int a)) (o2:=[.list rows]) rfl ?_ eq_nat)
   refine (ev_bin (a:=.fv (.int d)) (b:=.fv (.int p)) (o2:=[.list rows]) rfl rfl).trans ?_
   show (arith .fmod d p).map (fun c=>(MV.fv (.int c),[MO.list rows]))=_
   rw [hm];rfl
  by_cases h:place=a
  ·refine ⟨[.list (six.map .str)],?_⟩
   have hd2:arith .fdiv d p=some (d.fdiv p):=by
    show (if 0<(p:Int)&&(p:Int)<big then some (d.fdiv p) else none)=_
    have hbig:(p:Int)<((4611686018427387904:Nat):Int):=by omega
    exact if_pos (by rw [decide_eq_true (show (0:Int)<p by omega),decide_eq_true (show (p:Int)<(big:Nat) from hbig)];rfl)
   have hm6:arith .fmod (d.fdiv p) 6=some (b:Int):=mod_ok (p:=6) hb (by decide)
   refine (ex_iff (b:=true) (o:=[.list rows]) ((ht ..).trans (by rw [decide_eq_true h]))).trans ?_
   refine (exs_step (ex_aug (a:=.str t) (b:=.str (six.getD b [])) (c:=.fv (.str (t++six.getD b []))) (o1:=[.list rows,.list (six.map .str)]) (o2:=[.list rows,.list (six.map .str)]) rfl ?_ ?_)).trans ?_
   ·refine ev_sub (a:=.ref 1) (b:=.fv (.int b)) (o1:=[.list rows,.list (six.map .str)]) rfl ?_ (nth_list (xs:=six.map .str) rfl (by omega) (six_at b hb6))
    refine (ev_bin (a:=.fv (.int (d.fdiv p))) (b:=.fv (.int 6)) (o1:=[.list rows,.list (six.map .str)]) (o2:=[.list rows,.list (six.map .str)]) ?_ rfl).trans ?_
    ·refine (ev_bin (a:=.fv (.int d)) (b:=.fv (.int p)) (o2:=[.list rows,.list (six.map .str)]) rfl rfl).trans ?_
     show (arith .fdiv d p).map (fun c=>(MV.fv (.int c),[MO.list rows,.list (six.map .str)]))=_
     rw [hd2];rfl
    ·show (arith .fmod (d.fdiv p) 6).map (fun c=>(MV.fv (.int c),[MO.list rows,.list (six.map .str)]))=_
     rw [hm6];rfl
   ·exact add_str (by have:=six_len b;unfold lim;omega)
   ·unfold pieceAt;rw [if_pos h];rfl
  ·refine ⟨[],?_⟩
   refine (ex_iff (b:=false) (o:=[.list rows]) ((ht ..).trans (by rw [decide_eq_false h]))).trans ?_
   unfold pieceAt;rw [if_neg h,List.append_nil];rfl
 obtain ⟨o1,m1⟩:=mid1
 refine ⟨o1,(exs_step m1).trans ((exs_step (s':=⟨RV p ah d (.fv (.int two)) (.fv (.int one)) (.fv (.str (t++(pieceAt a b place++markAt one two place)))) (.fv (.int place)) cl,its,.list rows::o1,0⟩) ?_).trans rfl)⟩
 have hpl:(pieceAt a b place).length≤5:=by
  unfold pieceAt
  split
  ·exact six_len b
  ·simp
 have hin:∀o,cmpop .inn (.fv (.int place)) (.fv (.pair (.int one) (.int two))) o=some (decide (place=one)||decide (place=two)):=fun o=>by
  show some (((place:Int)==(one:Int))||((place:Int)==(two:Int)))=_
  have q:∀a b:Nat,((a:Int)==(b:Int))=decide (a=b):=fun a b=>by
   by_cases h:a=b
   ·subst h;simp
   ·rw [decide_eq_false h];simp;omega
  rw [q,q]
 rw [←List.append_assoc]
 refine ex_aug (a:=.str (t++pieceAt a b place)) (b:=.str (markAt one two place)) (c:=.fv (.str (t++pieceAt a b place++markAt one two place))) (o1:=.list rows::o1) rfl ?_ (add_str ?_)
 ·have hev:∀q1 q2 q3 q4 q5,evT T (.cmp (.var 7 q1) .inn (.tup (.var 5 q2) (.var 4 q3) q4) q5) (ev T (.cmp (.var 7 q1) .inn (.tup (.var 5 q2) (.var 4 q3) q4) q5) (RV p ah d (.fv (.int two)) (.fv (.int one)) (.fv (.str (t++pieceAt a b place))) (.fv (.int place)) cl) (.list rows::o1)) (RV p ah d (.fv (.int two)) (.fv (.int one)) (.fv (.str (t++pieceAt a b place))) (.fv (.int place)) cl) (.list rows::o1)=some (decide (place=one)||decide (place=two),.list rows::o1):=fun q1 q2 q3 q4 q5=>
   evT_cmp (ev_cmp (a:=.fv (.int place)) (b:=.fv (.pair (.int one) (.int two))) (o2:=.list rows::o1) rfl rfl (hin _))
  refine (ev_ite (hev ..)).trans ?_
  unfold markAt
  cases (decide (place=one)||decide (place=two))<;>rfl
 ·rw [List.length_append]
  have:(markAt one two place).length=1:=by unfold markAt;split<;>rfl
  unfold lim;omega
end
section
noncomputable def allRng (its:List MV):Prop:=∀v∈its,∃a b c,v=.rng a b c
theorem orig_rng {its:List MV} (h:allRng its) (o:List MO):origOf (its.headD .unb) o=none:=by
 cases its with
 |nil=>rfl
 |cons v r=>obtain ⟨a,b,c,rfl⟩:=h v (.head _);rfl
theorem piece_len (a b one two place:Nat):(pieceAt a b place++markAt one two place).length≤6:=by
 rw [List.length_append]
 have h1:(pieceAt a b place).length≤5:=by unfold pieceAt;split;exact six_len b;simp
 have h2:(markAt one two place).length=1:=by unfold markAt;split<;>rfl
 omega
theorem place_loop (T:Tbl) (p ah a b two one:Nat) (d:Int) (cl:MV) (rows:List FV) (its:List MV) (ha:d.fmod p=(a:Int)) (hb:(d.fdiv p).fmod 6=(b:Int)) (hp:0<p) (hp2:p<1000) (hb6:b<6) (hc:okc cl) (hi:allRng its):
  ∀(n j:Nat) (t:List Nat) (x:MV) (junk:List MO),t.length+6*n≤1000→okc x→∃(x':MV) (junk':List MO),okc x'∧turns (forStep T 7 rowsFor0.body) none (rngFrom 1 n (j:Int)) ⟨RV p ah d (.fv (.int two)) (.fv (.int one)) (.fv (.str t)) x cl,its,.list rows::junk,0⟩=
   some (none,⟨RV p ah d (.fv (.int two)) (.fv (.int one)) (.fv (.str (t++mid a b one two (List.range' j n)))) x' cl,its,.list rows::junk',0⟩)
 |0,j,t,x,junk,hl,hx=>⟨x,junk,hx,by
  rw [show mid a b one two (List.range' j 0)=[] from rfl,List.append_nil]
  exact turns_nil (orig_rng hi _)⟩
 |n+1,j,t,x,junk,hl,hx=>by
  obtain ⟨junk1,e1⟩:=place_turn T p ah a b two one j d t x cl rows junk its ha hb hp hp2 hb6 (by omega) hx hc hi
  have hpl:=piece_len a b one two j
  obtain ⟨x2,junk2,hx2,e2⟩:=place_loop T p ah a b two one d cl rows its ha hb hp hp2 hb6 hc hi n (j+1) (t++(pieceAt a b j++markAt one two j)) (.fv (.int j)) junk1 (by rw [List.length_append];omega) (.inl ⟨_,rfl⟩)
  refine ⟨x2,junk2,hx2,?_⟩
  have hm:mid a b one two (List.range' j (n+1))=(pieceAt a b j++markAt one two j)++mid a b one two (List.range' (j+1) n):=by
   rw [List.range'_succ];rfl
  rw [hm,←List.append_assoc t]
  exact (turns_next (s:=⟨RV p ah d (.fv (.int two)) (.fv (.int one)) (.fv (.str t)) x cl,its,.list rows::junk,0⟩) (orig_rng hi _) e1).trans e2
end
section
theorem rep_flat (n c:Nat):(List.replicate n [c]).flatten=List.replicate n c:=by
 induction n with
 |zero=>rfl
 |succ n ih=>rw [List.replicate_succ,List.replicate_succ,List.flatten_cons,ih];rfl
theorem mul_str {c n:Nat} {o:List MO} (h:n≤1000):binop .mul (.fv (.str [c])) (.fv (.int n)) o=some (.fv (.str (List.replicate n c)),o):=by
 rw [mul_int (by simp only [Bool.and_eq_true,decide_eq_true_eq];exact ⟨⟨Int.natCast_nonneg n,by omega⟩,by simp⟩),Int.toNat_natCast,rep_flat]
theorem range_ok (n:Nat) (o:List MO) (h:n≤1000):builtin .range [.fv (.int n)] o=some (.rng 0 n 1,o):=by
 exact if_pos (by rw [Int.natAbs_natCast];exact Nat.lt_of_le_of_lt h (by decide))
theorem src_rng (n:Nat) (o:List MO) (h:n≤1000):srcItems (.rng 0 n 1) o=some (rngFrom 1 n ((0:Nat):Int)):=by
 show (if (1:Int)=1&&(0:Int).natAbs<big&&(n:Int).natAbs<big then some (rngItems 0 n 1) else none)=_
 rw [if_pos (by simp only [Bool.and_eq_true,decide_eq_true_eq];exact ⟨⟨trivial,by decide⟩,by rw [Int.natAbs_natCast];exact Nat.lt_of_le_of_lt h (by decide)⟩),rng_items]
theorem le_nat {a b:Nat} {o:List MO}:cmpop .le (.fv (.int a)) (.fv (.int b)) o=some (decide (a≤b)):=by
 show some (decide ((a:Int)≤(b:Int)))=_
 by_cases h:a≤b
 ·rw [decide_eq_true h,decide_eq_true (by omega)]
 ·rw [decide_eq_false h,decide_eq_false (by omega)]
theorem row_text (T:Tbl) (p ah a b two one:Nat) (d:Int) (t x cl:MV) (rows:List FV) (its:List MV) (ha:d.fmod p=(a:Int)) (hb:(d.fdiv p).fmod 6=(b:Int)) (hp:0<p) (hp5:p≤5) (hah:ah≤5) (hpa:p≤ah+4) (hb6:b<6) (hx:okc x) (hc:okc cl) (hi:allRng its) (r:Ss):
  ∃x' junk,okc x'∧exs T (.cons (rowsB1.at 0) (.cons (rowsB1.at 1) (.cons (rowsB1.at 2) r))) ⟨RV p ah d (.fv (.int two)) (.fv (.int one)) t x cl,its,[.list rows],0⟩=
   exs T r ⟨RV p ah d (.fv (.int two)) (.fv (.int one)) (.fv (.str (txt p ah a b one two))) x' cl,its,.list rows::junk,0⟩:=by
 have hi2:allRng (.rng 0 p 1::its):=fun v hv=>by
  rcases List.mem_cons.mp hv with rfl|h
  ·exact ⟨_,_,_,rfl⟩
  ·exact hi v h
 obtain ⟨x',junk,hx',e⟩:=place_loop T p ah a b two one d cl rows (.rng 0 p 1::its) ha hb hp (by omega) hb6 hc hi2 p 0 (List.replicate ah 40) x [] (by rw [List.length_replicate];omega) hx
 refine ⟨x',junk,hx',?_⟩
 refine (exs_step (ex_asg (v:=.fv (.str (List.replicate ah 40))) (o:=[.list rows]) ?a rfl)).trans ((exs_step (s':=⟨RV p ah d (.fv (.int two)) (.fv (.int one)) (.fv (.str (List.replicate ah 40++mid a b one two (List.range' 0 p)))) x' cl,its,.list rows::junk,0⟩) ?b).trans (exs_step (s':=⟨RV p ah d (.fv (.int two)) (.fv (.int one)) (.fv (.str (txt p ah a b one two))) x' cl,its,.list rows::junk,0⟩) ?c))
 case a=>exact (ev_bin (a:=.fv (.str [40])) (b:=.fv (.int ah)) (o2:=[.list rows]) rfl rfl).trans (mul_str (by omega))
 case b=>
  refine (ex_forS (x:=.rng 0 p 1) (o:=[.list rows]) (full:=rngFrom 1 p ((0:Nat):Int)) (s':=⟨RV p ah d (.fv (.int two)) (.fv (.int one)) (.fv (.str (List.replicate ah 40++mid a b one two (List.range' 0 p)))) x' cl,.rng 0 p 1::its,.list rows::junk,0⟩) ?_ rfl (src_rng p _ (by omega)) ?tr).trans rfl
  ·exact (ev_bi (evs_1 (v:=.fv (.int p)) (o1:=[.list rows]) rfl)).trans (range_ok p _ (by omega))
  case tr=>exact e
 case c=>
  have hlen:(mid a b one two (List.range' 0 p)).length≤6*p:=by
   have:∀l:List Nat,(mid a b one two l).length≤6*l.length:=by
    intro l
    induction l with
    |nil=>simp [mid]
    |cons y r ih=>
     have h1:mid a b one two (y::r)=(pieceAt a b y++markAt one two y)++mid a b one two r:=rfl
     have:=piece_len a b one two y
     rw [h1,List.length_append,List.length_cons];omega
   have h2:=this (List.range' 0 p)
   rwa [List.length_range'] at h2
  have harith:∀o:List MO,(ev T (.bin (.bin (.var 1 (pq 0 0 0)) .add (.ci 4 (pq 0 0 0)) (pq 0 0 0)) .sub (.var 0 (pq 0 0 0)) (pq 0 0 0)) (RV p ah d (.fv (.int two)) (.fv (.int one)) (.fv (.str (List.replicate ah 40++mid a b one two (List.range' 0 p)))) x' cl) o)=some (.fv (.int ((ah+4-p:Nat):Int)),o):=fun o=>by
   show some (MV.fv (.int ((ah:Int)+4-p)),o)=_
   rw [show (ah:Int)+4-p=((ah+4-p:Nat):Int) by omega]
  refine ex_aug (a:=.str (List.replicate ah 40++mid a b one two (List.range' 0 p))) (b:=.str (List.replicate (ah+4-p) 41)) (c:=.fv (.str (txt p ah a b one two))) (o1:=.list rows::junk) rfl ?_ ?_
  ·refine (ev_bin (a:=.fv (.str [41])) (b:=.fv (.int ((ah+4-p:Nat):Int))) (o1:=.list rows::junk) (o2:=.list rows::junk) ?p1 ?p2).trans (mul_str (by omega))
   case p1=>rfl
   case p2=>exact harith _
  ·refine (add_str ?_).trans ?_
   ·rw [List.length_append,List.length_replicate,List.length_replicate];unfold lim;omega
   ·unfold txt;rw [List.range_eq_range']
end
section
theorem ev_bop2 {T:Tbl} {vars:List MV} {o:List MO} {x y:X} {p:Pos} {b1 b2:Bool} (h1:ev T x vars o=some (.fv (.bool b1),o)) (h2:ev T y vars o=some (.fv (.bool b2),o)):ev T (.bop true (.cons x (.cons y .nil)) p) vars o=some (.fv (.bool (b1&&b2)),o):=by
 show (match ev T x vars o with|some (v,o1)=>(match truthyM v o1 with|some b=>if b=true then ev T y vars o1 else some (v,o1)|none=>none)|none=>none)=_
 rw [h1]
 show (if b1=true then ev T y vars o else some (MV.fv (.bool b1),o))=_
 cases b1
 ·rfl
 ·rw [if_pos rfl,h2];rfl
theorem pow2 {n:Nat} (h:n≤1000):arith .pow 2 (n:Int)=some ((2^n:Nat):Int):=by
 show (if 0≤(n:Int)&&(n:Int)≤1000&&(2:Int).natAbs<big then some ((2:Int)^(n:Int).toNat) else none)=_
 rw [if_pos (by simp only [Bool.and_eq_true,decide_eq_true_eq];exact ⟨⟨Int.natCast_nonneg n,by omega⟩,by decide⟩),Int.toNat_natCast]
 rw [Int.natCast_pow];rfl
noncomputable def rowNew (ah one two:Nat):List FV:=if closesB ah one two then [.int ((2^one+2^two:Nat):Int)] else []
theorem row_rest (p ah a b two one:Nat) (d:Int) (x cl:MV) (rows:List FV) (its:List MV) (junk:List MO) (hone:one≤1000) (htwo:two≤1000) (hrl:rows.length≤1000) (htl:(txt p ah a b one two).length≤1000)
  (hchk:tblN 8 12 [.fv (.str (txt p ah a b one two))] []=some (.fv (.bool (closesB ah one two)),[])) (hchk2:closesB ah one two=true→tblN 8 12 [.fv (.str (txt p ah a b one two++[40]))] []=some (.fv (.bool false),[])):
  exs (tblN 8) (match rowsB1 with|.cons _ (.cons _ (.cons _ r))=>r|r=>r) ⟨RV p ah d (.fv (.int two)) (.fv (.int one)) (.fv (.str (txt p ah a b one two))) x cl,its,.list rows::junk,0⟩=
   some (.next,⟨RV p ah d (.fv (.int two)) (.fv (.int one)) (.fv (.str (txt p ah a b one two))) x (.fv (.bool (closesB ah one two))),its,.list (rows++rowNew ah one two)::junk,0⟩):=by
 have c1:∀o,callM (tblN 8) 12 [.fv (.str (txt p ah a b one two))] o=some (.fv (.bool (closesB ah one two)),o):=fun o=>callM_fv [.str (txt p ah a b one two)] hchk
 have hl:∀n m:Nat,cmpop .le (.fv (.int n)) (.fv (.int m)) (.list rows::junk)=some (decide (n≤m)):=fun n m=>le_nat
 refine (exs_step (s':=⟨RV p ah d (.fv (.int two)) (.fv (.int one)) (.fv (.str (txt p ah a b one two))) x (.fv (.bool (closesB ah one two))),its,.list rows::junk,0⟩) ?a).trans ((exs_step (s':=⟨RV p ah d (.fv (.int two)) (.fv (.int one)) (.fv (.str (txt p ah a b one two))) x (.fv (.bool (closesB ah one two))),its,.list rows::junk,0⟩) ?b).trans ((exs_step (s':=⟨RV p ah d (.fv (.int two)) (.fv (.int one)) (.fv (.str (txt p ah a b one two))) x (.fv (.bool (closesB ah one two))),its,.list (rows++rowNew ah one two)::junk,0⟩) ?c).trans rfl))
 case a=>
  refine ex_asg (v:=.fv (.bool (closesB ah one two))) (o:=.list rows::junk) (ev_bop2 ?_ ?_) rfl
  ·exact ev_cmp (a:=.fv (.int one)) (b:=.fv (.int ah)) (o1:=.list rows::junk) (o2:=.list rows::junk) rfl rfl (hl _ _)
  ·exact ev_cmp (a:=.fv (.int two)) (b:=.fv (.int ((ah+2:Nat):Int))) (o1:=.list rows::junk) (o2:=.list rows::junk) rfl rfl (hl _ _)
 case b=>
  refine (ex_iff (b:=false) (o:=.list rows::junk) (evT_cmp (ev_cmp (a:=.fv (.bool (closesB ah one two))) (b:=.fv (.bool (closesB ah one two))) (o1:=.list rows::junk) (o2:=.list rows::junk) ?_ rfl ?_))).trans rfl
  ·exact (ev_fn (evs_1 (v:=.fv (.str (txt p ah a b one two))) (o1:=.list rows::junk) rfl)).trans (c1 _)
  ·show some (closesB ah one two !=closesB ah one two)=_
   cases closesB ah one two<;>rfl
 case c=>
  refine (ex_iff (b:=closesB ah one two) (o:=.list rows::junk) rfl).trans ?_
  unfold rowNew
  cases hcl:closesB ah one two with
  |false=>simp only [Bool.false_eq_true,if_false,List.append_nil];rfl
  |true=>
   have c2:∀o,callM (tblN 8) 12 [.fv (.str (txt p ah a b one two++[40]))] o=some (.fv (.bool false),o):=fun o=>callM_fv [.str (txt p ah a b one two++[40])] (hchk2 hcl)
   simp only [if_true]
   refine (exs_step (s':=⟨RV p ah d (.fv (.int two)) (.fv (.int one)) (.fv (.str (txt p ah a b one two))) x (.fv (.bool true)),its,.list rows::junk,0⟩) ?d).trans ((exs_step (ex_xp (v:=.fv .none) (o:=.list (rows++[.int ((2^one+2^two:Nat):Int)])::junk) ?e)).trans rfl)
   case d=>
    refine (ex_iff (b:=false) (o:=.list rows::junk) (evT_cmp (ev_cmp (a:=.fv (.bool false)) (b:=.fv (.bool false)) (o1:=.list rows::junk) (o2:=.list rows::junk) ?_ rfl rfl))).trans rfl
    refine (ev_fn (evs_1 (v:=.fv (.str (txt p ah a b one two++[40]))) (o1:=.list rows::junk) ?_)).trans (c2 _)
    refine (ev_bin (a:=.fv (.str (txt p ah a b one two))) (b:=.fv (.str [40])) (o1:=.list rows::junk) (o2:=.list rows::junk) rfl rfl).trans (add_str ?_)
    unfold lim;simp;omega
   case e=>
    have h1:∀q1 q2 q3 q4 q5 q6 q7,ev (tblN 8) (.bin (.bin (.ci 2 q1) .pow (.var 5 q2) q3) .add (.bin (.ci 2 q4) .pow (.var 4 q5) q6) q7) (RV p ah d (.fv (.int two)) (.fv (.int one)) (.fv (.str (txt p ah a b one two))) x (.fv (.bool true))) (.list rows::junk)=some (.fv (.int ((2^one+2^two:Nat):Int)),.list rows::junk):=by
     intro q1 q2 q3 q4 q5 q6 q7
     have w:∀(n i:Nat) q1 q2 q3,(RV p ah d (.fv (.int two)) (.fv (.int one)) (.fv (.str (txt p ah a b one two))) x (.fv (.bool true)))[i]?=some (.fv (.int n))→n≤1000→ev (tblN 8) (.bin (.ci 2 q1) .pow (.var i q2) q3) (RV p ah d (.fv (.int two)) (.fv (.int one)) (.fv (.str (txt p ah a b one two))) x (.fv (.bool true))) (.list rows::junk)=some (.fv (.int ((2^n:Nat):Int)),.list rows::junk):=by
      intro n i q1 q2 q3 hi hn
      refine (ev_bin (a:=.fv (.int 2)) (b:=.fv (.int n)) (o1:=.list rows::junk) (o2:=.list rows::junk) rfl (ev_var hi (fun h=>nomatch h))).trans ?_
      show (arith .pow 2 n).map (fun c=>(MV.fv (.int c),MO.list rows::junk))=_
      rw [pow2 hn];rfl
     refine (ev_bin (w one 5 _ _ _ rfl hone) (w two 4 _ _ _ rfl htwo)).trans ?_
     show some (MV.fv (.int (((2^one:Nat):Int)+((2^two:Nat):Int))),MO.list rows::junk)=_
     rw [Int.natCast_add]
    exact (ev_me (a:=.ref 0) (o1:=.list rows::junk) rfl rfl (evs_1 (h1 ..))).trans (appendM_ok rfl (Nat.lt_of_le_of_lt hrl (by decide)))
end
section
theorem txt_len {p ah a b one two:Nat} (hp5:p≤5) (hah:ah≤5):(txt p ah a b one two).length≤1000:=by
 have hm:∀l:List Nat,(mid a b one two l).length≤6*l.length:=by
  intro l
  induction l with
  |nil=>simp [mid]
  |cons y r ih=>
   have h1:mid a b one two (y::r)=(pieceAt a b y++markAt one two y)++mid a b one two r:=rfl
   have:=piece_len a b one two y
   rw [h1,List.length_append,List.length_cons];omega
 have:=hm (List.range p)
 rw [List.length_range] at this
 unfold txt
 rw [List.length_append,List.length_append,List.length_replicate,List.length_replicate];omega
theorem rowNew_len (ah one two:Nat):(rowNew ah one two).length≤1:=by unfold rowNew;split<;>simp
noncomputable def ChkOk (p ah a b:Nat):Prop:=∀one two,two<p→one<two→tblN 8 12 [.fv (.str (txt p ah a b one two))] []=some (.fv (.bool (closesB ah one two)),[])∧(closesB ah one two=true→tblN 8 12 [.fv (.str (txt p ah a b one two++[40]))] []=some (.fv (.bool false),[]))
section
variable {p ah a b:Nat} {d:Int}
theorem one_turn (ha:d.fmod p=(a:Int)) (hb:(d.fdiv p).fmod 6=(b:Int)) (hp:0<p) (hp5:p≤5) (hah:ah≤5) (hpa:p≤ah+4) (hb6:b<6) (C:ChkOk p ah a b) (two one:Nat) (h2:two<p) (h1:one<two) (v5 t x cl:MV) (rows:List FV) (junk:List MO) (its:List MV) (ht:okc t) (hx:okc x) (hc:okc cl) (hi:allRng its) (hrl:rows.length≤1000):
  ∃x' junk' cl' t',okc x'∧okc cl'∧okc t'∧forStep (tblN 8) 5 rowsFor1.body (.int one) ⟨RV p ah d (.fv (.int two)) v5 t x cl,its,.list rows::junk,0⟩=
   some (.next,⟨RV p ah d (.fv (.int two)) (.fv (.int one)) t' x' cl',its,.list (rows++rowNew ah one two)::junk',0⟩):=by
 have hg:=rows_gc (p:=p) (ah:=ah) (d:=d) (two:=.fv (.int two)) (one:=.fv (.int one)) (t:=t) (x:=x) (cl:=cl) (rows:=rows) (junk:=junk) (its:=its) (.inl ⟨_,rfl⟩) (.inl ⟨_,rfl⟩) ht hx hc hi
 obtain ⟨x',junk',hx',e1⟩:=row_text (tblN 8) p ah a b two one d t x cl rows its ha hb hp hp5 hah hpa hb6 hx hc hi (match rowsB1 with|.cons _ (.cons _ (.cons _ r))=>r|r=>r)
 obtain ⟨k1,k2⟩:=C one two h2 h1
 have e2:=row_rest p ah a b two one d x' cl rows its junk' (by omega) (by omega) hrl (txt_len hp5 hah) k1 k2
 refine ⟨x',junk',.fv (.bool (closesB ah one two)),.fv (.str (txt p ah a b one two)),hx',.inl ⟨_,rfl⟩,.inl ⟨_,rfl⟩,?_⟩
 have hbody:rowsFor1.body=.gc rowsB1:=rfl
 have hB:rowsB1=.cons (rowsB1.at 0) (.cons (rowsB1.at 1) (.cons (rowsB1.at 2) (match rowsB1 with|.cons _ (.cons _ (.cons _ r))=>r|r=>r))):=rfl
 have e0:forStep (tblN 8) 5 rowsFor1.body (.int one) ⟨RV p ah d (.fv (.int two)) v5 t x cl,its,.list rows::junk,0⟩=exs (tblN 8) rowsB1 ⟨RV p ah d (.fv (.int two)) (.fv (.int one)) t x cl,its,[.list rows],0⟩:=by
  rw [←hg,←exs_gc,←hbody];rfl
 rw [e0,hB]
 exact e1.trans e2
theorem one_loop (ha:d.fmod p=(a:Int)) (hb:(d.fdiv p).fmod 6=(b:Int)) (hp:0<p) (hp5:p≤5) (hah:ah≤5) (hpa:p≤ah+4) (hb6:b<6) (C:ChkOk p ah a b) (two:Nat) (h2:two<p) (its:List MV) (hi:allRng its):∀(n j:Nat) (v5 t x cl:MV) (rows:List FV) (junk:List MO),j+n≤two→okc v5→okc t→okc x→okc cl→rows.length+n≤1000→
  ∃v5' t' x' cl' junk',okc v5'∧okc t'∧okc x'∧okc cl'∧turns (forStep (tblN 8) 5 rowsFor1.body) none (rngFrom 1 n (j:Int)) ⟨RV p ah d (.fv (.int two)) v5 t x cl,its,.list rows::junk,0⟩=
   some (none,⟨RV p ah d (.fv (.int two)) v5' t' x' cl',its,.list (rows++(List.range' j n).flatMap fun one=>rowNew ah one two)::junk',0⟩)
 |0,j,v5,t,x,cl,rows,junk,hj,h5,ht,hx,hc,hrl=>⟨v5,t,x,cl,junk,h5,ht,hx,hc,by
  rw [show (List.range' j 0).flatMap (fun one=>rowNew ah one two)=[] from rfl,List.append_nil]
  exact turns_nil (orig_rng hi _)⟩
 |n+1,j,v5,t,x,cl,rows,junk,hj,h5,ht,hx,hc,hrl=>by
  obtain ⟨x1,junk1,cl1,t1,hx1,hc1,ht1,e1⟩:=one_turn ha hb hp hp5 hah hpa hb6 C two j h2 (by omega) v5 t x cl rows junk its ht hx hc hi (by omega)
  have hnl:=rowNew_len ah j two
  obtain ⟨v5',t',x',cl',junk',q1,q2,q3,q4,e2⟩:=one_loop ha hb hp hp5 hah hpa hb6 C two h2 its hi n (j+1) (.fv (.int j)) t1 x1 cl1 (rows++rowNew ah j two) junk1 (by omega) (.inl ⟨_,rfl⟩) ht1 hx1 hc1 (by rw [List.length_append];omega)
  refine ⟨v5',t',x',cl',junk',q1,q2,q3,q4,?_⟩
  rw [List.range'_succ,List.flatMap_cons,←List.append_assoc]
  exact (turns_next (s:=⟨RV p ah d (.fv (.int two)) v5 t x cl,its,.list rows::junk,0⟩) (orig_rng hi _) e1).trans e2
end
end
section
noncomputable def rowsUpTo (ah j n:Nat):List FV:=(List.range' j n).flatMap fun two=>(List.range' 0 two).flatMap fun one=>rowNew ah one two
section
variable {p ah a b:Nat} {d:Int}
theorem flat_len (ah two:Nat):∀l:List Nat,(l.flatMap fun one=>rowNew ah one two).length≤l.length
 |[]=>Nat.le_refl _
 |x::r=>by
  have:=flat_len ah two r
  have:=rowNew_len ah x two
  rw [List.flatMap_cons,List.length_append,List.length_cons];omega
theorem two_turn (ha:d.fmod p=(a:Int)) (hb:(d.fdiv p).fmod 6=(b:Int)) (hp:0<p) (hp5:p≤5) (hah:ah≤5) (hpa:p≤ah+4) (hb6:b<6) (C:ChkOk p ah a b) (two:Nat) (h2:two<p) (v4 v5 t x cl:MV) (rows:List FV) (junk:List MO) (its:List MV) (h5:okc v5) (ht:okc t) (hx:okc x) (hc:okc cl) (hi:allRng its) (hrl:rows.length≤900):
  ∃v5' t' x' cl' junk',okc v5'∧okc t'∧okc x'∧okc cl'∧forStep (tblN 8) 4 rowsFor2.body (.int two) ⟨RV p ah d v4 v5 t x cl,its,.list rows::junk,0⟩=
   some (.next,⟨RV p ah d (.fv (.int two)) v5' t' x' cl',its,.list (rows++(List.range' 0 two).flatMap fun one=>rowNew ah one two)::junk',0⟩):=by
 have hg:=rows_gc (p:=p) (ah:=ah) (d:=d) (two:=.fv (.int two)) (one:=v5) (t:=t) (x:=x) (cl:=cl) (rows:=rows) (junk:=junk) (its:=its) (.inl ⟨_,rfl⟩) h5 ht hx hc hi
 have hi2:allRng (.rng 0 two 1::its):=fun v hv=>by
  rcases List.mem_cons.mp hv with rfl|h
  ·exact ⟨_,_,_,rfl⟩
  ·exact hi v h
 obtain ⟨v5',t',x',cl',junk',q1,q2,q3,q4,e⟩:=one_loop ha hb hp hp5 hah hpa hb6 C two h2 (.rng 0 two 1::its) hi2 two 0 v5 t x cl rows [] (by omega) h5 ht hx hc (by omega)
 refine ⟨v5',t',x',cl',junk',q1,q2,q3,q4,?_⟩
 have hbody:rowsFor2.body=.gc rowsB2:=rfl
 have hB:rowsB2=.cons rowsFor1 .nil:=rfl
 have e0:forStep (tblN 8) 4 rowsFor2.body (.int two) ⟨RV p ah d v4 v5 t x cl,its,.list rows::junk,0⟩=exs (tblN 8) rowsB2 ⟨RV p ah d (.fv (.int two)) v5 t x cl,its,[.list rows],0⟩:=by
  rw [←hg,←exs_gc,←hbody];rfl
 rw [e0,hB]
 refine (exs_step (s':=⟨RV p ah d (.fv (.int two)) v5' t' x' cl',its,.list (rows++(List.range' 0 two).flatMap fun one=>rowNew ah one two)::junk',0⟩) ?_).trans rfl
 refine (ex_forS (x:=.rng 0 two 1) (o:=[.list rows]) (full:=rngFrom 1 two ((0:Nat):Int)) (s':=⟨RV p ah d (.fv (.int two)) v5' t' x' cl',.rng 0 two 1::its,.list (rows++(List.range' 0 two).flatMap fun one=>rowNew ah one two)::junk',0⟩) ?_ rfl (src_rng two _ (by omega)) ?tr).trans rfl
 ·exact (ev_bi (evs_1 (v:=.fv (.int two)) (o1:=[.list rows]) rfl)).trans (range_ok two _ (by omega))
 case tr=>exact e
theorem two_loop (ha:d.fmod p=(a:Int)) (hb:(d.fdiv p).fmod 6=(b:Int)) (hp:0<p) (hp5:p≤5) (hah:ah≤5) (hpa:p≤ah+4) (hb6:b<6) (C:ChkOk p ah a b) (its:List MV) (hi:allRng its):∀(n j:Nat) (v4 v5 t x cl:MV) (rows:List FV) (junk:List MO),j+n≤p→okc v5→okc t→okc x→okc cl→rows.length+100*n≤900→
  ∃vars' junk',turns (forStep (tblN 8) 4 rowsFor2.body) none (rngFrom 1 n (j:Int)) ⟨RV p ah d v4 v5 t x cl,its,.list rows::junk,0⟩=
   some (none,⟨.fv (.int p)::.fv (.int ah)::.fv (.int d)::.ref 0::vars',its,.list (rows++rowsUpTo ah j n)::junk',0⟩)
 |0,j,v4,v5,t,x,cl,rows,junk,hj,h5,ht,hx,hc,hrl=>⟨_,junk,by
  rw [show rowsUpTo ah j 0=[] from rfl,List.append_nil]
  exact turns_nil (orig_rng hi _)⟩
 |n+1,j,v4,v5,t,x,cl,rows,junk,hj,h5,ht,hx,hc,hrl=>by
  obtain ⟨v5',t',x',cl',junk1,q1,q2,q3,q4,e1⟩:=two_turn ha hb hp hp5 hah hpa hb6 C j (by omega) v4 v5 t x cl rows junk its h5 ht hx hc hi (by omega)
  have hfl:=flat_len ah j (List.range' 0 j)
  rw [List.length_range'] at hfl
  obtain ⟨vars',junk',e2⟩:=two_loop ha hb hp hp5 hah hpa hb6 C its hi n (j+1) (.fv (.int j)) v5' t' x' cl' (rows++(List.range' 0 j).flatMap fun one=>rowNew ah one j) junk1 (by omega) q1 q2 q3 q4 (by rw [List.length_append];omega)
  refine ⟨vars',junk',?_⟩
  have hm:rowsUpTo ah j (n+1)=((List.range' 0 j).flatMap fun one=>rowNew ah one j)++rowsUpTo ah (j+1) n:=by
   unfold rowsUpTo;rw [List.range'_succ];rfl
  rw [hm,←List.append_assoc]
  exact (turns_next (s:=⟨RV p ah d v4 v5 t x cl,its,.list rows::junk,0⟩) (orig_rng hi _) e1).trans e2
theorem T6 (ha:d.fmod p=(a:Int)) (hb:(d.fdiv p).fmod 6=(b:Int)) (hp:1<p) (hp5:p≤5) (hah:ah≤5) (hpa:p≤ah+4) (hb6:b<6) (C:ChkOk p ah a b):
  ∃junk,tblN 9 6 [.fv (.int p),.fv (.int ah),.fv (.int d)] []=some (.ref 0,.list (rowsUpTo ah 1 (p-1))::junk):=by
 have hi:allRng [.rng 1 p 1]:=fun v hv=>by rw [List.mem_singleton.mp hv];exact ⟨_,_,_,rfl⟩
 obtain ⟨vars',junk,e⟩:=two_loop ha hb (by omega) hp5 hah hpa hb6 C [.rng 1 p 1] hi (p-1) 1 .unb .unb .unb .unb .unb [] [] (by omega) (.inr rfl) (.inr rfl) (.inr rfl) (.inr rfl) (by simp;omega)
 rw [List.nil_append] at e
 refine ⟨junk,?_⟩
 show runBody (tblN 8) bFlawrows [.fv (.int p),.fv (.int ah),.fv (.int d),.unb,.unb,.unb,.unb,.unb,.unb,.unb,.unb] []=_
 refine runBody_ret (s:=⟨.fv (.int p)::.fv (.int ah)::.fv (.int d)::.ref 0::vars',[],.list (rowsUpTo ah 1 (p-1))::junk,0⟩) ?_
 refine (exs_step (s':=⟨RV p ah d .unb .unb .unb .unb .unb,[],[.list []],0⟩) rfl).trans ((exs_step (s':=⟨.fv (.int p)::.fv (.int ah)::.fv (.int d)::.ref 0::vars',[],.list (rowsUpTo ah 1 (p-1))::junk,0⟩) ?f).trans (exs_ret (ex_ret rfl)))
 case f=>
  refine (ex_forS (x:=.rng 1 p 1) (o:=[.list []]) (full:=rngFrom 1 (p-1) ((1:Nat):Int)) (s':=⟨.fv (.int p)::.fv (.int ah)::.fv (.int d)::.ref 0::vars',[.rng 1 p 1],.list (rowsUpTo ah 1 (p-1))::junk,0⟩) ?_ rfl ?_ ?tr).trans rfl
  ·refine (ev_bi (evs_cons (v:=.fv (.int 1)) (o1:=[.list []]) rfl (evs_1 (v:=.fv (.int p)) (o1:=[.list []]) rfl))).trans ?_
   exact if_pos (by rw [decide_eq_true (show (1:Int).natAbs<big by decide),decide_eq_true (show (p:Int).natAbs<big by rw [Int.natAbs_natCast];exact Nat.lt_of_le_of_lt hp5 (by decide))];rfl)
  ·show (if (1:Int)=1&&(1:Int).natAbs<big&&(p:Int).natAbs<big then some (rngItems 1 p 1) else none)=_
   rw [if_pos (by simp only [Bool.and_eq_true,decide_eq_true_eq];exact ⟨⟨trivial,by decide⟩,by rw [Int.natAbs_natCast];exact Nat.lt_of_le_of_lt hp5 (by decide)⟩)]
   unfold rngItems rngCount
   rw [if_pos (by omega),Int.ediv_one]
   congr 2;omega
  case tr=>exact e
end
end
end Mine
end
section
open PySem PySem.W
namespace Mine
section
noncomputable def gives (r:Option (MV × List MO)) (y:FV):Bool:=match r with|some (.fv x,_)=>x==y|_=>false
theorem gives_is {r:Option (MV × List MO)} {y:FV} (h:gives r y=true):∃oc,r=some (.fv y,oc):=by
 unfold gives at h
 match r,h with
 |some (.fv x,oc),h=>exact ⟨oc,by rw [eq_of_beq h]⟩
noncomputable def flagText:List (List Nat):=[[79,80,84,73,77,73,90,69,68],[78,69,87,76,79,67,65,76,83],[86,65,82,65,82,71,83],[86,65,82,75,69,89,87,79,82,68,83],[78,69,83,84,69,68],[71,69,78,69,82,65,84,79,82],[78,79,70,82,69,69],[67,79,82,79,85,84,73,78,69],[73,84,69,82,65,66,76,69,95,67,79,82,79,85,84,73,78,69],[65,83,89,78,67,95,71,69,78,69,82,65,84,79,82]]
noncomputable def wordOf (i:Nat):List Nat:=if i<10 then flagText.getD i [] else [48,120,48+2^(i%4)]++List.replicate (i/4) 48
noncomputable def wordsL (p lo:Nat):List (List Nat):=(List.range' lo p).map wordOf
noncomputable def onesL (r:Nat):List Nat:=(List.range 5).filter fun i=>r/2^i%2==1
noncomputable def nameOf (lo r:Nat):List Nat:=joinL [44,32] ((onesL r).map fun i=>wordOf (lo+i))
noncomputable def allRows:List Nat:=[3,5,6,9,10,12]
set_option maxRecDepth 100000 in
set_option maxHeartbeats 0 in
theorem flags_all (k:Nat):((List.range 28).all fun lo=>allRows.all fun r=>gives (tblN (k+1) 10 [.fv (.int ((r*2^lo:Nat):Int))] []) (.str (nameOf lo r)))=true:=by kernel_rfl
set_option maxRecDepth 100000 in
set_option maxHeartbeats 0 in
theorem words_all (k:Nat):((List.range 28).all fun lo=>[4,5].all fun p=>decide (tblN (k+1) 1 [.fv (.int ((p:Nat):Int)),.fv (.int ((lo:Nat):Int))] []=some (.ref 1,[.list (flagText.map .str),.list ((wordsL p lo).map .str)])))=true:=by kernel_rfl
end
section
noncomputable def wordT (p r:Nat):List Nat:=(List.range p).map fun i=>if (onesL r).contains i then 65+i else 97+i
set_option maxRecDepth 100000 in
set_option maxHeartbeats 0 in
theorem ones_all (k:Nat):((List.range 32).all fun r=>decide (tblN (k+1) 3 [.fv (.int ((r:Nat):Int))] []=some (.ref 0,[.list ((onesL r).map fun (i:Nat)=>.int i)])))=true:=by kernel_rfl
set_option maxRecDepth 100000 in
set_option maxHeartbeats 0 in
theorem word_all (k:Nat):([4,5].all fun p=>(List.range 32).all fun r=>gives (tblN (k+2) 7 [.fv (.int ((r:Nat):Int)),.fv (.int ((p:Nat):Int))] []) (.str (wordT p r)))=true:=by kernel_rfl
set_option maxRecDepth 100000 in
set_option maxHeartbeats 0 in
theorem lev_all (k:Nat):([4,5].all fun p=>allRows.all fun one=>allRows.all fun two=>!(decide (one<two))||gives (tblN (k+2) 14 [.fv (.str (wordT p one)),.fv (.str (wordT p two)),.fv (.int 2)] []) (.int (if one&&&two≠0 then 2 else 3)))=true:=by kernel_rfl
set_option maxRecDepth 100000 in
set_option maxHeartbeats 0 in
theorem lev2_all (k:Nat):([4,5].all fun p=>allRows.all fun r=>(List.range 3).all fun m=>gives (tblN (k+2) 14 [.fv (.str (122::wordT p r)),.fv (.str (wordT p (31-r))),.fv (.int ((p+1+m:Nat):Int))] []) (.int ((p+2:Nat):Int)))=true:=by kernel_rfl
end
end Mine
end
section
set_option maxRecDepth 4000
open PySem
namespace Mine
section
theorem add_in (k:Nat) (rows:List FV) (es:List (Int × FV)) (hs:List FV) (n v:List Nat) (hn:fine n=true) (hv:fine v=true) (hl:hs.length<lenLim):
  callM (tblN (k+2)) 100 [.ref 2,.fv (.str n),.fv (.str v)] [.list rows,.dict es,.hdr 3,.list hs]=some (.fv .none,[.list rows,.dict es,.hdr 3,.list (hs++[.pair (.str n) (.str v)])]):=by
 show (match tblN (k+2) 100 [.ref 0,.fv (.str n),.fv (.str v)] [.hdr 1,.list hs] with|some (v,oc)=>comeBack [2,3] v oc [.list rows,.dict es,.hdr 3,.list hs]|none=>none)=_
 rw [T100 k n v hs hn hv hl];rfl
theorem upT_ok (l:List Nat) (h:fine l=true) (ha:ascii l=true):fine (l.map up1)=true∧ascii (l.map up1)=true∧low (l.map up1)=low l:=by
 have hm:∀c∈l,c<128∧32≤c∧c≠127:=by
  intro c hc
  unfold fine at h
  rw [Bool.and_eq_true] at h
  have h1:=List.all_eq_true.mp h.1 c hc
  have h2:=List.all_eq_true.mp ha c hc
  simp only [Bool.and_eq_true,decide_eq_true_eq,bne_iff_ne,ne_eq] at h1 h2
  exact ⟨h2,h1⟩
 refine ⟨?_,?_,?_⟩
 ·have hl:=fine_len h
  unfold fine
  rw [Bool.and_eq_true,decide_eq_true_eq,List.length_map]
  refine ⟨List.all_eq_true.mpr fun c hc=>?_,hl⟩
  obtain ⟨d,hd,rfl⟩:=List.mem_map.mp hc
  obtain ⟨q1,q2,q3⟩:=hm d hd
  have:=lo1_facts d q1
  simp only [Bool.and_eq_true,decide_eq_true_eq,bne_iff_ne,ne_eq]
  exact ⟨this.2.2.2.2.2.2.1 q2,this.2.2.2.2.2.2.2 q3⟩
 ·refine List.all_eq_true.mpr fun c hc=>?_
  obtain ⟨d,hd,rfl⟩:=List.mem_map.mp hc
  exact decide_eq_true (lo1_facts d (hm d hd).1).2.2.2.2.2.1
 ·unfold low
  rw [List.map_map]
  exact List.map_congr_left fun c hc=>(lo1_facts c (hm c hc).1).2.2.2.2.1
theorem low_low (l:List Nat) (ha:ascii l=true):low (low l)=low l:=by
 unfold low
 rw [List.map_map]
 exact List.map_congr_left fun c hc=>(lo1_facts c (by simpa using List.all_eq_true.mp ha c hc)).2.2.2.1
theorem octs_fine {n:Nat} (h:n<2^30):fine (octs n)=true:=by
 unfold fine
 rw [octs_hi]
 have hl:=hiD_len 63 4 n (Nat.lt_of_lt_of_le h (by decide))
 rw [Bool.and_eq_true,decide_eq_true_eq,List.length_append]
 refine ⟨List.all_eq_true.mpr fun c hc=>?_,by simp;omega⟩
 have:128≤c:=by
  rcases List.mem_append.mp hc with h|h
  ·obtain ⟨d,hd,rfl⟩:=hiD_mem 63 n c h;omega
  ·rw [List.mem_singleton.mp h];omega
 simp only [Bool.and_eq_true,decide_eq_true_eq,bne_iff_ne,ne_eq];omega
end
section
noncomputable def menuP (p:Nat):Prop:=p=4∨p=5
theorem menu_mem {p:Nat} (h:menuP p):p∈[4,5]:=by rcases h with rfl|rfl<;>decide
section
variable {o:List MO} {p r one two lo:Nat}
theorem call_word (k:Nat) (hp:menuP p) (hr:r<32):callM (tblN (k+2)) 7 [.fv (.int r),.fv (.int p)] o=some (.fv (.str (wordT p r)),o):=by
 obtain ⟨oc,e⟩:=gives_is (List.all_eq_true.mp (List.all_eq_true.mp (word_all k) p (menu_mem hp)) r (List.mem_range.mpr hr))
 exact callM_fv [.int r,.int p] e
theorem call_lev (k:Nat) (hp:menuP p) (h1:one∈allRows) (h2:two∈allRows) (hlt:one<two):callM (tblN (k+2)) 14 [.fv (.str (wordT p one)),.fv (.str (wordT p two)),.fv (.int 2)] o=some (.fv (.int (if one&&&two≠0 then 2 else 3)),o):=by
 have:=List.all_eq_true.mp (List.all_eq_true.mp (List.all_eq_true.mp (lev_all k) p (menu_mem hp)) one h1) two h2
 rw [decide_eq_true hlt] at this
 rw [Bool.not_true,Bool.false_or] at this
 obtain ⟨oc,e⟩:=gives_is this
 exact callM_fv [.str (wordT p one),.str (wordT p two),.int 2] e
theorem call_lev2 (k m:Nat) (hp:menuP p) (h1:r∈allRows) (hm:m<3):callM (tblN (k+2)) 14 [.fv (.str (122::wordT p r)),.fv (.str (wordT p (31-r))),.fv (.int ((p+1+m:Nat):Int))] o=some (.fv (.int ((p+2:Nat):Int)),o):=by
 obtain ⟨oc,e⟩:=gives_is (List.all_eq_true.mp (List.all_eq_true.mp (List.all_eq_true.mp (lev2_all k) p (menu_mem hp)) r h1) m (List.mem_range.mpr hm))
 exact callM_fv [.str (122::wordT p r),.str (wordT p (31-r)),.int ((p+1+m:Nat):Int)] e
theorem call_flags (k:Nat) (hlo:lo<28) (h1:r∈allRows):callM (tblN (k+1)) 10 [.fv (.int ((r*2^lo:Nat):Int))] o=some (.fv (.str (nameOf lo r)),o):=by
 obtain ⟨oc,e⟩:=gives_is (List.all_eq_true.mp (List.all_eq_true.mp (flags_all k) lo (List.mem_range.mpr hlo)) r h1)
 exact callM_fv [.int ((r*2^lo:Nat):Int)] e
theorem call_octs (k n:Nat) (h:n<2^30):callM (tblN (k+1)) 5 [.fv (.int n)] o=some (.fv (.str (octs n)),o):=callM_fv [.int n] (T5 k n (Nat.lt_of_lt_of_le h (by decide)))
theorem call_sized (k t:Nat) (l:List Nat) (ha:ascii l=true) (hl:l.length≤lim):callM (tblN (k+1)) 4 [.fv (.str l),.fv (.int t)] o=some (.fv (.str (if t%2=0 then l.map up1 else l.map lo1)),o):=callM_fv [.str l,.int t] (T4 k l t ha hl)
end
end
section
noncomputable def TV (p more:Nat) (one two due:MV):List MV:=[.ref 0,.ref 1,.fv (.int p),.fv (.int more),.ref 2,one,two,due,.unb,.unb,.unb,.unb]
noncomputable def tiesFor1:S:=bFlawtied.at 0
noncomputable def tiesFor2:S:=tiesFor1.body.at 0
noncomputable def tiesIf:S:=tiesFor2.body.at 0
noncomputable def tiesNew (nm:Nat→List Nat) (more one two:Nat):List FV:=if one<two∧one&&&two≠0 then [hd ((nm one).map up1,octs (64*more+two)),hd ((nm two).map lo1,octs (64*more+one))] else []
theorem lt_nat {a b:Nat} {o:List MO}:cmpop .lt (.fv (.int a)) (.fv (.int b)) o=some (decide (a<b)):=by
 show some (decide ((a:Int)<(b:Int)))=_
 by_cases h:a<b
 ·rw [decide_eq_true h,decide_eq_true (by omega)]
 ·rw [decide_eq_false h,decide_eq_false (by omega)]
theorem ties_skip (T:Tbl) {p more one two:Nat} {x due:MV} {its:List MV} {o:List MO} (h:¬one<two):
  forStep T 6 tiesFor2.body (.int two) ⟨TV p more (.fv (.int one)) x due,its,o,4⟩=some (.next,⟨TV p more (.fv (.int one)) (.fv (.int two)) due,its,o,4⟩):=by
 have hb:tiesFor2.body=.cons tiesIf .nil:=rfl
 show exs T tiesFor2.body ⟨TV p more (.fv (.int one)) (.fv (.int two)) due,its,o,4⟩=_
 rw [hb]
 refine (exs_step ((ex_iff (b:=false) (o:=o) (evT_cmp (ev_cmp (a:=.fv (.int one)) (b:=.fv (.int two)) (o1:=o) (o2:=o) rfl rfl ?_))).trans rfl)).trans rfl
 rw [lt_nat,decide_eq_false h]
end
section
set_option maxRecDepth 100000 in
theorem names_fine:((List.range 28).all fun lo=>allRows.all fun r=>fine (nameOf lo r)&&ascii (nameOf lo r))=true:=by decide+kernel
theorem name_ok {lo r:Nat} (hlo:lo<28) (hr:r∈allRows):fine (nameOf lo r)=true∧ascii (nameOf lo r)=true:=
 Bool.and_eq_true_iff.mp (List.all_eq_true.mp (List.all_eq_true.mp names_fine lo (List.mem_range.mpr hlo)) r hr)
noncomputable def nmD (lo:Nat) (rows:List Nat):List (Int × FV):=rows.map fun (r:Nat)=>((r:Int),FV.str (nameOf lo r))
theorem nmD_get {lo r:Nat}:∀{rows:List Nat},r∈rows→(nmD lo rows).lookup (r:Int)=some (.str (nameOf lo r))
 |x::l,h=>by
  show (match (r:Int)==(x:Int) with|true=>some (FV.str (nameOf lo x))|false=>(nmD lo l).lookup (r:Int))=_
  cases hb:((r:Int)==(x:Int)) with
  |true=>
   have h1:(r:Int)=x:=eq_of_beq hb
   have:r=x:=by omega
   rw [this]
  |false=>
   rcases List.mem_cons.mp h with rfl|h2
   ·simp at hb
   ·exact nmD_get h2
theorem oct_arg {T:Tbl} {vars:List MV} {o:List MO} {m j more vj:Nat} {q1 q2 q3 q4 q5:Pos} (hm:vars[m]?=some (.fv (.int more))) (hj:vars[j]?=some (.fv (.int vj))):
  ev T (.bin (.bin (.ci 64 q1) .mul (.var m q2) q3) .add (.var j q4) q5) vars o=some (.fv (.int ((64*more+vj:Nat):Int)),o):=by
 refine (ev_bin (a:=.fv (.int ((64*more:Nat):Int))) (b:=.fv (.int vj)) (o1:=o) (o2:=o) ((ev_bin (a:=.fv (.int 64)) (b:=.fv (.int more)) (o1:=o) (o2:=o) rfl (ev_var hm nofun)).trans ?_) (ev_var hj nofun)).trans ?_
 ·show some (MV.fv (.int (64*(more:Int))),o)=_
  rw [Int.natCast_mul];rfl
 ·show some (MV.fv (.int (((64*more:Nat):Int)+(vj:Int))),o)=_
  rw [Int.natCast_add]
noncomputable def sized (t:Nat) (l:List Nat):List Nat:=if t%2=0 then l.map up1 else l.map lo1
theorem sized_ok (t:Nat) {l:List Nat} (h:fine l=true) (ha:ascii l=true):fine (sized t l)=true∧ascii (sized t l)=true∧low (sized t l)=low l:=by
 unfold sized
 split
 ·exact upT_ok l h ha
 ·refine ⟨fine_low h ha,?_,low_low l ha⟩
  refine List.all_eq_true.mpr fun c hc=>?_
  obtain ⟨d,hd,rfl⟩:=List.mem_map.mp hc
  exact decide_eq_true (lo1_facts d (by simpa using List.all_eq_true.mp ha d hd)).1
theorem sized_arg {k n i j t r lo:Nat} {rows:List Nat} {vars:List MV} {o:List MO} {q1 q2 q3 q5 q6:Pos} {e:X} (hn:vars[n]?=some (.ref j)) (hd:o[j]?=some (.dict (nmD lo rows))) (hi:vars[i]?=some (.fv (.int r))) (hr:r∈rows) (hf:fine (nameOf lo r)=true) (ha:ascii (nameOf lo r)=true) (he:ev (tblN (k+1)) e vars o=some (.fv (.int t),o)):
  ev (tblN (k+1)) (.fn 4 (.cons (.sub (.var n q1) (.var i q2) q3) (.cons e .nil)) q5 q6) vars o=some (.fv (.str (sized t (nameOf lo r))),o):=
 (ev_fn (evs_cons (o1:=o) (ev_sub (a:=.ref j) (b:=.fv (.int r)) (o1:=o) (ev_var hn nofun) (ev_var hi nofun) (nth_dict hd (nmD_get hr))) (evs_1 he))).trans (call_sized k t _ ha (fine_lim hf))
abbrev HL:=List (List Nat × List Nat)
noncomputable def tob (lo:Nat) (rows:List Nat) (es:HL):List MO:=[.list (intL rows),.dict (nmD lo rows),.hdr 3,.list (es.map hd)]
theorem ties_add (k:Nat) {lo:Nat} {rows:List Nat} {es:HL} {n v:List Nat} (hn:fine n=true) (hv:fine v=true) (hl:es.length≤1000):
  callM (tblN (k+2)) 100 [.ref 2,.fv (.str n),.fv (.str v)] (tob lo rows es)=some (.fv .none,tob lo rows (es++[(n,v)])):=by
 unfold tob
 rw [add_in k _ _ _ n v hn hv (by rw [List.length_map];exact Nat.lt_of_le_of_lt hl (by decide)),List.map_append];rfl
theorem ties_hm {k i j t ri rj lo p more:Nat} {rows:List Nat} {es:HL} {x1 x2 x3:MV} {q1 q2 q3 q4 q5 q6 q7 q8 q9 q10 q11 q12 q13 q14 q15 q16 q17:Pos} (hi:(TV p more x1 x2 x3)[i]?=some (.fv (.int ri))) (hj:(TV p more x1 x2 x3)[j]?=some (.fv (.int rj))) (hr:ri∈rows) (hlo:lo<28) (hra:ri∈allRows) (hm:64*more+rj<2^30) (hl:es.length≤1000):
  ev (tblN (k+2)) (.hm (.var 4 q1) 0 (.cons (.fn 4 (.cons (.sub (.var 1 q2) (.var i q3) q4) (.cons (.ci (t:Nat) q5) .nil)) q6 q7) (.cons (.fn 5 (.cons (.bin (.bin (.ci 64 q8) .mul (.var 3 q9) q10) .add (.var j q11) q12) .nil) q13 q14) .nil)) .nil q15 q16 q17) (TV p more x1 x2 x3) (tob lo rows es)=
   some (.fv .none,tob lo rows (es++[(sized t (nameOf lo ri),octs (64*more+rj))])):=by
 obtain ⟨n1,n2⟩:=name_ok hlo hra
 refine (ev_hm (i:=2) (k:=3) (o1:=tob lo rows es) (o2:=tob lo rows es) (o3:=tob lo rows es) (vs:=[.fv (.str (sized t (nameOf lo ri))),.fv (.str (octs (64*more+rj)))]) (ws:=[]) rfl rfl (evs_cons (o1:=tob lo rows es) ?s (evs_1 ?o)) rfl).trans (ties_add k (sized_ok t n1 n2).1 (octs_fine hm) hl)
 case s=>exact sized_arg (n:=1) (j:=1) rfl rfl hi hr n1 n2 rfl
 case o=>exact (ev_fn (evs_1 (oct_arg rfl hj))).trans (call_octs _ _ hm)
noncomputable def tieE (lo more one two:Nat):HL:=if one<two∧one&&&two≠0 then [(sized 0 (nameOf lo one),octs (64*more+two)),(sized 1 (nameOf lo two),octs (64*more+one))] else []
theorem rows_lt {r:Nat} (h:r∈allRows):r<16:=by
 have:∀r∈allRows,r<16:=by decide
 exact this r h
theorem ties_turn {k lo p more one two:Nat} {rows:List Nat} {es:HL} {x due:MV} {its:List MV} (hp:menuP p) (h1:one∈rows) (h2:two∈rows) (a1:one∈allRows) (a2:two∈allRows) (hlo:lo<28) (hm:more<2^24) (hl:es.length≤900):
  ∃due',forStep (tblN (k+3)) 6 tiesFor2.body (.int two) ⟨TV p more (.fv (.int one)) x due,its,tob lo rows es,4⟩=some (.next,⟨TV p more (.fv (.int one)) (.fv (.int two)) due',its,tob lo rows (es++tieE lo more one two),4⟩):=by
 by_cases hlt:one<two
 case neg=>
  refine ⟨due,?_⟩
  rw [ties_skip _ hlt]
  unfold tieE
  rw [if_neg fun h=>hlt h.1,List.append_nil]
 have l1:=rows_lt a1
 have l2:=rows_lt a2
 have hb:tiesFor2.body=.cons tiesIf .nil:=rfl
 have hlt2:∀o,cmpop .lt (.fv (.int one)) (.fv (.int two)) o=some true:=fun o=>by rw [lt_nat,decide_eq_true hlt]
 let d:Nat:=if one&&&two≠0 then 2 else 3
 have hd:(if one&&&two≠0 then 2 else 3:Int)=((d:Nat):Int):=by show _=(((if one&&&two≠0 then 2 else 3:Nat)):Int);split<;>rfl
 refine ⟨.fv (.int d),?_⟩
 show exs _ tiesFor2.body ⟨TV p more (.fv (.int one)) (.fv (.int two)) due,its,tob lo rows es,4⟩=_
 rw [hb]
 refine (exs_step ((ex_iff (b:=true) (o:=tob lo rows es) (evT_cmp (ev_cmp (a:=.fv (.int one)) (b:=.fv (.int two)) (o1:=tob lo rows es) (o2:=tob lo rows es) rfl rfl (hlt2 _)))).trans ?_)).trans rfl
 have hand:∀o,binop .band (.fv (.int one)) (.fv (.int two)) o=some (.fv (.int ((one&&&two:Nat):Int)),o):=fun o=>by
  show (arith .band (one:Int) (two:Int)).map (fun c=>(MV.fv (.int c),o))=_
  rw [and_nat];rfl
 have hne:∀(a:Nat) (o:List MO),cmpop .ne (.fv (.int a)) (.fv (.int 0)) o=some (decide (a≠0)):=fun a o=>by
  show some ((a:Int) !=0)=_
  by_cases h:a=0
  ·subst h;rfl
  ·rw [decide_eq_true h,show ((a:Int) !=0)=true by simpa using h]
 have hev:∀q1 q2 q3 q4 q5,evT (tblN (k+3)) (.cmp (.bin (.var 5 q1) .band (.var 6 q2) q3) .ne (.ci 0 q4) q5) (ev (tblN (k+3)) (.cmp (.bin (.var 5 q1) .band (.var 6 q2) q3) .ne (.ci 0 q4) q5) (TV p more (.fv (.int one)) (.fv (.int two)) due) (tob lo rows es)) (TV p more (.fv (.int one)) (.fv (.int two)) due) (tob lo rows es)=some (decide ((one&&&two)≠0),tob lo rows es):=fun q1 q2 q3 q4 q5=>
  evT_cmp (ev_cmp (a:=.fv (.int ((one&&&two:Nat):Int))) (b:=.fv (.int 0)) (o1:=tob lo rows es) (o2:=tob lo rows es) ((ev_bin (a:=.fv (.int one)) (b:=.fv (.int two)) (o1:=tob lo rows es) (o2:=tob lo rows es) rfl rfl).trans (hand _)) rfl (hne _ _))
 refine (exs_step (ex_asg (v:=.fv (.int d)) (o:=tob lo rows es) ?za rfl)).trans ((exs_step (s':=⟨TV p more (.fv (.int one)) (.fv (.int two)) (.fv (.int d)),its,tob lo rows es,4⟩) ?zb).trans ((exs_step (s':=⟨TV p more (.fv (.int one)) (.fv (.int two)) (.fv (.int d)),its,tob lo rows (es++tieE lo more one two),4⟩) ?zc).trans rfl))
 case za=>
  refine (ev_ite (hev ..)).trans ?_
  by_cases h:(one&&&two)≠0
  ·rw [decide_eq_true h,show d=2 from if_pos h];rfl
  ·rw [decide_eq_false h,show d=3 from if_neg h];rfl
 case zb=>
  refine (ex_iff (b:=false) (o:=tob lo rows es) (evT_cmp (ev_cmp (a:=.fv (.int d)) (b:=.fv (.int d)) (o1:=tob lo rows es) (o2:=tob lo rows es) ?_ rfl ?_))).trans rfl
  ·refine (ev_fn (evs_cons (o1:=tob lo rows es) (v:=.fv (.str (wordT p one))) ((ev_fn (evs_cons (o1:=tob lo rows es) (v:=.fv (.int one)) rfl (evs_1 (v:=.fv (.int p)) rfl))).trans (call_word (k+1) hp (by omega))) (evs_cons (o1:=tob lo rows es) (v:=.fv (.str (wordT p two))) ((ev_fn (evs_cons (o1:=tob lo rows es) (v:=.fv (.int two)) rfl (evs_1 (v:=.fv (.int p)) rfl))).trans (call_word (k+1) hp (by omega))) (evs_1 (v:=.fv (.int 2)) rfl)))).trans ?_
   rw [←hd]
   exact call_lev (k+1) hp a1 a2 hlt
  ·show some ((d:Int) !=(d:Int))=_
   simp
 case zc=>
  have hr:one≤16:=Nat.le_of_lt l1
  refine (ex_iff (b:=decide ((one&&&two)≠0)) (o:=tob lo rows es) (evT_cmp (ev_cmp (a:=.fv (.int d)) (b:=.fv (.int 2)) (o1:=tob lo rows es) (o2:=tob lo rows es) rfl rfl ?_))).trans ?_
  ·show some ((d:Int)==2)=_
   by_cases h:(one&&&two)≠0
   ·rw [decide_eq_true h,show d=2 from if_pos h];rfl
   ·rw [decide_eq_false h,show d=3 from if_neg h];rfl
  by_cases h:(one&&&two)≠0
  ·have ht:tieE lo more one two=[(sized 0 (nameOf lo one),octs (64*more+two))]++[(sized 1 (nameOf lo two),octs (64*more+one))]:=if_pos ⟨hlt,h⟩
   rw [decide_eq_true h,ht,←List.append_assoc]
   refine (exs_step (ex_xp (v:=.fv .none) (o:=tob lo rows (es++[(sized 0 (nameOf lo one),octs (64*more+two))])) ?x)).trans ((exs_step (s':=⟨TV p more (.fv (.int one)) (.fv (.int two)) (.fv (.int d)),its,tob lo rows (es++[(sized 0 (nameOf lo one),octs (64*more+two))]++[(sized 1 (nameOf lo two),octs (64*more+one))]),4⟩) ((ex_iff (b:=false) (o:=tob lo rows (es++[(sized 0 (nameOf lo one),octs (64*more+two))]++[(sized 1 (nameOf lo two),octs (64*more+one))])) (evT_cmp (ev_cmp (a:=.fv .none) (b:=.fv .none) (o1:=tob lo rows (es++[(sized 0 (nameOf lo one),octs (64*more+two))]++[(sized 1 (nameOf lo two),octs (64*more+one))])) (o2:=tob lo rows (es++[(sized 0 (nameOf lo one),octs (64*more+two))]++[(sized 1 (nameOf lo two),octs (64*more+one))])) ?y rfl rfl))).trans rfl)).trans rfl)
   case x=>exact ties_hm (t:=0) rfl rfl h1 hlo a1 (by omega) (by omega)
   case y=>exact ties_hm (t:=1) rfl rfl h2 hlo a2 (by omega) (by simp;omega)
  ·have ht:tieE lo more one two=[]:=if_neg fun q=>h q.2
   rw [decide_eq_false h,ht,List.append_nil];rfl
end
section
theorem fm_len {α β:Type} (f:α→List β) (n:Nat) (hf:∀x,(f x).length≤n):∀l:List α,(l.flatMap f).length≤n*l.length
 |[]=>by simp
 |x::r=>by
  have h1:=hf x
  have h2:=fm_len f n hf r
  rw [List.flatMap_cons,List.length_append,List.length_cons,Nat.mul_add];omega
theorem tieE_len (lo more one two:Nat):(tieE lo more one two).length≤2:=by unfold tieE;split<;>simp
noncomputable def tieR (lo more:Nat) (rows:List Nat) (one:Nat):HL:=rows.flatMap (tieE lo more one)
noncomputable def tieAll (lo more:Nat) (rows:List Nat):HL:=rows.flatMap (tieR lo more rows)
section
variable {k lo p more:Nat} {rows:List Nat}
theorem ties_loop (hp:menuP p) (hlo:lo<28) (hm:more<2^24) (hr:∀r∈rows,r∈allRows) (one:Nat) (h1:one∈rows):∀(l:List Nat) (es:HL) (x due:MV),(∀r∈l,r∈rows)→es.length+2*l.length≤900→
  ∃x' due',turns (forStep (tblN (k+3)) 6 tiesFor2.body) (some (.list (intL rows))) (intL l) ⟨TV p more (.fv (.int one)) x due,[.ref 0,.ref 0],tob lo rows es,4⟩=some (none,⟨TV p more (.fv (.int one)) x' due',[.ref 0,.ref 0],tob lo rows (es++l.flatMap (tieE lo more one)),4⟩)
 |[],es,x,due,hl,hn=>⟨x,due,by
  rw [List.flatMap_nil,List.append_nil];exact turns_nil rfl⟩
 |two::r,es,x,due,hl,hn=>by
  have h2:=hl two (.head _)
  rw [List.length_cons] at hn
  obtain ⟨due1,e1⟩:=ties_turn (k:=k) (lo:=lo) (more:=more) (es:=es) (x:=x) (due:=due) (its:=[.ref 0,.ref 0]) hp h1 h2 (hr _ h1) (hr _ h2) hlo hm (by omega)
  have hq:=tieE_len lo more one two
  obtain ⟨x',due',e2⟩:=ties_loop hp hlo hm hr one h1 r (es++tieE lo more one two) (.fv (.int two)) due1 (fun q hq=>hl q (.tail _ hq)) (by rw [List.length_append];omega)
  refine ⟨x',due',?_⟩
  rw [List.flatMap_cons,←List.append_assoc]
  exact (turns_next (s:=⟨TV p more (.fv (.int one)) x due,[.ref 0,.ref 0],tob lo rows es,4⟩) rfl e1).trans e2
theorem ties_loop2 (hp:menuP p) (hlo:lo<28) (hm:more<2^24) (hr:∀r∈rows,r∈allRows) (hrl:rows.length≤6):∀(l:List Nat) (es:HL) (x y due:MV),(∀r∈l,r∈rows)→es.length+12*l.length≤800→
  ∃x' y' due',turns (forStep (tblN (k+3)) 5 tiesFor1.body) (some (.list (intL rows))) (intL l) ⟨TV p more x y due,[.ref 0],tob lo rows es,4⟩=some (none,⟨TV p more x' y' due',[.ref 0],tob lo rows (es++l.flatMap (tieR lo more rows)),4⟩)
 |[],es,x,y,due,hl,hn=>⟨x,y,due,by
  rw [List.flatMap_nil,List.append_nil];exact turns_nil rfl⟩
 |one::r,es,x,y,due,hl,hn=>by
  have h1:=hl one (.head _)
  rw [List.length_cons] at hn
  obtain ⟨y1,due1,e1⟩:=ties_loop (k:=k) hp hlo hm hr one h1 rows es y due (fun q h=>h) (by omega)
  have hq:(tieR lo more rows one).length≤2*rows.length:=fm_len _ 2 (tieE_len lo more one) rows
  obtain ⟨x',y',due',e2⟩:=ties_loop2 hp hlo hm hr hrl r (es++tieR lo more rows one) (.fv (.int one)) y1 due1 (fun q hq=>hl q (.tail _ hq)) (by rw [List.length_append];omega)
  refine ⟨x',y',due',?_⟩
  rw [List.flatMap_cons,←List.append_assoc]
  refine (turns_next (s:=⟨TV p more x y due,[.ref 0],tob lo rows es,4⟩) rfl (s':=⟨TV p more (.fv (.int one)) y1 due1,[.ref 0],tob lo rows (es++tieR lo more rows one),4⟩) ?_).trans e2
  have hb:tiesFor1.body=.cons tiesFor2 .nil:=rfl
  show exs _ tiesFor1.body ⟨TV p more (.fv (.int one)) y due,[.ref 0],tob lo rows es,4⟩=_
  rw [hb]
  refine (exs_step (s':=⟨TV p more (.fv (.int one)) y1 due1,[.ref 0],tob lo rows (es++tieR lo more rows one),4⟩) ?_).trans rfl
  refine (ex_forS (x:=.ref 0) (o:=tob lo rows es) (full:=intL rows) (s':=⟨TV p more (.fv (.int one)) y1 due1,[.ref 0,.ref 0],tob lo rows (es++tieR lo more rows one),4⟩) rfl rfl (if_pos ?_) ?tr).trans rfl
  ·unfold intL;rw [List.length_map];exact Nat.le_trans hrl (by decide)
  case tr=>exact e1
theorem T8 (hp:menuP p) (hlo:lo<28) (hm:more<2^24) (hr:∀r∈rows,r∈allRows) (hrl:rows.length≤6):
  tblN (k+4) 8 [.ref 0,.ref 1,.fv (.int p),.fv (.int more),.ref 2] (tob lo rows [])=some (.fv (.bool true),tob lo rows (tieAll lo more rows)):=by
 obtain ⟨x',y',due',e⟩:=ties_loop2 (k:=k) hp hlo hm hr hrl rows [] .unb .unb .unb (fun q h=>h) (by simp;omega)
 show runBody (tblN (k+3)) bFlawtied (TV p more .unb .unb .unb) (tob lo rows [])=_
 have hB:bFlawtied=.cons tiesFor1 (.cons (bFlawtied.at 1) .nil):=rfl
 rw [hB]
 refine runBody_ret (s:=⟨TV p more x' y' due',[],tob lo rows (tieAll lo more rows),4⟩) ((exs_step (s':=⟨TV p more x' y' due',[],tob lo rows (tieAll lo more rows),4⟩) ?_).trans (exs_ret (ex_ret rfl)))
 refine (ex_forS (x:=.ref 0) (o:=tob lo rows []) (full:=intL rows) (s':=⟨TV p more x' y' due',[.ref 0],tob lo rows (tieAll lo more rows),4⟩) rfl rfl (if_pos ?_) ?tr).trans rfl
 ·unfold intL;rw [List.length_map];exact Nat.le_trans hrl (by decide)
 case tr=>exact e
end
end
section
theorem and_pow (q i:Nat):(q*2^i)&&&2^i=q%2*2^i:=by
 apply Nat.eq_of_testBit_eq
 intro j
 rw [Nat.testBit_and,Nat.testBit_mul_two_pow,Nat.testBit_two_pow,Nat.testBit_mul_two_pow]
 by_cases h:i=j
 ·subst h;simp [Nat.testBit_zero]
 ·simp only [h,decide_false,Bool.and_false]
  by_cases h2:i≤j
  ·obtain ⟨d,rfl⟩:∃d,j=i+(d+1):=⟨j-i-1,by omega⟩
   rw [show i+(d+1)-i=d+1 by omega,Nat.testBit_succ,show q%2/2=0 by omega];simp
  ·simp [h2]
theorem xor_pow (q i:Nat) (hq:q%2=1):(q*2^i)^^^2^i=q/2*2^(i+1):=by
 apply Nat.eq_of_testBit_eq
 intro j
 rw [Nat.testBit_xor,Nat.testBit_mul_two_pow,Nat.testBit_two_pow,Nat.testBit_mul_two_pow]
 by_cases h:i=j
 ·subst h
  rw [Nat.sub_self,Nat.testBit_zero,hq,decide_eq_false (show ¬i+1≤i by omega)];simp
 ·simp only [h,decide_false,Bool.xor_false]
  by_cases h2:i≤j
  ·obtain ⟨d,rfl⟩:∃d,j=i+(d+1):=⟨j-i-1,by omega⟩
   rw [show i+(d+1)-i=d+1 by omega,Nat.testBit_succ,show i+(d+1)-(i+1)=d by omega]
   simp
  ·simp [h2,show ¬i+1≤j by omega]
noncomputable def FVs (a:Nat) (x fl:MV):List MV:=[.fv (.int a),.ref 0,x,fl,.unb,.unb,.unb]
noncomputable def flagFor:S:=bFprettyflags.at 1
noncomputable def flagB:Ss:=flagFor.body
theorem flag_word:∀i,i<32→(((flagNames.lookup ((2^i:Nat):Int)).map FV.str).getD (.str (hexOf ((2^i:Nat):Int)))=.str (wordOf i))∧(hexOf ((2^i:Nat):Int)).length≤lim:=by decide+kernel
theorem hex_ok {n:Nat} {o:List MO} (h:(hexOf (n:Int)).length≤lim):builtin .hex [.fv (.int n)] o=some (.fv (.str (hexOf (n:Int))),o):=by
 exact hex_int (by rw [decide_eq_true (Int.natCast_nonneg n),decide_eq_true h];rfl)
theorem shl_one {i:Nat} (h:i≤1000):arith .shl 1 (i:Int)=some ((2^i:Nat):Int):=by
 show (if 0≤(i:Int)&&(i:Int)≤1000&&(1:Int).natAbs<big then some ((1:Int)*2^(i:Int).toNat) else none)=_
 rw [if_pos (by simp only [Bool.and_eq_true,decide_eq_true_eq];exact ⟨⟨Int.natCast_nonneg i,by omega⟩,by decide⟩),Int.toNat_natCast,Int.one_mul,Int.natCast_pow];rfl
theorem xor_nat (a b:Nat):arith .bxor (a:Int) (b:Int)=some ((a^^^b:Nat):Int):=by
 show (if 0≤(a:Int)&&0≤(b:Int) then some ((((a:Int).toNat^^^(b:Int).toNat:Nat)):Int) else none)=_
 rw [if_pos (by simp)];simp
theorem truthy_nat {T:Tbl} {x:X} {vars:List MV} {o o1:List MO} {n:Nat}:((match (some (MV.fv (.int n),o1):Option (MV × List MO)) with|some (v,o1)=>(truthyM v o1).map fun b=>(b,o1)|none=>none):Option (Bool × List MO))=some (decide (n≠0),o1):=by
 show some (((n:Int) !=0),o1)=_
 by_cases h:n=0
 ·subst h;rfl
 ·rw [decide_eq_true h,show ((n:Int) !=0)=true by simpa using h]
theorem flag_turn (T:Tbl) (q i:Nat) (hi:i<32) (ns:List FV) (hn:ns.length≤100) (x fl:MV) (its:List MV):
  forStep T 2 flagB (.int i) ⟨FVs (q*2^i) x fl,its,[.list ns],0⟩=some (if q%2=1∧q/2=0 then .brk else .next,⟨FVs (q/2*2^(i+1)) (.fv (.int i)) (.fv (.int ((2^i:Nat):Int))),its,[.list (ns++if q%2=1 then [.str (wordOf i)] else [])],0⟩):=by
 obtain ⟨f1,f2⟩:=flag_word i hi
 have hB:flagB=.cons (flagB.at 0) (.cons (flagB.at 1) .nil):=rfl
 show exs T flagB ⟨FVs (q*2^i) (.fv (.int i)) fl,its,[.list ns],0⟩=_
 rw [hB]
 refine (exs_step (ex_asg (v:=.fv (.int ((2^i:Nat):Int))) (o:=[.list ns]) ?za rfl)).trans ?_
 case za=>
  refine (ev_bin (a:=.fv (.int 1)) (b:=.fv (.int i)) (o1:=[.list ns]) (o2:=[.list ns]) rfl rfl).trans ?_
  show (arith .shl 1 (i:Int)).map (fun c=>(MV.fv (.int c),[MO.list ns]))=_
  rw [shl_one (by omega)];rfl
 have hev:∀q1 q2 q3,evT T (.bin (.var 0 q1) .band (.var 3 q2) q3) (ev T (.bin (.var 0 q1) .band (.var 3 q2) q3) (FVs (q*2^i) (.fv (.int i)) (.fv (.int ((2^i:Nat):Int)))) [.list ns]) (FVs (q*2^i) (.fv (.int i)) (.fv (.int ((2^i:Nat):Int)))) [.list ns]=some (decide (q%2=1),[.list ns]):=by
  intro q1 q2 q3
  have e:ev T (.bin (.var 0 q1) .band (.var 3 q2) q3) (FVs (q*2^i) (.fv (.int i)) (.fv (.int ((2^i:Nat):Int)))) [.list ns]=some (.fv (.int ((q%2*2^i:Nat):Int)),[.list ns]):=by
   refine (ev_bin (a:=.fv (.int ((q*2^i:Nat):Int))) (b:=.fv (.int ((2^i:Nat):Int))) (o1:=[.list ns]) (o2:=[.list ns]) rfl rfl).trans ?_
   show (arith .band ((q*2^i:Nat):Int) ((2^i:Nat):Int)).map (fun c=>(MV.fv (.int c),[MO.list ns]))=_
   rw [and_nat,and_pow];rfl
  rw [e]
  refine (truthy_nat (T:=T) (x:=.no) (vars:=[]) (o:=[])).trans ?_
  congr 2
  have hp:=Nat.two_pow_pos i
  by_cases h:q%2=1
  ·rw [decide_eq_true h,h,decide_eq_true (by omega)]
  ·rw [decide_eq_false h,show q%2=0 by omega,Nat.zero_mul];rfl
 have hqi:q/2*2^(i+1)=q/2*2*2^i:=by rw [Nat.pow_succ];rw [Nat.mul_assoc,Nat.mul_comm 2 (2^i)]
 by_cases h:q%2=1
 case neg=>
  rw [if_neg fun h2=>h h2.1,if_neg h,List.append_nil,hqi,show q/2*2=q by omega]
  refine (exs_step ((ex_iff (b:=false) (o:=[.list ns]) ((hev ..).trans (by rw [decide_eq_false h]))).trans rfl)).trans rfl
 rw [if_pos h]
 have key:exs T (flagB.at 1).body ⟨FVs (q*2^i) (.fv (.int i)) (.fv (.int ((2^i:Nat):Int))),its,[.list ns],0⟩=some (if q%2=1∧q/2=0 then .brk else .next,⟨FVs (q/2*2^(i+1)) (.fv (.int i)) (.fv (.int ((2^i:Nat):Int))),its,[.list (ns++[.str (wordOf i)])],0⟩):=by
  have hB2:(flagB.at 1).body=.cons ((flagB.at 1).body.at 0) (.cons ((flagB.at 1).body.at 1) (.cons ((flagB.at 1).body.at 2) .nil)):=rfl
  rw [hB2]
  refine (exs_step (ex_xp (v:=.fv .none) (o:=[.list (ns++[.str (wordOf i)])]) ?x1)).trans ((exs_step (ex_aug (a:=.int ((q*2^i:Nat):Int)) (b:=.int ((2^i:Nat):Int)) (c:=.fv (.int ((q/2*2^(i+1):Nat):Int))) (o1:=[.list (ns++[.str (wordOf i)])]) (o2:=[.list (ns++[.str (wordOf i)])]) rfl rfl ?x2)).trans ?x3)
  case x1=>
   refine (ev_me (a:=.ref 0) (o1:=[.list ns]) rfl rfl (evs_1 (v:=.fv (.str (wordOf i))) (o1:=[.list ns]) ?_)).trans (appendM_ok rfl (Nat.lt_of_le_of_lt hn (by decide)))
   refine (ev_me (a:=.gl 0) (o1:=[.list ns]) rfl rfl (evs_cons (v:=.fv (.int ((2^i:Nat):Int))) (o1:=[.list ns]) rfl (evs_1 (v:=.fv (.str (hexOf ((2^i:Nat):Int)))) (o1:=[.list ns]) ((ev_bi (evs_1 (v:=.fv (.int ((2^i:Nat):Int))) (o1:=[.list ns]) rfl)).trans (hex_ok f2))))).trans ?_
   show some (MV.fv (((flagNames.lookup ((2^i:Nat):Int)).map FV.str).getD (.str (hexOf ((2^i:Nat):Int)))),[MO.list ns])=_
   rw [f1]
  case x2=>
   show (arith .bxor ((q*2^i:Nat):Int) ((2^i:Nat):Int)).map (fun c=>(MV.fv (.int c),[MO.list (ns++[.str (wordOf i)])]))=_
   rw [xor_nat,xor_pow q i h];rfl
  case x3=>
   have ht:∀q1 q2,evT T (.not (.var 0 q1) q2) (ev T (.not (.var 0 q1) q2) (FVs (q/2*2^(i+1)) (.fv (.int i)) (.fv (.int ((2^i:Nat):Int)))) [.list (ns++[.str (wordOf i)])]) (FVs (q/2*2^(i+1)) (.fv (.int i)) (.fv (.int ((2^i:Nat):Int)))) [.list (ns++[.str (wordOf i)])]=some (decide (q/2=0),[.list (ns++[.str (wordOf i)])]):=by
    intro q1 q2
    have h0:=truthy_nat (T:=T) (x:=.no) (vars:=[]) (o:=[]) (n:=q/2*2^(i+1)) (o1:=[MO.list (ns++[FV.str (wordOf i)])])
    show Option.map (fun p:Bool × List MO=>(!p.1,p.2)) (match (some (MV.fv (.int ((q/2*2^(i+1):Nat):Int)),[MO.list (ns++[FV.str (wordOf i)])]):Option (MV × List MO)) with|some (v,o1)=>(truthyM v o1).map fun b=>(b,o1)|none=>none)=_
    rw [h0]
    have hp:=Nat.two_pow_pos (i+1)
    show some (!decide (q/2*2^(i+1)≠0),[MO.list (ns++[FV.str (wordOf i)])])=_
    by_cases hz:q/2=0
    ·rw [hz,Nat.zero_mul];rfl
    ·rw [decide_eq_false hz,decide_eq_true (Nat.mul_ne_zero hz (by omega))];rfl
   by_cases hz:q/2=0
   ·rw [if_pos ⟨h,hz⟩]
    exact exs_brk ((ex_iff (b:=true) (o:=[.list (ns++[.str (wordOf i)])]) ((ht ..).trans (by rw [decide_eq_true hz]))).trans rfl)
   ·rw [if_neg fun h2=>hz h2.2]
    exact (exs_step ((ex_iff (b:=false) (o:=[.list (ns++[.str (wordOf i)])]) ((ht ..).trans (by rw [decide_eq_false hz]))).trans rfl)).trans rfl
 have e1:=(ex_iff (q:=⟨54,8,58,21⟩) (c:=(flagB.at 1).body) (e:=.nil) (b:=true) (o:=[.list ns]) ((hev (pq 54 11 16) (pq 54 19 23) (pq 54 11 23)).trans (by rw [decide_eq_true h])) (s:=⟨FVs (q*2^i) (.fv (.int i)) (.fv (.int ((2^i:Nat):Int))),its,[.list ns],0⟩)).trans key
 by_cases hz:q/2=0
 ·rw [if_pos ⟨h,hz⟩] at e1 ⊢
  exact exs_brk e1
 ·rw [if_neg fun h2=>hz h2.2] at e1 ⊢
  exact (exs_step e1).trans rfl
end
section
noncomputable def fw:Nat→Nat→Nat→List (List Nat)
 |0,_,_=>[]
 |n+1,i,q=>(if q%2=1 then [wordOf i] else [])++fw n (i+1) (q/2)
theorem fw_top (m:Nat):∀(n i a:Nat),fw n i (a+m*2^n)=fw n i a
 |0,i,a=>rfl
 |n+1,i,a=>by
  have h:a+m*2^(n+1)=a+m*2^n*2:=by rw [Nat.pow_succ,Nat.mul_assoc]
  unfold fw
  rw [h,show (a+m*2^n*2)%2=a%2 by omega,show (a+m*2^n*2)/2=a/2+m*2^n by omega,fw_top m n (i+1) (a/2)]
theorem fw_len:∀(n i q:Nat),(fw n i q).length≤n
 |0,i,q=>Nat.le_refl _
 |n+1,i,q=>by
  have:=fw_len n (i+1) (q/2)
  unfold fw
  rw [List.length_append]
  split<;>simp<;>omega
theorem div_two_pow (q n:Nat):q/2/2^n=q/2^(n+1):=by rw [Nat.div_div_eq_div_mul,Nat.pow_succ,Nat.mul_comm]
theorem ex_forS_fl {T:Tbl} {s s':MS} {ti:Nat} {iter:X} {b e:Ss} {pt p:Pos} {x:MV} {o:List MO} {full:List FV} {f:Fl} (h1:ev T iter s.vars s.objs=some (x,o)) (hd:noDict (origOf x o)=true) (h2:srcItems x o=some full)
  (h3:turns (forStep T ti b) (origOf x o) full ⟨s.vars,x::s.its,o,s.n⟩=some (some f,s')):ex T (.forS ti iter b e pt p) s=some (f,⟨s'.vars,s'.its.tail,s'.objs,s'.n⟩):=by
 unfold forStep at h3
 simp only [ex,h1,hd,if_true,h2,h3]
theorem flag_loop (T:Tbl) (its:List MV) (hits:∀o,origOf (its.headD .unb) o=none):∀(n r i q:Nat) (ns:List FV) (x fl:MV),i+n≤32→ns.length+n≤100→0<q/2^n→
  ∃x' fl',turns (forStep T 2 flagB) none (rngFrom 1 (n+r) (i:Int)) ⟨FVs (q*2^i) x fl,its,[.list ns],0⟩=turns (forStep T 2 flagB) none (rngFrom 1 r ((i+n:Nat):Int)) ⟨FVs (q/2^n*2^(i+n)) x' fl',its,[.list (ns++(fw n i q).map .str)],0⟩
 |0,r,i,q,ns,x,fl,hi,hn,hq=>⟨x,fl,by rw [Nat.zero_add,show fw 0 i q=[] from rfl,Nat.pow_zero,Nat.div_one,Nat.add_zero];simp⟩
 |n+1,r,i,q,ns,x,fl,hi,hn,hq=>by
  have e1:=flag_turn T q i (by omega) ns (by omega) x fl its
  rw [←div_two_pow] at hq ⊢
  have hz:q/2≠0:=fun h=>by rw [h,Nat.zero_div] at hq;cases hq
  rw [if_neg fun h=>hz h.2] at e1
  obtain ⟨x',fl',e2⟩:=flag_loop T its hits n r (i+1) (q/2) (ns++if q%2=1 then [.str (wordOf i)] else []) (.fv (.int i)) (.fv (.int ((2^i:Nat):Int))) (by omega) (by rw [List.length_append];split<;>simp<;>omega) hq
  refine ⟨x',fl',?_⟩
  rw [show n+1+r=(n+r)+1 by omega,rngFrom_cons]
  refine (turns_next (s:=⟨FVs (q*2^i) x fl,its,[.list ns],0⟩) (hits _) e1).trans ?_
  rw [e2,show i+(n+1)=i+1+n by omega]
  have hl:(ns++if q%2=1 then [FV.str (wordOf i)] else [])++(fw n (i+1) (q/2)).map FV.str=ns++(fw (n+1) i q).map .str:=by
   conv=>rhs;unfold fw
   rw [List.map_append,List.append_assoc]
   congr 2
   split<;>rfl
  rw [hl]
theorem strs_ok:∀ys:List (List Nat),strs? (ys.map .str)=some ys
 |[]=>rfl
 |y::r=>by
  show (strs? (r.map .str)).map (y:: ·)=_
  rw [strs_ok r];rfl
theorem join_ok {i:Nat} {o:List MO} {sep:List Nat} {ys:List (List Nat)} (h:o[i]?=some (.list (ys.map .str))) (hl:(ys.map List.length).sum+ys.length*sep.length≤lim):methodM .join (.fv (.str sep)) [.ref i] o=some (.fv (.str (joinL sep ys)),o):=by
 exact (bindE (listAt_of h)).trans ((bindE (strs_ok ys)).trans (if_pos hl))
theorem sum_len (b:Nat):∀ys:List (List Nat),(∀y∈ys,y.length≤b)→(ys.map List.length).sum≤ys.length*b
 |[],_=>Nat.zero_le _
 |y::r,h=>by
  have h1:=h y (.head _)
  have h2:=sum_len b r fun z hz=>h z (.tail _ hz)
  rw [List.map_cons,List.sum_cons,List.length_cons,Nat.add_mul];omega
theorem word_len:∀i,i<32→(wordOf i).length≤30:=by decide+kernel
theorem fw_mem:∀(n i q:Nat),i+n≤32→∀y∈fw n i q,y.length≤30
 |0,i,q,hi,y,h=>by cases h
 |n+1,i,q,hi,y,h=>by
  unfold fw at h
  rcases List.mem_append.mp h with h|h
  ·split at h
   ·rw [List.mem_singleton.mp h];exact word_len i (by omega)
   ·cases h
  ·exact fw_mem n (i+1) (q/2) (by omega) y h
theorem hex_zero (n:Nat) (hn:0<n):hexOf ((n*16:Nat):Int)=hexOf (n:Int)++[48]:=by
 have h:=Nat.toDigits_append_toDigits (b:=16) (n:=n) (d:=0) (by decide) hn (by decide)
 unfold hexOf
 rw [Int.toNat_natCast,Int.toNat_natCast,show n*16=16*n+0 by omega,←h,Nat.toDigits_zero,List.map_append];rfl
theorem hex_zeros (n:Nat) (hn:0<n):∀k,hexOf ((n*16^k:Nat):Int)=hexOf (n:Int)++List.replicate k 48
 |0=>by simp
 |k+1=>by
  rw [Nat.pow_succ,←Nat.mul_assoc,hex_zero _ (Nat.mul_pos hn (Nat.pow_pos (by decide))),hex_zeros n hn k,List.append_assoc,List.replicate_succ']
theorem hex_len {n:Nat} (h:n<2^24):(hexOf (n:Int)).length≤8:=by
 have:=(Nat.length_toDigits_le_iff (b:=16) (n:=n) (k:=6) (by decide) (by decide)).mpr h
 unfold hexOf
 rw [Int.toNat_natCast,List.length_cons,List.length_cons,List.length_map];omega
noncomputable def topL (m:Nat):List (List Nat):=if 0<m then [hexOf (m:Int)++List.replicate 8 48] else []
theorem T10m (k a m:Nat) (ha:a<2^32) (ha2:2^31≤a) (hm:m<2^24):∃oc,tblN (k+1) 10 [.fv (.int ((a+m*2^32:Nat):Int))] []=some (.fv (.str (joinL [44,32] (fw 32 0 a++topL m))),oc):=by
 have hbig:∀y∈fw 32 0 a++topL m,y.length≤30:=fun y hy=>by
  rcases List.mem_append.mp hy with h|h
  ·exact fw_mem 32 0 a (by decide) y h
  ·unfold topL at h
   split at h
   ·rw [List.mem_singleton.mp h,List.length_append,List.length_replicate]
    have:=hex_len hm;omega
   ·cases h
 have hlen:(fw 32 0 a++topL m).length≤33:=by
  have:=fw_len 32 0 a
  rw [List.length_append];unfold topL;split<;>simp<;>omega
 have hj:∀o:List MO,o[0]?=some (.list ((fw 32 0 a++topL m).map .str))→methodM .join (.fv (.str [44,32])) [.ref 0] o=some (.fv (.str (joinL [44,32] (fw 32 0 a++topL m))),o):=fun o h=>join_ok h (by
  have:=sum_len 30 _ hbig
  show _+_*2≤100000;omega)
 have hhex:m≠0→∀o,builtin .hex [.fv (.int ((m*2^32:Nat):Int))] o=some (.fv (.str (hexOf (m:Int)++List.replicate 8 48)),o):=fun h o=>by
  have e:hexOf ((m*2^32:Nat):Int)=hexOf (m:Int)++List.replicate 8 48:=hex_zeros m (by omega) 8
  have:=hex_len hm
  rw [hex_ok (by rw [e,List.length_append,List.length_replicate];unfold lim;omega),e]
 show ∃oc,runBody (tblN k) bFprettyflags [.fv (.int ((a+m*2^32:Nat):Int)),.unb,.unb,.unb,.unb,.unb,.unb] []=_
 have hB:bFprettyflags=.cons (bFprettyflags.at 0) (.cons flagFor (.cons (bFprettyflags.at 2) .nil)):=rfl
 refine ⟨[.list ((fw 32 0 a++topL m).map .str)],?_⟩
 suffices H:∃v0 x' fl',ex (tblN k) flagFor ⟨FVs (a+m*2^32) .unb .unb,[],[.list []],0⟩=some (.next,⟨[v0,.ref 0,x',fl',.unb,.unb,.unb],[],[.list ((fw 32 0 a++topL m).map .str)],0⟩) by
  obtain ⟨v0,x',fl',e⟩:=H
  refine runBody_ret (s:=⟨[v0,.ref 0,x',fl',.unb,.unb,.unb],[],[.list ((fw 32 0 a++topL m).map .str)],0⟩) ?_
  rw [hB]
  refine (exs_step (s':=⟨FVs (a+m*2^32) .unb .unb,[],[.list []],0⟩) rfl).trans ((exs_step e).trans (exs_ret (ex_ret ?_)))
  exact (ev_me (a:=.fv (.str [44,32])) (o1:=[.list ((fw 32 0 a++topL m).map .str)]) rfl rfl (evs_1 (v:=.ref 0) (o1:=[.list ((fw 32 0 a++topL m).map .str)]) rfl)).trans (hj _ rfl)
 have hrange:builtin .range [.fv (.int 32)] [.list []]=some (.rng 0 32 1,[.list []]):=range_ok 32 _ (by decide)
 have hr:∀p1 p2 p3 p4 p5,ev (tblN k) (.bi .range (.cons (.ci 32 p1) .nil) p2 p3 p4 p5) (FVs (a+m*2^32) .unb .unb) [.list []]=some (.rng 0 32 1,[.list []]):=fun p1 p2 p3 p4 p5=>(ev_bi (evs_1 (v:=.fv (.int 32)) (o1:=[.list []]) rfl)).trans hrange
 by_cases h0:m=0
 case pos=>
  subst h0
  obtain ⟨x1,fl1,e1⟩:=flag_loop (tblN k) [.rng 0 32 1] (fun _=>rfl) 31 1 0 a [] .unb .unb (by decide) (by simp) (Nat.div_pos ha2 (Nat.two_pow_pos _))
  have h1:a/2^31=1:=Nat.div_eq_of_lt_le (by omega) (by omega)
  have e2:=flag_turn (tblN k) 1 31 (by decide) ((fw 31 0 a).map .str) (by rw [List.length_map];have:=fw_len 31 0 a;omega) x1 fl1 [.rng 0 32 1]
  rw [if_pos (by decide),if_pos (by decide)] at e2
  have hf:(fw 31 0 a).map FV.str++[.str (wordOf 31)]=(fw 32 0 a++topL 0).map .str:=by
   have:∀(n i q:Nat),fw (n+1) i q=fw n i q++if q/2^n%2=1 then [wordOf (i+n)] else []:=by
    intro n
    induction n with
    |zero=>intro i q;unfold fw;rw [Nat.pow_zero,Nat.div_one,Nat.add_zero];simp [fw]
    |succ n ih=>
     intro i q
     conv=>lhs;unfold fw
     rw [ih (i+1) (q/2),div_two_pow,show i+1+n=i+(n+1) by omega,←List.append_assoc];rfl
   rw [this 31 0 a,h1]
   simp [topL]
  have et:turns (forStep (tblN k) 2 flagB) none (rngFrom 1 32 ((0:Nat):Int)) ⟨FVs (a+0*2^32) .unb .unb,[.rng 0 32 1],[.list []],0⟩=some (some .next,⟨FVs (1/2*2^32) (.fv (.int (31:Nat))) (.fv (.int ((2^31:Nat):Int))),[.rng 0 32 1],[.list ((fw 32 0 a++topL 0).map .str)],0⟩):=by
   rw [←hf]
   rw [Nat.pow_zero,Nat.mul_one,h1] at e1
   rw [Nat.zero_mul,Nat.add_zero]
   refine e1.trans ?_
   rw [List.nil_append]
   exact turns_brk (s:=⟨FVs (1*2^(0+31)) x1 fl1,[.rng 0 32 1],[.list ((fw 31 0 a).map .str)],0⟩) rfl e2
  refine ⟨.fv (.int ((1/2*2^32:Nat):Int)),.fv (.int (31:Nat)),.fv (.int ((2^31:Nat):Int)),?_⟩
  refine (ex_forS_fl (f:=.next) (s':=⟨FVs (1/2*2^32) (.fv (.int (31:Nat))) (.fv (.int ((2^31:Nat):Int))),[.rng 0 32 1],[.list ((fw 32 0 a++topL 0).map .str)],0⟩) (x:=.rng 0 32 1) (o:=[.list []]) (full:=rngFrom 1 32 ((0:Nat):Int)) (hr ..) rfl (src_rng 32 _ (by decide)) ?tr).trans ?_
  case tr=>exact et
  rfl
 case neg=>
  have hq:(a+m*2^32)/2^32=m:=by omega
  obtain ⟨x1,fl1,e1⟩:=flag_loop (tblN k) [.rng 0 32 1] (fun _=>rfl) 32 0 0 (a+m*2^32) [] .unb .unb (by decide) (by simp) (by omega)
  rw [hq,fw_top] at e1
  refine ⟨.fv (.int ((m*2^32:Nat):Int)),x1,fl1,?_⟩
  refine (ex_forS (x:=.rng 0 32 1) (o:=[.list []]) (full:=rngFrom 1 32 ((0:Nat):Int)) (s':=⟨FVs (m*2^32) x1 fl1,[.rng 0 32 1],[.list ((fw 32 0 a).map .str)],0⟩) (hr ..) rfl (src_rng 32 _ (by decide)) ?tr).trans ?_
  case tr=>
   rw [Nat.pow_zero,Nat.mul_one] at e1
   exact e1.trans (turns_nil rfl)
  have htop:(fw 32 0 a++topL m).map FV.str=(fw 32 0 a).map .str++[.str (hexOf (m:Int)++List.replicate 8 48)]:=by
   unfold topL;rw [if_pos (by omega),List.map_append];rfl
  rw [htop]
  refine (exs_step (ex_xp (v:=.fv .none) (o:=[.list ((fw 32 0 a).map .str++[.str (hexOf (m:Int)++List.replicate 8 48)])]) ?_)).trans rfl
  refine (ev_me (a:=.ref 0) (o1:=[.list ((fw 32 0 a).map .str)]) rfl rfl (evs_1 (v:=.fv (.str (hexOf (m:Int)++List.replicate 8 48))) (o1:=[.list ((fw 32 0 a).map .str)]) ((ev_bi (evs_1 (v:=.fv (.int ((m*2^32:Nat):Int))) (o1:=[.list ((fw 32 0 a).map .str)]) rfl)).trans (hhex h0 _)))).trans (appendM_ok rfl ?_)
  rw [List.length_map]
  have:=fw_len 32 0 a
  unfold lenLim;omega
end
section
theorem back_gen {rs:List Nat} {oc:List MO}:∀(o o':List MO) (i:Nat),o'.length=o.length→
  (∀j x,o[j]?=some x→(if rs.contains (i+j) then (match oc[rs.idxOf (i+j)]? with|some n=>back1 rs x n|none=>none) else some x)=o'[j]?)→backFrom rs oc i o=some o'
 |[],[],i,_,_=>rfl
 |x::r,y::r',i,hl,h=>by
  have h0:=h 0 x rfl
  have h1:=back_gen r r' (i+1) (by simpa using hl) fun j z hz=>by
   have:=h (j+1) z (by simpa using hz)
   rw [show i+1+j=i+(j+1) by omega];simpa using this
  show (match (if rs.contains i then (match oc[rs.idxOf i]? with|some n=>back1 rs x n|none=>none) else some x) with|some o'=>(match backFrom rs oc (i+1) r with|some r'=>some (o'::r')|none=>none)|none=>none)=_
  rw [Nat.add_zero] at h0
  rw [h0,h1];rfl
theorem back_tail {rs:List Nat} {oc:List MO} (o:List MO) (i:Nat) (h:∀r∈rs,r<i):backFrom rs oc i o=some o:=
 back_gen o o i rfl fun j x hx=>by
  rw [if_neg,hx]
  intro hc
  have:=h _ (List.contains_iff_mem.mp hc)
  omega
theorem call_iter {T:Tbl} {f tp tl i i':Nat} {o:List MO} {xs:List FV} {v:FV} (h1:o[tp]?=some (.lit tl i)) (h2:o[tl]?=some (.list xs)) (hne:tp≠tl) (h:T f [.ref 0] [.lit 1 i,.list xs]=some (.fv v,[.lit 1 i',.list xs])):
  callM T f [.ref tp] o=some (.fv v,o.set tp (.lit tl i')):=by
 have hne2:tl≠tp:=fun e=>hne e.symm
 have hr:rootsOf [.ref tp] o=[tp,tl]:=by
  unfold rootsOf
  show dedup ((tp::((o[tp]?.bind MO.next).toList))++[])=_
  rw [h1]
  show tp::(tl::[]).filter (· !=tp)=_
  rw [List.filter_cons_of_pos (by simpa using hne2)];rfl
 have hi0:[tp,tl].idxOf tp=0:=by simp
 have hi1:[tp,tl].idxOf tl=1:=by rw [List.idxOf_cons,show (tp==tl)=false by simpa using hne];simp
 have hcl:closed [tp,tl] o=true:=by
  show ((match o[tp]? with|some o=>(match o.next with|some k=>[tp,tl].contains k|none=>true)|none=>false)&&((match o[tl]? with|some o=>(match o.next with|some k=>[tp,tl].contains k|none=>true)|none=>false)&&true))=true
  rw [h1,h2]
  show ([tp,tl].contains tl&&(true&&true))=true
  simp
 have hpk:pick [tp,tl] o=[.lit 1 i,.list xs]:=by
  show [renumO [tp,tl] (o.getD tp (.list [])),renumO [tp,tl] (o.getD tl (.list []))]=_
  rw [List.getD_eq_getElem?_getD,List.getD_eq_getElem?_getD,h1,h2]
  show [MO.lit ([tp,tl].idxOf tl) i,.list xs]=_
  rw [hi1]
 unfold callM
 simp only [hr,hcl,if_true,hpk]
 show (match T f [MV.ref ([tp,tl].idxOf tp)] [.lit 1 i,.list xs] with|some (v,oc)=>comeBack [tp,tl] v oc o|none=>none)=_
 rw [hi0,h]
 show (match backFrom [tp,tl] [.lit 1 i',.list xs] 0 o with|some os=>some (MV.fv v,os)|none=>none)=_
 rw [back_gen o (o.set tp (.lit tl i')) 0 (List.length_set ..) ?_]
 intro j x hx
 rw [Nat.zero_add]
 by_cases e1:j=tp
 ·subst e1
  rw [if_pos (by simp),hi0,List.getElem?_set_self (List.getElem?_eq_some_iff.mp hx).1]
  rw [h1] at hx;cases hx
  exact if_pos rfl
 ·rw [List.getElem?_set_ne (Ne.symm e1)]
  by_cases e2:j=tl
  ·subst e2
   rw [if_pos (by simp),hi1,hx]
   rw [h2] at hx;cases hx;rfl
  ·rw [if_neg,hx]
   simp [e1,e2]
section
variable {T:Tbl} {vars:List MV} {o o1 o2 o3:List MO} {v:MV}
theorem ev_hin {neg:Bool} {x y:X} {p:Pos} {i k:Nat} {b:Bool} (h1:ev T x vars o=some (v,o1)) (h2:ev T y vars o1=some (.ref i,o2)) (hh:o2[i]?=some (.hdr k)) (h3:callM T 105 [.ref i,v] o2=some (.fv (.bool b),o3)):ev T (.hin neg x y p) vars o=some (.fv (.bool (b !=neg)),o3):=by
 show (match ev T x vars o with|some (v,o1)=>(match ev T y vars o1 with|some (.ref i,o2)=>(match o2[i]? with|some (.hdr _)=>(match callM T 105 [.ref i,v] o2 with|some (.fv (.bool b),o3)=>some (MV.fv (.bool (b !=neg)),o3)|_=>none)|_=>none)|_=>none)|none=>none)=_
 rw [h1];dsimp only;rw [h2];dsimp only;rw [hh];dsimp only;rw [h3]
noncomputable def compStep (T:Tbl) (elt:X) (ti:Nat) (cond:X):FV→List MV→List MO→Option (List FV × List MV × List MO):=fun it vs os=>
 match (if cond.isNo then some (true,os) else evT T cond (ev T cond (vs.set ti (.fv it)) os) (vs.set ti (.fv it)) os) with
 |some (true,os1)=>match ev T elt (vs.set ti (.fv it)) os1 with
  |some (.fv y,os2)=>some ([y],vs.set ti (.fv it),os2)
  |_=>none
 |some (false,os1)=>some ([],vs.set ti (.fv it),os1)
 |none=>none
theorem compStep_no {elt:X} {ti:Nat} {it y:FV} {vs:List MV} {os os2:List MO} (h:ev T elt (vs.set ti (.fv it)) os=some (.fv y,os2)):compStep T elt ti .no it vs os=some ([y],vs.set ti (.fv it),os2):=by
 show (match ev T elt (vs.set ti (.fv it)) os with|some (.fv y,os2)=>some ([y],vs.set ti (.fv it),os2)|_=>none)=_
 rw [h]
theorem compStep_if {elt cond:X} {ti:Nat} {it y:FV} {b:Bool} {vs:List MV} {os:List MO} (hc:cond.isNo=false) (h1:evT T cond (ev T cond (vs.set ti (.fv it)) os) (vs.set ti (.fv it)) os=some (b,os)) (h2:b=true→ev T elt (vs.set ti (.fv it)) os=some (.fv y,os)):compStep T elt ti cond it vs os=some (if b then [y] else [],vs.set ti (.fv it),os):=by
 unfold compStep
 rw [hc]
 simp only [Bool.false_eq_true,if_false]
 rw [h1]
 cases b
 ·rfl
 ·dsimp only;rw [h2 rfl];rfl
theorem ev_comp {elt iter cond:X} {ti:Nat} {ns:Names} {caps:List (Option Nat)} {pt p:Pos} {x:MV} {rs:List Nat} {full ys:List FV} {vs':List MV} {oc:List MO} {r:MV × List MO}
  (h1:ev T iter vars o=some (x,o1)) (h2:compIn vars caps x o1=some (rs,full)) (h3:compTurns rs.length (compStep T elt ti cond) (renum rs x) (origOf (renum rs x) (pick rs o1)) full ((capsOf vars caps).map (renum rs)) (pick rs o1) []=some (ys,vs',oc))
  (h4:compOut rs oc o1 (.list ys)=some r):ev T (.comp elt ti iter cond ns caps pt p) vars o=some r:=by
 show (match ev T iter vars o with|some (x,o1)=>(match compIn vars caps x o1 with|some (rs,full)=>(match compTurns rs.length (compStep T elt ti cond) (renum rs x) (origOf (renum rs x) (pick rs o1)) full ((capsOf vars caps).map (renum rs)) (pick rs o1) [] with|some (ys,_,oc')=>compOut rs oc' o1 (.list ys)|none=>none)|none=>none)|none=>none)=_
 rw [h1];dsimp only;rw [h2];dsimp only;rw [h3];exact h4
noncomputable def comp2In (T:Tbl) (elt:X) (tj:Nat):FV→List MV→List MO→Option (List FV × List MV × List MO):=fun it2 ws os2=>
 match ev T elt (ws.set tj (.fv it2)) os2 with
 |some (.fv y,os3)=>some ([y],ws.set tj (.fv it2),os3)
 |_=>none
noncomputable def comp2Step (T:Tbl) (n:Nat) (elt:X) (ti:Nat) (tj:Nat) (iter2:X):FV→List MV→List MO→Option (List FV × List MV × List MO):=fun it vs os=>
 match ev T iter2 (vs.set ti (.fv it)) os with
 |some (.fv (.str s),os1)=>match srcItems (.fv (.str s)) os1 with
  |some full2=>if okTake n os1 then compTurns n (comp2In T elt tj) (.fv (.str s)) none full2 (vs.set ti (.fv it)) (os1.take n) [] else none
  |none=>none
 |_=>none
theorem ev_comp2 {elt iter iter2:X} {ti tj:Nat} {ns:Names} {caps:List (Option Nat)} {pt pt2 p:Pos} {x:MV} {rs:List Nat} {full ys:List FV} {vs':List MV} {oc:List MO} {r:MV × List MO}
  (h1:ev T iter vars o=some (x,o1)) (h2:compIn vars caps x o1=some (rs,full)) (h3:compTurns rs.length (comp2Step T rs.length elt ti tj iter2) (renum rs x) (origOf (renum rs x) (pick rs o1)) full ((capsOf vars caps).map (renum rs)) (pick rs o1) []=some (ys,vs',oc))
  (h4:compOut rs oc o1 (.list ys)=some r):ev T (.comp2 elt ti iter tj iter2 ns caps pt pt2 p) vars o=some r:=by
 show (match ev T iter vars o with|some (x,o1)=>(match compIn vars caps x o1 with|some (rs,full)=>(match compTurns rs.length (comp2Step T rs.length elt ti tj iter2) (renum rs x) (origOf (renum rs x) (pick rs o1)) full ((capsOf vars caps).map (renum rs)) (pick rs o1) [] with|some (ys,_,oc')=>compOut rs oc' o1 (.list ys)|none=>none)|none=>none)|none=>none)=_
 rw [h1];dsimp only;rw [h2];dsimp only;rw [h3];exact h4
theorem compOut_same {rs:List Nat} {mo:MO} (h:∀i∈rs,∃x,o[i]?=some x∧back1 rs x (renumO rs x)=some x):compOut rs (pick rs o) o mo=some (.ref o.length,o++[mo]):=by
 unfold compOut putBack
 rw [back_gen o o 0 rfl ?_]
 intro j x hx
 rw [Nat.zero_add]
 by_cases hc:rs.contains j=true
 ·rw [if_pos hc]
  obtain ⟨y,hy,hb⟩:=h j (List.contains_iff_mem.mp hc)
  rw [hx] at hy;cases hy
  have hlt:rs.idxOf j<rs.length:=List.idxOf_lt_length_of_mem (List.contains_iff_mem.mp hc)
  have hp:(pick rs o)[rs.idxOf j]?=some (renumO rs x):=by
   unfold pick
   rw [List.getElem?_map,List.getElem?_eq_getElem hlt,List.getElem_idxOf hlt]
   show some (renumO rs (o.getD j (.list [])))=_
   rw [List.getD_eq_getElem?_getD,hx];rfl
  rw [hp,hx];exact hb
 ·rw [if_neg hc,hx]
end
end
section
theorem index_ok {i:Nat} {o:List MO} {xs:List FV} {s:List Nat} (h:o[i]?=some (.list xs)) (ha:xs.all FV.isStr=true) (hc:xs.contains (.str s)=true) (hl:xs.length≤lenLim):methodM .index (.ref i) [.fv (.str s)] o=some (.fv (.int (xs.idxOf (.str s))),o):=by
 exact (bindE (listAt_of h)).trans (if_pos (by rw [ha,hc,decide_eq_true hl];rfl))
theorem flat_one {α β:Type} (f:α→β):∀l:List α,l.flatMap (fun x=>[f x])=l.map f
 |[]=>rfl
 |x::r=>by rw [List.flatMap_cons,flat_one f r];rfl
noncomputable def idxs (ord:List FV) (words:List (List Nat)):List FV:=words.map fun s=>.int (ord.idxOf (FV.str s))
theorem index_comp {T:Tbl} {vars:List MV} {o:List MO} {w:Nat} {ord:List FV} {words:List (List Nat)} {ns:Names} {p1 p2 p3 p4 p5 p6 p7:Pos} (hw:o[w]?=some (.list (words.map .str))) (h1:o[1]?=some (.list ord)) (hne:w≠1) (hv:vars[16]?=some (.ref w)) (h3:vars[3]?=some (.ref 1))
  (ha:ord.all FV.isStr=true) (hl:ord.length≤lenLim) (hc:∀s∈words,ord.contains (.str s)=true) (hwl:words.length≤lenLim):
  ev T (.comp (.me (.var 2 p1) .index (.cons (.var 1 p2) .nil) p3 p4) 1 (.var 16 p5) .no ns [none,none,some 3] p6 p7) vars o=some (.ref o.length,o++[.list (idxs ord words)]):=by
 have hi0:[w,1].idxOf w=0:=by simp
 have hi1:[w,1].idxOf 1=1:=by rw [List.idxOf_cons,show (w==1)=false by simpa using hne];rfl
 have hcap:capsOf vars [none,none,some 3]=[.unb,.unb,.ref 1]:=by
  show [MV.unb,.unb,vars.getD 3 .unb]=_
  rw [List.getD_eq_getElem?_getD,h3];rfl
 have hr:rootsOf (.ref w::capsOf vars [none,none,some 3]) o=[w,1]:=by
  rw [hcap]
  show dedup (((w::((o[w]?.bind MO.next).toList))++([]++([]++((1::((o[1]?.bind MO.next).toList))++[])))))=_
  rw [hw,h1]
  show w::([1].filter (· !=w))=_
  rw [List.filter_cons_of_pos (by simpa using Ne.symm hne)];rfl
 have hpk:pick [w,1] o=[.list (words.map .str),.list ord]:=by
  show [renumO [w,1] (o.getD w (.list [])),renumO [w,1] (o.getD 1 (.list []))]=_
  rw [List.getD_eq_getElem?_getD,List.getD_eq_getElem?_getD,hw,h1];rfl
 have hcl:closed [w,1] o=true:=by
  show ((match o[w]? with|some o=>(match o.next with|some k=>[w,1].contains k|none=>true)|none=>false)&&((match o[1]? with|some o=>(match o.next with|some k=>[w,1].contains k|none=>true)|none=>false)&&true))=true
  rw [hw,h1];rfl
 have hrw:renum [w,1] (.ref w)=.ref 0:=congrArg MV.ref hi0
 have hlen:(words.map FV.str).length≤lenLim:=by rw [List.length_map];exact hwl
 have hin:compIn vars [none,none,some 3] (.ref w) o=some ([w,1],words.map .str):=by
  show (if closed (rootsOf (.ref w::capsOf vars [none,none,some 3]) o) o&&!(capsOf vars [none,none,some 3]).contains .edict&&(MV.ref w !=.edict) then (srcItems (renum (rootsOf (.ref w::capsOf vars [none,none,some 3]) o) (.ref w)) (pick (rootsOf (.ref w::capsOf vars [none,none,some 3]) o) o)).map (fun full=>(rootsOf (.ref w::capsOf vars [none,none,some 3]) o,full)) else none)=_
  rw [hr,hcl,hrw,hpk,hcap]
  show (if (words.map FV.str).length≤lenLim then some (words.map FV.str) else none).map (fun full=>([w,1],full))=_
  rw [if_pos hlen];rfl
 have hcp:(capsOf vars [none,none,some 3]).map (renum [w,1])=[.unb,.unb,.ref 1]:=by
  rw [hcap]
  show [MV.unb,.unb,.ref ([w,1].idxOf 1)]=_
  rw [hi1]
 obtain ⟨vs',e⟩:=compTurns_all (n:=2) (src:=.ref 0) (orig:=some (.list (words.map .str))) (os:=[.list (words.map .str),.list ord]) (step:=compStep T (.me (.var 2 p1) .index (.cons (.var 1 p2) .nil) p3 p4) 1 .no)
  (fun vs=>∃x,vs=[.unb,x,.ref 1]) (fun x=>match x with|.str s=>[.int (ord.idxOf (.str s))]|_=>[]) rfl rfl rfl (words.map .str) [.unb,.unb,.ref 1] [] ⟨_,rfl⟩ (fun x hx vs hI=>by
   obtain ⟨s,hs,rfl⟩:=List.mem_map.mp hx
   obtain ⟨y,rfl⟩:=hI
   exact ⟨[.unb,.fv (.str s),.ref 1],⟨_,rfl⟩,compStep_no ((ev_me (a:=.ref 1) (o1:=[.list (words.map .str),.list ord]) rfl rfl (evs_1 (v:=.fv (.str s)) rfl)).trans (index_ok rfl ha (hc s hs) hl))⟩)
  (by rw [List.flatMap_map,List.length_nil,Nat.zero_add];exact Nat.le_trans (fm_len _ 1 (fun _=>Nat.le_refl _) _) (by rw [Nat.one_mul];exact hwl))
 rw [List.nil_append,List.flatMap_map,flat_one (fun s=>FV.int (ord.idxOf (.str s)))] at e
 refine ev_comp (x:=.ref w) (rs:=[w,1]) (full:=words.map .str) (ys:=idxs ord words) (vs':=vs') (oc:=pick [w,1] o) (ev_var hv nofun) hin ?_ (compOut_same ?_)
 ·rw [hrw,hpk,hcp];exact e
 ·intro i hi
  rcases List.mem_cons.mp hi with rfl|hi
  ·exact ⟨_,hw,rfl⟩
  ·rw [List.mem_singleton.mp hi];exact ⟨_,h1,rfl⟩
theorem max2 {i a b:Nat} {o:List MO} (h:o[i]?=some (.list [.int a,.int b])):builtin .max [.ref i] o=some (.fv (.int ((if a<b then b else a:Nat):Int)),o):=by
 refine (max_int (listAt_of h) (ns:=[(a:Int),(b:Int)]) rfl rfl (show 2≤lenLim by decide)).trans ?_
 show some (MV.fv (.int (if (a:Int)<(b:Int) then (b:Int) else (a:Int))),o)=_
 by_cases hab:a<b
 ·rw [if_pos hab,if_pos (by omega)]
 ·rw [if_neg hab,if_neg (by omega)]
noncomputable def ordL (lo:Nat) (perm:List Nat):List FV:=perm.map fun i=>.str (wordOf (lo+i))
noncomputable def two (x:Nat):Nat × Nat:=match onesL x with|[i,j]=>(i,j)|_=>(0,0)
noncomputable def laterOf (perm:List Nat) (x:Nat):Nat:=if perm.idxOf (two x).1<perm.idxOf (two x).2 then perm.idxOf (two x).2 else perm.idxOf (two x).1
set_option maxRecDepth 100000 in
theorem word_facts:((List.range 28).all fun lo=>(List.range 5).all fun i=>chars (wordOf (lo+i))&&(List.range 5).all fun j=>i==j||wordOf (lo+i) !=wordOf (lo+j))=true:=by decide+kernel
set_option maxRecDepth 100000 in
theorem split_facts:((List.range 28).all fun lo=>allRows.all fun x=>decide (splitL (nameOf lo x) [44,32]=[wordOf (lo+(two x).1),wordOf (lo+(two x).2)]))=true:=by decide+kernel
theorem two_lt:∀x∈allRows,(two x).1<4∧(two x).2<4∧onesL x=[(two x).1,(two x).2]:=by decide+kernel
theorem word_ok {lo i:Nat} (hlo:lo<28) (hi:i<5):chars (wordOf (lo+i))=true∧∀j,j<5→wordOf (lo+i)=wordOf (lo+j)→i=j:=by
 have:=List.all_eq_true.mp (List.all_eq_true.mp word_facts lo (List.mem_range.mpr hlo)) i (List.mem_range.mpr hi)
 rw [Bool.and_eq_true] at this
 refine ⟨this.1,fun j hj he=>?_⟩
 have h:=List.all_eq_true.mp this.2 j (List.mem_range.mpr hj)
 rw [Bool.or_eq_true,beq_iff_eq,bne_iff_ne] at h
 exact h.resolve_right fun q=>q he
theorem split_ok {lo x:Nat} (hlo:lo<28) (hx:x∈allRows):splitL (nameOf lo x) [44,32]=[wordOf (lo+(two x).1),wordOf (lo+(two x).2)]:=
 of_decide_eq_true (List.all_eq_true.mp (List.all_eq_true.mp split_facts lo (List.mem_range.mpr hlo)) x hx)
theorem ord_idx {lo i:Nat} (hlo:lo<28) (hi:i<5):∀{perm:List Nat},(∀j∈perm,j<5)→(ordL lo perm).idxOf (.str (wordOf (lo+i)))=perm.idxOf i
 |[],_=>rfl
 |j::r,h=>by
  show (FV.str (wordOf (lo+j))::ordL lo r).idxOf _=_
  rw [List.idxOf_cons,List.idxOf_cons,ord_idx hlo hi fun k hk=>h k (.tail _ hk)]
  by_cases e:j=i
  ·subst e;rw [beq_self_eq_true,beq_self_eq_true]
  ·have h1:(FV.str (wordOf (lo+j))==FV.str (wordOf (lo+i)))=false:=by
    rw [beq_eq_false_iff_ne]
    intro q
    exact e ((word_ok hlo (h j (.head _))).2 i hi (by injection q))
   rw [h1,beq_eq_false_iff_ne.mpr e]
theorem ord_has {lo i:Nat} {perm:List Nat} (hi:i∈perm):(ordL lo perm).contains (.str (wordOf (lo+i)))=true:=
 List.contains_iff_mem.mpr (List.mem_map.mpr ⟨i,hi,rfl⟩)
theorem ord_str {lo:Nat} (hlo:lo<28) {perm:List Nat} (h:∀j∈perm,j<5):(ordL lo perm).all FV.isStr=true:=by
 refine List.all_eq_true.mpr fun y hy=>?_
 obtain ⟨i,hi,rfl⟩:=List.mem_map.mp hy
 exact (word_ok hlo (h i hi)).1
end
section
noncomputable def stepF (perm:List Nat) (number:Nat) (path:List Nat) (a:Nat × List Nat) (r:Nat):Nat × List Nat:=
 if path.contains r then a else if laterOf perm (number^^^r)<a.1 then (laterOf perm (number^^^r),[r]) else if laterOf perm (number^^^r)=a.1 then (a.1,a.2++[r]) else a
noncomputable def WV (number:Int) (lo more:Nat) (picks:Int) (turn told other tape least found k words later:MV):List MV:=
 [.fv (.int number),.ref 0,.fv (.int lo),.ref 1,.fv (.int more),.fv (.int picks),.ref 2,.ref 4,.ref 6,turn,told,other,tape,least,found,k,words,later,.unb,.unb,.unb,.unb,.unb,.unb,.unb]
noncomputable def core (lo:Nat) (rows:List Nat) (perm:List Nat) (ties seen:HL) (path:List Nat):List MO:=[.dict (nmD lo rows),.list (ordL lo perm),.hdr 3,.list (ties.map hd),.hdr 5,.list (seen.map hd),.list (intL path)]
noncomputable def wayW:S:=bFlawway.at 1
noncomputable def wayFor:S:=wayW.body.at 8
noncomputable def inB:Ss:=wayFor.body
structure IL (C:List MO) (tl tp fd:Nat) (xs:List Nat) (i:Nat) (fs:List Nat) (o:List MO):Prop where
 core:∃junk,o=C++junk
 h1:7≤tl
 h2:7≤tp
 h3:7≤fd
 n1:tp≠tl
 n2:fd≠tl
 n3:fd≠tp
 otl:o[tl]?=some (.list (intL xs))
 otp:o[tp]?=some (.lit tl i)
 ofd:o[fd]?=some (.list (intL fs))
theorem app_at {α:Type} {o:List α} {k:Nat} {y:α} {z:List α} (h:o[k]?=some y):(o++z)[k]?=some y:=by
 rw [List.getElem?_append_left (List.getElem?_eq_some_iff.mp h).1];exact h
theorem at_end {α:Type} (o:List α) (z:α):(o++[z])[o.length]?=some z:=by simp
theorem set_high {α:Type} {C:List α} {o:List α} {i:Nat} {x:α} (h:∃junk,o=C++junk) (hi:C.length≤i):∃junk,o.set i x=C++junk:=by
 obtain ⟨j,rfl⟩:=h
 exact ⟨j.set (i-C.length) x,by rw [List.set_append_right _ _ hi]⟩
section
variable {C:List MO} {tl tp fd:Nat} {xs:List Nat} {i:Nat} {fs:List Nat} {o:List MO}
theorem IL.app (I:IL C tl tp fd xs i fs o) (x:MO):IL C tl tp fd xs i fs (o++[x]):=
 ⟨by obtain ⟨j,rfl⟩:=I.core;exact ⟨j++[x],by rw [List.append_assoc]⟩,I.h1,I.h2,I.h3,I.n1,I.n2,I.n3,app_at I.otl,app_at I.otp,app_at I.ofd⟩
theorem IL.tape (I:IL C tl tp fd xs i fs o) (hC:C.length=7) (i':Nat):IL C tl tp fd xs i' fs (o.set tp (.lit tl i')):=
 ⟨set_high I.core (hC▸I.h2),I.h1,I.h2,I.h3,I.n1,I.n2,I.n3,by rw [List.getElem?_set_ne I.n1];exact I.otl,by rw [List.getElem?_set_self (List.getElem?_eq_some_iff.mp I.otp).1],by rw [List.getElem?_set_ne (Ne.symm I.n3)];exact I.ofd⟩
theorem IL.fnew (I:IL C tl tp fd xs i fs o) (hC:C.length=7):IL C tl tp o.length xs i [] (o++[.list []]):=by
 have hl:tl<o.length:=(List.getElem?_eq_some_iff.mp I.otl).1
 have hp:tp<o.length:=(List.getElem?_eq_some_iff.mp I.otp).1
 obtain ⟨j,rfl⟩:=I.core
 exact ⟨⟨j++[.list []],by rw [List.append_assoc]⟩,I.h1,I.h2,by rw [List.length_append,hC];omega,I.n1,by omega,by omega,app_at I.otl,app_at I.otp,at_end _ _⟩
theorem IL.add (I:IL C tl tp fd xs i fs o) (hC:C.length=7) (r:Nat):IL C tl tp fd xs i (fs++[r]) (o.set fd (.list (intL fs++[.int r]))):=
 ⟨set_high I.core (hC▸I.h3),I.h1,I.h2,I.h3,I.n1,I.n2,I.n3,by rw [List.getElem?_set_ne I.n2];exact I.otl,by rw [List.getElem?_set_ne I.n3];exact I.otp,by rw [List.getElem?_set_self (List.getElem?_eq_some_iff.mp I.ofd).1];unfold intL;rw [List.map_append];rfl⟩
theorem IL.coreAt (I:IL C tl tp fd xs i fs o) {j:Nat} {x:MO} (h:C[j]?=some x):o[j]?=some x:=by
 obtain ⟨k,rfl⟩:=I.core;exact app_at h
end
theorem evT_of {T:Tbl} {neg:Bool} {x y:X} {p:Pos} {vars:List MV} {o o1:List MO} {q:Bool} (h:ev T (.hin neg x y p) vars o=some (.fv (.bool q),o1)):evT T (.hin neg x y p) (ev T (.hin neg x y p) vars o) vars o=some (q,o1):=by
 rw [h];rfl
theorem call_has (k:Nat) {lo:Nat} {rows perm path:List Nat} {ties seen:HL} {q:List Nat} {junk:List MO} (h:fine q=true) (ha:ascii q=true) (hs:hdrOk seen=true) (hl:seen.length≤1000):
  callM (tblN (k+3)) 105 [.ref 4,.fv (.str q)] (core lo rows perm ties seen path++junk)=some (.fv (.bool (found (low q) seen).isSome),core lo rows perm ties seen path++junk):=by
 show (match tblN (k+3) 105 [.ref 0,.fv (.str q)] [.hdr 1,.list (seen.map hd)] with|some (v,oc)=>comeBack [4,5] v oc (core lo rows perm ties seen path++junk)|none=>none)=_
 rw [T105 k q seen h ha hs hl]
 show (match backFrom [4,5] [.hdr 1,.list (seen.map hd)] 0 (core lo rows perm ties seen path++junk) with|some os=>some (MV.fv (.bool (found (low q) seen).isSome),os)|none=>none)=_
 have hb:backFrom [4,5] [.hdr 1,.list (seen.map hd)] 7 junk=some junk:=back_tail junk 7 (by decide)
 have:backFrom [4,5] [.hdr 1,.list (seen.map hd)] 0 (core lo rows perm ties seen path++junk)=some (core lo rows perm ties seen path++junk):=by
  show (match (match (match (match (match (match (match backFrom [4,5] [.hdr 1,.list (seen.map hd)] 7 junk with|some r'=>some (MO.list (intL path)::r')|none=>none) with|some r'=>some (MO.list (seen.map hd)::r')|none=>none) with|some r'=>some (MO.hdr 5::r')|none=>none) with|some r'=>some (MO.list (ties.map hd)::r')|none=>none) with|some r'=>some (MO.hdr 3::r')|none=>none) with|some r'=>some (MO.list (ordL lo perm)::r')|none=>none) with|some r'=>some (MO.dict (nmD lo rows)::r')|none=>none)=_
  rw [hb];rfl
 rw [this]
end
section
theorem mul_nat (a b:Nat) (h:a<1000):arith .mul (a:Int) (b:Int)=some ((a*b:Nat):Int):=by
 show (if (a:Int).natAbs<big||(b:Int).natAbs<big then some ((a:Int)*(b:Int)) else none)=_
 rw [if_pos (by rw [Int.natAbs_natCast,decide_eq_true (show a<big from Nat.lt_of_lt_of_le h (by decide))];rfl),Int.natCast_mul]
theorem mul_nat' (a b:Nat) (h:b<big):arith .mul (a:Int) (b:Int)=some ((a*b:Nat):Int):=by
 show (if (a:Int).natAbs<big||(b:Int).natAbs<big then some ((a:Int)*(b:Int)) else none)=_
 rw [if_pos (by rw [Int.natAbs_natCast,Int.natAbs_natCast,decide_eq_true h,Bool.or_true]),Int.natCast_mul]
theorem two_pow_big {lo:Nat} (h:lo<60):2^lo<big:=Nat.pow_lt_pow_right (a:=2) (n:=62) (by decide) (by omega)
section
variable {k lo more t p:Nat} {rows perm path:List Nat} {ties seen:HL} {tl tp fd:Nat} {xs fs:List Nat} {i number ls r:Nat} {o:List MO} {picks:Int} {told other kk words later:MV} {its:List MV} {n:Nat}
theorem fn_iter (I:IL (core lo rows perm ties seen path) tl tp fd xs i fs o) {q1 q2 q3 q4 q5 q6 q7 q8:Pos} (hr:64*more+r<2^30) (hp:((octs (64*more+r)).map conv).isPrefixOf (xs.drop i)=true):
  ev (tblN (k+1)) (.bin (.fn 11 (.cons (.var 12 q1) .nil) q2 q3) .sub (.bin (.ci 64 q4) .mul (.var 4 q5) q6) q7) (WV number lo more picks (.fv (.int t)) told other (.ref tp) (.fv (.int ls)) (.ref fd) kk words later) o=
   some (.fv (.int r),o.set tp (.lit tl (i+(octs (64*more+r)).length))):=by
 refine (ev_bin (a:=.fv (.int ((64*more+r:Nat):Int))) (b:=.fv (.int ((64*more:Nat):Int))) (o1:=o.set tp (.lit tl (i+(octs (64*more+r)).length))) (o2:=o.set tp (.lit tl (i+(octs (64*more+r)).length))) ?_ ?_).trans ?_
 ·exact (ev_fn (evs_1 (v:=.ref tp) (o1:=o) rfl)).trans (call_iter I.otp I.otl I.n1 (T11 k _ i xs hr hp))
 ·refine (ev_bin (a:=.fv (.int 64)) (b:=.fv (.int more)) (o1:=o.set tp (.lit tl (i+(octs (64*more+r)).length))) (o2:=o.set tp (.lit tl (i+(octs (64*more+r)).length))) rfl rfl).trans ?_
  show (arith .mul (64:Nat) (more:Int)).map (fun c=>(MV.fv (.int c),_))=_
  rw [mul_nat 64 more (by decide)];rfl
 ·show some (MV.fv (.int (((64*more+r:Nat):Int)-((64*more:Nat):Int))),_)=_
  rw [show ((64*more+r:Nat):Int)-((64*more:Nat):Int)=(r:Int) by omega]
theorem has_row (hlo:lo<28) (hr:r∈rows) (ha:r∈allRows) (hs:hdrOk seen=true) (hl:seen.length≤1000) (hseen:(found (low (nameOf lo r)) seen).isSome=path.contains r) {q1 q2 q3 q4 q5 q6 q7 q8:Pos} {junk:List MO}:
  ev (tblN (k+3)) (.hin true (.fn 4 (.cons (.sub (.var 1 q1) (.var 11 q2) q3) (.cons (.var 9 q4) .nil)) q5 q6) (.var 7 q7) q8) (WV number lo more picks (.fv (.int t)) told (.fv (.int r)) (.ref tp) (.fv (.int ls)) (.ref fd) kk words later) (core lo rows perm ties seen path++junk)=
   some (.fv (.bool (!path.contains r)),core lo rows perm ties seen path++junk):=by
 obtain ⟨n1,n2⟩:=name_ok hlo ha
 obtain ⟨s1,s2,s3⟩:=sized_ok t n1 n2
 have e:=ev_hin (T:=tblN (k+3)) (neg:=true) (p:=q8) (b:=path.contains r) (sized_arg (k:=k+2) (n:=1) (i:=11) (j:=0) (t:=t) (r:=r) (lo:=lo) (rows:=rows) (vars:=WV number lo more picks (.fv (.int t)) told (.fv (.int r)) (.ref tp) (.fv (.int ls)) (.ref fd) kk words later) (o:=core lo rows perm ties seen path++junk) (q1:=q1) (q2:=q2) (q3:=q3) (q5:=q5) (q6:=q6) (e:=.var 9 q4) rfl rfl rfl hr n1 n2 rfl) (y:=.var 7 q7) (i:=4) (k:=5) rfl rfl (o3:=core lo rows perm ties seen path++junk)
  (by rw [call_has k s1 s2 hs hl,s3,hseen])
 rw [e]
 cases path.contains r<;>rfl
theorem way_words (hlo:lo<28) (hx:number^^^r∈allRows) {q1 q2 q3 q4 q5 q6 q7 q8 q9 q10 q11 q12:Pos}:
  ev (tblN (k+1)) (.me (.fn 10 (.cons (.bin (.bin (.var 0 q1) .bxor (.var 11 q2) q3) .mul (.bin (.ci 2 q4) .pow (.var 2 q5) q6) q7) .nil) q8 q9) .split (.cons (.cs [44,32] q10) .nil) q11 q12) (WV number lo more picks (.fv (.int t)) told (.fv (.int r)) (.ref tp) (.fv (.int ls)) (.ref fd) kk words later) o=
   some (.ref o.length,o++[.list ([wordOf (lo+(two (number^^^r)).1),wordOf (lo+(two (number^^^r)).2)].map .str)]):=by
 refine (ev_me (a:=.fv (.str (nameOf lo (number^^^r)))) (o1:=o) ?_ rfl (evs_1 (v:=.fv (.str [44,32])) (o1:=o) rfl)).trans ?_
 ·refine (ev_fn (evs_1 (v:=.fv (.int (((number^^^r)*2^lo:Nat):Int))) (o1:=o) ?_)).trans (call_flags k hlo hx)
  refine (ev_bin (a:=.fv (.int ((number^^^r:Nat):Int))) (b:=.fv (.int ((2^lo:Nat):Int))) (o1:=o) (o2:=o) ?_ ?_).trans ?_
  ·refine (ev_bin (a:=.fv (.int number)) (b:=.fv (.int r)) (o1:=o) (o2:=o) rfl rfl).trans ?_
   show (arith .bxor (number:Int) (r:Int)).map (fun c=>(MV.fv (.int c),o))=_
   rw [xor_nat];rfl
  ·refine (ev_bin (a:=.fv (.int 2)) (b:=.fv (.int lo)) (o1:=o) (o2:=o) rfl rfl).trans ?_
   show (arith .pow 2 (lo:Int)).map (fun c=>(MV.fv (.int c),o))=_
   rw [pow2 (by omega)];rfl
  ·show (arith .mul ((number^^^r:Nat):Int) ((2^lo:Nat):Int)).map (fun c=>(MV.fv (.int c),o))=_
   rw [mul_nat' _ _ (two_pow_big (by omega))];rfl
 ·have hn:=fine_len (name_ok hlo hx).1
  show (if (nameOf lo (number^^^r)).length≤1000&&([44,32]:List Nat).length==2 then some (MV.ref o.length,o++[.list ((splitL (nameOf lo (number^^^r)) [44,32]).map .str)]) else none)=_
  rw [if_pos (by rw [decide_eq_true hn];rfl),split_ok hlo hx]
end
end
section
theorem lt_nat' {a b:Nat} {o:List MO}:cmpop .lt (.fv (.int a)) (.fv (.int b)) o=some (decide (a<b)):=lt_nat
structure PermOk (p:Nat) (perm:List Nat):Prop where
 lt:∀j∈perm,j<5
 has:∀j,j<4→j∈perm
 len:perm.length=p
section
variable {k lo more t p:Nat} {rows perm path:List Nat} {ties seen:HL} {tl tp fd:Nat} {xs fs:List Nat} {i number ls r:Nat} {o:List MO} {picks:Int} {told other kk words later:MV} {its:List MV} {n:Nat}
noncomputable def inIf:S:=inB.at 1
noncomputable def inI2:S:=inIf.body.at 2
noncomputable def inI3:S:=inIf.body.at 3
theorem way_later (P:PermOk p perm) (hp5:p≤5) (hlo:lo<28) (hx:number^^^r∈allRows) (I:IL (core lo rows perm ties seen path) tl tp fd xs i fs o) {w:Nat} (hw7:7≤w) (hw:o[w]?=some (.list ([wordOf (lo+(two (number^^^r)).1),wordOf (lo+(two (number^^^r)).2)].map .str))) {ns:Names} {q1 q2 q3 q4 q5 q6 q7 q8 q9 q10 q11:Pos}:
  ev (tblN (k+1)) (.bi .max (.cons (.comp (.me (.var 2 q1) .index (.cons (.var 1 q2) .nil) q3 q4) 1 (.var 16 q5) .no ns [none,none,some 3] q6 q7) .nil) q8 q9 q10 q11) (WV number lo more picks (.fv (.int t)) told (.fv (.int r)) (.ref tp) (.fv (.int ls)) (.ref fd) kk (.ref w) later) o=
   some (.fv (.int (laterOf perm (number^^^r))),o++[.list (idxs (ordL lo perm) [wordOf (lo+(two (number^^^r)).1),wordOf (lo+(two (number^^^r)).2)])]):=by
 obtain ⟨h1,h2,_⟩:=two_lt _ hx
 refine (ev_bi (evs_1 (index_comp hw (I.coreAt rfl) (by omega) rfl rfl (ord_str hlo P.lt) (by unfold ordL;rw [List.length_map,P.len];exact Nat.le_trans hp5 (by decide)) ?_ (show 2≤lenLim by decide)))).trans ?_
 ·intro s hs
  rcases List.mem_cons.mp hs with rfl|hs
  ·exact ord_has (P.has _ h1)
  ·rw [List.mem_singleton.mp hs];exact ord_has (P.has _ h2)
 ·refine (max2 (a:=perm.idxOf (two (number^^^r)).1) (b:=perm.idxOf (two (number^^^r)).2) ?_).trans rfl
  rw [at_end]
  show some (MO.list [.int ((ordL lo perm).idxOf (.str (wordOf (lo+(two (number^^^r)).1)))),.int ((ordL lo perm).idxOf (.str (wordOf (lo+(two (number^^^r)).2))))])=_
  rw [ord_idx hlo (by omega) P.lt,ord_idx hlo (by omega) P.lt]
theorem way_least (T:Tbl) (I:IL (core lo rows perm ties seen path) tl tp fd xs i fs o) (hf:fs.length≤100) (l:Nat) (its:List MV) (n:Nat) (rest:Ss):
  ∃o' fd',IL (core lo rows perm ties seen path) tl tp fd' xs i (if l<ls then [r] else if l=ls then fs++[r] else fs) o'∧
   exs T (.cons inI2 (.cons inI3 rest)) ⟨WV number lo more picks (.fv (.int t)) told (.fv (.int r)) (.ref tp) (.fv (.int ls)) (.ref fd) kk words (.fv (.int l)),its,o,n⟩=
    exs T rest ⟨WV number lo more picks (.fv (.int t)) told (.fv (.int r)) (.ref tp) (.fv (.int ((if l<ls then l else ls:Nat):Int))) (.ref fd') kk words (.fv (.int l)),its,o',n⟩:=by
 have hb2:inI2=.iff inI2.test inI2.body .nil ⟨299,16,301,30⟩:=rfl
 have hb3:inI3=.iff inI3.test inI3.body .nil ⟨302,16,303,39⟩:=rfl
 have t2:∀(ls fd:Nat) (o:List MO),evT T inI2.test (ev T inI2.test (WV number lo more picks (.fv (.int t)) told (.fv (.int r)) (.ref tp) (.fv (.int ls)) (.ref fd) kk words (.fv (.int l))) o) (WV number lo more picks (.fv (.int t)) told (.fv (.int r)) (.ref tp) (.fv (.int ls)) (.ref fd) kk words (.fv (.int l))) o=some (decide (l<ls),o):=fun ls fd o=>
  evT_cmp (ev_cmp (a:=.fv (.int l)) (b:=.fv (.int ls)) (o1:=o) (o2:=o) rfl rfl lt_nat)
 have t3:∀(ls fd:Nat) (o:List MO),evT T inI3.test (ev T inI3.test (WV number lo more picks (.fv (.int t)) told (.fv (.int r)) (.ref tp) (.fv (.int ls)) (.ref fd) kk words (.fv (.int l))) o) (WV number lo more picks (.fv (.int t)) told (.fv (.int r)) (.ref tp) (.fv (.int ls)) (.ref fd) kk words (.fv (.int l))) o=some (decide (l=ls),o):=fun ls fd o=>
  evT_cmp (ev_cmp (a:=.fv (.int l)) (b:=.fv (.int ls)) (o1:=o) (o2:=o) rfl rfl eq_nat)
 have app:∀(ls fd:Nat) (fs:List Nat) (o:List MO),fs.length≤100→IL (core lo rows perm ties seen path) tl tp fd xs i fs o→exs T inI3.body ⟨WV number lo more picks (.fv (.int t)) told (.fv (.int r)) (.ref tp) (.fv (.int ls)) (.ref fd) kk words (.fv (.int l)),its,o,n⟩=some (.next,⟨WV number lo more picks (.fv (.int t)) told (.fv (.int r)) (.ref tp) (.fv (.int ls)) (.ref fd) kk words (.fv (.int l)),its,o.set fd (.list (intL fs++[FV.int r])),n⟩):=by
  intro ls fd fs o hf I
  have hb:inI3.body=.cons (inI3.body.at 0) .nil:=rfl
  rw [hb]
  have hl:(intL fs).length≤100:=by unfold intL;rw [List.length_map];exact hf
  refine (exs_step (ex_xp (v:=.fv .none) (o:=o.set fd (.list (intL fs++[FV.int r]))) ?_)).trans rfl
  refine (ev_me (a:=.ref fd) (o1:=o) rfl ?_ (evs_1 (v:=.fv (.int r)) (o1:=o) rfl)).trans (appendM_ok I.ofd (Nat.lt_of_le_of_lt hl (by decide)))
  show (listAt o fd).isSome=true
  rw [listAt_of I.ofd];rfl
 by_cases h2:l<ls
 ·have I1:=I.fnew rfl
  refine ⟨(o++[MO.list []]).set o.length (.list (intL []++[FV.int r])),o.length,by rw [if_pos h2];exact I1.add rfl r,?_⟩
  rw [if_pos h2,hb2,hb3]
  have e2:exs T inI2.body ⟨WV number lo more picks (.fv (.int t)) told (.fv (.int r)) (.ref tp) (.fv (.int ls)) (.ref fd) kk words (.fv (.int l)),its,o,n⟩=some (.next,⟨WV number lo more picks (.fv (.int t)) told (.fv (.int r)) (.ref tp) (.fv (.int l)) (.ref o.length) kk words (.fv (.int l)),its,o++[.list []],n⟩):=rfl
  refine (exs_step ((ex_iff (b:=true) (o:=o) ((t2 ..).trans (by rw [decide_eq_true h2]))).trans e2)).trans ?_
  exact exs_step ((ex_iff (b:=true) (o:=o++[MO.list []]) ((t3 l o.length (o++[MO.list []])).trans (by rw [decide_eq_true rfl]))).trans (app l o.length [] _ (by simp) I1))
 ·rw [if_neg h2,if_neg h2,hb2,hb3]
  by_cases h3:l=ls
  ·refine ⟨_,fd,by rw [if_pos h3];exact I.add rfl r,?_⟩
   refine (exs_step ((ex_iff (b:=false) (o:=o) ((t2 ..).trans (by rw [decide_eq_false h2]))).trans rfl)).trans ?_
   exact exs_step ((ex_iff (b:=true) (o:=o) ((t3 ..).trans (by rw [decide_eq_true h3]))).trans (app ls fd fs o hf I))
  ·refine ⟨o,fd,by rw [if_neg h3];exact I,?_⟩
   refine (exs_step ((ex_iff (b:=false) (o:=o) ((t2 ..).trans (by rw [decide_eq_false h2]))).trans rfl)).trans ?_
   exact exs_step ((ex_iff (b:=false) (o:=o) ((t3 ..).trans (by rw [decide_eq_false h3]))).trans rfl)
end
end
section
theorem stepF_len (perm:List Nat) (number:Nat) (path:List Nat) (a:Nat × List Nat) (r:Nat):(stepF perm number path a r).2.length≤a.2.length+1:=by
 unfold stepF
 split
 ·omega
 ·split
  ·simp
  ·split
   ·simp
   ·omega
section
variable {k lo more t p:Nat} {rows perm path:List Nat} {ties seen:HL} {xs:List Nat} {number:Nat} {picks:Int} {told:MV} {n:Nat}
structure RowsOk (lo p number:Nat) (rows perm path:List Nat) (seen:HL):Prop where
 hlo:lo<28
 P:PermOk p perm
 hp:p≤5
 all:∀r∈rows,r∈allRows
 hs:hdrOk seen=true
 hl:seen.length≤1000
 seen:∀r∈rows,(found (low (nameOf lo r)) seen).isSome=path.contains r
theorem in_turn (R:RowsOk lo p number rows perm path seen) {r i j tl tp fd ls:Nat} {fs:List Nat} {o:List MO} {other kk words later:MV} {its:List MV} (hm:more<2^24) (hr:r∈rows) (hx:number^^^r∈allRows) (hf:fs.length≤100) (I:IL (core lo rows perm ties seen path) tl tp fd xs i fs o) (hp:((octs (64*more+r)).map conv).isPrefixOf (xs.drop i)=true):
  ∃o' fd' words' later',IL (core lo rows perm ties seen path) tl tp fd' xs (i+(octs (64*more+r)).length) (stepF perm number path (ls,fs) r).2 o'∧
   forStep (tblN (k+3)) 15 inB (.int j) ⟨WV number lo more picks (.fv (.int t)) told other (.ref tp) (.fv (.int ls)) (.ref fd) kk words later,its,o,n⟩=
    some (.next,⟨WV number lo more picks (.fv (.int t)) told (.fv (.int r)) (.ref tp) (.fv (.int ((stepF perm number path (ls,fs) r).1:Nat))) (.ref fd') (.fv (.int j)) words' later',its,o',n⟩):=by
 have hra:=R.all r hr
 have hr16:=rows_lt hra
 have I1:=I.tape rfl (i+(octs (64*more+r)).length)
 have hB:inB=.cons (inB.at 0) (.cons inIf .nil):=rfl
 have e0:=fn_iter (k:=k+2) (number:=number) (t:=t) (ls:=ls) (picks:=picks) (told:=told) (other:=other) (kk:=.fv (.int j)) (words:=words) (later:=later) (r:=r) I (q1:=(pq 295 34 38)) (q2:=(pq 295 20 33)) (q3:=(pq 295 20 39)) (q4:=(pq 295 42 44)) (q5:=(pq 295 47 51)) (q6:=(pq 295 42 51)) (q7:=(pq 295 20 51)) (q8:=(pq 0 0 0)) (by omega) hp
 have e1:forStep (tblN (k+3)) 15 inB (.int j) ⟨WV number lo more picks (.fv (.int t)) told other (.ref tp) (.fv (.int ls)) (.ref fd) kk words later,its,o,n⟩=exs (tblN (k+3)) (.cons inIf .nil) ⟨WV number lo more picks (.fv (.int t)) told (.fv (.int r)) (.ref tp) (.fv (.int ls)) (.ref fd) (.fv (.int j)) words later,its,o.set tp (.lit tl (i+(octs (64*more+r)).length)),n⟩:=by
  show exs _ inB ⟨WV number lo more picks (.fv (.int t)) told other (.ref tp) (.fv (.int ls)) (.ref fd) (.fv (.int j)) words later,its,o,n⟩=_
  rw [hB]
  exact exs_step (ex_asg (v:=.fv (.int r)) (o:=o.set tp (.lit tl (i+(octs (64*more+r)).length))) e0 rfl)
 generalize ho1:o.set tp (.lit tl (i+(octs (64*more+r)).length))=o1 at I1 e1
 clear e0 I ho1
 obtain ⟨junk,ho⟩:=I1.core
 have eh:=evT_of (has_row (k:=k) (number:=number) (t:=t) (ls:=ls) (picks:=picks) (told:=told) (kk:=.fv (.int j)) (words:=words) (later:=later) (tp:=tp) (fd:=fd) (more:=more) (rows:=rows) (perm:=perm) (path:=path) (ties:=ties) (seen:=seen) (junk:=junk) R.hlo hr hra R.hs R.hl (R.seen r hr) (q1:=(pq 296 26 31)) (q2:=(pq 296 32 37)) (q3:=(pq 296 26 38)) (q4:=(pq 296 40 44)) (q5:=(pq 296 15 25)) (q6:=(pq 296 15 45)) (q7:=(pq 296 53 57)) (q8:=(pq 296 15 57)))
 rw [←ho] at eh
 have hb:inIf=.iff inIf.test inIf.body .nil ⟨296,12,303,39⟩:=rfl
 by_cases hc:path.contains r=true
 ·have hst:stepF perm number path (ls,fs) r=(ls,fs):=if_pos hc
  rw [hst]
  refine ⟨o1,fd,words,later,I1,?_⟩
  rw [e1,hb]
  refine (exs_step ((ex_iff (b:=false) (o:=o1) ((show _=_ from eh).trans (by rw [hc];rfl))).trans rfl)).trans rfl
 ·have hc':path.contains r=false:=by simpa using hc
  have ew:=way_words (k:=k+2) (number:=number) (t:=t) (ls:=ls) (picks:=picks) (told:=told) (kk:=.fv (.int j)) (words:=words) (later:=later) (tp:=tp) (fd:=fd) (more:=more) (r:=r) (o:=o1) R.hlo hx (q1:=(pq 297 38 44)) (q2:=(pq 297 47 52)) (q3:=(pq 297 38 52)) (q4:=(pq 297 56 57)) (q5:=(pq 297 61 64)) (q6:=(pq 297 56 64)) (q7:=(pq 297 37 64)) (q8:=(pq 297 24 36)) (q9:=(pq 297 24 65)) (q10:=(pq 297 72 76)) (q11:=(pq 297 24 71)) (q12:=(pq 297 24 77))
  have I2:=I1.app (.list ([wordOf (lo+(two (number^^^r)).1),wordOf (lo+(two (number^^^r)).2)].map FV.str))
  have hw7:7≤o1.length:=by rw [ho,List.length_append];show 7≤7+_;omega
  have el:=way_later (k:=k+2) (number:=number) (t:=t) (ls:=ls) (picks:=picks) (told:=told) (kk:=.fv (.int j)) (later:=later) (r:=r) (more:=more) R.P R.hp R.hlo hx I2 (w:=o1.length) hw7 (at_end _ _) (ns:=[(".0",.local),("word",.local),("order",.free)]) (q1:=(pq 298 29 34)) (q2:=(pq 298 41 45)) (q3:=(pq 298 29 40)) (q4:=(pq 298 29 46)) (q5:=(pq 298 59 64)) (q6:=(pq 298 51 55)) (q7:=(pq 298 28 65)) (q8:=(pq 298 24 27)) (q9:=(pq 298 24 27)) (q10:=(pq 298 24 27)) (q11:=(pq 298 24 66))
  have I3:=I2.app (.list (idxs (ordL lo perm) [wordOf (lo+(two (number^^^r)).1),wordOf (lo+(two (number^^^r)).2)]))
  obtain ⟨o',fd',I4,e4⟩:=way_least (tblN (k+3)) (number:=number) (t:=t) (ls:=ls) (picks:=picks) (told:=told) (kk:=.fv (.int j)) (words:=.ref o1.length) (r:=r) (more:=more) I3 hf (laterOf perm (number^^^r)) its n .nil
  have hst:stepF perm number path (ls,fs) r=(if laterOf perm (number^^^r)<ls then laterOf perm (number^^^r) else ls,if laterOf perm (number^^^r)<ls then [r] else if laterOf perm (number^^^r)=ls then fs++[r] else fs):=by
   unfold stepF
   rw [if_neg hc]
   split
   ·rfl
   ·split<;>rfl
  rw [hst]
  refine ⟨o',fd',.ref o1.length,.fv (.int (laterOf perm (number^^^r))),I4,?_⟩
  rw [e1,hb]
  refine (exs_step (s':=⟨WV number lo more picks (.fv (.int t)) told (.fv (.int r)) (.ref tp) (.fv (.int ((if laterOf perm (number^^^r)<ls then laterOf perm (number^^^r) else ls:Nat):Int))) (.ref fd') (.fv (.int j)) (.ref o1.length) (.fv (.int (laterOf perm (number^^^r)))),its,o',n⟩) ((ex_iff (b:=true) (o:=o1) ((show _=_ from eh).trans (by rw [hc'];rfl))).trans ?_)).trans rfl
  have hbb:inIf.body=.cons (inIf.body.at 0) (.cons (inIf.body.at 1) (.cons inI2 (.cons inI3 .nil))):=rfl
  show exs _ inIf.body _=_
  rw [hbb]
  exact (exs_step (s':=⟨WV number lo more picks (.fv (.int t)) told (.fv (.int r)) (.ref tp) (.fv (.int ls)) (.ref fd) (.fv (.int j)) (.ref o1.length) later,its,o1++[.list ([wordOf (lo+(two (number^^^r)).1),wordOf (lo+(two (number^^^r)).2)].map .str)],n⟩) (ex_asg (v:=.ref o1.length) (o:=o1++[.list ([wordOf (lo+(two (number^^^r)).1),wordOf (lo+(two (number^^^r)).2)].map .str)]) ew rfl)).trans ((exs_step (s':=⟨WV number lo more picks (.fv (.int t)) told (.fv (.int r)) (.ref tp) (.fv (.int ls)) (.ref fd) (.fv (.int j)) (.ref o1.length) (.fv (.int (laterOf perm (number^^^r)))),its,o1++[.list ([wordOf (lo+(two (number^^^r)).1),wordOf (lo+(two (number^^^r)).2)].map .str)]++[.list (idxs (ordL lo perm) [wordOf (lo+(two (number^^^r)).1),wordOf (lo+(two (number^^^r)).2)])],n⟩) (ex_asg (v:=.fv (.int (laterOf perm (number^^^r)))) (o:=o1++[.list ([wordOf (lo+(two (number^^^r)).1),wordOf (lo+(two (number^^^r)).2)].map .str)]++[.list (idxs (ordL lo perm) [wordOf (lo+(two (number^^^r)).1),wordOf (lo+(two (number^^^r)).2)])]) el rfl)).trans (e4.trans rfl))
noncomputable def told2 (more:Nat) (rs:List Nat):List Nat:=rs.flatMap fun r=>(octs (64*more+r)).map conv
theorem in_loop (R:RowsOk lo p number rows perm path seen) {tl tp:Nat} {itv:MV} (hm:more<2^24) (hitv:∀o,origOf itv o=none):∀(rs:List Nat) (i j fd ls:Nat) (fs:List Nat) (o:List MO) (other kk words later:MV),(∀r∈rs,r∈rows∧number^^^r∈allRows)→fs.length+rs.length≤100→IL (core lo rows perm ties seen path) tl tp fd xs i fs o→xs.drop i=told2 more rs→
  ∃o' fd' i' other' kk' words' later',IL (core lo rows perm ties seen path) tl tp fd' xs i' (rs.foldl (stepF perm number path) (ls,fs)).2 o'∧
   turns (forStep (tblN (k+3)) 15 inB) none (rngFrom 1 rs.length (j:Int)) ⟨WV number lo more picks (.fv (.int t)) told other (.ref tp) (.fv (.int ls)) (.ref fd) kk words later,[itv],o,n⟩=
    some (none,⟨WV number lo more picks (.fv (.int t)) told other' (.ref tp) (.fv (.int ((rs.foldl (stepF perm number path) (ls,fs)).1:Nat))) (.ref fd') kk' words' later',[itv],o',n⟩)
 |[],i,j,fd,ls,fs,o,other,kk,words,later,hrs,hf,I,hx=>⟨o,fd,i,other,kk,words,later,I,turns_nil (hitv _)⟩
 |r::rs,i,j,fd,ls,fs,o,other,kk,words,later,hrs,hf,I,hx=>by
  obtain ⟨h1,h2⟩:=hrs r (.head _)
  have hcons:told2 more (r::rs)=(octs (64*more+r)).map conv++told2 more rs:=rfl
  rw [hcons] at hx
  rw [List.length_cons] at hf
  obtain ⟨o1,fd1,w1,l1,I1,e1⟩:=in_turn (k:=k) (t:=t) (picks:=picks) (told:=told) (n:=n) (j:=j) (ls:=ls) (other:=other) (kk:=kk) (words:=words) (later:=later) (its:=[itv]) R hm h1 h2 (by omega) I (by rw [hx,List.isPrefixOf_iff_prefix];exact ⟨_,rfl⟩)
  have hq:=stepF_len perm number path (ls,fs) r
  have hdrop:xs.drop (i+(octs (64*more+r)).length)=told2 more rs:=by
   have:=congrArg (List.drop (octs (64*more+r)).length) hx
   rw [List.drop_drop] at this
   rw [this,List.drop_left' (by rw [List.length_map])]
  obtain ⟨o',fd',i',other',kk',words',later',I',e2⟩:=in_loop R hm hitv rs (i+(octs (64*more+r)).length) (j+1) fd1 (stepF perm number path (ls,fs) r).1 (stepF perm number path (ls,fs) r).2 o1 (.fv (.int r)) (.fv (.int j)) w1 l1 (fun q hq=>hrs q (.tail _ hq)) (by dsimp only at hq;omega) I1 hdrop
  refine ⟨o',fd',i',other',kk',words',later',I',?_⟩
  rw [List.length_cons,rngFrom_cons]
  exact (turns_next (s:=⟨WV number lo more picks (.fv (.int t)) told other (.ref tp) (.fv (.int ls)) (.ref fd) kk words later,[itv],o,n⟩) (hitv _) e1).trans e2
end
end
section
section
variable {k lo more:Nat} {rows perm path:List Nat} {ties seen:HL} {junk:List MO}
theorem call_add (k:Nat) {n v:List Nat} (hn:fine n=true) (hv:fine v=true) (hl:seen.length≤1000):
  callM (tblN (k+2)) 100 [.ref 4,.fv (.str n),.fv (.str v)] (core lo rows perm ties seen path++junk)=some (.fv .none,core lo rows perm ties (seen++[(n,v)]) path++junk):=by
 show (match tblN (k+2) 100 [.ref 0,.fv (.str n),.fv (.str v)] [.hdr 1,.list (seen.map hd)] with|some (v,oc)=>comeBack [4,5] v oc (core lo rows perm ties seen path++junk)|none=>none)=_
 rw [T100 k n v _ hn hv (by rw [List.length_map];exact Nat.lt_of_le_of_lt hl (by decide))]
 have hb:backFrom [4,5] [.hdr 1,.list (seen.map hd++[.pair (.str n) (.str v)]),.list [.str v]] 7 junk=some junk:=back_tail junk 7 (by decide)
 have hm:(seen++[(n,v)]).map hd=seen.map hd++[.pair (.str n) (.str v)]:=by rw [List.map_append];rfl
 have:backFrom [4,5] [.hdr 1,.list (seen.map hd++[.pair (.str n) (.str v)]),.list [.str v]] 0 (core lo rows perm ties seen path++junk)=some (core lo rows perm ties (seen++[(n,v)]) path++junk):=by
  unfold core;rw [hm]
  show (match (match (match (match (match (match (match backFrom [4,5] [.hdr 1,.list (seen.map hd++[.pair (.str n) (.str v)]),.list [.str v]] 7 junk with|some r'=>some (MO.list (intL path)::r')|none=>none) with|some r'=>some (MO.list (seen.map hd++[.pair (.str n) (.str v)])::r')|none=>none) with|some r'=>some (MO.hdr 5::r')|none=>none) with|some r'=>some (MO.list (ties.map hd)::r')|none=>none) with|some r'=>some (MO.hdr 3::r')|none=>none) with|some r'=>some (MO.list (ordL lo perm)::r')|none=>none) with|some r'=>some (MO.dict (nmD lo rows)::r')|none=>none)=_
  rw [hb];rfl
 show (match backFrom [4,5] [.hdr 1,.list (seen.map hd++[.pair (.str n) (.str v)]),.list [.str v]] 0 (core lo rows perm ties seen path++junk) with|some os=>some (MV.fv .none,os)|none=>none)=_
 rw [this]
theorem call_all (k:Nat) {q:List Nat} (h:fine q=true) (ha:ascii q=true) (ht:hdrOk ties=true) (hl:ties.length≤1000):
  callM (tblN (k+2)) 101 [.ref 2,.fv (.str q)] (core lo rows perm ties seen path++junk)=some (.ref (core lo rows perm ties seen path++junk).length,core lo rows perm ties seen path++junk++[.list (gets (low q) ties)]):=by
 show (match tblN (k+2) 101 [.ref 0,.fv (.str q)] [.hdr 1,.list (ties.map hd)] with|some (v,oc)=>comeBack [2,3] v oc (core lo rows perm ties seen path++junk)|none=>none)=_
 rw [T101 k q ties h ha ht hl]
 have hb:backFrom [2,3] [.hdr 1,.list (ties.map hd),.list (gets (low q) ties)] 7 junk=some junk:=back_tail junk 7 (by decide)
 have:backFrom [2,3] [.hdr 1,.list (ties.map hd),.list (gets (low q) ties)] 0 (core lo rows perm ties seen path++junk)=some (core lo rows perm ties seen path++junk):=by
  show (match (match (match (match (match (match (match backFrom [2,3] [.hdr 1,.list (ties.map hd),.list (gets (low q) ties)] 7 junk with|some r'=>some (MO.list (intL path)::r')|none=>none) with|some r'=>some (MO.list (seen.map hd)::r')|none=>none) with|some r'=>some (MO.hdr 5::r')|none=>none) with|some r'=>some (MO.list (ties.map hd)::r')|none=>none) with|some r'=>some (MO.hdr 3::r')|none=>none) with|some r'=>some (MO.list (ordL lo perm)::r')|none=>none) with|some r'=>some (MO.dict (nmD lo rows)::r')|none=>none)=_
  rw [hb];rfl
 show (match backFrom [2,3] [.hdr 1,.list (ties.map hd),.list (gets (low q) ties)] 0 (core lo rows perm ties seen path++junk) with|some os=>some (MV.ref os.length,os++[MO.list (gets (low q) ties)])|none=>none)=_
 rw [this]
noncomputable def nbr (rows:List Nat) (number:Nat):List Nat:=rows.filter fun r=>(decide (number≠r)&&decide (number&&&r≠0))
noncomputable def octL (more:Nat) (rs:List Nat):List FV:=rs.map fun r=>.str (octs (64*more+r))
theorem flat_if {α β:Type} (c:α→Bool) (f:α→β):∀l:List α,l.flatMap (fun x=>if c x then [f x] else [])=(l.filter c).map f
 |[]=>rfl
 |x::r=>by
  rw [List.flatMap_cons,flat_if c f r]
  by_cases h:c x=true
  ·rw [if_pos h,List.filter_cons_of_pos h];rfl
  ·rw [if_neg h,List.filter_cons_of_neg h];rfl
theorem ne_nat {a b:Nat} {o:List MO}:cmpop .ne (.fv (.int a)) (.fv (.int b)) o=some (decide (a≠b)):=by
 show some ((a:Int) !=(b:Int))=_
 by_cases h:a=b
 ·subst h;simp
 ·rw [decide_eq_true h];congr 1;rw [bne_iff_ne];omega
theorem evA2 {T:Tbl} {x y:X} {p:Pos} {vars:List MV} {o:List MO} {a b:Bool} {w:Option (MV × List MO)} (h1:evT T x (ev T x vars o) vars o=some (a,o)) (h2:evT T y (ev T y vars o) vars o=some (b,o)):evT T (.bop true (.cons x (.cons y .nil)) p) w vars o=some (a&&b,o):=by
 show (match evT T x (ev T x vars o) vars o with|some (b,o1)=>if b=true then (match evT T y (ev T y vars o1) vars o1 with|some (b,o1)=>if b=true then some (true,o1) else some (!true,o1)|none=>none) else some (!true,o1)|none=>none)=_
 rw [h1]
 cases a
 ·rfl
 ·show (match evT T y (ev T y vars o) vars o with|some (b,o1)=>if b=true then some (true,o1) else some (!true,o1)|none=>none)=_
  rw [h2];cases b<;>rfl
theorem told_comp (k:Nat) {number:Nat} {vars:List MV} {ns:Names} {q1 q2 q3 q4 q5 q6 q7 q8 q9 q10 q11 q12 q13 q14 q15 q16 q17 q18 q19:Pos} (h0:vars[0]?=some (.fv (.int number))) (h1:vars[1]?=some (.ref 0)) (h4:vars[4]?=some (.fv (.int more))) (hm:more<2^24) (hr:∀r∈rows,r∈allRows) (hl:rows.length≤6):
  ev (tblN (k+1)) (.comp (.fn 5 (.cons (.bin (.bin (.ci 64 q1) .mul (.var 3 q2) q3) .add (.var 1 q4) q5) .nil) q6 q7) 1 (.var 1 q8) (.bop true (.cons (.cmp (.var 4 q9) .ne (.var 1 q10) q11) (.cons (.cmp (.bin (.var 4 q12) .band (.var 1 q13) q14) .ne (.ci 0 q15) q16) .nil)) q17) ns [none,none,none,some 4,some 0] q18 q19) vars (core lo rows perm ties seen path++junk)=
   some (.ref (core lo rows perm ties seen path++junk).length,core lo rows perm ties seen path++junk++[.list (octL more (nbr rows number))]):=by
 have hcap:capsOf vars [none,none,none,some 4,some 0]=[.unb,.unb,.unb,.fv (.int more),.fv (.int number)]:=by
  show [MV.unb,.unb,.unb,vars.getD 4 .unb,vars.getD 0 .unb]=_
  rw [List.getD_eq_getElem?_getD,List.getD_eq_getElem?_getD,h4,h0];rfl
 have hk:(nmD lo rows).map (fun p=>FV.int p.1)=intL rows:=by unfold nmD intL;rw [List.map_map];rfl
 have hin:compIn vars [none,none,none,some 4,some 0] (.ref 0) (core lo rows perm ties seen path++junk)=some ([0],intL rows):=by
  unfold compIn
  rw [hcap,←hk];rfl
 obtain ⟨vs',e⟩:=compTurns_all (n:=1) (src:=.ref 0) (orig:=some (.dict (nmD lo rows))) (os:=[.dict (nmD lo rows)]) (step:=compStep (tblN (k+1)) (.fn 5 (.cons (.bin (.bin (.ci 64 q1) .mul (.var 3 q2) q3) .add (.var 1 q4) q5) .nil) q6 q7) 1 (.bop true (.cons (.cmp (.var 4 q9) .ne (.var 1 q10) q11) (.cons (.cmp (.bin (.var 4 q12) .band (.var 1 q13) q14) .ne (.ci 0 q15) q16) .nil)) q17))
  (fun vs=>∃x,vs=[.unb,x,.unb,.fv (.int more),.fv (.int number)]) (fun x=>match x with|.int r=>(if (decide (number≠r.toNat)&&decide (number&&&r.toNat≠0)) then [FV.str (octs (64*more+r.toNat))] else [])|_=>[]) rfl rfl rfl (intL rows) [.unb,.unb,.unb,.fv (.int more),.fv (.int number)] [] ⟨_,rfl⟩ (fun x hx vs hI=>by
   obtain ⟨r,hr1,rfl⟩:=List.mem_map.mp hx
   obtain ⟨y,rfl⟩:=hI
   have hlt:=rows_lt (hr r hr1)
   refine ⟨[.unb,.fv (.int r),.unb,.fv (.int more),.fv (.int number)],⟨_,rfl⟩,compStep_if rfl ?_ (fun _=>(ev_fn (evs_1 (oct_arg rfl rfl))).trans (call_octs k _ (by omega)))⟩
   refine evA2 (a:=decide (number≠r)) (b:=decide (number&&&r≠0)) ?_ ?_
   ·exact evT_cmp (ev_cmp (a:=.fv (.int number)) (b:=.fv (.int r)) (o1:=[.dict (nmD lo rows)]) (o2:=[.dict (nmD lo rows)]) rfl rfl ne_nat)
   ·refine evT_cmp (ev_cmp (a:=.fv (.int ((number&&&r:Nat):Int))) (b:=.fv (.int (0:Nat))) (o1:=[.dict (nmD lo rows)]) (o2:=[.dict (nmD lo rows)]) ?_ rfl ne_nat)
    refine (ev_bin (a:=.fv (.int number)) (b:=.fv (.int r)) (o1:=[.dict (nmD lo rows)]) (o2:=[.dict (nmD lo rows)]) rfl rfl).trans ?_
    show (arith .band (number:Int) (r:Int)).map (fun c=>(MV.fv (.int c),_))=_
    rw [and_nat];rfl)
  (by
   rw [List.length_nil,Nat.zero_add]
   refine Nat.le_trans (fm_len _ 1 (fun x=>?_) _) ?_
   ·split
    ·split<;>simp
    ·simp
   ·unfold intL;rw [List.length_map,Nat.one_mul];exact Nat.le_trans hl (by decide))
 have hfl:(intL rows).flatMap (fun x=>match x with|.int r=>(if (decide (number≠r.toNat)&&decide (number&&&r.toNat≠0)) then [FV.str (octs (64*more+r.toNat))] else [])|_=>[])=octL more (nbr rows number):=by
  unfold intL octL nbr
  rw [List.flatMap_map,←flat_if];rfl
 rw [List.nil_append,hfl] at e
 refine ev_comp (x:=.ref 0) (rs:=[0]) (full:=intL rows) (ys:=octL more (nbr rows number)) (vs':=vs') (oc:=pick [0] (core lo rows perm ties seen path++junk)) (ev_var h1 nofun) hin ?_ (compOut_same ?_)
 ·rw [hcap];exact e
 ·intro i hi
  rw [List.mem_singleton.mp hi];exact ⟨_,rfl,rfl⟩
end
end
section
theorem octs_ge {n:Nat}:∀c∈octs n,128≤c:=by
 intro c hc
 rw [octs_hi] at hc
 rcases List.mem_append.mp hc with h|h
 ·obtain ⟨d,hd,rfl⟩:=hiD_mem 63 n c h;omega
 ·rw [List.mem_singleton.mp h];omega
theorem octs_len {n:Nat} (h:n<2^30):(octs n).length≤5:=by
 have:=hiD_len 63 4 n (Nat.lt_of_lt_of_le h (by decide))
 rw [octs_hi,List.length_append];simp;omega
theorem octs_chars {n:Nat}:chars (octs n)=true:=by
 unfold chars
 refine List.all_eq_true.mpr fun c hc=>decide_eq_true ?_
 rw [octs_hi] at hc
 rcases List.mem_append.mp hc with h|h
 ·obtain ⟨d,hd,rfl⟩:=hiD_mem 63 n c h;omega
 ·rw [List.mem_singleton.mp h];omega
theorem sign_val {T:Tbl} {vars:List MV} {o:List MO} {c:Nat} {q1 q2 q3 q4 q5 q6 q7 q8 q9 q10 q11 q12 q13 q14 q15:Pos} (h:vars[2]?=some (.fv (.str [c]))) (hc:128≤c):
  ev T (.bin (.bi .ord (.cons (.var 2 q1) .nil) q2 q3 q4 q5) .sub (.bin (.ci 128 q6) .mul (.bin (.bi .ord (.cons (.var 2 q7) .nil) q8 q9 q10 q11) .fmod (.ci 2 q12) q13) q14) q15) vars o=some (.fv (.int (conv c)),o):=by
 have e1:∀q1 q2 q3 q4 q5,ev T (.bi .ord (.cons (.var 2 q1) .nil) q2 q3 q4 q5) vars o=some (.fv (.int c),o):=fun q1 q2 q3 q4 q5=>(ev_bi (evs_1 (ev_var h nofun))).trans rfl
 refine (ev_bin (a:=.fv (.int c)) (b:=.fv (.int ((128*(c%2):Nat):Int))) (o1:=o) (o2:=o) (e1 ..) ?_).trans ?_
 ·refine (ev_bin (a:=.fv (.int 128)) (b:=.fv (.int ((c%2:Nat):Int))) (o1:=o) (o2:=o) rfl ?_).trans ?_
  ·refine (ev_bin (a:=.fv (.int c)) (b:=.fv (.int 2)) (o1:=o) (o2:=o) (e1 ..) rfl).trans ?_
   show (arith .fmod (c:Int) ((2:Nat):Int)).map (fun c=>(MV.fv (.int c),o))=_
   rw [mod_ok (fmod_nat c 2) (by decide)];rfl
  ·show (arith .mul (128:Nat) ((c%2:Nat):Int)).map (fun c=>(MV.fv (.int c),o))=_
   rw [mul_nat 128 _ (by decide)];rfl
 ·show some (MV.fv (.int ((c:Int)-((128*(c%2):Nat):Int))),o)=_
  rw [show (c:Int)-((128*(c%2):Nat):Int)=((conv c:Nat):Int) by unfold conv;omega]
theorem compTurns_inv {n:Nat} {step:FV→List MV→List MO→Option (List FV × List MV × List MO)} {src:MV} {orig:Option MO} {os:List MO} (I:List MV→Prop) (g:FV→List FV) (ho:origOf src os=orig) (ht:okTake n os=true) (hn:os.take n=os):
  ∀(l:List FV) (vs:List MV) (acc:List FV),I vs→(∀x∈l,∀vs,I vs→∃vs',I vs'∧step x vs os=some (g x,vs',os))→acc.length+(l.flatMap g).length≤lenLim→∃vs',I vs'∧compTurns n step src orig l vs os acc=some (acc++l.flatMap g,vs',os)
 |[],vs,acc,hI,hs,hl=>⟨vs,hI,by
  show (if origOf src os==orig then some (acc,vs,os) else none)=_
  rw [ho];simp⟩
 |x::r,vs,acc,hI,hs,hl=>by
  obtain ⟨vs',hI',e⟩:=hs x (.head _) vs hI
  have h1:(x::r).flatMap g=g x++r.flatMap g:=rfl
  rw [h1,List.length_append] at hl
  obtain ⟨vs'',hI'',e2⟩:=compTurns_inv I g ho ht hn r vs' (acc++g x) hI' (fun y hy=>hs y (.tail _ hy)) (by rw [List.length_append];omega)
  refine ⟨vs'',hI'',?_⟩
  show (if origOf src os==orig then (match step x vs os with|some (ys,vs',objs')=>if acc.length+ys.length≤lenLim&&okTake n objs' then compTurns n step src orig r vs' (objs'.take n) (acc++ys) else none|none=>none) else none)=_
  rw [ho,e,h1,←List.append_assoc,←e2]
  simp only [beq_self_eq_true,if_true]
  rw [if_pos (by rw [ht,decide_eq_true (by omega)];rfl),hn]
theorem tape_comp {T:Tbl} {vars:List MV} {o:List MO} {w more:Nat} {rs:List Nat} {ns:Names} {q1 q2 q3 q4 q5 q6 q7 q8 q9 q10 q11 q12 q13 q14 q15 p1 p2 p3 p4 p5:Pos} (hv:vars[10]?=some (.ref w)) (hw:o[w]?=some (.list (octL more rs))) (hm:∀r∈rs,64*more+r<2^30) (hl:rs.length≤6):
  ev T (.comp2 (.bin (.bi .ord (.cons (.var 2 q1) .nil) q2 q3 q4 q5) .sub (.bin (.ci 128 q6) .mul (.bin (.bi .ord (.cons (.var 2 q7) .nil) q8 q9 q10 q11) .fmod (.ci 2 q12) q13) q14) q15) 1 (.var 10 p1) 2 (.var 1 p2) ns [none,none,none,none] p3 p4 p5) vars o=
   some (.ref o.length,o++[.list (intL (told2 more rs))]):=by
 have hr:rootsOf [.ref w,.unb,.unb,.unb,.unb] o=[w]:=by
  show dedup (((w::((o[w]?.bind MO.next).toList))++[]))=_
  rw [hw];rfl
 have hpk:pick [w] o=[.list (octL more rs)]:=by
  show [renumO [w] (o.getD w (.list []))]=_
  rw [List.getD_eq_getElem?_getD,hw];rfl
 have hrw:renum [w] (.ref w)=.ref 0:=congrArg MV.ref (by simp)
 have hcl:closed [w] o=true:=by
  show ((match o[w]? with|some o=>(match o.next with|some k=>[w].contains k|none=>true)|none=>false)&&true)=true
  rw [hw];rfl
 have hlen:(octL more rs).length≤lenLim:=by unfold octL;rw [List.length_map];exact Nat.le_trans hl (by decide)
 have hin:compIn vars [none,none,none,none] (.ref w) o=some ([w],octL more rs):=by
  show (if closed (rootsOf [.ref w,.unb,.unb,.unb,.unb] o) o&&!([.unb,.unb,.unb,.unb]:List MV).contains .edict&&(MV.ref w !=.edict) then (srcItems (renum (rootsOf [.ref w,.unb,.unb,.unb,.unb] o) (.ref w)) (pick (rootsOf [.ref w,.unb,.unb,.unb,.unb] o) o)).map (fun full=>(rootsOf [.ref w,.unb,.unb,.unb,.unb] o,full)) else none)=_
  rw [hr,hcl,hrw,hpk]
  show (if (octL more rs).length≤lenLim then some (octL more rs) else none).map (fun full=>([w],full))=_
  rw [if_pos hlen];rfl
 have hlt:∀r∈rs,(octs (64*more+r)).length≤5:=fun r h=>octs_len (hm r h)
 obtain ⟨vs',e⟩:=compTurns_all (n:=1) (src:=.ref 0) (orig:=some (.list (octL more rs))) (os:=[.list (octL more rs)]) (step:=comp2Step T 1 (.bin (.bi .ord (.cons (.var 2 q1) .nil) q2 q3 q4 q5) .sub (.bin (.ci 128 q6) .mul (.bin (.bi .ord (.cons (.var 2 q7) .nil) q8 q9 q10 q11) .fmod (.ci 2 q12) q13) q14) q15) 1 2 (.var 1 p2))
  (fun vs=>∃x y,vs=[.unb,x,y,.unb]) (fun x=>match x with|.str s=>s.map fun (c:Nat)=>.int (conv c)|_=>[]) rfl rfl rfl (octL more rs) [.unb,.unb,.unb,.unb] [] ⟨_,_,rfl⟩ (fun x hx vs hI=>by
   obtain ⟨r,hr1,rfl⟩:=List.mem_map.mp hx
   obtain ⟨y,z,rfl⟩:=hI
   have h5:=hlt r hr1
   obtain ⟨ws,hI2,e⟩:=compTurns_inv (n:=1) (src:=.fv (.str (octs (64*more+r)))) (orig:=none) (os:=[.list (octL more rs)]) (step:=comp2In T (.bin (.bi .ord (.cons (.var 2 q1) .nil) q2 q3 q4 q5) .sub (.bin (.ci 128 q6) .mul (.bin (.bi .ord (.cons (.var 2 q7) .nil) q8 q9 q10 q11) .fmod (.ci 2 q12) q13) q14) q15) 2)
    (fun vs=>∃z,vs=[.unb,.fv (.str (octs (64*more+r))),z,.unb]) (fun x=>match x with|.str [c]=>[.int (conv c)]|_=>[]) rfl rfl rfl ((octs (64*more+r)).map fun c=>.str [c]) [.unb,.fv (.str (octs (64*more+r))),z,.unb] [] ⟨_,rfl⟩ (fun x hx vs hI=>by
     obtain ⟨c,hc,rfl⟩:=List.mem_map.mp hx
     obtain ⟨u,rfl⟩:=hI
     refine ⟨[.unb,.fv (.str (octs (64*more+r))),.fv (.str [c]),.unb],⟨_,rfl⟩,?_⟩
     unfold comp2In
     rw [sign_val (c:=c) rfl (octs_ge c hc)];rfl)
    (by rw [List.length_nil,Nat.zero_add,List.flatMap_map];exact Nat.le_trans (fm_len _ 1 (fun _=>Nat.le_refl _) _) (by rw [Nat.one_mul];exact Nat.le_trans h5 (by decide)))
   rw [List.nil_append,List.flatMap_map,flat_one (fun c:Nat=>FV.int (conv c))] at e
   obtain ⟨z2,rfl⟩:=hI2
   refine ⟨[.unb,.fv (.str (octs (64*more+r))),z2,.unb],⟨_,_,rfl⟩,?_⟩
   show (match srcItems (.fv (.str (octs (64*more+r)))) [.list (octL more rs)] with|some full2=>if okTake 1 [.list (octL more rs)] then compTurns 1 (comp2In T _ 2) (.fv (.str (octs (64*more+r)))) none full2 [.unb,.fv (.str (octs (64*more+r))),z,.unb] ([MO.list (octL more rs)].take 1) [] else none|none=>none)=_
   have hs:srcItems (.fv (.str (octs (64*more+r)))) [.list (octL more rs)]=some ((octs (64*more+r)).map fun c=>.str [c]):=if_pos (Nat.le_trans h5 (by decide))
   rw [hs];exact e)
  (by
   rw [List.length_nil,Nat.zero_add]
   unfold octL
   rw [List.flatMap_map]
   have:∀l:List Nat,(∀r∈l,(octs (64*more+r)).length≤5)→(l.flatMap fun r=>(octs (64*more+r)).map fun (c:Nat)=>FV.int (conv c)).length≤5*l.length:=by
    intro l
    induction l with
    |nil=>intro _;simp
    |cons y r ih=>
     intro h
     have h1:=h y (.head _)
     have h2:=ih fun z hz=>h z (.tail _ hz)
     rw [List.flatMap_cons,List.length_append,List.length_map,List.length_cons,Nat.mul_add];omega
   exact Nat.le_trans (this rs hlt) (Nat.le_trans (Nat.mul_le_mul_left 5 hl) (by decide)))
 have hfl:(octL more rs).flatMap (fun x=>match x with|.str s=>s.map fun (c:Nat)=>FV.int (conv c)|_=>[])=intL (told2 more rs):=by
  unfold octL told2 intL
  rw [List.flatMap_map,List.map_flatMap]
  congr 1
  funext r
  rw [List.map_map];rfl
 rw [List.nil_append,hfl] at e
 refine ev_comp2 (x:=.ref w) (rs:=[w]) (full:=octL more rs) (ys:=intL (told2 more rs)) (vs':=vs') (oc:=pick [w] o) (ev_var hv nofun) hin ?_ (compOut_same ?_)
 ·rw [hrw,hpk];exact e
 ·intro i hi
  rw [List.mem_singleton.mp hi];exact ⟨_,hw,rfl⟩
end
section
set_option maxRecDepth 100000 in
theorem lows_differ:((List.range 28).all fun lo=>allRows.all fun a=>allRows.all fun b=>a==b||low (nameOf lo a) !=low (nameOf lo b))=true:=by decide+kernel
theorem low_eq {lo a b:Nat} (hlo:lo<28) (ha:a∈allRows) (hb:b∈allRows):(low (nameOf lo a)==low (nameOf lo b))=decide (a=b):=by
 have h:=List.all_eq_true.mp (List.all_eq_true.mp (List.all_eq_true.mp lows_differ lo (List.mem_range.mpr hlo)) a ha) b hb
 rw [Bool.or_eq_true,beq_iff_eq,bne_iff_ne] at h
 by_cases e:a=b
 ·subst e;rw [beq_self_eq_true,decide_eq_true rfl]
 ·rw [decide_eq_false e,beq_eq_false_iff_ne];exact h.resolve_left e
theorem gets_app (q:List Nat) (a b:HL):gets q (a++b)=gets q a++gets q b:=by unfold gets;rw [List.filter_append,List.map_append]
theorem gets_fm {α:Type} (q:List Nat) (f:α→HL):∀l:List α,gets q (l.flatMap f)=l.flatMap fun x=>gets q (f x)
 |[]=>rfl
 |x::r=>by rw [List.flatMap_cons,gets_app,gets_fm q f r,List.flatMap_cons]
noncomputable def nb1 (number one two:Nat):List Nat:=if one<two∧one&&&two≠0 then (if one=number then [two] else [])++(if two=number then [one] else []) else []
theorem sized_low {t lo r:Nat} (hlo:lo<28) (hr:r∈allRows):low (sized t (nameOf lo r))=low (nameOf lo r):=
 (sized_ok t (name_ok hlo hr).1 (name_ok hlo hr).2).2.2
theorem gets_one {lo t r number:Nat} {v:List Nat} (hlo:lo<28) (hr:r∈allRows) (hn:number∈allRows) (es:HL):gets (low (nameOf lo number)) ((sized t (nameOf lo r),v)::es)=(if r=number then [.str v] else [])++gets (low (nameOf lo number)) es:=by
 unfold gets
 have h:(low (sized t (nameOf lo r))==low (nameOf lo number))=decide (r=number):=by rw [sized_low hlo hr,low_eq hlo hr hn]
 by_cases e:r=number
 ·rw [if_pos e,List.filter_cons_of_pos (by rw [h,decide_eq_true e])];rfl
 ·rw [if_neg e,List.filter_cons_of_neg (by rw [h,decide_eq_false e];exact Bool.false_ne_true)];rfl
theorem octL_app (more:Nat) (a b:List Nat):octL more (a++b)=octL more a++octL more b:=List.map_append
theorem octL_fm {α:Type} (more:Nat) (f:α→List Nat):∀l:List α,octL more (l.flatMap f)=l.flatMap fun x=>octL more (f x)
 |[]=>rfl
 |x::r=>by rw [List.flatMap_cons,octL_app,octL_fm more f r,List.flatMap_cons]
theorem gets_tieE {lo more number one two:Nat} (hlo:lo<28) (h1:one∈allRows) (h2:two∈allRows) (hn:number∈allRows):gets (low (nameOf lo number)) (tieE lo more one two)=octL more (nb1 number one two):=by
 unfold tieE nb1
 by_cases h:one<two∧one&&&two≠0
 ·rw [if_pos h,if_pos h,gets_one hlo h1 hn,gets_one hlo h2 hn,octL_app,show gets (low (nameOf lo number)) []=[] from rfl,List.append_nil]
  congr 1
  ·split<;>rfl
  ·split<;>rfl
 ·rw [if_neg h,if_neg h];rfl
theorem fm_congr {α β:Type} {f g:α→List β}:∀{l:List α},(∀x∈l,f x=g x)→l.flatMap f=l.flatMap g
 |[],_=>rfl
 |x::r,h=>by rw [List.flatMap_cons,List.flatMap_cons,h x (.head _),fm_congr fun y hy=>h y (.tail _ hy)]
theorem gets_ties {lo more number:Nat} {rows:List Nat} (hlo:lo<28) (hr:∀r∈rows,r∈allRows) (hn:number∈allRows) (hnb:(rows.flatMap fun one=>rows.flatMap fun two=>nb1 number one two)=nbr rows number):gets (low (nameOf lo number)) (tieAll lo more rows)=octL more (nbr rows number):=by
 unfold tieAll
 rw [gets_fm,←hnb,octL_fm]
 refine fm_congr fun one h1=>?_
 unfold tieR
 rw [gets_fm,octL_fm]
 exact fm_congr fun two h2=>gets_tieE hlo (hr _ h1) (hr _ h2) hn
theorem sized_hdr {t lo r:Nat} (hlo:lo<28) (hr:r∈allRows):(ascii (sized t (nameOf lo r))&&decide ((sized t (nameOf lo r)).length≤1000))=true:=by
 have h:=sized_ok t (name_ok hlo hr).1 (name_ok hlo hr).2
 rw [h.2.1,decide_eq_true (fine_len h.1)];rfl
theorem hdr_ties {lo more:Nat} {rows:List Nat} (hlo:lo<28) (hr:∀r∈rows,r∈allRows):hdrOk (tieAll lo more rows)=true:=by
 refine List.all_eq_true.mpr fun e he=>?_
 obtain ⟨one,h1,he⟩:=List.mem_flatMap.mp he
 obtain ⟨two,h2,he⟩:=List.mem_flatMap.mp he
 unfold tieE at he
 split at he
 ·rcases List.mem_cons.mp he with rfl|he
  ·exact sized_hdr (t:=0) hlo (hr _ h1)
  ·rw [List.mem_singleton.mp he];exact sized_hdr (t:=1) hlo (hr _ h2)
 ·cases he
noncomputable def seenFrom (lo:Nat):Nat→List Nat→HL
 |_,[]=>[]
 |t,r::l=>(sized t (nameOf lo r),[])::seenFrom lo (t+1) l
theorem seen_app (lo r:Nat):∀(l:List Nat) (t:Nat),seenFrom lo t (l++[r])=seenFrom lo t l++[(sized (t+l.length) (nameOf lo r),[])]
 |[],t=>rfl
 |x::l,t=>by
  show _::seenFrom lo (t+1) (l++[r])=_::(seenFrom lo (t+1) l++_)
  rw [seen_app lo r l (t+1),List.length_cons,show t+1+l.length=t+(l.length+1) by omega]
theorem seen_len (lo:Nat):∀(l:List Nat) (t:Nat),(seenFrom lo t l).length=l.length
 |[],_=>rfl
 |x::l,t=>congrArg (· +1) (seen_len lo l (t+1))
theorem seen_hdr {lo:Nat} (hlo:lo<28):∀(l:List Nat) (t:Nat),(∀r∈l,r∈allRows)→hdrOk (seenFrom lo t l)=true
 |[],_,_=>rfl
 |x::l,t,h=>by
  unfold seenFrom hdrOk
  rw [List.all_cons,sized_hdr hlo (h x (.head _)),Bool.true_and]
  exact seen_hdr hlo l (t+1) fun r hr=>h r (.tail _ hr)
theorem seen_found {lo r:Nat} (hlo:lo<28) (hr:r∈allRows):∀(l:List Nat) (t:Nat),(∀r∈l,r∈allRows)→(found (low (nameOf lo r)) (seenFrom lo t l)).isSome=l.contains r
 |[],_,_=>rfl
 |x::l,t,h=>by
  have hx:=h x (.head _)
  have e:(low (sized t (nameOf lo x))==low (nameOf lo r))=decide (x=r):=by rw [sized_low hlo hx,low_eq hlo hx hr]
  unfold found seenFrom
  rw [List.find?_cons,e,List.contains_cons]
  by_cases q:x=r
  ·subst q;rw [decide_eq_true rfl,beq_self_eq_true];rfl
  ·rw [decide_eq_false q,beq_eq_false_iff_ne.mpr (Ne.symm q),Bool.false_or]
   exact seen_found hlo hr l (t+1) fun r hr=>h r (.tail _ hr)
theorem xor_all:∀a∈allRows,∀b∈allRows,a≠b→a&&&b≠0→a^^^b∈allRows:=by decide+kernel
noncomputable def rows5:List Nat:=[3,5,6,9,10]
noncomputable def rows6:List Nat:=[3,5,6,9,10,12]
theorem nb_ok:∀rows∈[rows5,rows6],∀number∈rows,(rows.flatMap fun one=>rows.flatMap fun two=>nb1 number one two)=nbr rows number:=by decide+kernel
theorem rows_in:∀rows∈[rows5,rows6],(∀r∈rows,r∈allRows)∧rows.length≤6:=by decide+kernel
end
section
noncomputable def Ss.drop:Ss→Nat→Ss
 |s,0=>s
 |.cons _ r,n+1=>r.drop n
 |.gc r,n=>r.drop n
 |.nil,_=>.nil
noncomputable def wayB:Ss:=wayW.body
theorem exs_go {T:Tbl} {a:S} {r:Ss} {s s':MS} {R:Option (Fl × MS)} (h:ex T a s=some (.next,s')) (h2:exs T r s'=R):exs T (.cons a r) s=R:=(exs_step h).trans h2
section
variable {k lo more:Nat} {rows perm path:List Nat} {ties seen:HL} {junk:List MO}
theorem len_at {i:Nat} {o:List MO} {l:List Nat} (h:o[i]?=some (.list (intL l))) (hl:l.length≤1000):builtin .len [.ref i] o=some (.fv (.int l.length),o):=by
 have e:(intL l).length=l.length:=List.length_map ..
 rw [len_list h (by rw [e];exact Nat.le_trans hl (by decide)),e]
theorem way_a {number:Nat} {picks:Int} {turn told other tape least fnd kk words later:MV} {n:Nat} (hlo:lo<28) (hn:number∈rows) (hna:number∈allRows) (hs:seen.length≤1000) (hp:path.length≤1000) (ht:hdrOk ties=true) (htl:ties.length≤1000):
  exs (tblN (k+2)) wayB ⟨WV number lo more picks turn told other tape least fnd kk words later,[],core lo rows perm ties seen path++junk,n⟩=
   exs (tblN (k+2)) (wayB.drop 4) ⟨WV number lo more picks (.fv (.int path.length)) (.ref (core lo rows perm ties (seen++[(sized path.length (nameOf lo number),[])]) (path++[number])++junk).length) other tape least fnd kk words later,[],
    core lo rows perm ties (seen++[(sized path.length (nameOf lo number),[])]) (path++[number])++(junk++[.list (gets (low (nameOf lo number)) ties)]),n⟩:=by
 obtain ⟨n1,n2⟩:=name_ok hlo hna
 obtain ⟨s1,s2,s3⟩:=sized_ok path.length n1 n2
 obtain ⟨u1,u2,u3⟩:=sized_ok (path.length+1) n1 n2
 have hB:wayB=.cons (wayB.at 0) (.cons (wayB.at 1) (.cons (wayB.at 2) (.cons (wayB.at 3) (wayB.drop 4)))):=rfl
 conv=>lhs;rw [hB]
 refine exs_go (s':=⟨WV number lo more picks (.fv (.int path.length)) told other tape least fnd kk words later,[],core lo rows perm ties seen path++junk,n⟩) (ex_asg (v:=.fv (.int path.length)) (o:=core lo rows perm ties seen path++junk) ?a0 rfl) ?_
 case a0=>exact (ev_bi (evs_1 (v:=.ref 6) (o1:=core lo rows perm ties seen path++junk) rfl)).trans (len_at (l:=path) rfl hp)
 refine exs_go (s':=⟨WV number lo more picks (.fv (.int path.length)) told other tape least fnd kk words later,[],core lo rows perm ties (seen++[(sized path.length (nameOf lo number),[])]) path++junk,n⟩) (ex_xp (v:=.fv .none) (o:=core lo rows perm ties (seen++[(sized path.length (nameOf lo number),[])]) path++junk) ?a1) ?_
 case a1=>
  refine (ev_hm (i:=4) (k:=5) (o1:=core lo rows perm ties seen path++junk) (o2:=core lo rows perm ties seen path++junk) (o3:=core lo rows perm ties seen path++junk) (vs:=[.fv (.str (sized path.length (nameOf lo number))),.fv (.str [])]) (ws:=[]) rfl rfl (evs_cons (o1:=core lo rows perm ties seen path++junk) ?_ (evs_1 rfl)) rfl).trans (call_add k s1 rfl hs)
  exact sized_arg (k:=k+1) (n:=1) (j:=0) (i:=0) rfl rfl rfl hn n1 n2 rfl
 refine exs_go (s':=⟨WV number lo more picks (.fv (.int path.length)) told other tape least fnd kk words later,[],core lo rows perm ties (seen++[(sized path.length (nameOf lo number),[])]) (path++[number])++junk,n⟩) (ex_xp (v:=.fv .none) (o:=core lo rows perm ties (seen++[(sized path.length (nameOf lo number),[])]) (path++[number])++junk) ?a2) ?_
 case a2=>
  refine (ev_me (a:=.ref 6) (o1:=core lo rows perm ties (seen++[(sized path.length (nameOf lo number),[])]) path++junk) rfl rfl (evs_1 (v:=.fv (.int number)) (o1:=core lo rows perm ties (seen++[(sized path.length (nameOf lo number),[])]) path++junk) rfl)).trans ((appendM_ok (xs:=intL path) rfl (by unfold intL;rw [List.length_map];exact Nat.lt_of_le_of_lt hp (by decide))).trans ?_)
  have hm:intL (path++[number])=intL path++[FV.int number]:=List.map_append
  unfold core
  rw [hm];rfl
 refine exs_go (s':=⟨WV number lo more picks (.fv (.int path.length)) (.ref (core lo rows perm ties (seen++[(sized path.length (nameOf lo number),[])]) (path++[number])++junk).length) other tape least fnd kk words later,[],
    core lo rows perm ties (seen++[(sized path.length (nameOf lo number),[])]) (path++[number])++(junk++[.list (gets (low (nameOf lo number)) ties)]),n⟩) (ex_asg (v:=.ref (core lo rows perm ties (seen++[(sized path.length (nameOf lo number),[])]) (path++[number])++junk).length) (o:=core lo rows perm ties (seen++[(sized path.length (nameOf lo number),[])]) (path++[number])++(junk++[.list (gets (low (nameOf lo number)) ties)])) ?a3 ?a4) ?a5
 case a5=>rfl
 case a4=>rfl
 case a3=>
  refine (ev_hm (i:=2) (k:=3) (o1:=core lo rows perm ties (seen++[(sized path.length (nameOf lo number),[])]) (path++[number])++junk) (o2:=core lo rows perm ties (seen++[(sized path.length (nameOf lo number),[])]) (path++[number])++junk) (o3:=core lo rows perm ties (seen++[(sized path.length (nameOf lo number),[])]) (path++[number])++junk) (vs:=[.fv (.str (sized (path.length+1) (nameOf lo number)))]) (ws:=[]) rfl rfl (evs_1 ?_) rfl).trans ((call_all k u1 u2 ht htl).trans (by rw [u3,List.append_assoc]))
  refine sized_arg (k:=k+1) (n:=1) (j:=0) (i:=0) (t:=path.length+1) rfl rfl rfl hn n1 n2 ?_
  exact (ev_bin (a:=.fv (.int path.length)) (b:=.fv (.int 1)) (o1:=core lo rows perm ties (seen++[(sized path.length (nameOf lo number),[])]) (path++[number])++junk) (o2:=core lo rows perm ties (seen++[(sized path.length (nameOf lo number),[])]) (path++[number])++junk) rfl rfl).trans rfl
end
end
section
section
variable {k lo more p:Nat} {rows perm path:List Nat} {ties seen:HL} {J:List MO}
theorem octL_str (more:Nat) (rs:List Nat):(octL more rs).all FV.isStr=true:=by
 refine List.all_eq_true.mpr fun y hy=>?_
 obtain ⟨r,_,rfl⟩:=List.mem_map.mp hy
 exact octs_chars
theorem iter_new {i:Nat} {o:List MO} {xs:List FV} (h:o[i]?=some (.list xs)):builtin .iter [.ref i] o=some (.ref o.length,o++[.lit i 0]):=by
 exact bindE (listAt_of h)
theorem ne_same {i j:Nat} {o:List MO} {xs:List FV} (hi:o[i]?=some (.list xs)) (hj:o[j]?=some (.list xs)) (h:xs.all FV.isStr=true):cmpop .ne (.ref i) (.ref j) o=some false:=by
 exact (ne_two (listAt_of hi) (listAt_of hj) (by unfold sameKind;rw [h];simp)).trans (by rw [beq_self_eq_true];rfl)
theorem way_b {number w:Nat} {picks:Int} {turn other tape least fnd kk words later:MV} {n:Nat} {o:List MO} (ho:o=core lo rows perm ties seen path++J) (hlo:lo<28) (hm:more<2^24) (hr:∀r∈rows,r∈allRows) (hl:rows.length≤6) (P:PermOk p perm) (hp5:p≤5) (hw:o[w]?=some (.list (octL more (nbr rows number)))):
  ∃(o':List MO) (tl tp fd:Nat),IL (core lo rows perm ties seen path) tl tp fd (told2 more (nbr rows number)) 0 [] o'∧o'[w]?=some (.list (octL more (nbr rows number)))∧
  exs (tblN (k+1)) (wayB.drop 4) ⟨WV number lo more picks turn (.ref w) other tape least fnd kk words later,[],o,n⟩=
   exs (tblN (k+1)) (wayB.drop 8) ⟨WV number lo more picks turn (.ref w) other (.ref tp) (.fv (.int p)) (.ref fd) kk words later,[],o',n⟩:=by
 have hnl:(nbr rows number).length≤6:=Nat.le_trans (List.length_filter_le ..) hl
 have hsub:∀r∈nbr rows number,64*more+r<2^30:=fun r h=>by
  have:=rows_lt (hr r ((List.mem_filter.mp h).1));omega
 have h7:7≤o.length:=by rw [ho,List.length_append];exact Nat.le_add_right 7 _
 have ho1:o[1]?=some (.list (ordL lo perm)):=by rw [ho];rfl
 have hpl:(ordL lo perm).length=p:=by unfold ordL;rw [List.length_map,P.len]
 have hd4:wayB.drop 4=.cons (wayB.at 4) (.cons (wayB.at 5) (.cons (wayB.at 6) (.cons (wayB.at 7) (wayB.drop 8)))):=rfl
 have ec:∀(turn other tape least fnd kk words later:MV) (ns:Names) (q1 q2 q3 q4 q5 q6 q7 q8 q9 q10 q11 q12 q13 q14 q15 q16 q17 q18 q19:Pos),ev (tblN (k+1)) (.comp (.fn 5 (.cons (.bin (.bin (.ci 64 q1) .mul (.var 3 q2) q3) .add (.var 1 q4) q5) .nil) q6 q7) 1 (.var 1 q8) (.bop true (.cons (.cmp (.var 4 q9) .ne (.var 1 q10) q11) (.cons (.cmp (.bin (.var 4 q12) .band (.var 1 q13) q14) .ne (.ci 0 q15) q16) .nil)) q17) ns [none,none,none,some 4,some 0] q18 q19) (WV number lo more picks turn (.ref w) other tape least fnd kk words later) o=some (.ref o.length,o++[.list (octL more (nbr rows number))]):=fun turn other tape least fnd kk words later ns q1 q2 q3 q4 q5 q6 q7 q8 q9 q10 q11 q12 q13 q14 q15 q16 q17 q18 q19=>by
  rw [ho];exact told_comp k rfl rfl rfl hm hr hl
 have hcore:∃junk,o=core lo rows perm ties seen path++junk:=⟨J,ho⟩
 clear ho
 generalize hO:octL more (nbr rows number)=O at*
 have hOs:O.all FV.isStr=true:=by rw [←hO];exact octL_str ..
 have w1:(o++[MO.list O])[w]?=some (.list O):=app_at hw
 have w2:(o++[MO.list O])[o.length]?=some (.list O):=at_end _ _
 have en:=ne_same w1 w2 hOs
 generalize e1:o++[MO.list O]=o1 at*
 have g1:∃junk,o1=core lo rows perm ties seen path++junk:=by obtain ⟨j,rfl⟩:=hcore;exact ⟨j++[.list O],by rw [←e1,List.append_assoc]⟩
 have t1:o1[1]?=some (.list (ordL lo perm)):=by rw [←e1];exact app_at ho1
 have et:=fun ns q1 q2 q3 q4 q5 q6 q7 q8 q9 q10 q11 q12 q13 q14 q15 p1 p2 p3 p4 p5=>tape_comp (T:=tblN (k+1)) (vars:=WV number lo more picks turn (.ref w) other tape least fnd kk words later) (o:=o1) (w:=w) (more:=more) (rs:=nbr rows number) (ns:=ns) (q1:=q1) (q2:=q2) (q3:=q3) (q4:=q4) (q5:=q5) (q6:=q6) (q7:=q7) (q8:=q8) (q9:=q9) (q10:=q10) (q11:=q11) (q12:=q12) (q13:=q13) (q14:=q14) (q15:=q15) (p1:=p1) (p2:=p2) (p3:=p3) (p4:=p4) (p5:=p5) rfl (by rw [hO];exact w1) hsub hnl
 have l1:7≤o1.length:=by rw [←e1,List.length_append];omega
 have t2:(o1++[MO.list (intL (told2 more (nbr rows number)))])[o1.length]?=some (.list (intL (told2 more (nbr rows number)))):=at_end _ _
 have l2:(o1++[MO.list (intL (told2 more (nbr rows number)))]).length=o1.length+1:=by simp
 generalize e2:o1++[MO.list (intL (told2 more (nbr rows number)))]=o2 at*
 have i2:=iter_new t2
 generalize e3:o2++[MO.lit o1.length 0]=o3 at*
 have w3:o3[w]?=some (.list O):=by rw [←e3,←e2];exact app_at (app_at w1)
 have t3:o3[o1.length]?=some (.list (intL (told2 more (nbr rows number)))):=by rw [←e3];exact app_at t2
 have p3:o3[o2.length]?=some (.lit o1.length 0):=by rw [←e3];exact at_end _ _
 have l3:o3.length=o1.length+2:=by rw [←e3,List.length_append,l2];rfl
 have h13:o3[1]?=some (.list (ordL lo perm)):=by rw [←e3,←e2];exact app_at (app_at t1)
 refine ⟨o3++[.list []],o1.length,o2.length,o3.length,⟨?_,l1,by omega,by omega,by omega,by omega,by omega,app_at t3,app_at p3,at_end _ _⟩,app_at w3,?_⟩
 ·obtain ⟨j,rfl⟩:=g1
  exact ⟨j++[.list (intL (told2 more (nbr rows number)))]++[.lit (core lo rows perm ties seen path++j).length 0]++[.list []],by rw [←e3,←e2];simp⟩
 rw [hd4]
 refine exs_go (s':=⟨WV number lo more picks turn (.ref w) other tape least fnd kk words later,[],o1,n⟩) ((ex_iff (b:=false) (o:=o1) (evT_cmp (ev_cmp (a:=.ref w) (b:=.ref o.length) (o1:=o) (o2:=o1) rfl (ec ..) en))).trans rfl) ?_
 refine exs_go (s':=⟨WV number lo more picks turn (.ref w) other (.ref o2.length) least fnd kk words later,[],o3,n⟩) (ex_asg (v:=.ref o2.length) (o:=o3) ?a5 ?b5) ?_
 case a5=>exact (ev_bi (evs_1 (v:=.ref o1.length) (o1:=o2) (et ..))).trans i2
 case b5=>rfl
 refine exs_go (s':=⟨WV number lo more picks turn (.ref w) other (.ref o2.length) (.fv (.int p)) fnd kk words later,[],o3,n⟩) (ex_asg (v:=.fv (.int p)) (o:=o3) ?a6 ?b6) ?_
 case a6=>
  have:=len_list h13 (by rw [hpl];exact Nat.le_trans hp5 (by decide))
  rw [hpl] at this
  exact (ev_bi (evs_1 (v:=.ref 1) (o1:=o3) rfl)).trans this
 case b6=>rfl
 exact exs_go (s':=⟨WV number lo more picks turn (.ref w) other (.ref o2.length) (.fv (.int p)) (.ref o3.length) kk words later,[],o3++[.list []],n⟩) rfl rfl
end
end
section
noncomputable def pickOf (fs:List Nat) (picks:Int):Int × Int:=match fs[(picks.fmod fs.length).toNat]? with|some x=>((x:Int),picks.fdiv fs.length)|none=>(-1,picks)
section
variable {k lo more p t:Nat} {rows perm path:List Nat} {ties seen:HL}
theorem nbr_facts {number:Nat} (hr:∀r∈rows,r∈allRows) (hn:number∈allRows):∀r∈nbr rows number,r∈rows∧number^^^r∈allRows:=fun r h=>by
 obtain ⟨h1,h2⟩:=List.mem_filter.mp h
 rw [Bool.and_eq_true,decide_eq_true_eq,decide_eq_true_eq] at h2
 exact ⟨h1,xor_all _ hn _ (hr _ h1) h2.1 h2.2⟩
noncomputable def cand (p:Nat) (rows perm path:List Nat) (number:Nat):List Nat:=((nbr rows number).foldl (stepF perm number path) (p,[])).2
theorem way_c {number w tl tp fd:Nat} {picks:Int} {other kk words later:MV} {n:Nat} {o:List MO} (R:RowsOk lo p number rows perm path seen) (hm:more<2^24) (hna:number∈allRows) (hl:rows.length≤6) (hw:o[w]?=some (.list (octL more (nbr rows number)))) (I:IL (core lo rows perm ties seen path) tl tp fd (told2 more (nbr rows number)) 0 [] o):
  ∃(o':List MO) (fd':Nat) (other' least' kk' words' later':MV),(∃junk,o'=core lo rows perm ties seen path++junk)∧o'[fd']?=some (.list (intL (cand p rows perm path number)))∧
  exs (tblN (k+3)) (wayB.drop 8) ⟨WV number lo more picks (.fv (.int t)) (.ref w) other (.ref tp) (.fv (.int p)) (.ref fd) kk words later,[],o,n⟩=
   exs (tblN (k+3)) (wayB.drop 9) ⟨WV number lo more picks (.fv (.int t)) (.ref w) other' (.ref tp) least' (.ref fd') kk' words' later',[],o',n⟩:=by
 have hnl:(nbr rows number).length≤6:=Nat.le_trans (List.length_filter_le ..) hl
 obtain ⟨o',fd',i',other',kk',words',later',I',e⟩:=in_loop (k:=k) (t:=t) (n:=n) (picks:=picks) (told:=.ref w) (itv:=.rng 0 (nbr rows number).length 1) R hm (fun _=>rfl) (nbr rows number) 0 0 fd p [] o other kk words later (nbr_facts R.all hna) (by rw [List.length_nil];omega) I rfl
 refine ⟨o',fd',other',.fv (.int (((nbr rows number).foldl (stepF perm number path) (p,[])).1:Nat)),kk',words',later',I'.core,I'.ofd,?_⟩
 have hd8:wayB.drop 8=.cons wayFor (wayB.drop 9):=rfl
 have hol:(octL more (nbr rows number)).length=(nbr rows number).length:=List.length_map ..
 have hlen:builtin .len [.ref w] o=some (.fv (.int (nbr rows number).length),o):=by
  rw [len_list hw (by rw [hol];exact Nat.le_trans hnl (by decide)),hol]
 rw [hd8]
 refine exs_go (s':=⟨WV number lo more picks (.fv (.int t)) (.ref w) other' (.ref tp) (.fv (.int (((nbr rows number).foldl (stepF perm number path) (p,[])).1:Nat))) (.ref fd') kk' words' later',[],o',n⟩) ((ex_forS (x:=.rng 0 (nbr rows number).length 1) (o:=o) (full:=rngFrom 1 (nbr rows number).length ((0:Nat):Int)) (s':=⟨WV number lo more picks (.fv (.int t)) (.ref w) other' (.ref tp) (.fv (.int (((nbr rows number).foldl (stepF perm number path) (p,[])).1:Nat))) (.ref fd') kk' words' later',[.rng 0 (nbr rows number).length 1],o',n⟩) ?_ rfl (src_rng _ _ (by omega)) ?_).trans rfl) rfl
 ·exact (ev_bi (evs_1 (v:=.fv (.int (nbr rows number).length)) (o1:=o) ((ev_bi (evs_1 (v:=.ref w) (o1:=o) rfl)).trans hlen))).trans (range_ok _ _ (by omega))
 ·exact e
theorem intL_int (l:List Nat):(intL l).all FV.isInt=true:=by
 refine List.all_eq_true.mpr fun y hy=>?_
 obtain ⟨r,_,rfl⟩:=List.mem_map.mp hy
 rfl
theorem ne_empty {i j:Nat} {o:List MO} {l:List Nat} (hi:o[i]?=some (.list (intL l))) (hj:o[j]?=some (.list [])):cmpop .ne (.ref i) (.ref j) o=some (!l.isEmpty):=by
 exact (ne_two (listAt_of hi) (listAt_of hj) (by unfold sameKind;rw [intL_int];rfl)).trans (by cases l<;>rfl)
theorem fdiv_ok {a:Int} {b:Nat} (h:0<b) (h2:b≤1000):arith .fdiv a (b:Int)=some (a.fdiv b):=by
 show (if 0<(b:Int)&&(b:Int)<big then some (a.fdiv b) else none)=_
 exact if_pos (by rw [decide_eq_true (show (0:Int)<b by omega),decide_eq_true (show (b:Int)<(big:Nat) by exact Int.ofNat_lt.mpr (Nat.lt_of_le_of_lt h2 (by decide)))];rfl)
theorem way_d {T:Tbl} {number fd:Nat} {picks:Int} {turn told other tape least kk words later:MV} {n:Nat} {o:List MO} {fs:List Nat} (hf:o[fd]?=some (.list (intL fs))) (hl:fs.length≤100):
  exs T (wayB.drop 9) ⟨WV number lo more picks turn told other tape least (.ref fd) kk words later,[],o,n⟩=
   some (.next,⟨WV (pickOf fs picks).1 lo more (pickOf fs picks).2 turn told other tape least (.ref fd) kk words later,[],o++[.list []],n⟩):=by
 have hf1:(o++[MO.list []])[fd]?=some (.list (intL fs)):=app_at hf
 have hne:=ne_empty hf1 (at_end o (.list []))
 generalize e1:o++[MO.list []]=o1 at*
 have hd9:wayB.drop 9=.cons (wayB.at 9) (.cons (wayB.at 10) .nil):=rfl
 have en:ev T (.lst .nil (pq 305 20 22)) (WV (-1) lo more picks turn told other tape least (.ref fd) kk words later) o=some (.ref o.length,o1):=by rw [←e1];rfl
 rw [hd9]
 refine exs_go (s':=⟨WV (-1) lo more picks turn told other tape least (.ref fd) kk words later,[],o,n⟩) rfl ?_
 refine exs_go (s':=⟨WV (pickOf fs picks).1 lo more (pickOf fs picks).2 turn told other tape least (.ref fd) kk words later,[],o1,n⟩) ((ex_iff (b:=!fs.isEmpty) (o:=o1) (evT_cmp (ev_cmp (a:=.ref fd) (b:=.ref o.length) (o1:=o) (o2:=o1) rfl en hne))).trans ?_) rfl
 cases fs with
 |nil=>rfl
 |cons x r=>
  have hpos:(0:Int)<((x::r).length:Int):=by rw [List.length_cons];omega
  have hnn:=Int.fmod_nonneg_of_pos picks hpos
  have hlt:=Int.fmod_lt_of_pos picks hpos
  obtain ⟨j,hj⟩:=Int.eq_ofNat_of_zero_le hnn
  have hjl:j<(x::r).length:=by omega
  have hget:(x::r)[j]?=some (x::r)[j]:=List.getElem?_eq_getElem hjl
  have hp:pickOf (x::r) picks=(((x::r)[j]:Int),picks.fdiv (x::r).length):=by
   unfold pickOf
   rw [hj,Int.toNat_natCast,hget]
  rw [hp,show (!(x::r).isEmpty)=true from rfl]
  generalize hv:(x::r)[j]=v at*
  generalize hfs:x::r=fs at*
  have hlen:builtin .len [.ref fd] o1=some (.fv (.int fs.length),o1):=len_at hf1 (by omega)
  have hnth:nthM (.ref fd) (.fv (.int j)) o1=some (.fv (.int v)):=nth_list hf1 (by omega) (by unfold intL;rw [List.getElem?_map,hget];rfl)
  show exs T (wayB.at 10).body _=_
  have hb:(wayB.at 10).body=.cons ((wayB.at 10).body.at 0) (.cons ((wayB.at 10).body.at 1) .nil):=rfl
  rw [hb]
  refine exs_go (s':=⟨WV v lo more picks turn told other tape least (.ref fd) kk words later,[],o1,n⟩) (ex_asg (v:=.fv (.int v)) (o:=o1) ?a1 ?b1) ?_
  case a1=>
   refine ev_sub (a:=.ref fd) (b:=.fv (.int j)) (o1:=o1) (o2:=o1) rfl ?_ hnth
   refine (ev_bin (a:=.fv (.int picks)) (b:=.fv (.int fs.length)) (o1:=o1) (o2:=o1) rfl ((ev_bi (evs_1 (v:=.ref fd) (o1:=o1) rfl)).trans hlen)).trans ?_
   show (arith .fmod picks (fs.length:Int)).map (fun c=>(MV.fv (.int c),o1))=_
   rw [mod_ok hj (by omega)];rfl
  case b1=>rfl
  refine exs_go (s':=⟨WV v lo more (picks.fdiv fs.length) turn told other tape least (.ref fd) kk words later,[],o1,n⟩) (ex_asg (v:=.fv (.int (picks.fdiv fs.length))) (o:=o1) ?a2 ?b2) rfl
  case a2=>
   refine (ev_bin (a:=.fv (.int picks)) (b:=.fv (.int fs.length)) (o1:=o1) (o2:=o1) rfl ((ev_bi (evs_1 (v:=.ref fd) (o1:=o1) rfl)).trans hlen)).trans ?_
   show (arith .fdiv picks (fs.length:Int)).map (fun c=>(MV.fv (.int c),o1))=_
   rw [fdiv_ok (by omega) (by omega)];rfl
  case b2=>rfl
end
end
section
theorem perm_nodup_len {l:List Nat} (h:l.length≤6):l.length≤1000:=by omega
section
variable {k lo more p n:Nat} {rows perm:List Nat}
theorem way_turn {number:Nat} {path:List Nat} {picks:Int} {turn told other tape least fnd kk words later:MV} {junk:List MO} (hM:rows∈[rows5,rows6]) (hlo:lo<28) (hm:more<2^24) (P:PermOk p perm) (hp5:p≤5) (hn:number∈rows) (hpa:∀r∈path,r∈rows) (hpl:path.length≤10) (hcl:(cand p rows perm (path++[number]) number).length≤100):
  ∃(turn' told' other' tape' least' fnd' kk' words' later':MV) (junk':List MO),
  exs (tblN (k+3)) wayB ⟨WV number lo more picks turn told other tape least fnd kk words later,[],core lo rows perm (tieAll lo more rows) (seenFrom lo 0 path) path++junk,n⟩=
   some (.next,⟨WV (pickOf (cand p rows perm (path++[number]) number) picks).1 lo more (pickOf (cand p rows perm (path++[number]) number) picks).2 turn' told' other' tape' least' fnd' kk' words' later',[],core lo rows perm (tieAll lo more rows) (seenFrom lo 0 (path++[number])) (path++[number])++junk',n⟩):=by
 obtain ⟨hra,hrl⟩:=rows_in rows hM
 have hna:=hra number hn
 have hpa':∀r∈path++[number],r∈allRows:=fun r h=>by
  rcases List.mem_append.mp h with h|h
  ·exact hra r (hpa r h)
  ·rw [List.mem_singleton.mp h];exact hna
 have hsl:(seenFrom lo 0 path).length≤1000:=by rw [seen_len];omega
 have hst:seenFrom lo 0 path++[(sized path.length (nameOf lo number),[])]=seenFrom lo 0 (path++[number]):=by rw [seen_app,Nat.zero_add]
 have htl:(tieAll lo more rows).length≤1000:=by
  have h1:∀one,(tieR lo more rows one).length≤2*rows.length:=fun one=>fm_len _ 2 (tieE_len lo more one) rows
  have:=fm_len (tieR lo more rows) (2*rows.length) h1 rows
  exact Nat.le_trans this (Nat.le_trans (Nat.mul_le_mul (Nat.mul_le_mul_left 2 hrl) hrl) (by decide))
 have R:RowsOk lo p number rows perm (path++[number]) (seenFrom lo 0 (path++[number])):=⟨hlo,P,hp5,hra,seen_hdr hlo _ _ hpa',by rw [seen_len];simp;omega,fun r hr=>seen_found hlo (hra r hr) _ _ hpa'⟩
 have ea:=way_a (k:=k+1) (more:=more) (path:=path) (junk:=junk) (perm:=perm) (picks:=picks) (turn:=turn) (told:=told) (other:=other) (tape:=tape) (least:=least) (fnd:=fnd) (kk:=kk) (words:=words) (later:=later) (n:=n) hlo hn hna hsl (by omega) (hdr_ties (more:=more) hlo hra) htl
 rw [hst,gets_ties hlo hra hna (nb_ok rows hM number hn)] at ea
 have hw:(core lo rows perm (tieAll lo more rows) (seenFrom lo 0 (path++[number])) (path++[number])++(junk++[.list (octL more (nbr rows number))]))[(core lo rows perm (tieAll lo more rows) (seenFrom lo 0 (path++[number])) (path++[number])++junk).length]?=some (.list (octL more (nbr rows number))):=by
  rw [←List.append_assoc];exact at_end _ _
 generalize hwv:(core lo rows perm (tieAll lo more rows) (seenFrom lo 0 (path++[number])) (path++[number])++junk).length=w at ea hw
 clear hwv
 obtain ⟨o1,tl,tp,fd,I,hw1,eb⟩:=way_b (k:=k+2) (picks:=picks) (turn:=.fv (.int path.length)) (other:=other) (tape:=tape) (least:=least) (fnd:=fnd) (kk:=kk) (words:=words) (later:=later) (n:=n) rfl hlo hm hra hrl P hp5 hw
 obtain ⟨o2,fd2,other2,least2,kk2,words2,later2,⟨j2,hj2⟩,hf2,ec⟩:=way_c (k:=k) (t:=path.length) (picks:=picks) (other:=other) (kk:=kk) (words:=words) (later:=later) (n:=n) R hm hna hrl hw1 I
 have ed:=way_d (T:=tblN (k+3)) (lo:=lo) (more:=more) (number:=number) (picks:=picks) (turn:=.fv (.int path.length)) (told:=.ref w) (other:=other2) (tape:=.ref tp) (least:=least2) (kk:=kk2) (words:=words2) (later:=later2) (n:=n) hf2 hcl
 refine ⟨.fv (.int path.length),.ref w,other2,.ref tp,least2,.ref fd2,kk2,words2,later2,j2++[.list []],?_⟩
 rw [←List.append_assoc,←hj2]
 exact ea.trans (eb.trans (ec.trans ed))
end
end
section
noncomputable def natI (l:List Nat):List Int:=l.map fun (x:Nat)=>(x:Int)
noncomputable def fin (rows path:List Nat):Bool:=decide (sortInts (natI path)=natI rows)
noncomputable def okW (p:Nat) (rows perm:List Nat):Nat→List Nat→Nat→Bool
 |0,_,_=>false
 |f+1,path,number=>(cand p rows perm (path++[number]) number).all rows.contains&&decide ((cand p rows perm (path++[number]) number).length≤100)&&
   (if (cand p rows perm (path++[number]) number).isEmpty then fin rows (path++[number]) else decide ((path++[number]).length≤rows.length)&&(cand p rows perm (path++[number]) number).all (okW p rows perm f (path++[number])))
section
variable {k lo more p n:Nat} {rows perm:List Nat}
theorem way_test (T:Tbl) {number:Int} {path:List Nat} {ties seen:HL} {picks:Int} {turn told other tape least fnd kk words later:MV} {junk:List MO} (hpl:path.length≤10) (hrl:rows.length≤6):
  (evT T wayW.test (ev T wayW.test (WV number lo more picks turn told other tape least fnd kk words later) (core lo rows perm ties seen path++junk)) (WV number lo more picks turn told other tape least fnd kk words later) (core lo rows perm ties seen path++junk)).map (fun p=>(p.1,(⟨WV number lo more picks turn told other tape least fnd kk words later,[],p.2,n⟩:MS)))=
   some (decide (0≤number)&&decide (path.length≤rows.length),⟨WV number lo more picks turn told other tape least fnd kk words later,[],core lo rows perm ties seen path++junk,n⟩):=by
 have hl1:builtin .len [.ref 6] (core lo rows perm ties seen path++junk)=some (.fv (.int path.length),core lo rows perm ties seen path++junk):=len_at (l:=path) rfl (by omega)
 have hdl:(nmD lo rows).length=rows.length:=List.length_map ..
 have hl2:builtin .len [.ref 0] (core lo rows perm ties seen path++junk)=some (.fv (.int rows.length),core lo rows perm ties seen path++junk):=by
  show (if (nmD lo rows).length≤lenLim then some (MV.fv (.int (nmD lo rows).length),core lo rows perm ties seen path++junk) else none)=_
  rw [hdl,if_pos (Nat.le_trans hrl (by decide))]
 have e:evT T wayW.test (ev T wayW.test (WV number lo more picks turn told other tape least fnd kk words later) (core lo rows perm ties seen path++junk)) (WV number lo more picks turn told other tape least fnd kk words later) (core lo rows perm ties seen path++junk)=some (decide (0≤number)&&decide (path.length≤rows.length),core lo rows perm ties seen path++junk):=by
  refine evA2 ?_ ?_
  ·exact evT_cmp (ev_cmp (a:=.fv (.int number)) (b:=.fv (.int 0)) (o1:=core lo rows perm ties seen path++junk) (o2:=core lo rows perm ties seen path++junk) rfl rfl rfl)
  ·exact evT_cmp (ev_cmp (a:=.fv (.int path.length)) (b:=.fv (.int rows.length)) (o1:=core lo rows perm ties seen path++junk) (o2:=core lo rows perm ties seen path++junk) ((ev_bi (evs_1 (v:=.ref 6) (o1:=core lo rows perm ties seen path++junk) rfl)).trans hl1) ((ev_bi (evs_1 (v:=.ref 0) (o1:=core lo rows perm ties seen path++junk) rfl)).trans hl2) le_nat)
 rw [e];rfl
noncomputable def wayGo (T:Tbl) (fuel:Nat) (s:MS):Option (Fl × MS):=whileTurns (fun s=>(evT T wayW.test (ev T wayW.test s.vars s.objs) s.vars s.objs).map fun p=>(p.1,{s with objs:=p.2})) (fun s=>exs T wayB s) fuel s
theorem way_loop (hM:rows∈[rows5,rows6]) (hlo:lo<28) (hm:more<2^24) (P:PermOk p perm) (hp5:p≤5):∀(f fuel:Nat) (path:List Nat) (number:Nat) (picks:Int) (turn told other tape least fnd kk words later:MV) (junk:List MO),okW p rows perm f path number=true→number∈rows→(∀r∈path,r∈rows)→path.length≤rows.length→f≤fuel→
  ∃(number' picks':Int) (turn' told' other' tape' least' fnd' kk' words' later':MV) (junk':List MO) (pathF:List Nat),fin rows pathF=true∧(∀r∈pathF,r∈rows)∧pathF.length≤7∧
   wayGo (tblN (k+3)) (fuel+1) ⟨WV number lo more picks turn told other tape least fnd kk words later,[],core lo rows perm (tieAll lo more rows) (seenFrom lo 0 path) path++junk,n⟩=
    some (.next,⟨WV number' lo more picks' turn' told' other' tape' least' fnd' kk' words' later',[],core lo rows perm (tieAll lo more rows) (seenFrom lo 0 pathF) pathF++junk',n⟩)
 |0,fuel,path,number,picks,turn,told,other,tape,least,fnd,kk,words,later,junk,hok,hn,hpa,hpl,hf=>by cases hok
 |f+1,0,path,number,picks,turn,told,other,tape,least,fnd,kk,words,later,junk,hok,hn,hpa,hpl,hf=>by omega
 |f+1,fuel+1,path,number,picks,turn,told,other,tape,least,fnd,kk,words,later,junk,hok,hn,hpa,hpl,hf=>by
  obtain ⟨hra,hrl⟩:=rows_in rows hM
  unfold okW at hok
  rw [Bool.and_eq_true,Bool.and_eq_true,decide_eq_true_eq] at hok
  obtain ⟨⟨h1,h2⟩,h3⟩:=hok
  obtain ⟨turn1,told1,other1,tape1,least1,fnd1,kk1,words1,later1,junk1,et⟩:=way_turn (k:=k) (n:=n) (picks:=picks) (turn:=turn) (told:=told) (other:=other) (tape:=tape) (least:=least) (fnd:=fnd) (kk:=kk) (words:=words) (later:=later) (junk:=junk) hM hlo hm P hp5 hn hpa (by omega) h2
  have hpa':∀r∈path++[number],r∈rows:=fun r h=>by
   rcases List.mem_append.mp h with h|h
   ·exact hpa r h
   ·rw [List.mem_singleton.mp h];exact hn
  have ht:=way_test (tblN (k+3)) (lo:=lo) (more:=more) (perm:=perm) (n:=n) (number:=number) (path:=path) (ties:=tieAll lo more rows) (seen:=seenFrom lo 0 path) (picks:=picks) (turn:=turn) (told:=told) (other:=other) (tape:=tape) (least:=least) (fnd:=fnd) (kk:=kk) (words:=words) (later:=later) (junk:=junk) (by omega) hrl
  rw [decide_eq_true (Int.natCast_nonneg number),decide_eq_true hpl] at ht
  have go:wayGo (tblN (k+3)) (fuel+1+1) ⟨WV number lo more picks turn told other tape least fnd kk words later,[],core lo rows perm (tieAll lo more rows) (seenFrom lo 0 path) path++junk,n⟩=wayGo (tblN (k+3)) (fuel+1) _:=while_go (s':=⟨WV number lo more picks turn told other tape least fnd kk words later,[],core lo rows perm (tieAll lo more rows) (seenFrom lo 0 path) path++junk,n⟩) ht et
  rw [go]
  have hl':(path++[number]).length=path.length+1:=by simp
  cases hc:cand p rows perm (path++[number]) number with
  |nil=>
   rw [hc] at h3
   have h4:fin rows (path++[number])=true:=h3
   refine ⟨-1,picks,turn1,told1,other1,tape1,least1,fnd1,kk1,words1,later1,junk1,path++[number],h4,hpa',by omega,?_⟩
   have ht2:=way_test (tblN (k+3)) (lo:=lo) (more:=more) (perm:=perm) (n:=n) (number:= -1) (path:=path++[number]) (ties:=tieAll lo more rows) (seen:=seenFrom lo 0 (path++[number])) (picks:=picks) (turn:=turn1) (told:=told1) (other:=other1) (tape:=tape1) (least:=least1) (fnd:=fnd1) (kk:=kk1) (words:=words1) (later:=later1) (junk:=junk1) (by omega) hrl
   exact while_stop ht2
  |cons x r=>
   have hpos:(0:Int)<((x::r).length:Int):=by rw [List.length_cons];omega
   have hnn:=Int.fmod_nonneg_of_pos picks hpos
   have hlt:=Int.fmod_lt_of_pos picks hpos
   have hjl:(picks.fmod (x::r).length).toNat<(x::r).length:=by omega
   have hget:=List.getElem?_eq_getElem hjl
   have hmem:=List.getElem_mem hjl
   generalize (x::r)[(picks.fmod (x::r).length).toNat]=y at hget hmem
   have hp:pickOf (x::r) picks=((y:Int),picks.fdiv (x::r).length):=by unfold pickOf;rw [hget]
   rw [hp]
   rw [hc] at h3 h1
   have h4:(decide ((path++[number]).length≤rows.length)&&(x::r).all (okW p rows perm f (path++[number])))=true:=h3
   rw [Bool.and_eq_true,decide_eq_true_eq] at h4
   exact way_loop hM hlo hm P hp5 f fuel (path++[number]) y _ turn1 told1 other1 tape1 least1 fnd1 kk1 words1 later1 junk1 (List.all_eq_true.mp h4.2 y hmem) (List.contains_iff_mem.mp (List.all_eq_true.mp h1 y hmem)) hpa' h4.1 (by omega)
end
end
section
section
variable {k lo more p:Nat} {rows perm:List Nat}
theorem T9 {first:Nat} {picks:Int} (hM:rows∈[rows5,rows6]) (hlo:lo<28) (hm:more<2^24) (P:PermOk p perm) (hp5:p≤5) (hok:okW p rows perm 7 [] first=true) (hf:first∈rows):
  ∃(path:List Nat) (junk:List MO),fin rows path=true∧(∀r∈path,r∈rows)∧path.length≤7∧
   tblN (k+4) 9 [.fv (.int first),.ref 0,.fv (.int lo),.ref 1,.fv (.int more),.fv (.int picks),.ref 2,.ref 4] [.dict (nmD lo rows),.list (ordL lo perm),.hdr 3,.list ((tieAll lo more rows).map hd),.hdr 5,.list []]=
    some (.ref 6,core lo rows perm (tieAll lo more rows) (seenFrom lo 0 path) path++junk):=by
 obtain ⟨number',picks',turn',told',other',tape',least',fnd',kk',words',later',junk',path,h1,h2,h3,e⟩:=way_loop (k:=k) (n:=6) hM hlo hm P hp5 7 63 [] first picks .unb .unb .unb .unb .unb .unb .unb .unb .unb [] hok hf (fun _ h=>nomatch h) (Nat.zero_le _) (by decide)
 refine ⟨path,junk',h1,h2,h3,?_⟩
 show runBody (tblN (k+3)) bFlawway ([.fv (.int first),.ref 0,.fv (.int lo),.ref 1,.fv (.int more),.fv (.int picks),.ref 2,.ref 4,.unb,.unb,.unb,.unb,.unb,.unb,.unb,.unb,.unb,.unb,.unb,.unb,.unb,.unb,.unb,.unb,.unb]) [.dict (nmD lo rows),.list (ordL lo perm),.hdr 3,.list ((tieAll lo more rows).map hd),.hdr 5,.list []]=_
 have hB:bFlawway=.cons (bFlawway.at 0) (.cons wayW (.cons (bFlawway.at 2) .nil)):=rfl
 have hW:wayW=.whl wayW.test wayB ⟨284,4,307,39⟩:=rfl
 refine runBody_ret (s:=⟨WV number' lo more picks' turn' told' other' tape' least' fnd' kk' words' later',[],core lo rows perm (tieAll lo more rows) (seenFrom lo 0 path) path++junk',6⟩) ?_
 rw [hB]
 refine exs_go (s':=⟨WV first lo more picks .unb .unb .unb .unb .unb .unb .unb .unb .unb,[],core lo rows perm (tieAll lo more rows) (seenFrom lo 0 []) []++[],6⟩) rfl ?_
 refine exs_go (s':=⟨WV number' lo more picks' turn' told' other' tape' least' fnd' kk' words' later',[],core lo rows perm (tieAll lo more rows) (seenFrom lo 0 path) path++junk',6⟩) ?_ (exs_ret (ex_ret rfl))
 rw [hW];exact e
end
noncomputable def lehAll {α:Type}:Nat→List α→List (List α)
 |0,_=>[[]]
 |f+1,ws=>(List.range ws.length).flatMap fun i=>match ws[i]? with
  |some w=>(lehAll f (ws.eraseIdx i)).map (w:: ·)
  |none=>[]
theorem leh_in {α:Type}:∀(f:Nat) (ws:List α) (d:Int),ws.length=f→leh f ws d∈lehAll f ws
 |0,_,_,_=>.head _
 |f+1,ws,d,h=>by
  have hpos:(0:Int)<(ws.length:Int):=by omega
  have hnn:=Int.fmod_nonneg_of_pos d hpos
  have hlt:=Int.fmod_lt_of_pos d hpos
  have hjl:(d.fmod ws.length).toNat<ws.length:=by omega
  unfold leh lehAll
  refine List.mem_flatMap.mpr ⟨_,List.mem_range.mpr hjl,?_⟩
  rw [List.getElem?_eq_getElem hjl]
  exact List.mem_map.mpr ⟨_,leh_in f _ _ (by rw [List.length_eraseIdx,if_pos hjl];omega),rfl⟩
theorem leh_map {α β:Type} (g:α→β):∀(f:Nat) (ws:List α) (d:Int),leh f (ws.map g) d=(leh f ws d).map g
 |0,_,_=>rfl
 |f+1,ws,d=>by
  unfold leh
  have he:∀i,(ws.map g).eraseIdx i=(ws.eraseIdx i).map g:=fun i=>by rw [List.eraseIdx_eq_take_drop_succ,List.eraseIdx_eq_take_drop_succ,List.map_append,List.map_take,List.map_drop]
  rw [List.length_map,List.getElem?_map,he]
  cases ws[(d.fmod ws.length).toNat]? with
  |none=>rfl
  |some w=>exact congrArg (g w:: ·) (leh_map g f _ _)
noncomputable def menus:List (Nat × List Nat):=[(5,rows5),(4,rows5),(4,rows6)]
set_option maxRecDepth 100000 in
set_option maxHeartbeats 0 in
theorem orders_ok:(menus.all fun m=>(lehAll m.1 (List.range m.1)).all fun perm=>perm.all (fun j=>decide (j<5))&&(List.range 4).all perm.contains&&decide (perm.length=m.1)&&m.2.all fun first=>okW m.1 m.2 perm 7 [] first)=true:=by decide+kernel
theorem order_of {m:Nat × List Nat} (h:m∈menus) (d:Int):PermOk m.1 (leh m.1 (List.range m.1) d)∧∀first∈m.2,okW m.1 m.2 (leh m.1 (List.range m.1) d) 7 [] first=true:=by
 have:=List.all_eq_true.mp (List.all_eq_true.mp orders_ok m h) _ (leh_in m.1 (List.range m.1) d List.length_range)
 rw [Bool.and_eq_true,Bool.and_eq_true,Bool.and_eq_true,decide_eq_true_eq] at this
 obtain ⟨⟨⟨h1,h2⟩,h3⟩,h4⟩:=this
 exact ⟨⟨fun j hj=>of_decide_eq_true (List.all_eq_true.mp h1 j hj),fun j hj=>List.contains_iff_mem.mp (List.all_eq_true.mp h2 j (List.mem_range.mpr hj)),h3⟩,fun first hf=>List.all_eq_true.mp h4 first hf⟩
end
section
theorem compTurns_junk {n:Nat} {step:FV→List MV→List MO→Option (List FV × List MV × List MO)} {src:MV} {orig:Option MO} {os:List MO} (I:List MV→Prop) (g:FV→FV) (ho:origOf src os=orig):
  ∀(l:List FV) (vs:List MV) (acc:List FV),I vs→(∀x∈l,∀vs,I vs→∃vs' os',I vs'∧okTake n os'=true∧os'.take n=os∧step x vs os=some ([g x],vs',os'))→acc.length+l.length≤lenLim→∃vs',compTurns n step src orig l vs os acc=some (acc++l.map g,vs',os)
 |[],vs,acc,hI,hs,hl=>⟨vs,by
  show (if origOf src os==orig then some (acc,vs,os) else none)=_
  rw [ho];simp⟩
 |x::r,vs,acc,hI,hs,hl=>by
  obtain ⟨vs',os',hI',ht,hn,e⟩:=hs x (.head _) vs hI
  rw [List.length_cons] at hl
  obtain ⟨vs'',e2⟩:=compTurns_junk I g ho r vs' (acc++[g x]) hI' (fun y hy=>hs y (.tail _ hy)) (by rw [List.length_append,List.length_singleton];omega)
  refine ⟨vs'',?_⟩
  show (if origOf src os==orig then (match step x vs os with|some (ys,vs',objs')=>if acc.length+ys.length≤lenLim&&okTake n objs' then compTurns n step src orig r vs' (objs'.take n) (acc++ys) else none|none=>none) else none)=_
  rw [ho,e,List.map_cons,show acc++g x::r.map g=acc++[g x]++r.map g by simp,←e2]
  simp only [beq_self_eq_true,if_true]
  rw [if_pos (by rw [ht,List.length_singleton,decide_eq_true (by omega)];rfl),hn]
theorem comp_cap {T:Tbl} {vars:List MV} {o o1:List MO} {w c:Nat} {full cl:List FV} {elt iter:X} {ns:Names} {caps:List (Option Nat)} {p1 p2:Pos} {blank:Nat} (g:FV→FV) (hi:ev T iter vars o=some (.ref w,o1)) (hw:o1[w]?=some (.list full)) (hc:o1[c]?=some (.list cl)) (hne:w≠c) (hl:full.length≤1000)
  (hcap:capsOf vars caps=.unb::.unb::(List.replicate blank .unb++[.ref c])) (hs:∀x∈full,∃os',okTake 2 os'=true∧os'.take 2=[.list full,.list cl]∧ev T elt (.unb::.fv x::(List.replicate blank .unb++[.ref 1])) [.list full,.list cl]=some (.fv (g x),os')):
  ev T (.comp elt 1 iter .no ns caps p1 p2) vars o=some (.ref o1.length,o1++[.list (full.map g)]):=by
 have hi0:[w,c].idxOf w=0:=by simp
 have hi1:[w,c].idxOf c=1:=by rw [List.idxOf_cons,show (w==c)=false by simpa using hne];simp
 have hrep:∀n,(List.replicate n MV.unb).flatMap (refsOf o1)=[]:=fun n=>by induction n with|zero=>rfl|succ n ih=>exact ih
 have hr:rootsOf (.ref w::capsOf vars caps) o1=[w,c]:=by
  rw [hcap]
  show dedup (((w::((o1[w]?.bind MO.next).toList))++([]++([]++(List.replicate blank MV.unb++[MV.ref c]).flatMap (refsOf o1)))))=_
  rw [List.flatMap_append,hrep,hw]
  show dedup (w::((c::((o1[c]?.bind MO.next).toList))++[]))=_
  rw [hc]
  show w::([c].filter (· !=w))=_
  rw [List.filter_cons_of_pos (by simpa using Ne.symm hne)];rfl
 have hpk:pick [w,c] o1=[.list full,.list cl]:=by
  show [renumO [w,c] (o1.getD w (.list [])),renumO [w,c] (o1.getD c (.list []))]=_
  rw [List.getD_eq_getElem?_getD,List.getD_eq_getElem?_getD,hw,hc];rfl
 have hcl:closed [w,c] o1=true:=by
  show ((match o1[w]? with|some o=>(match o.next with|some k=>[w,c].contains k|none=>true)|none=>false)&&((match o1[c]? with|some o=>(match o.next with|some k=>[w,c].contains k|none=>true)|none=>false)&&true))=true
  rw [hw,hc];rfl
 have hrw:renum [w,c] (.ref w)=.ref 0:=congrArg MV.ref hi0
 have hlen:full.length≤lenLim:=Nat.le_trans hl (by decide)
 have hed:(capsOf vars caps).contains .edict=false:=by
  rw [hcap,←Bool.not_eq_true]
  intro h
  have h:=List.contains_iff_mem.mp h
  rcases List.mem_cons.mp h with h|h
  ·cases h
  rcases List.mem_cons.mp h with h|h
  ·cases h
  rcases List.mem_append.mp h with h|h
  ·cases (List.mem_replicate.mp h).2
  ·cases List.mem_singleton.mp h
 have hin:compIn vars caps (.ref w) o1=some ([w,c],full):=by
  show (if closed (rootsOf (.ref w::capsOf vars caps) o1) o1&&!(capsOf vars caps).contains .edict&&(MV.ref w !=.edict) then (srcItems (renum (rootsOf (.ref w::capsOf vars caps) o1) (.ref w)) (pick (rootsOf (.ref w::capsOf vars caps) o1) o1)).map (fun full=>(rootsOf (.ref w::capsOf vars caps) o1,full)) else none)=_
  rw [hr,hcl,hrw,hpk,hed]
  show (if full.length≤lenLim then some full else none).map (fun full=>([w,c],full))=_
  rw [if_pos hlen];rfl
 have hcp:(capsOf vars caps).map (renum [w,c])=.unb::.unb::(List.replicate blank .unb++[.ref 1]):=by
  rw [hcap]
  show MV.unb::MV.unb::(List.replicate blank MV.unb++[MV.ref c]).map (renum [w,c])=_
  rw [List.map_append,List.map_replicate]
  show MV.unb::MV.unb::(List.replicate blank MV.unb++[MV.ref ([w,c].idxOf c)])=_
  rw [hi1]
 obtain ⟨vs',e⟩:=compTurns_junk (n:=2) (src:=.ref 0) (orig:=some (.list full)) (os:=[.list full,.list cl]) (step:=compStep T elt 1 .no)
  (fun vs=>∃x,vs=.unb::x::(List.replicate blank MV.unb++[MV.ref 1])) g rfl full (.unb::.unb::(List.replicate blank .unb++[.ref 1])) [] ⟨_,rfl⟩ (fun x hx vs hI=>by
   obtain ⟨y,rfl⟩:=hI
   obtain ⟨os',h1,h2,h3⟩:=hs x hx
   exact ⟨_,os',⟨_,rfl⟩,h1,h2,compStep_no h3⟩)
  (by rw [List.length_nil,Nat.zero_add];exact hlen)
 rw [List.nil_append] at e
 refine ev_comp (x:=.ref w) (rs:=[w,c]) (full:=full) (ys:=full.map g) (vs':=vs') (oc:=pick [w,c] o1) hi hin ?_ (compOut_same ?_)
 ·rw [hrw,hpk,hcp];exact e
 ·intro i hi
  rcases List.mem_cons.mp hi with rfl|hi
  ·exact ⟨_,hw,rfl⟩
  ·rw [List.mem_singleton.mp hi];exact ⟨_,hc,rfl⟩
end
section
theorem callM_new {T:Tbl} {f j:Nat} {o oc:List MO} (xs:List FV) {ys:List FV} (h:T f (xs.map .fv) []=some (.ref j,oc)) (hj:oc[j]?=some (.list ys)):callM T f (xs.map .fv) o=some (.ref o.length,o++[.list ys]):=by
 have h1:rootsOf (xs.map MV.fv) o=[]:=by
  unfold rootsOf
  have:(xs.map MV.fv).flatMap (refsOf o)=[]:=by
   induction xs with
   |nil=>rfl
   |cons x r ih=>simp [refsOf]
  rw [this];rfl
 have h2:(xs.map MV.fv).map (renum [])=xs.map .fv:=by
  rw [List.map_map];rfl
 unfold callM
 rw [h1]
 show (match T f ((xs.map MV.fv).map (renum [])) [] with|some (v,oc)=>comeBack [] v oc o|none=>none)=_
 rw [h2,h]
 show (match backFrom [] oc 0 o with|some os=>oc[j]?.bind (newBack os)|none=>none)=_
 rw [back_nil,hj];rfl
theorem ex_asgT {T:Tbl} {s:MS} {i j:Nat} {e:X} {p1 p2 p3 p4:Pos} {a b:FV} {o:List MO} (h:ev T e s.vars s.objs=some (.fv (.pair a b),o)):ex T (.asgT i j e p1 p2 p3 p4) s=some (.next,⟨(s.vars.set i (.fv a)).set j (.fv b),s.its,o,s.n⟩):=by
 show (match ev T e s.vars s.objs with|some (.fv (.pair a b),o)=>some (Fl.next,{s with vars:=(s.vars.set i (.fv a)).set j (.fv b),objs:=o})|_=>none)=_
 rw [h]
theorem eq_empty {i j:Nat} {o:List MO} {l:List Nat} (hi:o[i]?=some (.list (intL l))) (hj:o[j]?=some (.list [])):cmpop .eq (.ref i) (.ref j) o=some l.isEmpty:=by
 exact (eq_two (listAt_of hi) (listAt_of hj) (by unfold sameKind;rw [intL_int];rfl)).trans (by cases l<;>rfl)
noncomputable def dStep (T:Tbl) (key val:X) (ti:Nat):FV→List MV→List MO→Option (List FV × List MV × List MO):=fun it vs os=>
 match ev T key (vs.set ti (.fv it)) os with
 |some (.fv (.int k),os1)=>match ev T val (vs.set ti (.fv it)) os1 with
  |some (.fv y,os2)=>some ([.pair (.int k) y],vs.set ti (.fv it),os2)
  |_=>none
 |_=>none
theorem ev_dcomp {T:Tbl} {vars:List MV} {o o1:List MO} {key val iter:X} {ti:Nat} {ns:Names} {caps:List (Option Nat)} {pt p:Pos} {x:MV} {rs:List Nat} {full ys:List FV} {vs':List MV} {oc:List MO} {es:List (Int × FV)} {r:MV × List MO}
  (h1:ev T iter vars o=some (x,o1)) (h2:compIn vars caps x o1=some (rs,full)) (h3:compTurns rs.length (dStep T key val ti) (renum rs x) (origOf (renum rs x) (pick rs o1)) full ((capsOf vars caps).map (renum rs)) (pick rs o1) []=some (ys,vs',oc))
  (h4:dictOf? ys=some es) (h5:compOut rs oc o1 (.dict es)=some r):ev T (.dcomp key val ti iter ns caps pt p) vars o=some r:=by
 show (match ev T iter vars o with|some (x,o1)=>(match compIn vars caps x o1 with|some (rs,full)=>(match compTurns rs.length (dStep T key val ti) (renum rs x) (origOf (renum rs x) (pick rs o1)) full ((capsOf vars caps).map (renum rs)) (pick rs o1) [] with|some (ys,_,oc')=>(match dictOf? ys with|some es=>compOut rs oc' o1 (.dict es)|none=>none)|none=>none)|none=>none)|none=>none)=_
 rw [h1];dsimp only;rw [h2];dsimp only;rw [h3];dsimp only;rw [h4];exact h5
theorem pairs_nm (lo:Nat):∀rows:List Nat,pairs? (rows.map fun (r:Nat)=>FV.pair (.int r) (.str (nameOf lo r)))=some (nmD lo rows)
 |[]=>rfl
 |r::l=>by
  show (pairs? (l.map fun (r:Nat)=>FV.pair (.int r) (.str (nameOf lo r)))).map (((r:Int),FV.str (nameOf lo r)):: ·)=_
  rw [pairs_nm lo l];rfl
theorem keys_nm (lo:Nat) (rows:List Nat):(nmD lo rows).map (·.1)=natI rows:=by unfold nmD natI;rw [List.map_map];rfl
theorem keys_ok:∀rows∈[rows5,rows6],(natI rows).Nodup:=by decide+kernel
theorem names_comp (k:Nat) {lo j l:Nat} {rows:List Nat} {vars:List MV} {o:List MO} {ns:Names} {q1 q2 q3 q4 q5 q6 q7 q8 q9 q10 q11:Pos} (hM:rows∈[rows5,rows6]) (hlo:lo<28) (hv:vars[l]?=some (.ref j)) (ho:o[j]?=some (.list (intL rows))) (h4:vars[4]?=some (.fv (.int lo))):
  ev (tblN (k+1)) (.dcomp (.var 1 q1) (.fn 10 (.cons (.bin (.var 1 q2) .mul (.bin (.ci 2 q3) .pow (.var 3 q4) q5) q6) .nil) q7 q8) 1 (.var l q9) ns [none,none,none,some 4] q10 q11) vars o=some (.ref o.length,o++[.dict (nmD lo rows)]):=by
 obtain ⟨hra,hrl⟩:=rows_in rows hM
 have hcap:capsOf vars [none,none,none,some 4]=[.unb,.unb,.unb,.fv (.int lo)]:=by
  show [MV.unb,.unb,.unb,vars.getD 4 .unb]=_
  rw [List.getD_eq_getElem?_getD,h4];rfl
 have hr:rootsOf (.ref j::capsOf vars [none,none,none,some 4]) o=[j]:=by
  rw [hcap]
  show dedup (((j::((o[j]?.bind MO.next).toList))++[]))=_
  rw [ho];rfl
 have hpk:pick [j] o=[.list (intL rows)]:=by
  show [renumO [j] (o.getD j (.list []))]=_
  rw [List.getD_eq_getElem?_getD,ho];rfl
 have hrw:renum [j] (.ref j)=.ref 0:=congrArg MV.ref (by simp)
 have hcl:closed [j] o=true:=by
  show ((match o[j]? with|some o=>(match o.next with|some k=>[j].contains k|none=>true)|none=>false)&&true)=true
  rw [ho];rfl
 have hil:(intL rows).length=rows.length:=List.length_map ..
 have hlen:(intL rows).length≤lenLim:=by rw [hil];exact Nat.le_trans hrl (by decide)
 have hin:compIn vars [none,none,none,some 4] (.ref j) o=some ([j],intL rows):=by
  show (if closed (rootsOf (.ref j::capsOf vars [none,none,none,some 4]) o) o&&!(capsOf vars [none,none,none,some 4]).contains .edict&&(MV.ref j !=.edict) then (srcItems (renum (rootsOf (.ref j::capsOf vars [none,none,none,some 4]) o) (.ref j)) (pick (rootsOf (.ref j::capsOf vars [none,none,none,some 4]) o) o)).map (fun full=>(rootsOf (.ref j::capsOf vars [none,none,none,some 4]) o,full)) else none)=_
  rw [hr,hcl,hrw,hpk,hcap]
  show (if (intL rows).length≤lenLim then some (intL rows) else none).map (fun full=>([j],full))=_
  rw [if_pos hlen];rfl
 obtain ⟨vs',e⟩:=compTurns_junk (n:=1) (src:=.ref 0) (orig:=some (.list (intL rows))) (os:=[.list (intL rows)]) (step:=dStep (tblN (k+1)) (.var 1 q1) (.fn 10 (.cons (.bin (.var 1 q2) .mul (.bin (.ci 2 q3) .pow (.var 3 q4) q5) q6) .nil) q7 q8) 1)
  (fun vs=>∃x,vs=[.unb,x,.unb,.fv (.int lo)]) (fun x=>match x with|.int r=>.pair (.int r) (.str (nameOf lo r.toNat))|y=>y) rfl (intL rows) [.unb,.unb,.unb,.fv (.int lo)] [] ⟨_,rfl⟩ (fun x hx vs hI=>by
   obtain ⟨r,hr1,rfl⟩:=List.mem_map.mp hx
   obtain ⟨y,rfl⟩:=hI
   refine ⟨[.unb,.fv (.int r),.unb,.fv (.int lo)],[.list (intL rows)],⟨_,rfl⟩,rfl,rfl,?_⟩
   have e:ev (tblN (k+1)) (.fn 10 (.cons (.bin (.var 1 q2) .mul (.bin (.ci 2 q3) .pow (.var 3 q4) q5) q6) .nil) q7 q8) [.unb,.fv (.int r),.unb,.fv (.int lo)] [.list (intL rows)]=some (.fv (.str (nameOf lo r)),[.list (intL rows)]):=by
    refine (ev_fn (evs_1 (v:=.fv (.int ((r*2^lo:Nat):Int))) (o1:=[.list (intL rows)]) ?_)).trans (call_flags k hlo (hra r hr1))
    refine (ev_bin (a:=.fv (.int r)) (b:=.fv (.int ((2^lo:Nat):Int))) (o1:=[.list (intL rows)]) (o2:=[.list (intL rows)]) rfl ?_).trans ?_
    ·refine (ev_bin (a:=.fv (.int 2)) (b:=.fv (.int lo)) (o1:=[.list (intL rows)]) (o2:=[.list (intL rows)]) rfl rfl).trans ?_
     show (arith .pow 2 (lo:Int)).map (fun c=>(MV.fv (.int c),_))=_
     rw [pow2 (by omega)];rfl
    ·show (arith .mul (r:Int) ((2^lo:Nat):Int)).map (fun c=>(MV.fv (.int c),_))=_
     rw [mul_nat' _ _ (two_pow_big (by omega))];rfl
   show (match ev (tblN (k+1)) (.fn 10 (.cons (.bin (.var 1 q2) .mul (.bin (.ci 2 q3) .pow (.var 3 q4) q5) q6) .nil) q7 q8) [.unb,.fv (.int r),.unb,.fv (.int lo)] [.list (intL rows)] with|some (.fv y,os2)=>some ([FV.pair (.int r) y],[MV.unb,.fv (.int r),.unb,.fv (.int lo)],os2)|_=>none)=_
   rw [e];rfl)
  (by rw [List.length_nil,Nat.zero_add];exact hlen)
 have hfl:(intL rows).map (fun x=>match x with|.int r=>FV.pair (.int r) (.str (nameOf lo r.toNat))|y=>y)=rows.map fun (r:Nat)=>FV.pair (.int r) (.str (nameOf lo r)):=by
  unfold intL;rw [List.map_map];rfl
 rw [List.nil_append,hfl] at e
 refine ev_dcomp (x:=.ref j) (rs:=[j]) (full:=intL rows) (ys:=rows.map fun (r:Nat)=>FV.pair (.int r) (.str (nameOf lo r))) (vs':=vs') (oc:=pick [j] o) (es:=nmD lo rows) (ev_var hv nofun) hin ?_ ?_ (compOut_same ?_)
 ·rw [hrw,hpk,hcap];exact e
 ·unfold dictOf?
  rw [pairs_nm]
  show (if ((nmD lo rows).map (·.1)).Nodup then some (nmD lo rows) else none)=_
  rw [keys_nm,if_pos (keys_ok rows hM)]
 ·intro i hi
  rw [List.mem_singleton.mp hi];exact ⟨_,ho,rfl⟩
end
section
structure Menu (p ah:Nat) (rows:List Nat):Prop where
 mem:(p,rows)∈menus
 rws:rowsUpTo ah 1 (p-1)=intL rows
 chk:∀a b,a<p→b<6→ChkOk p ah a b
 hp:menuP p
 hah:ah≤2
 hpa:p≤ah+4
 hM:rows∈[rows5,rows6]
theorem menu51:Menu 5 1 rows5:=⟨.head _,by decide+kernel,fun a b h1 h2 one two h3 h4=>chk_of chk51 h1 h2 h3 h4,.inr rfl,by decide,by decide,.head _⟩
theorem menu41:Menu 4 1 rows5:=⟨.tail _ (.head _),by decide+kernel,fun a b h1 h2 one two h3 h4=>chk_of chk41 h1 h2 h3 h4,.inl rfl,by decide,by decide,.head _⟩
theorem menu42:Menu 4 2 rows6:=⟨.tail _ (.tail _ (.head _)),by decide+kernel,fun a b h1 h2 one two h3 h4=>chk_of chk42 h1 h2 h3 h4,.inl rfl,by decide,by decide,.tail _ (.head _)⟩
noncomputable def menuL:List FV:=[.pair (.int 5) (.int 1),.pair (.int 4) (.int 1),.pair (.int 4) (.int 2)]
theorem menu_of {j:Nat} (h:j<3):∃(p ah:Nat) (rows:List Nat),Menu p ah rows∧menuL[j]?=some (.pair (.int p) (.int ah)):=by
 match j,h with
 |0,_=>exact ⟨5,1,rows5,menu51,rfl⟩
 |1,_=>exact ⟨4,1,rows5,menu41,rfl⟩
 |2,_=>exact ⟨4,2,rows6,menu42,rfl⟩
noncomputable def LV (v0 v1 v2 v3 v4 v5 v6 v7 v8 v9 v10 v11 v12 v13 v14 v15:MV):List MV:=[v0,v1,v2,v3,v4,v5,v6,v7,v8,v9,v10,v11,v12,v13,v14,v15,.unb,.unb,.unb,.unb,.unb,.unb,.unb,.unb,.unb,.unb,.unb,.unb,.unb,.unb,.unb]
noncomputable def cellL (c0 c1 c2 c3 c4:Int):List FV:=[.int c0,.int c1,.int c2,.int c3,.int c4]
noncomputable def LA (sc cl:List FV) (p lo:Nat) (rows:List Nat):List MO:=[.fz sc,.list cl,.list menuL,.list ((wordsL p lo).map .str),.list (intL rows),.list [],.dict (nmD lo rows)]
theorem fmod_at (d:Int) {n:Nat} (h:0<n):∃j:Nat,d.fmod n=(j:Int)∧j<n:=by
 have hn:=Int.fmod_nonneg_of_pos d (show (0:Int)<n by omega)
 have hl:=Int.fmod_lt_of_pos d (show (0:Int)<n by omega)
 obtain ⟨j,hj⟩:=Int.eq_ofNat_of_zero_le hn
 exact ⟨j,hj,by omega⟩
section
variable {T:Tbl} {vars:List MV} {o:List MO}
theorem cell_at {l i j:Nat} {cl:List FV} {c:Int} {q1 q2 q3:Pos} (hv:vars[l]?=some (.ref i)) (ho:o[i]?=some (.list cl)) (hc:cl[j]?=some (.int c)) (hj:j<1000):ev T (.sub (.var l q1) (.ci (j:Nat) q2) q3) vars o=some (.fv (.int c),o):=
 ev_sub (a:=.ref i) (b:=.fv (.int j)) (o1:=o) (o2:=o) (ev_var hv nofun) rfl (nth_list ho hj hc)
theorem ev_mod {x y:X} {q:Pos} {a:Int} {n j:Nat} {o1 o2:List MO} (h1:ev T x vars o=some (.fv (.int a),o1)) (h2:ev T y vars o1=some (.fv (.int n),o2)) (hj:a.fmod n=(j:Int)) (hn:0<n):ev T (.bin x .fmod y q) vars o=some (.fv (.int j),o2):=by
 refine (ev_bin h1 h2).trans ?_
 show (arith .fmod a (n:Int)).map (fun c=>(MV.fv (.int c),o2))=_
 rw [mod_ok hj hn];rfl
theorem ev_div {x y:X} {q:Pos} {a:Int} {n:Nat} {o1 o2:List MO} (h1:ev T x vars o=some (.fv (.int a),o1)) (h2:ev T y vars o1=some (.fv (.int n),o2)) (hn:0<n) (hn2:n≤1000):ev T (.bin x .fdiv y q) vars o=some (.fv (.int (a.fdiv n)),o2):=by
 refine (ev_bin h1 h2).trans ?_
 show (arith .fdiv a (n:Int)).map (fun c=>(MV.fv (.int c),o2))=_
 rw [fdiv_ok hn hn2];rfl
end
theorem words_of {p lo:Nat} (k:Nat) (hp:menuP p) (hlo:lo<28):tblN (k+1) 1 [.fv (.int p),.fv (.int lo)] []=some (.ref 1,[.list (flagText.map .str),.list ((wordsL p lo).map .str)]):=
 of_decide_eq_true (List.all_eq_true.mp (List.all_eq_true.mp (words_all k) lo (List.mem_range.mpr hlo)) p (by rcases hp with rfl|rfl<;>decide))
theorem law_a (script:List Int) (hl:script.length≤1000):∃(p ah lo:Nat) (rows:List Nat) (c0 c1 c2 c3 c4:Int),Menu p ah rows∧lo<28∧
  exs (tblN 9) bFlaw ⟨LV (.ref 0) .unb .unb .unb .unb .unb .unb .unb .unb .unb .unb .unb .unb .unb .unb .unb,[],[.fz (script.map .int)],1⟩=
   exs (tblN 9) (bFlaw.drop 7) ⟨LV (.ref 0) (.ref 1) (.fv (.int p)) (.fv (.int ah)) (.fv (.int lo)) (.ref 3) (.ref 4) (.ref 6) .unb .unb .unb .unb .unb .unb .unb .unb,[],LA (script.map .int) (cellL c0 c1 c2 c3 c4) p lo rows,1⟩:=by
 obtain ⟨cs,hc,e0⟩:=T0c 8 script hl
 match cs,hc with
 |[c0,c1,c2,c3,c4],_=>
 obtain ⟨j,hj,hj3⟩:=fmod_at c0 (n:=3) (by decide)
 obtain ⟨p,ah,rows,M,hm⟩:=menu_of hj3
 obtain ⟨lo,hlo,hlo28⟩:=fmod_at (c0.fdiv 3) (n:=28) (by decide)
 have hp0:0<p:=by rcases M.hp with h|h<;>omega
 have hp5:p≤5:=by rcases M.hp with h|h<;>omega
 obtain ⟨a,ha,ha2⟩:=fmod_at c4 hp0
 obtain ⟨b,hb,hb6⟩:=fmod_at (c4.fdiv p) (n:=6) (by decide)
 have hah:=M.hah
 obtain ⟨junk,e6⟩:=T6 ha hb (by rcases M.hp with h|h<;>omega) hp5 (by omega) M.hpa hb6 (M.chk a b ha2 hb6)
 rw [M.rws] at e6
 refine ⟨p,ah,lo,rows,c0,c1,c2,c3,c4,M,hlo28,?_⟩
 have hB:bFlaw=.cons (bFlaw.at 0) (.cons (bFlaw.at 1) (.cons (bFlaw.at 2) (.cons (bFlaw.at 3) (.cons (bFlaw.at 4) (.cons (bFlaw.at 5) (.cons (bFlaw.at 6) (bFlaw.drop 7))))))):=rfl
 conv=>lhs;rw [hB]
 generalize hsc:script.map FV.int=sc at*
 have hcl:[c0,c1,c2,c3,c4].map FV.int=cellL c0 c1 c2 c3 c4:=rfl
 rw [hcl] at e0
 generalize hclv:cellL c0 c1 c2 c3 c4=cl at*
 have hcl0:cl[0]?=some (.int c0):=by rw [←hclv];rfl
 have hcl4:cl[4]?=some (.int c4):=by rw [←hclv];rfl
 refine exs_go (s':=⟨LV (.ref 0) (.ref 1) .unb .unb .unb .unb .unb .unb .unb .unb .unb .unb .unb .unb .unb .unb,[],[.fz sc,.list cl],1⟩) (ex_asg (v:=.ref 1) (o:=[.fz sc,.list cl]) ?a0 ?b0) ?_
 case a0=>
  refine (ev_fn (evs_1 (v:=.ref 0) (o1:=[.fz sc]) rfl)).trans ?_
  show (match tblN 9 0 [.ref 0] [.fz sc] with|some (v,oc)=>comeBack [0] v oc [.fz sc]|none=>none)=_
  rw [e0];rfl
 case b0=>rfl
 refine exs_go (s':=⟨LV (.ref 0) (.ref 1) (.fv (.int p)) (.fv (.int ah)) .unb .unb .unb .unb .unb .unb .unb .unb .unb .unb .unb .unb,[],[.fz sc,.list cl,.list menuL],1⟩) (ex_asgT (a:=.int p) (b:=.int ah) (o:=[.fz sc,.list cl,.list menuL]) ?a1) ?_
 case a1=>
  refine ev_sub (a:=.ref 2) (b:=.fv (.int j)) (o1:=[.fz sc,.list cl,.list menuL]) rfl (ev_mod (a:=c0) (n:=3) (o1:=[.fz sc,.list cl,.list menuL]) (cell_at (i:=1) (j:=0) rfl rfl hcl0 (by decide)) rfl hj (by decide)) (nth_list (xs:=menuL) rfl (by omega) hm)
 refine exs_go (s':=⟨LV (.ref 0) (.ref 1) (.fv (.int p)) (.fv (.int ah)) (.fv (.int lo)) .unb .unb .unb .unb .unb .unb .unb .unb .unb .unb .unb,[],[.fz sc,.list cl,.list menuL],1⟩) (ex_asg (v:=.fv (.int lo)) (o:=[.fz sc,.list cl,.list menuL]) ?a2 ?b2) ?_
 case a2=>exact ev_mod (a:=c0.fdiv 3) (n:=28) (o1:=[.fz sc,.list cl,.list menuL]) (ev_div (a:=c0) (n:=3) (o1:=[.fz sc,.list cl,.list menuL]) (cell_at (i:=1) (j:=0) rfl rfl hcl0 (by decide)) rfl (by decide) (by decide)) rfl hlo (by decide)
 case b2=>rfl
 refine exs_go (s':=⟨LV (.ref 0) (.ref 1) (.fv (.int p)) (.fv (.int ah)) (.fv (.int lo)) (.ref 3) .unb .unb .unb .unb .unb .unb .unb .unb .unb .unb,[],[.fz sc,.list cl,.list menuL,.list ((wordsL p lo).map .str)],1⟩) (ex_asg (v:=.ref 3) (o:=[.fz sc,.list cl,.list menuL,.list ((wordsL p lo).map .str)]) ?a3 ?b3) ?_
 case a3=>exact (ev_fn (evs_cons (v:=.fv (.int p)) (o1:=[.fz sc,.list cl,.list menuL]) rfl (evs_1 (v:=.fv (.int lo)) rfl))).trans (callM_new (o:=[.fz sc,.list cl,.list menuL]) [.int p,.int lo] (words_of 8 M.hp hlo28) rfl)
 case b3=>rfl
 refine exs_go (s':=⟨LV (.ref 0) (.ref 1) (.fv (.int p)) (.fv (.int ah)) (.fv (.int lo)) (.ref 3) (.ref 4) .unb .unb .unb .unb .unb .unb .unb .unb .unb,[],[.fz sc,.list cl,.list menuL,.list ((wordsL p lo).map .str),.list (intL rows)],1⟩) (ex_asg (v:=.ref 4) (o:=[.fz sc,.list cl,.list menuL,.list ((wordsL p lo).map .str),.list (intL rows)]) ?a4 ?b4) ?_
 case a4=>exact (ev_fn (evs_cons (v:=.fv (.int p)) (o1:=[.fz sc,.list cl,.list menuL,.list ((wordsL p lo).map .str)]) rfl (evs_cons (v:=.fv (.int ah)) (o1:=[.fz sc,.list cl,.list menuL,.list ((wordsL p lo).map .str)]) rfl (evs_1 (cell_at (i:=1) (j:=4) rfl rfl hcl4 (by decide)))))).trans (callM_new (o:=[.fz sc,.list cl,.list menuL,.list ((wordsL p lo).map .str)]) [.int p,.int ah,.int c4] e6 rfl)
 case b4=>rfl
 refine exs_go (s':=⟨LV (.ref 0) (.ref 1) (.fv (.int p)) (.fv (.int ah)) (.fv (.int lo)) (.ref 3) (.ref 4) .unb .unb .unb .unb .unb .unb .unb .unb .unb,[],[.fz sc,.list cl,.list menuL,.list ((wordsL p lo).map .str),.list (intL rows),.list []],1⟩) ((ex_iff (b:=false) (o:=[.fz sc,.list cl,.list menuL,.list ((wordsL p lo).map .str),.list (intL rows),.list []]) (evT_cmp (ev_cmp (a:=.ref 4) (b:=.ref 5) (o1:=[.fz sc,.list cl,.list menuL,.list ((wordsL p lo).map .str),.list (intL rows)]) (o2:=[.fz sc,.list cl,.list menuL,.list ((wordsL p lo).map .str),.list (intL rows),.list []]) rfl rfl ?a5))).trans rfl) ?_
 case a5=>
  refine (eq_empty rfl rfl).trans ?_
  have:∀rows∈[rows5,rows6],rows.isEmpty=false:=by decide
  rw [this rows M.hM]
 refine exs_go (s':=⟨LV (.ref 0) (.ref 1) (.fv (.int p)) (.fv (.int ah)) (.fv (.int lo)) (.ref 3) (.ref 4) (.ref 6) .unb .unb .unb .unb .unb .unb .unb .unb,[],LA sc cl p lo rows,1⟩) (ex_asg (v:=.ref 6) (o:=LA sc cl p lo rows) ?a6 ?b6) rfl
 case a6=>exact (names_comp 8 (j:=4) M.hM hlo28 rfl rfl rfl).trans rfl
 case b6=>rfl
end
section
theorem word_get {p lo i:Nat} (h:i<p):((wordsL p lo).map FV.str)[i]?=some (.str (wordOf (lo+i))):=by
 unfold wordsL
 rw [List.getElem?_map,List.getElem?_map,List.getElem?_range' h,Nat.one_mul];rfl
theorem fw_flags:((List.range 28).all fun lo=>allRows.all fun r=>decide (fw 32 0 (r*2^lo+2^31)=[wordOf (lo+(two r).1),wordOf (lo+(two r).2),wordOf 31]))=true:=by decide+kernel
noncomputable def dueL (lo first more:Nat):List (List Nat):=[wordOf (lo+(two first).1),wordOf (lo+(two first).2),wordOf 31]++topL more
theorem flags_more (k:Nat) {lo first more:Nat} {o:List MO} (hlo:lo<28) (hf:first∈allRows) (hm:more<2^24):callM (tblN (k+1)) 10 [.fv (.int ((first*2^lo+2^31+more*2^32:Nat):Int))] o=some (.fv (.str (joinL [44,32] (dueL lo first more))),o):=by
 have h1:first*2^lo<2^31:=Nat.lt_of_lt_of_le (Nat.mul_lt_mul_of_pos_right (rows_lt hf) (Nat.two_pow_pos lo)) (by rw [show (16:Nat)=2^4 from rfl,←Nat.pow_add];exact Nat.pow_le_pow_right (by decide) (by omega))
 obtain ⟨oc,e⟩:=T10m k (first*2^lo+2^31) more (by omega) (by omega) hm
 have hw:fw 32 0 (first*2^lo+2^31)=[wordOf (lo+(two first).1),wordOf (lo+(two first).2),wordOf 31]:=of_decide_eq_true (List.all_eq_true.mp (List.all_eq_true.mp fw_flags lo (List.mem_range.mpr hlo)) first hf)
 rw [hw] at e
 exact callM_fv [.int ((first*2^lo+2^31+more*2^32:Nat):Int)] e
theorem due_join {lo first more i:Nat} {o:List MO} (hlo:lo<28) (hf:first∈allRows) (hm:more<2^24) (h:o[i]?=some (.list ((dueL lo first more).map .str))):methodM .join (.fv (.str [44,32])) [.ref i] o=some (.fv (.str (joinL [44,32] (dueL lo first more))),o):=by
 obtain ⟨h1,h2,_⟩:=two_lt _ hf
 refine join_ok h ?_
 have hb:∀y∈dueL lo first more,y.length≤30:=fun y hy=>by
  rcases List.mem_append.mp hy with h|h
  ·rcases List.mem_cons.mp h with rfl|h
   ·exact word_len _ (by omega)
   rcases List.mem_cons.mp h with rfl|h
   ·exact word_len _ (by omega)
   ·rw [List.mem_singleton.mp h];exact word_len _ (by omega)
  ·unfold topL at h
   split at h
   ·rw [List.mem_singleton.mp h,List.length_append,List.length_replicate]
    have:=hex_len hm;omega
   ·cases h
 have:=sum_len 30 _ hb
 have hl:(dueL lo first more).length≤4:=by unfold dueL topL;rw [List.length_append];split<;>simp
 show _+_*2≤100000;omega
theorem flag_arg {T:Tbl} {vars:List MV} {o:List MO} {lo first more:Nat} {q1 q2 q3 q4 q5 q6 q7 q8 q9 q10 q11 q12 q13 q14 q15:Pos} (hlo:lo<28) (hf:first<16) (hm:more<2^24) (h8:vars[8]?=some (.fv (.int first))) (h4:vars[4]?=some (.fv (.int lo))) (h9:vars[9]?=some (.fv (.int more))):
  ev T (.bin (.bin (.var 8 q1) .mul (.bin (.ci 2 q2) .pow (.var 4 q3) q4) q5) .add (.bin (.bin (.bin (.ci 2 q6) .mul (.var 9 q7) q8) .add (.ci 1 q9) q10) .mul (.bin (.ci 2 q11) .pow (.ci 31 q12) q13) q14) q15) vars o=some (.fv (.int ((first*2^lo+2^31+more*2^32:Nat):Int)),o):=by
 refine (ev_bin (a:=.fv (.int ((first*2^lo:Nat):Int))) (b:=.fv (.int (((2*more+1)*2^31:Nat):Int))) (o1:=o) (o2:=o) ?_ ?_).trans ?_
 ·refine (ev_bin (a:=.fv (.int first)) (b:=.fv (.int ((2^lo:Nat):Int))) (o1:=o) (o2:=o) (ev_var h8 nofun) ?_).trans ?_
  ·refine (ev_bin (a:=.fv (.int 2)) (b:=.fv (.int lo)) (o1:=o) (o2:=o) rfl (ev_var h4 nofun)).trans ?_
   show (arith .pow 2 (lo:Int)).map (fun c=>(MV.fv (.int c),o))=_
   rw [pow2 (by omega)];rfl
  ·show (arith .mul (first:Int) ((2^lo:Nat):Int)).map (fun c=>(MV.fv (.int c),o))=_
   rw [mul_nat' _ _ (two_pow_big (by omega))];rfl
 ·refine (ev_bin (a:=.fv (.int ((2*more+1:Nat):Int))) (b:=.fv (.int ((2^31:Nat):Int))) (o1:=o) (o2:=o) ?_ ?_).trans ?_
  ·refine (ev_bin (a:=.fv (.int ((2*more:Nat):Int))) (b:=.fv (.int 1)) (o1:=o) (o2:=o) ?_ rfl).trans rfl
   refine (ev_bin (a:=.fv (.int 2)) (b:=.fv (.int more)) (o1:=o) (o2:=o) rfl (ev_var h9 nofun)).trans ?_
   show (arith .mul (2:Nat) (more:Int)).map (fun c=>(MV.fv (.int c),o))=_
   rw [mul_nat 2 more (by decide)];rfl
  ·refine (ev_bin (a:=.fv (.int 2)) (b:=.fv (.int (31:Nat))) (o1:=o) (o2:=o) rfl rfl).trans ?_
   show (arith .pow 2 ((31:Nat):Int)).map (fun c=>(MV.fv (.int c),o))=_
   rw [pow2 (by decide)];rfl
  ·show (arith .mul ((2*more+1:Nat):Int) ((2^31:Nat):Int)).map (fun c=>(MV.fv (.int c),o))=_
   rw [mul_nat' _ _ (by decide)];rfl
 ·show some (MV.fv (.int (((first*2^lo:Nat):Int)+(((2*more+1)*2^31:Nat):Int))),o)=_
  rw [show ((first*2^lo:Nat):Int)+(((2*more+1)*2^31:Nat):Int)=((first*2^lo+2^31+more*2^32:Nat):Int) by omega]
noncomputable def wq2 (lo first:Nat):List FV:=[.str (wordOf (lo+(two first).1)),.str (wordOf (lo+(two first).2))]
theorem ones_of (k:Nat) {r:Nat} (h:r<32):tblN (k+1) 3 [.fv (.int r)] []=some (.ref 0,[.list (intL (onesL r))]):=
 of_decide_eq_true (List.all_eq_true.mp (ones_all k) r (List.mem_range.mpr h))
theorem words_comp (k:Nat) {p lo r l c n:Nat} {vars:List MV} {o:List MO} {ns:Names} {q1 q2 q3 q4 q5 q6 q7 q8:Pos} (hp:menuP p) (hr:r∈allRows) (hv:vars[l]?=some (.fv (.int r))) (hc:o[c]?=some (.list ((wordsL p lo).map .str))) (hn:capsOf vars [none,none,some n]=[.unb,.unb,.ref c]):
  ev (tblN (k+1)) (.comp (.sub (.var 2 q1) (.var 1 q2) q3) 1 (.fn 3 (.cons (.var l q4) .nil) q5 q6) .no ns [none,none,some n] q7 q8) vars o=some (.ref (o.length+1),o++[.list (intL (onesL r))]++[.list (wq2 lo r)]):=by
 obtain ⟨h1,h2,h3⟩:=two_lt _ hr
 have hlt:=rows_lt hr
 have h4:4≤p:=by rcases hp with h|h<;>omega
 have e1:ev (tblN (k+1)) (.fn 3 (.cons (.var l q4) .nil) q5 q6) vars o=some (.ref o.length,o++[.list (intL (onesL r))]):=(ev_fn (evs_1 (ev_var hv nofun))).trans (callM_new (o:=o) [.int r] (ones_of k (by omega)) rfl)
 have:=comp_cap (T:=tblN (k+1)) (w:=o.length) (c:=c) (full:=intL (onesL r)) (cl:=(wordsL p lo).map .str) (elt:=.sub (.var 2 q1) (.var 1 q2) q3) (ns:=ns) (p1:=q7) (p2:=q8) (blank:=0) (fun x=>match x with|.int i=>.str (wordOf (lo+i.toNat))|y=>y) e1 (at_end _ _) (app_at hc) (fun h=>by have:=(List.getElem?_eq_some_iff.mp hc).1;omega) (by rw [h3];show 2≤1000;decide) hn (fun x hx=>by
  obtain ⟨i,hi,rfl⟩:=List.mem_map.mp hx
  have hi4:i<4:=by
   rw [h3] at hi
   rcases List.mem_cons.mp hi with rfl|hi
   ·exact h1
   ·rw [List.mem_singleton.mp hi];exact h2
  exact ⟨_,rfl,rfl,ev_sub (a:=.ref 1) (b:=.fv (.int i)) (o1:=[.list (intL (onesL r)),.list ((wordsL p lo).map .str)]) rfl rfl (nth_list rfl (by omega) (word_get (by omega)))⟩)
 rw [this]
 have hl:(o++[MO.list (intL (onesL r))]).length=o.length+1:=by simp
 rw [hl,h3];rfl
end
section
noncomputable def strL (l:List (List Nat)):List FV:=l.map .str
noncomputable def LB1 (sc cl:List FV) (p lo:Nat) (rows:List Nat) (more:Nat):List MO:=LA sc cl p lo rows++[.list (strL (topL more))]
noncomputable def LB (sc cl:List FV) (p lo:Nat) (rows:List Nat) (more first:Nat):List MO:=LB1 sc cl p lo rows more++[.list (intL (onesL first)),.list (wq2 lo first),.list [.str (wordOf 31)],.list (wq2 lo first++[.str (wordOf 31)]),.list (strL (dueL lo first more))]
theorem above_ok {T:Tbl} {vars:List MV} {o:List MO} {more:Nat} {q1 q2 q3 q4 q5 q6 q7 q8 q9 q10 q11 q12 q13:Pos} (hm:more<2^24) (h9:vars[9]?=some (.fv (.int more))):
  ev T (.ite (.cmp (.var 9 q1) .gt (.ci 0 q2) q3) (.lst (.cons (.bin (.bi .hex (.cons (.var 9 q4) .nil) q5 q6 q7 q8) .add (.cs [48,48,48,48,48,48,48,48] q9) q10) .nil) q11) (.lst .nil q12) q13) vars o=some (.ref o.length,o++[.list (strL (topL more))]):=by
 have ht:evT T (.cmp (.var 9 q1) .gt (.ci 0 q2) q3) (ev T (.cmp (.var 9 q1) .gt (.ci 0 q2) q3) vars o) vars o=some (decide (0<more),o):=by
  refine evT_cmp (ev_cmp (a:=.fv (.int more)) (b:=.fv (.int 0)) (o1:=o) (o2:=o) (ev_var h9 nofun) rfl ?_)
  show some (decide ((0:Int)<(more:Int)))=_
  by_cases h:0<more
  ·rw [decide_eq_true h,decide_eq_true (by omega)]
  ·rw [decide_eq_false h,decide_eq_false (by omega)]
 refine (ev_ite ht).trans ?_
 unfold topL
 by_cases h:0<more
 ·rw [decide_eq_true h,if_pos h]
  have hx:=hex_len hm
  have e:ev T (.bin (.bi .hex (.cons (.var 9 q4) .nil) q5 q6 q7 q8) .add (.cs [48,48,48,48,48,48,48,48] q9) q10) vars o=some (.fv (.str (hexOf (more:Int)++List.replicate 8 48)),o):=
   (ev_bin (a:=.fv (.str (hexOf (more:Int)))) (b:=.fv (.str (List.replicate 8 48))) (o1:=o) (o2:=o) ((ev_bi (evs_1 (v:=.fv (.int more)) (o1:=o) (ev_var h9 nofun))).trans (hex_ok (by unfold lim;omega))) rfl).trans (add_str (by rw [List.length_replicate];unfold lim;omega))
  show (match evs T (.cons (.bin (.bi .hex (.cons (.var 9 q4) .nil) q5 q6 q7 q8) .add (.cs [48,48,48,48,48,48,48,48] q9) q10) .nil) vars o with|some (vs,o1)=>(match vs.mapM fvOf with|some ys=>if ys.length≤lenLim then some (MV.ref o1.length,o1++[MO.list ys]) else none|none=>none)|none=>none)=_
  rw [evs_1 e];rfl
 ·rw [decide_eq_false h,if_neg h];rfl
theorem law_b (sc cl:List FV) {p ah lo:Nat} {rows:List Nat} {c0 c1 c2 c3 c4:Int} (M:Menu p ah rows) (hlo:lo<28):∃(more first:Nat) (wd:List Nat),more<2^24∧first∈rows∧
  exs (tblN 9) (bFlaw.drop 7) ⟨LV (.ref 0) (.ref 1) (.fv (.int p)) (.fv (.int ah)) (.fv (.int lo)) (.ref 3) (.ref 4) (.ref 6) .unb .unb .unb .unb .unb .unb .unb .unb,[],LA sc (cellL c0 c1 c2 c3 c4) p lo rows,1⟩=
   exs (tblN 9) (bFlaw.drop 14) ⟨LV (.ref 0) (.ref 1) (.fv (.int p)) (.fv (.int ah)) (.fv (.int lo)) (.ref 3) (.ref 4) (.ref 6) (.fv (.int first)) (.fv (.int more)) (.ref 7) (.ref 12) (.fv (.str wd)) .unb .unb .unb,[],LB sc (cellL c0 c1 c2 c3 c4) p lo rows more first,1⟩:=by
 obtain ⟨hra,hrl⟩:=rows_in rows M.hM
 have hr0:0<rows.length:=by
  have:∀rows∈[rows5,rows6],0<rows.length:=by decide
  exact this rows M.hM
 obtain ⟨i,hi,hil⟩:=fmod_at c2 hr0
 obtain ⟨more,hmo,hm⟩:=fmod_at (c3.fdiv 7) (n:=16777216) (by decide)
 obtain ⟨m3,hm3,hm3l⟩:=fmod_at c4 (n:=3) (by decide)
 have hget:rows[i]?=some rows[i]:=List.getElem?_eq_getElem hil
 have hmem:rows[i]∈rows:=List.getElem_mem hil
 generalize rows[i]=first at hget hmem
 have hfa:=hra first hmem
 have hf16:=rows_lt hfa
 have hp:=M.hp
 have hp5:p≤5:=by rcases hp with h|h<;>omega
 generalize hclv:cellL c0 c1 c2 c3 c4=cl at*
 have hcl2:cl[2]?=some (.int c2):=by rw [←hclv];rfl
 have hcl3:cl[3]?=some (.int c3):=by rw [←hclv];rfl
 have hcl4:cl[4]?=some (.int c4):=by rw [←hclv];rfl
 refine ⟨more,first,122::wordT p first,hm,hmem,?_⟩
 have hm':more<2^24:=hm
 have hd:bFlaw.drop 7=.cons (bFlaw.at 7) (.cons (bFlaw.at 8) (.cons (bFlaw.at 9) (.cons (bFlaw.at 10) (.cons (bFlaw.at 11) (.cons (bFlaw.at 12) (.cons (bFlaw.at 13) (bFlaw.drop 14))))))):=rfl
 rw [hd]
 refine exs_go (s':=⟨LV (.ref 0) (.ref 1) (.fv (.int p)) (.fv (.int ah)) (.fv (.int lo)) (.ref 3) (.ref 4) (.ref 6) (.fv (.int first)) .unb .unb .unb .unb .unb .unb .unb,[],LA sc cl p lo rows,1⟩) (ex_asg (v:=.fv (.int first)) (o:=LA sc cl p lo rows) ?a7 ?b7) ?_
 case a7=>
  refine ev_sub (a:=.ref 4) (b:=.fv (.int i)) (o1:=LA sc cl p lo rows) rfl (ev_mod (a:=c2) (n:=rows.length) (o1:=LA sc cl p lo rows) (cell_at (i:=1) (j:=2) rfl rfl hcl2 (by decide)) ((ev_bi (evs_1 (v:=.ref 4) (o1:=LA sc cl p lo rows) rfl)).trans (len_at (l:=rows) rfl (by omega))) hi hr0) (nth_list (xs:=intL rows) rfl (by omega) (by unfold intL;rw [List.getElem?_map,hget];rfl))
 case b7=>rfl
 refine exs_go (s':=⟨LV (.ref 0) (.ref 1) (.fv (.int p)) (.fv (.int ah)) (.fv (.int lo)) (.ref 3) (.ref 4) (.ref 6) (.fv (.int first)) (.fv (.int more)) .unb .unb .unb .unb .unb .unb,[],LA sc cl p lo rows,1⟩) (ex_asg (v:=.fv (.int more)) (o:=LA sc cl p lo rows) ?a8 ?b8) ?_
 case a8=>
  refine ev_mod (a:=c3.fdiv 7) (n:=16777216) (o1:=LA sc cl p lo rows) (ev_div (a:=c3) (n:=7) (o1:=LA sc cl p lo rows) (cell_at (i:=1) (j:=3) rfl rfl hcl3 (by decide)) rfl (by decide) (by decide)) ?_ hmo (by decide)
  refine (ev_bin (a:=.fv (.int 2)) (b:=.fv (.int (24:Nat))) (o1:=LA sc cl p lo rows) (o2:=LA sc cl p lo rows) rfl rfl).trans ?_
  show (arith .pow 2 ((24:Nat):Int)).map (fun c=>(MV.fv (.int c),LA sc cl p lo rows))=_
  rw [pow2 (by decide)];rfl
 case b8=>rfl
 refine exs_go (s':=⟨LV (.ref 0) (.ref 1) (.fv (.int p)) (.fv (.int ah)) (.fv (.int lo)) (.ref 3) (.ref 4) (.ref 6) (.fv (.int first)) (.fv (.int more)) (.ref 7) .unb .unb .unb .unb .unb,[],LB1 sc cl p lo rows more,1⟩) (ex_asg (v:=.ref 7) (o:=LB1 sc cl p lo rows more) ?a9 ?b9) ?_
 case a9=>exact (above_ok hm' rfl).trans rfl
 case b9=>rfl
 refine exs_go (s':=⟨LV (.ref 0) (.ref 1) (.fv (.int p)) (.fv (.int ah)) (.fv (.int lo)) (.ref 3) (.ref 4) (.ref 6) (.fv (.int first)) (.fv (.int more)) (.ref 7) (.ref 12) .unb .unb .unb .unb,[],LB sc cl p lo rows more first,1⟩) (ex_asg (v:=.ref 12) (o:=LB sc cl p lo rows more first) ?a10 ?b10) ?_
 case a10=>
  have htl:(topL more).length≤1:=by unfold topL;split<;>simp
  refine (ev_bin (a:=.ref 11) (b:=.ref 7) (o1:=LB1 sc cl p lo rows more++[.list (intL (onesL first)),.list (wq2 lo first),.list [.str (wordOf 31)],.list (wq2 lo first++[.str (wordOf 31)])]) (o2:=LB1 sc cl p lo rows more++[.list (intL (onesL first)),.list (wq2 lo first),.list [.str (wordOf 31)],.list (wq2 lo first++[.str (wordOf 31)])]) ?_ rfl).trans ((addl_ok (xs:=wq2 lo first++[.str (wordOf 31)]) (ys:=strL (topL more)) rfl rfl ?_).trans ?_)
  ·refine (ev_bin (a:=.ref 9) (b:=.ref 10) (o1:=LB1 sc cl p lo rows more++[.list (intL (onesL first)),.list (wq2 lo first)]) (o2:=LB1 sc cl p lo rows more++[.list (intL (onesL first)),.list (wq2 lo first),.list [.str (wordOf 31)]]) ((words_comp 8 (p:=p) (lo:=lo) (c:=3) hp hfa rfl rfl rfl).trans rfl) rfl).trans ((addl_ok (xs:=wq2 lo first) (ys:=[.str (wordOf 31)]) rfl rfl (show 3≤lenLim by decide)).trans rfl)
  ·have:(strL (topL more)).length≤1:=by unfold strL;rw [List.length_map];exact htl
   show 3+_≤10000;omega
  ·have:wq2 lo first++[.str (wordOf 31)]++strL (topL more)=strL (dueL lo first more):=by
    unfold dueL strL;rw [List.map_append];rfl
   rw [this];rfl
 case b10=>rfl
 refine exs_go (s':=⟨LV (.ref 0) (.ref 1) (.fv (.int p)) (.fv (.int ah)) (.fv (.int lo)) (.ref 3) (.ref 4) (.ref 6) (.fv (.int first)) (.fv (.int more)) (.ref 7) (.ref 12) .unb .unb .unb .unb,[],LB sc cl p lo rows more first,1⟩) ((ex_iff (b:=false) (o:=LB sc cl p lo rows more first) (evT_cmp (ev_cmp (a:=.fv (.str (joinL [44,32] (dueL lo first more)))) (b:=.fv (.str (joinL [44,32] (dueL lo first more)))) (o1:=LB sc cl p lo rows more first) (o2:=LB sc cl p lo rows more first) ?a11 ?b11 ?c11))).trans rfl) ?_
 case a11=>exact (ev_fn (evs_1 (flag_arg hlo hf16 hm' rfl rfl rfl))).trans (flags_more 8 hlo hfa hm')
 case b11=>exact (ev_me (a:=.fv (.str [44,32])) (o1:=LB sc cl p lo rows more first) rfl rfl (evs_1 (v:=.ref 12) (o1:=LB sc cl p lo rows more first) rfl)).trans (due_join hlo hfa hm' rfl)
 case c11=>
  show some (joinL [44,32] (dueL lo first more) !=joinL [44,32] (dueL lo first more))=_
  simp
 refine exs_go (s':=⟨LV (.ref 0) (.ref 1) (.fv (.int p)) (.fv (.int ah)) (.fv (.int lo)) (.ref 3) (.ref 4) (.ref 6) (.fv (.int first)) (.fv (.int more)) (.ref 7) (.ref 12) (.fv (.str (122::wordT p first))) .unb .unb .unb,[],LB sc cl p lo rows more first,1⟩) (ex_asg (v:=.fv (.str (122::wordT p first))) (o:=LB sc cl p lo rows more first) ?a12 ?b12) ?_
 case a12=>
  have hwl:(wordT p first).length=p:=by unfold wordT;rw [List.length_map,List.length_range]
  refine (ev_bin (a:=.fv (.str [122])) (b:=.fv (.str (wordT p first))) (o1:=LB sc cl p lo rows more first) (o2:=LB sc cl p lo rows more first) rfl ((ev_fn (evs_cons (v:=.fv (.int first)) (o1:=LB sc cl p lo rows more first) rfl (evs_1 (v:=.fv (.int p)) rfl))).trans (call_word 7 hp (by omega)))).trans (add_str ?_)
  rw [hwl];show 1+p≤100000;omega
 case b12=>rfl
 refine exs_go (s':=⟨LV (.ref 0) (.ref 1) (.fv (.int p)) (.fv (.int ah)) (.fv (.int lo)) (.ref 3) (.ref 4) (.ref 6) (.fv (.int first)) (.fv (.int more)) (.ref 7) (.ref 12) (.fv (.str (122::wordT p first))) .unb .unb .unb,[],LB sc cl p lo rows more first,1⟩) ((ex_iff (b:=false) (o:=LB sc cl p lo rows more first) (evT_cmp (ev_cmp (a:=.fv (.int ((p+2:Nat):Int))) (b:=.fv (.int ((p+2:Nat):Int))) (o1:=LB sc cl p lo rows more first) (o2:=LB sc cl p lo rows more first) ?a13 rfl ?c13))).trans rfl) rfl
 case a13=>
  refine (ev_fn (evs_cons (v:=.fv (.str (122::wordT p first))) (o1:=LB sc cl p lo rows more first) rfl (evs_cons (v:=.fv (.str (wordT p (31-first)))) (o1:=LB sc cl p lo rows more first) ((ev_fn (evs_cons (v:=.fv (.int ((31-first:Nat):Int))) (o1:=LB sc cl p lo rows more first) ?_ (evs_1 (v:=.fv (.int p)) rfl))).trans (call_word 7 hp (by omega))) (evs_1 (v:=.fv (.int ((p+1+m3:Nat):Int))) ?_)))).trans (call_lev2 7 m3 hp hfa hm3l)
  ·refine (ev_bin (a:=.fv (.int 31)) (b:=.fv (.int first)) (o1:=LB sc cl p lo rows more first) (o2:=LB sc cl p lo rows more first) rfl rfl).trans ?_
   show some (MV.fv (.int ((31:Int)-(first:Int))),LB sc cl p lo rows more first)=_
   rw [show (31:Int)-(first:Int)=((31-first:Nat):Int) by omega]
  ·exact (ev_bin (a:=.fv (.int ((p+1:Nat):Int))) (b:=.fv (.int m3)) (o1:=LB sc cl p lo rows more first) (o2:=LB sc cl p lo rows more first) rfl (ev_mod (a:=c4) (n:=3) (o1:=LB sc cl p lo rows more first) (cell_at (i:=1) (j:=4) rfl rfl hcl4 (by decide)) rfl hm3 (by decide))).trans rfl
 case c13=>
  show some (((p+2:Nat):Int) !=((p+2:Nat):Int))=_
  simp
end
end Mine
end
section
set_option maxRecDepth 4000
open PySem PySem.W
namespace Mine
section
theorem callM_of {T:Tbl} {f:Nat} {vs vs':List MV} {o oc0 oc:List MO} {rs:List Nat} {v:MV} {r:MV × List MO} (hr:rootsOf vs o=rs) (hc:closed rs o=true) (hv:vs.map (renum rs)=vs') (hp:pick rs o=oc0) (h:T f vs' oc0=some (v,oc)) (hb:comeBack rs v oc o=some r):callM T f vs o=some r:=by
 unfold callM
 rw [hr]
 show (if closed rs o then (match T f (vs.map (renum rs)) (pick rs o) with|some (v,oc)=>comeBack rs v oc o|none=>none) else none)=_
 rw [hc,hv,hp,h];exact hb
theorem callM_l1 {T:Tbl} {f c j:Nat} {o oc:List MO} {ws ys:List FV} (d:FV) (h:T f [.ref 0,.fv d] [.list ws]=some (.ref j,oc)) (hc:o[c]?=some (.list ws)) (h0:oc[0]?=some (.list ws)) (h1:1≤j) (hj:oc[j]?=some (.list ys)):callM T f [.ref c,.fv d] o=some (.ref o.length,o++[.list ys]):=by
 have hr:rootsOf [.ref c,.fv d] o=[c]:=by
  show dedup (((c::((o[c]?.bind MO.next).toList))++[]))=_
  rw [hc];rfl
 have hpk:pick [c] o=[.list ws]:=by
  show [renumO [c] (o.getD c (.list []))]=_
  rw [List.getD_eq_getElem?_getD,hc];rfl
 have hrw:renum [c] (.ref c)=.ref 0:=congrArg MV.ref (by simp)
 have hcl:closed [c] o=true:=by
  show ((match o[c]? with|some o=>(match o.next with|some k=>[c].contains k|none=>true)|none=>false)&&true)=true
  rw [hc];rfl
 have hb:putBack [c] oc o=some o:=back_gen o o 0 rfl fun i x hx=>by
  rw [Nat.zero_add]
  by_cases e:i=c
  ·subst e
   rw [if_pos (by simp),show [i].idxOf i=0 by simp,h0,hx]
   rw [hc] at hx;cases hx;rfl
  ·rw [if_neg (by simpa using e),hx]
 unfold callM
 rw [hr]
 show (if closed [c] o then (match T f [renum [c] (.ref c),.fv d] (pick [c] o) with|some (v,oc)=>comeBack [c] v oc o|none=>none) else none)=_
 rw [hcl,hrw,hpk,h]
 show (match putBack [c] oc o with|some os=>(if j<1 then some (MV.ref ([c].getD j 0),os) else oc[j]?.bind (newBack os))|none=>none)=_
 rw [hb];dsimp only;rw [if_neg (by omega),hj];rfl
theorem order_words {p lo:Nat} (d:Int):leh ((wordsL p lo).map FV.str).length ((wordsL p lo).map FV.str) d=ordL lo (leh p (List.range p) d):=by
 have h:(wordsL p lo).map FV.str=(List.range p).map fun i=>FV.str (wordOf (lo+i)):=by
  unfold wordsL
  rw [List.range'_eq_map_range,List.map_map,List.map_map];rfl
 rw [h,List.length_map,List.length_range,leh_map];rfl
theorem words_str {p lo:Nat} (hlo:lo<28) (hp:p≤5):((wordsL p lo).map FV.str).all FV.isStr=true:=by
 refine List.all_eq_true.mpr fun y hy=>?_
 obtain ⟨w,hw,rfl⟩:=List.mem_map.mp hy
 unfold wordsL at hw
 obtain ⟨i,hi,rfl⟩:=List.mem_map.mp hw
 rw [List.mem_range'_1] at hi
 have:=(word_ok (lo:=lo) (i:=i-lo) hlo (by omega)).1
 rw [show lo+(i-lo)=i by omega] at this
 exact this
noncomputable def LC (sc cl:List FV) (p lo:Nat) (rows:List Nat) (more first:Nat) (seen:HL):List MO:=LB sc cl p lo rows more first++[.list ((tieAll lo more rows).map hd),.hdr 13,.list (seen.map hd),.hdr 15]
noncomputable def LD (sc cl:List FV) (p lo:Nat) (rows:List Nat) (more first:Nat) (perm path:List Nat):List MO:=LC sc cl p lo rows more first (seenFrom lo 0 path)++[.list (ordL lo perm),.list (intL path)]
set_option maxHeartbeats 2000000 in
theorem law_c (sc:List FV) {p ah lo more first:Nat} {rows:List Nat} {wd:List Nat} {c0 c1 c2 c3 c4:Int} (M:Menu p ah rows) (hlo:lo<28) (hm:more<2^24) (hf:first∈rows):∃(perm path:List Nat),fin rows path=true∧(∀r∈path,r∈rows)∧path.length≤7∧
  exs (tblN 9) (bFlaw.drop 14) ⟨LV (.ref 0) (.ref 1) (.fv (.int p)) (.fv (.int ah)) (.fv (.int lo)) (.ref 3) (.ref 4) (.ref 6) (.fv (.int first)) (.fv (.int more)) (.ref 7) (.ref 12) (.fv (.str wd)) .unb .unb .unb,[],LB sc (cellL c0 c1 c2 c3 c4) p lo rows more first,1⟩=
   exs (tblN 9) (bFlaw.drop 18) ⟨LV (.ref 0) (.ref 1) (.fv (.int p)) (.fv (.int ah)) (.fv (.int lo)) (.ref 3) (.ref 4) (.ref 6) (.fv (.int first)) (.fv (.int more)) (.ref 7) (.ref 12) (.fv (.str wd)) (.ref 14) (.ref 16) (.ref 18),[],LD sc (cellL c0 c1 c2 c3 c4) p lo rows more first perm path,1⟩:=by
 obtain ⟨hra,hrl⟩:=rows_in rows M.hM
 have hp5:p≤5:=by rcases M.hp with h|h<;>omega
 obtain ⟨P,hok⟩:=order_of M.mem c1
 obtain ⟨path,junk,q1,q2,q3,e9⟩:=T9 (k:=5) (picks:=c3) M.hM hlo hm P hp5 (hok first hf) hf
 have e8:=T8 (k:=5) (p:=p) M.hp hlo hm hra hrl
 have hwl:((wordsL p lo).map FV.str).length≤60:=by unfold wordsL;rw [List.length_map,List.length_map,List.length_range'];omega
 obtain ⟨j,oc,e2,hj1,hoc0,hocj⟩:=T2 8 ((wordsL p lo).map FV.str) c1 (words_str hlo hp5) hwl
 rw [order_words] at hocj
 generalize hperm:leh p (List.range p) c1=perm at*
 clear hperm hok
 refine ⟨perm,path,q1,q2,q3,?_⟩
 generalize hclv:cellL c0 c1 c2 c3 c4=cl at*
 have hcl1:cl[1]?=some (.int c1):=by rw [←hclv];rfl
 have hcl3:cl[3]?=some (.int c3):=by rw [←hclv];rfl
 clear hclv
 have hD:bFlaw.drop 14=.cons (bFlaw.at 14) (.cons (bFlaw.at 15) (.cons (bFlaw.at 16) (.cons (bFlaw.at 17) (bFlaw.drop 18)))):=rfl
 rw [hD]
 refine exs_go (s':=⟨LV (.ref 0) (.ref 1) (.fv (.int p)) (.fv (.int ah)) (.fv (.int lo)) (.ref 3) (.ref 4) (.ref 6) (.fv (.int first)) (.fv (.int more)) (.ref 7) (.ref 12) (.fv (.str wd)) (.ref 14) .unb .unb,[],LB sc cl p lo rows more first++[.list [],.hdr 13],1⟩) rfl ?_
 refine exs_go (s':=⟨LV (.ref 0) (.ref 1) (.fv (.int p)) (.fv (.int ah)) (.fv (.int lo)) (.ref 3) (.ref 4) (.ref 6) (.fv (.int first)) (.fv (.int more)) (.ref 7) (.ref 12) (.fv (.str wd)) (.ref 14) .unb .unb,[],LB sc cl p lo rows more first++[.list ((tieAll lo more rows).map hd),.hdr 13],1⟩) ((ex_iff (b:=false) (o:=LB sc cl p lo rows more first++[.list ((tieAll lo more rows).map hd),.hdr 13]) ?a15).trans rfl) ?_
 case a15=>
  have e:∀q1 q2 q3 q4 q5 q6 q7,ev (tblN 9) (.fn 8 (.cons (.var 6 q1) (.cons (.var 7 q2) (.cons (.var 2 q3) (.cons (.var 9 q4) (.cons (.var 13 q5) .nil))))) q6 q7) (LV (.ref 0) (.ref 1) (.fv (.int p)) (.fv (.int ah)) (.fv (.int lo)) (.ref 3) (.ref 4) (.ref 6) (.fv (.int first)) (.fv (.int more)) (.ref 7) (.ref 12) (.fv (.str wd)) (.ref 14) .unb .unb) (LB sc cl p lo rows more first++[.list [],.hdr 13])=some (.fv (.bool true),LB sc cl p lo rows more first++[.list ((tieAll lo more rows).map hd),.hdr 13]):=by
   intro q1 q2 q3 q4 q5 q6 q7
   refine (ev_fn (vs:=[.ref 4,.ref 6,.fv (.int p),.fv (.int more),.ref 14]) (o1:=LB sc cl p lo rows more first++[.list [],.hdr 13]) rfl).trans ?_
   show (match tblN 9 8 [.ref 0,.ref 1,.fv (.int p),.fv (.int more),.ref 2] (tob lo rows []) with|some (v,oc)=>comeBack [4,6,14,13] v oc (LB sc cl p lo rows more first++[MO.list [],MO.hdr 13])|none=>none)=_
   rw [e8];rfl
  show Option.map (fun p:Bool × List MO=>(!p.1,p.2)) (match ev (tblN 9) (.fn 8 _ _ _) _ _ with|some (v,o1)=>(truthyM v o1).map fun b=>(b,o1)|none=>none)=_
  rw [e];rfl
 refine exs_go (s':=⟨LV (.ref 0) (.ref 1) (.fv (.int p)) (.fv (.int ah)) (.fv (.int lo)) (.ref 3) (.ref 4) (.ref 6) (.fv (.int first)) (.fv (.int more)) (.ref 7) (.ref 12) (.fv (.str wd)) (.ref 14) (.ref 16) .unb,[],LC sc cl p lo rows more first [],1⟩) rfl ?_
 refine exs_go (s':=⟨LV (.ref 0) (.ref 1) (.fv (.int p)) (.fv (.int ah)) (.fv (.int lo)) (.ref 3) (.ref 4) (.ref 6) (.fv (.int first)) (.fv (.int more)) (.ref 7) (.ref 12) (.fv (.str wd)) (.ref 14) (.ref 16) (.ref 18),[],LD sc cl p lo rows more first perm path,1⟩) (ex_asg (v:=.ref 18) (o:=LD sc cl p lo rows more first perm path) ?a17 ?b17) rfl
 case b17=>rfl
 case a17=>
  have eo:∀q1 q2 q3 q4 q5 q6,ev (tblN 9) (.fn 2 (.cons (.var 5 q1) (.cons (.sub (.var 1 q2) (.ci 1 q3) q4) .nil)) q5 q6) (LV (.ref 0) (.ref 1) (.fv (.int p)) (.fv (.int ah)) (.fv (.int lo)) (.ref 3) (.ref 4) (.ref 6) (.fv (.int first)) (.fv (.int more)) (.ref 7) (.ref 12) (.fv (.str wd)) (.ref 14) (.ref 16) .unb) (LC sc cl p lo rows more first [])=some (.ref 17,LC sc cl p lo rows more first []++[.list (ordL lo perm)]):=fun q1 q2 q3 q4 q5 q6=>
   (ev_fn (evs_cons (v:=.ref 3) (o1:=LC sc cl p lo rows more first []) rfl (evs_1 (cell_at (i:=1) (j:=1) rfl rfl hcl1 (by decide))))).trans ((callM_l1 (o:=LC sc cl p lo rows more first []) (c:=3) (.int c1) e2 rfl hoc0 hj1 hocj).trans rfl)
  refine (ev_fn (vs:=[.fv (.int first),.ref 6,.fv (.int lo),.ref 17,.fv (.int more),.fv (.int c3),.ref 14,.ref 16]) (o1:=LC sc cl p lo rows more first []++[.list (ordL lo perm)]) ?_).trans ?_
  ·refine evs_cons (o1:=LC sc cl p lo rows more first []) rfl (evs_cons (o1:=LC sc cl p lo rows more first []) rfl (evs_cons (o1:=LC sc cl p lo rows more first []) rfl (evs_cons (o1:=LC sc cl p lo rows more first []++[.list (ordL lo perm)]) (eo ..) (evs_cons (o1:=LC sc cl p lo rows more first []++[.list (ordL lo perm)]) rfl (evs_cons (o1:=LC sc cl p lo rows more first []++[.list (ordL lo perm)]) (cell_at (i:=1) (j:=3) rfl rfl hcl3 (by decide)) rfl)))))
  ·exact callM_of (rs:=[6,17,14,13,16,15]) (by kernel_rfl) (by kernel_rfl) (by kernel_rfl) (by kernel_rfl) e9 (by kernel_rfl)
end
section
theorem name_two:((List.range 28).all fun lo=>allRows.all fun r=>decide (joinL [44,32] [wordOf (lo+(two r).1),wordOf (lo+(two r).2)]=nameOf lo r))=true:=by decide+kernel
noncomputable def nmF (lo:Nat) (x:FV):FV:=match x with|.int r=>.str (nameOf lo r.toNat)|y=>y
theorem due_comp (sc cl:List FV) {p ah lo more first:Nat} {rows perm path:List Nat} {vars:List MV} {ns ns2:Names} {q1 q2 q3 q4 q5 q6 q7 q8 q9 q10 q11 q12 q13 q14:Pos} (M:Menu p ah rows) (hlo:lo<28) (hr:∀r∈path,r∈rows) (hl:path.length≤7)
  (h15:vars[15]?=some (.ref 18)) (hcap:capsOf vars [none,none,none,some 5]=[.unb,.unb,.unb,.ref 3]):
  ev (tblN 9) (.comp (.me (.cs [44,32] q1) .join (.cons (.comp (.sub (.var 2 q2) (.var 1 q3) q4) 1 (.fn 3 (.cons (.var 1 q5) .nil) q6 q7) .no ns [none,none,some 3] q8 q9) .nil) q10 q11) 1 (.var 15 q12) .no ns2 [none,none,none,some 5] q13 q14) vars (LD sc cl p lo rows more first perm path)=
   some (.ref 19,LD sc cl p lo rows more first perm path++[.list (strL (path.map (nameOf lo)))]):=by
 have e:=comp_cap (T:=tblN 9) (w:=18) (c:=3) (full:=intL path) (cl:=(wordsL p lo).map .str) (o1:=LD sc cl p lo rows more first perm path) (iter:=.var 15 q12) (ns:=ns2) (p1:=q13) (p2:=q14) (blank:=1) (caps:=[none,none,none,some 5]) (elt:=.me (.cs [44,32] q1) .join (.cons (.comp (.sub (.var 2 q2) (.var 1 q3) q4) 1 (.fn 3 (.cons (.var 1 q5) .nil) q6 q7) .no ns [none,none,some 3] q8 q9) .nil) q10 q11) (nmF lo) (ev_var h15 nofun) rfl rfl (by decide)
  (by unfold intL;rw [List.length_map];exact Nat.le_trans hl (by decide)) hcap (fun x hx=>by
   obtain ⟨r,hr1,rfl⟩:=List.mem_map.mp hx
   have hra:=(rows_in rows M.hM).1 r (hr r hr1)
   obtain ⟨h1,h2,_⟩:=two_lt _ hra
   refine ⟨[.list (intL path),.list ((wordsL p lo).map .str),.list (intL (onesL r)),.list (wq2 lo r)],rfl,rfl,?_⟩
   refine (ev_me (a:=.fv (.str [44,32])) (o1:=[.list (intL path),.list ((wordsL p lo).map .str)]) rfl rfl (evs_1 ((words_comp 8 (p:=p) (lo:=lo) (c:=1) M.hp hra rfl rfl rfl).trans rfl))).trans ((join_ok (ys:=[wordOf (lo+(two r).1),wordOf (lo+(two r).2)]) rfl ?_).trans ?_)
   ·have a:=word_len (lo+(two r).1) (by omega)
    have b:=word_len (lo+(two r).2) (by omega)
    show _+(_+0)+4≤100000;omega
   ·have:joinL [44,32] [wordOf (lo+(two r).1),wordOf (lo+(two r).2)]=nameOf lo r:=of_decide_eq_true (List.all_eq_true.mp (List.all_eq_true.mp name_two lo (List.mem_range.mpr hlo)) r hra)
    rw [this];rfl)
 have hm:(intL path).map (nmF lo)=strL (path.map (nameOf lo)):=by
  unfold intL strL;rw [List.map_map,List.map_map];rfl
 rw [e,hm];rfl
theorem ev_tup {T:Tbl} {a b:X} {p:Pos} {vars:List MV} {o o1 o2:List MO} {x y:FV} (h1:ev T a vars o=some (.fv x,o1)) (h2:ev T b vars o1=some (.fv y,o2)):ev T (.tup a b p) vars o=some (.fv (.pair x y),o2):=by
 show (match ev T a vars o with|some (.fv x,o1)=>(match ev T b vars o1 with|some (.fv y,o2)=>some (MV.fv (.pair x y),o2)|_=>none)|_=>none)=_
 rw [h1];dsimp only;rw [h2]
noncomputable def szF (lo:Nat) (path:List Nat) (x:FV):FV:=match x with|.int t=>.pair (.str (sized t.toNat (nameOf lo (path.getD t.toNat 0)))) (.str [])|y=>y
theorem seen_map (lo:Nat):∀(l pre:List Nat),(rngFrom 1 l.length (pre.length:Int)).map (szF lo (pre++l))=(seenFrom lo pre.length l).map hd
 |[],pre=>rfl
 |r::l,pre=>by
  have ih:=seen_map lo l (pre++[r])
  rw [List.length_append,List.append_assoc] at ih
  rw [List.length_cons,rngFrom_cons,List.map_cons]
  show szF lo (pre++r::l) (.int pre.length)::_=hd (sized pre.length (nameOf lo r),[])::(seenFrom lo (pre.length+1) l).map hd
  refine congr (congrArg List.cons ?_) ih
  show FV.pair (.str (sized pre.length (nameOf lo ((pre++r::l).getD pre.length 0)))) (.str [])=FV.pair (.str (sized pre.length (nameOf lo r))) (.str [])
  rw [List.getD_eq_getElem?_getD,List.getElem?_append_right (Nat.le_refl _),Nat.sub_self];rfl
theorem rng_mem (n:Nat):∀(a:Nat) (x:FV),x∈rngFrom 1 n (a:Int)→∃t:Nat,x=.int t∧t<a+n:=by
 induction n with
 |zero=>intro a x h;cases h
 |succ n ih=>
  intro a x h
  rw [rngFrom_cons] at h
  rcases List.mem_cons.mp h with rfl|h
  ·exact ⟨a,rfl,by omega⟩
  ·obtain ⟨t,ht,h2⟩:=ih (a+1) x h
   exact ⟨t,ht,by omega⟩
theorem end_comp {lo c:Nat} {path:List Nat} {vars:List MV} {o:List MO} {ns:Names} {q1 q2 q3 q4 q5 q6 q7 q8 q9 q10 q11 q12 q13 q14 q15 q16 q17 q18 q19:Pos} (hlo:lo<28) (hra:∀r∈path,r∈allRows) (hl:path.length≤7)
  (hv:vars[11]?=some (.ref c)) (hc:o[c]?=some (.list (strL (path.map (nameOf lo))))) (hcap:capsOf vars [none,none,none,some 11]=[.unb,.unb,.unb,.ref c]):
  ev (tblN 9) (.comp (.tup (.fn 4 (.cons (.sub (.var 3 q1) (.var 1 q2) q3) (.cons (.var 1 q4) .nil)) q5 q6) (.cs [] q7) q8) 1 (.bi .range (.cons (.bi .len (.cons (.var 11 q9) .nil) q10 q11 q12 q13) .nil) q14 q15 q16 q17) .no ns [none,none,none,some 11] q18 q19) vars o=
   some (.ref o.length,o++[.list ((seenFrom lo 0 path).map hd)]):=by
 have hsl:(strL (path.map (nameOf lo))).length=path.length:=by unfold strL;rw [List.length_map,List.length_map]
 have e1:ev (tblN 9) (.bi .range (.cons (.bi .len (.cons (.var 11 q9) .nil) q10 q11 q12 q13) .nil) q14 q15 q16 q17) vars o=some (.rng 0 path.length 1,o):=
  (ev_bi (evs_1 (v:=.fv (.int (strL (path.map (nameOf lo))).length)) (o1:=o) ((ev_bi (evs_1 (ev_var hv nofun))).trans (len_list hc (by rw [hsl];exact Nat.le_trans hl (by decide)))))).trans (by rw [hsl];exact range_ok _ _ (by omega))
 have hr:rootsOf [.rng 0 path.length 1,.unb,.unb,.unb,.ref c] o=[c]:=by
  show dedup (((c::((o[c]?.bind MO.next).toList))++[]))=_
  rw [hc];rfl
 have hpk:pick [c] o=[.list (strL (path.map (nameOf lo)))]:=by
  show [renumO [c] (o.getD c (.list []))]=_
  rw [List.getD_eq_getElem?_getD,hc];rfl
 have hrw:renum [c] (.ref c)=.ref 0:=congrArg MV.ref (by simp)
 have hcl:closed [c] o=true:=by
  show ((match o[c]? with|some o=>(match o.next with|some k=>[c].contains k|none=>true)|none=>false)&&true)=true
  rw [hc];rfl
 have hin:compIn vars [none,none,none,some 11] (.rng 0 path.length 1) o=some ([c],rngFrom 1 path.length ((0:Nat):Int)):=by
  show (if closed (rootsOf (.rng 0 path.length 1::capsOf vars [none,none,none,some 11]) o) o&&!(capsOf vars [none,none,none,some 11]).contains .edict&&(MV.rng 0 path.length 1 !=.edict) then (srcItems (.rng 0 path.length 1) (pick (rootsOf (.rng 0 path.length 1::capsOf vars [none,none,none,some 11]) o) o)).map (fun full=>(rootsOf (.rng 0 path.length 1::capsOf vars [none,none,none,some 11]) o,full)) else none)=_
  rw [hcap,hr,hcl,src_rng _ _ (by omega)];rfl
 obtain ⟨vs',e⟩:=compTurns_junk (n:=1) (src:=.rng 0 path.length 1) (orig:=none) (os:=[.list (strL (path.map (nameOf lo)))]) (step:=compStep (tblN 9) (.tup (.fn 4 (.cons (.sub (.var 3 q1) (.var 1 q2) q3) (.cons (.var 1 q4) .nil)) q5 q6) (.cs [] q7) q8) 1 .no)
  (fun vs=>∃x,vs=[.unb,x,.unb,.ref 0]) (szF lo path) rfl (rngFrom 1 path.length ((0:Nat):Int)) [.unb,.unb,.unb,.ref 0] [] ⟨_,rfl⟩ (fun x hx vs hI=>by
   obtain ⟨t,rfl,ht⟩:=rng_mem _ 0 x hx
   obtain ⟨y,rfl⟩:=hI
   rw [Nat.zero_add] at ht
   have hmem:path[t]∈path:=List.getElem_mem ht
   have hD:path.getD t 0=path[t]:=by rw [List.getD_eq_getElem?_getD,List.getElem?_eq_getElem ht];rfl
   have hg:(strL (path.map (nameOf lo)))[t]?=some (.str (nameOf lo path[t])):=by unfold strL;rw [List.getElem?_map,List.getElem?_map,List.getElem?_eq_getElem ht];rfl
   obtain ⟨hf,ha⟩:=name_ok hlo (hra _ hmem)
   refine ⟨[.unb,.fv (.int t),.unb,.ref 0],[.list (strL (path.map (nameOf lo)))],⟨_,rfl⟩,rfl,rfl,compStep_no ?_⟩
   have e4:ev (tblN 9) (.fn 4 (.cons (.sub (.var 3 q1) (.var 1 q2) q3) (.cons (.var 1 q4) .nil)) q5 q6) [.unb,.fv (.int t),.unb,.ref 0] [.list (strL (path.map (nameOf lo)))]=some (.fv (.str (sized t (nameOf lo path[t]))),[.list (strL (path.map (nameOf lo)))]):=
    (ev_fn (evs_cons (ev_sub (a:=.ref 0) (b:=.fv (.int t)) (o1:=[.list (strL (path.map (nameOf lo)))]) rfl rfl (nth_list rfl (by omega) hg)) (evs_1 (v:=.fv (.int t)) rfl))).trans (call_sized 8 t _ ha (fine_lim hf))
   have hs:szF lo path (.int (t:Int))=.pair (.str (sized t (nameOf lo path[t]))) (.str []):=by
    show FV.pair (.str (sized t (nameOf lo (path.getD t 0)))) (.str [])=_
    rw [hD]
   rw [hs]
   exact ev_tup e4 rfl)
  (by rw [List.length_nil,Nat.zero_add,rngFrom_len];exact Nat.le_trans hl (by decide))
 have hm:=seen_map lo path []
 rw [List.nil_append] at e hm
 rw [show (([]:List Nat).length:Int)=((0:Nat):Int) from rfl] at hm
 rw [hm] at e
 refine ev_comp (x:=.rng 0 path.length 1) (rs:=[c]) (full:=rngFrom 1 path.length ((0:Nat):Int)) (ys:=(seenFrom lo 0 path).map hd) (vs':=vs') (oc:=pick [c] o) e1 hin ?_ (compOut_same ?_)
 ·rw [hcap,hpk]
  show compTurns 1 _ (.rng 0 path.length 1) none _ [.unb,.unb,.unb,renum [c] (.ref c)] _ []=_
  rw [hrw];exact e
 ·intro i hi
  rw [List.mem_singleton.mp hi];exact ⟨_,hc,rfl⟩
end
section
theorem sorted_ok {i:Nat} {o:List MO} {rows path:List Nat} (h:o[i]?=some (.list (intL path))) (hf:fin rows path=true) (hl:path.length≤7) (hb:∀r∈path,r<16):builtin .sorted [.ref i] o=some (.ref o.length,o++[.list (intL rows)]):=by
 have hs:sortInts (natI path)=natI rows:=of_decide_eq_true hf
 have hi:ints? (intL path)=some (natI path):=by
  have:∀l:List Nat,ints? (intL l)=some (natI l):=fun l=>by
   induction l with
   |nil=>rfl
   |cons x r ih=>
    show (ints? (intL r)).map ((x:Int):: ·)=_
    rw [ih];rfl
  exact this path
 have hall:(natI path).all (fun n=>n.natAbs<big)=true:=by
  refine List.all_eq_true.mpr fun n hn=>?_
  obtain ⟨r,hr,rfl⟩:=List.mem_map.mp hn
  refine decide_eq_true (Nat.lt_of_lt_of_le (m:=16) ?_ (by decide))
  have:=hb r hr;omega
 refine (bindE (listAt_of h)).trans ((bindE hi).trans ?_)
 rw [hall,hs,if_pos]
 ·have:(natI rows).map FV.int=intL rows:=by unfold natI intL;rw [List.map_map];rfl
  rw [this]
 ·rw [Bool.and_true,decide_eq_true_eq];unfold natI;rw [List.length_map];omega
theorem eq_lists {i j:Nat} {o:List MO} {l:List FV} (hi:o[i]?=some (.list l)) (hj:o[j]?=some (.list l)) (hk:sameKind l l=true):cmpop .eq (.ref i) (.ref j) o=some true:=by
 exact (eq_two (listAt_of hi) (listAt_of hj) hk).trans (by rw [beq_self_eq_true])
theorem seen_pairs {lo:Nat} (hlo:lo<28):∀(l:List Nat) (t:Nat),(∀r∈l,r∈allRows)→((seenFrom lo t l).map hd).all FV.isPair=true
 |[],_,_=>rfl
 |r::l,t,h=>by
  have h1:=sized_hdr (t:=t) hlo (h r (.head _))
  rw [Bool.and_eq_true] at h1
  have h2:chars (sized t (nameOf lo r))=true:=by
   refine List.all_eq_true.mpr fun c hc=>decide_eq_true ?_
   have:=of_decide_eq_true (List.all_eq_true.mp h1.1 c hc)
   omega
  show (chars (sized t (nameOf lo r))&&true&&((seenFrom lo (t+1) l).map hd).all FV.isPair)=true
  rw [h2,seen_pairs hlo l (t+1) fun r hr=>h r (.tail _ hr)];rfl
theorem pairs_same {lo:Nat} {path:List Nat} (hlo:lo<28) (h:∀r∈path,r∈allRows):sameKind ((seenFrom lo 0 path).map hd) ((seenFrom lo 0 path).map hd)=true:=by
 unfold sameKind;rw [seen_pairs hlo path 0 h];simp
theorem evB2 {T:Tbl} {x y:X} {p:Pos} {vars:List MV} {o o1:List MO} {r:Option (MV × List MO)} (h1:ev T x vars o=some (.fv (.bool true),o1)) (h2:ev T y vars o1=r):ev T (.bop true (.cons x (.cons y .nil)) p) vars o=r:=by
 show (match ev T x vars o with|some (v,o1)=>(match truthyM v o1 with|some b=>if b=true then ev T y vars o1 else some (v,o1)|none=>none)|none=>none)=_
 rw [h1];exact h2
theorem call_items {o:List MO} {hs:List FV} {i j:Nat} (hi:o[i]?=some (.hdr j)) (hj:o[j]?=some (.list hs)) (hne:i≠j) (hl:hs.length≤lenLim):callM (tblN 9) 102 [.ref i] o=some (.ref o.length,o++[.list hs]):=by
 have hne2:j≠i:=Ne.symm hne
 have hi0:[i,j].idxOf i=0:=by simp
 have hi1:[i,j].idxOf j=1:=by rw [List.idxOf_cons,show (i==j)=false by simpa using hne];simp
 have hr:rootsOf [.ref i] o=[i,j]:=by
  show dedup ((i::((o[i]?.bind MO.next).toList))++[])=_
  rw [hi]
  show i::(j::[]).filter (· !=i)=_
  rw [List.filter_cons_of_pos (by simpa using hne2)];rfl
 have hcl:closed [i,j] o=true:=by
  show ((match o[i]? with|some o=>(match o.next with|some k=>[i,j].contains k|none=>true)|none=>false)&&((match o[j]? with|some o=>(match o.next with|some k=>[i,j].contains k|none=>true)|none=>false)&&true))=true
  rw [hi,hj]
  show ([i,j].contains j&&(true&&true))=true
  simp
 have hpk:pick [i,j] o=[.hdr 1,.list hs]:=by
  show [renumO [i,j] (o.getD i (.list [])),renumO [i,j] (o.getD j (.list []))]=_
  rw [List.getD_eq_getElem?_getD,List.getD_eq_getElem?_getD,hi,hj]
  show [MO.hdr ([i,j].idxOf j),.list hs]=_
  rw [hi1]
 have hrn:([MV.ref i]).map (renum [i,j])=[.ref 0]:=congrArg (fun k=>[MV.ref k]) hi0
 refine callM_of (rs:=[i,j]) hr hcl hrn hpk (T102 8 hs hl) ?_
 show (match backFrom [i,j] [.hdr 1,.list hs,.list hs] 0 o with|some os=>some (MV.ref os.length,os++[MO.list hs])|none=>none)=_
 rw [back_gen o o 0 rfl ?_]
 intro k x hx
 rw [Nat.zero_add]
 by_cases e1:k=i
 ·subst e1
  rw [if_pos (by simp),hi0,hx]
  rw [hi] at hx;cases hx;rfl
 ·by_cases e2:k=j
  ·subst e2
   rw [if_pos (by simp),hi1,hx]
   rw [hj] at hx;cases hx;rfl
  ·rw [if_neg,hx]
   simp [e1,e2]
theorem law_d (sc:List FV) {p ah lo more first:Nat} {rows perm path:List Nat} {wd:List Nat} {cl:List FV} (M:Menu p ah rows) (hlo:lo<28) (q1:fin rows path=true) (q2:∀r∈path,r∈rows) (q3:path.length≤7):∃s:MS,s.objs[0]?=some (.fz sc)∧
  exs (tblN 9) (bFlaw.drop 18) ⟨LV (.ref 0) (.ref 1) (.fv (.int p)) (.fv (.int ah)) (.fv (.int lo)) (.ref 3) (.ref 4) (.ref 6) (.fv (.int first)) (.fv (.int more)) (.ref 7) (.ref 12) (.fv (.str wd)) (.ref 14) (.ref 16) (.ref 18),[],LD sc cl p lo rows more first perm path,1⟩=some (.ret (.fv (.bool true)),s):=by
 obtain ⟨hra,hrl⟩:=rows_in rows M.hM
 have hpa:∀r∈path,r∈allRows:=fun r h=>hra r (q2 r h)
 have hD:bFlaw.drop 18=.cons (bFlaw.at 18) (.cons (bFlaw.at 19) .nil):=rfl
 rw [hD]
 refine ⟨⟨LV (.ref 0) (.ref 1) (.fv (.int p)) (.fv (.int ah)) (.fv (.int lo)) (.ref 3) (.ref 4) (.ref 6) (.fv (.int first)) (.fv (.int more)) (.ref 7) (.ref 19) (.fv (.str wd)) (.ref 14) (.ref 16) (.ref 18),[],LD sc cl p lo rows more first perm path++[.list (strL (path.map (nameOf lo))),.list (intL rows),.list ((seenFrom lo 0 path).map hd),.list ((seenFrom lo 0 path).map hd)],1⟩,rfl,?_⟩
 refine exs_go (s':=⟨LV (.ref 0) (.ref 1) (.fv (.int p)) (.fv (.int ah)) (.fv (.int lo)) (.ref 3) (.ref 4) (.ref 6) (.fv (.int first)) (.fv (.int more)) (.ref 7) (.ref 19) (.fv (.str wd)) (.ref 14) (.ref 16) (.ref 18),[],LD sc cl p lo rows more first perm path++[.list (strL (path.map (nameOf lo)))],1⟩) (ex_asg (v:=.ref 19) (o:=LD sc cl p lo rows more first perm path++[.list (strL (path.map (nameOf lo)))]) ?a ?b) ?_
 case a=>exact due_comp sc cl M hlo q2 q3 rfl rfl
 case b=>rfl
 refine exs_ret (ex_ret ?e)
 case e=>
  refine evB2 (o1:=LD sc cl p lo rows more first perm path++[.list (strL (path.map (nameOf lo))),.list (intL rows)]) ?_ ?_
  ·refine ev_cmp (a:=.ref 20) (b:=.ref 4) (o1:=LD sc cl p lo rows more first perm path++[.list (strL (path.map (nameOf lo))),.list (intL rows)]) (o2:=LD sc cl p lo rows more first perm path++[.list (strL (path.map (nameOf lo))),.list (intL rows)]) ?_ ?_ (eq_lists (l:=intL rows) ?_ ?_ ?_)
   ·exact ((ev_bi (evs_1 (v:=.ref 18) (o1:=LD sc cl p lo rows more first perm path++[.list (strL (path.map (nameOf lo)))]) rfl)).trans (sorted_ok (rows:=rows) (path:=path) rfl q1 q3 fun r h=>rows_lt (hpa r h))).trans rfl
   ·rfl
   ·rfl
   ·rfl
   ·unfold sameKind;rw [intL_int];rfl
  ·refine ev_cmp (a:=.ref 21) (b:=.ref 22) (o1:=LD sc cl p lo rows more first perm path++[.list (strL (path.map (nameOf lo))),.list (intL rows),.list ((seenFrom lo 0 path).map hd)]) (o2:=LD sc cl p lo rows more first perm path++[.list (strL (path.map (nameOf lo))),.list (intL rows),.list ((seenFrom lo 0 path).map hd),.list ((seenFrom lo 0 path).map hd)]) ?_ ?_ (eq_lists (l:=(seenFrom lo 0 path).map hd) ?_ ?_ ?_)
   ·refine (ev_hm (i:=16) (k:=15) (o1:=LD sc cl p lo rows more first perm path++[.list (strL (path.map (nameOf lo))),.list (intL rows)]) (o2:=LD sc cl p lo rows more first perm path++[.list (strL (path.map (nameOf lo))),.list (intL rows)]) (o3:=LD sc cl p lo rows more first perm path++[.list (strL (path.map (nameOf lo))),.list (intL rows)]) (vs:=[]) (ws:=[]) ?_ ?_ ?_ ?_).trans ?_
    ·rfl
    ·rfl
    ·rfl
    ·rfl
    ·exact (call_items (o:=LD sc cl p lo rows more first perm path++[.list (strL (path.map (nameOf lo))),.list (intL rows)]) (i:=16) (j:=15) (hs:=(seenFrom lo 0 path).map hd) rfl rfl (by decide) (by rw [List.length_map,seen_len];exact Nat.le_trans q3 (by decide))).trans rfl
   ·refine (end_comp (c:=19) (o:=LD sc cl p lo rows more first perm path++[.list (strL (path.map (nameOf lo))),.list (intL rows),.list ((seenFrom lo 0 path).map hd)]) hlo hpa q3 ?_ ?_ ?_).trans ?_
    ·rfl
    ·rfl
    ·rfl
    ·rfl
   ·rfl
   ·rfl
   ·exact pairs_same hlo hpa
theorem law_ok (script:List Int) (hl:script.length≤1000):∃oc,law script=some (.fv (.bool true),oc)∧oc[0]?=some (.fz (script.map .int)):=by
 obtain ⟨p,ah,lo,rows,c0,c1,c2,c3,c4,M,hlo,ea⟩:=law_a script hl
 obtain ⟨more,first,wd,hm,hf,eb⟩:=law_b (script.map .int) [] (c0:=c0) (c1:=c1) (c2:=c2) (c3:=c3) (c4:=c4) M hlo
 obtain ⟨perm,path,q1,q2,q3,ec⟩:=law_c (script.map .int) (wd:=wd) (c0:=c0) (c1:=c1) (c2:=c2) (c3:=c3) (c4:=c4) M hlo hm hf
 obtain ⟨s,e0,ed⟩:=law_d (script.map .int) (more:=more) (first:=first) (perm:=perm) (wd:=wd) (cl:=cellL c0 c1 c2 c3 c4) M hlo q1 q2 q3
 exact ⟨_,runBody_ret (ea.trans (eb.trans (ec.trans ed))),e0⟩
end
end Mine
end
section
set_option maxRecDepth 100000
open PySem PySem.W
namespace Mine
section
noncomputable def theProg:Program:=PySem.Challenge.rw_wn0117_01.row.toRowW.prog
namespace H
noncomputable def vs (x:String) (t:Nat):Value:=.str (Str.ofString x) t
noncomputable def vi (i:Int) (t:Nat):Value:=.int i t
noncomputable def vn (i:Int):Value:=.int i 0
noncomputable def vr (a:Addr):Value:=.ref a
noncomputable def vb (x:String):Value:=.builtin x
noncomputable def vt:Value:=.bool true
noncomputable def vf:Value:=.bool false
noncomputable def vo:Value:=.none
noncomputable def seqO (c:Value) (l:List Value):Obj:=⟨c,none,.seq ⟨l⟩,#[]⟩
noncomputable def fldO (c:Value) (l:List Value):Obj:=⟨c,none,.fields ⟨l⟩,#[]⟩
noncomputable def qt:=seqO (.type "tuple")
noncomputable def ql:=seqO (.type "list")
noncomputable def qn:=seqO .none
noncomputable def wc:=fldO (.type "code")
noncomputable def wn:=fldO .none
noncomputable def wg:=fldO (.type "getset_descriptor")
noncomputable def ents (P:Params):List (String × Nat × Value)→List DictEntry
 |[]=>[]
 |(x,t,v)::r=>⟨PyData.keyHash P (Str.ofString x),vs x t,v⟩::ents P r
noncomputable def dd (P:Params) (l:List (String × Nat × Value)) (n:Nat):Obj:=⟨.type "dict",none,.dict ⟨ents P l⟩ n,#[]⟩
noncomputable def dn (P:Params) (l:List (String × Nat × Value)) (n:Nat):Obj:=⟨.none,none,.dict ⟨ents P l⟩ n,#[]⟩
noncomputable def enti:List (Nat × Nat × String × Nat)→List DictEntry
 |[]=>[]
 |(i,t,x,u)::r=>⟨i,vi i t,vs x u⟩::enti r
noncomputable def di (l:List (Nat × Nat × String × Nat)) (n:Nat):Obj:=⟨.type "dict",none,.dict ⟨enti l⟩ n,#[]⟩
noncomputable def hdS:List Stmt→Stmt
 |s::_=>s
 |[]=>.Pass default
noncomputable def tp (k:Nat):Stmt:=hdS (theProg.main.body.drop k)
noncomputable def inS:Stmt→List Stmt
 |.ClassDef _ _ _ b _ _ _ _ _ _ _=>b
 |_=>[]
noncomputable def mt (k:Nat):Stmt:=hdS ((inS (tp 21)).drop k)
noncomputable def fo (c:Value) (g:Addr) (dv md cd:Value) (q:String):Stmt→Obj
 |.FunctionDef n a b _ _ _ s _ _ _=>⟨c,none,.func ⟨n,Str.ofString q,a,.stmts b,s,g,[],dv,.none,.none,md,none,cd,.none,0⟩,#[]⟩
 |_=>default
noncomputable def f0 (s:Stmt) (q:String):Obj:=fo .none 0 .none .none .none q s
noncomputable def f1 (s:Stmt) (q:String) (dv md cd:Value):Obj:=fo (.type "function") 3 dv md cd q s
noncomputable def n (o:Obj) (l r:BT):BT:=.node o l r
noncomputable def y (o:Obj):BT:=.node o .nil .nil
noncomputable def X:BT:=.nil
noncomputable def o41 (P:Params):Obj:=dd P [("__name__",1,vs "builtins" 160),("__doc__",2,vb "builtins.__doc__:str#\x6fpaque"),("__package__",3,vb "builtins.__package__:str#\x6fpaque"),("__loader__",4,vb "builtins.__loader__:shared#\x6fpaque"),("__spec__",5,vb "builtins.__spec__#\x6fpaque"),("__build_class__",6,vb "__build_class__"),("__import__",7,vb "__import__"),("abs",8,vb "abs"),("all",9,vb "all"),("any",10,vb "any"),("ascii",11,vb "ascii"),("bin",12,vb "bin"),("breakpoint",13,vb "breakpoint"),("callable",14,vb "callable"),("chr",15,vb "chr"),("compile",16,vb "compile"),("delattr",17,vb "delattr"),("dir",18,vb "dir"),("divmod",19,vb "divmod"),("eval",20,vb "eval"),("exec",21,vb "exec"),("format",22,vb "format"),("getattr",23,vb "getattr"),("globals",24,vb "globals"),("hasattr",25,vb "hasattr"),("hash",26,vb "hash"),("hex",27,vb "hex"),("id",28,vb "id"),("input",29,vb "input"),("isinstance",30,vb "isinstance"),("issubclass",31,vb "issubclass"),("iter",32,vb "iter"),("aiter",33,vb "aiter"),("len",34,vb "len"),("locals",35,vb "locals"),("max",36,vb "max"),("min",37,vb "min"),("next",38,vb "next"),("anext",39,vb "anext"),("oct",40,vb "oct"),("ord",41,vb "ord"),("pow",42,vb "pow"),("print",43,vb "print"),("repr",44,vb "repr"),("round",45,vb "round"),("setattr",46,vb "setattr"),("sorted",47,vb "sorted"),("sum",48,vb "sum"),("vars",49,vb "vars"),("None",50,vo),("Ellipsis",51,Value.ellipsis),("NotImplemented",52,Value.notImplemented),("False",53,vf),("True",54,vt),("bool",55,Value.type "bool"),("memoryview",56,Value.type "memoryview"),("bytearray",57,Value.type "bytearray"),("bytes",58,Value.type "bytes"),("classmethod",59,Value.type "classmethod"),("complex",60,Value.type "complex"),("dict",61,Value.type "dict"),("enumerate",62,Value.type "enumerate"),("filter",63,Value.type "filter"),("float",64,Value.type "float"),("frozenset",65,Value.type "frozenset"),("property",66,Value.type "property"),("int",67,Value.type "int"),("list",68,Value.type "list"),("map",69,Value.type "map"),("object",70,Value.type "object"),("range",71,Value.type "range"),("reversed",72,Value.type "reversed"),("set",73,Value.type "set"),("slice",74,Value.type "slice"),("staticmethod",75,Value.type "staticmethod"),("str",76,Value.type "str"),("super",77,Value.type "super"),("tuple",78,Value.type "tuple"),("type",79,Value.type "type"),("zip",80,Value.type "zip"),("__debug__",81,vt),("BaseException",82,Value.type "BaseException"),("BaseExceptionGroup",83,Value.type "BaseExceptionGroup"),("Exception",84,Value.type "Exception"),("GeneratorExit",85,Value.type "GeneratorExit"),("KeyboardInterrupt",86,Value.type "KeyboardInterrupt"),("SystemExit",87,Value.type "SystemExit"),("ArithmeticError",88,Value.type "ArithmeticError"),("AssertionError",89,Value.type "AssertionError"),("AttributeError",90,Value.type "AttributeError"),("BufferError",91,Value.type "BufferError"),("EOFError",92,Value.type "EOFError"),("ImportError",93,Value.type "ImportError"),("LookupError",94,Value.type "LookupError"),("MemoryError",95,Value.type "MemoryError"),("NameError",96,Value.type "NameError"),("OSError",97,Value.type "OSError"),("ReferenceError",98,Value.type "ReferenceError"),("RuntimeError",99,Value.type "RuntimeError"),("StopAsyncIteration",100,Value.type "StopAsyncIteration"),("StopIteration",101,Value.type "StopIteration"),("SyntaxError",102,Value.type "SyntaxError"),("SystemError",103,Value.type "SystemError"),("TypeError",104,Value.type "TypeError"),("ValueError",105,Value.type "ValueError"),("Warning",106,Value.type "Warning"),("FloatingPointError",107,Value.type "FloatingPointError"),("OverflowError",108,Value.type "OverflowError"),("ZeroDivisionError",109,Value.type "ZeroDivisionError"),("BytesWarning",110,Value.type "BytesWarning"),("DeprecationWarning",111,Value.type "DeprecationWarning"),("EncodingWarning",112,Value.type "EncodingWarning"),("FutureWarning",113,Value.type "FutureWarning"),("ImportWarning",114,Value.type "ImportWarning"),("PendingDeprecationWarning",115,Value.type "PendingDeprecationWarning"),("ResourceWarning",116,Value.type "ResourceWarning"),("RuntimeWarning",117,Value.type "RuntimeWarning"),("SyntaxWarning",118,Value.type "SyntaxWarning"),("UnicodeWarning",119,Value.type "UnicodeWarning"),("UserWarning",120,Value.type "UserWarning"),("BlockingIOError",121,Value.type "BlockingIOError"),("ChildProcessError",122,Value.type "ChildProcessError"),("ConnectionError",123,Value.type "ConnectionError"),("FileExistsError",124,Value.type "FileExistsError"),("FileNotFoundError",125,Value.type "FileNotFoundError"),("InterruptedError",126,Value.type "InterruptedError"),("IsADirectoryError",127,Value.type "IsADirectoryError"),("NotADirectoryError",128,Value.type "NotADirectoryError"),("PermissionError",129,Value.type "PermissionError"),("ProcessLookupError",130,Value.type "ProcessLookupError"),("TimeoutError",131,Value.type "TimeoutError"),("IndentationError",132,Value.type "IndentationError"),("_IncompleteInputError",133,Value.type "_IncompleteInputError"),("IndexError",134,Value.type "IndexError"),("KeyError",135,Value.type "KeyError"),("ModuleNotFoundError",136,Value.type "ModuleNotFoundError"),("NotImplementedError",137,Value.type "NotImplementedError"),("PythonFinalizationError",138,Value.type "PythonFinalizationError"),("RecursionError",139,Value.type "RecursionError"),("UnboundLocalError",140,Value.type "UnboundLocalError"),("UnicodeError",141,Value.type "UnicodeError"),("BrokenPipeError",142,Value.type "BrokenPipeError"),("ConnectionAbortedError",143,Value.type "ConnectionAbortedError"),("ConnectionRefusedError",144,Value.type "ConnectionRefusedError"),("ConnectionResetError",145,Value.type "ConnectionResetError"),("TabError",146,Value.type "TabError"),("UnicodeDecodeError",147,Value.type "UnicodeDecodeError"),("UnicodeEncodeError",148,Value.type "UnicodeEncodeError"),("UnicodeTranslateError",149,Value.type "UnicodeTranslateError"),("ExceptionGroup",150,Value.type "ExceptionGroup"),("EnvironmentError",151,Value.type "OSError"),("IOError",152,Value.type "OSError"),("open",153,vb "open"),("quit",154,vb "builtins.quit#\x6fpaque"),("exit",155,vb "builtins.exit#\x6fpaque"),("copyright",156,vb "builtins.copyright#\x6fpaque"),("credits",157,vb "builtins.credits#\x6fpaque"),("license",158,vb "builtins.license#\x6fpaque"),("help",159,vb "builtins.help#\x6fpaque")] 159
noncomputable def o42 (P:Params):Obj:=dd P [("builtins",162,vr 4),("__main__",163,vr 5),("_sre",244,vr 12)] 3
noncomputable def o43 (P:Params):Obj:=dn P [("\x69mport.loaded._sre",183,vt),("class._frozen_importlib.BuiltinImporter",185,vr 14),("watched.\x69mport",206,vr 18),("class._frozen_importlib.ModuleSpec",216,vr 22),("sys.modules.booked-epoch",245,vn 3),("\x69mport.later-laid._sre",270,vt),("watched.library",272,vr 27),("watched.library-objects",0,vs "\x0c" 0),("watched.library-deep._sre",273,vs "\x04\x00\x00\x0b\x04\x00\x00\x0b\x04\x00\x00\x03\x04\x00\x00\x0b\x08\x04dict\x02" 0)] 9
noncomputable def o44 (P:Params):Obj:=dd P [("__name__",165,vs "__main__" 164),("__doc__",166,vo),("__package__",167,vo),("__loader__",168,vb "__main__.__loader__#\x6fpaque"),("__spec__",169,vo),("__annotations__",170,vr 6),("__builtins__",171,vr 4),("__file__",173,vs "/claim/cut.py" 172),("__cached__",174,vo),("_sre",275,vr 12)] 10
noncomputable def o45:Obj:=Obj.mk (Value.type "module") (some 0) Data.plain #[]
noncomputable def o46:Obj:=Obj.mk (Value.type "module") (some 3) Data.plain #[]
noncomputable def o47 (P:Params):Obj:=dd P [] 0
noncomputable def o50:Obj:=wc [vs "<module>" 176,vs "<module>" 177,vs "/claim/cut.py" 178,vn 1,vn 0,vn 0,vn 0,vn 0,vr 7,vf,vn 175,vr 8,vo,vo,vo,vo,vn 179,vn 1,vs "/claim/cut.py" 180]
noncomputable def o51:Obj:=Obj.mk (Value.type "frame") none Data.plain #[some (vr 9),some (vr 3),some (vr 3),none,some (vs "__main__" 164),none,some (vr 0)]
noncomputable def o52 (P:Params):Obj:=dd P [("__name__",247,vs "_sre" 246),("__doc__",248,vo),("__package__",250,vs "" 249),("__loader__",251,vb "off-the-table:_sre.__loader__:shared#\x6fpaque"),("__spec__",252,vb "off-the-table:_sre.__spec__:shared#\x6fpaque"),("compile",253,vb "_sre.compile"),("template",254,vb "off-the-table:_sre.template:shared#\x6fpaque"),("getcodesize",255,vb "off-the-table:_sre.getcodesize:shared#\x6fpaque"),("ascii_iscased",256,vb "off-the-table:_sre.ascii_iscased:shared#\x6fpaque"),("unicode_iscased",257,vb "off-the-table:_sre.unicode_iscased:shared#\x6fpaque"),("ascii_tolower",258,vb "off-the-table:_sre.ascii_tolower:shared#\x6fpaque"),("unicode_tolower",259,vb "off-the-table:_sre.unicode_tolower:shared#\x6fpaque"),("MAGIC",261,vi 20230612 260),("CODESIZE",263,vi 4 262),("MAXREPEAT",265,vi 4294967295 264),("MAXGROUPS",267,vi 1073741823 266),("copyright",269,vs " SRE 2.2.2 Copyright (c) 1997-2002 by Secret Labs AB " 268)] 17
noncomputable def o53:Obj:=Obj.mk (Value.type "module") (some 11) Data.plain #[]
noncomputable def o54 (P:Params):Obj:=dd P [("__module__",189,vs "_frozen_importlib" 186),("__firstlineno__",190,vi 971 187),("__doc__",191,vb "_frozen_importlib.BuiltinImporter.__doc__:str#\x6fpaque"),("_ORIGIN",192,vs "built-in" 188),("find_spec",193,vb "_frozen_importlib.BuiltinImporter.find_spec#\x6fpaque"),("create_module",194,vb "_frozen_importlib.BuiltinImporter.create_module#\x6fpaque"),("exec_module",195,vb "_frozen_importlib.BuiltinImporter.exec_module#\x6fpaque"),("get_code",196,vb "_frozen_importlib.BuiltinImporter.get_code#\x6fpaque"),("get_source",197,vb "_frozen_importlib.BuiltinImporter.get_source#\x6fpaque"),("is_package",198,vb "_frozen_importlib.BuiltinImporter.is_package#\x6fpaque"),("load_module",199,vb "_frozen_importlib.BuiltinImporter.load_module#\x6fpaque"),("__static_attributes__",200,vr 15),("__dict__",202,vr 16),("__weakref__",204,vr 17)] 14
noncomputable def o55:Obj:=Obj.mk (Value.type "type") none (Data.cls (ClassData.mk (Str.ofString "BuiltinImporter") [Value.type "object"] [vr 14,Value.type "object"] 13 (Str.ofString "BuiltinImporter") true [] [] false none false)) #[]
noncomputable def o57:Obj:=wg [vs "__dict__" 201,vr 14,vb "function.__dict__",vb "function.__dict__#set"]
noncomputable def o58:Obj:=wg [vs "__weakref__" 203,vr 14,vb "ExceptionGroup.__weakref__",vo]
noncomputable def o59:Obj:=Obj.mk vo none (Data.seq #[vn 13,vs "\x06½\n__module__\x06º\x11_frozen_importlib\x06¾\x0f__firstlineno__\x04»\x00ϋ\x06¿\x07__doc__\t4_frozen_importlib.BuiltinImporter.__doc__:str#\x6fpaque\x06À\x07_ORIGIN\x06¼\x08built-in\x06Á\tfind_spec\t2_frozen_importlib.BuiltinImporter.find_spec#\x6fpaque\x06Â\x0dcreate_module\t6_frozen_importlib.BuiltinImporter.create_module#\x6fpaque\x06Ã\x0bexec_module\t4_frozen_importlib.BuiltinImporter.exec_module#\x6fpaque\x06Ä\x08get_code\t1_frozen_importlib.BuiltinImporter.get_code#\x6fpaque\x06Å\nget_source\t3_frozen_importlib.BuiltinImporter.get_source#\x6fpaque\x06Æ\nis_package\t3_frozen_importlib.BuiltinImporter.is_package#\x6fpaque\x06Ç\x0bload_module\t4_frozen_importlib.BuiltinImporter.load_module#\x6fpaque\x06È\x15__static_attributes__\x04\x00\x00\x0f\x06Ê\x08__dict__\x04\x00\x00\x10\x06Ì\x0b__weakref__\x04\x00\x00\x11" 0,vt,vt,vs "" 205,vn 21,vs "\x06ã\n__module__\x06Ù\x11_frozen_importlib\x06ä\x0f__firstlineno__\x04Ú\x00Ȳ\x06å\x07__doc__\t/_frozen_importlib.ModuleSpec.__doc__:str#\x6fpaque\x06æ\x08__init__\t,_frozen_importlib.ModuleSpec.__init__#\x6fpaque\x06ç\x08__repr__\t,_frozen_importlib.ModuleSpec.__repr__#\x6fpaque\x06è\x06__eq__\t*_frozen_importlib.ModuleSpec.__eq__#\x6fpaque\x06é\x06cached\t*_frozen_importlib.ModuleSpec.cached#\x6fpaque\x06ê\x06parent\t*_frozen_importlib.ModuleSpec.parent#\x6fpaque\x06ë\x0chas_location\t0_frozen_importlib.ModuleSpec.has_location#\x6fpaque\x06ì\x15__static_attributes__\x04\x00\x00\x17\x06î\x08__dict__\x04\x00\x00\x18\x06ð\x0b__weakref__\x04\x00\x00\x19\x06ñ\x08__hash__\x00" 0,vt,vt,vs "" 242] 1) #[]
noncomputable def o61 (P:Params):Obj:=dd P [("name",208,vs "_sre" 207),("loader",209,vr 14),("origin",210,vs "built-in" 184),("loader_state",211,vo),("submodule_search_locations",212,vo),("_uninitialized_submodules",213,vr 19),("_set_fileattr",214,vf),("_cached",215,vo),("_initializing",243,vf)] 9
noncomputable def o62 (P:Params):Obj:=dd P [("__module__",227,vs "_frozen_importlib" 217),("__firstlineno__",228,vi 562 218),("__doc__",229,vb "_frozen_importlib.ModuleSpec.__doc__:str#\x6fpaque"),("__init__",230,vb "_frozen_importlib.ModuleSpec.__init__#\x6fpaque"),("__repr__",231,vb "_frozen_importlib.ModuleSpec.__repr__#\x6fpaque"),("__eq__",232,vb "_frozen_importlib.ModuleSpec.__eq__#\x6fpaque"),("cached",233,vb "_frozen_importlib.ModuleSpec.cached#\x6fpaque"),("parent",234,vb "_frozen_importlib.ModuleSpec.parent#\x6fpaque"),("has_location",235,vb "_frozen_importlib.ModuleSpec.has_location#\x6fpaque"),("__static_attributes__",236,vr 23),("__dict__",238,vr 24),("__weakref__",240,vr 25),("__hash__",241,vo)] 13
noncomputable def o63:Obj:=Obj.mk (Value.type "type") none (Data.cls (ClassData.mk (Str.ofString "ModuleSpec") [Value.type "object"] [vr 22,Value.type "object"] 21 (Str.ofString "ModuleSpec") true [] [] false none false)) #[]
noncomputable def o64:Obj:=qt [vs "_cached" 219,vs "_set_fileattr" 220,vs "_uninitialized_submodules" 221,vs "loader" 222,vs "loader_state" 223,vs "name" 224,vs "origin" 225,vs "submodule_search_locations" 226]
noncomputable def o65:Obj:=wg [vs "__dict__" 237,vr 22,vb "function.__dict__",vb "function.__dict__#set"]
noncomputable def o66:Obj:=wg [vs "__weakref__" 239,vr 22,vb "ExceptionGroup.__weakref__",vo]
noncomputable def o67:Obj:=Obj.mk (vr 22) (some 20) Data.plain #[]
noncomputable def o68:Obj:=qn [vn 11,Value.str (Str.mk #[6,247,8,95,95,110,97,109,101,95,95,6,246,4,95,115,114,101,6,248,7,95,95,100,111,99,95,95,0,6,250,11,95,95,112,97,99,107,97,103,101,95,95,6,249,0,6,251,10,95,95,108,111,97,100,101,114,95,95,4,0,0,14,6,252,8,95,95,115,112,101,99,95,95,4,0,0,26,6,253,7,99,111,109,112,105,108,101,9,12,95,115,114,101,46,99,111,109,112,105,108,101,6,254,8,116,101,109,112,108,97,116,101,9,13,95,115,114,101,46,116,101,109,112,108,97,116,101,6,255,11,103,101,116,99,111,100,101,115,105,122,101,9,16,95,115,114,101,46,103,101,116,99,111,100,101,115,105,122,101,6,256,13,97,115,99,105,105,95,105,115,99,97,115,101,100,9,18,95,115,114,101,46,97,115,99,105,105,95,105,115,99,97,115,101,100,6,257,15,117,110,105,99,111,100,101,95,105,115,99,97,115,101,100,9,20,95,115,114,101,46,117,110,105,99,111,100,101,95,105,115,99,97,115,101,100,6,258,13,97,115,99,105,105,95,116,111,108,111,119,101,114,9,18,95,115,114,101,46,97,115,99,105,105,95,116,111,108,111,119,101,114,6,259,15,117,110,105,99,111,100,101,95,116,111,108,111,119,101,114,9,20,95,115,114,101,46,117,110,105,99,111,100,101,95,116,111,108,111,119,101,114,6,261,5,77,65,71,73,67,4,260,0,20230612,6,263,8,67,79,68,69,83,73,90,69,4,262,0,4,6,265,9,77,65,88,82,69,80,69,65,84,4,264,0,4294967295,6,267,9,77,65,88,71,82,79,85,80,83,4,266,0,1073741823,6,269,9,99,111,112,121,114,105,103,104,116,6,268,53,32,83,82,69,32,50,46,50,46,50,32,67,111,112,121,114,105,103,104,116,32,40,99,41,32,49,57,57,55,45,50,48,48,50,32,98,121,32,83,101,99,114,101,116,32,76,97,98,115,32,65,66,32]) 0,vt,vf,vs "_sre" 271]
noncomputable def o71:Obj:=wc [vs "<module>" 277,vs "<module>" 278,vs "/claim/cut.py" 279,vn 1,vn 0,vn 0,vn 0,vn 0,vr 28,vf,vn 276,vr 29,vo,vo,vo,vo,vn 280,vn 1,vs "/claim/cut.py" 281]
noncomputable def o72:Obj:=Obj.mk (Value.type "frame") none Data.plain #[some (vr 30),some (vr 3),some (vr 3),none,some (vs "__main__" 164),none,some (vr 0)]
noncomputable def o75 (P:Params):Obj:=dd P [("__name__",165,vs "cpy313.traceback" 375),("__doc__",166,vo),("__package__",167,vo),("__loader__",168,vb "__main__.__loader__#\x6fpaque"),("__spec__",169,vo),("__annotations__",170,vr 6),("__builtins__",171,vr 4),("__file__",173,vs "/claim/cut.py" 172),("__cached__",174,vo),("_sre",275,vr 12),("_wall",288,vr 38),("_iter_escaped_chars",300,vr 45),("_strip_quoted_realnames",312,vr 52),("_check_parenthesis",322,vr 59),("COMPILER_FLAG_NAMES",355,vr 60),("pretty_flags",365,vr 67),("_parse_varint",374,vr 74),("_MAX_STRING_SIZE",378,vi 40 377),("_MOVE_COST",380,vi 2 379),("_CASE_COST",382,vi 1 381)] 20
noncomputable def o76:Obj:=wn [vn 2,vn 0,vr 37,vn 6,vn 0,vr 44,vn 19,vn 0,vr 51,vn 37,vn 0,vr 58,vn 50,vn 0,vr 66,vn 62,vn 0,vr 73]
noncomputable def o79:Obj:=qt [vs "k" 285]
noncomputable def o81:Obj:=f0 (tp 1) "_wall"
noncomputable def o82:Obj:=wc [vs "_wall" 282,vs "_wall" 283,vs "/claim/cut.py" 284,vn 2,vn 1,vn 0,vn 0,vn 3,vr 32,vt,vn 276,vr 33,vo,vr 34,vr 35,vr 36,vn 286,vn 2,vs "/claim/cut.py" 287]
noncomputable def o83:Obj:=f1 (tp 1) "_wall" vo (vs "__main__" 164) (vr 37)
noncomputable def o86:Obj:=qt [vs "addr" 294,vs "pos" 295,vs "escape" 296,vs "ch" 297]
noncomputable def o88:Obj:=f0 (tp 3) "_iter_escaped_chars"
noncomputable def o89:Obj:=wc [vs "_iter_escaped_chars" 291,vs "_iter_escaped_chars" 292,vs "/claim/cut.py" 293,vn 6,vn 1,vn 0,vn 0,vn 35,vr 39,vt,vn 276,vr 40,vo,vr 41,vr 42,vr 43,vn 298,vn 6,vs "/claim/cut.py" 299]
noncomputable def o90:Obj:=f1 (tp 3) "_iter_escaped_chars" vo (vs "cpy313.email.utils" 289) (vr 44)
noncomputable def o93:Obj:=qt [vs "addr" 304,vs "start" 305,vs "open_pos" 306,vs "result" 307,vs "pos" 308,vs "ch" 309]
noncomputable def o95:Obj:=f0 (tp 4) "_strip_quoted_realnames"
noncomputable def o96:Obj:=wc [vs "_strip_quoted_realnames" 301,vs "_strip_quoted_realnames" 302,vs "/claim/cut.py" 303,vn 19,vn 1,vn 0,vn 0,vn 3,vr 46,vt,vn 276,vr 47,vo,vr 48,vr 49,vr 50,vn 310,vn 19,vs "/claim/cut.py" 311]
noncomputable def o97:Obj:=f1 (tp 4) "_strip_quoted_realnames" vo (vs "cpy313.email.utils" 289) (vr 51)
noncomputable def o100:Obj:=qt [vs "addr" 316,vs "opens" 317,vs "pos" 318,vs "ch" 319]
noncomputable def o102:Obj:=f0 (tp 5) "_check_parenthesis"
noncomputable def o103:Obj:=wc [vs "_check_parenthesis" 313,vs "_check_parenthesis" 314,vs "/claim/cut.py" 315,vn 37,vn 1,vn 0,vn 0,vn 3,vr 53,vt,vn 276,vr 54,vo,vr 55,vr 56,vr 57,vn 320,vn 37,vs "/claim/cut.py" 321]
noncomputable def o104:Obj:=f1 (tp 5) "_check_parenthesis" vo (vs "cpy313.email.utils" 289) (vr 58)
noncomputable def o105:Obj:=di [(1,325,"OPTIMIZED",326),(2,327,"NEWLOCALS",328),(4,329,"VARARGS",330),(8,331,"VARKEYWORDS",332),(16,333,"NESTED",334),(32,335,"GENERATOR",336),(64,337,"NOFREE",338),(128,339,"COROUTINE",340),(256,341,"ITERABLE_COROUTINE",342),(512,343,"ASYNC_GENERATOR",344)] 10
noncomputable def o108:Obj:=qt [vs "flags" 359,vs "names" 360,vs "i" 361,vs "flag" 362]
noncomputable def o110:Obj:=f0 (tp 8) "pretty_flags"
noncomputable def o111:Obj:=wc [vs "pretty_flags" 356,vs "pretty_flags" 357,vs "/claim/cut.py" 358,vn 50,vn 1,vn 0,vn 0,vn 3,vr 61,vt,vn 276,vr 62,vo,vr 63,vr 64,vr 65,vn 363,vn 50,vs "/claim/cut.py" 364]
noncomputable def o112:Obj:=f1 (tp 8) "pretty_flags" vo (vs "cpy313.dis" 323) (vr 66)
noncomputable def o115:Obj:=qt [vs "iterator" 369,vs "b" 370,vs "val" 371]
noncomputable def o117:Obj:=f0 (tp 9) "_parse_varint"
noncomputable def o118:Obj:=wc [vs "_parse_varint" 366,vs "_parse_varint" 367,vs "/claim/cut.py" 368,vn 62,vn 1,vn 0,vn 0,vn 3,vr 68,vt,vn 276,vr 69,vo,vr 70,vr 71,vr 72,vn 372,vn 62,vs "/claim/cut.py" 373]
noncomputable def o119:Obj:=f1 (tp 9) "_parse_varint" vo (vs "cpy313.dis" 323) (vr 73)
noncomputable def o122 (P:Params):Obj:=dd P [("__name__",165,vs "cpy313.wsgiref.headers" 411),("__doc__",166,vo),("__package__",167,vo),("__loader__",168,vb "__main__.__loader__#\x6fpaque"),("__spec__",169,vo),("__annotations__",170,vr 6),("__builtins__",171,vr 4),("__file__",173,vs "/claim/cut.py" 172),("__cached__",174,vo),("_sre",275,vr 12),("_wall",288,vr 38),("_iter_escaped_chars",300,vr 45),("_strip_quoted_realnames",312,vr 52),("_check_parenthesis",322,vr 59),("COMPILER_FLAG_NAMES",355,vr 60),("pretty_flags",365,vr 67),("_parse_varint",374,vr 74),("_MAX_STRING_SIZE",378,vi 40 377),("_MOVE_COST",380,vi 2 379),("_CASE_COST",382,vi 1 381),("_substitution_cost",390,vr 81),("_levenshtein_distance",410,vr 88),("tspecials",446,vr 93),("_name_disallowed_re",472,vr 98),("_value_disallowed_re",506,vr 103),("_formatparam",516,vr 111)] 26
noncomputable def o123:Obj:=wn [vn 2,vn 0,vr 37,vn 6,vn 0,vr 44,vn 19,vn 0,vr 51,vn 37,vn 0,vr 58,vn 50,vn 0,vr 66,vn 62,vn 0,vr 73,vn 74,vn 0,vr 80,vn 80,vn 0,vr 87,vn 122,vn 0,vr 110]
noncomputable def o126:Obj:=qt [vs "ch_a" 386,vs "ch_b" 387]
noncomputable def o128:Obj:=f0 (tp 14) "_substitution_cost"
noncomputable def o129:Obj:=wc [vs "_substitution_cost" 383,vs "_substitution_cost" 384,vs "/claim/cut.py" 385,vn 74,vn 2,vn 0,vn 0,vn 3,vr 75,vt,vn 276,vr 76,vo,vr 77,vr 78,vr 79,vn 388,vn 74,vs "/claim/cut.py" 389]
noncomputable def o130:Obj:=f1 (tp 14) "_substitution_cost" vo (vs "cpy313.traceback" 375) (vr 80)
noncomputable def o133:Obj:=qt [vs "a" 394,vs "b" 395,vs "max_cost" 396,vs "pre" 397,vs "post" 398,vs "row" 399,vs "result" 400,vs "bindex" 401,vs "bchar" 402,vs "distance" 403,vs "minimum" 404,vs "index" 405,vs "substitute" 406,vs "insert_delete" 407]
noncomputable def o135:Obj:=f0 (tp 15) "_levenshtein_distance"
noncomputable def o136:Obj:=wc [vs "_levenshtein_distance" 391,vs "_levenshtein_distance" 392,vs "/claim/cut.py" 393,vn 80,vn 3,vn 0,vn 0,vn 3,vr 82,vt,vn 276,vr 83,vo,vr 84,vr 85,vr 86,vn 408,vn 80,vs "/claim/cut.py" 409]
noncomputable def o137:Obj:=f1 (tp 15) "_levenshtein_distance" vo (vs "cpy313.traceback" 375) (vr 87)
noncomputable def o138:Obj:=ql [vi 14 416,vi 14 417,vi 4 418,vi 1 419,vi 1 420,vi 9 421,vi 0 422,vi 4227896069 423,vi 939524097 424,vi 0 425,vi 0 426,vi 0 427,vi 0 428,vi 0 429,vi 0 430,vi 13 431,vi 11 432,vi 9 433,vi 0 434,vi 4227896069 435,vi 939524097 436,vi 0 437,vi 0 438,vi 0 439,vi 0 440,vi 0 441,vi 0 442,vi 1 443]
noncomputable def o141:Obj:=qt [vn 14,vn 14,vn 4,vn 1,vn 1,vn 9,vn 0,vn 4227896069,vn 939524097,vn 0,vn 0,vn 0,vn 0,vn 0,vn 0,vn 13,vn 11,vn 9,vn 0,vn 4227896069,vn 939524097,vn 0,vn 0,vn 0,vn 0,vn 0,vn 0,vn 1]
noncomputable def o142:Obj:=Obj.mk (Value.type "re.Pattern") none (Data.fields #[vs "[ \\(\\)<>@,;:\\\\\"/\\[\\]\\?=]" 414,vi 32 445,vn 0,vo,vo,vr 92,vn 0]) #[]
noncomputable def o143:Obj:=ql [vi 14 450,vi 10 451,vi 4 452,vi 1 453,vi 1 454,vi 22 455,vi 0 456,vi 31 457,vi 16 458,vi 127 459,vi 0 460,vi 13 461,vi 7 462,vi 22 463,vi 0 464,vi 31 465,vi 16 466,vi 127 467,vi 0 468,vi 1 469]
noncomputable def o146:Obj:=qt [vn 14,vn 10,vn 4,vn 1,vn 1,vn 22,vn 0,vn 31,vn 16,vn 127,vn 0,vn 13,vn 7,vn 22,vn 0,vn 31,vn 16,vn 127,vn 0,vn 1]
noncomputable def o147:Obj:=Obj.mk (Value.type "re.Pattern") none (Data.fields #[vs "[\\x00-\\x1F\\x7F]" 448,vi 32 471,vn 0,vo,vo,vr 97,vn 0]) #[]
noncomputable def o148:Obj:=ql [vi 14 476,vi 14 477,vi 4 478,vi 1 479,vi 1 480,vi 9 481,vi 4294966783 482,vi 0 483,vi 0 484,vi 2147483648 485,vi 0 486,vi 0 487,vi 0 488,vi 0 489,vi 0 490,vi 13 491,vi 11 492,vi 9 493,vi 4294966783 494,vi 0 495,vi 0 496,vi 2147483648 497,vi 0 498,vi 0 499,vi 0 500,vi 0 501,vi 0 502,vi 1 503]
noncomputable def o151:Obj:=qt [vn 14,vn 14,vn 4,vn 1,vn 1,vn 9,vn 4294966783,vn 0,vn 0,vn 2147483648,vn 0,vn 0,vn 0,vn 0,vn 0,vn 13,vn 11,vn 9,vn 4294966783,vn 0,vn 0,vn 2147483648,vn 0,vn 0,vn 0,vn 0,vn 0,vn 1]
noncomputable def o152:Obj:=Obj.mk (Value.type "re.Pattern") none (Data.fields #[vs "[\\x00-\\x08\\x0A-\\x1F\\x7F]" 474,vi 32 505,vn 0,vo,vo,vr 102,vn 0]) #[]
noncomputable def o153:Obj:=qt [vo,vi 1 507]
noncomputable def o156:Obj:=qt [vs "param" 511,vs "value" 512,vs "quote" 513]
noncomputable def o158:Obj:=f0 (tp 20) "_formatparam"
noncomputable def o159:Obj:=wc [vs "_formatparam" 508,vs "_formatparam" 509,vs "/claim/cut.py" 510,vn 122,vn 3,vn 0,vn 0,vn 3,vr 105,vt,vn 276,vr 106,vo,vr 107,vr 108,vr 109,vn 514,vn 122,vs "/claim/cut.py" 515]
noncomputable def o160:Obj:=f1 (tp 20) "_formatparam" (vr 104) (vs "cpy313.wsgiref.headers" 411) (vr 110)
noncomputable def o161 (P:Params):Obj:=dd P [("__name__",165,vs "cpy313.wsgiref.headers" 411),("__doc__",166,vo),("__package__",167,vo),("__loader__",168,vb "__main__.__loader__#\x6fpaque"),("__spec__",169,vo),("__annotations__",170,vr 6),("__builtins__",171,vr 4),("__file__",173,vs "/claim/cut.py" 172),("__cached__",174,vo),("_sre",275,vr 12),("_wall",288,vr 38),("_iter_escaped_chars",300,vr 45),("_strip_quoted_realnames",312,vr 52),("_check_parenthesis",322,vr 59),("COMPILER_FLAG_NAMES",355,vr 60),("pretty_flags",365,vr 67),("_parse_varint",374,vr 74),("_MAX_STRING_SIZE",378,vi 40 377),("_MOVE_COST",380,vi 2 379),("_CASE_COST",382,vi 1 381),("_substitution_cost",390,vr 81),("_levenshtein_distance",410,vr 88),("tspecials",446,vr 93),("_name_disallowed_re",472,vr 98),("_value_disallowed_re",506,vr 103),("_formatparam",516,vr 111),("Headers",673,vr 232)] 27
noncomputable def o162:Obj:=wn [vn 2,vn 0,vr 37,vn 6,vn 0,vr 44,vn 19,vn 0,vr 51,vn 37,vn 0,vr 58,vn 50,vn 0,vr 66,vn 62,vn 0,vr 73,vn 74,vn 0,vr 80,vn 80,vn 0,vr 87,vn 122,vn 0,vr 110,vn 131,vn 0,vr 117]
noncomputable def o164:Obj:=Obj.mk (Value.type "builtin_function_or_method") none (Data.fields #[vb "type.__prepare__",Value.type "type"]) #[]
noncomputable def o165 (P:Params):Obj:=dd P [("__module__",524,vs "cpy313.wsgiref.headers" 411),("__qualname__",526,vs "Headers" 525),("__firstlineno__",528,vi 131 527),("__init__",538,vr 126),("_convert_string_type",548,vr 133),("__len__",555,vr 140),("__setitem__",564,vr 147),("__delitem__",570,vr 152),("__getitem__",578,vr 159),("__contains__",586,vr 166),("get_all",592,vr 171),("get",603,vr 179),("keys",609,vr 184),("values",615,vr 189),("items",622,vr 196),("__repr__",629,vr 203),("__str__",635,vr 208),("__bytes__",642,vr 215),("setdefault",651,vr 222),("add_header",664,vr 229),("__static_attributes__",666,vr 230)] 21
noncomputable def o167:Obj:=wn [vn 133,vn 4,vr 125,vn 143,vn 4,vr 132,vn 151,vn 4,vr 139,vn 154,vn 4,vr 146,vn 158,vn 4,vr 151,vn 162,vn 4,vr 158,vn 165,vn 4,vr 165,vn 168,vn 4,vr 170,vn 172,vn 4,vr 178,vn 179,vn 4,vr 183,vn 182,vn 4,vr 188,vn 185,vn 4,vr 195,vn 188,vn 4,vr 202,vn 191,vn 4,vr 207,vn 194,vn 4,vr 214,vn 197,vn 4,vr 221,vn 200,vn 4,vr 228]
noncomputable def o168:Obj:=wc [vs "Headers" 519,vs "Headers" 520,vs "/claim/cut.py" 521,vn 131,vn 0,vn 0,vn 0,vn 0,vr 115,vf,vn 276,vr 116,vo,vo,vo,vo,vn 522,vn 131,vs "/claim/cut.py" 523]
noncomputable def o169:Obj:=Obj.mk (Value.type "frame") none Data.plain #[some (vr 117),some (vr 3),some (vr 114),none,some (vs "cpy313.wsgiref.headers" 411),none,some (vr 0)]
noncomputable def o173:Obj:=qt [vs "self" 532,vs "headers" 533,vs "k" 534,vs "v" 535]
noncomputable def o175:Obj:=f0 (mt 0) "Headers.__init__"
noncomputable def o176:Obj:=wc [vs "__init__" 529,vs "Headers.__init__" 530,vs "/claim/cut.py" 531,vn 133,vn 2,vn 0,vn 0,vn 3,vr 120,vt,vn 276,vr 121,vo,vr 122,vr 123,vr 124,vn 536,vn 133,vs "/claim/cut.py" 537]
noncomputable def o177:Obj:=f1 (mt 0) "Headers.__init__" (vr 119) (vs "cpy313.wsgiref.headers" 411) (vr 125)
noncomputable def o180:Obj:=qt [vs "self" 542,vs "value" 543,vs "name" 544,vs "regex" 545]
noncomputable def o182:Obj:=f0 (mt 1) "Headers._convert_string_type"
noncomputable def o183:Obj:=wc [vs "_convert_string_type" 539,vs "Headers._convert_string_type" 540,vs "/claim/cut.py" 541,vn 143,vn 2,vn 0,vn 1,vn 3,vr 127,vt,vn 276,vr 128,vo,vr 129,vr 130,vr 131,vn 546,vn 143,vs "/claim/cut.py" 547]
noncomputable def o184:Obj:=f1 (mt 1) "Headers._convert_string_type" vo (vs "cpy313.wsgiref.headers" 411) (vr 132)
noncomputable def o187:Obj:=qt [vs "self" 552]
noncomputable def o189:Obj:=f0 (mt 2) "Headers.__len__"
noncomputable def o190:Obj:=wc [vs "__len__" 549,vs "Headers.__len__" 550,vs "/claim/cut.py" 551,vn 151,vn 1,vn 0,vn 0,vn 3,vr 134,vt,vn 276,vr 135,vo,vr 136,vr 137,vr 138,vn 553,vn 151,vs "/claim/cut.py" 554]
noncomputable def o191:Obj:=f1 (mt 2) "Headers.__len__" vo (vs "cpy313.wsgiref.headers" 411) (vr 139)
noncomputable def o194:Obj:=qt [vs "self" 559,vs "name" 560,vs "val" 561]
noncomputable def o196:Obj:=f0 (mt 3) "Headers.__setitem__"
noncomputable def o197:Obj:=wc [vs "__setitem__" 556,vs "Headers.__setitem__" 557,vs "/claim/cut.py" 558,vn 154,vn 3,vn 0,vn 0,vn 3,vr 141,vt,vn 276,vr 142,vo,vr 143,vr 144,vr 145,vn 562,vn 154,vs "/claim/cut.py" 563]
noncomputable def o198:Obj:=f1 (mt 3) "Headers.__setitem__" vo (vs "cpy313.wsgiref.headers" 411) (vr 146)
noncomputable def o201:Obj:=f0 (mt 4) "Headers.__delitem__"
noncomputable def o202:Obj:=wc [vs "__delitem__" 565,vs "Headers.__delitem__" 566,vs "/claim/cut.py" 567,vn 158,vn 2,vn 0,vn 0,vn 3,vr 148,vt,vn 276,vr 149,vo,vo,vo,vr 150,vn 568,vn 158,vs "/claim/cut.py" 569]
noncomputable def o203:Obj:=f1 (mt 4) "Headers.__delitem__" vo (vs "cpy313.wsgiref.headers" 411) (vr 151)
noncomputable def o206:Obj:=qt [vs "self" 574,vs "name" 575]
noncomputable def o208:Obj:=f0 (mt 5) "Headers.__getitem__"
noncomputable def o209:Obj:=wc [vs "__getitem__" 571,vs "Headers.__getitem__" 572,vs "/claim/cut.py" 573,vn 162,vn 2,vn 0,vn 0,vn 3,vr 153,vt,vn 276,vr 154,vo,vr 155,vr 156,vr 157,vn 576,vn 162,vs "/claim/cut.py" 577]
noncomputable def o210:Obj:=f1 (mt 5) "Headers.__getitem__" vo (vs "cpy313.wsgiref.headers" 411) (vr 158)
noncomputable def o213:Obj:=qt [vs "self" 582,vs "name" 583]
noncomputable def o215:Obj:=f0 (mt 6) "Headers.__contains__"
noncomputable def o216:Obj:=wc [vs "__contains__" 579,vs "Headers.__contains__" 580,vs "/claim/cut.py" 581,vn 165,vn 2,vn 0,vn 0,vn 3,vr 160,vt,vn 276,vr 161,vo,vr 162,vr 163,vr 164,vn 584,vn 165,vs "/claim/cut.py" 585]
noncomputable def o217:Obj:=f1 (mt 6) "Headers.__contains__" vo (vs "cpy313.wsgiref.headers" 411) (vr 165)
noncomputable def o220:Obj:=f0 (mt 7) "Headers.get_all"
noncomputable def o221:Obj:=wc [vs "get_all" 587,vs "Headers.get_all" 588,vs "/claim/cut.py" 589,vn 168,vn 2,vn 0,vn 0,vn 3,vr 167,vt,vn 276,vr 168,vo,vo,vo,vr 169,vn 590,vn 168,vs "/claim/cut.py" 591]
noncomputable def o222:Obj:=f1 (mt 7) "Headers.get_all" vo (vs "cpy313.wsgiref.headers" 411) (vr 170)
noncomputable def o226:Obj:=qt [vs "self" 596,vs "name" 597,vs "default" 598,vs "k" 599,vs "v" 600]
noncomputable def o228:Obj:=f0 (mt 8) "Headers.get"
noncomputable def o229:Obj:=wc [vs "get" 593,vs "Headers.get" 594,vs "/claim/cut.py" 595,vn 172,vn 3,vn 0,vn 0,vn 3,vr 173,vt,vn 276,vr 174,vo,vr 175,vr 176,vr 177,vn 601,vn 172,vs "/claim/cut.py" 602]
noncomputable def o230:Obj:=f1 (mt 8) "Headers.get" (vr 172) (vs "cpy313.wsgiref.headers" 411) (vr 178)
noncomputable def o233:Obj:=f0 (mt 9) "Headers.keys"
noncomputable def o234:Obj:=wc [vs "keys" 604,vs "Headers.keys" 605,vs "/claim/cut.py" 606,vn 179,vn 1,vn 0,vn 0,vn 3,vr 180,vt,vn 276,vr 181,vo,vo,vo,vr 182,vn 607,vn 179,vs "/claim/cut.py" 608]
noncomputable def o235:Obj:=f1 (mt 9) "Headers.keys" vo (vs "cpy313.wsgiref.headers" 411) (vr 183)
noncomputable def o238:Obj:=f0 (mt 10) "Headers.values"
noncomputable def o239:Obj:=wc [vs "values" 610,vs "Headers.values" 611,vs "/claim/cut.py" 612,vn 182,vn 1,vn 0,vn 0,vn 3,vr 185,vt,vn 276,vr 186,vo,vo,vo,vr 187,vn 613,vn 182,vs "/claim/cut.py" 614]
noncomputable def o240:Obj:=f1 (mt 10) "Headers.values" vo (vs "cpy313.wsgiref.headers" 411) (vr 188)
noncomputable def o243:Obj:=qt [vs "self" 619]
noncomputable def o245:Obj:=f0 (mt 11) "Headers.items"
noncomputable def o246:Obj:=wc [vs "items" 616,vs "Headers.items" 617,vs "/claim/cut.py" 618,vn 185,vn 1,vn 0,vn 0,vn 3,vr 190,vt,vn 276,vr 191,vo,vr 192,vr 193,vr 194,vn 620,vn 185,vs "/claim/cut.py" 621]
noncomputable def o247:Obj:=f1 (mt 11) "Headers.items" vo (vs "cpy313.wsgiref.headers" 411) (vr 195)
noncomputable def o250:Obj:=qt [vs "self" 626]
noncomputable def o252:Obj:=f0 (mt 12) "Headers.__repr__"
noncomputable def o253:Obj:=wc [vs "__repr__" 623,vs "Headers.__repr__" 624,vs "/claim/cut.py" 625,vn 188,vn 1,vn 0,vn 0,vn 3,vr 197,vt,vn 276,vr 198,vo,vr 199,vr 200,vr 201,vn 627,vn 188,vs "/claim/cut.py" 628]
noncomputable def o254:Obj:=f1 (mt 12) "Headers.__repr__" vo (vs "cpy313.wsgiref.headers" 411) (vr 202)
noncomputable def o257:Obj:=f0 (mt 13) "Headers.__str__"
noncomputable def o258:Obj:=wc [vs "__str__" 630,vs "Headers.__str__" 631,vs "/claim/cut.py" 632,vn 191,vn 1,vn 0,vn 0,vn 3,vr 204,vt,vn 276,vr 205,vo,vo,vo,vr 206,vn 633,vn 191,vs "/claim/cut.py" 634]
noncomputable def o259:Obj:=f1 (mt 13) "Headers.__str__" vo (vs "cpy313.wsgiref.headers" 411) (vr 207)
noncomputable def o262:Obj:=qt [vs "self" 639]
noncomputable def o264:Obj:=f0 (mt 14) "Headers.__bytes__"
noncomputable def o265:Obj:=wc [vs "__bytes__" 636,vs "Headers.__bytes__" 637,vs "/claim/cut.py" 638,vn 194,vn 1,vn 0,vn 0,vn 3,vr 209,vt,vn 276,vr 210,vo,vr 211,vr 212,vr 213,vn 640,vn 194,vs "/claim/cut.py" 641]
noncomputable def o266:Obj:=f1 (mt 14) "Headers.__bytes__" vo (vs "cpy313.wsgiref.headers" 411) (vr 214)
noncomputable def o269:Obj:=qt [vs "self" 646,vs "name" 647,vs "value" 648]
noncomputable def o271:Obj:=f0 (mt 15) "Headers.setdefault"
noncomputable def o272:Obj:=wc [vs "setdefault" 643,vs "Headers.setdefault" 644,vs "/claim/cut.py" 645,vn 197,vn 3,vn 0,vn 0,vn 3,vr 216,vt,vn 276,vr 217,vo,vr 218,vr 219,vr 220,vn 649,vn 197,vs "/claim/cut.py" 650]
noncomputable def o273:Obj:=f1 (mt 15) "Headers.setdefault" vo (vs "cpy313.wsgiref.headers" 411) (vr 221)
noncomputable def o276:Obj:=qt [vs "self" 655,vs "_name" 656,vs "_value" 657,vs "_params" 658,vs "parts" 659,vs "k" 660,vs "v" 661]
noncomputable def o278:Obj:=f0 (mt 16) "Headers.add_header"
noncomputable def o279:Obj:=wc [vs "add_header" 652,vs "Headers.add_header" 653,vs "/claim/cut.py" 654,vn 200,vn 3,vn 0,vn 0,vn 11,vr 223,vt,vn 276,vr 224,vo,vr 225,vr 226,vr 227,vn 662,vn 200,vs "/claim/cut.py" 663]
noncomputable def o280:Obj:=f1 (mt 16) "Headers.add_header" vo (vs "cpy313.wsgiref.headers" 411) (vr 228)
noncomputable def o281:Obj:=qt [vs "_headers" 665]
noncomputable def o282 (P:Params):Obj:=dd P [("__module__",524,vs "cpy313.wsgiref.headers" 411),("__firstlineno__",528,vi 131 527),("__init__",538,vr 126),("_convert_string_type",548,vr 133),("__len__",555,vr 140),("__setitem__",564,vr 147),("__delitem__",570,vr 152),("__getitem__",578,vr 159),("__contains__",586,vr 166),("get_all",592,vr 171),("get",603,vr 179),("keys",609,vr 184),("values",615,vr 189),("items",622,vr 196),("__repr__",629,vr 203),("__str__",635,vr 208),("__bytes__",642,vr 215),("setdefault",651,vr 222),("add_header",664,vr 229),("__static_attributes__",666,vr 230),("__dict__",668,vr 233),("__weakref__",670,vr 234),("__doc__",671,vo)] 4
noncomputable def o283:Obj:=Obj.mk (Value.type "type") none (Data.cls (ClassData.mk (Str.ofString "Headers") [Value.type "object"] [vr 232,Value.type "object"] 231 (Str.ofString "Headers") true [] [] false none false)) #[none,none,some (vs "Headers" 517),some (vs "Headers" 525),some (vb "object.__new__"),some vt]
noncomputable def o284:Obj:=wg [vs "__dict__" 667,vr 232,vb "function.__dict__",vb "function.__dict__#set"]
noncomputable def o285:Obj:=wg [vs "__weakref__" 669,vr 232,vb "ExceptionGroup.__weakref__",vo]
noncomputable def o286:Obj:=Obj.mk (Value.type "super") none (Data.fields #[vr 232,vr 232,vr 232]) #[]
noncomputable def o287:Obj:=Obj.mk (Value.type "builtin_function_or_method") none (Data.fields #[vb "object.__init_subclass__",vr 232]) #[]
noncomputable def o371 (P:Params):Obj:=dd P [("__name__",165,vs "law_wn0117_01" 674),("__doc__",166,vo),("__package__",167,vo),("__loader__",168,vb "__main__.__loader__#\x6fpaque"),("__spec__",169,vo),("__annotations__",170,vr 6),("__builtins__",171,vr 4),("__file__",173,vs "/claim/cut.py" 172),("__cached__",174,vo),("_sre",275,vr 12),("_wall",288,vr 38),("_iter_escaped_chars",300,vr 45),("_strip_quoted_realnames",312,vr 52),("_check_parenthesis",322,vr 59),("COMPILER_FLAG_NAMES",355,vr 60),("pretty_flags",365,vr 67),("_parse_varint",374,vr 74),("_MAX_STRING_SIZE",378,vi 40 377),("_MOVE_COST",380,vi 2 379),("_CASE_COST",382,vi 1 381),("_substitution_cost",390,vr 81),("_levenshtein_distance",410,vr 88),("tspecials",446,vr 93),("_name_disallowed_re",472,vr 98),("_value_disallowed_re",506,vr 103),("_formatparam",516,vr 111),("Headers",673,vr 232),("_law_cells",684,vr 243),("_law_words",695,vr 250),("_law_order",706,vr 257),("_law_ones",712,vr 262),("_law_sized",720,vr 269),("_law_octets",728,vr 276),("_law_rows",743,vr 283),("_law_word",749,vr 288),("_law_tied",763,vr 295),("_law_way",769,vr 300),("law",775,vr 305)] 38
noncomputable def o372:Obj:=wn [vn 2,vn 0,vr 37,vn 6,vn 0,vr 44,vn 19,vn 0,vr 51,vn 37,vn 0,vr 58,vn 50,vn 0,vr 66,vn 62,vn 0,vr 73,vn 74,vn 0,vr 80,vn 80,vn 0,vr 87,vn 122,vn 0,vr 110,vn 131,vn 0,vr 117,vn 214,vn 0,vr 242,vn 219,vn 0,vr 249,vn 228,vn 0,vr 256,vn 237,vn 0,vr 261,vn 239,vn 0,vr 268,vn 243,vn 0,vr 275,vn 249,vn 0,vr 282,vn 267,vn 0,vr 287,vn 270,vn 0,vr 294,vn 282,vn 0,vr 299,vn 309,vn 0,vr 304]
noncomputable def o375:Obj:=qt [vs "script" 679,vs "cells" 680,vs "place" 681]
noncomputable def o377:Obj:=f0 (tp 23) "_law_cells"
noncomputable def o378:Obj:=wc [vs "_law_cells" 676,vs "_law_cells" 677,vs "/claim/cut.py" 678,vn 214,vn 1,vn 0,vn 0,vn 3,vr 237,vt,vn 276,vr 238,vo,vr 239,vr 240,vr 241,vn 682,vn 214,vs "/claim/cut.py" 683]
noncomputable def o379:Obj:=f1 (tp 23) "_law_cells" vo (vs "law_wn0117_01" 674) (vr 242)
noncomputable def o382:Obj:=qt [vs "places" 688,vs "low" 689,vs "names" 690,vs "words" 691,vs "place" 692]
noncomputable def o384:Obj:=f0 (tp 24) "_law_words"
noncomputable def o385:Obj:=wc [vs "_law_words" 685,vs "_law_words" 686,vs "/claim/cut.py" 687,vn 219,vn 2,vn 0,vn 0,vn 3,vr 244,vt,vn 276,vr 245,vo,vr 246,vr 247,vr 248,vn 693,vn 219,vs "/claim/cut.py" 694]
noncomputable def o386:Obj:=f1 (tp 24) "_law_words" vo (vs "law_wn0117_01" 674) (vr 249)
noncomputable def o389:Obj:=qt [vs "words" 699,vs "draw" 700,vs "rest" 701,vs "order" 702,vs "place" 703]
noncomputable def o391:Obj:=f0 (tp 25) "_law_order"
noncomputable def o392:Obj:=wc [vs "_law_order" 696,vs "_law_order" 697,vs "/claim/cut.py" 698,vn 228,vn 2,vn 0,vn 0,vn 3,vr 251,vt,vn 276,vr 252,vo,vr 253,vr 254,vr 255,vn 704,vn 228,vs "/claim/cut.py" 705]
noncomputable def o393:Obj:=f1 (tp 25) "_law_order" vo (vs "law_wn0117_01" 674) (vr 256)
noncomputable def o396:Obj:=f0 (tp 26) "_law_ones"
noncomputable def o397:Obj:=wc [vs "_law_ones" 707,vs "_law_ones" 708,vs "/claim/cut.py" 709,vn 237,vn 1,vn 0,vn 0,vn 3,vr 258,vt,vn 276,vr 259,vo,vo,vo,vr 260,vn 710,vn 237,vs "/claim/cut.py" 711]
noncomputable def o398:Obj:=f1 (tp 26) "_law_ones" vo (vs "law_wn0117_01" 674) (vr 261)
noncomputable def o401:Obj:=qt [vs "text" 716,vs "turn" 717]
noncomputable def o403:Obj:=f0 (tp 27) "_law_sized"
noncomputable def o404:Obj:=wc [vs "_law_sized" 713,vs "_law_sized" 714,vs "/claim/cut.py" 715,vn 239,vn 2,vn 0,vn 0,vn 3,vr 263,vt,vn 276,vr 264,vo,vr 265,vr 266,vr 267,vn 718,vn 239,vs "/claim/cut.py" 719]
noncomputable def o405:Obj:=f1 (tp 27) "_law_sized" vo (vs "law_wn0117_01" 674) (vr 268)
noncomputable def o408:Obj:=qt [vs "number" 724,vs "signs" 725]
noncomputable def o410:Obj:=f0 (tp 28) "_law_octets"
noncomputable def o411:Obj:=wc [vs "_law_octets" 721,vs "_law_octets" 722,vs "/claim/cut.py" 723,vn 243,vn 1,vn 0,vn 0,vn 3,vr 270,vt,vn 276,vr 271,vo,vr 272,vr 273,vr 274,vn 726,vn 243,vs "/claim/cut.py" 727]
noncomputable def o412:Obj:=f1 (tp 28) "_law_octets" vo (vs "law_wn0117_01" 674) (vr 275)
noncomputable def o415:Obj:=qt [vs "places" 732,vs "ahead" 733,vs "draw" 734,vs "rows" 735,vs "two" 736,vs "one" 737,vs "text" 738,vs "place" 739,vs "closes" 740]
noncomputable def o417:Obj:=f0 (tp 29) "_law_rows"
noncomputable def o418:Obj:=wc [vs "_law_rows" 729,vs "_law_rows" 730,vs "/claim/cut.py" 731,vn 249,vn 3,vn 0,vn 0,vn 3,vr 277,vt,vn 276,vr 278,vo,vr 279,vr 280,vr 281,vn 741,vn 249,vs "/claim/cut.py" 742]
noncomputable def o419:Obj:=f1 (tp 29) "_law_rows" vo (vs "law_wn0117_01" 674) (vr 282)
noncomputable def o422:Obj:=f0 (tp 30) "_law_word"
noncomputable def o423:Obj:=wc [vs "_law_word" 744,vs "_law_word" 745,vs "/claim/cut.py" 746,vn 267,vn 2,vn 0,vn 0,vn 3,vr 284,vt,vn 276,vr 285,vo,vo,vo,vr 286,vn 747,vn 267,vs "/claim/cut.py" 748]
noncomputable def o424:Obj:=f1 (tp 30) "_law_word" vo (vs "law_wn0117_01" 674) (vr 287)
noncomputable def o427:Obj:=qt [vs "rows" 753,vs "names" 754,vs "places" 755,vs "more" 756,vs "ties" 757,vs "one" 758,vs "two" 759,vs "due" 760]
noncomputable def o429:Obj:=f0 (tp 31) "_law_tied"
noncomputable def o430:Obj:=wc [vs "_law_tied" 750,vs "_law_tied" 751,vs "/claim/cut.py" 752,vn 270,vn 5,vn 0,vn 0,vn 3,vr 289,vt,vn 276,vr 290,vo,vr 291,vr 292,vr 293,vn 761,vn 270,vs "/claim/cut.py" 762]
noncomputable def o431:Obj:=f1 (tp 31) "_law_tied" vo (vs "law_wn0117_01" 674) (vr 294)
noncomputable def o434:Obj:=f0 (tp 32) "_law_way"
noncomputable def o435:Obj:=wc [vs "_law_way" 764,vs "_law_way" 765,vs "/claim/cut.py" 766,vn 282,vn 8,vn 0,vn 0,vn 3,vr 296,vt,vn 276,vr 297,vo,vo,vo,vr 298,vn 767,vn 282,vs "/claim/cut.py" 768]
noncomputable def o436:Obj:=f1 (tp 32) "_law_way" vo (vs "law_wn0117_01" 674) (vr 299)
noncomputable def o439:Obj:=f0 (tp 33) "law"
noncomputable def o440:Obj:=wc [vs "law" 770,vs "law" 771,vs "/claim/cut.py" 772,vn 309,vn 1,vn 0,vn 0,vn 3,vr 301,vt,vn 276,vr 302,vo,vo,vo,vr 303,vn 773,vn 309,vs "/claim/cut.py" 774]
noncomputable def o441:Obj:=f1 (tp 33) "law" vo (vs "law_wn0117_01" 674) (vr 304)
noncomputable def h68 (P:Params):Heap:=⟨⟨[o41 P,o42 P,o43 P,o44 P,o45,o46,o47 P,qt [],wn [],o50,o51,o52 P,o53,o54 P,o55,qt [],o57,o58,o59,ql [],o61 P,o62 P,o63,o64,o65,o66,o67,o68]⟩,{}⟩
noncomputable def t73 (P:Params):W.BT:=n (o41 P) (n (o42 P) (n (o44 P) (n (qt []) (n (qt []) (y o72) X) (y o64)) (n (o52 P) (y (ql [])) (y o68))) (n o46 (n o50 (y o58) (y o66)) (n (o54 P) (y (o62 P)) (y (wn []))))) (n (o43 P) (n o45 (n (wn []) (y o57) (y o65)) (n o53 (y (o61 P)) (y (qt [])))) (n (o47 P) (n o51 (y o59) (y o67)) (n o55 (y o63) (y o71))))
noncomputable def t119 (P:Params):W.BT:=n (o41 P) (n (o42 P) (n (o75 P) (n (qt []) (n (qt []) (n o72 (y o108) X) (y (wn []))) (n o64 (n (qt []) (y (qt [])) X) (y o100))) (n (o52 P) (n (ql []) (n (qt []) (y o112) X) (y o96)) (n o68 (y o88) (y o104)))) (n o46 (n o50 (n o58 (n (wn []) (y o110) X) (y (qt []))) (n o66 (n o86 (y o118) X) (y o102))) (n (o54 P) (n (o62 P) (n o82 (y (wn [])) X) (y (qt []))) (n o76 (y o90) (y (qt [])))))) (n (o43 P) (n o45 (n (wn []) (n o57 (n (qt []) (y (qt [])) X) (y o93)) (n o65 (n (wn []) (y o117) X) (y (qt [])))) (n o53 (n (o61 P) (n o81 (y (qt [])) X) (y o97)) (n (qt []) (y o89) (y o105)))) (n (o47 P) (n o51 (n o59 (n o79 (y o111) X) (y o95)) (n o67 (n (qt []) (y o119) X) (y o103))) (n o55 (n o63 (n o83 (y o115) X) (y (wn []))) (n o71 (y (qt [])) (y (wn []))))))
noncomputable def t160 (P:Params):W.BT:=n (o41 P) (n (o42 P) (n (o122 P) (n (qt []) (n (qt []) (n o72 (y o108) (y (o47 P))) (n (wn []) (y o128) (y o160))) (n o64 (n (qt []) (y (qt [])) (y o152)) (n o100 (y o136) X))) (n (o52 P) (n (ql []) (n (qt []) (y o112) (y o148)) (n o96 (y (wn [])) X)) (n o68 (n o88 (y (qt [])) (y o156)) (n o104 (y (qt [vo])) X)))) (n o46 (n o50 (n o58 (n (wn []) (y o110) (y o146)) (n (qt []) (y o130) X)) (n o66 (n o86 (y o118) (y (qt []))) (n o102 (y o138) X))) (n (o54 P) (n (o62 P) (n o82 (y (wn [])) (y (qt [vo]))) (n (qt []) (y (qt [])) X)) (n o123 (n o90 (y o126) (y o158)) (n (qt []) (y o142) X))))) (n (o43 P) (n o45 (n (wn []) (n o57 (n (qt []) (y (qt [])) (y (qt [vo]))) (n o93 (y o129) X)) (n o65 (n (wn []) (y o117) (y o153)) (n (qt []) (y o137) X))) (n o53 (n (o61 P) (n o81 (y (qt [])) (y (o47 P))) (n o97 (y o133) X)) (n (qt []) (n o89 (y (wn [])) (y (qt []))) (n o105 (y o141) X)))) (n (o47 P) (n o51 (n o59 (n o79 (y o111) (y o147)) (n o95 (y (qt [])) X)) (n o67 (n (qt []) (y o119) (y (wn []))) (n o103 (y (o47 P)) X))) (n o55 (n o63 (n o83 (y o115) (y o151)) (n (wn []) (y o135) X)) (n o71 (n (qt []) (y (qt [])) (y o159)) (n (wn []) (y o143) X)))))
noncomputable def t287 (P:Params):W.BT:=n (o41 P) (n (o42 P) (n (o161 P) (n (qt []) (n (qt []) (n o72 (n o108 (y (qt [])) (y (wn []))) (n (o47 P) (y o210) (y (qt [])))) (n (wn []) (n o128 (y o194) (y o258)) (n o160 (y o226) X))) (n o64 (n (qt []) (n (qt []) (y (wn [])) (y o250)) (n o152 (y (qt [])) (y (o282 P)))) (n o100 (n o136 (y o202) (y o266)) (n (qt [vo]) (y o234) X)))) (n (o52 P) (n (ql []) (n (qt []) (n o112 (y o182) (y o246)) (n o148 (y (qt [])) (y o278))) (n o96 (n (wn []) (y o198) (y o262)) (n (qt []) (y o230) X))) (n o68 (n o88 (n (qt []) (y o190) (y o254)) (n o156 (y o222) (y o286))) (n o104 (n (qt [vo]) (y o206) (y (qt []))) (n (qt []) (y o238) X))))) (n o46 (n o50 (n o58 (n (wn []) (n o110 (y o180) (y (qt []))) (n o146 (y (wn [])) (y o276))) (n (qt []) (n o130 (y o196) (y (qt []))) (n o164 (y o228) X))) (n o66 (n o86 (n o118 (y (qt [])) (y o252)) (n (qt []) (y o220) (y o284))) (n o102 (n o138 (y (qt [])) (y (wn []))) (n (wn []) (y (qt [])) X)))) (n (o54 P) (n (o62 P) (n o82 (n (wn []) (y o184) (y (qt []))) (n (qt [vo]) (y o216) (y o280))) (n (qt []) (n (qt []) (y (wn [])) (y o264)) (n o168 (y (wn [])) X))) (n o162 (n o90 (n o126 (y (qt [])) (y (wn []))) (n o158 (y (qt [])) X)) (n (qt []) (n o142 (y o208) (y o272)) (n o176 (y o240) X)))))) (n (o43 P) (n o45 (n (wn []) (n o57 (n (qt []) (n (qt []) (y (wn [])) (y o243)) (n (qt [vo]) (y (qt [])) (y (wn [])))) (n o93 (n o129 (y (qt [])) (y o259)) (n (qt []) (y (qt [])) X))) (n o65 (n (wn []) (n o117 (y o187) (y (qt []))) (n o153 (y (wn [])) (y o283))) (n (qt []) (n o137 (y o203) (y (qt []))) (n (qt []) (y o235) X)))) (n o53 (n (o61 P) (n o81 (n (qt []) (y o183) (y o247)) (n (o47 P) (y o215) (y o279))) (n o97 (n o133 (y (qt [])) (y (qt []))) (n o167 (y (qt [])) X))) (n (qt []) (n o89 (n (wn []) (y o191) (y (qt []))) (n (qt []) (y (qt [vo])) (y o287))) (n o105 (n o141 (y (qt [])) (y o271)) (n o175 (y o239) X))))) (n (o47 P) (n o51 (n o59 (n o79 (n o111 (y (qt [])) (y o245)) (n o147 (y o213) (y (qt [])))) (n o95 (n (qt []) (y o197) (y (wn []))) (n (o165 P) (y o229) X))) (n o67 (n (qt []) (n o119 (y o189) (y o253)) (n (wn []) (y o221) (y o285))) (n o103 (n (o47 P) (y (wn [])) (y o269)) (n o173 (y (wn [])) X)))) (n o55 (n o63 (n o83 (n o115 (y (qt [])) (y (wn []))) (n o151 (y o217) (y o281))) (n (wn []) (n o135 (y o201) (y o265)) (n o169 (y o233) X))) (n o71 (n (qt []) (n (qt []) (y (wn [])) (y o257)) (n o159 (y (wn [])) X)) (n (wn []) (n o143 (y o209) (y o273)) (n o177 (y (qt [])) X))))))
noncomputable def t442 (P:Params):W.BT:=n (o41 P) (n (o42 P) (n (o371 P) (n (qt []) (n (qt []) (n o72 (n o108 (n (qt []) (y o391) X) (y (wn []))) (n (o47 P) (n o210 (y o423) X) (y (qt [])))) (n (wn []) (n o128 (n o194 (y (wn [])) X) (y o258)) (n o160 (n o226 (y o439) X) (y o375)))) (n o64 (n (qt []) (n (qt []) (n (wn []) (y (qt [])) X) (y o250)) (n o152 (n (qt []) (y o431) X) (y (o282 P)))) (n o100 (n o136 (n o202 (y o415) X) (y o266)) (n (qt [vo]) (y o234) (y (qt [])))))) (n (o52 P) (n (ql []) (n (qt []) (n o112 (n o182 (y (wn [])) X) (y o246)) (n o148 (n (qt []) (y o427) X) (y o278))) (n o96 (n (wn []) (n o198 (y o411) X) (y o262)) (n (qt []) (y o230) (y o379)))) (n o68 (n o88 (n (qt []) (n o190 (y o403) X) (y o254)) (n o156 (n o222 (y o435) X) (y o286))) (n o104 (n (qt [vo]) (n o206 (y o419) X) (y (qt []))) (n (qt []) (y o238) (y (qt []))))))) (n o46 (n o50 (n o58 (n (wn []) (n o110 (n o180 (y o393) X) (y (qt []))) (n o146 (n (wn []) (y (qt [])) X) (y o276))) (n (qt []) (n o130 (n o196 (y (qt [])) X) (y (qt []))) (n o164 (n o228 (y o441) X) (y o377)))) (n o66 (n o86 (n o118 (n (qt []) (y o401) X) (y o252)) (n (qt []) (n o220 (y (wn [])) X) (y o284))) (n o102 (n o138 (n (qt []) (y o417) X) (y (wn []))) (n (wn []) (y (qt [])) (y o385))))) (n (o54 P) (n (o62 P) (n o82 (n (wn []) (n o184 (y o397) X) (y (qt []))) (n (qt [vo]) (n o216 (y o429) X) (y o280))) (n (qt []) (n (qt []) (n (wn []) (y (qt [])) X) (y o264)) (n o168 (y (wn [])) (y (wn []))))) (n o372 (n o90 (n o126 (n (qt []) (y o405) X) (y (wn []))) (n o158 (n (qt []) (y (qt [])) X) (y (qt [])))) (n (qt []) (n o142 (n o208 (y (wn [])) X) (y o272)) (n o176 (y o240) (y o389))))))) (n (o43 P) (n o45 (n (wn []) (n o57 (n (qt []) (n (qt []) (n (wn []) (y o392) X) (y o243)) (n (qt [vo]) (n (qt []) (y o424) X) (y (wn [])))) (n o93 (n o129 (n (qt []) (y o408) X) (y o259)) (n (qt []) (n (qt []) (y o440) X) (y (qt []))))) (n o65 (n (wn []) (n o117 (n o187 (y (wn [])) X) (y (qt []))) (n o153 (n (wn []) (y (qt [])) X) (y o283))) (n (qt []) (n o137 (n o203 (y (qt [])) X) (y (qt []))) (n (qt []) (y o235) (y o384))))) (n o53 (n (o61 P) (n o81 (n (qt []) (n o183 (y o396) X) (y o247)) (n (o47 P) (n o215 (y (qt [])) X) (y o279))) (n o97 (n o133 (n (qt []) (y o412) X) (y (qt []))) (n o167 (y (qt [])) (y (qt []))))) (n (qt []) (n o89 (n (wn []) (n o191 (y o404) X) (y (qt []))) (n (qt []) (n (qt [vo]) (y o436) X) (y o287))) (n o105 (n o141 (n (qt []) (y (qt [])) X) (y o271)) (n o175 (y o239) (y (wn []))))))) (n (o47 P) (n o51 (n o59 (n o79 (n o111 (n (qt []) (y (qt [])) X) (y o245)) (n o147 (n o213 (y (wn [])) X) (y (qt [])))) (n o95 (n (qt []) (n o197 (y o410) X) (y (wn []))) (n (o165 P) (y o229) (y o378)))) (n o67 (n (qt []) (n o119 (n o189 (y (qt [])) X) (y o253)) (n (wn []) (n o221 (y o434) X) (y o285))) (n o103 (n (o47 P) (n (wn []) (y o418) X) (y o269)) (n o173 (y (wn [])) (y o386))))) (n o55 (n o63 (n o83 (n o115 (n (qt []) (y o398) X) (y (wn []))) (n o151 (n o217 (y o430) X) (y o281))) (n (wn []) (n o135 (n o201 (y (wn [])) X) (y o265)) (n o169 (y o233) (y o382)))) (n o71 (n (qt []) (n (qt []) (n (wn []) (y (qt [])) X) (y o257)) (n o159 (n (wn []) (y (wn [])) X) (y (wn [])))) (n (wn []) (n o143 (n o209 (y o422) X) (y o273)) (n o177 (y (qt [])) (y (qt []))))))))
noncomputable def h442 (P:Params):Heap:=⟨⟨[o41 P,o42 P,o43 P,o371 P,o45,o46,o47 P,qt [],wn [],o50,o51,o52 P,o53,o54 P,o55,qt [],o57,o58,o59,ql [],o61 P,o62 P,o63,o64,o65,o66,o67,o68,qt [],o372,o71,o72,qt [],wn [],o79,qt [],o81,o82,o83,qt [],wn [],o86,qt [],o88,o89,o90,qt [],wn [],o93,qt [],o95,o96,o97,qt [],wn [],o100,qt [],o102,o103,o104,o105,qt [],wn [],o108,qt [],o110,o111,o112,qt [],wn [],o115,qt [],o117,o118,o119,qt [],wn [],o126,qt [],o128,o129,o130,qt [],wn [],o133,qt [],o135,o136,o137,o138,o47 P,qt [vo],o141,o142,o143,o47 P,qt [vo],o146,o147,o148,o47 P,qt [vo],o151,o152,o153,qt [],wn [],o156,qt [],o158,o159,o160,qt [],o164,o165 P,qt [],o167,o168,o169,qt [vo],qt [],wn [],o173,qt [],o175,o176,o177,qt [],wn [],o180,qt [],o182,o183,o184,qt [],wn [],o187,qt [],o189,o190,o191,qt [],wn [],o194,qt [],o196,o197,o198,qt [],wn [],o201,o202,o203,qt [],wn [],o206,qt [],o208,o209,o210,qt [],wn [],o213,qt [],o215,o216,o217,qt [],wn [],o220,o221,o222,qt [vo],qt [],wn [],o226,qt [],o228,o229,o230,qt [],wn [],o233,o234,o235,qt [],wn [],o238,o239,o240,qt [],wn [],o243,qt [],o245,o246,o247,qt [],wn [],o250,qt [],o252,o253,o254,qt [],wn [],o257,o258,o259,qt [],wn [],o262,qt [],o264,o265,o266,qt [],wn [],o269,qt [],o271,o272,o273,qt [],wn [],o276,qt [],o278,o279,o280,o281,o282 P,o283,o284,o285,o286,o287,qt [],wn [],o375,qt [],o377,o378,o379,qt [],wn [],o382,qt [],o384,o385,o386,qt [],wn [],o389,qt [],o391,o392,o393,qt [],wn [],o396,o397,o398,qt [],wn [],o401,qt [],o403,o404,o405,qt [],wn [],o408,qt [],o410,o411,o412,qt [],wn [],o415,qt [],o417,o418,o419,qt [],wn [],o422,o423,o424,qt [],wn [],o427,qt [],o429,o430,o431,qt [],wn [],o434,o435,o436,qt [],wn [],o439,o440,o441]⟩,{}⟩
end H
end
end Mine
end
section
set_option maxRecDepth 100000
set_option maxHeartbeats 0
open PySem PySem.W
namespace Mine
namespace H
section
noncomputable def env:Env:=⟨theProg.main.scope,mainNs,mainNs,[],Str.empty,none,.ref 30,some 31,0⟩
noncomputable def Z:Pos:=(pq 0 0 0)
noncomputable def S1:List Stmt:=(theProg.main.body.drop 1).take 13
noncomputable def S2:List Stmt:=(theProg.main.body.drop 14).take 7
noncomputable def S3:List Stmt:=(theProg.main.body.drop 21).take 1
noncomputable def S4:List Stmt:=(theProg.main.body.drop 22).take 12
noncomputable def bod:List Stmt:=S1++(S2++(S3++(S4++[])))
noncomputable def cd:Code:=.body bod env
noncomputable def sT (t:BT) (n k:Nat) (os:OsState):SharedT:=⟨t,n,{},#[],{},k,os⟩
noncomputable def seg (p:Program) (w:World) (k:Nat) (s:SharedT) (l:List Stmt) (q:Pos):=segRunT treeTable p w 28 (some (.ref 6)) 1 k s (piecesOf l env cd q [topFrame Z])
theorem open_:∀w:World,(fencedOpening treeTable theProg w 3706).map (fun s=>(s.heap,s.gens,s.drawn,s.toks))=some (h68 w.params,#[],{},276):=fun w=>by kernel_rfl
end
section
theorem size_:∀w:World,((h68 w.params).isNs mainGlobals&&(#[]:Array GenState).size==0,(h68 w.params).objs.size,(h68 w.params).nsMap mainGlobals "__annotations__")=(true,28,some (.ref 6)):=fun w=>by kernel_rfl
theorem top_:∀(w:World) (os:OsState),topGo treeTable theProg w 28 (some (.ref 6)) 12 ⟨h68 w.params,#[],{},276,os⟩ (topStub theProg)=some ((sT (t73 w.params) 32 282 os).abs,⟨denote treeTable cd,cd,Z,[topFrame Z]⟩):=fun w os=>by kernel_rfl
theorem blk_:∀(w:World) (os:OsState),segRun treeTable theProg w 28 (some (.ref 6)) 1 1 (sT (t73 w.params) 32 282 os).abs (blockOf bod env cd Z [topFrame Z])=some (.next,(sT (t73 w.params) 32 282 os).abs,cd,Z):=fun w os=>by kernel_rfl
theorem s1f:∀(w:World) (os:OsState),seg theProg (w.withFollow "special-get-raises" false) 385 (sT (t73 (w.withFollow "special-get-raises" false).params) 32 282 os) S1 Z=some (.next,sT (t119 (w.withFollow "special-get-raises" false).params) 75 383 os,cd,(pq 73 0 10)):=fun w os=>by kernel_rfl
theorem s1t:∀(w:World) (os:OsState),seg theProg (w.withFollow "special-get-raises" true) 385 (sT (t73 (w.withFollow "special-get-raises" true).params) 32 282 os) S1 Z=some (.next,sT (t119 (w.withFollow "special-get-raises" true).params) 75 383 os,cd,(pq 73 0 10)):=fun w os=>by kernel_rfl
end
section
theorem s2:∀(w:World) (os:OsState),seg theProg w 338 (sT (t119 w.params) 75 383 os) S2 (pq 73 0 10)=some (.next,sT (t160 w.params) 112 517 os,cd,⟨122,0,130,20⟩):=fun w os=>by kernel_rfl
theorem s4:∀(w:World) (os:OsState),seg theProg w 344 (sT (t287 w.params) 237 674 os) S4 ⟨131,0,212,93⟩=some (.next,sT (t442 w.params) 306 776 os,cd,⟨309,0,333,115⟩):=fun w os=>by kernel_rfl
theorem fin_:∀(w:World) (os:OsState),topRun treeTable theProg w 28 (some (.ref 6)) 2 (sT (t442 w.params) 306 776 os).abs (restOf [] env cd ⟨309,0,333,115⟩ [topFrame Z])=some ⟨h442 w.params,#[],{},776,os⟩:=fun w os=>by kernel_rfl
end
section
theorem s3:∀(w:World) (os:OsState),seg theProg w 727 (sT (t160 w.params) 112 517 os) S3 ⟨122,0,130,20⟩=some (.next,sT (t287 w.params) 237 674 os,cd,⟨131,0,212,93⟩):=fun w os=>by kernel_rfl
end
end H
end Mine
end
section
set_option maxRecDepth 100000
set_option maxHeartbeats 0
open PySem PySem.W PyProof.Rows
namespace Mine
namespace H
section
noncomputable def q:Program:={theProg with main:={theProg.main with body:=theProg.main.body.drop 33}}
noncomputable def loose:List Str:=["_sre","_wall","_iter_escaped_chars","_strip_quoted_realnames","_check_parenthesis","COMPILER_FLAG_NAMES","pretty_flags","_parse_varint","_MAX_STRING_SIZE","_MOVE_COST","_CASE_COST","_substitution_cost","_levenshtein_distance","tspecials","_name_disallowed_re","_value_disallowed_re","_formatparam","Headers","_law_cells","_law_words","_law_order","_law_ones","_law_sized","_law_octets","_law_rows","_law_word","_law_tied","_law_way"]
theorem seg_run {p:Program} {w:World} {os:OsState} {k:Nat} {t t':BT} {n n' u u':Nat} {l:List Stmt} {a b:Pos} {c:Code} (h:seg p w k (sT t n u os) l a=some (.next,sT t' n' u' os,c,b)):segRun treeTable p w 28 (some (.ref 6)) 1 k (sT t n u os).abs (piecesOf l env cd a [topFrame Z])=some (.next,(sT t' n' u' os).abs,c,b):=segRun_of h
theorem s1 (w:World) (os:OsState):seg theProg w 385 (sT (t73 w.params) 32 282 os) S1 Z=some (.next,sT (t119 w.params) 75 383 os,cd,(pq 73 0 10)):=by
 have e:=World.withFollow_self w "special-get-raises"
 cases hb:w.params.followText "special-get-raises" <;>rw [hb] at e
 ·have:=s1f w os;rw [e] at this;exact this
 ·have:=s1t w os;rw [e] at this;exact this
theorem run_ (w:World) (os:OsState):topRun treeTable theProg w 28 (some (.ref 6)) (12+(1+(385+(338+(727+(344+2)))))) ⟨h68 w.params,#[],{},276,os⟩ (topStub theProg)=some ⟨h442 w.params,#[],{},776,os⟩:=
 go_top (top_ w os) (piece_block (blk_ w os) (piece_app (l:=S1) (rest:=S2++(S3++(S4++[]))) (seg_run (s1 w os)) (piece_app (l:=S2) (rest:=S3++(S4++[])) (seg_run (s2 w os)) (piece_app (l:=S3) (rest:=S4++[]) (seg_run (s3 w os)) (piece_app (l:=S4) (rest:=[]) (seg_run (s4 w os)) (fin_ w os))))))
theorem looks_:∀w:World,(fun os=>((staticsOk (importedModules theProg.main.body) (h68 w.params) (h442 w.params)&&namesBound theProg (h442 w.params)&&gensDone ⟨h442 w.params,#[],{},776,os⟩&&laidKept (h68 w.params) (h442 w.params)),
    openSeen q loose (importedModules theProg.main.body) (fun _=>true) true ⟨h442 w.params,#[],{},776,os⟩,h442 w.params))=fun _=>(true,openGood q loose,h442 w.params):=fun w=>by kernel_rfl
theorem left:LeftO theProg q loose (fun _=>true) (fun s=>s.heap) (fun w=>h442 w.params) 3706 true:=
 LeftO.of_pieces open_ size_ run_ (by decide) looks_
end
section
noncomputable def dL:DefRec:=match defOf q "law" with|some (d,_)=>d|none=>⟨"",default,[],default,default⟩
theorem said:PySem.Challenge.rw_wn0117_01.wellSaid=true:=by kernel_rfl
noncomputable def says (w:World) (h:Heap):Prop:=∀a o,(h442 w.params).get? a=some o→h.get? a=some o
theorem holds (call:WalkO q loose (fun _ _=>True) says PySem.Challenge.rw_wn0117_01.row.toRowW dL [] fun f vs=>PySem.call f vs):PySem.Challenge.rw_wn0117_01.Holds:=
 holds_law said fun k1=>holds_open (q:=q) (loose:=loose) (Xt:=fun _=>true) (XP:=fun _ _=>True) (Yf:=fun s=>s.heap) (Ya:=fun w=>h442 w.params) (YP:=says) (N:=3706) (d:=dL) (kwd:=[]) left
  (fun w s e a o h=>by rw [←e] at h;exact h) (fun w h h' y k a o e=>k a o (y a o e)) (fun _ _=>trivial) (fun _ _ _ _ _=>trivial)
  (by kernel_rfl) (by kernel_rfl) (by kernel_rfl) (fun s _=>recFacts_nil (by kernel_rfl)) (by kernel_rfl) k1 (by kernel_rfl) ⟨rfl,rfl,rfl,rfl,rfl,by decide+kernel⟩ ⟨[.list []],by decide+kernel,by decide+kernel⟩ call
end
end H
end Mine
end
section
set_option maxRecDepth 100000
set_option maxHeartbeats 0
open PySem PySem.W PyProof.Rows PySem.Spec
namespace Mine
namespace H
section
noncomputable def K (P:Params):Frag:=[(0,o41 P),(1,o42 P),(2,o43 P),(3,o371 P),(44,o89),(45,o90),(51,o96),(52,o97),(58,o103),(59,o104),(60,o105),(66,o111),(67,o112),(73,o118),(74,o119),(80,o129),(81,o130),(87,o136),(88,o137),(97,o146),(98,o147),(102,o151),(103,o152),(119,qt [vo]),(125,o176),(126,o177),(132,o183),(133,o184),(165,o216),(166,o217),(170,o221),(171,o222),(172,qt [vo]),(178,o229),(179,o230),(195,o246),(196,o247),(228,o279),(229,o280),(231,o282 P),(232,o283),(242,o378),(243,o379),(249,o385),(250,o386),(256,o392),(257,o393),(261,o397),(262,o398),(268,o404),(269,o405),(275,o411),(276,o412),(282,o418),(283,o419),(287,o423),(288,o424),(294,o430),(295,o431),(299,o435),(300,o436),(304,o440),(305,o441)]
theorem K_in (P:Params):(K P).map (fun p=>(h442 P).get? p.1)=(K P).map (fun p=>some p.2):=by kernel_rfl
noncomputable def alive (o:Obj):Bool:=match o.data with|.freed=>false|_=>true
theorem K_ok (P:Params):(K P).all (fun p=>Nat.blt p.1 306&&alive p.2)=true:=by kernel_rfl
theorem K_lists (P:Params):(K P).all (fun p=>match p.2.cls with|.type n=>!(n== "list")|_=>true)=true:=by kernel_rfl
theorem K_mem {P:Params} {a:Addr} {o:Obj} (h:(K P).lookup a=some o):(a,o)∈K P:=lookup_in _ h
theorem K_says {P:Params} {h:Heap} (y:∀a o,(h442 P).get? a=some o→h.get? a=some o):(K P).In h:=fun a o e=>by
 obtain ⟨i,hi,hm⟩:=List.mem_iff_getElem.mp (K_mem e)
 have q:((K P).map (fun p=>(h442 P).get? p.1))[i]?=((K P).map (fun p=>some p.2))[i]?:=congrArg (·[i]?) (K_in P)
 rw [List.getElem?_map,List.getElem?_map,List.getElem?_eq_getElem hi,hm] at q
 exact y a o (Option.some.inj q)
noncomputable def fr:Obj:=⟨.none,none,.freed,#[]⟩
noncomputable def hh (P:Params):Heap:=⟨⟨(List.range 306).map fun i=>((K P).lookup i).getD fr⟩,{}⟩
theorem hh_at (P:Params) (a:Addr):(hh P).objs[a]?=if a<306 then some (((K P).lookup a).getD fr) else none:=by
 unfold hh
 rw [List.getElem?_toArray,List.getElem?_map]
 by_cases h:a<306
 ·rw [List.getElem?_range h,if_pos h];rfl
 ·rw [List.getElem?_eq_none (by rw [List.length_range];exact Nat.le_of_not_lt h),if_neg h];rfl
theorem hh_get {P:Params} {a:Addr} {o:Obj} (h:(hh P).get? a=some o):(K P).lookup a=some o:=by
 unfold Heap.get? at h
 rw [hh_at] at h
 by_cases h1:a<306
 ·rw [if_pos h1] at h
  cases e:(K P).lookup a with
  |none=>rw [e] at h;cases h
  |some o'=>
   rw [e] at h
   obtain ⟨c,d,dt,sl⟩:=o'
   cases dt<;>first|exact h|cases h
 ·rw [if_neg h1] at h;cases h
theorem hh_of {P:Params} {a:Addr} {o:Obj} (h:(K P).lookup a=some o):(hh P).get? a=some o:=by
 have:=List.all_eq_true.mp (K_ok P) _ (K_mem h)
 rw [Bool.and_eq_true] at this
 have h1:a<306:=Nat.blt_eq.mp this.1
 unfold Heap.get?
 rw [hh_at,if_pos h1,h]
 obtain ⟨c,d,dt,sl⟩:=o
 cases dt<;>first|rfl|exact (nomatch this.2)
noncomputable def fnAs:List (Nat × Addr):=[(0,243),(1,250),(2,257),(3,262),(4,269),(5,276),(6,283),(7,288),(8,295),(9,300),(10,67),(11,74),(12,59),(13,52),(14,88),(15,81),(16,305),(100,229),(101,171),(102,196),(103,179),(104,133),(105,166)]
noncomputable def fnAd (f:Nat):Addr:=(fnAs.lookup f).getD 0
noncomputable def glv (g:Nat):Value:=.ref (if g=0 then 60 else if g=1 then 98 else 103)
noncomputable def WW (w:World) (sc:Obj):W0:={prog:=theProg,w,h0:=hh w.params,mg:=(hh w.params).nsMap mainGlobals,mb:=(hh w.params).nsMap builtinsNs,gl:=glv,cls:=232,fnA:=fnAd,hkey:=PyData.keyHash w.params "_headers",g:=.of_isNs (by kernel_rfl),b:=.of_isNs (by kernel_rfl),lim:=⟨_,.of_isNs (by kernel_rfl),by kernel_rfl⟩,fzo:=sc}
noncomputable def fdOf (o:Obj):FuncData:=match o.data with|.func fd=>fd|_=>default
noncomputable def fldsOf (o:Obj):Array Value:=match o.data with|.fields vs=>vs|_=> #[]
noncomputable def tok1 (o:Obj):Tok:=match (fldsOf o)[1]? with|some (Value.str _ t)=>t|_=>0
section
variable (w:World) (sc:Obj)
noncomputable def AllLen {α:Type}:Nat→(List α→Prop)→Prop
 |0,P=>P []
 |n+1,P=>∀a,AllLen n fun l=>P (a::l)
theorem allLen {α:Type} (n:Nat):∀{P:List α→Prop},AllLen n P→∀l:List α,l.length=n→P l:=by
 induction n with
 |zero=>exact fun h l e=>List.length_eq_zero_iff.mp e▸h
 |succ n ih=>
  intro P h l e
  cases l with
  |nil=>cases e
  |cons a l=>exact ih (h a) l (Nat.succ.inj e)
theorem allLen_mono {α:Type} (n:Nat):∀{P Q:List α→Prop},AllLen n P→(∀l,P l→Q l)→AllLen n Q:=by
 induction n with
 |zero=>exact fun h k=>k _ h
 |succ n ih=>exact fun h k a=>ih (h a) fun l=>k (a::l)
theorem len1 {α:Type} {P:List α→Prop} (h:∀a,P [a]):AllLen 1 P:=h
theorem len2 {α:Type} {P:List α→Prop} (h:∀a b,P [a,b]):AllLen 2 P:=h
theorem len3 {α:Type} {P:List α→Prop} (h:∀a b c,P [a,b,c]):AllLen 3 P:=h
theorem len5 {α:Type} {P:List α→Prop} (h:∀a b c d e,P [a,b,c,d,e]):AllLen 5 P:=h
theorem len8 {α:Type} {P:List α→Prop} (h:∀a b c d e f g h,P [a,b,c,d,e,f,g,h]):AllLen 8 P:=h
noncomputable def tupL (f:Nat) (o:Obj) (ca:Addr) (c:Obj):=((K w.params).lookup (fnAd f),o.data,(K w.params).lookup ca,c.data,(fldsOf c)[1]?,(fdOf o).body,(fdOf o).scope.names,(fdOf o).scope.kind,(fdOf o).scope.isCoroutine,(fdOf o).scope.isGenerator,(fdOf o).globals,(fdOf o).builtins,(fdOf o).closure,(fdOf o).code)
noncomputable def tupR (ns:Names) (b:Ss) (o:Obj) (ca:Addr) (c:Obj):=(some o,Data.func (fdOf o),some c,Data.fields (fldsOf c),some (Value.str (fdOf o).qualname (tok1 c)),FuncBody.stmts (b.dec ns),ns,ScopeKind.function,false,false,mainGlobals,builtinsNs,([]:List (Str × Addr)),Value.ref ca)
noncomputable def Pf (p:Nat × Names × Ss):Prop:=∃o fd,(WW w sc).h0.get? ((WW w sc).fnA p.1)=some o∧o.data=.func fd∧FdOk (WW w sc) p.1 fd p.2.1 p.2.2
noncomputable def Bn (f:Nat) (fd:FuncData) (ns:Names) (pos ks:List Value):Prop:=
  ∀(A:Around) (s:Shared) (Q:List (Str × Value)→Shared→Prop) (E:Value→Shared→Prop),(∀a o,(WW w sc).h0.get? a=some o→s.heap.get? a=some o)→
  (∀mores h',(∀a o,s.heap.get? a=some o→h'.get? a=some o)→All2 (MoreIs s.heap h') (moreOf f) mores→Q (((ns.map (·.1)).take (arity f+(moreOf f).length)).zip (pos++ks++mores)) {s with heap:=h'})→
  wpAny (model (WW w sc).prog (WW w sc).w) A (bindArgs fd ⟨pos,(kwsOf f).zip ks⟩) Q E s
theorem cr (c:Addr) (o:Obj) (q:Str) (h1:(K w.params).lookup c=some o) (h2:o.data=.fields (fldsOf o)) (h3:(fldsOf o)[1]?=some (.str q (tok1 o))):(WW w sc).h0.CodeRec (.ref c) q:=⟨c,o,fldsOf o,tok1 o,rfl,hh_of h1,h2,h3⟩
theorem mk {f:Nat} {ns:Names} {b:Ss} (o:Obj) (ca:Addr) (c:Obj) (h:tupL w f o ca c=tupR ns b o ca c) (n:Nat) (hn:arity f=n+(kwsOf f).length) (e:AllLen (kwsOf f).length fun ks=>AllLen n fun pos=>Bn w sc f (fdOf o) ns pos ks):Pf w sc (f,ns,b):=by
 obtain ⟨h1,h⟩:=Prod.mk.inj h
 obtain ⟨h2,h⟩:=Prod.mk.inj h
 obtain ⟨h3,h⟩:=Prod.mk.inj h
 obtain ⟨h4,h⟩:=Prod.mk.inj h
 obtain ⟨h5,h⟩:=Prod.mk.inj h
 obtain ⟨h6,h⟩:=Prod.mk.inj h
 obtain ⟨h7,h⟩:=Prod.mk.inj h
 obtain ⟨h8,h⟩:=Prod.mk.inj h
 obtain ⟨h9,h⟩:=Prod.mk.inj h
 obtain ⟨h10,h⟩:=Prod.mk.inj h
 obtain ⟨h11,h⟩:=Prod.mk.inj h
 obtain ⟨h12,h⟩:=Prod.mk.inj h
 obtain ⟨h13,h14⟩:=Prod.mk.inj h
 exact ⟨o,fdOf o,hh_of h1,h2,h6,h7,h8,h9,h10,h11,h12,h13,h14▸cr w sc ca c _ h3 h4 h5,fun A s pos ks Q E h1 h2=>allLen _ (allLen _ e ks h2) pos (Nat.add_right_cancel ((h2▸h1).trans hn)) A s Q E⟩
noncomputable def bL (o:Obj) (pos:List Value):Sem (List (Str × Value)):=bindArgs (fdOf o) ⟨pos,[]⟩
noncomputable def bR (n:Nat) (ns:Names) (pos:List Value):Sem (List (Str × Value)):=pure (((ns.map (·.1)).take n).zip pos)
theorem mkS {f:Nat} {ns:Names} {b:Ss} (o:Obj) (ca:Addr) (c:Obj) (h:tupL w f o ca c=tupR ns b o ca c) (hm:(moreOf f,kwsOf f)=([],[])) (e:AllLen (arity f) fun pos=>bL o pos=bR (arity f) ns pos):Pf w sc (f,ns,b):=by
 obtain ⟨hm,hk⟩:=Prod.mk.inj hm
 refine mk w sc o ca c h (arity f) (by rw [hk];rfl) ?_
 rw [hk]
 refine allLen_mono (arity f) e fun pos e A s Q E _ hQ=>?_
 have:=hQ [] s.heap (fun _ _ e=>e) (by rw [hm];exact .nil)
 rw [hm] at this
 rw [hk]
 show wpAny _ _ (bL o pos) _ _ _
 rw [e]
 simp only [List.append_nil,List.length_nil,Nat.add_zero] at this
 exact wpAny_pure this
theorem fd0:Pf w sc (0,nsFlawcells,bFlawcells):=mkS w sc o379 242 o378 (by kernel_rfl) rfl (len1 fun a=>by kernel_rfl)
theorem fd1:Pf w sc (1,nsFlawwords,bFlawwords):=mkS w sc o386 249 o385 (by kernel_rfl) rfl (len2 fun a b=>by kernel_rfl)
theorem fd2:Pf w sc (2,nsFlaworder,bFlaworder):=mkS w sc o393 256 o392 (by kernel_rfl) rfl (len2 fun a b=>by kernel_rfl)
theorem fd3:Pf w sc (3,nsFlawones,bFlawones):=mkS w sc o398 261 o397 (by kernel_rfl) rfl (len1 fun a=>by kernel_rfl)
theorem fd4:Pf w sc (4,nsFlawsized,bFlawsized):=mkS w sc o405 268 o404 (by kernel_rfl) rfl (len2 fun a b=>by kernel_rfl)
theorem fd5:Pf w sc (5,nsFlawoctets,bFlawoctets):=mkS w sc o412 275 o411 (by kernel_rfl) rfl (len1 fun a=>by kernel_rfl)
theorem fd6:Pf w sc (6,nsFlawrows,bFlawrows):=mkS w sc o419 282 o418 (by kernel_rfl) rfl (len3 fun a b c=>by kernel_rfl)
theorem fd7:Pf w sc (7,nsFlawword,bFlawword):=mkS w sc o424 287 o423 (by kernel_rfl) rfl (len2 fun a b=>by kernel_rfl)
theorem fd8:Pf w sc (8,nsFlawtied,bFlawtied):=mkS w sc o431 294 o430 (by kernel_rfl) rfl (len5 fun a b c d e=>by kernel_rfl)
theorem fd9:Pf w sc (9,nsFlawway,bFlawway):=mkS w sc o436 299 o435 (by kernel_rfl) rfl (len8 fun a b c d e f g h=>by kernel_rfl)
theorem fd10:Pf w sc (10,nsFprettyflags,bFprettyflags):=mkS w sc o112 66 o111 (by kernel_rfl) rfl (len1 fun a=>by kernel_rfl)
theorem fd11:Pf w sc (11,nsFparsevarint,bFparsevarint):=mkS w sc o119 73 o118 (by kernel_rfl) rfl (len1 fun a=>by kernel_rfl)
theorem fd12:Pf w sc (12,nsFcheckparenthesis,bFcheckparenthesis):=mkS w sc o104 58 o103 (by kernel_rfl) rfl (len1 fun a=>by kernel_rfl)
theorem fd13:Pf w sc (13,nsFstripquotedrealnames,bFstripquotedrealnames):=mkS w sc o97 51 o96 (by kernel_rfl) rfl (len1 fun a=>by kernel_rfl)
theorem fd14:Pf w sc (14,nsFlevenshteindistance,bFlevenshteindistance):=mkS w sc o137 87 o136 (by kernel_rfl) rfl (len3 fun a b c=>by kernel_rfl)
theorem fd15:Pf w sc (15,nsFsubstitutioncost,bFsubstitutioncost):=mkS w sc o130 80 o129 (by kernel_rfl) rfl (len2 fun a b=>by kernel_rfl)
theorem fd16:Pf w sc (16,nsFlaw,bFlaw):=mkS w sc o441 304 o440 (by kernel_rfl) rfl (len1 fun a=>by kernel_rfl)
theorem fd101:Pf w sc (101,nsHgetall,bHgetall):=mkS w sc o222 170 o221 (by kernel_rfl) rfl (len2 fun a b=>by kernel_rfl)
theorem fd102:Pf w sc (102,nsHitems,bHitems):=mkS w sc o247 195 o246 (by kernel_rfl) rfl (len1 fun a=>by kernel_rfl)
theorem fd105:Pf w sc (105,nsHcontains,bHcontains):=mkS w sc o217 165 o216 (by kernel_rfl) rfl (len2 fun a b=>by kernel_rfl)
end
end
section
section
variable (w:World) (sc:Obj)
theorem KX {s:Shared} (h:∀a o,(hh w.params).get? a=some o→s.heap.get? a=some o):(K w.params).In s.heap:=fun a o e=>h a o (hh_of e)
theorem fd100:Pf w sc (100,nsHaddheader,bHaddheader):=by
 refine mk w sc o280 228 o279 (by kernel_rfl) 3 rfl ?_
 intro a b c A s Q E hk hQ
 show wpAny _ _ (bL o280 [a,b,c]) _ _ _
 rw [show bL o280 [a,b,c]=(alloc {cls:=.type "dict",data:=.dict #[]}>>=fun d=>bR 4 nsHaddheader [a,b,c,Value.ref d]) from by kernel_rfl]
 exact wpAny_bind (wpAny_alloc (wpAny_pure (hQ [.ref s.heap.objs.size] _ (pushed _) (.cons ⟨_,0,rfl,fresh_size _,Heap.get?_push_size _ rfl⟩ .nil))))
theorem fd103:Pf w sc (103,nsHget,bHget):=
 mk w sc o230 178 o229 (by kernel_rfl) 2 rfl fun a b A s Q E hk hQ=>
  (Looks.of_peek (M:=model theProg w) (KX w hk) (show peek (K w.params) _ (bL o230 [a,b])=some (((nsHget.map (·.1)).take 3).zip [a,b,Value.none]) from by kernel_rfl)).here (hQ [.none] s.heap (fun _ _ e=>e) (.cons rfl .nil))
theorem fd104:Pf w sc (104,nsHconvertstringtype,bHconvertstringtype):=by
 refine mk w sc o184 132 o183 (by kernel_rfl) 2 rfl ?_
 intro c a b A s Q E hk hQ
 rw [show bindArgs (fdOf o184) ⟨[a,b],(kwsOf 104).zip [c]⟩=bR 3 nsHconvertstringtype [a,b,c] from by kernel_rfl]
 exact wpAny_pure (hQ [] s.heap (fun _ _ e=>e) .nil)
theorem cns {α:Type} {P:α→Prop} {a:α} {l:List α} (h:P a) (k:∀p∈l,P p):∀p∈a::l,P p:=fun p m=>(List.mem_cons.mp m).elim (fun e=>e▸h) (k p)
theorem nls {α:Type} {P:α→Prop}:∀p∈([]:List α),P p:=fun _ m=>nomatch m
theorem all:∀p∈bodies,Pf w sc p:=cns (fd0 w sc)<|cns (fd1 w sc)<|cns (fd2 w sc)<|cns (fd3 w sc)<|cns (fd4 w sc)<|cns (fd5 w sc)<|cns (fd6 w sc)<|cns (fd7 w sc)<|cns (fd8 w sc)<|cns (fd9 w sc)<|cns (fd10 w sc)<|cns (fd11 w sc)<|cns (fd12 w sc)<|cns (fd13 w sc)<|cns (fd14 w sc)<|cns (fd15 w sc)<|cns (fd16 w sc)<|cns (fd100 w sc)<|cns (fd101 w sc)<|cns (fd102 w sc)<|cns (fd103 w sc)<|cns (fd104 w sc)<|cns (fd105 w sc)<|nls
theorem fds (f:Nat) (ns:Names) (b:Ss) (h:bodyF f=some (ns,b)):∃o fd,(WW w sc).h0.get? ((WW w sc).fnA f)=some o∧o.data=.func fd∧FdOk (WW w sc) f fd ns b:=all w sc _ (lookup_in _ h)
theorem known:((List.range 106).all fun f=>(bodyF f).isSome||!(Nat.blt f 17||Nat.ble 100 f))=true:=by decide+kernel
theorem fobj (f:Nat) (h:f<17∨(100≤f∧f<106)):∃o fd,(WW w sc).h0.get? ((WW w sc).fnA f)=some o∧o.data=.func fd:=by
 have hs:=List.all_eq_true.mp known f (List.mem_range.mpr (h.elim (fun h=>Nat.lt_trans h (by decide)) (·.2)))
 have q:(Nat.blt f 17||Nat.ble 100 f)=true:=Bool.or_eq_true_iff.mpr (h.imp Nat.blt_eq.mpr fun h=>Nat.ble_eq.mpr h.1)
 rw [q,Bool.not_true,Bool.or_false] at hs
 obtain ⟨⟨ns,b⟩,e⟩:=Option.isSome_iff_exists.mp hs
 obtain ⟨o,fd,h1,h2,_⟩:=fds w sc f ns b e
 exact ⟨o,fd,h1,h2⟩
noncomputable def isV (x:Option Value) (a:Addr):Bool:=match x with|some (.ref b)=>Nat.beq b a|_=>false
theorem isV_is {x:Option Value} {a:Addr} (h:isV x a=true):x=some (.ref a):=by
 unfold isV at h
 split at h
 ·rw [Nat.eq_of_beq_eq_true h]
 ·cases h
theorem fn_all:((List.range 17).all fun f=>isV ((WW w sc).mg (fname f)) (fnAd f))=true:=by kernel_rfl
theorem fn (f:Nat) (h:f<17):(WW w sc).mg (fname f)=some (.ref ((WW w sc).fnA f)):=isV_is (List.all_eq_true.mp (fn_all w sc) f (List.mem_range.mpr h))
theorem bi (b:BI):(WW w sc).mg b.name=none∧(WW w sc).mb b.name=some b.val:=by cases b<;>exact ⟨by kernel_rfl,by kernel_rfl⟩
theorem ty:(WW w sc).mg "type" =none∧(WW w sc).mb "type" =some (.type "type"):=⟨by kernel_rfl,by kernel_rfl⟩
theorem gl (g:Nat) (h:g<3):(WW w sc).mg (gname g)=some ((WW w sc).gl g):=match g,h with
 |0,_=>by kernel_rfl
 |1,_=>by kernel_rfl
 |2,_=>by kernel_rfl
theorem gi:(∃t,(WW w sc).mg (gname 3)=some (.int 40 t))∧(∃t,(WW w sc).mg (gname 4)=some (.int 2 t))∧(∃t,(WW w sc).mg (gname 5)=some (.int 1 t)):=⟨⟨377,by kernel_rfl⟩,⟨379,by kernel_rfl⟩,⟨381,by kernel_rfl⟩⟩
theorem sys:(WW w sc).h0.get? sysModules≠none:=by show (hh w.params).get? sysModules≠none;rw [hh_of (a:=sysModules) (o:=o42 w.params) (by kernel_rfl)];exact nofun
theorem pat (g:Nat) (h:g=1∨g=2):∃a o,(WW w sc).gl g=.ref a∧(WW w sc).h0.get? a=some o∧o.cls=.type "re.Pattern" ∧o.dict=none:=by
 rcases h with rfl|rfl
 ·exact ⟨98,o147,rfl,hh_of (by kernel_rfl),rfl,rfl⟩
 ·exact ⟨103,o152,rfl,hh_of (by kernel_rfl),rfl,rfl⟩
theorem enu:(WW w sc).mg "enumerate" =none∧(WW w sc).mb "enumerate" =some (.type "enumerate"):=⟨by kernel_rfl,by kernel_rfl⟩
theorem gcls:(WW w sc).mg "Headers" =some (.ref (WW w sc).cls):=by kernel_rfl
theorem gen:∃(ga:Addr) (o:Obj) (fd:FuncData),(WW w sc).mg "_iter_escaped_chars" =some (.ref ga)∧(WW w sc).h0.get? ga=some o∧o.data=.func fd∧fd.body=.stmts genBody∧fd.scope.names=nsG∧fd.scope.kind=.function∧fd.scope.isCoroutine=false∧fd.scope.isGenerator=true∧
  fd.globals=mainGlobals∧fd.builtins=builtinsNs∧fd.closure=[]∧(WW w sc).h0.CodeRec fd.code fd.qualname∧∀s v,BindsTo s fd ⟨[v],[]⟩ [("addr",v)]:=
 ⟨45,o90,fdOf o90,by kernel_rfl,hh_of (by kernel_rfl),by kernel_rfl,by kernel_rfl,by kernel_rfl,by kernel_rfl,by kernel_rfl,by kernel_rfl,by kernel_rfl,by kernel_rfl,by kernel_rfl,cr w sc 44 o89 _ (by kernel_rfl) (by kernel_rfl) (by kernel_rfl),fun s v=>.of_eq (by kernel_rfl)⟩
end
end
section
section
variable (w:World) (sc:Obj)
noncomputable abbrev hdO (w:World) (t:Tok) (la:Addr) (n:Nat):Obj:=dictOf [⟨PyData.keyHash w.params "_headers",.str "_headers" t,.ref la⟩] n
variable {w}
theorem inst {s:Shared} {x dx la:Addr} {t:Tok} {n:Nat} (h1:s.heap.get? x=some (instObj 232 dx)) (h2:s.heap.get? dx=some (hdO w t la n)):InstAt s.heap x (instObj 232 dx) 232 (some (hdO w t la n)):=⟨h1,rfl,rfl,h2⟩
theorem ga:findIn (K w.params) (.ref 232) "__getattribute__" =some (some (.builtin "object.__getattribute__")):=by kernel_rfl
theorem gt:findIn (K w.params) (.ref 232) "__getattr__" =some none:=by kernel_rfl
theorem met (m:Nat) (hm:m<6) (A:Around) (s:Shared) (x dx la:Addr) (t:Tok) (n:Nat) (pl:Sem Bool) (Q:Value × List Value→Shared→Prop) (hk:∀a o,(WW w sc).h0.get? a=some o→s.heap.get? a=some o)
  (h1:s.heap.get? x=some (instObj 232 dx)) (h2:s.heap.get? dx=some (hdO w t la n)) (hQ:Q (.ref (fnAd (100+m)),[.ref x]) s):wpAny (model theProg w) A (getMethod (.ref x) (hname m) pl) Q NoE s:=by
 have X:=KX w hk
 match m,hm with
 |0,_=>exact method_fn (f:=229) X (inst h1 h2) ga gt (by kernel_rfl) (by kernel_rfl) (by kernel_rfl) hQ
 |1,_=>exact method_fn (f:=171) X (inst h1 h2) ga gt (by kernel_rfl) (by kernel_rfl) (by kernel_rfl) hQ
 |2,_=>exact method_fn (f:=196) X (inst h1 h2) ga gt (by kernel_rfl) (by kernel_rfl) (by kernel_rfl) hQ
 |3,_=>exact method_fn (f:=179) X (inst h1 h2) ga gt (by kernel_rfl) (by kernel_rfl) (by kernel_rfl) hQ
 |4,_=>exact method_fn (f:=133) X (inst h1 h2) ga gt (by kernel_rfl) (by kernel_rfl) (by kernel_rfl) hQ
 |5,_=>exact method_fn (f:=166) X (inst h1 h2) ga gt (by kernel_rfl) (by kernel_rfl) (by kernel_rfl) hQ
theorem att (A:Around) (s:Shared) (x dx la:Addr) (t:Tok) (n:Nat) (Q:Value→Shared→Prop) (hk:∀a o,(WW w sc).h0.get? a=some o→s.heap.get? a=some o)
  (h1:s.heap.get? x=some (instObj 232 dx)) (h2:s.heap.get? dx=some (hdO w t la n)) (hQ:∀k,Q (.ref la) {s with toks:=k}):wpAny (model theProg w) A (getAttr (.ref x) "_headers" true) Q NoE s:=
 get_value (KX w hk) (inst h1 h2) ga (by kernel_rfl) (by kernel_rfl) (hQ _)
theorem nin (A:Around) (s:Shared) (x dx la:Addr) (t:Tok) (n:Nat) (v:Value) (Q:Value→Shared→Prop) (hk:∀a o,(WW w sc).h0.get? a=some o→s.heap.get? a=some o)
  (h1:s.heap.get? x=some (instObj 232 dx)) (h2:s.heap.get? dx=some (hdO w t la n)) (h:wpAny (model theProg w) A (call (.ref 166) [.ref x,v]) (fun r s'=>∃b,r=.bool b∧Q (.bool (!b)) s') NoE s):
  wpAny (model theProg w) A (compareOp .NotIn v (.ref x)) Q NoE s:=by
 have X:=KX w hk
 have I:=inst h1 h2
 have hs:findIn (K w.params) (.ref 232) "__contains__" =some (some (.ref 166)):=by kernel_rfl
 refine wpAny_bind ?_
 unfold contains
 refine wpAny_holding (wpAny_bind (wpAny_bind (I.type.here ((looks_findIn X hs).here ?_))))
 rw [if_neg (by simp)]
 refine wpAny_bind (unlessNone_K X I hs (by kernel_rfl) (wpAny_mono h (fun r s' z=>?_) fun _ _ z=>z))
 obtain ⟨b,rfl,q⟩:=z
 exact wpAny_truthy_bool (wpAny_pure q)
theorem cll (A:Around) (s:Shared) (pos:Pos) (t:Sem Value) (Q:Value→Shared→Prop) (h:wpAny (model theProg w) A t (fun v s1=>(∀a o,(WW w sc).h0.get? a=some o→s1.heap.get? a=some o)∧wpAny (model theProg w) A (call (.ref 232) [v]) Q NoE s1) NoE s):
  wpAny (model theProg w) A (callWith pos (.ref 232) [] [(false,t)] []) Q NoE s:=by
 refine callWith_of (P:=fun h=>(K w.params).In h) rfl (keeps_K (by kernel_rfl)) (Calls.evalArgs_plain ?_)
 exact Calls.spliced_cons (wpAny_mono h (fun v s1 z=>Calls.spliced_nil ⟨KX w z.1,z.2⟩) fun _ _ z=>z)
end
end
section
open PySem.Builtin.Re
theorem admitted_none (m:Sre.M) (h:∀p,p<m.lim→∀z,∃z',Sre.inSet m.code (m.text.getD p 0) m.code.size 5 true z=.ok (false,z')):∀(fuel s:Nat) (z:Sre.Seen),∃z',Sre.M.admitted m fuel s z=.ok (none,z')
 |0,s,z=>⟨z,rfl⟩
 |fuel+1,s,z=>by
  unfold Sre.M.admitted
  by_cases hs:s≥m.lim
  ·rw [if_pos hs];exact ⟨z,rfl⟩
  ·rw [if_neg hs]
   obtain ⟨z',e⟩:=h s (Nat.lt_of_not_le hs) z
   rw [e]
   exact admitted_none m h fuel (s+1) z'
theorem from_none (m:Sre.M) {s:Nat} {first:Bool} (h1:m.frames=[]) (h2:m.outcome=none) (h0:m.hasFirstSet=true) (h:∀p,p<m.lim→∀z,∃z',Sre.inSet m.code (m.text.getD p 0) m.code.size 5 true z=.ok (false,z')):
  (m.attemptFrom s first).answer=some false∧(m.attemptFrom s first).frames=[]∧(m.attemptFrom s first).outcome=none:=by
 unfold Sre.M.attemptFrom
 rw [h0,if_neg (by decide)]
 obtain ⟨z',e⟩:=admitted_none m h (m.lim+1-s) s m.seen
 rw [e]
 exact ⟨rfl,h1,h2⟩
theorem search_none {code text:Array Nat} {pos lim:Nat} (h0:∀m:Sre.M,m.code=code→m.hasFirstSet=true) (h:∀p,p<lim→∀z,∃z',Sre.inSet code (text.getD p 0) code.size 5 true z=.ok (false,z')):
  (Sre.forSearch code text 0 pos lim false).answer=some false∧(Sre.forSearch code text 0 pos lim false).frames=[]∧(Sre.forSearch code text 0 pos lim false).outcome=none:=by
 unfold Sre.forSearch
 dsimp only
 split
 ·exact ⟨rfl,rfl,rfl⟩
 ·exact from_none _ rfl rfl (h0 _ rfl) h
theorem forIn_rule {M:Model} {A:Around} {s:Shared} {E:Value→Shared→Prop} {Q:PUnit→Shared→Prop} (f:Nat→PUnit→Sem (ForInStep PUnit)) (hf:∀i,f i ⟨⟩=pure (.yield ⟨⟩)∨∃n,f i ⟨⟩=(rule n>>=fun _=>pure (.yield ⟨⟩))) (h:Q ⟨⟩ s):∀l:List Nat,wpAny M A (forIn l PUnit.unit f) Q E s
 |[]=>wpAny_pure h
 |i::r=>by
  rw [List.forIn_cons]
  refine wpAny_bind ?_
  rcases hf i with e|⟨n,e⟩<;>rw [e]
  ·exact wpAny_pure (forIn_rule f hf h r)
  ·exact wpAny_bind (wpAny_rule (wpAny_pure (forIn_rule f hf h r)))
theorem run_none {M:Model} {A:Around} {s:Shared} {E:Value→Shared→Prop} {Q:Option Sre.M→Shared→Prop} {m:Sre.M} (h1:m.answer=some false) (h2:m.frames=[]) (h3:m.outcome=none) (h:Q none s):wpAny M A (reRunToEnd m) Q E s:=by
 obtain ⟨m1,m2,m3,m4,m5,m6,m7,m8,m9,m10,m11,m12,m13,m14,m15,m16,fr,m18,an,m20,oc⟩:=m
 cases h1;cases h2;cases h3
 unfold reRunToEnd
 refine wpAny_bind ?_
 show wpAny M A (reDrive (18446744073709551615+1) _) _ _ _
 refine wpAny_pure (wpAny_bind (forIn_rule _ (fun i=>?_) (wpAny_pure h) _))
 split
 ·exact .inr ⟨_,rfl⟩
 ·exact .inl rfl
noncomputable def code1:Array Nat:= #[14,10,4,1,1,22,0,31,16,127,0,13,7,22,0,31,16,127,0,1]
noncomputable def code2:Array Nat:= #[14,14,4,1,1,9,4294966783,0,0,2147483648,0,0,0,0,0,13,11,9,4294966783,0,0,2147483648,0,0,0,0,0,1]
theorem set1 {c:Nat} (h:badName c=false) (z:Sre.Seen):∃z',Sre.inSet code1 c code1.size 5 true z=.ok (false,z'):=by
 have e:Sre.inSet code1 c code1.size 5 true z=if (decide (0≤c)&&decide (c≤31))=true then .ok (true,z.add 22) else if (c==127)=true then .ok (true,(z.add 22).add 16) else .ok (!true,((z.add 22).add 16).add 0):=by kernel_rfl
 unfold badName at h
 rw [Bool.or_eq_false_iff,decide_eq_false_iff_not] at h
 rw [e,if_neg (by simp only [Bool.and_eq_true,decide_eq_true_eq];omega),if_neg (by rw [h.2];decide)]
 exact ⟨_,rfl⟩
theorem set2 {c:Nat} (h:badValue c=false) (z:Sre.Seen):∃z',Sre.inSet code2 c code2.size 5 true z=.ok (false,z'):=by
 have e:Sre.inSet code2 c code2.size 5 true z=if (decide (c<256)&&(code2.getD (5+(1+c/32)) 0).testBit (c%32))=true then .ok (true,z.add 9) else .ok (!true,(z.add 9).add 0):=by kernel_rfl
 have hb:∀c,c<256→badValue c=false→(code2.getD (5+(1+c/32)) 0).testBit (c%32)=false:=by decide+kernel
 rw [e,if_neg]
 ·exact ⟨_,rfl⟩
 ·rw [Bool.and_eq_true,decide_eq_true_eq]
  rintro ⟨h1,h2⟩
  rw [hb c h1 h] at h2;cases h2
theorem first1 (m:Sre.M) (h:m.code=code1):m.hasFirstSet=true:=by unfold Sre.M.hasFirstSet;rw [h];rfl
theorem first2 (m:Sre.M) (h:m.code=code2):m.hasFirstSet=true:=by unfold Sre.M.hasFirstSet;rw [h];rfl
theorem entry_search:entryFor table "re.Pattern.search" =some Builtin.«re.Pattern.search»:=entryFor_of_tree (by kernel_rfl)
section
variable (w:World) (sc:Obj)
theorem sea1 (o:Obj) (a:Addr) (code:Array Nat) (h0:∀m:Sre.M,m.code=code→m.hasFirstSet=true) (l:List Nat) (t:Tok) (A:Around) (s:Shared) (Q:Value→Shared→Prop) (hk:∀a o,(hh w.params).get? a=some o→s.heap.get? a=some o)
  (e1:∀S,peek (K w.params) S (checkBuiltinCall "re.Pattern.search" ⟨[.ref a,.str ⟨l.toArray⟩ t],[]⟩)=some ())
  (e2:∀S,peek (K w.params) S (reTarget "re.Pattern.search" "search" ⟨[.ref a,.str ⟨l.toArray⟩ t],[]⟩)=some ⟨.ref a,.str ⟨l.toArray⟩ t,code,l.toArray,0,0,min 0 l.toArray.size,min (2^63-1) l.toArray.size⟩)
  (h:∀c∈l,∀z,∃z',Sre.inSet code c code.size 5 true z=.ok (false,z')) (hQ:Q .none s):
  wpAny (model theProg w) A (call (.builtin "re.Pattern.search") [.ref a,.str ⟨l.toArray⟩ t]) Q NoE s:=by
 have X:=KX w hk
 refine wpAny_call (codeAny_call_builtin (by decide+kernel) entry_search ((Looks.of_peek (M:=model theProg w) X (e1 _)).here ?_))
 refine wpAny_bind ((Looks.of_peek (M:=model theProg w) X (e2 _)).here ?_)
 obtain ⟨q1,q2,q3⟩:=search_none (text:=l.toArray) (pos:=min 0 l.toArray.size) (lim:=min (2^63-1) l.toArray.size) h0 (fun p hp z=>by
  have hp2:p<l.length:=Nat.lt_of_lt_of_le hp (Nat.le_trans (Nat.min_le_right _ _) (by simp))
  rw [Array.getD_eq_getD_getElem?,List.getElem?_toArray,List.getElem?_eq_getElem hp2]
  exact h _ (List.getElem_mem hp2) z)
 refine wpAny_bind (run_none q1 q2 q3 ?_)
 exact wpAny_pure hQ
theorem sea (g:Nat) (l:List Nat) (t:Tok) (h:(g=1∧l.any badName=false)∨(g=2∧l.any badValue=false)) (hl:l.length≤lim) (A:Around) (s:Shared) (Q:Value→Shared→Prop) (hh':A.handled=none) (hk:∀a o,(WW w sc).h0.get? a=some o→s.heap.get? a=some o) (hQ:∀k,Q .none {s with toks:=k}):
  wpAny (model theProg w) A (call (.builtin "re.Pattern.search") [(WW w sc).gl g,.str ⟨l.toArray⟩ t]) Q NoE s:=by
 rcases h with ⟨rfl,h⟩|⟨rfl,h⟩
 ·exact sea1 w o147 98 code1 first1 l t A s Q hk (fun S=>by kernel_rfl) (fun S=>by kernel_rfl) (fun c hc z=>set1 (by simpa using List.any_eq_false.mp h c hc) z) (hQ s.toks)
 ·exact sea1 w o152 103 code2 first2 l t A s Q hk (fun S=>by kernel_rfl) (fun S=>by kernel_rfl) (fun c hc z=>set2 (by simpa using List.any_eq_false.mp h c hc) z) (hQ s.toks)
end
end
section
noncomputable def ibT:Expr:=.Compare (.Name "headers" (pq 134 29 36)) [.IsNot] [.Constant .none 0 (pq 134 44 48)] (pq 134 29 48)
noncomputable def ib0:Stmt:=.Assign [.Name "headers" (pq 134 8 15)] (.IfExp ibT (.Name "headers" (pq 134 18 25)) (.List [] (pq 134 54 56)) (pq 134 18 56)) (pq 134 8 56)
noncomputable def ib1T:Expr:=.Compare (.Call (.Name "type" (pq 135 11 15)) [.Name "headers" (pq 135 16 23)] [] (pq 135 11 24)) [.IsNot] [.Name "list" (pq 135 32 36)] (pq 135 11 36)
noncomputable def ib1R:List Stmt:=[.Raise (some (.Call (.Name "TypeError" (pq 136 18 27)) [.Constant (.str "Headers must be a list of name/value tuples") 0 (pq 136 28 73)] [] (pq 136 18 74))) none (pq 136 12 74)]
noncomputable def ib1:Stmt:=.If ib1T ib1R [] ⟨135,8,136,74⟩
noncomputable def ib2:Stmt:=.Assign [.Attribute (.Name "self" (pq 137 8 12)) "_headers" (pq 137 8 21)] (.Name "headers" (pq 137 24 31)) (pq 137 8 31)
noncomputable def ib3B:List Stmt:=[.Expr (.Call (.Attribute (.Name "self" (pq 140 16 20)) "_convert_string_type" (pq 140 16 41)) [.Name "k" (pq 140 42 43)] [⟨some "name",.Constant (.bool true) 0 (pq 140 50 54),(pq 140 45 54)⟩] (pq 140 16 55)) (pq 140 16 55),
 .Expr (.Call (.Attribute (.Name "self" (pq 141 16 20)) "_convert_string_type" (pq 141 16 41)) [.Name "v" (pq 141 42 43)] [⟨some "name",.Constant (.bool false) 0 (pq 141 50 55),(pq 141 45 55)⟩] (pq 141 16 56)) (pq 141 16 56)]
noncomputable def ib3F:Stmt:=.For (.Tuple [.Name "k" (pq 139 16 17),.Name "v" (pq 139 19 20)] 0 (pq 139 16 20)) (.Name "headers" (pq 139 24 31)) ib3B [] ⟨139,12,141,56⟩
noncomputable def ib3:Stmt:=.If (.Constant (.bool true) 0 (pq 138 11 20)) [ib3F] [] ⟨138,8,141,56⟩
noncomputable def fdI:FuncData:=fdOf o177
theorem fdI_body:fdI.body=.stmts [ib0,ib1,ib2,ib3]:=by kernel_rfl
section
variable {w:World} {sc:Obj} {A:Around} {s:Shared} {h:Heap} {L:Addr} {m:Str→Option Value} {x dx la:Addr} {n:Nat} {E:Value→Shared→Prop}
noncomputable abbrev envI (L:Addr):Env:=callEnv fdI L 126
theorem k1:(envI L).kindOf "headers" =some .local:=by kernel_rfl
theorem k2:(envI L).kindOf "self" =some .local:=by kernel_rfl
theorem k3:(envI L).kindOf "type" =some .globalImplicit:=by kernel_rfl
theorem k4:(envI L).kindOf "list" =some .globalImplicit:=by kernel_rfl
theorem kf:(envI L).scope.kind=.function:=by kernel_rfl
theorem ld {p:Pos} {y:Str} {v:Value} {Q:Value→Shared→Prop} (hy:(envI L).kindOf y=some .local) (hn:s.heap.Ns L m) (hv:m y=some v) (q:Q v s) (hd:(y==("__debug__" :Str))=false:=by decide):wpAny (model theProg w) A (eval (.Name y p) (envI L)) Q E s:=
 wpAny_Name (wpAny_loadName_local kf hy hn hv q) hd
theorem ldb {p:Pos} {y:Str} {v:Value} {Q:Value→Shared→Prop} (hk:∀a o,(hh w.params).get? a=some o→s.heap.get? a=some o) (hy:(envI L).kindOf y=some .globalImplicit) (h1:(WW w sc).mg y=none) (h2:(WW w sc).mb y=some v) (q:Q v s) (hd:(y==("__debug__" :Str))=false:=by decide):wpAny (model theProg w) A (eval (.Name y p) (envI L)) Q E s:=
 Calls.Name_function_global kf hy (Calls.loadGlobal_builtin ((WW w sc).g.keeps hk) h1 ((WW w sc).b.keeps hk) h2 q) hd
theorem st0 {Q:Flow→Shared→Prop} (hn:s.heap.Ns L m) (hv:m "headers" =some (.ref la)) (q:∀h',h'.Ns L (fun y=>if y= "headers" then some (.ref la) else m y)→Heap.SameBut L s.heap h'→Q .next {s with heap:=h',toks:=s.toks+1}):
  wpAny (model theProg w) A (exec ib0 (envI L)) Q E s:=by
 refine wpAny_Assign_Name (wpAny_IfExp (wpAny_isTrue_Compare1 (ld k1 hn hv (wpAny_Constant_none (isnot_none_ne nofun (wpAny_truthy_bool ?_)))))) (by kernel_rfl)
 rw [if_pos rfl]
 exact ld k1 hn hv (wpAny_storeName_local k1 hn q)
theorem st1 {Q:Flow→Shared→Prop} (hk:∀a o,(hh w.params).get? a=some o→s.heap.get? a=some o) (hn:s.heap.Ns L m) (hv:m "headers" =some (.ref la)) (hl:s.heap.get? la=some {cls:=.type "list",data:=.seq #[] n}) (q:Q .next s):
  wpAny (model theProg w) A (exec ib1 (envI L)) Q E s:=by
 refine wpAny_If (wpAny_isTrue_Compare1 (Call_Name1 (ldb (sc:=default) hk k3 (ty w _).1 (ty w _).2 (PyProof.Rows.callWith_type rfl (Calls.evalArgs_plain (Calls.spliced_cons (ld k1 hn hv (Calls.spliced_nil (call_type_of ⟨_,hl,rfl⟩ (by decide) ?_)))))))))
 refine ldb (sc:=default) hk k4 (bi w _ .listRange).1 (bi w _ .listRange).2 (isnot_type_same (wpAny_truthy_bool ?_))
 rw [if_neg (by decide)]
 exact wpAny_execs_nil q
theorem a1:findIn (K w.params) (.ref 232) "__setattr__" =some (some (.builtin "object.__setattr__")):=by kernel_rfl
theorem a2:plainOver (K w.params) 232=true:=by kernel_rfl
theorem a3:takerIn (K w.params) 232 "_headers" =some none:=by kernel_rfl
theorem a4:hasDictIn (K w.params) 232=true:=by kernel_rfl
theorem a5:(getL "_headers" []).isSome=true:=by kernel_rfl
theorem a6 (k:Nat):(putL "_headers" (PyData.keyHash w.params "_headers") (.str "_headers" k) (.ref la) [],putN "_headers" [] 0)=([⟨PyData.keyHash w.params "_headers",.str "_headers" k,.ref la⟩],1):=by kernel_rfl
theorem a7:swapsWith (.Name "headers" (pq 137 24 31)) (some (.Attribute (.Name "self" (pq 137 8 12)) "_headers" (pq 137 8 21))) 137 (envI L)=pure false:=by kernel_rfl
theorem st2 {Q:Flow→Shared→Prop} (X:(K w.params).In h) (F:Fr h L s.heap m) (N:News h L s.heap [(x,instObj 232 dx),(dx,dictOf [] 0)]) (hx:x≠dx) (h1:m "headers" =some (.ref la)) (h2:m "self" =some (.ref x))
  (q:∀h',Fr h L h' m→News h L h' [(x,instObj 232 dx),(dx,dictOf [⟨PyData.keyHash w.params "_headers",.str "_headers" (s.toks+1),.ref la⟩] 1)]→Q .next {s with heap:=h',toks:=s.toks+2}):
  wpAny (model theProg w) A (exec ib2 (envI L)) Q E s:=by
 refine plainObj_wpAny_Assign_Attribute (ld k1 F.ns h1 (ld k2 F.ns h2 ?_)) a7
 have I:InstAt s.heap x (instObj 232 dx) 232 (some (dictOf [] 0)):=InstAt.of_news N (.head _) (.tail _ (.head _))
 have U:Upd dx (dictOf [] 0) (dictOf [⟨PyData.keyHash w.params "_headers",.str "_headers" (s.toks+1),.ref la⟩] 1) [(x,instObj 232 dx),(dx,dictOf [] 0)] [(x,instObj 232 dx),(dx,dictOf [⟨PyData.keyHash w.params "_headers",.str "_headers" (s.toks+1),.ref la⟩] 1)]:=
  Upd.tail (p:=(x,instObj 232 dx)) hx (Upd.head (r:=[]) fun p hp=>by cases hp)
 exact set_dict (w:=w) (K:=K w.params) (C:=232) (dx:=dx) (name:= "_headers") (v:=.ref la) (es:=[]) (n:=0) (es':=[⟨PyData.keyHash w.params "_headers",.str "_headers" (s.toks+1),.ref la⟩]) (n':=1)
  F X N I rfl a1 a2 a3 a4 a5 (a6 _) U (Nat.le_of_ble_eq_true rfl) q
theorem st3 {Q:Flow→Shared→Prop} (hA:A.handled=none) (hn:s.heap.Ns L m) (hv:m "headers" =some (.ref la)) (hl:s.heap.get? la=some {cls:=.type "list",data:=.seq #[] n}) (q:∀h',(∀b o,s.heap.get? b=some o→h'.get? b=some o)→Q .next {s with heap:=h'}):
  wpAny (model theProg w) A (exec ib3 (envI L)) Q E s:=by
 refine wpAny_If (isTrue_plain (wpAny_Constant_bool (wpAny_truthy_bool ?_)) (by kernel_rfl))
 rw [if_pos rfl]
 refine wpAny_execs_cons (wpAny_For (ld k1 hn hv (wpAny_pyIter_list ⟨_,hl,rfl,_,rfl⟩ ?_)) fun _=>rfl)
 refine codeAny_forLoop_any (fun _ s'=>s'={s with heap:=s.heap.push {cls:=.type "list_iterator",data:=.fields #[.ref la,.int 0 0]}}) (fun _ s' e=>?_) 0 rfl
 subst e
 refine wpAny_pyNext_list_end hA (i:=0) (l:=la) ⟨_,Heap.get?_push_size _ rfl,rfl,rfl⟩ ⟨_,Heap.get?_push_of_some _ hl,rfl,_,rfl⟩ rfl fun h' hs=>?_
 refine wpAny_execs_nil (wpAny_execs_nil (q h' fun b o e=>?_))
 exact hs b o (Nat.ne_of_lt (Heap.lt_size e)) (Heap.get?_push_of_some _ e)
end
end
section
noncomputable def flE:List (Nat × Nat × String × Nat):=[(1,325,"OPTIMIZED",326),(2,327,"NEWLOCALS",328),(4,329,"VARARGS",330),(8,331,"VARKEYWORDS",332),(16,333,"NESTED",334),(32,335,"GENERATOR",336),(64,337,"NOFREE",338),(128,339,"COROUTINE",340),(256,341,"ITERABLE_COROUTINE",342),(512,343,"ASYNC_GENERATOR",344)]
theorem flE_is:o105=di flE 10:=rfl
noncomputable def kvE (l:List (Nat × Nat × String × Nat)):List (Int × Value):=l.map fun x=>((x.1:Int),vs x.2.2.1 x.2.2.2)
section
variable (w:World) (sc:Obj)
theorem fl_keys:∀l:List (Nat × Nat × String × Nat),(l.all fun x=>decide (hashInt x.1=(x.1:Int)))=true→∀e∈enti l,∃k,(intKind theProg w).is k e.key=true∧e.hash=(intKind theProg w).hash k
 |[],_,e,h=>nomatch h
 |(i,t,x,u)::r,hl,e,h=>by
  rw [List.all_cons,Bool.and_eq_true,decide_eq_true_eq] at hl
  rcases List.mem_cons.mp h with rfl|h
  ·exact ⟨(i:Int),intKind_is _ _ _ _,hl.1.symm⟩
  ·exact fl_keys r hl.2 e h
theorem fl_pairs:∀l:List (Nat × Nat × String × Nat),Pairs (intKind theProg w) (enti l) (kvE l)
 |[]=>.nil
 |(i,t,x,u)::r=>.cons (intKind_is _ _ _ _) rfl (fl_pairs r)
noncomputable def flSame:List (Int × List Nat)→List (Nat × Nat × String × Nat)→Bool
 |[],[]=>true
 |p::l,x::r=>decide (p.1=(x.1:Int))&&decide (Str.ofString x.2.2.1=⟨p.2.toArray⟩)&&flSame l r
 |_,_=>false
theorem fl_all:∀(l:List (Int × List Nat)) (r:List (Nat × Nat × String × Nat)),flSame l r=true→All2 (fun (p:Int × List Nat) (q:Int × Value)=>p.1=q.1∧∃t,q.2=.str ⟨p.2.toArray⟩ t) l (kvE r)
 |[],[],_=>.nil
 |p::l,x::r,h=>by
  unfold flSame at h
  rw [Bool.and_eq_true,Bool.and_eq_true,decide_eq_true_eq,decide_eq_true_eq] at h
  refine .cons ⟨h.1.1,x.2.2.2,?_⟩ (fl_all l r h.2)
  show Value.str (Str.ofString x.2.2.1) _=_
  rw [h.1.2]
 |[],_::_,h=>nomatch h
 |_::_,[],h=>nomatch h
theorem fl:∃d o kvs,(WW w sc).gl 0=.ref d∧(WW w sc).h0.get? d=some o∧o.IsDictOf (intKind (WW w sc).prog (WW w sc).w) kvs∧(d==sysModules)=false∧All2 (fun (p:Int × List Nat) (q:Int × Value)=>p.1=q.1∧∃t,q.2=.str ⟨p.2.toArray⟩ t) flagNames kvs:=by
 refine ⟨60,o105,kvE flE,rfl,hh_of (by kernel_rfl),⟨⟨enti flE⟩,10,⟨rfl,rfl,rfl⟩,rfl,fun e he=>?_,fl_pairs w flE,by decide+kernel⟩,by decide,fl_all _ _ (by decide+kernel)⟩
 exact fl_keys w flE (by decide+kernel) e (by simpa using he)
variable {w}
theorem new (A:Around) (s:Shared) (la:Addr) (n:Nat) (Q:Value→Shared→Prop) (rm:Room 2 A) (hk:∀a o,(WW w sc).h0.get? a=some o→s.heap.get? a=some o) (hl:s.heap.get? la=some {cls:=.type "list",data:=.seq #[] n})
  (hQ:∀(x dx:Addr) (h':Heap) (tk:Nat) (t:Tok) (m:Nat),(∀a o,s.heap.get? a=some o→h'.get? a=some o)→s.heap.get? x=none→s.heap.get? dx=none→x≠dx→h'.get? x=some (instObj 232 dx)→h'.get? dx=some (hdO w t la m)→Q (.ref x) {s with heap:=h',toks:=tk}):
  wpAny (model theProg w) A (call (.ref 232) [.ref la]) Q NoE s:=by
 obtain ⟨h,g,d,t,os⟩:=s
 have X:(K w.params).In h:=KX w hk
 have hi:findIn (K w.params) (.ref 232) "__init__" =some (some (.ref 126)):=by kernel_rfl
 refine wpAny_call (make_core (w:=w) (makes_of X (by kernel_rfl)) (looks_findIn X hi) (fun self=>bind_fn X self (by kernel_rfl)) (.inl rfl) ?_)
 have k:∀b o,h.get? b=some o→((h.push emptyDict).push (instObj 232 h.objs.size)).get? b=some o:=fun b o e=>Heap.get?_push_of_some _ (Heap.get?_push_of_some _ e)
 have sz:((h.push emptyDict).push (instObj 232 h.objs.size)).objs.size=h.objs.size+2:=by rw [Heap.size_push,Heap.size_push]
 have hbind:∀S,peek (K w.params) S (bindArgs fdI ⟨[.ref (h.objs.size+1),.ref la],[]⟩)=some [(("self" :Str),Value.ref (h.objs.size+1)),(("headers" :Str),Value.ref la)]:=fun S=>by kernel_rfl
 refine codeAny_call_def (fd:=fdI) (body:=[ib0,ib1,ib2,ib3]) (o:=o177) (binds:=[(("self" :Str),Value.ref (h.objs.size+1)),(("headers" :Str),Value.ref la)]) ?room (k _ _ (X 126 o177 (by kernel_rfl))) (by kernel_rfl) ((WW w sc).lim.keeps fun b o e=>k b o (hk b o e)) ((cr w sc 125 o176 _ (by kernel_rfl) (by kernel_rfl) (by kernel_rfl)).keeps fun b o e=>k b o (hk b o e)) fdI_body
  (fun M A E Q q=>(Looks.of_peek (M:=M) (X.keeps k) (hbind _)).here q) ?cell ?loc (fun h₁ hns hk₁=>?_) (by kernel_rfl) (by kernel_rfl) (by kernel_rfl)
 case room=>have:=rm.depth;show A.depth+1<1000;omega
 case cell=>decide+kernel
 case loc=>
  intro y hy
  rcases List.mem_cons.mp hy with rfl|hy
  ·kernel_rfl
  ·rw [List.mem_singleton.mp hy];kernel_rfl
 rw [sz] at hns
 have F0:Fr h (h.objs.size+2) h₁ (fun y=>[(("self" :Str),Value.ref (h.objs.size+1)),(("headers" :Str),Value.ref la)].reverse.lookup y):=⟨hns,fun b o e=>hk₁ _ _ (k b o e),Nat.le_add_right _ _⟩
 have N0:News h (h.objs.size+2) h₁ [(h.objs.size+1,instObj 232 h.objs.size),(h.objs.size,dictOf [] 0)]:=by
  intro p hp
  rcases List.mem_cons.mp hp with rfl|hp
  ·refine ⟨hk₁ _ _ ?_,by simp,?_⟩
   ·have:=Heap.get?_push_size (h.push emptyDict) (o:=instObj 232 h.objs.size) rfl
    rw [Heap.size_push] at this;exact this
   ·cases e:h.get? (h.objs.size+1) with
    |none=>rfl
    |some o=>exact absurd (Heap.lt_size e) (by simp)
  ·rw [List.mem_singleton.mp hp]
   exact ⟨hk₁ _ _ (Heap.get?_push_of_some _ (Heap.get?_push_size _ rfl)),by simp,fresh_size _⟩
 show wpAny _ _ (execs [ib0,ib1,ib2,ib3] (envI ((h.push emptyDict).push (instObj 232 h.objs.size)).objs.size)) _ _ _
 rw [sz]
 have lne:la≠h.objs.size+2:=fun e=>absurd (Heap.lt_size hl) (by rw [e];show ¬h.objs.size+2<h.objs.size;omega)
 refine wpAny_execs_cons (st0 (la:=la) hns (by kernel_rfl) fun h2 hn2 hs2=>?_)
 have F1:=F0.set hn2 hs2
 have N1:News h (h.objs.size+2) h2 [(h.objs.size+1,instObj 232 h.objs.size),(h.objs.size,dictOf [] 0)]:=fun p hp=>⟨(hs2.2 _ (N0 p hp).2.1).trans (N0 p hp).1,(N0 p hp).2⟩
 have hl2:h2.get? la=some {cls:=.type "list",data:=.seq #[] n}:=F1.keep la _ hl
 refine wpAny_execs_cons (st1 (la:=la) (n:=n) (w:=w) (fun a o e=>F1.keep a o (hk a o e)) hn2 (by kernel_rfl) hl2 ?_)
 refine wpAny_execs_cons (st2 (la:=la) X F1 N1 (Nat.succ_ne_self _) (by kernel_rfl) (by kernel_rfl) fun h3 F3 N3=>?_)
 refine wpAny_execs_cons (st3 (la:=la) (n:=n) rm.quiet F3.ns (by kernel_rfl) (F3.keep la _ hl) fun h4 k4=>?_)
 refine wpAny_execs_nil ?_
 exact ⟨rfl,hQ (h.objs.size+1) h.objs.size h4 _ _ 1 (fun a o e=>k4 _ _ (F3.keep a o e)) (N3 _ (.head _)).2.2 (fresh_size _) (Nat.succ_ne_self _) (k4 _ _ (N3 _ (.head _)).1) (k4 _ _ (N3 _ (.tail _ (.head _))).1)⟩
theorem wok:WOk (WW w sc) where
 fn:=fn w sc
 fo:=fobj w sc
 fds:=fds w sc
 bi:=bi w sc
 ty:=ty w sc
 gl:=gl w sc
 gn:=fun g=>nofun
 gi:=gi w sc
 sys:=sys w sc
 fl:=fl w sc
 pat:=pat w sc
 sea:=sea w sc
 gen:=gen w sc
 enu:=enu w sc
 gcls:=gcls w sc
 met:=met sc
 att:=att sc
 cll:=cll sc
 new:=new sc
 nin:=nin sc
end
end
section
noncomputable def esOf (o:Obj):Array DictEntry:=match o.data with|.dict es _=>es|_=> #[]
theorem law_at (P:Params):nsFind (esOf (o371 P)) dL.name=some (.ref 305):=by kernel_rfl
noncomputable def WellV (P:Params) (h:Heap) (v:Value):WData→Prop
 |.int i=>∃t,v=.int i t
 |.list xs=>∃a vs,v=.ref a∧h.get? a=some {cls:=.type "list",data:=.seq vs.toArray}∧WellAll P h vs xs
 |_=>True
theorem wellV {P:Params} {h:Heap} {v:Value} {d:WData} (x:Well P h v d):WellV P h v d:=by
 cases x with
 |int i t=>exact ⟨t,rfl⟩
 |list a b=>exact ⟨_,_,rfl,a,b⟩
 |_=>exact trivial
noncomputable def WellN (vs:List Value):List WData→Prop
 |[]=>vs=[]
 |_=>True
theorem wellN {P:Params} {h:Heap} {vs:List Value} {ds:List WData} (x:WellAll P h vs ds):WellN vs ds:=by
 cases x with
 |nil=>exact rfl
 |cons _ _=>exact trivial
theorem well_ints {P:Params} {h:Heap} {script:List Int}:∀{vs:List Value},WellAll P h vs (script.map .int)→All2 (FRel h) (script.map .int) vs:=by
 induction script with
 |nil=>intro vs y;obtain rfl:vs=[]:=wellN y;exact .nil
 |cons i r ih=>
  intro vs y
  obtain ⟨v,vs,rfl,a,b⟩:=wellAll_cons_inv y
  exact .cons (wellV a) (ih b)
section
variable {w:World} {s:Shared} {la:Addr} {vs:List Value} {script:List Int}
abbrev scO (vs:List Value):Obj:={cls:=.type "list",data:=.seq vs.toArray}
theorem orel (X:(K w.params).In s.heap) (hla:s.heap.get? la=some (scO vs)) (hvs:WellAll w.params s.heap vs (script.map .int)):ORel (WW w (scO vs)) [la] [.fz (script.map .int)] s.heap:=by
 refine ⟨rfl,by simp,fun i mo b e1 e2=>?_,fun b hb=>?_,fun b o e=>X b o (hh_get e)⟩
 ·cases i with
  |zero=>cases e1;cases e2;exact ⟨hla,vs.toArray,0,rfl,well_ints hvs⟩
  |succ i=>cases e1
 ·rw [List.mem_singleton.mp hb]
  cases e:(hh w.params).get? la with
  |none=>exact e
  |some o'=>
   have k:=hh_get e
   have k2:=List.all_eq_true.mp (K_lists w.params) _ (K_mem k)
   obtain rfl:scO vs=o':=Option.some.inj (hla.symm.trans (X _ _ k))
   exact nomatch (show false=true from k2)
theorem core (X:(K w.params).In s.heap) (hla:s.heap.get? la=some (scO vs)) (hvs:WellAll w.params s.heap vs (script.map .int)) (hl:script.length≤63) (hg:s.gens= #[]):
  wpAny (model theProg w) callerA (PySem.call (.ref 305) [.ref la]) (fun v s'=>v=.bool true∧(∀b o,s.heap.get? b=some o→s'.heap.get? b=some o)∧s'.os=s.os∧AllBare s'.gens) NoE s:=by
 obtain ⟨oc,e,e0⟩:=law_ok script (Nat.le_trans hl (by decide))
 refine wpAny_call (codeAny_mono (tbl_ok (wok (w:=w) (scO vs)) 10 16 callerA s [la] [.fz (script.map .int)] [.ref 0] [.ref la] [] (.fv (.bool true)) oc ⟨by decide,by decide,rfl⟩ (orel X hla hvs) (.cons ⟨la,rfl,rfl⟩ .nil) rfl e) fun r s' z=>?_)
 obtain ⟨v,rfl,ρ',Kk,rv⟩:=z
 refine ⟨rv,fun b o' e'=>?_,Kk.step.os,Kk.step.bare (.of_eq hg)⟩
 by_cases hb:b=la
 ·subst hb
  exact (Kk.rel.objs 0 _ b e0 (Kk.grows.get rfl)).1.trans (hla.symm.trans e')
 ·exact Kk.step.keep b o' e' (fun m=>hb (List.mem_singleton.mp m))
theorem law_a (X:(K w.params).In s.heap) {mg:Str→Option Value} (g:s.heap.Ns mainGlobals mg) {a:Addr} (hmg:mg dL.name=some (.ref a)):a=305:=by
 obtain ⟨o3,es,ep,e3,d3,sk,hf⟩:=g
 obtain rfl:o3=o371 w.params:=Option.some.inj (e3.symm.trans (X 3 (o371 w.params) (by kernel_rfl)))
 have:=hf dL.name
 rw [show es=esOf (o371 w.params) by unfold esOf;rw [d3],law_at,hmg] at this
 cases this;rfl
theorem pre_len {R:WRecords} (h:PySem.Challenge.rw_wn0117_01.row.toRowW.pre.holds R {args:=[.list (script.map .int)]}=true):script.length≤63:=by
 have e2:PySem.W.less? (.int 63) (.int ((script.length:Nat):Int))=some (decide ((63:Int)<(script.length:Int))):=rfl
 rw [show PySem.Challenge.rw_wn0117_01.row.toRowW.pre=.and (.not (.lt (.lit (.int 63)) (.len (.arg 0)))) (.lit (.bool true)) from rfl] at h
 simp only [WTm.holds,WTm.value,List.getElem?_cons_zero,List.length_map,e2,Option.map_some] at h
 by_cases q:(63:Int)<(script.length:Int)
 ·rw [decide_eq_true q] at h;cases h
 ·omega
end
theorem call:WalkO q loose (fun _ _=>True) says PySem.Challenge.rw_wn0117_01.row.toRowW dL [] fun f vs=>PySem.call f vs:=by
 intro w s₀ s₁ mg mb G Y a o pm cd doc dV kV ho hd hcd hD hmg hg args vals as hpre hlay hrd hwl hlo
 have X:(K w.params).In s₁.heap:=K_says Y
 obtain rfl:=law_a X G.T.g hmg
 obtain ⟨h1,h2⟩:=pre_splitW hpre
 obtain ⟨d,r,rfl,hdl,hr⟩:=hasAllW_cons (e:=.list .int) (es:=[]) h1
 obtain rfl:=hasAllW_nil hr
 obtain ⟨xs,rfl,hx⟩:=hasW_list hdl
 obtain ⟨script,rfl⟩:=items_int hx
 obtain ⟨v,vs',rfl,hv,hn⟩:=wellAll_cons_inv hwl
 obtain rfl:vs'=[]:=wellN hn
 obtain ⟨la,vs,rfl,hla,hvs⟩:=wellV hv
 exact wpAny_mono (core X hla hvs (pre_len h2) hg) (fun v s' z=>⟨.inl ⟨_,.bool true,[],congrArg (fun x=>Except.ok (Flow.ret x)) z.1,fun _=>rfl,.bool true,by kernel_rfl,fun _=>⟨.nil,nofun⟩⟩,OldK.of_keep z.2.1,z.2.2.1,z.2.2.2⟩) NoE.imp
end
end H
end Mine
end
theorem PySem.Challenge.cw_wn0117_01_holds : PySem.Challenge.rw_wn0117_01.Holds :=
  Mine.H.holds Mine.H.call
