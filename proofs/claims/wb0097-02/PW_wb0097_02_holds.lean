import PyProof.Rows.All
import Wide.All
import OpenK.AllK
import Wide.FinOn
import KE.KEqDict
import KE.KIntText
import KE.KRevIter
import KE.KPairComp
import PySem.Challenge.RW_wb0097_02
set_option linter.all false
set_option genInjectivity false
set_option genSizeOf false
set_option Elab.async true
namespace Mini
open PySem
structure m8 where
 params:List Str
 body:FuncBody
 scope:Scope
 once:List Str
 deriving Inhabited
inductive V where
 |none
 |bool (b:Bool)
 |int (i:Int)
 |str (s:List Nat)
 |tstr (s:List Nat)
 |list (xs:List V)
 |tuple (xs:List V)
 |dict (es:List (List Nat×V))
 |ref (i:Nat)
 |val (v:Value)
 |clo (d:m8) (caps:List (Str×V)) (self:Option Str)
 |bm (id:String) (self:V)
 deriving Inhabited
inductive aa where
 |list (xs:List V)
 |dict (es:List (List Nat×V))
 |inst (c:Addr) (d:Nat)
 |fobj (d:Option Nat)
 deriving Inhabited
noncomputable abbrev H:=List aa
inductive SK where
 |loc | cell | once | free | glob
 deriving DecidableEq,Inhabited
structure Slot where
 name:Str
 kind:SK
 val:Option V
 deriving Inhabited
noncomputable abbrev P:=List Slot
inductive Fl where
 |next | brk | cont
 |ret (v:V)
 deriving Inhabited
inductive ru where
 |raw | pure
 deriving DecidableEq,Inhabited
structure qy where
 params:Arguments
 body:List Stmt
 scope:Scope
 once:List Str
 mode:ru
 dn:Bool
 deriving Inhabited
structure ce where
 fns:Addr→Option qy
 glob:Str→Option V
 cls:Addr→Option (List (Str×Addr))
 rex:Addr→Bool
 hint:Pos→Bool
noncomputable abbrev ad:=V→List V→List (Str×V)→H→V→H→Prop
noncomputable def i8:List Nat→List Nat→Bool
 |[],[]=>true
 |a::r,b::t=>Nat.beq a b&&i8 r t
 |_,_=>false
noncomputable def cF (a b:Str):Bool:=i8 a.cps.toList b.cps.toList
noncomputable def lookup (n:Str):P→Option V
 |[]=>none
 |s::r=>match cF s.name n with
  |true=>s.val
  |false=>lookup n r
noncomputable def fc (s:Slot):Bool:=match s.kind with
 |.loc=>true
 |.cell=>true
 |.once=>s.val.isNone
 |.free=>false
 |.glob=>false
noncomputable def j8 (n:Str) (v:V):P→Option P
 |[]=>none
 |s::r=>match cF s.name n with
  |true=>match fc s with
   |true=>some (⟨s.name,s.kind,some v⟩::r)
   |false=>none
  |false=>(j8 n v r).map (s :: ·)
noncomputable def hZ:SK→Bool
 |.once=>true
 |.loc=>false
 |.cell=>false
 |.free=>false
 |.glob=>false
noncomputable def ff (ρ:P):Bool:=ρ.any fun s=>hZ s.kind
noncomputable def bP (n:List Nat):List (List Nat×V)→Option V
 |[]=>none
 |(k,v)::r=>match i8 k n with
  |true=>some v
  |false=>bP n r
noncomputable def aj (n:List Nat) (v:V):List (List Nat×V)→List (List Nat×V)
 |[]=>[(n,v)]
 |(k,x)::r=>match i8 k n with
  |true=>(k,v)::r
  |false=>(k,x)::aj n v r
noncomputable def bZ {α:Type}(n:Str):List (Str×α)→Option α
 |[]=>none
 |(k,v)::r=>match cF k n with
  |true=>some v
  |false=>bZ n r
mutual
noncomputable def o7 (n:Nat):V→Bool
 |.ref i=>Nat.blt i n
 |.clo .. =>false
 |.bm .. =>false
 |.list xs=>eU n xs
 |.tuple xs=>eU n xs
 |.dict es=>nh n es
 |_=>true
noncomputable def eU (n:Nat):List V→Bool
 |[]=>true
 |x::r=>o7 n x&&eU n r
noncomputable def nh (n:Nat):List (List Nat×V)→Bool
 |[]=>true
 |(_,x)::r=>o7 n x&&nh n r
end
noncomputable abbrev zK (x:V):Bool:=o7 0 x
noncomputable abbrev j9 (xs:List V):Bool:=eU 0 xs
inductive LO (σ:H):V→List V→Prop
 |val {xs:List V}:LO σ (.list xs) xs
 |ref {i:Nat}{xs:List V}(h:σ[i]? = some (.list xs)):LO σ (.ref i) xs
inductive DO (σ:H):V→List (List Nat×V)→Prop
 |val {es:List (List Nat×V)}:DO σ (.dict es) es
 |ref {i:Nat}{es:List (List Nat×V)}(h:σ[i]? = some (.dict es)):DO σ (.ref i) es
noncomputable def bH (s:List Nat):Bool:=s.all fun c=>Nat.blt c 128
noncomputable def ke (v:V) (K:List V→Prop):Prop:=match v with
 |.list xs=>K xs
 |.str s=>bH s=true∧K (s.map fun c=>.str [c])
 |_=>False
inductive It where
 |items (tup:Bool) (g:Option Nat) (xs:List V)
noncomputable def af:Nat:=2 ^ 20
noncomputable def aZ (i:Int):Bool:=Nat.blt i.natAbs (2 ^ 4096)
noncomputable def aL (n:Nat) (i:Option Int) (d:Nat):Nat:=match i with
 |none=>d
 |some i=>(max 0 (min (if i<0 then i+n else i) (n:Int))).toNat
noncomputable def a9 {α:Type}(xs:List α) (lo hi:Option Int):List α:=
 let a:=aL xs.length lo 0
 let b:=aL xs.length hi xs.length
 (xs.drop a).take (b - a)
noncomputable def aE (n:Nat) (i:Int):Option Nat:=if !Nat.blt n af then none else
 if 0≤i then (if i.toNat<n then some i.toNat else none)
 else (if 0≤i+n then some (i+n).toNat else none)
noncomputable def ae (i:Int):List Nat:=(Str.ofString (toString i)).cps.toList
noncomputable def bi:List Nat→Nat→Option Nat
 |[],a=>some a
 |c::r,a=>if Nat.ble 48 c&&Nat.ble c 57 then bi r (a*10+(c - 48)) else none
noncomputable def bX:List Nat→List Nat→Bool
 |[],_=>true
 |_::_,[]=>false
 |a::p,b::t=>Nat.beq a b&&bX p t
noncomputable def dc (p q:List Nat):List Nat→Nat→List Nat
 |[],_=>[]
 |_::r,k+1=>dc p q r k
 |c::r,0=>if bX p (c::r) then q++dc p q r (p.length - 1) else c::dc p q r 0
noncomputable def gH (p:List Nat):List Nat→Nat→Nat
 |[],_=>0
 |_::r,k+1=>gH p r k
 |c::r,0=>if bX p (c::r) then gH p r (p.length - 1)+1 else gH p r 0
noncomputable def replace (p q t:List Nat):List Nat:=dc p q t 0
noncomputable def count (p t:List Nat):Nat:=gH p t 0
noncomputable def kf (p t:List Nat):Bool:=Nat.blt 0 (count p t)
noncomputable def low (c:Nat):Nat:=if Nat.ble 65 c&&Nat.ble c 90 then c+32 else c
noncomputable def bR (s:List Nat):Bool:=s.all fun c=>Nat.ble 32 c&&Nat.ble c 126
noncomputable def fg (sep:List Nat):List (List Nat)→List Nat
 |[]=>[]
 |s::r=>match r with
  |[]=>s
  |_::_=>s++(sep++fg sep r)
inductive uH:List V→Prop
 |nil:uH []
 |int {i:Int}{xs:List V}(h:uH xs):uH (.int i::xs)
 |str {x:List Nat}{xs:List V}(ha:bH x=true) (h:uH xs):uH (.str x::xs)
inductive zA:List V→Prop
 |nil:zA []
 |cons {us xs:List V}(h:uH us) (hs:zA xs):zA (.tuple us::xs)
inductive rx (b:List (List Nat×V)):List (List Nat×V)→Prop
 |nil:rx b []
 |hit {k x:List Nat}{r:List (List Nat×V)}(h:bP k b=some (.str x)) (hr:rx b r):rx b ((k,.str x)::r)
inductive zL (σ:H):V→V→Prop
 |mk {a:V}{x y:List (List Nat×V)}(h:DO σ a x) (hl:x.length=y.length) (hr:rx y x):zL σ a (.dict y)
inductive zB (σ:H):List V→List V→Prop
 |nil:zB σ [] []
 |cons {s:List Nat}{x y:V}{xs ys:List V}(h:zL σ x y) (hs:zB σ xs ys):zB σ (.tuple [.str s,x]::xs) (.tuple [.str s,y]::ys)
noncomputable def aD (b:Bool) (o:aa) (v:V) (σ:H):V×H:=if b then (.ref σ.length,σ++[o]) else (v,σ)
noncomputable def o8:V→V→Bool
 |.str x,.str y=>!x.isEmpty && !y.isEmpty
 |_,_=>false
noncomputable def o9 (b:Bool) (x y v:V) (σ:H):V×H:=match v with
 |.list xs=>aD b (.list xs) (.list xs) σ
 |.str s=>match b with
  |true=>match o8 x y with
   |true=>(.tstr s,σ)
   |false=>(.str s,σ)
  |false=>(.str s,σ)
 |v=>(v,σ)
noncomputable def kg (b:Bool) (v:V) (σ:H):V×H:=match v with
 |.list xs=>aD b (.list xs) (.list xs) σ
 |v=>(v,σ)
noncomputable def aM:List Str:=["tag","attrib","text","tail","inner","makeelement","append","itertext"]
noncomputable def cI:List Str:=["_headers"]
noncomputable def ck (n:Str) (l:List Str):Bool:=l.any (cF n)
noncomputable def jt:V→Bool
 |.val (.builtin _)=>false
 |_=>true
inductive ry:V→Prop
 |str {s:List Nat}:ry (.str s)
 |list {xs:List V}:ry (.list xs)
 |ref {i:Nat}:ry (.ref i)
inductive ah (σ:H):Operator→V→V→V→Prop
 |add {x y:Int}:ah σ .Add (.int x) (.int y) (.int (x+y))
 |sub {x y:Int}:ah σ .Sub (.int x) (.int y) (.int (x - y))
 |mul {x y:Int}(hx:aZ x=true) (hy:aZ y=true):ah σ .Mult (.int x) (.int y) (.int (x*y))
 |fdiv {x y:Int}(h:y≠0) (hy:aZ y=true):ah σ .FloorDiv (.int x) (.int y) (.int (x.fdiv y))
 |mod {x y:Int}(h:y≠0):ah σ .Mod (.int x) (.int y) (.int (x.fmod y))
 |shl {x y:Int}(hx:aZ x=true) (h0:0≤y) (h1:y<4096):ah σ .LShift (.int x) (.int y) (.int (x*2 ^ y.toNat))
 |shr {x y:Int}(h0:0≤y):ah σ .RShift (.int x) (.int y) (.int (x.fdiv (2 ^ y.toNat)))
 |xor {x y:Int}:ah σ .BitXor (.int x) (.int y) (.int (Builtin.bitXor x y))
 |pow:ah σ .Pow (.int 10) (.int 6) (.int 1000000)
 |cat {x y:List Nat}(h:x.length+y.length<af):ah σ .Add (.str x) (.str y) (.str (x++y))
 |rep {a:V}{n:Int}{xs:List V}(h:LO σ a xs) (h0:0≤n) (h1:n<4096) (hz:xs.length<4096):ah σ .Mult a (.int n) (.list (List.replicate n.toNat xs).flatten)
 |app {a b:V}{xs ys:List V}(h:LO σ a xs) (h':LO σ b ys) (hz:xs.length+ys.length<af):ah σ .Add a b (.list (xs++ys))
inductive bS:UnaryOp→V→V→Prop
 |neg {x:Int}:bS .USub (.int x) (.int (-x))
 |inv {x:Int}:bS .Invert (.int x) (.int (Builtin.bitNot x))
inductive Tr (σ:H):V→Bool→Prop
 |none:Tr σ .none false
 |bool {b:Bool}:Tr σ (.bool b) b
 |int {i:Int}{r:Bool}(h:(!(i==0))=r):Tr σ (.int i) r
 |str {s:List Nat}{r:Bool}(hz:s.length<af) (h:(!s.isEmpty)=r):Tr σ (.str s) r
 |list {v:V}{xs:List V}{r:Bool}(h:LO σ v xs) (hz:xs.length<af) (hr:(!xs.isEmpty)=r):Tr σ v r
inductive Cm (σ:H):CmpOp→V→V→Bool→Prop
 |eqI {x y:Int}{r:Bool}(h:(x==y)=r):Cm σ .Eq (.int x) (.int y) r
 |neI {x y:Int}{r:Bool}(h:(x != y)=r):Cm σ .NotEq (.int x) (.int y) r
 |eqS {x y:List Nat}{r:Bool}(h:(x==y)=r):Cm σ .Eq (.str x) (.str y) r
 |neS {x y:List Nat}{r:Bool}(h:(x != y)=r):Cm σ .NotEq (.str x) (.str y) r
 |neT {xs:List V}(h:uH xs):Cm σ .NotEq (.tuple xs) (.tuple xs) false
 |eqT2 {x y u v:Int}{r:Bool}(h:(x==u&&y==v)=r):Cm σ .Eq (.tuple [.int x,.int y]) (.tuple [.int u,.int v]) r
 |neB {x y r:Bool}(h:(x != y)=r):Cm σ .NotEq (.bool x) (.bool y) r
 |gt {x y:Int}{r:Bool}(h:decide (x > y)=r):Cm σ .Gt (.int x) (.int y) r
 |lt {x y:Int}{r:Bool}(h:decide (x<y)=r):Cm σ .Lt (.int x) (.int y) r
 |le {x y:Int}{r:Bool}(h:decide (x≤y)=r):Cm σ .LtE (.int x) (.int y) r
 |noN0:Cm σ .IsNot .none .none false
 |noN {a:V}(h:ry a):Cm σ .IsNot a .none true
 |isT {x y:String}{r:Bool}(h:(x==y)=r):Cm σ .Is (.val (.type x)) (.val (.type y)) r
 |noT {x y:String}{r:Bool}(h:(x==y) = !r):Cm σ .IsNot (.val (.type x)) (.val (.type y)) r
 |inn {x y:List Nat}{r:Bool}(hx:x≠[]) (h:kf x y=r):Cm σ .In (.str x) (.str y) r
 |eqIs {a b:V}{ns ms:List Int}{r:Bool}(h1:LO σ a (ns.map .int)) (h2:LO σ b (ms.map .int)) (h:decide (ns=ms)=r):Cm σ .Eq a b r
 |neIs {a b:V}{ns ms:List Int}{r:Bool}(h1:LO σ a (ns.map .int)) (h2:LO σ b (ms.map .int)) (h:(!decide (ns=ms))=r):Cm σ .NotEq a b r
 |neTs {a b:V}{xs:List V}(h1:LO σ a xs) (h2:LO σ b xs) (h:zA xs):Cm σ .NotEq a b false
 |neSc {a b:V}{xs:List V}(h1:LO σ a xs) (h2:LO σ b xs) (h:uH xs):Cm σ .NotEq a b false
 |neTDs {a b:V}{xs ys:List V}(h1:LO σ a xs) (h2:LO σ b ys) (h:zB σ xs ys):Cm σ .NotEq a b false
inductive bx (σ:H):V→V→V→Prop
 |str {s:List Nat}{k:Int}{j c:Nat}(h:aE s.length k=some j) (h':s[j]? = some c):bx σ (.str s) (.int k) (.str [c])
 |tup {xs:List V}{k:Int}{j:Nat}{v:V}(h:aE xs.length k=some j) (h':xs[j]? = some v):bx σ (.tuple xs) (.int k) v
 |dict {es:List (List Nat×V)}{k:List Nat}{v:V}(h:bP k es=some v):bx σ (.dict es) (.str k) v
 |list {o:V}{xs:List V}{k:Int}{j:Nat}{v:V}(h:LO σ o xs) (h1:aE xs.length k=some j) (h':xs[j]? = some v):bx σ o (.int k) v
inductive aW (σ:H):V→Option Int→Option Int→V→Prop
 |str {s:List Nat}{lo hi:Option Int}(h:s.length<af):aW σ (.str s) lo hi (.str (a9 s lo hi))
 |list {o:V}{xs:List V}{lo hi:Option Int}(h:LO σ o xs) (hz:xs.length<af):aW σ o lo hi (.list (a9 xs lo hi))
inductive ay (σ:H):Value→List V→V→Prop
 |lenS {s:List Nat}(h:s.length<af):ay σ (.builtin "len") [.str s] (.int s.length)
 |lenL {v:V}{xs:List V}(h:LO σ v xs) (hz:xs.length<af):ay σ (.builtin "len") [v] (.int xs.length)
 |sum {v:V}{ns:List Int}(h:LO σ v (ns.map .int)):ay σ (.builtin "sum") [v] (.int ns.sum)
 |min {a b:Int}:ay σ (.builtin "min") [.int a,.int b] (.int (if b<a then b else a))
 |max {a b:Int}:ay σ (.builtin "max") [.int a,.int b] (.int (if b > a then b else a))
 |maxL {v:V}{ns:List Int}{a r:Int}(h:LO σ v ((a::ns).map .int)) (hm:r∈a::ns) (hl:∀b,b∈a::ns→b≤r):ay σ (.builtin "max") [v] (.int r)
 |divmod {a b:Int}(h:b≠0) (hb:aZ b=true):ay σ (.builtin "divmod") [.int a,.int b] (.tuple [.int (a.fdiv b),.int (a.fmod b)])
 |str {i:Int}(h:i.natAbs<2 ^ 1000):ay σ (.type "str") [.int i] (.str (ae i))
 |int {s:List Nat}{n:Nat}(h:s.length<640) (h0:s≠[]) (h':bi s 0=some n):ay σ (.type "int") [.str s] (.int n)
 |typS {s:List Nat}:ay σ (.type "type") [.str s] (.val (.type "str"))
 |typL {v:V}{xs:List V}(h:LO σ v xs):ay σ (.type "type") [v] (.val (.type "list"))
inductive dN (σ:H):V→Str→String→Prop
 |count {s:List Nat}:dN σ (.str s) "count" "str.count"
 |lower {s:List Nat}:dN σ (.str s) "lower" "str.lower"
 |join {s:List Nat}:dN σ (.str s) "join" "str.join"
 |bits {i:Int}:dN σ (.int i) "bit_length" "int.bit_length"
 |append {v:V}{xs:List V}(h:LO σ v xs):dN σ v "append" "list.append"
 |reverse {v:V}{xs:List V}(h:LO σ v xs):dN σ v "reverse" "list.reverse"
inductive aF (σ:H):String→V→List V→V→H→Prop
 |count {s p:List Nat}(hp:p≠[]):aF σ "str.count" (.str s) [.tstr p] (.int (count p s)) σ
 |lower {s:List Nat}(h:bH s=true) (hz:s.length<af):aF σ "str.lower" (.str s) [] (.str (s.map low)) σ
 |join {sep:List Nat}{v:V}{ts:List (List Nat)}(h:LO σ v (ts.map .str)) (hz:(fg sep ts).length<af) (hs:sep.length<af):aF σ "str.join" (.str sep) [v] (.str (fg sep ts)) σ
 |bits {i:Int}:aF σ "int.bit_length" (.int i) [] (.int (Builtin.Int.intBits i)) σ
 |append {i:Nat}{xs:List V}{v:V}(h:σ[i]? = some (.list xs)) (hz:xs.length<af):aF σ "list.append" (.ref i) [v] .none (σ.set i (.list (xs++[v])))
 |reverse {i:Nat}{xs:List V}(h:σ[i]? = some (.list xs)) (hz:xs.length<af):aF σ "list.reverse" (.ref i) [] .none (σ.set i (.list xs.reverse))
inductive xv (s p q:List Nat):V→Prop
 |mk (hp:p≠[]) (hq:p≠q) (hz:s.length+(s.length+1)*q.length<af):xv s p q (.str (replace p q s))
inductive Fo (σ:H):V→Str→V→Prop
 |mk {i d:Nat}{n:Str}{es:List (List Nat×V)}{v:V}(h:σ[i]? = some (.fobj (some d))) (hn:ck n aM=true) (hd:σ[d]? = some (.dict es)) (hv:bP n.cps.toList es=some v) (hh:jt v=true):Fo σ (.ref i) n v
inductive gB (C:ce) (σ:H):V→Str→V→Prop
 |inst {i c d:Nat}{n:Str}{es:List (List Nat×V)}{v:V}(h:σ[i]? = some (.inst c d)) (hc:(C.cls c).isSome=true) (hn:ck n cI=true) (hd:σ[d]? = some (.dict es)) (hv:bP n.cps.toList es=some v) (hh:jt v=true):gB C σ (.ref i) n v
 |fobj {o:V}{n:Str}{v:V}(h:Fo σ o n v):gB C σ o n v
inductive cY (C:ce) (σ:H):V→Str→V→H→Prop
 |inst {i c d:Nat}{n:Str}{es:List (List Nat×V)}{v:V}(h:σ[i]? = some (.inst c d)) (hc:(C.cls c).isSome=true) (hn:ck n cI=true) (hd:σ[d]? = some (.dict es)) (hz:es.length<900):cY C σ (.ref i) n v (σ.set d (.dict (aj n.cps.toList v es)))
 |fobj0 {i:Nat}{n:Str}{v:V}(h:σ[i]? = some (.fobj none)) (hn:ck n aM=true):cY C σ (.ref i) n v ((σ.set i (.fobj (some σ.length)))++[.dict [(n.cps.toList,v)]])
 |fobj {i d:Nat}{n:Str}{es:List (List Nat×V)}{v:V}(h:σ[i]? = some (.fobj (some d))) (hn:ck n aM=true) (hd:σ[d]? = some (.dict es)) (hz:es.length<900):cY C σ (.ref i) n v (σ.set d (.dict (aj n.cps.toList v es)))
inductive rz (σ:H):V→V→V→H→Prop
 |list {r:Nat}{k:Int}{xs:List V}{v:V}(h:σ[r]? = some (.list xs)) (h0:0≤k) (h1:k<xs.length) (hz:xs.length<af):rz σ (.ref r) (.int k) v (σ.set r (.list (xs.set k.toNat v)))
 |dict {r:Nat}{k:List Nat}{es:List (List Nat×V)}{v:V}(h:σ[r]? = some (.dict es)) (hz:es.length<1000):rz σ (.ref r) (.str k) v (σ.set r (.dict (aj k v es)))
end Mini
set_option autoImplicit false
noncomputable section
namespace Mini
open PySem
noncomputable def am (C:ce) (c:Addr) (n:Str):Option Addr:=(C.cls c).bind fun ms=>(ms.find? fun p=>cF p.1 n).map (·.2)
inductive xw (σ:H):V→Addr→Prop
 |mk {i c d:Nat}(h:σ[i]? = some (.inst c d)):xw σ (.ref i) c
inductive ly (σ:H):V→Str→Addr→Prop
 |mk {i c d:Nat}{n:Str}{es:List (List Nat×V)}(h:σ[i]? = some (.inst c d)) (hd:σ[d]? = some (.dict es)) (hn:bP n.cps.toList es=none):ly σ (.ref i) n c
noncomputable def range (a b:Int):List V:=(List.range (b - a).toNat).map fun(k:Nat)=>.int (a+(k:Int))
noncomputable def dR (xs:List V):List V:=(xs.zipIdx).map fun p=>.tuple [.int p.2,p.1]
noncomputable def a0 (us vs:List V):List V:=us.zipWith (fun x y=>.tuple [x,y]) vs
noncomputable def ia (n:Str) (l:List Str):Bool:=l.any (cF n)
noncomputable def zM (once:List Str) (nk:Str×NameKind):SK:=match nk.2 with
 |.local=>.loc
 |.cell=>match ia nk.1 once with
  |true=>.once
  |false=>.cell
 |.free=>.free
 |.globalImplicit=>.glob
 |.globalExplicit=>.glob
noncomputable def A5 (C:ce) (fv:Str→Option V) (nk:Str×NameKind):Option V:=match nk.2 with
 |.local=>none
 |.cell=>none
 |.free=>fv nk.1
 |.globalImplicit=>C.glob nk.1
 |.globalExplicit=>none
noncomputable def rA (C:ce) (once:List Str) (fv:Str→Option V) (nk:Str×NameKind):Slot:=⟨nk.1,zM once nk,A5 C fv nk⟩
noncomputable def cm (C:ce) (scope:Scope) (once:List Str) (fv:Str→Option V):P:=scope.names.map (rA C once fv)
noncomputable def lB:List (Str×V)→P→Option P
 |[],ρ=>some ρ
 |(n,v)::r,ρ=>(j8 n v ρ).bind fun ρ=>lB r ρ
noncomputable def br:List Str→Bool
 |[]=>true
 |n::r=>!ia n r&&br r
noncomputable def qz (cell:Bool) (f:Str→Bool) (nk:Str×NameKind):Bool:=match nk.2 with
 |.local=>true
 |.cell=>cell
 |.free=>f nk.1 && !(cF nk.1 "__classdict__")
 |.globalImplicit=>true
 |.globalExplicit=>true
noncomputable def qA (scope:Scope):Bool:=scope.kind == .function && !scope.isGenerator && !scope.isCoroutine&&br (scope.names.map (·.1))&&scope.names.all (qz true fun _=>true)
noncomputable def b0 (C:ce) (scope:Scope) (once:List Str) (binds caps:List (Str×V)):Option P:=match qA scope with
 |true=>lB binds (cm C scope once (bZ · caps))
 |false=>none
noncomputable def A6 {α:Type}(normal kwonly:List Str) (rest:Bool):List (Str×α)→Option (List (Str×α)×List (Str×α))
 |[]=>match kwonly with
  |[]=>some ([],[])
  |_::_=>none
 |x::r=>match r with
  |_::_=>none
  |[]=>match kwonly with
   |[]=>match rest && !ia x.1 normal with
    |true=>some ([],[x])
    |false=>none
   |n::m=>match m with
    |_::_=>none
    |[]=>match cF n x.1 with
     |true=>some ([x],[])
     |false=>none
noncomputable def nj (a:Option Arg) (l:List (Str×V)):List (Str×V):=match a with
 |none=>[]
 |some a=>[(a.arg,.dict (l.map fun e=>(e.1.cps.toList,e.2)))]
noncomputable def pb (p:Arguments) (args:List V) (kw:List (Str×V)):Option (List (Str×V)):=
 match p.posonlyargs.isEmpty&&p.vararg.isNone&&Nat.beq (p.args.map (·.arg)).length args.length&&br (p.args.map (·.arg)++p.kwonlyargs.map (·.arg)) with
 |false=>none
 |true=>(A6 (p.args.map (·.arg)) (p.kwonlyargs.map (·.arg)) p.kwarg.isSome kw).map fun x=>(p.args.map (·.arg)).zip args++x.1++nj p.kwarg x.2
noncomputable def rB (p:Arguments) (args:List V) (kw:List (Str×V)):Bool:=kw.isEmpty&&p.kwonlyargs.isEmpty&&p.kwarg.isNone&&p.posonlyargs.isEmpty&&p.vararg.isNone&&Nat.beq (p.args.map (·.arg)).length (args.length+1)&&br (p.args.map (·.arg))
noncomputable def bind (p:Arguments) (dn:Bool) (args:List V) (kw:List (Str×V)):Option (List (Str×V)):=match dn&&rB p args kw with
 |true=>some ((p.args.map (·.arg)).zip (args++[.none]))
 |false=>pb p args kw
noncomputable def aH (C:ce) (scope:Scope) (ρ:P):P:=cm C scope [] (lookup · ρ)
noncomputable def fh (s:Slot):Bool:=match s.kind with
 |.loc=>false
 |.cell=>true
 |.once=>true
 |.free=>s.val.isSome
 |.glob=>false
noncomputable def dy (n:Str):P→Bool
 |[]=>false
 |s::r=>match cF s.name n with
  |true=>fh s
  |false=>dy n r
noncomputable def rC (scope:Scope) (ρ:P):Bool:=scope.kind == .function&&br (scope.names.map (·.1))&&scope.names.all (qz false (dy · ρ))
noncomputable def wW (e:Expr):Bool:=Nat.beq e.ctorIdx 25
noncomputable def xy (i:It) (t:Expr):Bool:=match i with
 |.items b _ _=>!b||wW t
noncomputable def au:It→Bool
 |.items _ _ xs=>Nat.blt xs.length af
noncomputable def np:NameKind→Bool
 |.local=>false
 |.cell=>false
 |.free=>true
 |.globalImplicit=>false
 |.globalExplicit=>false
noncomputable def cJ (n:Str) (ρ:P):Option (Option V):=(ρ.find? fun s=>cF s.name n).bind fun s=>match hZ s.kind with
 |true=>some s.val
 |false=>none
noncomputable def co (ρ:P):List (Str×NameKind)→Option (List (Str×V))
 |[]=>some []
 |x::rest=>match np x.2 with
  |true=>(cJ x.1 ρ).bind fun o=>o.bind fun v=>(co ρ rest).map ((x.1,v) :: ·)
  |false=>co ρ rest
noncomputable def f9 (a:Arguments):Bool:=a.defaults.isEmpty&&a.kw_defaults.isEmpty&&a.posonlyargs.isEmpty&&a.kwonlyargs.isEmpty&&a.vararg.isNone&&a.kwarg.isNone&&a.args.all (·.annotation.isNone)
noncomputable def lC (n:Str) (ρ:P):Bool:=match cJ n ρ with
 |some o=>o.isNone
 |none=>false
noncomputable def lD (n:Str) (names:List (Str×NameKind)):Bool:=names.any fun nk=>cF nk.1 n&&np nk.2
noncomputable def pd (self:Str) (ρ:P) (names:List (Str×NameKind)):Option (List (Str×V)):=co ρ (names.filter fun nk=>!(cF nk.1 self))
inductive EV where
 |sub (o i:Expr)
 |slice (lo hi st:Option Expr)
 |attr (o:Expr) (n:Str) (p:Pos)
 |name (n:Str)
 |call (f:Expr) (args:List Expr) (kws:List Keyword)
 |str (s:List Nat)
 |tuple (ts:List Expr)
 |other
noncomputable def bz:Expr→EV
 |.Subscript o i _=>.sub o i
 |.Slice lo hi st _=>.slice lo hi st
 |.Attribute o n p=>.attr o n p
 |.Name n _=>.name n
 |.Call f a k _=>.call f a k
 |.Constant c _ _=>match c with
  |.str s=>.str s.cps.toList
  |_=>.other
 |.Tuple ts _ _=>.tuple ts
 |_=>.other
noncomputable def nq (e:Expr):Bool:=match bz e with
 |.attr .. =>true
 |_=>false
noncomputable def dS (e:Expr):Bool:=match bz e with
 |.call f args kws=>Nat.beq f.ctorIdx 23&&args.isEmpty&&kws.isEmpty
 |_=>false
noncomputable def uK (o:Expr) (apos pos:Pos) (args:List Expr) (kws:List Keyword):Bool:=!dS o&&Nat.beq apos.endLine pos.line&&Nat.blt (args.length+kws.length) 28
noncomputable def nr (e:Expr):Bool:=Nat.ble 8 e.ctorIdx&&Nat.ble e.ctorIdx 10
noncomputable def pe (t e:Expr):Bool:=Nat.beq t.ctorIdx 25&&Nat.beq e.ctorIdx 25||Nat.beq t.ctorIdx 24
noncomputable def aw (acc l:List (List Nat×V)):List (List Nat×V):=l.foldl (fun a e=>aj e.1 e.2 a) acc
inductive Wo where
 |v (x:V)
 |b (x:Bool)
 |l (xs:List V)
 |d (es:List (List Nat×V))
 |vh (x:V) (σ:H)
 |lh (xs:List V) (σ:H)
 |h (σ:H)
 |st (f:Fl) (ρ:P) (σ:H)
 |inst (a:Addr)
 |rex
 |meth (id:String)
 |fld (x:V)
noncomputable abbrev Ws:=List Wo
noncomputable def fj (v:V) (k:Int→Prop):Prop:=match v with
 |.int i=>k i
 |_=>False
noncomputable def lE (v:V) (k:List Nat→Prop):Prop:=match v with
 |.str s=>k s
 |_=>False
noncomputable def dz (v:V) (k:List V→Prop):Prop:=match v with
 |.list xs=>k xs
 |_=>False
noncomputable def pf (v:V) (k:Nat→Prop):Prop:=match v with
 |.ref i=>k i
 |_=>False
noncomputable def bd (b:Bool) (p:Prop):Prop:=match b with
 |true=>p
 |false=>False
noncomputable def uL {α:Type}(vs:List α) (k:α→Prop):Prop:=match vs with
 |x::vs=>bd vs.isEmpty (k x)
 |[]=>False
noncomputable def bo {α:Type}(o:Option α) (K:α→Prop):Prop:=match o with
 |some x=>K x
 |none=>False
noncomputable def m9 (b:Bool) (p q:Prop):Prop:=match b with
 |true=>p
 |false=>q
noncomputable def Wo.toV:Wo→Option V | .v x=>some x | _=>none
noncomputable def Wo.toB:Wo→Option Bool | .b x=>some x | _=>none
noncomputable def Wo.toL:Wo→Option (List V) | .l x=>some x | _=>none
noncomputable def Wo.toD:Wo→Option (List (List Nat×V)) | .d x=>some x | _=>none
noncomputable def Wo.toVH:Wo→Option (V×H) | .vh x σ=>some (x,σ) | _=>none
noncomputable def Wo.toLH:Wo→Option (List V×H) | .lh x σ=>some (x,σ) | _=>none
noncomputable def Wo.toH:Wo→Option H | .h σ=>some σ | _=>none
noncomputable def Wo.toS:Wo→Option (Fl×P×H) | .st f ρ σ=>some (f,ρ,σ) | _=>none
noncomputable def dA {α:Type}(f:Wo→Option α) (ws:Ws) (K:α→Ws→Prop):Prop:=match ws with
 |[]=>False
 |w::ws=>bo (f w) fun x=>K x ws
noncomputable abbrev nt (ws:Ws) (K:V→Ws→Prop):Prop:=dA Wo.toV ws K
noncomputable abbrev rD (ws:Ws) (K:Bool→Ws→Prop):Prop:=dA Wo.toB ws K
noncomputable abbrev uM (ws:Ws) (K:List V→Ws→Prop):Prop:=dA Wo.toL ws K
noncomputable abbrev uN (ws:Ws) (K:List (List Nat×V)→Ws→Prop):Prop:=dA Wo.toD ws K
noncomputable abbrev ju (ws:Ws) (K:V→H→Ws→Prop):Prop:=dA Wo.toVH ws fun p ws=>K p.1 p.2 ws
noncomputable abbrev zN (ws:Ws) (K:List V→H→Ws→Prop):Prop:=dA Wo.toLH ws fun p ws=>K p.1 p.2 ws
noncomputable abbrev A7 (ws:Ws) (K:H→Ws→Prop):Prop:=dA Wo.toH ws K
noncomputable abbrev A8 (ws:Ws) (K:Fl→P→H→Ws→Prop):Prop:=dA Wo.toS ws fun p ws=>K p.1 p.2.1 p.2.2 ws
noncomputable def kh (e:Expr):Bool:=!Nat.beq e.ctorIdx 22
noncomputable def ar (es:List Expr):Bool:=es.all kh
noncomputable def bC (ks:List Keyword):Bool:=ks.all fun k=>k.arg.isSome
noncomputable def rE (e:Expr):Bool:=Nat.beq e.ctorIdx 7
noncomputable def uO (e:Expr):Bool:=Nat.beq e.ctorIdx 9||Nat.beq e.ctorIdx 10
structure cT where
 E:Expr→P→H→Ws→(V→H→Ws→Prop)→Prop
 T:Expr→P→H→Ws→(Bool→H→Ws→Prop)→Prop
 I:Expr→P→H→Ws→(It→H→Ws→Prop)→Prop
 A:Expr→V→P→H→Ws→(P→H→Ws→Prop)→Prop
 S:Stmt→P→H→Ws→(Fl→P→H→Ws→Prop)→Prop
noncomputable def Bz:cT:=⟨fun _ _ _ _ _=>False,fun _ _ _ _ _=>False,fun _ _ _ _ _=>False,fun _ _ _ _ _ _=>False,fun _ _ _ _ _=>False⟩
section
variable (C:ce) (call:ad) (r:cT)
noncomputable def gc (ρ:P):List Expr→H→Ws→(List V→H→Ws→Prop)→Prop
 |[],σ,ws,K=>K [] σ ws
 |e::es,σ,ws,K=>r.E e ρ σ ws fun v σ ws=>gc ρ es σ ws fun vs σ ws=>K (v::vs) σ ws
noncomputable def lF (ρ:P):List Keyword→H→Ws→(List (Str×V)→H→Ws→Prop)→Prop
 |[],σ,ws,K=>K [] σ ws
 |k::ks,σ,ws,K=>match k.arg with
  |none=>False
  |some n=>r.E k.value ρ σ ws fun v σ ws=>lF ρ ks σ ws fun vs σ ws=>K ((n,v)::vs) σ ws
noncomputable def rF (ρ:P):List Expr→H→Ws→(V→H→Ws→Prop)→Prop
 |[],_,_,_=>False
 |e::es,σ,ws,K=>match es with
  |[]=>r.E e ρ σ ws K
  |_::_=>r.E e ρ σ ws fun v σ ws=>rD ws fun t ws=>Tr σ v t∧m9 t (rF ρ es σ ws K) (K v σ ws)
noncomputable def xz (ρ:P):List Expr→H→Ws→(V→H→Ws→Prop)→Prop
 |[],_,_,_=>False
 |e::es,σ,ws,K=>match es with
  |[]=>r.E e ρ σ ws K
  |_::_=>r.E e ρ σ ws fun v σ ws=>rD ws fun t ws=>Tr σ v t∧m9 t (K v σ ws) (xz ρ es σ ws K)
noncomputable def nu (ρ:P):List Expr→H→Ws→(Bool→H→Ws→Prop)→Prop
 |[],σ,ws,K=>K true σ ws
 |e::es,σ,ws,K=>r.T e ρ σ ws fun t σ ws=>m9 t (nu ρ es σ ws K) (K false σ ws)
noncomputable def rG (ρ:P):List Expr→H→Ws→(Bool→H→Ws→Prop)→Prop
 |[],σ,ws,K=>K false σ ws
 |e::es,σ,ws,K=>r.T e ρ σ ws fun t σ ws=>m9 t (K true σ ws) (rG ρ es σ ws K)
noncomputable def lG (ρ:P):V→List CmpOp→List Expr→H→Ws→(Bool→H→Ws→Prop)→Prop
 |_,[],_,_,_,_=>False
 |a,op::ops,es,σ,ws,K=>match es with
  |[]=>False
  |e::es=>r.E e ρ σ ws fun b σ ws=>rD ws fun t ws=>Cm σ op a b t∧match ops with
   |[]=>K t σ ws
   |_::_=>m9 t (lG ρ b ops es σ ws K) (K false σ ws)
noncomputable def gM (ρ:P):List (Option Expr)→List Expr→H→Ws→(List (List Nat×V)→H→Ws→Prop)→Prop
 |[],vs,σ,ws,K=>match vs with
  |[]=>K [] σ ws
  |_::_=>False
 |k::ks,vs,σ,ws,K=>match k,vs with
  |some k,v::vs=>r.E k ρ σ ws fun kv σ ws=>lE kv fun s=>r.E v ρ σ ws fun vv σ ws=>gM ρ ks vs σ ws fun l σ ws=>K ((s,vv)::l) σ ws
  |_,_=>False
noncomputable def fk (ks:List (Option Expr)) (vs:List Expr):Option (Expr×Expr):=match ks with
 |none::ks=>match ks with
  |[none]=>match vs with
   |a::vs=>match vs with
    |[b]=>some (a,b)
    |_=>none
   |_=>none
  |_=>none
 |_=>none
noncomputable def nv (ρ:P) (ks:List (Option Expr)) (vs:List Expr) (σ:H) (ws:Ws) (K:List (List Nat×V)→H→Ws→Prop):Prop:=match fk ks vs with
 |some p=>r.E p.1 ρ σ ws fun x σ ws=>uN ws fun ea ws=>(DO σ x ea∧ea.length<1000)∧r.E p.2 ρ σ ws fun y σ ws=>uN ws fun eb ws=>(DO σ y eb∧eb.length<1000)∧K (aw (aw [] ea) eb) σ ws
 |none=>bd (Nat.blt ks.length 15&&ks.all (·.isSome)&&Nat.beq ks.length vs.length) (gM r ρ ks vs σ ws fun l σ ws=>K (aw [] l) σ ws)
noncomputable def ey (ρ:P):List Expr→H→Ws→(Bool→H→Ws→Prop)→Prop
 |[],σ,ws,K=>K true σ ws
 |e::es,σ,ws,K=>r.T e ρ σ ws fun t σ ws=>m9 t (ey ρ es σ ws K) (K false σ ws)
noncomputable def ph (g:Option Nat) (xs0:List V) (σ:H) (p:Prop):Prop:=match g with
 |none=>p
 |some i=>σ[i]? = some (.list xs0)∧p
noncomputable def cU (elt target:Expr) (ifs:List Expr) (g:Option Nat) (xs0:List V):List V→P→H→(List V→H→Prop)→Prop
 |[],_,σ,K=>ph g xs0 σ (K [] σ)
 |x::xs,ρ,σ,K=>ph g xs0 σ (∃ws,r.A target x ρ σ ws fun ρ σ ws=>ey r ρ ifs σ ws fun t σ ws=>
  m9 t (r.E elt ρ σ ws fun v σ _=>cU elt target ifs g xs0 xs ρ σ fun vs σ=>K (v::vs) σ) (cU elt target ifs g xs0 xs ρ σ K))
noncomputable def zO (elt target:Expr) (ifs:List Expr) (it:It) (ρ:P) (σ:H) (vs:List V) (σ':H):Prop:=match it with
 |.items _ g xs=>cU r elt target ifs g xs xs ρ σ fun vs' σ2=>vs'=vs∧σ2=σ'
noncomputable def dT:List Stmt→P→H→Ws→(Fl→P→H→Ws→Prop)→Prop
 |[],ρ,σ,ws,K=>K .next ρ σ ws
 |s::ss,ρ,σ,ws,K=>r.S s ρ σ ws fun f ρ σ ws=>match f with
  |.next=>dT ss ρ σ ws K
  |f=>K f ρ σ ws
noncomputable def bu (target:Expr) (body:List Stmt) (g:Option Nat) (xs0:List V):List V→P→H→(Fl→P→H→Prop)→Prop
 |[],ρ,σ,K=>ph g xs0 σ (K .next ρ σ)
 |x::xs,ρ,σ,K=>ph g xs0 σ (∃ws,r.A target x ρ σ ws fun ρ σ ws=>dT r body ρ σ ws fun f ρ σ _=>match f with
  |.next=>bu target body g xs0 xs ρ σ K
  |.cont=>bu target body g xs0 xs ρ σ K
  |.brk=>K .next ρ σ
  |.ret v=>K (.ret v) ρ σ)
noncomputable def lH (target:Expr) (body:List Stmt) (it:It) (ρ:P) (σ:H) (f:Fl) (ρ':P) (σ':H):Prop:=match it with
 |.items _ g xs=>bu r target body g xs xs ρ σ fun f2 ρ2 σ2=>f2=f∧ρ2=ρ'∧σ2=σ'
noncomputable def uP:List Expr→List V→P→H→Ws→(P→H→Ws→Prop)→Prop
 |[],vs,ρ,σ,ws,K=>match vs with
  |[]=>K ρ σ ws
  |_::_=>False
 |t::ts,vs,ρ,σ,ws,K=>match vs with
  |[]=>False
  |v::vs=>r.A t v ρ σ ws fun ρ σ ws=>uP ts vs ρ σ ws K
noncomputable def ny (ρ:P) (o:Option Expr) (σ:H) (ws:Ws) (K:Option Int→H→Ws→Prop):Prop:=match o with
 |none=>K none σ ws
 |some e=>r.E e ρ σ ws fun v σ ws=>fj v fun i=>(-(2 ^ 62)<i∧i<2 ^ 62)∧K (some i) σ ws
noncomputable def pi (f:V) (args:List V) (kw:List (Str×V)) (σ:H) (ws:Ws) (K:V→H→Ws→Prop):Prop:=match f with
 |.val f=>match f with
  |.ref a=>ju ws fun v σ' ws=>call (.val (.ref a)) args kw σ v σ'∧K v σ' ws
  |f=>bd kw.isEmpty (nt ws fun v ws=>ay σ f args v∧K v σ ws)
 |.bm id self=>bd (id == "list.append" && kw.isEmpty) (pf self fun i=>uL args fun x=>uM ws fun xs ws=>(σ[i]? = some (.list xs)∧xs.length<af)∧K .none (σ.set i (.list (xs++[x]))) ws)
 |.clo d c s=>ju ws fun v σ' ws=>call (.clo d c s) args kw σ v σ'∧K v σ' ws
 |_=>False
noncomputable def xA (e:Expr):Option (List Nat):=match bz e with
 |.str s=>some s
 |_=>none
noncomputable def rH:V→Option (List Nat)
 |.tstr p=>some p
 |_=>none
noncomputable def rI (ρ:P) (e:Expr):Option (List Nat):=match bz e with
 |.str p=>some p
 |.name n=>match cF n "__debug__" with
  |true=>none
  |false=>(lookup n ρ).bind rH
 |_=>none
noncomputable def nA (o:Expr) (args:List Expr) (kws:List Keyword) (ρ:P) (σ:H) (ws:Ws) (K:V→H→Ws→Prop):Prop:=match kws with
 |[]=>match args with
  |a::args=>match args with
   |[b]=>bo (xA b) fun q=>r.E o ρ σ ws fun ov σ ws=>lE ov fun s=>bo (rI ρ a) fun p=>nt ws fun v ws=>xv s p q v∧K v σ ws
   |_=>False
  |_=>False
 |_::_=>False
noncomputable def nB (e:Expr):Option (Expr×Expr):=match bz e with
 |.call g xs ks=>match bz g with
  |.name n=>match cF n "reversed" && ks.isEmpty&&ar xs with
   |true=>match xs with
    |[]=>none
    |x::xs=>match xs with
     |[]=>some (g,x)
     |_::_=>none
   |false=>none
  |_=>none
 |_=>none
noncomputable def pj (args:List Expr) (kws:List Keyword):Option (Expr×Expr):=match kws with
 |[]=>match args with
  |[]=>none
  |a::args=>match args with
   |[]=>nB a
   |_::_=>none
 |_::_=>none
noncomputable def ki (f:Expr) (p:Expr×Expr) (ρ:P) (σ:H) (ws:Ws) (K:V→H→Ws→Prop):Prop:=r.E f ρ σ ws fun fv σ ws=>r.E p.1 ρ σ ws fun gv σ ws=>(fv = .val (.type "list")∧gv = .val (.type "reversed"))∧r.E p.2 ρ σ ws fun v σ ws=>dz v fun xs=>xs.length<af∧K (.list xs.reverse) σ ws
noncomputable def gd (f:Expr) (args:List Expr) (kws:List Keyword) (ρ:P) (σ:H) (ws:Ws) (K:V→H→Ws→Prop):Prop:=match pj args kws with
 |some p=>ki r f p ρ σ ws K
 |none=>bd (ar args&&bC kws) (r.E f ρ σ ws fun fv σ ws=>gc r ρ args σ ws fun vs σ ws=>lF r ρ kws σ ws fun kw σ ws=>pi call fv vs kw σ ws K)
noncomputable def wX (a:Addr) (ov:V) (name:Str) (args:List Expr) (kws:List Keyword) (ρ:P) (σ:H) (ws:Ws) (K:V→H→Ws→Prop):Prop:=
 (∃c,ly σ ov name c∧am C c name=some a)∧gc r ρ args σ ws fun vs σ ws=>lF r ρ kws σ ws fun kw σ ws=>ju ws fun v σ' ws=>call (.val (.ref a)) (ov::vs) kw σ v σ'∧K v σ' ws
noncomputable def zP (ov:V) (name:Str) (args:List Expr) (kws:List Keyword) (ρ:P) (σ:H) (ws:Ws) (K:V→H→Ws→Prop):Prop:=match ov with
 |.val u=>match u with
  |.ref a=>bd (C.rex a&&cF name "search" && kws.isEmpty) (gc r ρ args σ ws fun vs σ ws=>uL vs fun x=>lE x fun s=>(bR s=true∧s.length<af)∧K .none σ ws)
  |_=>False
 |_=>False
noncomputable def wY (id:String) (ov:V) (name:Str) (args:List Expr) (kws:List Keyword) (ρ:P) (σ:H) (ws:Ws) (K:V→H→Ws→Prop):Prop:=dN σ ov name id∧bd kws.isEmpty (gc r ρ args σ ws fun vs σ ws=>ju ws fun v σ' ws=>aF σ id ov vs v σ'∧K v σ' ws)
noncomputable def zQ (fv:V) (ov:V) (name:Str) (args:List Expr) (kws:List Keyword) (ρ:P) (σ:H) (ws:Ws) (K:V→H→Ws→Prop):Prop:=
 Fo σ ov name fv∧gc r ρ args σ ws fun vs σ ws=>lF r ρ kws σ ws fun kw σ ws=>pi call fv vs kw σ ws K
noncomputable def rJ (ov:V) (name:Str) (args:List Expr) (kws:List Keyword) (ρ:P) (σ:H) (ws:Ws) (K:V→H→Ws→Prop):Prop:=match ws with
 |[]=>False
 |w::ws=>match w with
  |.inst a=>wX C call r a ov name args kws ρ σ ws K
  |.rex=>zP C r ov name args kws ρ σ ws K
  |.meth id=>wY r id ov name args kws ρ σ ws K
  |.fld fv=>zQ call r fv ov name args kws ρ σ ws K
  |_=>False
noncomputable def xB (ov:V) (name:Str) (σ:H) (ws:Ws) (K:V→H→Ws→Prop):Prop:=match ws with
 |[]=>False
 |w::ws=>match w with
  |.fld v=>gB C σ ov name v∧K v σ ws
  |.l xs=>bd (cF name "append") (LO σ ov xs∧K (.bm "list.append" ov) σ ws)
  |_=>False
noncomputable def bv (e:Expr) (ρ:P) (σ:H) (ws:Ws) (K:V→H→Ws→Prop):Prop:=match e with
 |.Constant c _ _=>match c with
  |.none=>K .none σ ws
  |.bool b=>K (.bool b) σ ws
  |.int i=>K (.int i) σ ws
  |.str s=>K (.str s.cps.toList) σ ws
  |_=>False
 |.Name n _=>bd (!cF n "__debug__") (bo (lookup n ρ) fun v=>K v σ ws)
 |.BoolOp op vs _=>match op with
  |.And=>rF r ρ vs σ ws K
  |.Or=>xz r ρ vs σ ws K
 |.BinOp a op b pos=>r.E a ρ σ ws fun x σ ws=>r.E b ρ σ ws fun y σ ws=>nt ws fun v ws=>ah σ op x y v∧K (o9 (C.hint pos) x y v σ).1 (o9 (C.hint pos) x y v σ).2 ws
 |.UnaryOp op a _=>match op with
  |.Not=>r.E a ρ σ ws fun x σ ws=>rD ws fun t ws=>Tr σ x t∧K (.bool (!t)) σ ws
  |op=>r.E a ρ σ ws fun x σ ws=>nt ws fun v ws=>bS op x v∧K v σ ws
 |.Lambda args body scope pos=>bd (ff ρ&&f9 args&&br (scope.names.map (·.1))) (bo (co ρ scope.names) fun caps=>
   m9 (C.hint pos) (bd caps.isEmpty (K (.ref σ.length) (σ++[.fobj none]) ws)) (K (.clo ⟨args.args.map (·.arg),.expr body,scope,[]⟩ caps none) σ ws))
 |.IfExp t a b _=>r.T t ρ σ ws fun t σ ws=>m9 t (r.E a ρ σ ws K) (r.E b ρ σ ws K)
 |.Dict ks vs pos=>nv r ρ ks vs σ ws fun es σ ws=>K (aD (C.hint pos) (.dict es) (.dict es) σ).1 (aD (C.hint pos) (.dict es) (.dict es) σ).2 ws
 |.List es pos=>bd (Nat.blt es.length af&&ar es) (gc r ρ es σ ws fun vs σ ws=>K (aD (C.hint pos) (.list vs) (.list vs) σ).1 (aD (C.hint pos) (.list vs) (.list vs) σ).2 ws)
 |.Tuple es _ _=>bd (Nat.blt es.length af&&ar es) (gc r ρ es σ ws fun vs σ ws=>K (.tuple vs) σ ws)
 |.ListComp elt gens scope pos=>match gens with
  |[]=>False
  |g::gs=>bd (gs.isEmpty&&g.is_async==0 && !rE g.iter&&rC scope ρ) (r.I g.iter ρ σ ws fun it σ ws=>bd (xy it g.target) (au it=true∧zN ws fun vs σ' ws=>
    zO r elt g.target g.ifs it (aH C scope ρ) σ vs σ'∧K (aD (C.hint pos) (.list vs) (.list vs) σ').1 (aD (C.hint pos) (.list vs) (.list vs) σ').2 ws))
 |.Compare a ops bs _=>bd (!lastMarks ops bs&&Nat.beq ops.length bs.length) (r.E a ρ σ ws fun x σ ws=>lG r ρ x ops bs σ ws fun t σ ws=>K (.bool t) σ ws)
 |.Call f args kws pos=>match bz f with
  |.attr o name apos=>bd (uK o apos pos args kws&&ar args&&bC kws) (m9 (cF name "replace") (nA r o args kws ρ σ ws K) (r.E o ρ σ ws fun ov σ ws=>rJ C call r ov name args kws ρ σ ws K))
  |_=>gd call r f args kws ρ σ ws K
 |.Attribute o name _=>bd (!dS o) (r.E o ρ σ ws fun ov σ ws=>xB C ov name σ ws K)
 |.Subscript o i pos=>r.E o ρ σ ws fun ov σ ws=>match bz i with
  |.slice lo hi st=>bd st.isNone (ny r ρ lo σ ws fun lo σ ws=>ny r ρ hi σ ws fun hi σ ws=>nt ws fun v ws=>aW σ ov lo hi v∧K (kg (C.hint pos) v σ).1 (kg (C.hint pos) v σ).2 ws)
  |_=>r.E i ρ σ ws fun iv σ ws=>nt ws fun v ws=>bx σ ov iv v∧K v σ ws
 |_=>False
noncomputable def uQ (e:Expr) (ρ:P) (σ:H) (ws:Ws) (K:Bool→H→Ws→Prop):Prop:=bv C call r e ρ σ ws fun v σ ws=>rD ws fun t ws=>Tr σ v t∧K t σ ws
noncomputable def rK (e:Expr) (ρ:P) (σ:H) (ws:Ws) (K:Bool→H→Ws→Prop):Prop:=match e with
 |.UnaryOp op a pos=>match op with
  |.Not=>r.T a ρ σ ws fun t σ ws=>K (!t) σ ws
  |op=>uQ C call r (.UnaryOp op a pos) ρ σ ws K
 |.BoolOp op vs _=>match op with
  |.And=>nu r ρ vs σ ws K
  |.Or=>rG r ρ vs σ ws K
 |.IfExp t a b _=>r.T t ρ σ ws fun t σ ws=>m9 t (r.T a ρ σ ws K) (r.T b ρ σ ws K)
 |.Compare a ops bs _=>bd (!lastMarks ops bs&&Nat.beq ops.length bs.length) (r.E a ρ σ ws fun x σ ws=>lG r ρ x ops bs σ ws K)
 |e=>uQ C call r e ρ σ ws K
noncomputable def dB (e:Expr) (ρ:P) (σ:H) (ws:Ws) (K:It→H→Ws→Prop):Prop:=r.E e ρ σ ws fun v σ ws=>match v with
 |.ref i=>uM ws fun xs ws=>σ[i]? = some (.list xs)∧K (.items false (some i) xs) σ ws
 |v=>ke v fun xs=>K (.items false none xs) σ ws
inductive Mk where
 |one (a:Expr)
 |two (a b:Expr)
noncomputable def rL (args:List Expr):Option Mk:=match args with
 |a::as=>match as with
  |[]=>some (.one a)
  |b::bs=>match bs with
   |[]=>some (.two a b)
   |_::_=>none
 |[]=>none
noncomputable def made (t:String) (x:Mk) (ρ:P) (σ:H) (ws:Ws) (K:It→H→Ws→Prop) (els:Prop):Prop:=match x with
 |.one a=>if t == "enumerate" then r.E a ρ σ ws fun v σ ws=>ke v fun xs=>K (.items true none (dR xs)) σ ws
  else if t == "reversed" then r.E a ρ σ ws fun v σ ws=>dz v fun xs=>K (.items false none xs.reverse) σ ws
  else if t == "range" then r.E a ρ σ ws fun v σ ws=>fj v fun n=>n.natAbs<4096∧K (.items false none (range 0 n)) σ ws
  else els
 |.two a b=>if t == "zip" then r.E a ρ σ ws fun v σ ws=>r.E b ρ σ ws fun u σ ws=>dz v fun xs=>dz u fun ys=>K (.items true none (a0 xs ys)) σ ws
  else if t == "range" then r.E a ρ σ ws fun v σ ws=>r.E b ρ σ ws fun u σ ws=>fj v fun m=>fj u fun n=>(m.natAbs<4096∧n.natAbs<4096)∧K (.items false none (range m n)) σ ws
  else els
noncomputable def uR:V→Option String
 |.val u=>match u with
  |.type t=>some t
  |_=>none
 |_=>none
noncomputable def zR:Expr→Pos
 |.Call _ _ _ p=>p
 |_=>default
noncomputable def wZ (o:Expr) (ρ:P) (σ:H) (ws:Ws) (K:It→H→Ws→Prop):Prop:=r.E o ρ σ ws fun v σ ws=>match v with
 |.dict es=>bd es.isEmpty (K (.items true none []) σ ws)
 |_=>False
noncomputable def rM (e:Expr) (ρ:P) (σ:H) (ws:Ws) (K:It→H→Ws→Prop):Prop:=match bz e with
 |.call f args kws=>match bz f with
  |.name n=>match kws with
   |_::_=>dB r e ρ σ ws K
   |[]=>match rL args with
    |none=>dB r e ρ σ ws K
    |some m=>bo (lookup n ρ) fun fv=>match uR fv with
     |none=>dB r e ρ σ ws K
     |some t=>bd (ar args && !cF n "__debug__") (made r t m ρ σ ws K (dB r e ρ σ ws K))
  |.attr o name p=>match cF name "items" && args.isEmpty&&kws.isEmpty&&uK o p (zR e) args kws with
   |true=>wZ r o ρ σ ws K
   |false=>dB r e ρ σ ws K
  |_=>dB r e ρ σ ws K
 |_=>dB r e ρ σ ws K
noncomputable def rN (ov iv v:V) (σ:H) (ws:Ws) (K:H→Ws→Prop):Prop:=match ws with
 |[]=>False
 |w::ws=>match w with
  |.inst a=>(∃c,xw σ ov c∧am C c "__setitem__" = some a)∧ju ws fun u σ' ws=>call (.val (.ref a)) [ov,iv,v] [] σ u σ'∧K σ' ws
  |.h σ'=>rz σ ov iv v σ'∧K σ' ws
  |_=>False
noncomputable def rO (ov iv:V) (σ:H) (ws:Ws) (K:H→Ws→Prop):Prop:=match ws with
 |[]=>False
 |w::ws=>match w with
  |.inst a=>(∃c,xw σ ov c∧am C c "__delitem__" = some a)∧ju ws fun u σ' ws=>call (.val (.ref a)) [ov,iv] [] σ u σ'∧K σ' ws
  |_=>False
noncomputable def lI (t:Expr) (v:V) (ρ:P) (σ:H) (ws:Ws) (K:P→H→Ws→Prop):Prop:=match bz t with
 |.name n=>bo (j8 n v ρ) fun ρ=>K ρ σ ws
 |.tuple ts=>match v with
  |.tuple vs=>bd (ar ts&&Nat.beq ts.length vs.length) (uP r ts vs ρ σ ws K)
  |_=>False
 |.attr o name _=>r.E o ρ σ ws fun ov σ ws=>A7 ws fun σ' ws=>cY C σ ov name v σ'∧K ρ σ' ws
 |.sub o i=>r.E o ρ σ ws fun ov σ ws=>match bz i with
  |.slice lo hi st=>bd (lo.isNone&&hi.isNone&&st.isNone) (pf ov fun k=>uM ws fun ys ws=>uM ws fun xs ws=>(σ[k]? = some (.list xs)∧LO σ v ys∧xs.length<af∧ys.length<af)∧K ρ (σ.set k (.list ys)) ws)
  |_=>r.E i ρ σ ws fun iv σ ws=>rN C call ov iv v σ ws (K ρ)
 |_=>False
noncomputable def dU (s:Stmt) (ρ:P) (σ:H) (ws:Ws) (K:Fl→P→H→Ws→Prop):Prop:=match s with
 |.Expr e _=>bd (!nr e) (r.E e ρ σ ws fun _ σ ws=>K .next ρ σ ws)
 |.Pass _=>K .next ρ σ ws
 |.Return e _=>match e with
  |none=>K (.ret .none) ρ σ ws
  |some e=>r.E e ρ σ ws fun v σ ws=>K (.ret v) ρ σ ws
 |.Assign ts e _=>match ts with
  |[]=>False
  |t::ts=>bd (ts.isEmpty && !pe t e && !uO e&&kh t) (r.E e ρ σ ws fun v σ ws=>r.A t v ρ σ ws fun ρ σ ws=>K .next ρ σ ws)
 |.Delete ts _=>match ts with
  |[]=>False
  |t::ts=>bd ts.isEmpty (match bz t with
   |.sub o i=>r.E o ρ σ ws fun ov σ ws=>r.E i ρ σ ws fun iv σ ws=>rO C call ov iv σ ws fun σ' ws=>K .next ρ σ' ws
   |_=>False)
 |.If t a b _=>r.T t ρ σ ws fun t σ ws=>m9 t (dT r a ρ σ ws K) (dT r b ρ σ ws K)
 |.For target iter body orelse _=>bd (orelse.isEmpty && !rE iter) (r.I iter ρ σ ws fun it σ ws=>bd (xy it target) (A8 ws fun f ρ' σ' ws=>lH r target body it ρ σ f ρ' σ'∧K f ρ' σ' ws))
 |.Try body hs orelse final _=>bd (!hs.isEmpty&&orelse.isEmpty&&final.isEmpty) (dT r body ρ σ ws K)
 |.FunctionDef name args body decos rets tps scope _ bnd _=>
  bd (ff ρ&&f9 args&&br (scope.names.map (·.1))&&decos.isEmpty&&tps.isEmpty&&rets.isNone&&cF name bnd&&lC name ρ&&lD name scope.names)
  (bo (pd name ρ scope.names) fun caps=>bo (j8 name (.clo ⟨args.args.map (·.arg),.stmts body,scope,[]⟩ caps (some name)) ρ) fun ρ=>K .next ρ σ ws)
 |_=>False
noncomputable def step:cT:=⟨bv C call r,rK C call r,rM r,lI C call r,dU C call r⟩
end
noncomputable def ev (C:ce) (call:ad):Nat→cT
 |0=>Bz
 |n+1=>step C call (ev C call n)
noncomputable def jb:Nat:=40
noncomputable def jv:Fl→V
 |.next=>.none
 |.brk=>.none
 |.cont=>.none
 |.ret v=>v
inductive zS (σ:H):V→V→Prop
 |list {i:Nat}{xs:List V}(h:σ[i]? = some (.list xs)) (hn:j9 xs=true):zS σ (.ref i) (.list xs)
 |val {v:V}(hn:zK v=true):zS σ v v
noncomputable def ag (C:ce) (call:ad) (b:List Stmt) (ρ:P) (σ:H) (v:V) (σ':H):Prop:=∃ws,dT (ev C call jb) b ρ σ ws fun f _ σ2 _=>jv f=v∧σ2=σ'
noncomputable def lJ (C:ce) (call:ad) (fi:qy) (args:List V) (kw:List (Str×V)) (σ:H) (v:V) (σ':H):Prop:=
 bo (bind fi.params fi.dn args kw) fun binds=>bo (b0 C fi.scope fi.once binds []) fun ρ=>ag C call fi.body ρ σ v σ'
noncomputable def ic (C:ce) (call:ad) (d:m8) (args:List V) (caps:List (Str×V)) (σ:H) (v:V) (σ':H):Prop:=
 bd (Nat.beq d.params.length args.length&&br d.params) (bo (b0 C d.scope [] (d.params.zip args) caps) fun ρ=>match d.body with
  |.stmts b=>ag C call b ρ σ v σ'
  |.expr e=>∃ws,(ev C call jb).E e ρ σ ws fun v2 σ2 _=>v2=v∧σ2=σ')
noncomputable def bq (f:V):Option Str→List (Str×V)
 |some s=>[(s,f)]
 |none=>[]
noncomputable def bO (C:ce) (call:ad) (fi:qy) (args:List V) (kw:List (Str×V)) (σ:H) (v:V) (σ':H):Prop:=match fi.mode with
 |.raw=>lJ C call fi args kw σ v σ'
 |.pure=>bd kw.isEmpty (σ'=σ∧j9 args=true∧∃v0 σ0,lJ C call fi args [] [] v0 σ0∧zS σ0 v0 v)
noncomputable def ie (C:ce) (call:ad) (a:Addr) (args:List V) (kw:List (Str×V)) (σ:H) (v:V) (σ':H):Prop:=
 bo (am C a "__init__") fun m=>call (.val (.ref m)) (.ref (σ.length+1)::args) kw (σ++[.dict [],.inst a σ.length]) .none σ'∧v = .ref (σ.length+1)
noncomputable def ab (C:ce):Nat→ad
 |0=>fun _ _ _ _ _ _=>False
 |n+1=>fun f args kw σ v σ'=>match f with
  |.val u=>match u with
   |.ref a=>match C.fns a with
    |some fi=>bO C (ab C n) fi args kw σ v σ'
    |none=>ie C (ab C n) a args kw σ v σ'
   |_=>False
  |.clo d caps self=>bd kw.isEmpty (ic C (ab C n) d args (bq f self++caps) σ v σ')
  |_=>False
end Mini
end
set_option autoImplicit false
namespace Mini
open PySem
noncomputable def uS:Stmt→Option (Str×Arguments×List Stmt×Scope)
 |.FunctionDef m a b _ _ _ sc _ _ _=>some (m,a,b,sc)
 |.ClassDef m _ _ b _ _ sc _ _ _ _=>some (m,⟨[],[],none,[],[],none,[]⟩,b,sc)
 |_=>none
noncomputable def kj (n:String):List Stmt→Option (Arguments×List Stmt×Scope)
 |[]=>none
 |s::r=>match (uS s).bind fun p=>(match cF p.1 n with | true=>some p.2 | false=>none) with
  |some p=>some p
  |none=>kj n r
noncomputable def uT (n:String) (l:List Stmt):List Stmt:=((kj n l).map fun p=>p.2.1).getD []
structure zC where
 a:Nat
 n:String
 cls:Bool
 m:ru
 o:List Str
 d:Bool
noncomputable def lK (top hb:List Stmt) (r:zC):Option qy:=(kj r.n (match r.cls with | true=>hb | false=>top)).map fun p=>⟨p.1,p.2.1,p.2.2,r.o,r.m,r.d⟩
noncomputable def rP (top hb:List Stmt):List zC→Addr→Option qy
 |[],_=>none
 |r::l,a=>match Nat.beq r.a a with
  |true=>lK top hb r
  |false=>rP top hb l a
noncomputable def lL:List (String×Value):=["str","int","list","type","enumerate","reversed","zip","range"].map fun s=>(s,.type s)
noncomputable def builtins:List (String×Value):=["len","sum","min","max","divmod"].map fun s=>(s,.builtin s)
noncomputable def rQ (n:Str):List (String×Value)→Option V
 |[]=>none
 |(k,a)::r=>match cF k n with
  |true=>some (.val a)
  |false=>rQ n r
noncomputable def rR (l:List (String×Value)) (n:Str):Option V:=match cF "_DIV_LIMIT" n with
 |true=>some (.int 4000)
 |false=>rQ n (l++lL++builtins)
end Mini
namespace Mini
open PySem
noncomputable def xD:List Stmt:=PySem.Challenge.pw_wb0097_02.main.body
noncomputable def BA:List Stmt:=uT "Headers" xD
noncomputable def fnT1:List zC:=[⟨239,"SubElement",false,.raw,[],false⟩,⟨246,"_serialize_text",false,.raw,[],false⟩,⟨260,"_escape_cdata",false,.pure,[],false⟩,⟨267,"_escape_attrib",false,.pure,[],false⟩,⟨274,"_escape_attrib_html",false,.pure,[],false⟩,⟨281,"_escape_cdata_c14n",false,.pure,[],false⟩,⟨288,"_escape_attrib_c14n",false,.pure,[],false⟩,⟨195,"_div2n1n",false,.pure,[],false⟩,⟨209,"_int2digits",false,.pure,["a_digits","n","inner"],false⟩,⟨216,"_digits2int",false,.raw,["digits","n","inner"],false⟩,⟨223,"_divmod_pos",false,.pure,[],false⟩,⟨230,"int_divmod",false,.pure,[],false⟩,⟨295,"_law_element",false,.raw,["made"],false⟩,⟨302,"_law_texts",false,.raw,[],false⟩,⟨309,"_law_held",false,.pure,[],false⟩,⟨314,"_law_pass",false,.pure,[],false⟩,⟨319,"_law_heights",false,.pure,[],false⟩,⟨326,"_law_mirror",false,.pure,[],false⟩,⟨331,"law",false,.raw,[],false⟩,⟨76,"__init__",true,.raw,[],true⟩,⟨83,"_convert_string_type",true,.raw,[],false⟩,⟨97,"__setitem__",true,.raw,[],false⟩,⟨102,"__delitem__",true,.raw,[],false⟩,⟨131,"get",true,.raw,[],true⟩,⟨148,"items",true,.raw,[],false⟩,⟨136,"keys",true,.raw,[],false⟩,⟨181,"add_header",true,.raw,[],false⟩]
noncomputable def nF:List (String×Value):=[("SubElement",.ref 239),("_serialize_text",.ref 246),("_escape_cdata",.ref 260),("_escape_attrib",.ref 267),("_escape_attrib_html",.ref 274),("_escape_cdata_c14n",.ref 281),("_escape_attrib_c14n",.ref 288),
 ("_div2n1n",.ref 195),("_int2digits",.ref 209),("_digits2int",.ref 216),("_divmod_pos",.ref 223),("int_divmod",.ref 230),("_name_disallowed_re",.ref 48),("_value_disallowed_re",.ref 53),("Headers",.ref 184),
 ("_law_element",.ref 295),("_law_texts",.ref 302),("_law_held",.ref 309),("_law_pass",.ref 314),("_law_heights",.ref 319),("_law_mirror",.ref 326)]
noncomputable def hints1:List (Nat×Nat×Nat):=[(21,54,56),(66,15,44),(72,15,31),(87,16,18),(128,15,52),(156,15,17),(176,13,32),(260,11,23),(265,17,19),(325,12,14),(328,11,74)]
noncomputable def C1:ce where
 fns:=rP xD BA fnT1
 glob:=rR nF
 cls:=fun a=>if a=184 then some [("__init__",76),("_convert_string_type",83),("__setitem__",97),("__delitem__",102),("get",131),("items",148),("keys",136),("add_header",181)] else none
 rex:=fun a=>a==48||a==53
 hint:=fun p=>hints1.any fun l=>p.line==l.1&&p.col==l.2.1&&p.endCol==l.2.2
end Mini
set_option autoImplicit false
namespace Mini
open PySem
noncomputable def bJ (a:Addr):qy:=(C1.fns a).getD ⟨⟨[],[],none,[],[],none,[]⟩,[],default,[],.raw,false⟩
noncomputable def nP:Stmt:=.Pass default
noncomputable def nE:Expr:=.Tuple [] default default
noncomputable def st (a i:Nat):Stmt:=((bJ a).body.drop i).headD nP
noncomputable def bl:Stmt→Expr×List Stmt
 |.For t _ b _ _=>(t,b)
 |_=>(nE,[])
noncomputable def AV:Stmt→Expr
 |.Assign _ e _=>e
 |.Return e _=>e.getD nE
 |.If e _ _ _=>e
 |_=>nE
noncomputable def kids:Expr→List Expr
 |.Call _ args _ _=>args
 |.IfExp t a b _=>[t,a,b]
 |.BoolOp _ vs _=>vs
 |.Compare a _ bs _=>a::bs
 |.Tuple es _ _=>es
 |.BinOp a _ b _=>[a,b]
 |_=>[]
noncomputable def A9 (e:Expr) (i:Nat):Expr:=((kids e).drop i).headD nE
noncomputable def ex (a i:Nat) (p:List Nat):Expr:=p.foldl A9 (AV (st a i))
structure CP where
 elt:Expr
 t:Expr
 ifs:List Expr
 scope:Scope
noncomputable def jc:Expr→CP
 |.ListComp e gs sc _=>(gs.head?.map fun g=>⟨e,g.target,g.ifs,sc⟩).getD ⟨nE,nE,[],default⟩
 |_=>⟨nE,nE,[],default⟩
noncomputable def kl:P→List (Option V)→P
 |[],_=>[]
 |s::r,vs=>match vs with
  |[]=>s::r
  |v::vs=>⟨s.name,s.kind,v⟩::kl r vs
noncomputable def fr (a:Addr) (vs:List (Option V)):P:=kl (cm C1 (bJ a).scope (bJ a).once fun _=>none) vs
noncomputable def cf (e:Expr) (ρ:P) (vs:List (Option V)):P:=kl (aH C1 (jc e).scope ρ) vs
noncomputable def zT (a:Addr) (args:List V) (kw:List (Str×V)):Option P:=(bind (bJ a).params (bJ a).dn args kw).bind fun binds=>b0 C1 (bJ a).scope (bJ a).once binds []
theorem small {b:Bool}{g:Option Nat}{xs:List V}(h:xs.length<1048576):au (.items b g xs)=true:=Nat.ble_eq_true_of_le h
theorem cg {n k:Nat}(hn:n<af) (h:k<n):aE n (k:Int)=some k:=by
 have q:(!Nat.blt n af)=false:=by rw [show Nat.blt n af=true from Nat.ble_eq_true_of_le hn]; rfl
 show (if (!Nat.blt n af)=true then none else if (0:Int)≤(k:Int) then (if (k:Int).toNat<n then some (k:Int).toNat else none) else _)=_
 rw [q,if_neg Bool.false_ne_true,if_pos (Int.natCast_nonneg k),Int.toNat_natCast,if_pos h]
noncomputable def cZ (v1 v:V) (σ1 σ:H):Prop:=v1=v∧σ1=σ
theorem fin {v:V}{σ:H}:cZ v v σ σ:=⟨rfl,rfl⟩
theorem aC {call:ad}{b:List Stmt}{ρ:P}{σ:H}{v:V}{σ':H}(ws:Ws) {q:Prop}(h:dT (ev C1 call 40) b ρ σ ws (fun f _ σ2 _=>jv f=v∧σ2=σ')=q) (k:q):ag C1 call b ρ σ v σ':=⟨ws,h.mpr k⟩
noncomputable def lM (call:ad) (e:Expr) (ρ:P) (σ:H) (v:V) (σ':H):Prop:=∃ws,(ev C1 call jb).E e ρ σ ws fun v2 σ2 _=>v2=v∧σ2=σ'
theorem w0 {call:ad}{e:Expr}{ρ:P}{σ:H}{v:V}{σ':H}(ws:Ws) {q:Prop}(h:((ev C1 call 40).E e ρ σ ws fun v2 σ2 _=>v2=v∧σ2=σ')=q) (k:q):lM call e ρ σ v σ':=⟨ws,h.mpr k⟩
noncomputable def BB:Stmt→m8
 |.FunctionDef _ args body _ _ _ scope _ _ _=>⟨args.args.map (·.arg),.stmts body,scope,[]⟩
 |_=>⟨[],.stmts [],default,[]⟩
noncomputable def BC:Expr→m8
 |.Lambda args body scope _=>⟨args.args.map (·.arg),.expr body,scope,[]⟩
 |_=>⟨[],.stmts [],default,[]⟩
noncomputable def zD (d:m8):List Stmt:=match d.body with
 |.stmts b=>b
 |.expr _=>[]
noncomputable def AW (d:m8):Expr:=match d.body with
 |.stmts _=>nE
 |.expr e=>e
noncomputable def AX (d:m8) (caps:List (Str×V)) (vs:List (Option V)):P:=kl (cm C1 d.scope [] (bZ · caps)) vs
noncomputable def AY (d:m8) (args:List V) (caps:List (Str×V)):Option P:=match Nat.beq d.params.length args.length&&br d.params with
 |true=>b0 C1 d.scope [] (d.params.zip args) caps
 |false=>none
section
variable {n:Nat}{d:m8}{caps:List (Str×V)}{self:Option Str}{args:List V}{σ σ':H}{v:V}{ρ:P}
theorem pk (hf:AY d args (bq (.clo d caps self) self++caps)=some ρ) (h:match d.body with | .stmts b=>ag C1 (ab C1 n) b ρ σ v σ' | .expr e=>lM (ab C1 n) e ρ σ v σ'):ab C1 (n+1) (.clo d caps self) args [] σ v σ':=by
 show ic C1 (ab C1 n) d args (bq (.clo d caps self) self++caps) σ v σ';unfold AY at hf;unfold ic;cases q:Nat.beq d.params.length args.length&&br d.params with
 |false=>rw [q] at hf; cases hf
 |true=>
  rw [q] at hf;have hf:b0 C1 d.scope [] (d.params.zip args) (bq (.clo d caps self) self++caps)=some ρ:=hf;show bo (b0 C1 d.scope [] (d.params.zip args) (bq (.clo d caps self) self++caps)) _;rw [hf];exact h
theorem fm (hb:d.body = .stmts (zD d)) (hf:AY d args (bq (.clo d caps self) self++caps)=some ρ) (h:ag C1 (ab C1 n) (zD d) ρ σ v σ'):ab C1 (n+1) (.clo d caps self) args [] σ v σ':=pk hf (by rw [hb]; exact h)
theorem lN (hb:d.body = .expr (AW d)) (hf:AY d args (bq (.clo d caps self) self++caps)=some ρ) (h:lM (ab C1 n) (AW d) ρ σ v σ'):ab C1 (n+1) (.clo d caps self) args [] σ v σ':=pk hf (by rw [hb]; exact h)
end
theorem rS {call:ad}{a:Addr}{args:List V}{kw:List (Str×V)}{σ:H}{v:V}{σ':H}{ρ:P}(hf:zT a args kw=some ρ) (h:ag C1 call (bJ a).body ρ σ v σ'):lJ C1 call (bJ a) args kw σ v σ':=by
 obtain⟨b,e1,e2⟩:=Option.bind_eq_some_iff.mp hf;unfold lJ;rw [e1];show bo (b0 C1 (bJ a).scope (bJ a).once b []) _;rw [e2];exact h
noncomputable def md (m:ru) (a:Addr):Bool:=match C1.fns a with
 |some fi=>fi.mode.ctorIdx==m.ctorIdx
 |none=>false
theorem zU {m:ru}{a:Addr}(h:md m a=true):C1.fns a=some (bJ a)∧(bJ a).mode=m:=by
 unfold md at h;unfold bJ;cases e:C1.fns a with
 |none=>rw [e] at h; cases h
 |some fi=>
  rw [e] at h;refine⟨rfl,?_⟩;revert h;show (fi.mode.ctorIdx==m.ctorIdx)=true→fi.mode=m;cases fi.mode <;> cases m <;> first | exact fun _=>rfl | exact fun h=>nomatch h
section
variable {n:Nat}{a:Addr}{args:List V}{kw:List (Str×V)}{σ σ' σ0:H}{v v0:V}{ρ:P}
theorem w3 {m:ru}(hm:md m a=true) (h:∀fi:qy,fi=bJ a→fi.mode=m→bO C1 (ab C1 n) fi args kw σ v σ'):ab C1 (n+1) (.val (.ref a)) args kw σ v σ':=by
 obtain⟨e1,e2⟩:=zU hm;show (match C1.fns a with | some fi=>bO C1 (ab C1 n) fi args kw σ v σ' | none=>_)
 rw [e1];exact h _ rfl e2
theorem aN (hm:md .raw a=true) (hf:zT a args kw=some ρ) (h:ag C1 (ab C1 n) (bJ a).body ρ σ v σ'):ab C1 (n+1) (.val (.ref a)) args kw σ v σ':=
 w3 hm fun fi e hq=>by
  unfold bO;rw [hq,e];exact rS hf h
theorem aR (hm:md .pure a=true) (ha:j9 args=true) (hf:zT a args []=some ρ) (h:ag C1 (ab C1 n) (bJ a).body ρ [] v0 σ0) (hv:zS σ0 v0 v):ab C1 (n+1) (.val (.ref a)) args [] σ v σ:=
 w3 hm fun fi e hq=>by
  unfold bO;rw [hq,e];exact⟨rfl,ha,v0,σ0,rS hf h,hv⟩
end
noncomputable def turn (r:cT) (p:Expr×List Stmt) (x:V) (ρ:P) (σ:H) (f:Fl) (ρ':P) (σ':H):Prop:=∀K:Fl→P→H→Prop,K f ρ' σ'→∃ws,r.A p.1 x ρ σ ws fun ρ σ ws=>dT r p.2 ρ σ ws fun f ρ σ _=>K f ρ σ
noncomputable def Lp (call:ad) (a i:Nat) (g:Option Nat) (xs:List V) (ρ:P) (σ:H) (f:Fl) (ρ':P) (σ':H):Prop:=lH (ev C1 call 39) (bl (st a i)).1 (bl (st a i)).2 (.items false g xs) ρ σ f ρ' σ'
noncomputable def Tn (call:ad) (a i:Nat) (x:V) (ρ:P) (σ:H) (f:Fl) (ρ':P) (σ':H):Prop:=turn (ev C1 call 39) (bl (st a i)) x ρ σ f ρ' σ'
theorem cq {call:ad}{a i:Nat}{x:V}{ρ:P}{σ:H}{f:Fl}{ρ':P}{σ':H}(ws:Ws) {q:(Fl→P→H→Prop)→Prop}(h:∀K,(ev C1 call 39).A (bl (st a i)).1 x ρ σ ws (fun ρ σ ws=>dT (ev C1 call 39) (bl (st a i)).2 ρ σ ws fun f ρ σ _=>K f ρ σ)=q K) (k:∀K:Fl→P→H→Prop,K f ρ' σ'→q K):Tn call a i x ρ σ f ρ' σ':=fun K hK=>⟨ws,(h K).mpr (k K hK)⟩
section
variable {α S:Type}{call:ad}{a i:Nat}
theorem rT (dec:α→V) (enc:S→P) (hp:S→H) (f:S→α→S) (ok:S→List α→Prop) (g:Option Nat) (xs0:List V) (hg:∀s as,ok s as→ph g xs0 (hp s) True) (h:∀s x xs,ok s (x::xs)→ok (f s x) xs∧Tn call a i (dec x) (enc s) (hp s) .next (enc (f s x)) (hp (f s x))) :
  ∀as s,ok s as→∀K:Fl→P→H→Prop,K .next (enc (as.foldl f s)) (hp (as.foldl f s))→bu (ev C1 call 39) (bl (st a i)).1 (bl (st a i)).2 g xs0 (as.map dec) (enc s) (hp s) K
 |[],s,h0,K,hK=>by
  have q:=hg s [] h0;cases g with
  |none=>exact hK
  |some j=>exact⟨q.1,hK⟩
 |x::as,s,h0,K,hK=>by
  obtain⟨h1,h2⟩:=h s x as h0;have t:=h2 (fun(f:Fl) (ρ:P) (σ:H)=>match f with
   |.next=>bu (ev C1 call 39) (bl (st a i)).1 (bl (st a i)).2 g xs0 (as.map dec) ρ σ K
   |.cont=>bu (ev C1 call 39) (bl (st a i)).1 (bl (st a i)).2 g xs0 (as.map dec) ρ σ K
   |.brk=>K .next ρ σ
   |.ret v=>K (.ret v) ρ σ) (rT dec enc hp f ok g xs0 hg h as (f s x) h1 K hK)
  have q:=hg s _ h0;cases g with
  |none=>exact t
  |some j=>exact⟨q.1,t⟩
theorem pp (dec:α→V) (enc:S→P) (hp:S→H) (f:S→α→S) (ok:S→List α→Prop) {g:Option Nat}{xs:List V}{as:List α}{s:S}(e:xs=as.map dec) (h0:ok s as) (hg:∀s as,ok s as→ph g xs (hp s) True) (h:∀s x xs,ok s (x::xs)→ok (f s x) xs∧Tn call a i (dec x) (enc s) (hp s) .next (enc (f s x)) (hp (f s x))) :
  Lp call a i g xs (enc s) (hp s) .next (enc (as.foldl f s)) (hp (as.foldl f s)):=by
 show bu _ _ _ g xs xs _ _ _;have:=rT dec enc hp f ok g xs hg h as s h0 (fun f2 ρ2 σ2=>f2 = .next∧ρ2=enc (as.foldl f s)∧σ2=hp (as.foldl f s)) ⟨rfl,rfl,rfl⟩
 rw [←e] at this;exact this
end
theorem rU {α:Type}{call:ad}{a i:Nat}(dec:α→V) (inv:List α→P→H→Prop) {xs0:List V}(h:∀x as ρ σ,inv (x::as) ρ σ→∃ρ' σ',inv as ρ' σ'∧Tn call a i (dec x) ρ σ .next ρ' σ') (as:List α) (ρ:P) (σ:H) (h0:inv as ρ σ) :
  ∃ρ' σ',inv [] ρ' σ'∧∀K:Fl→P→H→Prop,K .next ρ' σ'→bu (ev C1 call 39) (bl (st a i)).1 (bl (st a i)).2 none xs0 (as.map dec) ρ σ K:=by
 induction as generalizing ρ σ with
 |nil=>exact⟨ρ,σ,h0,fun K k=>k⟩
 |cons x as ih=>
  obtain⟨ρ1,σ1,h1,t⟩:=h x as ρ σ h0;obtain⟨ρ2,σ2,h2,q⟩:=ih ρ1 σ1 h1;exact⟨ρ2,σ2,h2,fun K k=>t (fun(f:Fl) (ρ:P) (σ:H)=>match f with
   |.next=>bu (ev C1 call 39) (bl (st a i)).1 (bl (st a i)).2 none xs0 (as.map dec) ρ σ K
   |.cont=>bu (ev C1 call 39) (bl (st a i)).1 (bl (st a i)).2 none xs0 (as.map dec) ρ σ K
   |.brk=>K .next ρ σ
   |.ret v=>K (.ret v) ρ σ) (q K k)⟩
theorem w4 {call:ad}{a i:Nat}{g:Option Nat}{xs:List V}{ρ:P}{σ:H}{f:Fl}{ρ':P}{σ':H}(h:∀K:Fl→P→H→Prop,K f ρ' σ'→bu (ev C1 call 39) (bl (st a i)).1 (bl (st a i)).2 g xs xs ρ σ K):Lp call a i g xs ρ σ f ρ' σ':=h (fun f2 ρ2 σ2=>f2=f∧ρ2=ρ'∧σ2=σ') ⟨rfl,rfl,rfl⟩
noncomputable def zV (r:cT) (c:CP) (x:V) (ρ:P) (σ:H) (o:Option V) (ρ':P):Prop:=∀K:Option V→P→H→Prop,K o ρ' σ→∃ws,r.A c.t x ρ σ ws fun ρ σ ws=>ey r ρ c.ifs σ ws fun t σ ws=>
 m9 t (r.E c.elt ρ σ ws fun v σ _=>K (some v) ρ σ) (K none ρ σ)
noncomputable def Cp (call:ad) (d:Nat) (e:Expr) (g:Option Nat) (xs:List V) (ρ:P) (σ:H) (vs:List V) (σ':H):Prop:=zO (ev C1 call d) (jc e).elt (jc e).t (jc e).ifs (.items false g xs) (aH C1 (jc e).scope ρ) σ vs σ'
noncomputable def Tc (call:ad) (d:Nat) (e:Expr) (x:V) (ρ:P) (σ:H) (o:Option V) (ρ':P):Prop:=zV (ev C1 call d) (jc e) x ρ σ o ρ'
theorem dW {call:ad}{d:Nat}{e:Expr}{x:V}{ρ:P}{σ:H}{o:Option V}{ρ':P}(ws:Ws) {q:(Option V→P→H→Prop)→Prop}(h:∀K,((ev C1 call d).A (jc e).t x ρ σ ws fun ρ σ ws=>ey (ev C1 call d) ρ (jc e).ifs σ ws fun t σ ws=>
 m9 t ((ev C1 call d).E (jc e).elt ρ σ ws fun v σ _=>K (some v) ρ σ) (K none ρ σ))=q K) (k:∀K:Option V→P→H→Prop,K o ρ' σ→q K):Tc call d e x ρ σ o ρ':=fun K hK=>⟨ws,(h K).mpr (k K hK)⟩
section
variable {α:Type}{call:ad}{d:Nat}{e:Expr}{σ:H}
theorem km (dec:α→V) (f:α→Option V) (I:P→Prop) (g:Option Nat) (xs0:List V) (hg:ph g xs0 σ True):∀(as:List α) (ρ:P) (h0:I ρ) (h:∀x,x∈as→∀ρ,I ρ→∃ρ',I ρ'∧Tc call d e (dec x) ρ σ (f x) ρ') (K:List V→H→Prop),K (as.filterMap f) σ →
  cU (ev C1 call d) (jc e).elt (jc e).t (jc e).ifs g xs0 (as.map dec) ρ σ K
 |[],ρ,h0,h,K,hK=>by
  cases g with
  |none=>exact hK
  |some j=>exact⟨hg.1,hK⟩
 |x::as,ρ,h0,h,K,hK=>by
  obtain⟨ρ',h1,h2⟩:=h x List.mem_cons_self ρ h0;have t:=h2 (fun o ρ σ=>match o with
   |some v=>cU (ev C1 call d) (jc e).elt (jc e).t (jc e).ifs g xs0 (as.map dec) ρ σ fun vs σ=>K (v::vs) σ
   |none=>cU (ev C1 call d) (jc e).elt (jc e).t (jc e).ifs g xs0 (as.map dec) ρ σ K) (by
    cases q:f x with
    |none=>
     rw [List.filterMap_cons_none q] at hK;exact km dec f I g xs0 hg as ρ' h1 (fun y hy=>h y (List.mem_cons_of_mem _ hy)) K hK
    |some v=>
     rw [List.filterMap_cons_some q] at hK;exact km dec f I g xs0 hg as ρ' h1 (fun y hy=>h y (List.mem_cons_of_mem _ hy)) (fun vs σ=>K (v::vs) σ) hK)
  cases g with
  |none=>exact t
  |some j=>exact⟨hg.1,t⟩
theorem jx (dec:α→V) (f:α→Option V) (I:P→Prop) {g:Option Nat}{xs:List V}{as:List α}{ρ:P}(e1:xs=as.map dec) (h0:I (aH C1 (jc e).scope ρ)) (hg:ph g xs σ True) (h:∀x,x∈as→∀ρ,I ρ→∃ρ',I ρ'∧Tc call d e (dec x) ρ σ (f x) ρ') :
  Cp call d e g xs ρ σ (as.filterMap f) σ:=by
 show cU _ _ _ _ g xs xs _ _ _;have:=km dec f I g xs hg as _ h0 h (fun vs2 σ2=>vs2=as.filterMap f∧σ2=σ) ⟨rfl,rfl⟩
 rw [←e1] at this;exact this
end
end Mini
set_option maxRecDepth 100000
set_option autoImplicit false
namespace Mini
open PySem
theorem aS {a:Nat}(h:a<1000):a<af:=Nat.lt_trans h (by decide)
theorem bp {a b:Nat}(h:a<1000) (h':b<1000):a+b<af:=Nat.lt_trans (Nat.add_lt_add h h') (by decide)
theorem na {α β:Type}{f:α→β}{l:List α}{n:Nat}(h:l.length<n):(l.map f).length<n:=by rw [List.length_map]; exact h
theorem pq {α:Type}{n:Nat}{x:α}:(List.replicate n [x]).flatten=List.replicate n x:=List.flatten_replicate_singleton
theorem xE {α:Type}{a b:List α}{i j:Nat}(h:a.length<i) (h':b.length<j):(a++b).length<i+j:=by rw [List.length_append]; exact Nat.add_lt_add h h'
theorem ge {α β γ:Type}{g:β→α→β}{h:β×γ→α→γ}:∀{l:List α}{s:β×γ},(l.foldl (fun s x=>(g s.1 x,h s x)) s).1=l.foldl g s.1
 |[],_=>rfl
 |x::l,s=>ge (l:=l)
theorem rV {α:Type}{f:α→V}{l:List α}:dR (l.map f)=l.zipIdx.map fun p=>.tuple [.int (p.2:Nat),f p.1]:=by
 unfold dR;rw [List.zipIdx_map,List.map_map]; rfl
theorem nG (a b:Nat):(max 0 (min (a:Int) (b:Int))).toNat=min a b:=by
 rcases Nat.le_total a b with h | h
 ·rw [Int.min_eq_left (Int.ofNat_le.mpr h),Nat.min_eq_left h,Int.max_eq_right (Int.natCast_nonneg a)]; rfl
 ·rw [Int.min_eq_right (Int.ofNat_le.mpr h),Nat.min_eq_right h,Int.max_eq_right (Int.natCast_nonneg b)]; rfl
theorem rW (n:Nat):(-1:Int)+((n+1:Nat):Int)=n:=(Int.add_comm ..).trans (Int.add_sub_cancel (n:Int) 1)
theorem rX (n:Nat):(max 0 (min ((-1:Int)+((n+1:Nat):Int)) ((n+1:Nat):Int))).toNat=n:=by
 rw [rW,nG,Nat.min_eq_left (Nat.le_succ n)]
theorem ig {α:Type}{l:List α}{n:Nat}:a9 l none (some (n:Int))=l.take n:=by
 show (l.drop 0).take (aL l.length (some (n:Int)) l.length - 0)=_;have:aL l.length (some (n:Int)) l.length=min n l.length:=by
  show (max 0 (min (if (n:Int)<0 then _ else (n:Int)) (l.length:Int))).toNat=_
  rw [if_neg (Int.not_lt.mpr (Int.natCast_nonneg n)),nG]
 rw [this,Nat.sub_zero,List.drop_zero,←List.take_eq_take_min]
noncomputable def iz (w:List Nat):List Int:=w.map fun(d:Nat)=>(d:Int)
theorem rY {w:List Nat}:(iz w).sum=((w.sum:Nat):Int):=by
 induction w with
 |nil=>rfl
 |cons d w ih=>show (d:Int)+(iz w).sum=_; rw [ih,List.sum_cons,Int.natCast_add]
theorem xF {α:Type}{l:List α}{p:α×Nat}(h:p∈l.zipIdx):l[p.2]? = some p.1:=by
 have:=List.mem_zipIdx_iff_getElem?.mp h;exact this
theorem ga {α:Type}{l m:List α}{k:Nat}:(l++m)[l.length+k]? = m[k]?:=by
 rw [List.getElem?_append_right (Nat.le_add_right _ _),Nat.add_sub_cancel_left]
theorem sa {α:Type}{l m:List α}{k:Nat}{x:α}:(l++m).set (l.length+k) x=l++m.set k x:=by
 rw [List.set_append_right _ _ (Nat.le_add_right _ _),Nat.add_sub_cancel_left]
end Mini
set_option maxRecDepth 100000
set_option autoImplicit false
namespace Mini
open PySem
noncomputable def Ba:List (List Nat×V):=[([95,104,101,97,100,101,114,115],.ref 2)]
noncomputable def bk (xs:List V) (rest:H):H:=.dict Ba::.inst 184 0::.list xs::rest
noncomputable def BD:Stmt→Stmt
 |.If _ b _ _=>b.headD nP
 |_=>nP
theorem uU:am C1 184 "_convert_string_type" = some 83:=by kernel_rfl
theorem zW:am C1 184 "get" = some 131:=by kernel_rfl
theorem zX:am C1 184 "items" = some 148:=by kernel_rfl
theorem zY:am C1 184 "__delitem__" = some 102:=by kernel_rfl
theorem cr:(C1.cls 184).isSome=true:=by kernel_rfl
theorem eV:bP (Str.ofString "_convert_string_type").cps.toList Ba=none:=by kernel_rfl
theorem jy:bP (Str.ofString "_headers").cps.toList Ba=some (.ref 2):=by kernel_rfl
section
variable {call:ad}{a:V}{s nm val:List Nat}{σ rest:H}{xs ys:List V}
theorem zZ (ht:bR s=true) (hl:s.length<1000):ag C1 call (bJ 83).body (fr 83 [some a,some (.str s),some (.bool true)]) σ (.str s) σ:=by
 refine aC [.v (.val (.type "str")),.b true,.b true,.rex,.b false] (q:=(ay σ (.type "type") [.str s] (.val (.type "str")))∧(Cm σ .Is (.val (.type "str")) (.val (.type "str")) true)∧(Tr σ (.bool true) true)∧(bR s=true∧List.length s<af)∧(Tr σ .none false)∧(cZ (.str s) (.str s) σ σ)) (by kernel_rfl) ⟨.typS,(.isT (by exact cr)),.bool,⟨‹_›,(by exact aS ‹_›)⟩,.none,fin⟩
theorem z5 (ht:bR s=true) (hl:s.length<1000):ag C1 call (bJ 83).body (fr 83 [some a,some (.str s),some (.bool false)]) σ (.str s) σ:=by
 refine aC [.v (.val (.type "str")),.b true,.b false,.rex,.b false] (q:=(ay σ (.type "type") [.str s] (.val (.type "str")))∧(Cm σ .Is (.val (.type "str")) (.val (.type "str")) true)∧(Tr σ (.bool false) false)∧(bR s=true∧List.length s<af)∧(Tr σ .none false)∧(cZ (.str s) (.str s) σ σ)) (by kernel_rfl) ⟨.typS,(.isT (by exact cr)),.bool,⟨‹_›,(by exact aS ‹_›)⟩,.none,fin⟩
noncomputable def BE (call:ad) (ρ:P) (σ:H):Prop:=lH (ev C1 call 38) (bl (BD (st 76 3))).1 (bl (BD (st 76 3))).2 (.items false (some 2) []) ρ σ .next ρ σ
theorem uV (h:BE call (fr 76 [some (.ref 1),some (.ref 2)]) (bk [] [])):ag C1 call (bJ 76).body (fr 76 [some (.ref 1),some .none]) [.dict [],.inst 184 0] .none (bk [] []):=by
 refine aC [.b false,.v (.val (.type "list")),.b false,.h (List.set ([aa.dict [],aa.inst 184 0]++[aa.list []]) 0 (aa.dict (aj (Str.ofString "_headers").cps.toList (.ref 2) []))),.b true,.l [],.st .next (fr 76 [some (.ref 1),some (.ref 2)]) (bk [] [])] (q:=(Cm [aa.dict [],aa.inst 184 0] .IsNot .none .none false)∧(ay ([aa.dict [],aa.inst 184 0]++[aa.list []]) (.type "type") [.ref 2] (.val (.type "list")))∧(Cm ([aa.dict [],aa.inst 184 0]++[aa.list []]) .IsNot (.val (.type "list")) (.val (.type "list")) false)∧(cY C1 ([aa.dict [],aa.inst 184 0]++[aa.list []]) (.ref 1) (Str.ofString "_headers") (.ref 2) (List.set ([aa.dict [],aa.inst 184 0]++[aa.list []]) 0 (aa.dict (aj (Str.ofString "_headers").cps.toList (.ref 2) []))))∧(Tr [aa.dict (aj [95,104,101,97,100,101,114,115] (.ref 2) []),aa.inst 184 0,aa.list []] (.bool true) true)∧([aa.dict (aj [(95:Nat),(104:Nat),(101:Nat),(97:Nat),(100:Nat),(101:Nat),(114:Nat),(115:Nat)] (.ref (2:Nat)) []),aa.inst (184:Addr) (0:Nat),aa.list []][(2:Nat)]? = some (aa.list []))∧(BE call (fr 76 [some (.ref 1),some (.ref 2)]) (bk [] []))∧(cZ .none .none (bk [] []) (bk [] []))) (by kernel_rfl) ⟨.noN0,(.typL (.ref rfl)),(.noT (by exact cr)),(.inst rfl (by exact cr) (by exact cr) rfl (by exact Nat.le_of_ble_eq_true rfl)),.bool,rfl,‹_›,fin⟩
theorem xG {k v:List Nat}{o:Option V}{sf:Option V}(hc:bH k=true) (hl:k.length<1000) (h:(k.map low != nm)=true):Tc call 38 (ex 102 1 []) (.tuple [.str k,.str v]) (cf (ex 102 1 []) (fr 102 [sf,some (.str nm)]) [none,o]) (bk xs rest) (some (.tuple [.str k,.str v])) (cf (ex 102 1 []) (fr 102 [sf,some (.str nm)]) [none,some (.tuple [.str k,.str v])]):=by
 refine dW [.v (.str k),.meth "str.lower",.vh (.str (List.map low k)) (bk xs rest),.b true] (q:=fun K=>(bx (bk xs rest) (.tuple [.str k,.str v]) (.int 0) (.str k))∧(dN (bk xs rest) (.str k) (Str.ofString "lower") "str.lower")∧(aF (bk xs rest) "str.lower" (.str k) [] (.str (List.map low k)) (bk xs rest))∧(Cm (bk xs rest) .NotEq (.str (List.map low k)) (.str nm) true)∧(K (some (.tuple [.str k,.str v])) (cf (ex 102 1 []) (fr 102 [sf,some (.str nm)]) [none,some (.tuple [.str k,.str v])]) (bk xs rest))) (fun K=>by kernel_rfl) fun K hK=>⟨(.tup rfl rfl),.lower,(.lower ‹_› (by exact aS ‹_›)),(.neS ‹_›),hK⟩
theorem uW {k v:List Nat}{o:Option V}{sf:Option V}(hc:bH k=true) (hl:k.length<1000) (h:(k.map low != nm)=false):Tc call 38 (ex 102 1 []) (.tuple [.str k,.str v]) (cf (ex 102 1 []) (fr 102 [sf,some (.str nm)]) [none,o]) (bk xs rest) none (cf (ex 102 1 []) (fr 102 [sf,some (.str nm)]) [none,some (.tuple [.str k,.str v])]):=by
 refine dW [.v (.str k),.meth "str.lower",.vh (.str (List.map low k)) (bk xs rest),.b false] (q:=fun K=>(bx (bk xs rest) (.tuple [.str k,.str v]) (.int 0) (.str k))∧(dN (bk xs rest) (.str k) (Str.ofString "lower") "str.lower")∧(aF (bk xs rest) "str.lower" (.str k) [] (.str (List.map low k)) (bk xs rest))∧(Cm (bk xs rest) .NotEq (.str (List.map low k)) (.str nm) false)∧(K none (cf (ex 102 1 []) (fr 102 [sf,some (.str nm)]) [none,some (.tuple [.str k,.str v])]) (bk xs rest))) (fun K=>by kernel_rfl) fun K hK=>⟨(.tup rfl rfl),.lower,(.lower ‹_› (by exact aS ‹_›)),(.neS ‹_›),hK⟩
theorem xH (hs:bH s=true) (hl:s.length<1000) (hx:xs.length<1000) (hy:ys.length<1000) (h1:call (.val (.ref 83)) [.ref 1,.str (s.map low)] [("name",.bool true)] (bk xs rest) (.str (s.map low)) (bk xs rest)) (h2:Cp call 38 (ex 102 1 []) (some 2) xs (fr 102 [some (.ref 1),some (.str (s.map low))]) (bk xs rest) ys (bk xs rest)) :
 ag C1 call (bJ 102).body (fr 102 [some (.ref 1),some (.str s)]) (bk xs rest) .none (bk ys rest):=by
 refine aC [.inst 83,.meth "str.lower",.vh (.str (List.map low s)) (bk xs rest),.vh (.str (List.map low s)) (bk xs rest),.fld (.ref 2),.l xs,.lh ys (bk xs rest),.fld (.ref 2),.l ys,.l xs] (q:=(∃c,ly (bk xs rest) (.ref (1:Nat)) (Str.ofString "_convert_string_type") c∧am C1 c (Str.ofString "_convert_string_type")=some (83:Addr))∧(dN (bk xs rest) (.str s) (Str.ofString "lower") "str.lower")∧(aF (bk xs rest) "str.lower" (.str s) [] (.str (List.map low s)) (bk xs rest))∧(call (.val (.ref 83)) [.ref 1,.str (List.map low s)] [(Str.ofString "name",.bool true)] (bk xs rest) (.str (List.map low s)) (bk xs rest))∧(gB C1 (bk xs rest) (.ref 1) (Str.ofString "_headers") (.ref 2))∧((bk xs rest)[(2:Nat)]? = some (aa.list xs))∧(au (It.items false (some (2:Nat)) xs)=true)∧(Cp call 38 (ex 102 1 []) (some 2) xs (fr 102 [some (.ref 1),some (.str (List.map low s))]) (bk xs rest) ys (bk xs rest))∧(gB C1 (bk xs rest) (.ref 1) (Str.ofString "_headers") (.ref 2))∧((bk xs rest)[(2:Nat)]? = some (aa.list xs)∧LO (bk xs rest) (.list ys) ys∧List.length xs<af∧List.length ys<af)∧(cZ .none .none (bk ys rest) (bk ys rest))) (by kernel_rfl) ⟨⟨_,⟨(.mk rfl rfl (by exact eV)),(by exact uU)⟩⟩,.lower,(.lower ‹_› (by exact aS ‹_›)),‹_›,(.inst rfl (by exact cr) (by exact cr) rfl (by exact jy) (by exact cr)),rfl,(by exact small (aS ‹_›)),‹_›,(.inst rfl (by exact cr) (by exact cr) rfl (by exact jy) (by exact cr)),⟨rfl,⟨.val,⟨(by exact aS ‹_›),(by exact aS ‹_›)⟩⟩⟩,fin⟩
theorem uX {k v:List Nat}{df o1 o2:Option V}(hc:bH k=true) (hl:k.length<1000) (h:(k.map low==nm)=false):Tn call 131 1 (.tuple [.str k,.str v]) (fr 131 [some (.ref 1),some (.str nm),df,o1,o2]) σ .next (fr 131 [some (.ref 1),some (.str nm),df,some (.str k),some (.str v)]) σ:=by
 refine cq [.meth "str.lower",.vh (.str (List.map low k)) σ,.b false] (q:=fun K=>(dN σ (.str k) (Str.ofString "lower") "str.lower")∧(aF σ "str.lower" (.str k) [] (.str (List.map low k)) σ)∧(Cm σ .Eq (.str (List.map low k)) (.str nm) false)∧(K .next (fr 131 [some (.ref 1),some (.str nm),df,some (.str k),some (.str v)]) σ)) (fun K=>by kernel_rfl) fun K hK=>⟨.lower,(.lower ‹_› (by exact aS ‹_›)),(.eqS ‹_›),hK⟩
theorem uY {k v:List Nat}{df o1 o2:Option V}(hc:bH k=true) (hl:k.length<1000) (h:(k.map low==nm)=true):Tn call 131 1 (.tuple [.str k,.str v]) (fr 131 [some (.ref 1),some (.str nm),df,o1,o2]) σ (.ret (.str v)) (fr 131 [some (.ref 1),some (.str nm),df,some (.str k),some (.str v)]) σ:=by
 refine cq [.meth "str.lower",.vh (.str (List.map low k)) σ,.b true] (q:=fun K=>(dN σ (.str k) (Str.ofString "lower") "str.lower")∧(aF σ "str.lower" (.str k) [] (.str (List.map low k)) σ)∧(Cm σ .Eq (.str (List.map low k)) (.str nm) true)∧(K (.ret (.str v)) (fr 131 [some (.ref 1),some (.str nm),df,some (.str k),some (.str v)]) σ)) (fun K=>by kernel_rfl) fun K hK=>⟨.lower,(.lower ‹_› (by exact aS ‹_›)),(.eqS ‹_›),hK⟩
theorem uZ {df v:V}{o1 o2:Option V}(hs:bH s=true) (hl:s.length<1000) (h1:call (.val (.ref 83)) [.ref 1,.str (s.map low)] [("name",.bool true)] (bk xs rest) (.str (s.map low)) (bk xs rest)) (h2:Lp call 131 1 (some 2) xs (fr 131 [some (.ref 1),some (.str (s.map low)),some df]) (bk xs rest) (.ret v) (fr 131 [some (.ref 1),some (.str (s.map low)),some df,o1,o2]) (bk xs rest)) :
 ag C1 call (bJ 131).body (fr 131 [some (.ref 1),some (.str s),some df]) (bk xs rest) v (bk xs rest):=by
 refine aC [.inst 83,.meth "str.lower",.vh (.str (List.map low s)) (bk xs rest),.vh (.str (List.map low s)) (bk xs rest),.fld (.ref 2),.l xs,.st (.ret v) (fr 131 [some (.ref 1),some (.str (List.map low s)),some df,o1,o2]) (bk xs rest)] (q:=(∃c,ly (bk xs rest) (.ref (1:Nat)) (Str.ofString "_convert_string_type") c∧am C1 c (Str.ofString "_convert_string_type")=some (83:Addr))∧(dN (bk xs rest) (.str s) (Str.ofString "lower") "str.lower")∧(aF (bk xs rest) "str.lower" (.str s) [] (.str (List.map low s)) (bk xs rest))∧(call (.val (.ref 83)) [.ref 1,.str (List.map low s)] [(Str.ofString "name",.bool true)] (bk xs rest) (.str (List.map low s)) (bk xs rest))∧(gB C1 (bk xs rest) (.ref 1) (Str.ofString "_headers") (.ref 2))∧((bk xs rest)[(2:Nat)]? = some (aa.list xs))∧(Lp call 131 1 (some 2) xs (fr 131 [some (.ref 1),some (.str (List.map low s)),some df]) (bk xs rest) (.ret v) (fr 131 [some (.ref 1),some (.str (List.map low s)),some df,o1,o2]) (bk xs rest))∧(cZ v v (bk xs rest) (bk xs rest))) (by kernel_rfl) ⟨⟨_,⟨(.mk rfl rfl (by exact eV)),(by exact uU)⟩⟩,.lower,(.lower ‹_› (by exact aS ‹_›)),‹_›,(.inst rfl (by exact cr) (by exact cr) rfl (by exact jy) (by exact cr)),rfl,‹_›,fin⟩
theorem xI {k v:List Nat}{sf:Option V}{o1 o2:Option V}:Tc call 38 (ex 136 0 []) (.tuple [.str k,.str v]) (cf (ex 136 0 []) (fr 136 [sf]) [none,o1,o2]) σ (some (.str k)) (cf (ex 136 0 []) (fr 136 [sf]) [none,some (.str k),some (.str v)]):=by
 refine dW [] (q:=fun K=>(K (some (.str k)) (cf (ex 136 0 []) (fr 136 [sf]) [none,some (.str k),some (.str v)]) σ)) (fun K=>by kernel_rfl) fun K hK=>hK
theorem u0 (hx:xs.length<1000) (h2:Cp call 38 (ex 136 0 []) (some 2) xs (fr 136 [some (.ref 1)]) (bk xs rest) ys (bk xs rest)):ag C1 call (bJ 136).body (fr 136 [some (.ref 1)]) (bk xs rest) (.ref (rest.length+3)) (bk xs (rest++[.list ys])):=by
 refine aC [.fld (.ref 2),.l xs,.lh ys (bk xs rest)] (q:=(gB C1 (bk xs rest) (.ref 1) (Str.ofString "_headers") (.ref 2))∧((bk xs rest)[(2:Nat)]? = some (aa.list xs))∧(au (It.items false (some (2:Nat)) xs)=true)∧(Cp call 38 (ex 136 0 []) (some 2) xs (fr 136 [some (.ref 1)]) (bk xs rest) ys (bk xs rest))∧(cZ (.ref (List.length rest+3)) (.ref (List.length rest+3)) (bk xs (rest++[aa.list ys])) (bk xs (rest++[aa.list ys])))) (by kernel_rfl) ⟨(.inst rfl (by exact cr) (by exact cr) rfl (by exact jy) (by exact cr)),rfl,(by exact small (aS ‹_›)),‹_›,fin⟩
theorem u3 {α:Type}{l:List α}:a9 l none none=l:=by
 show (l.drop 0).take (l.length - 0)=l;rw [List.drop_zero,Nat.sub_zero,List.take_length]
theorem rZ (hx:xs.length<1000):ag C1 call (bJ 148).body (fr 148 [some (.ref 1)]) (bk xs rest) (.ref (rest.length+3)) (bk xs (rest++[.list xs])):=by
 refine aC [.fld (.ref 2),.v (.list (a9 xs none none))] (q:=(gB C1 (bk xs rest) (.ref 1) (Str.ofString "_headers") (.ref 2))∧(aW (bk xs rest) (.ref 2) none none (.list (a9 xs none none)))∧(cZ (.ref (List.length (bk xs rest))) (.ref (List.length rest+3)) (bk xs rest++[aa.list (a9 xs none none)]) (bk xs (rest++[aa.list xs])))) (by kernel_rfl) ⟨(.inst rfl (by exact cr) (by exact cr) rfl (by exact jy) (by exact cr)),(.list (.ref rfl) (by exact aS ‹_›)),?_⟩
 exact⟨rfl,by rw [u3]; rfl⟩
end
noncomputable abbrev Hv:=List Nat×List Nat
noncomputable def hv (p:Hv):V:=.tuple [.str p.1,.str p.2]
structure AZ (p:Hv):Prop where
 a:bH p.1=true
 l:p.1.length<1000
section
variable {n:Nat}{hs:List Hv}{s val:List Nat}{σ rest:H}{a:V}
theorem fn {b:Bool}(ht:bR s=true) (hl:s.length<1000):ab C1 (n+1) (.val (.ref 83)) [a,.str s] [("name",.bool b)] σ (.str s) σ:=by
 cases b with
 |true=>exact aN (by kernel_rfl) (by kernel_rfl) (zZ (a:=a) ht hl)
 |false=>exact aN (by kernel_rfl) (by kernel_rfl) (z5 (a:=a) ht hl)
theorem qB:ab C1 (n+1) (.val (.ref 76)) [.ref 1] [] [.dict [],.inst 184 0] .none (bk [] []):=
 aN (by kernel_rfl) (by kernel_rfl) (uV ⟨rfl,rfl,rfl,rfl⟩)
theorem Bb:am C1 184 "__init__" = some 76:=by kernel_rfl
theorem sd:ab C1 (n+2) (.val (.ref 184)) [] [] [] (.ref 1) (bk [] []):=by
 show (match C1.fns 184 with | some fi=>bO C1 (ab C1 (n+1)) fi [] [] [] (.ref 1) (bk [] []) | none=>ie C1 (ab C1 (n+1)) 184 [] [] [] (.ref 1) (bk [] []))
 have:C1.fns 184=none:=by kernel_rfl
 rw [this];show bo (am C1 184 "__init__") _;rw [Bb];exact⟨qB,rfl⟩
noncomputable def keep (s:List Nat) (hs:List Hv):List Hv:=hs.filter fun p=>p.1.map low != s.map low
theorem u4:(keep s hs).length≤hs.length:=List.length_filter_le _ _
theorem se (ha:bH s=true) (ht:bR (s.map low)=true) (hl:s.length<1000) (hh:∀p,p∈hs→AZ p) (hn:hs.length<1000) :
  ab C1 (n+2) (.val (.ref 102)) [.ref 1,.str s] [] (bk (hs.map hv) rest) .none (bk ((keep s hs).map hv) rest):=by
 have e:(keep s hs).map hv=hs.filterMap fun p=>bif p.1.map low != s.map low then some (hv p) else none:=by
  unfold keep;clear hh hn
  induction hs with
  |nil=>rfl
  |cons p hs ih=>
   rw [List.filter_cons,List.filterMap_cons];cases p.1.map low != s.map low
   ·exact ih
   ·exact congrArg (hv p :: ·) ih
 have hy:((keep s hs).map hv).length<1000:=na (Nat.lt_of_le_of_lt u4 hn);refine aN (ρ:=fr 102 [some (.ref 1),some (.str s)]) (by kernel_rfl) (by kernel_rfl) (xH ha hl (na hn) hy (fn ht (na hl)) ?_)
 rw [e];refine jx hv _ (fun ρ=>∃o,ρ=cf (ex 102 1 []) (fr 102 [some (.ref 1),some (.str (s.map low))]) [none,o]) rfl ⟨none,by kernel_rfl⟩ ⟨rfl,trivial⟩ fun p hp ρ ⟨o,e⟩=>⟨cf (ex 102 1 []) (fr 102 [some (.ref 1),some (.str (s.map low))]) [none,some (hv p)],⟨_,rfl⟩,?_⟩
 subst e;cases q:p.1.map low != s.map low
 ·exact uW (hh p hp).a (hh p hp).l q
 ·exact xG (hh p hp).a (hh p hp).l q
noncomputable def jz (s:List Nat) (hs:List Hv):Option Hv:=hs.find? fun p=>p.1.map low==s.map low
noncomputable def BF (o:Option Hv):Fl:=match o with
 |some p=>.ret (.str p.2)
 |none=>.next
theorem xJ {df:V}{xs0:List V}(hh:∀p,p∈hs→AZ p) (h0:σ[2]? = some (.list xs0)):∀o1 o2:Option V,∃p1 p2:Option V,∀K:Fl→P→H→Prop,K (BF (jz s hs)) (fr 131 [some (.ref 1),some (.str (s.map low)),some df,p1,p2]) σ→bu (ev C1 (ab C1 n) 39) (bl (st 131 1)).1 (bl (st 131 1)).2 (some 2) xs0 (hs.map hv) (fr 131 [some (.ref 1),some (.str (s.map low)),some df,o1,o2]) σ K:=by
 induction hs with
 |nil=>exact fun o1 o2=>⟨o1,o2,fun K k=>⟨h0,k⟩⟩
 |cons p hs ih=>
  intro o1 o2;have ok:=hh p List.mem_cons_self;unfold jz;rw [List.find?_cons];cases q:p.1.map low==s.map low with
  |true=>exact⟨some (.str p.1),some (.str p.2),fun K k=>⟨h0,uY ok.a ok.l q _ k⟩⟩
  |false=>
   obtain⟨p1,p2,h⟩:=ih (fun x hx=>hh x (List.mem_cons_of_mem _ hx)) (some (.str p.1)) (some (.str p.2))
   exact⟨p1,p2,fun K k=>⟨h0,uX ok.a ok.l q (fun(f:Fl) (ρ:P) (σ:H)=>match f with
    |.next=>bu (ev C1 (ab C1 n) 39) (bl (st 131 1)).1 (bl (st 131 1)).2 (some 2) xs0 (hs.map hv) ρ σ K
    |.cont=>bu (ev C1 (ab C1 n) 39) (bl (st 131 1)).1 (bl (st 131 1)).2 (some 2) xs0 (hs.map hv) ρ σ K
    |.brk=>K .next ρ σ
    |.ret v=>K (.ret v) ρ σ) (h K k)⟩⟩
theorem nH (hn:hs.length<1000):ab C1 (n+1) (.val (.ref 148)) [.ref 1] [] (bk (hs.map hv) rest) (.ref (rest.length+3)) (bk (hs.map hv) (rest++[.list (hs.map hv)])):=
 aN (by kernel_rfl) (by kernel_rfl) (rZ (na hn))
end
end Mini
set_option maxRecDepth 100000
set_option autoImplicit false
namespace Mini
open PySem
noncomputable def nJ:m8:=BC (AV (st 295 7))
noncomputable def lz:m8:=BC (AV (st 295 8))
section
variable {σ:H}{n:Str}{v:V}{D:List (List Nat×V)}{l:List aa}
theorem u5 (hn:ck n aM=true):cY C1 (σ++[.fobj none]) (.ref σ.length) n v (σ++[.fobj (some (σ.length+1)),.dict [(n.cps.toList,v)]]):=by
 have:=cY.fobj0 (C:=C1) (σ:=σ++[.fobj none]) (v:=v) (ga (k:=0)) hn;have e:=sa (l:=σ) (m:=[.fobj none]) (k:=0) (x:=.fobj (some (σ++[aa.fobj none]).length));rw [Nat.add_zero] at this e;rw [e,List.length_append,List.append_assoc] at this;exact this
theorem dC (hn:ck n aM=true) (hz:Nat.blt D.length 900=true):cY C1 (σ++(.fobj (some (σ.length+1))::.dict D::l)) (.ref σ.length) n v (σ++(.fobj (some (σ.length+1))::.dict (aj n.cps.toList v D)::l)):=by
 have:=cY.fobj (C:=C1) (σ:=σ++(.fobj (some (σ.length+1))::.dict D::l)) (i:=σ.length) (d:=σ.length+1) (v:=v) (ga (k:=0)) hn (ga (k:=1)) (Nat.le_of_ble_eq_true hz);rw [sa] at this;exact this
theorem u6 (hn:ck n aM=true) (hz:Nat.blt D.length 900=true):cY C1 (σ++[.fobj (some (σ.length+1)),.dict D]++[.list []]) (.ref σ.length) n (.ref (σ++[aa.fobj (some (σ.length+1)),aa.dict D]).length) (σ++[.fobj (some (σ.length+1)),.dict (aj n.cps.toList (.ref (σ.length+2)) D),.list []]):=by
 rw [List.length_append,List.append_assoc];exact dC hn hz
end
noncomputable def dP (i:Nat) (tag:List Nat) (attr:V) (text:List Nat) (tail:V):List (List Nat×V):=
 [([116,97,103],.str tag),([97,116,116,114,105,98],attr),([116,101,120,116],.str text),([116,97,105,108],tail),([105,110,110,101,114],.ref (i+2)),
  ([109,97,107,101,101,108,101,109,101,110,116],.val (.ref 295)),([97,112,112,101,110,100],.clo nJ [("made",.ref i)] none),([105,116,101,114,116,101,120,116],.clo lz [("made",.ref i)] none)]
section
variable {call:ad}{tag:List Nat}{attr:V}{σ:H}
theorem z6:ag C1 call (bJ 295).body (fr 295 [some (.str tag),some attr]) σ (.ref σ.length) (σ++[.fobj (some (σ.length+1)),.dict (dP σ.length tag attr [] (.str [])),.list []]):=by
 refine aC [.h (σ++[aa.fobj (some (List.length σ+1)),aa.dict [((Str.ofString "tag").cps.toList,.str tag)]]),.h (σ++[aa.fobj (some (List.length σ+1)),aa.dict (aj (Str.ofString "attrib").cps.toList attr [([116,97,103],.str tag)])]),.h (σ++[aa.fobj (some (List.length σ+1)),aa.dict (aj (Str.ofString "text").cps.toList (.str []) (aj [97,116,116,114,105,98] attr [([116,97,103],.str tag)]))]),.h (σ++[aa.fobj (some (List.length σ+1)),aa.dict (aj (Str.ofString "tail").cps.toList (.str []) (aj [116,101,120,116] (.str []) (aj [97,116,116,114,105,98] attr [([116,97,103],.str tag)])))]),.h (σ++[aa.fobj (some (List.length σ+1)),aa.dict (aj (Str.ofString "inner").cps.toList (.ref (List.length σ+2)) (aj [116,97,105,108] (.str []) (aj [116,101,120,116] (.str []) (aj [97,116,116,114,105,98] attr [([116,97,103],.str tag)])))),aa.list []]),.h (σ++[aa.fobj (some (List.length σ+1)),aa.dict (aj (Str.ofString "makeelement").cps.toList (.val (.ref 295)) (aj [105,110,110,101,114] (.ref (List.length σ+2)) (aj [116,97,105,108] (.str []) (aj [116,101,120,116] (.str []) (aj [97,116,116,114,105,98] attr [([116,97,103],.str tag)]))))),aa.list []]),.h (σ++[aa.fobj (some (List.length σ+1)),aa.dict (aj (Str.ofString "append").cps.toList (.clo nJ ((fun x ↦ (Str.ofString "made",.ref (List.length σ))::x) []) none) (aj [109,97,107,101,101,108,101,109,101,110,116] (.val (.ref 295)) (aj [105,110,110,101,114] (.ref (List.length σ+2)) (aj [116,97,105,108] (.str []) (aj [116,101,120,116] (.str []) (aj [97,116,116,114,105,98] attr [([116,97,103],.str tag)])))))),aa.list []]),.h (σ++[aa.fobj (some (List.length σ+1)),aa.dict (aj (Str.ofString "itertext").cps.toList (.clo lz ((fun x ↦ (Str.ofString "made",.ref (List.length σ))::x) []) none) (aj [97,112,112,101,110,100] (.clo nJ ((fun x ↦ (Str.ofString "made",.ref (List.length σ))::x) []) none) (aj [109,97,107,101,101,108,101,109,101,110,116] (.val (.ref 295)) (aj [105,110,110,101,114] (.ref (List.length σ+2)) (aj [116,97,105,108] (.str []) (aj [116,101,120,116] (.str []) (aj [97,116,116,114,105,98] attr [([116,97,103],.str tag)]))))))),aa.list []])] (q:=(cY C1 (σ++[aa.fobj none]) (.ref (List.length σ)) (Str.ofString "tag") (.str tag) (σ++[aa.fobj (some (List.length σ+1)),aa.dict [((Str.ofString "tag").cps.toList,.str tag)]]))∧(cY C1 (σ++[aa.fobj (some (List.length σ+1)),aa.dict [([116,97,103],.str tag)]]) (.ref (List.length σ)) (Str.ofString "attrib") attr (σ++[aa.fobj (some (List.length σ+1)),aa.dict (aj (Str.ofString "attrib").cps.toList attr [([116,97,103],.str tag)])]))∧(cY C1 (σ++[aa.fobj (some (List.length σ+1)),aa.dict (aj [97,116,116,114,105,98] attr [([116,97,103],.str tag)])]) (.ref (List.length σ)) (Str.ofString "text") (.str []) (σ++[aa.fobj (some (List.length σ+1)),aa.dict (aj (Str.ofString "text").cps.toList (.str []) (aj [97,116,116,114,105,98] attr [([116,97,103],.str tag)]))]))∧(cY C1 (σ++[aa.fobj (some (List.length σ+1)),aa.dict (aj [116,101,120,116] (.str []) (aj [97,116,116,114,105,98] attr [([116,97,103],.str tag)]))]) (.ref (List.length σ)) (Str.ofString "tail") (.str []) (σ++[aa.fobj (some (List.length σ+1)),aa.dict (aj (Str.ofString "tail").cps.toList (.str []) (aj [116,101,120,116] (.str []) (aj [97,116,116,114,105,98] attr [([116,97,103],.str tag)])))]))∧(cY C1 (σ++[aa.fobj (some (List.length σ+1)),aa.dict (aj [116,97,105,108] (.str []) (aj [116,101,120,116] (.str []) (aj [97,116,116,114,105,98] attr [([116,97,103],.str tag)])))]++[aa.list []]) (.ref (List.length σ)) (Str.ofString "inner") (.ref (List.length (σ++[aa.fobj (some (List.length σ+1)),aa.dict (aj [116,97,105,108] (.str []) (aj [116,101,120,116] (.str []) (aj [97,116,116,114,105,98] attr [([116,97,103],.str tag)])))]))) (σ++[aa.fobj (some (List.length σ+1)),aa.dict (aj (Str.ofString "inner").cps.toList (.ref (List.length σ+2)) (aj [116,97,105,108] (.str []) (aj [116,101,120,116] (.str []) (aj [97,116,116,114,105,98] attr [([116,97,103],.str tag)])))),aa.list []]))∧(cY C1 (σ++[aa.fobj (some (List.length σ+1)),aa.dict (aj [105,110,110,101,114] (.ref (List.length σ+2)) (aj [116,97,105,108] (.str []) (aj [116,101,120,116] (.str []) (aj [97,116,116,114,105,98] attr [([116,97,103],.str tag)])))),aa.list []]) (.ref (List.length σ)) (Str.ofString "makeelement") (.val (.ref 295)) (σ++[aa.fobj (some (List.length σ+1)),aa.dict (aj (Str.ofString "makeelement").cps.toList (.val (.ref 295)) (aj [105,110,110,101,114] (.ref (List.length σ+2)) (aj [116,97,105,108] (.str []) (aj [116,101,120,116] (.str []) (aj [97,116,116,114,105,98] attr [([116,97,103],.str tag)]))))),aa.list []]))∧(cY C1 (σ++[aa.fobj (some (List.length σ+1)),aa.dict (aj [109,97,107,101,101,108,101,109,101,110,116] (.val (.ref 295)) (aj [105,110,110,101,114] (.ref (List.length σ+2)) (aj [116,97,105,108] (.str []) (aj [116,101,120,116] (.str []) (aj [97,116,116,114,105,98] attr [([116,97,103],.str tag)]))))),aa.list []]) (.ref (List.length σ)) (Str.ofString "append") (.clo nJ ((fun x ↦ (Str.ofString "made",.ref (List.length σ))::x) []) none) (σ++[aa.fobj (some (List.length σ+1)),aa.dict (aj (Str.ofString "append").cps.toList (.clo nJ ((fun x ↦ (Str.ofString "made",.ref (List.length σ))::x) []) none) (aj [109,97,107,101,101,108,101,109,101,110,116] (.val (.ref 295)) (aj [105,110,110,101,114] (.ref (List.length σ+2)) (aj [116,97,105,108] (.str []) (aj [116,101,120,116] (.str []) (aj [97,116,116,114,105,98] attr [([116,97,103],.str tag)])))))),aa.list []]))∧(cY C1 (σ++[aa.fobj (some (List.length σ+1)),aa.dict (aj [97,112,112,101,110,100] (.clo nJ ((fun x ↦ (Str.ofString "made",.ref (List.length σ))::x) []) none) (aj [109,97,107,101,101,108,101,109,101,110,116] (.val (.ref 295)) (aj [105,110,110,101,114] (.ref (List.length σ+2)) (aj [116,97,105,108] (.str []) (aj [116,101,120,116] (.str []) (aj [97,116,116,114,105,98] attr [([116,97,103],.str tag)])))))),aa.list []]) (.ref (List.length σ)) (Str.ofString "itertext") (.clo lz ((fun x ↦ (Str.ofString "made",.ref (List.length σ))::x) []) none) (σ++[aa.fobj (some (List.length σ+1)),aa.dict (aj (Str.ofString "itertext").cps.toList (.clo lz ((fun x ↦ (Str.ofString "made",.ref (List.length σ))::x) []) none) (aj [97,112,112,101,110,100] (.clo nJ ((fun x ↦ (Str.ofString "made",.ref (List.length σ))::x) []) none) (aj [109,97,107,101,101,108,101,109,101,110,116] (.val (.ref 295)) (aj [105,110,110,101,114] (.ref (List.length σ+2)) (aj [116,97,105,108] (.str []) (aj [116,101,120,116] (.str []) (aj [97,116,116,114,105,98] attr [([116,97,103],.str tag)]))))))),aa.list []]))∧(cZ (.ref (List.length σ)) (.ref (List.length σ)) (σ++[aa.fobj (some (List.length σ+1)),aa.dict (dP (List.length σ) tag attr [] (.str [])),aa.list []]) (σ++[aa.fobj (some (List.length σ+1)),aa.dict (dP (List.length σ) tag attr [] (.str [])),aa.list []]))) (by kernel_rfl) ⟨(by exact u5 (by kernel_rfl)),(by exact dC (by kernel_rfl) (by kernel_rfl)),(by exact dC (by kernel_rfl) (by kernel_rfl)),(by exact dC (by kernel_rfl) (by kernel_rfl)),(by exact u6 (by kernel_rfl) (by kernel_rfl)),(by exact dC (by kernel_rfl) (by kernel_rfl)),(by exact dC (by kernel_rfl) (by kernel_rfl)),(by exact dC (by kernel_rfl) (by kernel_rfl)),fin⟩
theorem z7 {a l:Nat}{x:V}{xs:List V}(f:Fo σ (.ref a) "inner" (.ref l)) (h:σ[l]? = some (.list xs)) (hz:xs.length<1000):lM call (AW nJ) (AX nJ [("made",.ref a)] [some x]) σ .none (σ.set l (.list (xs++[x]))):=by
 refine w0 [.fld (.ref l),.meth "list.append",.vh .none (List.set σ l (aa.list (xs++[x])))] (q:=(gB C1 σ (.ref a) (Str.ofString "inner") (.ref l))∧(dN σ (.ref l) (Str.ofString "append") "list.append")∧(aF σ "list.append" (.ref l) [x] .none (List.set σ l (aa.list (xs++[x]))))∧(cZ .none .none (List.set σ l (aa.list (xs++[x]))) (List.set σ l (aa.list (xs++[x]))))) (by kernel_rfl) ⟨(.fobj f),(.append (.ref ‹_›)),(.append ‹_› (by exact aS ‹_›)),fin⟩
theorem z8 {a:V}{L:V}(h:call (.val (.ref 302)) [a] [] σ L σ):lM call (AW lz) (AX lz [("made",a)] []) σ L σ:=by
 refine w0 [.vh L σ] (q:=(call (.val (.ref 302)) [a] [] σ L σ)∧(cZ L L σ σ)) (by kernel_rfl) ⟨‹_›,fin⟩
theorem z9 {a b:Nat}{at_:V}{ea eb:List (List Nat×V)}{cap:List (Str×V)}{σ2 σ3:H}(h1:DO σ at_ ea) (z1:ea.length<1000) (z2:eb.length<1000) (f1:Fo (σ++[.dict (aw (aw [] ea) eb)]) (.ref a) "makeelement" (.val (.ref 295)))
 (c1:call (.val (.ref 295)) [.str tag,.ref σ.length] [] (σ++[.dict (aw (aw [] ea) eb)]) (.ref b) σ2) (f2:Fo σ2 (.ref a) "append" (.clo nJ cap none)) (c2:call (.clo nJ cap none) [.ref b] [] σ2 .none σ3) :
 ag C1 call (bJ 239).body (fr 239 [some (.ref a),some (.str tag),some at_,some (.dict eb)]) σ (.ref b) σ3:=by
 refine aC [.d ea,.d eb,.fld (.val (.ref 295)),.vh (.ref b) σ2,.fld (.clo nJ cap none),.vh .none σ3] (q:=(DO σ at_ ea∧List.length ea<(1000:Nat))∧(DO σ (.dict eb) eb∧List.length eb<(1000:Nat))∧(Fo (σ++[aa.dict (aw (aw [] ea) eb)]) (.ref a) (Str.ofString "makeelement") (.val (.ref 295)))∧(call (.val (.ref 295)) [.str tag,.ref (List.length σ)] [] (σ++[aa.dict (aw (aw [] ea) eb)]) (.ref b) σ2)∧(Fo σ2 (.ref a) (Str.ofString "append") (.clo nJ cap none))∧(call (.clo nJ cap none) [.ref b] [] σ2 .none σ3)∧(cZ (.ref b) (.ref b) σ3 σ3)) (by kernel_rfl) ⟨⟨h1,‹_›⟩,⟨.val,‹_›⟩,f1,‹_›,f2,‹_›,fin⟩
theorem Aa {e:V}{b:Nat}{L T:List V}{tl:V}{o:Option V}(c:call (.val (.ref 302)) [.ref b] [] σ (.list L) σ) (h1:T.length+L.length<1048576) (h2:(T++L).length+1<1048576) (f:Fo σ (.ref b) "tail" tl) :
 Tn call 302 1 (.ref b) (fr 302 [some e,some (.list T),o]) σ .next (fr 302 [some e,some (.list (T++L++[tl])),some (.ref b)]) σ:=by
 refine cq [.vh (.list L) σ,.v (.list (T++L)),.fld tl,.v (.list (T++L++[tl]))] (q:=fun K=>(call (.val (.ref 302)) [.ref b] [] σ (.list L) σ)∧(ah σ .Add (.list T) (.list L) (.list (T++L)))∧(gB C1 σ (.ref b) (Str.ofString "tail") tl)∧(ah σ .Add (.list (T++L)) (.list [tl]) (.list (T++L++[tl])))∧(K .next (fr 302 [some e,some (.list (T++L++[tl])),some (.ref b)]) σ)) (fun K=>by kernel_rfl) fun K hK=>⟨‹_›,(.app .val .val ‹_›),(.fobj f),(.app .val .val ‹_›),hK⟩
theorem Ab {a l:Nat}{xs T:List V}{t0:V}{o:Option V}(f1:Fo σ (.ref a) "text" t0) (f2:Fo σ (.ref a) "inner" (.ref l)) (h:σ[l]? = some (.list xs)) (hl:Lp call 302 1 (some l) xs (fr 302 [some (.ref a),some (.list [t0])]) σ .next (fr 302 [some (.ref a),some (.list T),o]) σ) :
 ag C1 call (bJ 302).body (fr 302 [some (.ref a)]) σ (.list T) σ:=by
 refine aC [.fld t0,.fld (.ref l),.l xs,.st .next (fr 302 [some (.ref a),some (.list T),o]) σ] (q:=(gB C1 σ (.ref a) (Str.ofString "text") t0)∧(gB C1 σ (.ref a) (Str.ofString "inner") (.ref l))∧(σ[l]? = some (aa.list xs))∧(Lp call 302 1 (some l) xs (fr 302 [some (.ref a),some (.list [t0])]) σ .next (fr 302 [some (.ref a),some (.list T),o]) σ)∧(cZ (.list T) (.list T) σ σ)) (by kernel_rfl) ⟨(.fobj f1),(.fobj f2),‹_›,‹_›,fin⟩
theorem xK {e x:V}{pa:Nat}{xs:List V}{o:Option V}(h:σ[pa]? = some (.list xs)) (hz:xs.length<1048576):Tn call 246 0 x (fr 246 [some (.bm "list.append" (.ref pa)),some e,o]) σ .next (fr 246 [some (.bm "list.append" (.ref pa)),some e,some x]) (σ.set pa (.list (xs++[x]))):=by
 refine cq [.l xs] (q:=fun K=>(σ[pa]? = some (aa.list xs)∧List.length xs<af)∧(K .next (fr 246 [some (.bm "list.append" (.ref pa)),some e,some x]) (List.set σ pa (aa.list (xs++[x]))))) (fun K=>by kernel_rfl) fun K hK=>⟨⟨‹_›,‹_›⟩,hK⟩
theorem xL {a pa:Nat}{L:List V}{cap:List (Str×V)}{o:Option V}{σ2:H}{tl:V}(f1:Fo σ (.ref a) "itertext" (.clo lz cap none)) (c:call (.clo lz cap none) [] [] σ (.list L) σ) (hl:Lp call 246 0 none L (fr 246 [some (.bm "list.append" (.ref pa)),some (.ref a)]) σ .next (fr 246 [some (.bm "list.append" (.ref pa)),some (.ref a),o]) σ2) (f2:Fo σ2 (.ref a) "tail" tl) (ht:Tr σ2 tl false) :
 ag C1 call (bJ 246).body (fr 246 [some (.bm "list.append" (.ref pa)),some (.ref a)]) σ .none σ2:=by
 refine aC [.fld (.clo lz cap none),.vh (.list L) σ,.st .next (fr 246 [some (.bm "list.append" (.ref pa)),some (.ref a),o]) σ2,.fld tl,.b false] (q:=(Fo σ (.ref a) (Str.ofString "itertext") (.clo lz cap none))∧(call (.clo lz cap none) [] [] σ (.list L) σ)∧(Lp call 246 0 none L (fr 246 [some (.bm "list.append" (.ref pa)),some (.ref a)]) σ .next (fr 246 [some (.bm "list.append" (.ref pa)),some (.ref a),o]) σ2)∧(gB C1 σ2 (.ref a) (Str.ofString "tail") tl)∧(Tr σ2 tl false)∧(cZ .none .none σ2 σ2)) (by kernel_rfl) ⟨f1,‹_›,‹_›,(.fobj f2),ht,fin⟩
theorem xM {a pa:Nat}{L xs:List V}{cap:List (Str×V)}{o:Option V}{σ2:H}{tl:V}(f1:Fo σ (.ref a) "itertext" (.clo lz cap none)) (c:call (.clo lz cap none) [] [] σ (.list L) σ) (hl:Lp call 246 0 none L (fr 246 [some (.bm "list.append" (.ref pa)),some (.ref a)]) σ .next (fr 246 [some (.bm "list.append" (.ref pa)),some (.ref a),o]) σ2) (f2:Fo σ2 (.ref a) "tail" tl) (ht:Tr σ2 tl true) (h:σ2[pa]? = some (.list xs)) (hz:xs.length<1048576) :
 ag C1 call (bJ 246).body (fr 246 [some (.bm "list.append" (.ref pa)),some (.ref a)]) σ .none (σ2.set pa (.list (xs++[tl]))):=by
 refine aC [.fld (.clo lz cap none),.vh (.list L) σ,.st .next (fr 246 [some (.bm "list.append" (.ref pa)),some (.ref a),o]) σ2,.fld tl,.b true,.fld tl,.l xs] (q:=(Fo σ (.ref a) (Str.ofString "itertext") (.clo lz cap none))∧(call (.clo lz cap none) [] [] σ (.list L) σ)∧(Lp call 246 0 none L (fr 246 [some (.bm "list.append" (.ref pa)),some (.ref a)]) σ .next (fr 246 [some (.bm "list.append" (.ref pa)),some (.ref a),o]) σ2)∧(gB C1 σ2 (.ref a) (Str.ofString "tail") tl)∧(Tr σ2 tl true)∧(gB C1 σ2 (.ref a) (Str.ofString "tail") tl)∧(σ2[pa]? = some (aa.list xs)∧List.length xs<af)∧(cZ .none .none (List.set σ2 pa (aa.list (xs++[tl]))) (List.set σ2 pa (aa.list (xs++[tl]))))) (by kernel_rfl) ⟨f1,‹_›,‹_›,(.fobj f2),ht,(.fobj f2),⟨‹_›,‹_›⟩,fin⟩
end
end Mini
set_option maxRecDepth 100000
set_option exponentiation.threshold 5000
set_option autoImplicit false
namespace Mini
open PySem
noncomputable def A0:m8:=BB (st 209 1)
noncomputable def BG (w:Int):List (Str×V):=[("a_digits",.ref 0),("n",.int w)]
noncomputable def u7 (w:Int):V:=.clo A0 (BG w) (some "inner")
noncomputable def BH (w:Int) (vs:List (Option V)):P:=AX A0 (bq (u7 w) (some "inner")++BG w) vs
section
variable {call:ad}{x l r w:Int}{ds ds1 ds2:List V}
theorem xN (h:(l+1==r)=true) (h0:0≤l) (h1:l<ds.length) (hz:ds.length<1000):ag C1 call (zD A0) (BH w [some (.int x),some (.int l),some (.int r)]) [.list ds] .none [.list (ds.set l.toNat (.int x))]:=by
 refine aC [.v (.int (l+1)),.b true,.h (List.set [aa.list ds] 0 (aa.list (List.set ds (Int.toNat l) (.int x))))] (q:=(ah [aa.list ds] .Add (.int l) (.int 1) (.int (l+1)))∧(Cm [aa.list ds] .Eq (.int (l+1)) (.int r) true)∧(rz [aa.list ds] (.ref 0) (.int l) (.int x) (List.set [aa.list ds] 0 (aa.list (List.set ds (Int.toNat l) (.int x)))))∧(cZ .none .none [aa.list (List.set ds (Int.toNat l) (.int x))] [aa.list (List.set ds (Int.toNat l) (.int x))])) (by kernel_rfl) ⟨.add,(.eqI ‹_›),(.list rfl ‹_› ‹_› (by exact aS ‹_›)),fin⟩
theorem xO {m k s u us lo:Int}(h:(l+1==r)=false) (b1:ah [.list ds] .RShift (.int (l+r)) (.int 1) (.int m)) (b2:ah [.list ds] .Sub (.int m) (.int l) (.int k)) (b3:ah [.list ds] .Mult (.int k) (.int w) (.int s)) (b4:ah [.list ds] .RShift (.int x) (.int s) (.int u)) (b5:ah [.list ds] .LShift (.int u) (.int s) (.int us)) (b6:ah [.list ds] .BitXor (.int x) (.int us) (.int lo))
 (h1:call (u7 w) [.int lo,.int l,.int m] [] [.list ds] .none [.list ds1]) (h2:call (u7 w) [.int u,.int m,.int r] [] [.list ds1] .none [.list ds2]) :
 ag C1 call (zD A0) (BH w [some (.int x),some (.int l),some (.int r)]) [.list ds] .none [.list ds2]:=by
 refine aC [.v (.int (l+1)),.b false,.v (.int (l+r)),.v (.int m),.v (.int k),.v (.int s),.v (.int u),.v (.int us),.v (.int lo),.vh .none [aa.list ds1],.vh .none [aa.list ds2]] (q:=(ah [aa.list ds] .Add (.int l) (.int 1) (.int (l+1)))∧(Cm [aa.list ds] .Eq (.int (l+1)) (.int r) false)∧(ah [aa.list ds] .Add (.int l) (.int r) (.int (l+r)))∧(ah [aa.list ds] .RShift (.int (l+r)) (.int 1) (.int m))∧(ah [aa.list ds] .Sub (.int m) (.int l) (.int k))∧(ah [aa.list ds] .Mult (.int k) (.int w) (.int s))∧(ah [aa.list ds] .RShift (.int x) (.int s) (.int u))∧(ah [aa.list ds] .LShift (.int u) (.int s) (.int us))∧(ah [aa.list ds] .BitXor (.int x) (.int us) (.int lo))∧(call (u7 w) [.int lo,.int l,.int m] [] [aa.list ds] .none [aa.list ds1])∧(call (u7 w) [.int u,.int m,.int r] [] [aa.list ds1] .none [aa.list ds2])∧(cZ .none .none [aa.list ds2] [aa.list ds2])) (by kernel_rfl) ⟨.add,(.eqI ‹_›),.add,b1,b2,b3,b4,b5,b6,‹_›,‹_›,fin⟩
theorem xP {k:Nat}(b1:ah [] .FloorDiv (.int (((Builtin.Int.intBits x:Nat):Int)+w - 1)) (.int w) (.int k)) (hk:(k:Int)<4096) (hl:((List.replicate k [V.int 0]).flatten).length<1048576) (ht:(!(x==0))=true)
 (h1:call (u7 w) [.int x,.int 0,.int ((List.replicate k [V.int 0]).flatten).length] [] [.list (List.replicate k [V.int 0]).flatten] .none [.list ds]) :
 ag C1 call (bJ 209).body (fr 209 [some (.int x),some (.int w)]) [] (.ref 0) [.list ds]:=by
 refine aC [.meth "int.bit_length",.vh (.int ↑(Builtin.Int.intBits x)) [],.v (.int (↑(Builtin.Int.intBits x)+w)),.v (.int (↑(Builtin.Int.intBits x)+w - 1)),.v (.int ↑k),.v (.list (List.flatten (List.replicate (Int.toNat ↑k) [.int 0]))),.b true,.v (.int ↑(List.length (List.flatten (List.replicate (Int.toNat ↑k) [V.int 0])))),.vh .none [aa.list ds]] (q:=(dN [] (.int x) (Str.ofString "bit_length") "int.bit_length")∧(aF [] "int.bit_length" (.int x) [] (.int ↑(Builtin.Int.intBits x)) [])∧(ah [] .Add (.int ↑(Builtin.Int.intBits x)) (.int w) (.int (↑(Builtin.Int.intBits x)+w)))∧(ah [] .Sub (.int (↑(Builtin.Int.intBits x)+w)) (.int 1) (.int (↑(Builtin.Int.intBits x)+w - 1)))∧(ah [] .FloorDiv (.int (↑(Builtin.Int.intBits x)+w - 1)) (.int w) (.int ↑k))∧(ah [] .Mult (.list [.int 0]) (.int ↑k) (.list (List.flatten (List.replicate (Int.toNat ↑k) [.int 0]))))∧(Tr ([]++[aa.list (List.flatten (List.replicate (Int.toNat ↑k) [.int 0]))]) (.int x) true)∧(ay ([]++[aa.list (List.flatten (List.replicate (Int.toNat ↑k) [.int 0]))]) (.builtin "len") [.ref 0] (.int ↑(List.length (List.flatten (List.replicate (Int.toNat ↑k) [.int 0])))))∧(call (u7 w) [.int x,.int 0,.int ↑(List.length (List.flatten (List.replicate k [V.int 0])))] [] [aa.list (List.flatten (List.replicate k [.int 0]))] .none [aa.list ds])∧(cZ (.ref 0) (.ref 0) [aa.list ds] [aa.list ds])) (by kernel_rfl) ⟨.bits,.bits,.add,.sub,b1,(.rep .val (by exact Int.natCast_nonneg _) ‹_› (by exact Nat.le_of_ble_eq_true rfl)),(.int ‹_›),(.lenL (.ref rfl) ‹_›),‹_›,fin⟩
theorem u8 {k:Nat}(b1:ah [] .FloorDiv (.int (((Builtin.Int.intBits x:Nat):Int)+w - 1)) (.int w) (.int k)) (hk:(k:Int)<4096) (ht:(!(x==0))=false) :
 ag C1 call (bJ 209).body (fr 209 [some (.int x),some (.int w)]) [] (.ref 0) [.list (List.replicate k [V.int 0]).flatten]:=by
 refine aC [.meth "int.bit_length",.vh (.int ↑(Builtin.Int.intBits x)) [],.v (.int (↑(Builtin.Int.intBits x)+w)),.v (.int (↑(Builtin.Int.intBits x)+w - 1)),.v (.int ↑k),.v (.list (List.flatten (List.replicate (Int.toNat ↑k) [.int 0]))),.b false] (q:=(dN [] (.int x) (Str.ofString "bit_length") "int.bit_length")∧(aF [] "int.bit_length" (.int x) [] (.int ↑(Builtin.Int.intBits x)) [])∧(ah [] .Add (.int ↑(Builtin.Int.intBits x)) (.int w) (.int (↑(Builtin.Int.intBits x)+w)))∧(ah [] .Sub (.int (↑(Builtin.Int.intBits x)+w)) (.int 1) (.int (↑(Builtin.Int.intBits x)+w - 1)))∧(ah [] .FloorDiv (.int (↑(Builtin.Int.intBits x)+w - 1)) (.int w) (.int ↑k))∧(ah [] .Mult (.list [.int 0]) (.int ↑k) (.list (List.flatten (List.replicate (Int.toNat ↑k) [.int 0]))))∧(Tr ([]++[aa.list (List.flatten (List.replicate (Int.toNat ↑k) [.int 0]))]) (.int x) false)∧(cZ (.ref 0) (.ref 0) [aa.list (List.flatten (List.replicate k [.int 0]))] [aa.list (List.flatten (List.replicate k [.int 0]))])) (by kernel_rfl) ⟨.bits,.bits,.add,.sub,b1,(.rep .val (by exact Int.natCast_nonneg _) ‹_› (by exact Nat.le_of_ble_eq_true rfl)),(.int ‹_›),fin⟩
end
noncomputable def A1:m8:=BB (st 216 0)
noncomputable def BI (dv:V) (w:Int):List (Str×V):=[("digits",dv),("n",.int w)]
noncomputable def u9 (dv:V) (w:Int):V:=.clo A1 (BI dv w) (some "inner")
noncomputable def BJ (dv:V) (w:Int) (vs:List (Option V)):P:=AX A1 (bq (u9 dv w) (some "inner")++BI dv w) vs
section
variable {call:ad}{l r w:Int}{dv:V}{ds:List V}{σ:H}(hL:LO σ dv ds)
include hL
theorem xQ {j:Nat}{v:V}(h:(l+1==r)=true) (h1:aE ds.length l=some j) (h2:ds[j]? = some v):ag C1 call (zD A1) (BJ dv w [some (.int l),some (.int r)]) σ v σ:=by
 refine aC [.v (.int (l+1)),.b true,.v v] (q:=(ah σ .Add (.int l) (.int 1) (.int (l+1)))∧(Cm σ .Eq (.int (l+1)) (.int r) true)∧(bx σ dv (.int l) v)∧(cZ v v σ σ)) (by kernel_rfl) ⟨.add,(.eqI ‹_›),(.list hL ‹_› ‹_›),fin⟩
omit hL in
theorem xR {m k s u us lo:Int}(h:(l+1==r)=false) (b1:ah σ .RShift (.int (l+r)) (.int 1) (.int m)) (b2:ah σ .Sub (.int m) (.int l) (.int k)) (b3:ah σ .Mult (.int k) (.int w) (.int s)) (b5:ah σ .LShift (.int u) (.int s) (.int us))
 (h1:call (u9 dv w) [.int m,.int r] [] σ (.int u) σ) (h2:call (u9 dv w) [.int l,.int m] [] σ (.int lo) σ) :
 ag C1 call (zD A1) (BJ dv w [some (.int l),some (.int r)]) σ (.int (us+lo)) σ:=by
 refine aC [.v (.int (l+1)),.b false,.v (.int (l+r)),.v (.int m),.v (.int k),.v (.int s),.vh (.int u) σ,.v (.int us),.vh (.int lo) σ,.v (.int (us+lo))] (q:=(ah σ .Add (.int l) (.int 1) (.int (l+1)))∧(Cm σ .Eq (.int (l+1)) (.int r) false)∧(ah σ .Add (.int l) (.int r) (.int (l+r)))∧(ah σ .RShift (.int (l+r)) (.int 1) (.int m))∧(ah σ .Sub (.int m) (.int l) (.int k))∧(ah σ .Mult (.int k) (.int w) (.int s))∧(call (u9 dv w) [.int m,.int r] [] σ (.int u) σ)∧(ah σ .LShift (.int u) (.int s) (.int us))∧(call (u9 dv w) [.int l,.int m] [] σ (.int lo) σ)∧(ah σ .Add (.int us) (.int lo) (.int (us+lo)))∧(cZ (.int (us+lo)) (.int (us+lo)) σ σ)) (by kernel_rfl) ⟨.add,(.eqI ‹_›),.add,b1,b2,b3,‹_›,b5,‹_›,.add,fin⟩
theorem xS {v:V}(ht:(!ds.isEmpty)=true) (hz:ds.length<1000) (h1:call (u9 dv w) [.int 0,.int ds.length] [] σ v σ):ag C1 call (bJ 216).body (fr 216 [some dv,some (.int w)]) σ v σ:=by
 refine aC [.b true,.v (.int ↑(List.length ds)),.vh v σ] (q:=(Tr σ dv true)∧(ay σ (.builtin "len") [dv] (.int ↑(List.length ds)))∧(call (u9 dv w) [.int 0,.int ↑(List.length ds)] [] σ v σ)∧(cZ v v σ σ)) (by kernel_rfl) ⟨(.list hL (by exact aS ‹_›) ‹_›),(.lenL hL (by exact aS ‹_›)),‹_›,fin⟩
theorem vb (ht:(!ds.isEmpty)=false) (hz:ds.length<1000):ag C1 call (bJ 216).body (fr 216 [some dv,some (.int w)]) σ (.int 0) σ:=by
 refine aC [.b false] (q:=(Tr σ dv false)∧(cZ (.int 0) (.int 0) σ σ)) (by kernel_rfl) ⟨(.list hL (by exact aS ‹_›) ‹_›),fin⟩
end
end Mini
set_option maxRecDepth 100000
set_option exponentiation.threshold 5000
set_option autoImplicit false
namespace Mini
open PySem
noncomputable def aA (w:Nat):List Nat→Nat
 |[]=>0
 |d::ds=>d+2 ^ w*aA w ds
noncomputable def f7 (w:Nat):Nat→Nat→List Nat
 |0,_=>[]
 |k+1,x=>x % 2 ^ w::f7 w k (x / 2 ^ w)
theorem fq {w k x:Nat}:(f7 w k x).length=k:=by
 induction k generalizing x with
 |zero=>rfl
 |succ k ih=>exact congrArg (· + 1) ih
theorem dX {w a:Nat}:2 ^ (w*(a+1))=2 ^ w*2 ^ (w*a):=by rw [←Nat.pow_add,Nat.mul_succ,Nat.add_comm]
theorem ii {w a b x:Nat}:f7 w (a+b) x=f7 w a x++f7 w b (x / 2 ^ (w*a)):=by
 induction a generalizing x with
 |zero=>rw [Nat.zero_add,Nat.mul_zero,Nat.pow_zero,Nat.div_one]; rfl
 |succ a ih=>
  rw [Nat.succ_add,dX,←Nat.div_div_eq_div_mul];exact congrArg (x % 2 ^ w :: ·) ih
theorem pv {w a x:Nat}:f7 w a (x % 2 ^ (w*a))=f7 w a x:=by
 induction a generalizing x with
 |zero=>rfl
 |succ a ih=>
  show _ % 2 ^ w::f7 w a _=x % 2 ^ w::f7 w a (x / 2 ^ w);rw [dX,Nat.mod_mul_right_mod,Nat.mod_mul_right_div_self,ih]
theorem pw {w k x:Nat}(h:x<2 ^ (w*k)):aA w (f7 w k x)=x:=by
 induction k generalizing x with
 |zero=>rw [Nat.mul_zero] at h; exact (Nat.lt_one_iff.mp h).symm
 |succ k ih=>
  show x % 2 ^ w+2 ^ w*aA w (f7 w k (x / 2 ^ w))=x;rw [dX] at h;rw [ih (Nat.div_lt_of_lt_mul h),Nat.mod_add_div]
theorem si {w k x d:Nat}(h:d∈f7 w k x):d<2 ^ w:=by
 induction k generalizing x with
 |zero=>cases h
 |succ k ih=>
  rcases List.mem_cons.mp h with rfl | h
  ·exact Nat.mod_lt _ (Nat.two_pow_pos w)
  ·exact ih h
theorem sj {w:Nat}{ds:List Nat}(h:∀d,d∈ds→d<2 ^ w):aA w ds<2 ^ (w*ds.length):=by
 induction ds with
 |nil=>exact Nat.two_pow_pos _
 |cons d ds ih=>
  have hd:=h d List.mem_cons_self;show d+2 ^ w*aA w ds<2 ^ (w*(ds.length+1));rw [dX];refine Nat.lt_of_lt_of_le (Nat.add_lt_add_right hd _) ?_;rw [Nat.add_comm,←Nat.mul_succ];exact Nat.mul_le_mul_left _ (ih fun x hx=>h x (List.mem_cons_of_mem _ hx))
theorem eX {w:Nat}{xs ys:List Nat}:aA w (xs++ys)=aA w xs+2 ^ (w*xs.length)*aA w ys:=by
 induction xs with
 |nil=>rw [List.nil_append,List.length_nil,Nat.mul_zero,Nat.pow_zero,Nat.one_mul]; exact (Nat.zero_add _).symm
 |cons x xs ih=>
  show x+2 ^ w*aA w (xs++ys)=x+2 ^ w*aA w xs+_;rw [ih,Nat.mul_add,←Nat.mul_assoc,List.length_cons,dX,Nat.add_assoc]
noncomputable def nd (w a:Nat):Nat:=(Builtin.Int.intBits (a:Int)+w - 1) / w
theorem px {x:Nat}:x<2 ^ (Builtin.Int.intBits (x:Int)):=by
 unfold Builtin.Int.intBits
 by_cases h:x=0
 ·subst h; decide
 ·have:((x:Int)==0)=false:=beq_eq_false_iff_ne.mpr (Int.ofNat_ne_zero.mpr h);rw [this];exact Nat.lt_log2_self
theorem fs {x k:Nat}(h:x<2 ^ k):Builtin.Int.intBits (x:Int)≤k:=by
 unfold Builtin.Int.intBits
 by_cases hx:x=0
 ·subst hx; exact Nat.zero_le _
 ·have:((x:Int)==0)=false:=beq_eq_false_iff_ne.mpr (Int.ofNat_ne_zero.mpr hx);rw [this];exact (Nat.log2_lt hx).mpr h
theorem nK {w a:Nat}(hw:1≤w):Builtin.Int.intBits (a:Int)≤w*nd w a∧w*nd w a≤Builtin.Int.intBits (a:Int)+w - 1:=by
 unfold nd;have h:Builtin.Int.intBits (a:Int)+w - 1+1≤w*((Builtin.Int.intBits (a:Int)+w - 1) / w)+w:=Nat.lt_mul_div_succ _ hw;rw [Nat.sub_add_cancel (Nat.le_trans hw (Nat.le_add_left _ _))] at h;exact⟨Nat.le_of_add_le_add_right h,Nat.mul_div_le _ _⟩
theorem lO {w a:Nat}(hw:1≤w):a<2 ^ (w*nd w a):=Nat.lt_of_lt_of_le px (Nat.pow_le_pow_right (by decide) (nK hw).1)
theorem sk {w a b:Nat}(hw:1≤w) (h:a<2 ^ b):nd w a≤b:=by
 refine Nat.le_of_lt_succ (Nat.div_lt_of_lt_mul ?_);exact Nat.lt_of_lt_of_le (Nat.sub_lt (Nat.lt_of_lt_of_le hw (Nat.le_add_left _ _)) (by decide)) (Nat.add_le_add_right (Nat.le_trans (fs h) (Nat.le_mul_of_pos_left b hw)) w)
end Mini
set_option maxRecDepth 100000
set_option exponentiation.threshold 5000
set_option autoImplicit false
namespace Mini
open PySem
theorem vc {x s:Nat}:x &&& (x / 2 ^ s*2 ^ s)=x / 2 ^ s*2 ^ s:=by
 apply Nat.eq_of_testBit_eq;intro i;rw [Nat.testBit_and,←Nat.shiftRight_eq_div_pow,←Nat.shiftLeft_eq,Nat.testBit_shiftLeft,Nat.testBit_shiftRight]
 by_cases h:i≥s
 ·rw [decide_eq_true h,Bool.true_and,Nat.add_sub_cancel' h,Bool.and_self]
 ·rw [decide_eq_false h,Bool.false_and,Bool.and_false]
theorem xT {x s:Nat}:x ||| (x / 2 ^ s*2 ^ s)=x:=by
 apply Nat.eq_of_testBit_eq;intro i;rw [Nat.testBit_or,←Nat.shiftRight_eq_div_pow,←Nat.shiftLeft_eq,Nat.testBit_shiftLeft,Nat.testBit_shiftRight]
 by_cases h:i≥s
 ·rw [decide_eq_true h,Bool.true_and,Nat.add_sub_cancel' h,Bool.or_self]
 ·rw [decide_eq_false h,Bool.false_and,Bool.or_false]
theorem cu {a:Nat}:Builtin.bitNot (a:Int)=Int.negSucc a:=by unfold Builtin.bitNot; rw [Int.negSucc_eq,Int.neg_add]; rfl
theorem cv {a:Nat}:Builtin.bitNot (Int.negSucc a)=(a:Int):=Int.add_sub_cancel (a:Int) 1
theorem ve {x s:Nat}:Builtin.bitXor (x:Int) ((x / 2 ^ s*2 ^ s:Nat):Int)=((x % 2 ^ s:Nat):Int):=by
 have ha:∀a b:Nat,Builtin.bitAnd (a:Int) (b:Int)=((a &&& b:Nat):Int):=fun a b=>by
  unfold Builtin.bitAnd;rw [decide_eq_true (Int.natCast_nonneg a),decide_eq_true (Int.natCast_nonneg b)];rfl
 have ho:∀a b:Nat,Builtin.bitOr (a:Int) (b:Int)=((a ||| b:Nat):Int):=fun a b=>by
  unfold Builtin.bitOr;rw [cu,cu];unfold Builtin.bitAnd;rw [decide_eq_false (Int.not_le.mpr (Int.negSucc_lt_zero a)),decide_eq_false (Int.not_le.mpr (Int.negSucc_lt_zero b))];show Builtin.bitNot (Builtin.bitNot (((Builtin.bitNot (Int.negSucc a)).toNat ||| (Builtin.bitNot (Int.negSucc b)).toNat:Nat):Int))=_
  rw [cv,cv,cu,cv]; rfl
 unfold Builtin.bitXor;rw [ha,ho,vc,xT,←Int.natCast_sub (Nat.div_mul_le_self _ _),Nat.mod_eq_sub_div_mul]
theorem cw {a b:Nat}:Int.fdiv (a:Int) (b:Int)=((a / b:Nat):Int):=by
 rw [Int.fdiv_eq_ediv_of_nonneg _ (Int.natCast_nonneg b)]; rfl
theorem dd {a b:Nat}:Int.fmod (a:Int) (b:Int)=((a % b:Nat):Int):=by
 rw [Int.fmod_eq_emod_of_nonneg _ (Int.natCast_nonneg b)]; rfl
theorem w5 {σ:H}{a s:Nat}:ah σ .RShift (.int a) (.int s) (.int (a / 2 ^ s:Nat)):=by
 rw [←cw,Int.natCast_pow];exact .shr (Int.natCast_nonneg s)
theorem gC {x k:Nat}(h:x<2 ^ k) (hk:k≤4000):aZ (x:Int)=true:=
 Nat.ble_eq_true_of_le (Nat.lt_of_lt_of_le h (Nat.pow_le_pow_right (by decide) (Nat.le_trans hk (by decide))))
theorem py {σ:H}{a s k:Nat}(h:a<2 ^ k) (hk:k≤4000) (hs:s≤4000):ah σ .LShift (.int a) (.int s) (.int (a*2 ^ s:Nat)):=by
 rw [Int.natCast_mul,Int.natCast_pow];exact .shl (gC h hk) (Int.natCast_nonneg s) (Int.ofNat_lt.mpr (Nat.lt_of_le_of_lt hs (by decide)))
theorem w6 {σ:H}{a b k:Nat}(ha:a<2 ^ k) (hb:b<2 ^ k) (hk:k≤4000):ah σ .Mult (.int a) (.int b) (.int (a*b:Nat)):=by
 rw [Int.natCast_mul];exact .mul (gC ha hk) (gC hb hk)
theorem w7 {σ:H}{a b:Nat}:ah σ .Sub (.int (a+b:Nat)) (.int a) (.int b):=by
 have:(b:Int)=((a+b:Nat):Int) - a:=by rw [Int.natCast_add,Int.add_comm,Int.add_sub_cancel]
 rw [this]; exact .sub
noncomputable def nL (ds:List V) (l:Nat) (xs:List V):List V:=ds.take l++xs++ds.drop (l+xs.length)
theorem vf {ds:List V}{l:Nat}{x:V}(h:l<ds.length):nL ds l [x]=ds.set l x:=by
 unfold nL;rw [List.set_eq_take_append_cons_drop,if_pos h,List.append_assoc]; rfl
theorem vg {ds:List V}{l:Nat}{xs:List V}(h:l+xs.length≤ds.length):(nL ds l xs).length=ds.length:=by
 unfold nL;rw [List.length_append,List.length_append,List.length_take,List.length_drop,Nat.min_eq_left (Nat.le_trans (Nat.le_add_right _ _) h),Nat.add_sub_cancel' h]
theorem vi {ds:List V}{l:Nat}{xs ys:List V}(h:l≤ds.length):nL (nL ds l xs) (l+xs.length) ys=nL ds l (xs++ys):=by
 unfold nL;have e:l+xs.length=(ds.take l++xs).length:=by rw [List.length_append,List.length_take,Nat.min_eq_left h]
 rw [List.length_append,←Nat.add_assoc,e,List.take_left,List.drop_append,List.drop_of_length_le (Nat.le_add_right _ _),List.nil_append,Nat.add_sub_cancel_left,List.drop_drop,←List.append_assoc]
noncomputable def iv (d:Nat):V:=.int d
theorem w8 {σ:H}{l k:Nat}:ah σ .RShift (.int ((l:Int)+((l+k:Nat):Int))) (.int 1) (.int (l+k / 2:Nat)):=by
 have:(l+k / 2:Nat)=(l+(l+k)) / 2 ^ 1:=by rw [←Nat.add_assoc,←Nat.two_mul]; exact (Nat.mul_add_div (by decide) l k).symm
 rw [this,←Int.natCast_add];exact w5 (s:=1)
structure Pt (w d k k1 k2:Nat):Prop where
 e:k=k1+k2
 p1:1≤k1
 p2:1≤k2
 l1:k1≤2 ^ d
 l2:k2≤2 ^ d
 w1:w*k1≤w*k
 w2:w*k2≤w*k
 es:w*k1+w*k2=w*k
theorem pt {w d k:Nat}(h:k≤2 ^ (d+1)) (h1:2≤k):Pt w d k (k / 2) (k - k / 2):=by
 rw [Nat.pow_succ] at h;have e:k=k / 2+(k - k / 2):=(Nat.add_sub_cancel' (Nat.div_le_self k 2)).symm;exact⟨e,Nat.div_pos h1 (by decide),Nat.sub_pos_of_lt (Nat.div_lt_self (Nat.le_of_succ_le h1) (by decide)),Nat.div_le_of_le_mul (Nat.mul_comm _ 2▸h),by omega,Nat.mul_le_mul_left _ (Nat.div_le_self _ _),Nat.mul_le_mul_left _ (Nat.sub_le _ _),by rw [←Nat.mul_add,←e]⟩
theorem sn {k d:Nat}(h0:1≤k) (h:k≤2 ^ d) (h1:¬k=1):2≤k∧∃d',d=d'+1:=by
 refine⟨Nat.lt_of_le_of_ne h0 (Ne.symm h1),?_⟩;cases d with
 |zero=>exact absurd (Nat.le_antisymm h h0) h1
 |succ d=>exact⟨d,rfl⟩
theorem pz {l k:Nat}(h:2≤k):((l:Int)+1==((l+k:Nat):Int))=false:=beq_eq_false_iff_ne.mpr fun e=>Nat.ne_of_lt h (Nat.add_left_cancel (n:=l) (Int.ofNat.inj e))
theorem w9 {n w l x:Nat}{ds:List V}(hl:l+1≤ds.length) (hd:ds.length<1000) (hx:x<2 ^ (w*1)):ab C1 (n+1) (u7 w) [.int x,.int l,.int (l+1:Nat)] [] [.list ds] .none [.list (nL ds l ((f7 w 1 x).map iv))]:=by
 have e:nL ds l ((f7 w 1 x).map iv)=ds.set l (.int x):=by
  rw [←vf hl];show nL ds l [.int (x % 2 ^ w:Nat)]=_;rw [Nat.mod_eq_of_lt (by rwa [Nat.mul_one] at hx)]
 rw [e];exact fm (by kernel_rfl) (by kernel_rfl) (xN (call:=ab C1 n) (x:=x) (l:=l) (r:=(l+1:Nat)) (w:=w) (ds:=ds) (by rw [beq_iff_eq]; rfl) (Int.natCast_nonneg l) (Int.ofNat_lt.mpr hl) hd)
theorem vj {n w d k l x:Nat}{ds:List V}(hw:w<2 ^ 200) (hk:1≤k) (hkd:k≤2 ^ d) (hl:l+k≤ds.length) (hd:ds.length<1000) (hx:x<2 ^ (w*k)) (hwk:w*k≤3000) :
  ab C1 (n+d+1) (u7 w) [.int x,.int l,.int (l+k:Nat)] [] [.list ds] .none [.list (nL ds l ((f7 w k x).map iv))]:=by
 induction d generalizing k l x ds with
 |zero=>
  obtain rfl:k=1:=Nat.le_antisymm hkd hk;exact w9 hl hd hx
 |succ d ih=>
  by_cases h1:k=1
  ·subst h1;exact w9 hl hd hx
  ·have hk2:=(sn hk hkd h1).1;have p:=pt (w:=w) hkd hk2;generalize e1:k / 2=k1 at p;generalize k - k1=k2 at p;have hx1:x % 2 ^ (w*k1)<2 ^ (w*k1):=Nat.mod_lt _ (Nat.two_pow_pos _);have hx2:x / 2 ^ (w*k1)<2 ^ (w*k2):=Nat.div_lt_of_lt_mul (by rw [←Nat.pow_add,p.es]; exact hx)
   have hl1:l+k1+k2≤ds.length:=by rw [Nat.add_assoc,←p.e]; exact hl
   have hlay:(nL ds l ((f7 w k1 (x % 2 ^ (w*k1))).map iv)).length=ds.length:=vg (by rw [List.length_map,fq]; exact Nat.le_trans (Nat.le_add_right _ _) hl1)
   have c1:=ih (x:=x % 2 ^ (w*k1)) p.p1 p.l1 (Nat.le_trans (Nat.le_add_right _ _) hl1) hd hx1 (Nat.le_trans p.w1 hwk);have c2:=ih (x:=x / 2 ^ (w*k1)) (l:=l+k1) p.p2 p.l2 (by rw [hlay]; exact hl1) (by rw [hlay]; exact hd) hx2 (Nat.le_trans p.w2 hwk)
   have hll:=vi (ds:=ds) (l:=l) (xs:=(f7 w k1 (x % 2 ^ (w*k1))).map iv) (ys:=(f7 w k2 (x / 2 ^ (w*k1))).map iv) (Nat.le_trans (Nat.le_add_right _ _) hl);rw [List.length_map,fq,←List.map_append,pv,←ii,←p.e] at hll;rw [pv] at c1 c2;rw [hll,Nat.add_assoc l,←p.e] at c2;have hk1:k1<2 ^ 200:=Nat.lt_trans (Nat.lt_of_le_of_lt (Nat.le_trans (Nat.le_add_left k1 l) (Nat.le_trans (Nat.le_add_right _ k2) hl1)) hd:k1<1000) (by decide)
   have hs1:w*k1≤4000:=Nat.le_trans p.w1 (Nat.le_trans hwk (by decide))
   exact fm (by kernel_rfl) (by kernel_rfl) (xO (call:=ab C1 (n+d+1)) (m:=(l+k1:Nat)) (k:=(k1:Nat)) (s:=(w*k1:Nat)) (u:=(x / 2 ^ (w*k1):Nat)) (us:=(x / 2 ^ (w*k1)*2 ^ (w*k1):Nat)) (lo:=(x % 2 ^ (w*k1):Nat)) (pz hk2) (e1▸w8) w7 (Nat.mul_comm w k1▸w6 (k:=200) hk1 hw (by decide)) w5 (py (k:=3000) (Nat.lt_of_lt_of_le (Nat.lt_of_le_of_lt (Nat.div_le_self _ _) hx) (Nat.pow_le_pow_right (by decide) hwk)) (by decide) hs1) (ve▸.xor) c1 c2)
theorem dY {n:Nat}{l:List Nat}:eU n (l.map iv)=true:=by
 induction l with
 |nil=>rfl
 |cons _ _ ih=>exact ih
noncomputable def Ac (w a:Nat):V:=.list ((f7 w (nd w a) a).map iv)
theorem Ad {σ:H}{w a:Nat}(hw:1≤w) (hw2:w<2 ^ 200):ah σ .FloorDiv (.int (((Builtin.Int.intBits (a:Int):Nat):Int)+(w:Int) - 1)) (.int w) (.int (nd w a)):=by
 unfold nd;rw [←cw,Int.natCast_sub (Nat.le_trans hw (Nat.le_add_left _ _)),Int.natCast_add];exact .fdiv (Int.ofNat_ne_zero.mpr (Nat.ne_of_gt hw)) (gC hw2 (by decide))
theorem fw {n w a:Nat}{σ:H}(hw:1≤w) (hw2:w≤200) (ha:a<2 ^ 200):ab C1 (n+10) (.val (.ref 209)) [.int a,.int w] [] σ (Ac w a) σ:=by
 have hk:=sk hw ha;have hw3:w<2 ^ 200:=Nat.lt_of_le_of_lt hw2 (by decide)
 have hm:w*nd w a≤3000:=Nat.le_trans (nK hw).2 (Nat.le_trans (Nat.sub_le _ _) (Nat.le_trans (Nat.add_le_add (fs ha) hw2) (by decide)))
 have hk2:((nd w a:Nat):Int)<4096:=Int.ofNat_lt.mpr (Nat.lt_of_le_of_lt hk (by decide))
 refine aR (n:=n+9) (ρ:=fr 209 [some (.int a),some (.int w)]) (v0:=.ref 0) (σ0:=[.list ((f7 w (nd w a) a).map iv)]) (by kernel_rfl) rfl (by kernel_rfl) ?_ (.list rfl dY)
 by_cases h0:nd w a=0
 ·have:a=0:=by have:=lO (a:=a) hw; rw [h0,Nat.mul_zero] at this; exact Nat.lt_one_iff.mp this
  have r:=u8 (call:=ab C1 (n+9)) (x:=a) (w:=w) (Ad hw hw3) hk2 (by rw [this]; rfl)
  rw [h0] at r ⊢;exact r
 ·have hr:((List.replicate (nd w a) [V.int 0]).flatten).length=nd w a:=by rw [pq,List.length_replicate]
  have c:=vj (n:=n) (d:=8) (l:=0) (ds:=(List.replicate (nd w a) [V.int 0]).flatten) hw3 (Nat.pos_of_ne_zero h0) (Nat.le_trans hk (by decide)) (by rw [hr,Nat.zero_add]; exact Nat.le_refl _) (by rw [hr]; exact Nat.lt_of_le_of_lt hk (by decide)) (lO hw) hm
  have e:nL (List.replicate (nd w a) [V.int 0]).flatten 0 ((f7 w (nd w a) a).map iv)=(f7 w (nd w a) a).map iv:=by
   unfold nL;rw [List.take_zero,List.nil_append,List.drop_of_length_le (by rw [hr,Nat.zero_add,List.length_map,fq]; exact Nat.le_refl _),List.append_nil]
  rw [e,Nat.zero_add] at c;refine xP (Ad hw hw3) hk2 (by rw [hr]; exact Nat.lt_of_le_of_lt hk (by decide)) ?_ (by rw [hr]; exact c)
  have:(a:Int)≠0:=fun q=>h0 (by rw [Int.ofNat_eq_zero.mp q]; exact Nat.div_eq_of_lt ((Nat.zero_add w).symm▸Nat.sub_lt hw (by decide)))
  rw [beq_eq_false_iff_ne.mpr this]; rfl
theorem lP {w:Nat}{ds:List Nat}{l k:Nat}(h:∀d,d∈ds→d<2 ^ w) (hl:l+k≤ds.length):((ds.drop l).take k).length=k∧aA w ((ds.drop l).take k)<2 ^ (w*k):=by
 have e:((ds.drop l).take k).length=k:=by rw [List.length_take,List.length_drop,Nat.min_eq_left (Nat.le_sub_of_add_le' hl)]
 refine⟨e,?_⟩;have:=sj (w:=w) (ds:=(ds.drop l).take k) fun d hd=>h d (List.mem_of_mem_drop (List.mem_of_mem_take hd))
 rwa [e] at this
section
variable {n w:Nat}{ds:List Nat}{dv:V}{σ:H}(hL:LO σ dv (ds.map iv)) (hds:∀d,d∈ds→d<2 ^ w) (hd:ds.length<1000)
include hL hds hd
omit hds in
theorem xa {l:Nat}(hl:l+1≤ds.length):ab C1 (n+1) (u9 dv w) [.int l,.int (l+1:Nat)] [] σ (.int (aA w ((ds.drop l).take 1):Nat)) σ:=by
 have e:(ds.drop l).take 1=[ds[l]'hl]:=by rw [List.drop_eq_getElem_cons hl]; rfl
 refine fm (by kernel_rfl) (by kernel_rfl) (xQ hL (l:=l) (r:=(l+1:Nat)) (w:=w) (by rw [beq_iff_eq]; rfl) (cg (by rw [List.length_map]; exact aS hd) (by rw [List.length_map]; exact hl)) ?_)
 rw [e,List.getElem?_map,List.getElem?_eq_getElem hl]; rfl
theorem vk {d k l:Nat}(hw:w<2 ^ 200) (hk:1≤k) (hkd:k≤2 ^ d) (hl:l+k≤ds.length) (hwk:w*k≤3000):ab C1 (n+d+1) (u9 dv w) [.int l,.int (l+k:Nat)] [] σ (.int (aA w ((ds.drop l).take k):Nat)) σ:=by
 induction d generalizing k l with
 |zero=>
  obtain rfl:k=1:=Nat.le_antisymm hkd hk;exact xa hL hd hl
 |succ d ih=>
  by_cases h1:k=1
  ·subst h1;exact xa hL hd hl
  ·have hk2:=(sn hk hkd h1).1;have p:=pt (w:=w) hkd hk2;generalize e1:k / 2=k1 at p;generalize k - k1=k2 at p;have hl1:l+k1+k2≤ds.length:=by rw [Nat.add_assoc,←p.e]; exact hl
   have hl0:=Nat.le_trans (Nat.le_add_right _ _) hl1;have c1:=ih p.p1 p.l1 hl0 (Nat.le_trans p.w1 hwk);have c2:=ih (l:=l+k1) p.p2 p.l2 hl1 (Nat.le_trans p.w2 hwk);rw [Nat.add_assoc l,←p.e] at c2;have e:aA w ((ds.drop l).take k)=aA w ((ds.drop (l+k1)).take k2)*2 ^ (w*k1)+aA w ((ds.drop l).take k1):=by
    rw [p.e,List.take_add,List.drop_drop,eX,(lP hds hl0).1,Nat.mul_comm,Nat.add_comm]
   rw [e,Int.natCast_add];have hk1:k1<2 ^ 200:=Nat.lt_trans (Nat.lt_of_le_of_lt (Nat.le_trans (Nat.le_add_left k1 l) (Nat.le_trans (Nat.le_add_right _ k2) hl1)) hd:k1<1000) (by decide)
   have hs1:w*k1≤4000:=Nat.le_trans p.w1 (Nat.le_trans hwk (by decide))
   exact fm (by kernel_rfl) (by kernel_rfl) (xR (call:=ab C1 (n+d+1)) (m:=(l+k1:Nat)) (k:=(k1:Nat)) (s:=(w*k1:Nat)) (u:=(aA w ((ds.drop (l+k1)).take k2):Nat)) (us:=(aA w ((ds.drop (l+k1)).take k2)*2 ^ (w*k1):Nat)) (lo:=(aA w ((ds.drop l).take k1):Nat)) (pz hk2) (e1▸w8) w7 (Nat.mul_comm w k1▸w6 (k:=200) hk1 hw (by decide)) (py (k:=3000) (Nat.lt_of_lt_of_le (lP hds hl1).2 (Nat.pow_le_pow_right (by decide) (Nat.le_trans p.w2 hwk))) (by decide) hs1) c2 c1)
theorem fx (hw:w<2 ^ 200) (hl:ds.length≤256) (hm:w*ds.length≤3000):ab C1 (n+10) (.val (.ref 216)) [dv,.int w] [] σ (.int (aA w ds:Nat)) σ:=by
 refine aN (n:=n+9) (ρ:=fr 216 [some dv,some (.int w)]) (by kernel_rfl) (by kernel_rfl) ?_
 have hz:=na (f:=iv) hd
 by_cases h0:ds=[]
 ·subst h0;exact vb hL rfl hz
 ·have hp:=List.length_pos_iff.mpr h0;have c:=vk (n:=n) (d:=8) (l:=0) hL hds hd hw hp hl (by rw [Nat.zero_add]; exact Nat.le_refl _) hm
  rw [List.drop_zero,List.take_length,Nat.zero_add] at c;refine xS hL ?_ hz (by rw [List.length_map]; exact c)
  cases ds with
  |nil=>exact absurd rfl h0
  |cons _ _=>rfl
end
end Mini
set_option maxRecDepth 100000
set_option exponentiation.threshold 5000
set_option autoImplicit false
namespace Mini
open PySem
section
variable {call:ad}{a b w r q s v:Int}{xs qs:List V}{o1 o2:Option V}{σ:H}
theorem xU (h:decide ((Builtin.Int.intBits a:Int) - w≤4000)=true) (hb:b≠0) (ho:aZ b=true):ag C1 call (bJ 195).body (fr 195 [some (.int a),some (.int b),some (.int w)]) [] (.tuple [.int (a.fdiv b),.int (a.fmod b)]) []:=by
 refine aC [.meth "int.bit_length",.vh (.int ↑(Builtin.Int.intBits a)) [],.v (.int (↑(Builtin.Int.intBits a) - w)),.b true,.v (.tuple [.int (Int.fdiv a b),.int (Int.fmod a b)])] (q:=(dN [] (.int a) (Str.ofString "bit_length") "int.bit_length")∧(aF [] "int.bit_length" (.int a) [] (.int ↑(Builtin.Int.intBits a)) [])∧(ah [] .Sub (.int ↑(Builtin.Int.intBits a)) (.int w) (.int (↑(Builtin.Int.intBits a) - w)))∧(Cm [] .LtE (.int (↑(Builtin.Int.intBits a) - w)) (.int 4000) true)∧(ay [] (.builtin "divmod") [.int a,.int b] (.tuple [.int (Int.fdiv a b),.int (Int.fmod a b)]))∧(cZ (.tuple [.int (Int.fdiv a b),.int (Int.fmod a b)]) (.tuple [.int (Int.fdiv a b),.int (Int.fmod a b)]) [] [])) (by kernel_rfl) ⟨.bits,.bits,.sub,(.le ‹_›),(.divmod ‹_› ‹_›),fin⟩
theorem xV {d:Int}(b1:ah [.list qs] .LShift (.int r) (.int w) (.int s)) (hl:qs.length<1000) (h:call (.val (.ref 195)) [.int (s+d),.int b,.int w] [] [.list qs] (.tuple [.int q,.int v]) [.list qs]) :
 Tn call 223 4 (.int d) (fr 223 [some (.int a),some (.int b),some (.int w),some (.list xs),some (.int r),some (.ref 0),o1,o2]) [.list qs] .next (fr 223 [some (.int a),some (.int b),some (.int w),some (.list xs),some (.int v),some (.ref 0),some (.int d),some (.int q)]) [.list (qs++[.int q])]:=by
 refine cq [.v (.int s),.v (.int (s+d)),.vh (.tuple [.int q,.int v]) [aa.list qs],.meth "list.append",.vh .none (List.set [aa.list qs] 0 (aa.list (qs++[.int q])))] (q:=fun K=>(ah [aa.list qs] .LShift (.int r) (.int w) (.int s))∧(ah [aa.list qs] .Add (.int s) (.int d) (.int (s+d)))∧(call (.val (.ref 195)) [.int (s+d),.int b,.int w] [] [aa.list qs] (.tuple [.int q,.int v]) [aa.list qs])∧(dN [aa.list qs] (.ref 0) (Str.ofString "append") "list.append")∧(aF [aa.list qs] "list.append" (.ref 0) [.int q] .none (List.set [aa.list qs] 0 (aa.list (qs++[.int q]))))∧(K .next (fr 223 [some (.int a),some (.int b),some (.int w),some (.list xs),some (.int v),some (.ref 0),some (.int d),some (.int q)]) [aa.list (qs++[.int q])])) (fun K=>by kernel_rfl) fun K hK=>⟨b1,.add,‹_›,(.append (.ref rfl)),(.append rfl (by exact aS ‹_›)),hK⟩
theorem xW (h1:call (.val (.ref 209)) [.int a,.int (Builtin.Int.intBits b)] [] [] (.list xs) []) (hl:qs.length<1000)
 (h2:Lp call 223 4 none xs.reverse (fr 223 [some (.int a),some (.int b),some (.int (Builtin.Int.intBits b)),some (.list xs),some (.int 0),some (.ref 0)]) [.list []] .next (fr 223 [some (.int a),some (.int b),some (.int (Builtin.Int.intBits b)),some (.list xs),some (.int r),some (.ref 0),o1,o2]) [.list qs])
 (h3:call (.val (.ref 216)) [.ref 0,.int (Builtin.Int.intBits b)] [] [.list qs.reverse] (.int q) [.list qs.reverse]) :
 ag C1 call (bJ 223).body (fr 223 [some (.int a),some (.int b)]) [] (.tuple [.int q,.int r]) [.list qs.reverse]:=by
 refine aC [.meth "int.bit_length",.vh (.int ↑(Builtin.Int.intBits b)) [],.vh (.list xs) [],.st .next (fr 223 [some (.int a),some (.int b),some (.int ↑(Builtin.Int.intBits b)),some (.list xs),some (.int r),some (.ref 0),o1,o2]) [aa.list qs],.meth "list.reverse",.vh .none (List.set [aa.list qs] 0 (aa.list (List.reverse qs))),.vh (.int q) [aa.list (List.reverse qs)]] (q:=(dN [] (.int b) (Str.ofString "bit_length") "int.bit_length")∧(aF [] "int.bit_length" (.int b) [] (.int ↑(Builtin.Int.intBits b)) [])∧(call (.val (.ref 209)) [.int a,.int ↑(Builtin.Int.intBits b)] [] [] (.list xs) [])∧(Lp call 223 4 none (List.reverse xs) (fr 223 [some (.int a),some (.int b),some (.int ↑(Builtin.Int.intBits b)),some (.list xs),some (.int 0),some (.ref 0)]) [aa.list []] .next (fr 223 [some (.int a),some (.int b),some (.int ↑(Builtin.Int.intBits b)),some (.list xs),some (.int r),some (.ref 0),o1,o2]) [aa.list qs])∧(dN [aa.list qs] (.ref 0) (Str.ofString "reverse") "list.reverse")∧(aF [aa.list qs] "list.reverse" (.ref 0) [] .none (List.set [aa.list qs] 0 (aa.list (List.reverse qs))))∧(call (.val (.ref 216)) [.ref 0,.int ↑(Builtin.Int.intBits b)] [] [aa.list (List.reverse qs)] (.int q) [aa.list (List.reverse qs)])∧(cZ (.tuple [.int q,.int r]) (.tuple [.int q,.int r]) [aa.list (List.reverse qs)] [aa.list (List.reverse qs)])) (by kernel_rfl) ⟨.bits,.bits,‹_›,‹_›,(.reverse (.ref rfl)),(.reverse rfl (by exact aS ‹_›)),‹_›,fin⟩
theorem Ae (e1:(b==0)=false) (e2:decide (b<0)=false) (e3:decide (a<0)=false) (h:call (.val (.ref 223)) [.int a,.int b] [] [] (.tuple [.int q,.int r]) []):ag C1 call (bJ 230).body (fr 230 [some (.int a),some (.int b)]) [] (.tuple [.int q,.int r]) []:=by
 refine aC [.b false,.b false,.b false,.vh (.tuple [.int q,.int r]) []] (q:=(Cm [] .Eq (.int b) (.int 0) false)∧(Cm [] .Lt (.int b) (.int 0) false)∧(Cm [] .Lt (.int a) (.int 0) false)∧(call (.val (.ref 223)) [.int a,.int b] [] [] (.tuple [.int q,.int r]) [])∧(cZ (.tuple [.int q,.int r]) (.tuple [.int q,.int r]) [] [])) (by kernel_rfl) ⟨(.eqI ‹_›),(.lt ‹_›),(.lt ‹_›),‹_›,fin⟩
theorem Af (e1:(b==0)=false) (e2:decide (b<0)=false) (e3:decide (a<0)=true) (h:call (.val (.ref 230)) [.int (Builtin.bitNot a),.int b] [] [] (.tuple [.int q,.int r]) []):ag C1 call (bJ 230).body (fr 230 [some (.int a),some (.int b)]) [] (.tuple [.int (Builtin.bitNot q),.int (b+Builtin.bitNot r)]) []:=by
 refine aC [.b false,.b false,.b true,.v (.int (Builtin.bitNot a)),.vh (.tuple [.int q,.int r]) [],.v (.int (Builtin.bitNot q)),.v (.int (Builtin.bitNot r)),.v (.int (b+Builtin.bitNot r))] (q:=(Cm [] .Eq (.int b) (.int 0) false)∧(Cm [] .Lt (.int b) (.int 0) false)∧(Cm [] .Lt (.int a) (.int 0) true)∧(bS .Invert (.int a) (.int (Builtin.bitNot a)))∧(call (.val (.ref 230)) [.int (Builtin.bitNot a),.int b] [] [] (.tuple [.int q,.int r]) [])∧(bS .Invert (.int q) (.int (Builtin.bitNot q)))∧(bS .Invert (.int r) (.int (Builtin.bitNot r)))∧(ah [] .Add (.int b) (.int (Builtin.bitNot r)) (.int (b+Builtin.bitNot r)))∧(cZ (.tuple [.int (Builtin.bitNot q),.int (b+Builtin.bitNot r)]) (.tuple [.int (Builtin.bitNot q),.int (b+Builtin.bitNot r)]) [] [])) (by kernel_rfl) ⟨(.eqI ‹_›),(.lt ‹_›),(.lt ‹_›),.inv,‹_›,.inv,.inv,.add,fin⟩
theorem Ag (e1:(b==0)=false) (e2:decide (b<0)=true) (h:call (.val (.ref 230)) [.int (-a),.int (-b)] [] [] (.tuple [.int q,.int r]) []):ag C1 call (bJ 230).body (fr 230 [some (.int a),some (.int b)]) [] (.tuple [.int q,.int (-r)]) []:=by
 refine aC [.b false,.b true,.v (.int (-a)),.v (.int (-b)),.vh (.tuple [.int q,.int r]) [],.v (.int (-r))] (q:=(Cm [] .Eq (.int b) (.int 0) false)∧(Cm [] .Lt (.int b) (.int 0) true)∧(bS .USub (.int a) (.int (-a)))∧(bS .USub (.int b) (.int (-b)))∧(call (.val (.ref 230)) [.int (-a),.int (-b)] [] [] (.tuple [.int q,.int r]) [])∧(bS .USub (.int r) (.int (-r)))∧(cZ (.tuple [.int q,.int (-r)]) (.tuple [.int q,.int (-r)]) [] [])) (by kernel_rfl) ⟨(.eqI ‹_›),(.lt ‹_›),.neg,.neg,‹_›,.neg,fin⟩
end
end Mini
set_option maxRecDepth 100000
set_option exponentiation.threshold 5000
set_option autoImplicit false
namespace Mini
open PySem
theorem so {n a b w:Nat}{σ:H}(hb:1≤b) (ha:a<2 ^ 3000) (hbb:b<2 ^ 3000):ab C1 (n+1) (.val (.ref 195)) [.int a,.int b,.int w] [] σ (.tuple [.int (a / b:Nat),.int (a % b:Nat)]) σ:=by
 rw [←cw,←dd];exact aR (by kernel_rfl) rfl (by kernel_rfl) (xU (w:=w) (decide_eq_true (Int.le_trans (Int.sub_le_self _ (Int.natCast_nonneg w)) (Int.ofNat_le.mpr (Nat.le_trans (fs ha) (by decide:3000≤4000))))) (Int.ofNat_ne_zero.mpr (Nat.ne_of_gt hb)) (gC hbb (by decide))) (.val rfl)
noncomputable def xb (w b:Nat) (s:List Nat×Nat) (d:Nat):List Nat×Nat:=(s.1++[(s.2*2 ^ w+d) / b],(s.2*2 ^ w+d) % b)
theorem pA {w d:Nat}{l:List Nat}:aA w (l++[d]).reverse=d+2 ^ w*aA w l.reverse:=by rw [List.reverse_append]; rfl
structure xX (w b:Nat) (p:List Nat) (s:List Nat×Nat):Prop where
 e:aA w p.reverse=aA w s.1.reverse*b+s.2
 lt:s.2<b
 ds:∀q,q∈s.1→q<2 ^ w
 len:s.1.length=p.length
theorem xX.step {w b d:Nat}{p:List Nat}{s:List Nat×Nat}(I:xX w b p s) (hd:d<2 ^ w):xX w b (p++[d]) (xb w b s d):=by
 refine⟨?_,Nat.mod_lt _ (Nat.zero_lt_of_lt I.lt),fun q hq=>?_,by rw [List.length_append,←I.len]; exact List.length_append⟩
 ·show aA w (p++[d]).reverse=aA w (s.1++[(s.2*2 ^ w+d) / b]).reverse*b+(s.2*2 ^ w+d) % b;have h2:=Nat.div_add_mod (s.2*2 ^ w+d) b;rw [pA,pA,I.e,Nat.add_mul,Nat.mul_comm (_ / b),Nat.add_right_comm,h2,Nat.mul_add,←Nat.mul_assoc,Nat.mul_comm (2 ^ w) s.2];omega
 ·rcases List.mem_append.mp hq with hq | hq
  ·exact I.ds q hq
  ·rw [List.mem_singleton.mp hq];refine Nat.div_lt_of_lt_mul (Nat.lt_of_lt_of_le (Nat.add_lt_add_left hd _) ?_);rw [←Nat.succ_mul];exact Nat.mul_le_mul_right _ I.lt
theorem xX.all {w b:Nat}{ds:List Nat}(h:∀d,d∈ds→d<2 ^ w) {p:List Nat}{s:List Nat×Nat}(I:xX w b p s):xX w b (p++ds) (ds.foldl (xb w b) s):=by
 induction ds generalizing p s with
 |nil=>rw [List.append_nil]; exact I
 |cons d ds ih=>
  have:=ih (fun x hx=>h x (List.mem_cons_of_mem _ hx)) (I.step (h d List.mem_cons_self))
  rwa [List.append_assoc] at this
theorem sp {n a b:Nat}{σ:H}(hb:1≤b) (ha:a<2 ^ 190) (hbb:b<2 ^ 190):ab C1 (n+11) (.val (.ref 223)) [.int a,.int b] [] σ (.tuple [.int (a / b:Nat),.int (a % b:Nat)]) σ:=by
 have hbw:=px (x:=b);have hwl:=fs hbb;generalize ew:Builtin.Int.intBits (b:Int)=w at hbw hwl;have hw1:1≤w:=Nat.pos_of_ne_zero fun q=>by rw [q] at hbw; exact absurd hb (Nat.not_le.mpr hbw)
 have hk:=sk hw1 ha;have hxd:∀d,d∈f7 w (nd w a) a→d<2 ^ w:=fun d hd=>si hd
 have hna:=pw (lO (a:=a) hw1);have hxl:=fq (w:=w) (k:=nd w a) (x:=a);have hmm:=(nK (a:=a) hw1).2;have hab:=fs ha;have hi2:=fw (n:=n) (σ:=[]) hw1 (Nat.le_trans hwl (by decide)) (Nat.lt_trans ha (by decide))
 unfold Ac at hi2;generalize f7 w (nd w a) a=xs at hxd hna hxl hi2;have I:=xX.all (w:=w) (b:=b) (ds:=xs.reverse) (fun d hd=>hxd d (List.mem_reverse.mp hd)) (p:=[]) (s:=([],0)) ⟨(Nat.zero_mul b).symm,hb,(fun _ h=>nomatch h),rfl⟩
 have l:=pp (call:=ab C1 (n+10)) (a:=223) (i:=4) (fun d:Nat=>V.int d) (fun s:(List Nat×Nat)×Option V×Option V=>fr 223 [some (.int a),some (.int b),some (.int w),some (.list (xs.map iv)),some (.int s.1.2),some (.ref 0),s.2.1,s.2.2]) (fun s=>[.list (s.1.1.map iv)])
  (fun s d=>(xb w b s.1 d,some (.int d),some (.int ((s.1.2*2 ^ w+d) / b:Nat)))) (fun s ds=>s.1.1.length+ds.length<1000∧s.1.2<b∧∀d,d∈ds→d<2 ^ w) (g:=none) (xs:=(xs.map iv).reverse) (as:=xs.reverse) (s:=(([],0),none,none)) List.map_reverse.symm
  ⟨by rw [List.length_reverse,hxl]; show 0+nd w a<1000; rw [Nat.zero_add]; exact Nat.lt_of_le_of_lt hk (by decide),hb,fun d hd=>hxd d (List.mem_reverse.mp hd)⟩ (fun _ _ _=>trivial) fun s d ds ok=>by
  obtain⟨⟨qs,r⟩,o1,o2⟩:=s;obtain⟨h1,h2,h3⟩:=ok;have h1:qs.length+(ds.length+1)<1000:=h1;have h2:r<b:=h2;refine⟨⟨?_,Nat.mod_lt _ hb,fun x hx=>h3 x (List.mem_cons_of_mem _ hx)⟩,?_⟩
  ·show (qs++[_]).length+_<_;rw [List.length_append,Nat.add_assoc]; show qs.length+(1+ds.length)<1000; rw [Nat.add_comm 1]; exact h1
  ·have hd:=h3 d List.mem_cons_self;have hv:r*2 ^ w+d<2 ^ 3000:=by
    refine Nat.lt_of_lt_of_le (Nat.add_lt_add_left hd _) ?_;rw [←Nat.succ_mul];refine Nat.le_trans (Nat.mul_le_mul_right _ (Nat.le_trans h2 (Nat.le_of_lt hbw))) ?_;rw [←Nat.pow_add];exact Nat.pow_le_pow_right (by decide) (Nat.le_trans (Nat.add_le_add hwl hwl) (by decide))
   have c:=so (n:=n+9) (w:=w) (σ:=[.list (qs.map iv)]) hb hv (Nat.lt_trans hbb (Nat.pow_lt_pow_right (by decide) (by decide)))
   rw [Int.natCast_add] at c;have t:=xV (call:=ab C1 (n+10)) (a:=a) (b:=b) (xs:=xs.map iv) (o1:=o1) (o2:=o2) (py (Nat.lt_trans h2 hbw) (Nat.le_trans hwl (by decide)) (Nat.le_trans hwl (by decide))) (na (f:=iv) (Nat.lt_of_le_of_lt (Nat.le_add_right _ _) h1)) c
   show Tn _ 223 4 _ _ _ _ _ [.list ((qs++[_]).map iv)];rw [List.map_append];exact t
 have e1:(xs.reverse.foldl (fun(s:(List Nat×Nat)×Option V×Option V) (d:Nat)=>(xb w b s.1 d,some (V.int d),some (V.int ((s.1.2*2 ^ w+d) / b:Nat)))) (([],0),none,none)).1=xs.reverse.foldl (xb w b) ([],0):=ge (h:=fun(s:(List Nat×Nat)×Option V×Option V) (d:Nat)=>(some (V.int d),some (V.int ((s.1.2*2 ^ w+d) / b:Nat))))
 rw [e1] at l;have hI:=I.e;rw [List.nil_append,List.reverse_reverse,hna] at hI;have hdm:aA w (xs.reverse.foldl (xb w b) ([],0)).1.reverse=a / b∧(xs.reverse.foldl (xb w b) ([],0)).2=a % b:=by
  rw [hI,Nat.mul_comm,Nat.mul_add_div hb,Nat.div_eq_of_lt I.lt,Nat.mul_add_mod,Nat.mod_eq_of_lt I.lt]; exact⟨rfl,rfl⟩
 have hql:=I.len;rw [List.nil_append,List.length_reverse,hxl] at hql;have hqd:=I.ds;generalize xs.reverse.foldl (xb w b) ([],0)=F at l hdm hql hqd;have hq2:F.1.reverse.length=nd w a:=List.length_reverse.trans hql;have h3:=fx (n:=n) (w:=w) (ds:=F.1.reverse) (dv:=.ref 0) (σ:=[.list (F.1.reverse.map iv)]) (.ref rfl) (fun d hd=>hqd d (List.mem_reverse.mp hd)) (by rw [hq2]; exact Nat.lt_of_le_of_lt hk (by decide)) (Nat.lt_of_le_of_lt hwl (Nat.lt_trans (by decide) Nat.lt_two_pow_self)) (by rw [hq2]; exact Nat.le_trans hk (by decide)) (by rw [hq2]; omega)
 rw [hdm.1,List.map_reverse] at h3;rw [hdm.2] at l;subst ew;exact aR (by kernel_rfl) rfl (by kernel_rfl) (xW hi2 (na (f:=iv) (by rw [hql]; exact Nat.lt_of_le_of_lt hk (by decide))) l h3) (.val rfl)
theorem ij {a:Nat}:decide ((a:Int)<0)=false:=decide_eq_false (Int.not_lt.mpr (Int.natCast_nonneg a))
theorem xc {b:Nat}(hb:1≤b):((b:Int)==0)=false:=beq_eq_false_iff_ne.mpr (Int.ofNat_ne_zero.mpr (Nat.ne_of_gt hb))
theorem pB {n a b:Nat}{σ:H}(hb:1≤b) (ha:a<2 ^ 190) (hbb:b<2 ^ 190):ab C1 (n+12) (.val (.ref 230)) [.int a,.int b] [] σ (.tuple [.int ((a:Int).fdiv b),.int ((a:Int).fmod b)]) σ:=by
 rw [cw,dd];exact aR (by kernel_rfl) rfl (by kernel_rfl) (Ae (xc hb) ij ij (sp (n:=n) hb ha hbb)) (.val rfl)
theorem fy {n b:Nat}{a:Int}{σ:H}(hb:1≤b) (ha:a.natAbs<2 ^ 190) (hbb:b<2 ^ 190):ab C1 (n+13) (.val (.ref 230)) [.int a,.int b] [] σ (.tuple [.int (a.fdiv b),.int (a.fmod b)]) σ:=by
 cases a with
 |ofNat a=>exact pB (n:=n+1) hb ha hbb
 |negSucc m=>
  have c:=pB (n:=n) (a:=m) (b:=b) (σ:=[]) hb (Nat.lt_of_succ_lt ha) hbb;rw [←cv] at c;have e:(Int.negSucc m).fdiv b=Builtin.bitNot ((Builtin.bitNot (Int.negSucc m)).fdiv b)∧(Int.negSucc m).fmod b=b+Builtin.bitNot ((Builtin.bitNot (Int.negSucc m)).fmod b):=by
   rw [cv,cw,dd,cu,cu];cases b with
   |zero=>exact absurd hb (by decide)
   |succ b=>exact⟨rfl,rfl⟩
  rw [e.1,e.2];exact aR (by kernel_rfl) rfl (by kernel_rfl) (Af (xc hb) ij (decide_eq_true (Int.negSucc_lt_zero m)) c) (.val rfl)
theorem pE {n b:Nat}{a:Int}{σ:H}(hb:1≤b) (ha:a.natAbs<2 ^ 190) (hbb:b<2 ^ 190):ab C1 (n+14) (.val (.ref 230)) [.int (-a),.int (-b)] [] σ (.tuple [.int (a.fdiv b),.int (-(a.fmod b))]) σ:=
 aR (by kernel_rfl) rfl (by kernel_rfl) (Ag (a:=-a) (b:=-(b:Int)) (beq_eq_false_iff_ne.mpr fun e=>Nat.ne_of_gt hb (Int.ofNat_eq_zero.mp (Int.neg_eq_zero.mp e))) (decide_eq_true (Int.neg_neg_of_pos (Int.natCast_pos.mpr hb))) (by rw [Int.neg_neg,Int.neg_neg]; exact fy hb ha hbb)) (.val rfl)
end Mini
set_option autoImplicit false
namespace Mini
noncomputable def sH (r c d:Nat):Nat:=if d=0 then c - 1 else min (c+1) r
noncomputable def rn (l:Nat):Nat→List Nat→List Nat
 |_,[]=>[]
 |c,d::w=>(d+c - sH l c d)::rn l (sH l c d) w
noncomputable def bY (l:Nat):Nat→List Nat→Nat
 |c,[]=>c
 |c,d::w=>bY l (sH l c d) w
noncomputable def bg (l:Nat):Nat→List Nat→Nat
 |_,[]=>0
 |c,d::w=>(sH l c d - c)+bg l (sH l c d) w
noncomputable abbrev ap (w:List Nat):Prop:=∀d,d∈w→d≤1
inductive gf (l:Nat):Nat→Nat→Nat→Nat→Nat→Prop
 |z:gf l 0 0 0 0 0
 |put {c:Nat}:gf l (c+1) 0 c 1 0
 |take {c:Nat}(h:c<l):gf l c 1 (c+1) 0 1
 |full:gf l l 1 l 1 0
inductive gg (l:Nat):Nat→List Nat→Nat→List Nat→Nat→Prop
 |nil {c:Nat}:gg l c [] c [] 0
 |cons {c d c1 o g c2 n:Nat}{w v:List Nat}(s:gf l c d c1 o g) (r:gg l c1 w c2 v n):gg l c (d::w) c2 (o::v) (g+n)
section
variable {l k c d n m c1 o g:Nat}{w v:List Nat}
theorem Bc:sH l c 0=c - 1:=rfl
theorem BK:sH l c 1=min (c+1) l:=rfl
theorem fA (h:d≤1):d=0∨d=1:=(Nat.le_one_iff_eq_zero_or_eq_one).mp h
theorem ap.hd (h:ap (d::w)):d=0∨d=1:=fA (h d List.mem_cons_self)
theorem ap.tl (h:ap (d::w)):ap w:=fun x hx=>h x (List.mem_cons_of_mem _ hx)
theorem sq (h:d≤1) (hw:ap w):ap (d::w):=fun x hx=>(List.mem_cons.mp hx).elim (fun e=>e▸h) (hw x)
theorem gf.of (hd:d≤1) (hc:c≤l):gf l c d (sH l c d) (d+c - sH l c d) (sH l c d - c):=by
 rcases fA hd with rfl | rfl
 ·rw [Bc,Nat.zero_add];cases c with
  |zero=>exact .z
  |succ c=>rw [Nat.add_sub_cancel,Nat.add_sub_cancel_left,Nat.sub_eq_zero_of_le (Nat.le_succ c)]; exact .put
 ·rw [BK,Nat.add_comm 1 c]
  by_cases h:c<l
  ·have e:c+1 - c=1:=Nat.add_sub_cancel_left ..;rw [Nat.min_eq_left h,Nat.sub_self,e]; exact .take h
  ·obtain rfl:=Nat.le_antisymm hc (Nat.le_of_not_lt h);have e:c+1 - c=1:=Nat.add_sub_cancel_left ..;rw [Nat.min_eq_right (Nat.le_succ c),Nat.sub_self,e]; exact .full
theorem gf.is (h:gf l c d c1 o g):c1=sH l c d∧o=d+c - c1∧g=c1 - c:=by
 induction h with
 |z=>exact⟨rfl,rfl,rfl⟩
 |put=>exact⟨rfl,by rw [Nat.zero_add,Nat.add_sub_cancel_left],(Nat.sub_eq_zero_of_le (Nat.le_succ _)).symm⟩
 |take h=>exact⟨(Nat.min_eq_left h).symm,by rw [Nat.add_comm,Nat.sub_self],(Nat.add_sub_cancel_left ..).symm⟩
 |full=>exact⟨(Nat.min_eq_right (Nat.le_succ _)).symm,(Nat.add_sub_cancel ..).symm,(Nat.sub_self _).symm⟩
theorem gf.det {c2 o2 g2:Nat}(h:gf l c d c1 o g) (h2:gf l c d c2 o2 g2):c1=c2∧o=o2∧g=g2:=by
 obtain⟨rfl,rfl,rfl⟩:=h.is;obtain⟨rfl,rfl,rfl⟩:=h2.is;exact⟨rfl,rfl,rfl⟩
theorem gf.le (h:gf l c d c1 o g) (hc:c≤l):c1≤l:=by
 induction h with
 |z=>exact hc
 |put=>exact Nat.le_of_succ_le hc
 |take h=>exact h
 |full=>exact hc
theorem gf.bit (h:gf l c d c1 o g):o≤1:=by
 induction h with
 |z=>exact Nat.zero_le 1
 |put=>exact Nat.le_refl 1
 |take h=>exact Nat.zero_le 1
 |full=>exact Nat.le_refl 1
theorem gf.sum (h:gf l c d c1 o g):o+c1=c+d:=by
 induction h with
 |z=>rfl
 |put=>exact Nat.add_comm 1 _
 |take h=>exact Nat.zero_add _
 |full=>exact Nat.add_comm 1 _
theorem gf.back (h:gf l c d c1 o g) (hc:c≤l):∃g,gf l c1 o c d g:=by
 induction h with
 |z=>exact⟨_,.z⟩
 |put=>exact⟨_,.take hc⟩
 |take h=>exact⟨_,.put⟩
 |full=>exact⟨_,.full⟩
theorem gg.of (hw:ap w) (hc:c≤l):gg l c w (bY l c w) (rn l c w) (bg l c w):=by
 induction w generalizing c with
 |nil=>exact .nil
 |cons d w ih=>
  have s:=gf.of (hw d List.mem_cons_self) hc;exact .cons s (ih hw.tl (s.le hc))
theorem gg.is (h:gg l c w m v n):m=bY l c w∧v=rn l c w∧n=bg l c w:=by
 induction h with
 |nil=>exact⟨rfl,rfl,rfl⟩
 |cons s r ih=>
  obtain⟨h1,h2,h3⟩:=ih;obtain⟨e1,e2,e3⟩:=s.is;rw [h1,h2,h3,e2,e3,e1];exact⟨rfl,rfl,rfl⟩
theorem gg.le (h:gg l c w m v n) (hc:c≤l):m≤l:=by
 induction h with
 |nil=>exact hc
 |cons s r ih=>exact ih (s.le hc)
theorem gg.bit (h:gg l c w m v n):ap v:=by
 induction h with
 |nil=>exact fun _ h=>nomatch h
 |cons s r ih=>exact sq s.bit ih
theorem gg.sum (h:gg l c w m v n):v.sum+m=c+w.sum:=by
 induction h with
 |nil=>exact Nat.zero_add _
 |cons s r ih=>rw [List.sum_cons,List.sum_cons,Nat.add_assoc,ih,←Nat.add_assoc,s.sum,Nat.add_assoc]
theorem gg.snoc {c2 n2 g2:Nat}(h:gg l c w m v n) (s:gf l m d c2 o g2):∃n,gg l c (w++[d]) c2 (v++[o]) n:=by
 induction h with
 |nil=>exact⟨_,.cons s .nil⟩
 |cons s1 r ih=>exact (ih s).elim fun _ q=>⟨_,.cons s1 q⟩
theorem gg.back (h:gg l c w m v n) (hc:c≤l):∃n,gg l m v.reverse c w.reverse n:=by
 induction h with
 |nil=>exact⟨_,.nil⟩
 |cons s r ih=>
  rw [List.reverse_cons,List.reverse_cons];obtain⟨_,r2⟩:=ih (s.le hc);obtain⟨_,s2⟩:=s.back hc;exact r2.snoc (n2:=0) s2
theorem eC:rn l c (w++v)=rn l c w++rn l (bY l c w) v:=by
 induction w generalizing c with
 |nil=>rfl
 |cons d w ih=>exact congrArg (_ :: ·) ih
theorem ik:bY l c (w++v)=bY l (bY l c w) v:=by
 induction w generalizing c with
 |nil=>rfl
 |cons d w ih=>exact ih
theorem il:bg l c (w++v)=bg l c w+bg l (bY l c w) v:=by
 induction w generalizing c with
 |nil=>exact (Nat.zero_add _).symm
 |cons d w ih=>
  show _+bg l _ (w++v)=_+bg l _ w+bg l _ v;rw [ih,Nat.add_assoc]; rfl
theorem rn_len:(rn l c w).length=w.length:=by
 induction w generalizing c with
 |nil=>rfl
 |cons d w ih=>exact congrArg (· + 1) ih
theorem Ah (h:c≤l):sH l c d≤l:=by
 unfold sH
 by_cases q:d=0
 ·rw [if_pos q]; exact Nat.le_trans (Nat.sub_le c 1) h
 ·rw [if_neg q]; exact Nat.min_le_right _ _
theorem nM (h:c≤l):bY l c w≤l:=by
 induction w generalizing c with
 |nil=>exact h
 |cons d w ih=>exact ih (Ah h)
theorem qC:bY l c (List.replicate n 0)=c - n:=by
 induction n generalizing c with
 |zero=>rfl
 |succ n ih=>
  show bY l (c - 1) (List.replicate n 0)=_;rw [ih,Nat.sub_sub,Nat.add_comm]
theorem qD:bg l c (List.replicate n 0)=0:=by
 induction n generalizing c with
 |zero=>rfl
 |succ n ih=>
  show (c - 1 - c)+bg l (c - 1) (List.replicate n 0)=0;rw [ih,Nat.sub_eq_zero_of_le (Nat.sub_le c 1)]
theorem im:rn l 0 (List.replicate n 0)=List.replicate n 0:=by
 induction n with
 |zero=>rfl
 |succ n ih=>exact congrArg (0 :: ·) ih
theorem sr (hw:ap w) (hc:c≤l):ap (rn l c w):=(gg.of hw hc).bit
theorem nN (hw:ap w) (hc:c≤l):(rn l c w).sum+bY l c w=c+w.sum:=(gg.of hw hc).sum
theorem back (hw:ap w) (hc:c≤l):rn l (bY l c w) (rn l c w).reverse=w.reverse∧bY l (bY l c w) (rn l c w).reverse=c:=by
 obtain⟨_,r⟩:=(gg.of hw hc).back hc;obtain⟨h1,h2,_⟩:=r.is;exact⟨h2.symm,h1.symm⟩
end
inductive RR (l k:Nat):Nat→Nat→Nat→Nat→Nat→Prop
 |mk {s t e f p q:Nat}(hl:t+f+(s+p)=l) (hk:s+e+(t+q)=k) (h1:e=0∨p=0) (h2:f=0∨q=0):RR l k (t+f) (s+e) (s+f) (t+e) t
section
variable {l k x y X Y b d s t e f p q:Nat}
theorem RR.of (hx:t+f=x) (hy:s+e=y) (hX:s+f=X) (hY:t+e=Y) (hl:t+f+(s+p)=l) (hk:s+e+(t+q)=k) (h1:e=0∨p=0) (h2:f=0∨q=0):RR l k x y X Y t:=by
 subst hx hy hX hY;exact .mk hl hk h1 h2
inductive BU (l k x y X Y b d:Nat):Prop
 |mk {x1 d1 g1 y1 d2 g2 X1 Y1 o g3 g4 b1:Nat}(s1:gf l x d x1 d1 g1) (s2:gf k y d1 y1 d2 g2) (s3:gf k Y d Y1 o g3) (s4:gf l X o X1 d2 g4) (r:RR l k x1 y1 X1 Y1 b1) (h:g2+b1=g3+b)
theorem gI {a c n:Nat}(h:a+(c+1)=n):a<n:=h▸Nat.lt_add_of_pos_right (Nat.succ_pos c)
theorem pl (a c:Nat):a+1+c=a+c+1:=Nat.succ_add a c
theorem pF (c:Nat):1+c=0+(c+1):=by rw [Nat.zero_add,Nat.add_comm]
theorem sw (t f s p:Nat):t+f+(s+p)=s+f+(t+p):=by rw [Nat.add_comm t f,Nat.add_comm s f,Nat.add_assoc,Nat.add_assoc,Nat.add_left_comm t]
theorem RR.step (r:RR l k x y X Y b) (hd:d≤1):BU l k x y X Y b d:=by
 cases r with
 |@mk s b e f p q hl hk h1 h2=>
 have hl':=(sw ..).symm.trans hl;have hk':=(sw ..).symm.trans hk;rcases fA hd with rfl | rfl
 ·cases b with
  |succ t=>
   rw [pl] at hl hk hk' hl' ⊢;rw [pl];exact .mk .put (.take (gI hk)) .put (.take (gI hl')) (.of (s:=s+1) (t:=t) (e:=e) (f:=f) (p:=p) (q:=q) rfl (pl ..) (pl ..) rfl (by rw [pl,←hl,pl]; rfl) (by rw [pl,pl]; exact hk) h1 h2) (pF t)
  |zero=>
   rw [Nat.zero_add] at hl hk ⊢;rw [Nat.zero_add];cases f with
   |succ f=>
    obtain rfl:=h2.resolve_left (Nat.succ_ne_zero f);obtain rfl:=hk;cases e with
    |zero=>exact .mk .put .full .z .put (.of (s:=s) (t:=0) (e:=0) (f:=f) (p:=p+1) (q:=0) (Nat.zero_add f) rfl rfl rfl (by rw [←hl,pl,Nat.zero_add]; rfl) rfl (.inl rfl) (.inr rfl)) rfl
    |succ e=>
     obtain rfl:=h1.resolve_left (Nat.succ_ne_zero e);obtain rfl:=(Nat.add_comm ..).trans hl;exact .mk .put .full .put .full (.of (s:=s+1) (t:=0) (e:=e) (f:=f) (p:=0) (q:=0) (Nat.zero_add f) (pl ..) (pl ..) (Nat.zero_add e) (by rw [Nat.zero_add,Nat.add_comm]; exact pl ..) (pl ..) (.inr rfl) (.inr rfl)) rfl
   |zero=>
    rw [Nat.zero_add] at hl;cases e with
    |succ e=>
     obtain rfl:=h1.resolve_left (Nat.succ_ne_zero e);obtain rfl:=hl;exact .mk .z .put .put .full (.of (s:=s) (t:=0) (e:=e) (f:=0) (p:=0) (q:=q+1) rfl rfl rfl (Nat.zero_add e) (Nat.zero_add s) (by rw [Nat.zero_add,←hk]; exact (pl ..).symm) (.inr rfl) (.inl rfl)) rfl
    |zero=>
     cases s with
     |succ s=>exact .mk .z .put .z .put (.of (s:=s) (t:=0) (e:=0) (f:=0) (p:=p+1) (q:=q+1) rfl rfl rfl rfl (by rw [←hl,pl,Nat.zero_add]; rfl) (by rw [←hk,Nat.zero_add]; exact (pl ..).symm) (.inl rfl) (.inl rfl)) rfl
     |zero=>exact .mk .z .z .z .z (.of (s:=0) (t:=0) (e:=0) (f:=0) (p:=p) (q:=q) rfl rfl rfl rfl ((Nat.zero_add _).trans hl) (by rw [Nat.zero_add q]; exact hk) (.inl rfl) (.inl rfl)) rfl
 ·cases s with
  |succ s=>
   rw [pl] at hl hk hk' hl' ⊢;rw [pl];exact .mk (.take (gI hl)) .put (.take (gI hk')) .put (.of (s:=s) (t:=b+1) (e:=e) (f:=f) (p:=p) (q:=q) (pl ..) rfl rfl (pl ..) (by rw [pl,pl]; exact hl) (by rw [pl,←hk,pl]; rfl) h1 h2) (pF b).symm
  |zero=>
   rw [Nat.zero_add] at hl hk ⊢;rw [Nat.zero_add];cases p with
   |succ p=>
    obtain rfl:=h1.resolve_right (Nat.succ_ne_zero p);cases q with
    |succ q=>
     obtain rfl:=h2.resolve_right (Nat.succ_ne_zero q);rw [Nat.zero_add] at hk;exact .mk (.take (gI hl)) .z (.take (gI hk)) .z (.of (s:=0) (t:=b+1) (e:=0) (f:=0) (p:=p) (q:=q) rfl rfl rfl rfl (by rw [←hl,Nat.zero_add]; exact pl ..) (by rw [←hk,Nat.zero_add]; exact pl ..) (.inl rfl) (.inl rfl)) (pF b).symm
    |zero=>
     rw [Nat.zero_add] at hk;obtain rfl:=hk;exact .mk (.take (gI hl)) .z .full (.take (Nat.lt_of_le_of_lt (Nat.le_add_left f b) (gI hl))) (.of (s:=0) (t:=b) (e:=0) (f:=f+1) (p:=p) (q:=0) rfl rfl (Nat.zero_add _) rfl (by rw [←hl,Nat.zero_add]; exact pl ..) (Nat.zero_add b) (.inl rfl) (.inr rfl)) rfl
   |zero=>
    obtain rfl:=hl;cases q with
    |succ q=>
     obtain rfl:=h2.resolve_right (Nat.succ_ne_zero q);exact .mk .full (.take (gI hk)) (.take (gI (c:=q) (by rw [←hk,Nat.add_comm b,Nat.add_assoc]))) .z (.of (s:=0) (t:=b) (e:=e+1) (f:=0) (p:=0) (q:=q) rfl (Nat.zero_add _) rfl rfl rfl (by rw [Nat.zero_add,pl]; exact hk) (.inr rfl) (.inl rfl)) rfl
    |zero=>
     obtain rfl:=hk;cases b with
     |succ t=>exact .mk .full (.take (gI (c:=t) rfl)) (Nat.add_comm e (t+1)▸.full) (.take (Nat.add_comm (t+1) f▸gI (c:=t) rfl)) (.of (s:=0) (t:=t) (e:=e+1) (f:=f+1) (p:=0) (q:=0) (pl ..).symm (Nat.zero_add _) (Nat.zero_add _) (pl ..).symm (pl ..).symm (by rw [Nat.zero_add]; exact pl ..) (.inr rfl) (.inr rfl)) (pF t)
     |zero=>
      rw [Nat.zero_add,Nat.zero_add,Nat.add_comm e,Nat.zero_add];exact .mk .full .full .full .full (.of (s:=0) (t:=0) (e:=e) (f:=f) (p:=0) (q:=0) (Nat.zero_add _) (Nat.zero_add _) (Nat.zero_add _) (Nat.zero_add _) (Nat.zero_add _) (Nat.zero_add _) (.inr rfl) (.inr rfl)) rfl
inductive BV (l k x2 y X Y b:Nat) (w v:List Nat):Prop
 |mk {v2:List Nat}{X2 Y2 b2 m2 n2:Nat}(r1:gg k Y w Y2 v2 m2) (r2:gg l X v2 X2 (rn k y v) n2) (r:RR l k x2 (bY k y v) X2 Y2 b2) (h:bg k y v+b2=m2+b)
theorem gg.comm {x2 n:Nat}{w v:List Nat}(h1:gg l x w x2 v n) (hw:ap w) (r:RR l k x y X Y b):BV l k x2 y X Y b w v:=by
 induction h1 generalizing y X Y b with
 |nil=>exact .mk .nil .nil r rfl
 |cons s q ih=>
  obtain⟨t1,t2,t3,t4,r2,e⟩:=r.step (hw _ List.mem_cons_self);obtain⟨rfl,rfl,rfl⟩:=t1.det s;obtain⟨rfl,rfl,rfl⟩:=t2.is;obtain⟨a1,a2,a3,e2⟩:=ih hw.tl r2;exact .mk (.cons t3 a1) (.cons t4 a2) a3 ((Nat.add_assoc ..).trans (by rw [e2,Nat.add_left_comm,e,Nat.add_left_comm,Nat.add_assoc]))
theorem RR.zero:RR l k 0 0 0 0 0:=.mk (s:=0) (t:=0) (e:=0) (f:=0) (p:=l) (q:=k) (by rw [Nat.zero_add,Nat.zero_add]) (by rw [Nat.zero_add,Nat.zero_add]) (.inl rfl) (.inl rfl)
theorem RR.le (r:RR l k x y X Y b):b≤x:=by
 induction r with
 |mk=>exact Nat.le_add_right _ _
theorem comm {w:List Nat}(hw:ap w):rn k 0 (rn l 0 w)=rn l 0 (rn k 0 w)∧(bY l 0 w=0→bg k 0 (rn l 0 w)=bg k 0 w):=by
 have h1:=gg.of (l:=l) hw (Nat.zero_le l);obtain⟨a,b,c,d⟩:=h1.comm hw .zero;obtain⟨_,rfl,rfl⟩:=a.is;obtain⟨_,e,_⟩:=b.is;refine⟨e,fun h=>?_⟩
 have c:=c.le;rw [h] at c;rw [Nat.le_zero.mp c] at d;exact d
end
end Mini
set_option autoImplicit false
namespace Mini
noncomputable def dl:Bool→List Nat→List Nat
 |_,[]=>[]
 |b,d::w=>match d,b with
  |0,true=>dl false w
  |0,false=>0::dl false w
  |_+1,true=>1::dl true w
  |_+1,false=>dl true w
noncomputable def ct:Bool→List Nat→Nat
 |true,[]=>1
 |false,[]=>0
 |b,d::w=>match d,b with
  |0,true=>1+ct false w
  |0,false=>ct false w
  |_+1,_=>ct true w
noncomputable def pG:Nat→List Nat→Prop
 |h,[]=>h=0
 |h,d::w=>match d with
  |0=>1≤h∧pG (h - 1) w
  |k+1=>k=0∧pG (h+1) w
section
variable {l k c d h n m:Nat}{w v u:List Nat}
theorem pG.bit (b:pG h w):ap w:=by
 induction w generalizing h with
 |nil=>exact fun _ h=>nomatch h
 |cons d w ih=>
  intro x hx
  match d,b with
  |0,b=>exact (List.mem_cons.mp hx).elim (fun e=>e▸Nat.zero_le 1) fun e=>ih b.2 x e
  |1,b=>exact (List.mem_cons.mp hx).elim (fun e=>e▸Nat.le_refl 1) fun e=>ih b.2 x e
theorem nO {b:Bool}(hb:pG (h+b.toNat) w):pG h (dl b w):=by
 induction w generalizing h b with
 |nil=>cases b with
  |true=>exact absurd hb (Nat.succ_ne_zero h)
  |false=>exact hb
 |cons d w ih=>
  match d,b,hb with
  |0,true,hb=>exact ih (b:=false) hb.2
  |0,false,hb=>exact⟨hb.1,ih (b:=false) hb.2⟩
  |1,true,hb=>exact⟨rfl,ih (b:=true) hb.2⟩
  |1,false,hb=>exact ih (b:=true) hb.2
theorem xY {b:Bool}(hb:pG (h+b.toNat) w):(dl b w).length+2*ct b w=w.length+b.toNat:=by
 induction w generalizing h b with
 |nil=>cases b with
  |true=>exact absurd hb (Nat.succ_ne_zero h)
  |false=>rfl
 |cons d w ih=>
  match d,b,hb with
  |0,true,hb=>
   have:=ih (h:=h) (b:=false) hb.2;show (dl false w).length+2*(1+ct false w)=w.length+1+1;rw [Nat.mul_add,Nat.add_left_comm,this];exact Nat.add_comm 2 _
  |0,false,hb=>
   have:=ih (h:=h - 1) (b:=false) hb.2;show (dl false w).length+1+2*ct false w=w.length+1+0;rw [Nat.add_right_comm,this]; rfl
  |1,true,hb=>
   have:=ih (h:=h+1) (b:=true) hb.2;show (dl true w).length+1+2*ct true w=w.length+1+1;rw [Nat.add_right_comm,this]; rfl
  |1,false,hb=>exact ih (h:=h) (b:=true) hb.2
theorem nQ {b:Bool}(hw:ap w) (hc:c≤l):bg (l+1) (c+b.toNat) w+b.toNat=ct b w+bg l c (dl b w):=by
 induction w generalizing c b with
 |nil=>cases b <;> rfl
 |cons d w ih=>
  have ih:=fun(b:Bool) {c:Nat}(hc:c≤l)=>ih (b:=b) hw.tl hc
  rcases hw.hd with rfl | rfl
  ·cases b with
   |true=>
    show ((c+1 - 1) - (c+1))+bg (l+1) (c+1 - 1) w+1=1+ct false w+bg l c (dl false w);have:=ih false hc;have e:c - (c+1)=0:=Nat.sub_eq_zero_of_le (Nat.le_succ c);rw [Nat.add_sub_cancel,e,Nat.zero_add,Nat.add_comm,Nat.add_assoc];exact congrArg (1 + ·) this
   |false=>
    show ((c - 1) - c)+bg (l+1) (c - 1) w=ct false w+(((c - 1) - c)+bg l (c - 1) (dl false w));have:=ih false (c:=c - 1) (Nat.le_trans (Nat.sub_le _ _) hc);have e:c - 1 - c=0:=Nat.sub_eq_zero_of_le (Nat.sub_le c 1);rw [e,Nat.zero_add,Nat.zero_add];exact this
  ·cases b with
   |true=>
    show (min (c+1+1) (l+1) - (c+1))+bg (l+1) (min (c+1+1) (l+1)) w+1=ct true w+((min (c+1) l - c)+bg l (min (c+1) l) (dl true w));have:=ih true (c:=min (c+1) l) (Nat.min_le_right _ _);have e:min (c+1+1) (l+1)=min (c+1) l+1:=Nat.add_min_add_right ..;rw [e,Nat.add_sub_add_right,Nat.add_assoc,←Nat.add_assoc (ct true w),Nat.add_comm (ct true w),Nat.add_assoc];exact congrArg (_ + ·) this
   |false=>
    show (min (c+1) (l+1) - c)+bg (l+1) (min (c+1) (l+1)) w=ct true w+bg l c (dl true w);have:=ih true hc;have e:min (c+1) (l+1)=c+1:=Nat.min_eq_left (Nat.succ_le_succ hc);rw [e,Nat.add_sub_cancel_left,Nat.add_comm];exact this
noncomputable def dQ:Nat→List Nat→List Nat
 |0,u=>u
 |n+1,u=>dQ n (dl false u)
theorem lQ:dQ (n+1) u=dl false (dQ n u):=by
 induction n generalizing u with
 |zero=>rfl
 |succ n ih=>exact ih
theorem pH (b:pG 0 u):pG 0 (dQ n u):=by
 induction n generalizing u with
 |zero=>exact b
 |succ n ih=>exact ih (nO (b:=false) b)
theorem io (hw:ap w):bg 0 0 w=0:=by
 induction w with
 |nil=>rfl
 |cons d w ih=>
  rcases hw.hd with rfl | rfl
  ·exact (Nat.zero_add _).trans (ih hw.tl)
  ·show min (0+1) 0 - 0+bg 0 (min (0+1) 0) w=0;exact (Nat.zero_add _).trans (ih hw.tl)
theorem xZ (b:pG 0 u):bg (n+1) 0 u=bg n 0 u+ct false (dQ n u):=by
 induction n generalizing u with
 |zero=>
  have:=nQ (l:=0) (c:=0) (b:=false) b.bit (Nat.le_refl 0);rw [io (nO (b:=false) b).bit] at this;rw [io b.bit];exact this.trans (Nat.add_comm _ _)
 |succ n ih=>
  have h1:=nQ (l:=n+1) (c:=0) (b:=false) b.bit (Nat.zero_le _);have h2:=nQ (l:=n) (c:=0) (b:=false) b.bit (Nat.zero_le _);have h3:=ih (nO (b:=false) b);have h1:bg (n+1+1) 0 u=ct false u+bg (n+1) 0 (dl false u):=h1;have h2:bg (n+1) 0 u=ct false u+bg n 0 (dl false u):=h2;rw [h1,h2,h3,Nat.add_assoc]; rfl
noncomputable def dw:Nat→List Nat→List Nat
 |_,[]=>[]
 |h,d::w=>match d with
  |0=>match h with
   |0=>dw 0 w
   |h+1=>0::dw h w
  |_+1=>1::dw (h+1) w
noncomputable def vl:Nat→List Nat→Nat
 |h,[]=>h
 |h,d::w=>match d with
  |0=>vl (h - 1) w
  |_+1=>vl (h+1) w
theorem x4 (h0:vl h w=0):pG h (dw h w):=by
 induction w generalizing h with
 |nil=>exact h0
 |cons d w ih=>
  match d,h,h0 with
  |0,0,h0=>exact ih h0
  |0,h+1,h0=>exact⟨Nat.succ_le_succ (Nat.zero_le h),ih h0⟩
  |d+1,h,h0=>exact⟨rfl,ih h0⟩
theorem nR (hw:ap w):vl h w≤h+w.sum:=by
 induction w generalizing h with
 |nil=>exact Nat.le_refl h
 |cons d w ih=>
  have ih:=fun h=>ih (h:=h) hw.tl
  rw [List.sum_cons];rcases hw.hd with rfl | rfl
  ·rw [Nat.zero_add];exact Nat.le_trans (ih (h - 1)) (Nat.add_le_add_right (Nat.sub_le h 1) _)
  ·rw [←Nat.add_assoc];exact ih (h+1)
theorem kn:vl h (w++List.replicate n 0)=vl h w - n:=by
 induction w generalizing h with
 |nil=>
  induction n generalizing h with
  |zero=>rfl
  |succ n ih=>
   show vl (h - 1) (List.replicate n 0)=h - (n+1);rw [Nat.add_comm,←Nat.sub_sub];exact ih
 |cons d w ih=>
  match d with
  |0=>exact ih
  |d+1=>exact ih
theorem x5 (hw:ap w) (hc:c≤h):bg l c (dw h w)=bg l c w:=by
 induction w generalizing c h with
 |nil=>rfl
 |cons d w ih=>
  rcases hw.hd with rfl | rfl
  ·cases h with
   |zero=>
    obtain rfl:=Nat.le_zero.mp hc;exact (ih hw.tl (Nat.le_refl 0)).trans (Nat.zero_add _).symm
   |succ h=>exact congrArg (_ + ·) (ih hw.tl (Nat.sub_le_of_le_add hc))
  ·exact congrArg (_ + ·) (ih hw.tl (Nat.le_trans (Nat.min_le_left _ _) (Nat.succ_le_succ hc)))
noncomputable def mx:Nat→List Nat→Nat
 |_,[]=>0
 |h,d::w=>match d with
  |0=>mx (h - 1) w
  |_+1=>max (h+1) (mx (h+1) w)
theorem dD (hw:ap w) (hl:mx h w≤l) (hh:h≤l):bg l h w=w.sum:=by
 induction w generalizing h with
 |nil=>rfl
 |cons d w ih=>
  rw [List.sum_cons];rcases hw.hd with rfl | rfl
  ·show (h - 1 - h)+bg l (h - 1) w=_;rw [ih hw.tl hl (Nat.le_trans (Nat.sub_le _ _) hh),Nat.sub_eq_zero_of_le (Nat.sub_le h 1)]
  ·have hl:=Nat.max_le.mp (show max (h+1) (mx (h+1) w)≤l from hl)
   show (min (h+1) l - h)+bg l (min (h+1) l) w=_;rw [Nat.min_eq_left hl.1,Nat.add_sub_cancel_left,ih hw.tl hl.2 hl.1]
theorem x6 (hw:ap w):bg l c w≤w.sum:=by
 induction w generalizing c with
 |nil=>exact Nat.le_refl 0
 |cons d w ih=>
  rw [List.sum_cons];refine Nat.add_le_add ?_ (ih hw.tl);rcases hw.hd with rfl | rfl
  ·exact Nat.le_of_eq (Nat.sub_eq_zero_of_le (Nat.sub_le c 1))
  ·exact Nat.sub_le_of_le_add (Nat.add_comm 1 c▸Nat.min_le_left _ _)
theorem xd (hw:ap w) (h1:h≤l) (he:bg l h w=w.sum):mx h w≤l:=by
 induction w generalizing h with
 |nil=>exact Nat.zero_le l
 |cons d w ih=>
  rw [List.sum_cons] at he;rcases hw.hd with rfl | rfl
  ·have he:(h - 1 - h)+bg l (h - 1) w=0+w.sum:=he;rw [Nat.sub_eq_zero_of_le (Nat.sub_le h 1),Nat.zero_add,Nat.zero_add] at he;exact ih hw.tl (Nat.le_trans (Nat.sub_le _ _) h1) he
  ·have he:(min (h+1) l - h)+bg l (min (h+1) l) w=1+w.sum:=he;have hl:h+1≤l:=by
    refine Nat.lt_of_le_of_ne h1 fun q=>?_
    subst q;rw [Nat.min_eq_right (Nat.le_succ h),Nat.sub_self,Nat.zero_add] at he;have:=x6 (l:=h) (c:=h) hw.tl;rw [he,Nat.add_comm] at this;exact Nat.not_succ_le_self _ this
   rw [Nat.min_eq_left hl,Nat.add_sub_cancel_left] at he;exact Nat.max_le.mpr ⟨hl,ih hw.tl hl (Nat.add_left_cancel he)⟩
noncomputable def lR (w:List Nat):List Nat:=dw 0 (w++List.replicate w.sum 0)
noncomputable def i9 (w:List Nat):List Nat:=(List.range (mx 0 w)).map fun t=>ct false (dQ t (lR w))
theorem gh:ap (List.replicate n 0):=fun d h=>(List.mem_replicate.mp h).2▸Nat.zero_le 1
theorem gN (h1:ap w) (h2:ap v):ap (w++v):=fun d h=>(List.mem_append.mp h).elim (h1 d) (h2 d)
theorem kq (hw:ap w):pG 0 (lR w):=x4 (by
 rw [kn];have:=nR (h:=0) hw;rw [Nat.zero_add] at this;exact Nat.sub_eq_zero_of_le this)
theorem gO:bg l c (w++List.replicate n 0)=bg l c w:=by rw [il,qD]; rfl
theorem pI (hw:ap w):bg l 0 (lR w)=bg l 0 w:=(x5 (gN hw gh) (Nat.le_refl 0)).trans gO
theorem ip (hw:ap w):bg (n+1) 0 w=bg n 0 w+ct false (dQ n (lR w)):=by
 have:=xZ (n:=n) (kq hw);rwa [pI hw,pI hw] at this
theorem gP (hw:ap w):((List.range n).map fun t=>ct false (dQ t (lR w))).sum=bg n 0 w:=by
 induction n with
 |zero=>exact (io hw).symm
 |succ n ih=>rw [List.range_succ,List.map_append,List.sum_append,ih,ip hw]; rfl
theorem lS (hw:ap w):((i9 w).take l).sum=bg l 0 w:=by
 unfold i9;rw [←List.map_take,List.take_range,gP hw]
 by_cases h:l≤mx 0 w
 ·rw [Nat.min_eq_left h]
 ·have h:=Nat.le_of_not_le h;rw [Nat.min_eq_right h,dD hw (Nat.le_refl _) (Nat.zero_le _),dD hw h (Nat.zero_le _)]
theorem vm (hw:ap w):(i9 w).sum=w.sum:=(gP hw).trans (dD hw (Nat.le_refl _) (Nat.zero_le _))
theorem su (hw:ap w) (hv:ap v) (hs:w.sum=v.sum) (he:∀l,bg l 0 w=bg l 0 v):i9 w=i9 v:=by
 have m1:mx 0 v≤mx 0 w:=xd hv (Nat.zero_le _) (by rw [←he,←hs]; exact dD hw (Nat.le_refl _) (Nat.zero_le _))
 have m2:mx 0 w≤mx 0 v:=xd hw (Nat.zero_le _) (by rw [he,hs]; exact dD hv (Nat.le_refl _) (Nat.zero_le _))
 unfold i9;rw [Nat.le_antisymm m2 m1];refine List.map_congr_left fun t _=>?_
 have h1:=ip (n:=t) hw;rw [he,he,ip hv] at h1;exact (Nat.add_left_cancel h1).symm
theorem kr (b:pG 0 u):(dQ n u).length+2*((List.range n).map fun t=>ct false (dQ t u)).sum=u.length:=by
 induction n with
 |zero=>rfl
 |succ n ih=>
  have:=xY (h:=0) (b:=false) (pH (n:=n) b);have this:(dl false (dQ n u)).length+2*ct false (dQ n u)=(dQ n u).length+0:=this;rw [lQ,List.range_succ,List.map_append,List.sum_append,Nat.mul_add,Nat.add_left_comm];show _+((dl false (dQ n u)).length+2*(ct false (dQ n u)+0))=_;rw [Nat.add_zero,this,Nat.add_zero,Nat.add_comm,ih]
theorem x7 (hw:ap w) (h0:vl h w=0):(dw h w).length=2*w.sum+h:=by
 induction w generalizing h with
 |nil=>exact h0.symm.trans (Nat.zero_add _).symm▸rfl
 |cons d w ih=>
  rw [List.sum_cons];rcases hw.hd with rfl | rfl
  ·cases h with
   |zero=>rw [Nat.zero_add]; exact ih hw.tl h0
   |succ h=>rw [Nat.zero_add]; exact congrArg (· + 1) (ih hw.tl h0)
  ·have:=ih hw.tl h0;show (dw (h+1) w).length+1=_;rw [this,Nat.mul_add,Nat.add_comm (2*1)]; exact Nat.add_right_comm (2*w.sum) h 2
theorem gQ:(w++List.replicate n 0).sum=w.sum:=by
 rw [List.sum_append];have:(List.replicate n 0).sum=0:=by induction n with
  |zero=>rfl
  |succ n ih=>exact (Nat.zero_add _).trans ih
 rw [this,Nat.add_zero]
theorem pJ (hw:ap w):dQ (mx 0 w) (lR w)=[]:=by
 have h1:=kr (n:=mx 0 w) (kq hw);have h2:(lR w).length=2*w.sum+0:=(x7 (gN hw gh) (by
  rw [kn];have:=nR (h:=0) hw;rw [Nat.zero_add] at this;exact Nat.sub_eq_zero_of_le this)).trans (by rw [gQ])
 rw [h2,gP hw,dD hw (Nat.le_refl _) (Nat.zero_le _),Nat.add_zero,Nat.add_eq_right] at h1;exact List.eq_nil_of_length_eq_zero h1
end
end Mini
set_option maxRecDepth 100000
set_option exponentiation.threshold 5000
set_option autoImplicit false
namespace Mini
open PySem
noncomputable abbrev zs (n:Nat):List Nat:=List.replicate n 0
noncomputable def aT (x:Nat):List Nat:=f7 1 (nd 1 x) x
section
variable {l k c d h n m j x a9:Nat}{w v u r a:List Nat}
theorem Bd:aA 1 (d::w)=d+2*aA 1 w:=rfl
theorem kt (hw:ap w):∀d,d∈w→d<2 ^ 1:=fun d h=>Nat.lt_succ_of_le (hw d h)
theorem Ai:aA 1 (zs n)=0:=by
 induction n with
 |zero=>rfl
 |succ n ih=>
  show 0+2*aA 1 (zs n)=0;rw [ih]
theorem sv:zs (n+m)=zs n++zs m:=List.replicate_append_replicate.symm
theorem eD:aA 1 (w++zs n)=aA 1 w:=by rw [eX,Ai,Nat.mul_zero,Nat.add_zero]
theorem cK (hw:ap w):aA 1 w<2 ^ w.length:=by
 have:=sj (kt hw);rwa [Nat.one_mul] at this
theorem vn (hw:ap w):f7 1 w.length (aA 1 w)=w:=by
 induction w with
 |nil=>rfl
 |cons d w ih=>
  show (d+2*aA 1 w) % 2::f7 1 w.length ((d+2*aA 1 w) / 2)=d::w;have hd:d<2:=Nat.lt_succ_of_le (hw d List.mem_cons_self);rw [Nat.add_mul_mod_self_left,Nat.mod_eq_of_lt hd,Nat.add_mul_div_left _ _ (by decide:0<2),Nat.div_eq_of_lt hd,Nat.zero_add,ih hw.tl]
theorem Aj:f7 1 n 0=zs n:=by
 induction n with
 |zero=>rfl
 |succ n ih=>exact congrArg (0 :: ·) ih
theorem eE:ap (aT x):=fun _ h=>Nat.le_of_lt_succ (si h)
theorem x8:x<2 ^ (nd 1 x):=by
 have:=lO (w:=1) (a:=x) (Nat.le_refl 1);rwa [Nat.one_mul] at this
theorem vo:aA 1 (aT x)=x:=pw (lO (Nat.le_refl 1))
theorem pK:(aT x).length=nd 1 x:=fq
theorem iq (h:x<2 ^ n):(aT x).length≤n:=pK▸sk (Nat.le_refl 1) h
theorem gR (hw:ap w):w=aT (aA 1 w)++zs (w.length - (aT (aA 1 w)).length):=by
 have h:=iq (cK hw);rw [pK] at h ⊢;have e:=ii (w:=1) (a:=nd 1 (aA 1 w)) (b:=w.length - nd 1 (aA 1 w)) (x:=aA 1 w);rw [Nat.add_sub_cancel' h,Nat.one_mul,Nat.div_eq_of_lt x8,Aj,vn hw] at e;exact e
theorem gS (hw:ap w):(aT (aA 1 w)).sum=w.sum:=by
 have:=congrArg List.sum (gR hw);rw [gQ] at this;exact this.symm
theorem ku (hw:ap w):bg m 0 (aT (aA 1 w))=bg m 0 w:=by
 have:=congrArg (bg m 0) (gR hw);rw [gO] at this;exact this.symm
noncomputable def cV (l:Nat) (w:List Nat):Nat:=aA 1 (rn l 0 (w++zs l))
theorem eF (h:l≤m):bY l 0 (w++zs m)=0:=by
 rw [ik,qC];exact Nat.sub_eq_zero_of_le (Nat.le_trans (nM (Nat.zero_le l)) h)
theorem pL (h:l≤m):rn l 0 (w++zs m++zs n)=rn l 0 (w++zs m)++zs n:=by rw [eC,eF h,im]
theorem gT (h:l≤m):aA 1 (rn l 0 (w++zs m))=cV l w:=by
 obtain⟨n,rfl⟩:=Nat.exists_eq_add_of_le h;rw [sv,←List.append_assoc,pL (Nat.le_refl l),eD]; rfl
theorem Ak:cV l (w++zs n)=cV l w:=by
 show aA 1 (rn l 0 (w++zs n++zs l))=_;rw [List.append_assoc,←sv,gT (Nat.le_add_left l n)]
theorem eG (hw:ap w):cV l (aT (aA 1 w))=cV l w:=by
 have:=congrArg (cV l) (gR hw);rw [Ak] at this;exact this.symm
theorem bf (hw:ap w):ap (w++zs n):=gN hw gh
theorem bE (hw:ap w):ap (rn l 0 (w++zs n)):=sr (bf hw) (Nat.zero_le l)
theorem x9 (hw:ap w):cV l w<2 ^ (w.length+l):=by
 have:=cK (bE (l:=l) (n:=l) hw);rwa [rn_len,List.length_append,List.length_replicate] at this
theorem pM (hw:ap w):cV k (aT (cV l w))=aA 1 (rn k 0 (rn l 0 (w++zs (l+k)++zs (l+k)))):=by
 have e:cV l w=aA 1 (rn l 0 (w++zs (l+k))):=(gT (Nat.le_add_right l k)).symm;rw [e,eG (bE hw),pL (Nat.le_add_right l k),gT (Nat.le_add_left k l)]
theorem sx (hw:ap w):cV k (aT (cV l w))=cV l (aT (cV k w)):=by
 rw [pM hw,pM hw,(comm (l:=l) (k:=k) (bf (n:=l+k) (bf (n:=l+k) hw))).1,Nat.add_comm k l]
theorem vp (hw:ap w):bg m 0 (aT (cV l w))=bg m 0 w:=by
 have q:=(comm (l:=l) (k:=m) (bf (n:=l) hw)).2 (eF (Nat.le_refl l));rw [gO] at q;exact (ku (bE hw)).trans q
theorem vq (hw:ap w):(aT (cV l w)).sum=w.sum:=by
 have q:=nN (l:=l) (c:=0) (bf (n:=l) hw) (Nat.zero_le l);rw [eF (Nat.le_refl l),Nat.add_zero,Nat.zero_add,gQ] at q;exact (gS (bE hw)).trans q
theorem vt (hw:ap w):i9 (aT (cV l w))=i9 w:=su eE hw (vq hw) fun _=>vp hw
noncomputable def ya (x n:Nat):Nat:=aA 1 (aT x++zs (n - (aT x).length)).reverse
theorem kx (hw:ap w):ya (aA 1 w) w.length=aA 1 w.reverse:=by
 unfold ya;rw [←gR hw]
theorem vu (hw:ap w) (h:w.length+l≤n):cV l (aT (ya (cV l w) n))=aA 1 (w++zs (n - w.length)).reverse:=by
 have hl:l≤n - w.length:=Nat.le_sub_of_add_le (Nat.add_comm l _▸h);have e1:(rn l 0 (w++zs (n - w.length))).length=n:=by
  rw [rn_len,List.length_append,List.length_replicate,Nat.add_sub_cancel' (Nat.le_trans (Nat.le_add_right _ _) h)]
 have e2:cV l w=aA 1 (rn l 0 (w++zs (n - w.length))):=(gT hl).symm;have hb:=bE (l:=l) (n:=n - w.length) hw;have e3:ya (cV l w) n=aA 1 (rn l 0 (w++zs (n - w.length))).reverse:=by
  rw [e2];have:=kx hb;rwa [e1] at this
 have hr:ap (rn l 0 (w++zs (n - w.length))).reverse:=fun d h=>hb d (List.mem_reverse.mp h)
 obtain⟨b1,b2⟩:=back (l:=l) (c:=0) (bf (n:=n - w.length) hw) (Nat.zero_le l);rw [eF hl] at b1 b2;rw [e3,eG hr];show aA 1 (rn l 0 (_++zs l))=_;rw [eC,b2,im,eD,b1]
theorem pN (hw:ap w) (h:n≤w.length):aA 1 w % 2 ^ n=aA 1 (w.take n)∧aA 1 w / 2 ^ n=aA 1 (w.drop n):=by
 have hl:(w.take n).length=n:=List.length_take_of_le h;have ht:ap (w.take n):=fun d q=>hw d (List.mem_of_mem_take q)
 have e:aA 1 w=aA 1 (w.take n)+2 ^ n*aA 1 (w.drop n):=by
  have:=eX (w:=1) (xs:=w.take n) (ys:=w.drop n);rwa [List.take_append_drop,Nat.one_mul,hl] at this
 have hlt:=cK ht;rw [hl] at hlt;rw [e,Nat.add_mul_mod_self_left,Nat.mod_eq_of_lt hlt,Nat.add_mul_div_left _ _ (Nat.two_pow_pos n),Nat.div_eq_of_lt hlt,Nat.zero_add];exact⟨rfl,rfl⟩
structure B7 (l n x y:Nat) (w:List Nat):Prop where
 hi:x / 2 ^ n=aA 1 (rn l (bY l 0 (w.take n)) (w.drop n++zs l))
 lo:x % 2 ^ n=aA 1 (rn l 0 (w.take n))
theorem pO (hw:ap w) (h:n≤w.length):cV l w / 2 ^ n=aA 1 (rn l (bY l 0 (w.take n)) (w.drop n++zs l))∧cV l w % 2 ^ n=aA 1 (rn l 0 (w.take n)):=by
 have hl:(w.take n).length=n:=List.length_take_of_le h;have e:rn l 0 (w++zs l)=rn l 0 (w.take n)++rn l (bY l 0 (w.take n)) (w.drop n++zs l):=by
  rw [←eC,←List.append_assoc,List.take_append_drop]
 obtain⟨h1,h2⟩:=pN (bE (l:=l) (n:=l) hw) (n:=n) (by rw [rn_len,List.length_append]; exact Nat.le_trans h (Nat.le_add_right _ _))
 have hl2:(rn l 0 (w.take n)).length=n:=rn_len.trans hl;rw [e] at h1 h2;have t:(rn l 0 (w.take n)++rn l (bY l 0 (w.take n)) (w.drop n++zs l)).take n=rn l 0 (w.take n):=List.take_left' hl2;have d:(rn l 0 (w.take n)++rn l (bY l 0 (w.take n)) (w.drop n++zs l)).drop n=rn l (bY l 0 (w.take n)) (w.drop n++zs l):=List.drop_left' hl2;rw [t] at h1;rw [d] at h2;unfold cV;rw [e];exact⟨h2,h1⟩
theorem vw (hw:ap w) (h:n≤w.length):(cV l w / 2 ^ n=cV l (w.drop n)∧cV l w % 2 ^ n=cV l (w.take n))↔bY l 0 (w.take n)=0:=by
 have ht:ap (w.take n):=fun d q=>hw d (List.mem_of_mem_take q)
 rw [(pO hw h).1,(pO hw h).2];constructor
 ·intro ⟨_,q⟩;have s1:=nN (l:=l) (c:=0) ht (Nat.zero_le l);have s2:=nN (l:=l) (c:=0) (bf (n:=l) ht) (Nat.zero_le l);have b1:=gS (sr (l:=l) (c:=0) ht (Nat.zero_le l));have b2:=gS (bE (l:=l) (n:=l) ht);have q:aA 1 (rn l 0 (w.take n))=aA 1 (rn l 0 (w.take n++zs l)):=q;rw [q,b2] at b1;rw [eF (Nat.le_refl l),gQ,Nat.add_zero,b1,←s1] at s2;exact Nat.add_left_cancel ((Nat.add_zero _).trans s2).symm
 ·intro q;rw [q];refine⟨rfl,?_⟩;show _=aA 1 (rn l 0 (w.take n++zs l));rw [eC,q,im,eD]
theorem yb (hw:ap w) (hc:c≤1):rn 1 c (w++[0])=c::w:=by
 have o:∀d,d≤1→sH 1 c d=d∧d+c - d=c:=fun d hd=>by
  refine⟨?_,Nat.add_sub_cancel_left ..⟩;rcases fA hd with rfl | rfl
  ·exact Nat.sub_eq_zero_of_le hc
  ·exact Nat.min_eq_right (Nat.succ_le_succ (Nat.zero_le c))
 induction w generalizing c with
 |nil=>
  show (0+c - sH 1 c 0)::[]=[c];rw [(o 0 (Nat.zero_le 1)).1,(o 0 (Nat.zero_le 1)).2]
 |cons d w ih=>
  have hd:=hw d List.mem_cons_self;show (d+c - sH 1 c d)::rn 1 (sH 1 c d) (w++[0])=c::d::w;rw [(o d hd).1,(o d hd).2];refine congrArg (c :: ·) (ih hw.tl hd fun e he=>⟨?_,Nat.add_sub_cancel_left ..⟩)
  rcases fA he with rfl | rfl
  ·exact Nat.sub_eq_zero_of_le hd
  ·exact Nat.min_eq_right (Nat.succ_le_succ (Nat.zero_le d))
theorem vx (hw:ap w):cV 1 w=2*aA 1 w:=by
 show aA 1 (rn 1 0 (w++[0]))=_;rw [yb hw (Nat.zero_le 1),Bd,Nat.zero_add]
end
end Mini
set_option maxRecDepth 100000
set_option autoImplicit false
set_option exponentiation.threshold 5000
namespace Mini
open PySem
section
variable {call:ad}{R:Option V}{H:List V}{r c d:Int}{j:Nat}{o:Option V}
section
variable (hz:H.length<1000) (p1:aE H.length (-1)=some j) (p2:H[j]? = some (.int c))
include hz p1 p2
theorem Al (h:(!(d==0))=false):Tn call 309 1 (.int d) (fr 309 [R,some (.int r),some (.list H),o]) [] .next (fr 309 [R,some (.int r),some (.list (H++[.int (if 0 > c - 1 then 0 else c - 1)])),some (.int d)]) []:=by
 refine cq [.b false,.v (.int (-1)),.v (.int c),.v (.int (c - 1)),.v (.int (if 0 > c - 1 then 0 else c - 1)),.v (.list (H++[.int (if 0 > c - 1 then 0 else c - 1)]))] (q:=fun K=>(Tr [] (.int d) false)∧(bS .USub (.int 1) (.int (-1)))∧(bx [] (.list H) (.int (-1)) (.int c))∧(ah [] .Sub (.int c) (.int 1) (.int (c - 1)))∧(ay [] (.builtin "max") [.int (c - 1),.int 0] (.int (if 0 > c - 1 then 0 else c - 1)))∧(ah [] .Add (.list H) (.list [.int (if 0 > c - 1 then 0 else c - 1)]) (.list (H++[.int (if 0 > c - 1 then 0 else c - 1)])))∧(K .next (fr 309 [R,some (.int r),some (.list (H++[.int (if 0 > c - 1 then 0 else c - 1)])),some (.int d)]) [])) (fun K=>by kernel_rfl) fun K hK=>⟨(.int ‹_›),.neg,(.list .val ‹_› ‹_›),.sub,.max,(.app .val .val (by exact bp ‹_› (Nat.le_of_ble_eq_true rfl))),hK⟩
theorem Am (h:(!(d==0))=true):Tn call 309 1 (.int d) (fr 309 [R,some (.int r),some (.list H),o]) [] .next (fr 309 [R,some (.int r),some (.list (H++[.int (if r<c+1 then r else c+1)])),some (.int d)]) []:=by
 refine cq [.b true,.v (.int (-1)),.v (.int c),.v (.int (c+1)),.v (.int (if r<c+1 then r else c+1)),.v (.list (H++[.int (if r<c+1 then r else c+1)]))] (q:=fun K=>(Tr [] (.int d) true)∧(bS .USub (.int 1) (.int (-1)))∧(bx [] (.list H) (.int (-1)) (.int c))∧(ah [] .Add (.int c) (.int 1) (.int (c+1)))∧(ay [] (.builtin "min") [.int (c+1),.int r] (.int (if r<c+1 then r else c+1)))∧(ah [] .Add (.list H) (.list [.int (if r<c+1 then r else c+1)]) (.list (H++[.int (if r<c+1 then r else c+1)])))∧(K .next (fr 309 [R,some (.int r),some (.list (H++[.int (if r<c+1 then r else c+1)])),some (.int d)]) [])) (fun K=>by kernel_rfl) fun K hK=>⟨(.int ‹_›),.neg,(.list .val ‹_› ‹_›),.add,.min,(.app .val .val (by exact bp ‹_› (Nat.le_of_ble_eq_true rfl))),hK⟩
end
theorem yc {xs L:List V}(hl:Lp call 309 1 none xs (fr 309 [some (.list xs),some (.int r),some (.list [.int 0])]) [] .next (fr 309 [some (.list xs),some (.int r),some (.list L),o]) []) (hx:xs.length<1048576) :
 ag C1 call (bJ 309).body (fr 309 [some (.list xs),some (.int r)]) [] (.list L) []:=by
 refine aC [.st .next (fr 309 [some (.list xs),some (.int r),some (.list L),o]) []] (q:=(Lp call 309 1 none xs (fr 309 [some (.list xs),some (.int r),some (.list [.int 0])]) [] .next (fr 309 [some (.list xs),some (.int r),some (.list L),o]) [])∧(cZ (.list L) (.list L) [] [])) (by kernel_rfl) ⟨‹_›,fin⟩
end
theorem yd {call:ad}{a n k:Int}{j:Nat}{ds:List V}(c1:call (.val (.ref 209)) [.int a,.int 1] [] [] (.list ds) []) (hd:ds.length<1000) (b1:ah [] .Mult (.list [.int 0]) (.int (n - ds.length)) (.list (List.replicate j (V.int 0)))) (hj:j<1000)
 (c2:call (.val (.ref 216)) [.list (ds++List.replicate j (V.int 0)).reverse,.int 1] [] [] (.int k) []) :
 ag C1 call (bJ 326).body (fr 326 [some (.int a),some (.int n)]) [] (.int k) []:=by
 have hz:(List.replicate j (V.int 0)).length<1000:=by rw [List.length_replicate]; exact hj
 have hy:ds.length+(List.replicate j (V.int 0)).length<1048576:=Nat.lt_trans (Nat.add_lt_add hd hz) (by decide)
 have hy2:(ds++List.replicate j (V.int 0)).length<af:=Nat.lt_trans (xE hd hz) (by decide)
 refine aC [.vh (.list ds) [],.v (.int ↑(List.length ds)),.v (.int (n - ↑(List.length ds))),.v (.list (List.replicate j (.int 0))),.v (.list (ds++List.replicate j (.int 0))),.vh (.int k) []] (q:=(call (.val (.ref 209)) [.int a,.int 1] [] [] (.list ds) [])∧(V.val (.type "list")=V.val (.type "list")∧V.val (.type "reversed")=V.val (.type "reversed"))∧(ay [] (.builtin "len") [.list ds] (.int ↑(List.length ds)))∧(ah [] .Sub (.int n) (.int ↑(List.length ds)) (.int (n - ↑(List.length ds))))∧(ah [] .Mult (.list [.int 0]) (.int (n - ↑(List.length ds))) (.list (List.replicate j (.int 0))))∧(ah [] .Add (.list ds) (.list (List.replicate j (.int 0))) (.list (ds++List.replicate j (.int 0))))∧(List.length (ds++List.replicate j (.int (0:Int)))<af)∧(call (.val (.ref 216)) [.list (List.reverse (ds++List.replicate j (.int 0))),.int 1] [] [] (.int k) [])∧(cZ (.int k) (.int k) [] [])) (by kernel_rfl) ⟨‹_›,⟨rfl,rfl⟩,(.lenL .val (by exact aS ‹_›)),.sub,b1,(.app .val .val ‹_›),‹_›,‹_›,fin⟩
end Mini
set_option maxRecDepth 100000
set_option autoImplicit false
set_option exponentiation.threshold 5000
namespace Mini
open PySem
noncomputable def hl (r:Nat):Nat→List Nat→List Nat
 |_,[]=>[]
 |c,d::w=>sH r c d::hl r (sH r c d) w
theorem kz {r c:Nat}{w:List Nat}:(hl r c w).length=w.length:=by
 induction w generalizing c with
 |nil=>rfl
 |cons d w ih=>exact congrArg (· + 1) ih
theorem de {n:Nat}(h:n+1<af):aE (n+1) (-1)=some n:=by
 have q:(!Nat.blt (n+1) af)=false:=by rw [show Nat.blt (n+1) af=true from Nat.ble_eq_true_of_le h]; rfl
 show (if (!Nat.blt (n+1) af)=true then none else if (0:Int)≤-1 then _ else (if (0:Int)≤-1+((n+1:Nat):Int) then some (-1+((n+1:Nat):Int)).toNat else none))=_
 rw [q,if_neg Bool.false_ne_true,if_neg (by decide),rW,if_pos (Int.natCast_nonneg n)]; rfl
theorem BW (c:Nat):(if (0:Int) > (c:Int) - 1 then 0 else (c:Int) - 1)=((c - 1:Nat):Int):=by
 cases c with
 |zero=>rfl
 |succ c=>
  have e:((c+1:Nat):Int) - 1=c:=Int.add_sub_cancel (c:Int) 1;rw [e];exact if_neg (Int.not_lt.mpr (Int.natCast_nonneg c))
theorem Be (c r:Nat):(if (r:Int)<(c:Int)+1 then (r:Int) else (c:Int)+1)=((min (c+1) r:Nat):Int):=by
 show (if (r:Int)<((c+1:Nat):Int) then (r:Int) else ((c+1:Nat):Int))=_
 by_cases h:r<c+1
 ·rw [if_pos (Int.ofNat_lt.mpr h),Nat.min_eq_right (Nat.le_of_lt h)]
 ·rw [if_neg fun q=>h (Int.ofNat_lt.mp q),Nat.min_eq_left (Nat.not_lt.mp h)]
theorem nS {α:Type}{f:α→V}{l:List α}{x:α}:((l++[x]).map f)[l.length]? = some (f x):=by rw [List.getElem?_map,List.getElem?_concat_length]; rfl
theorem jA {n r:Nat}{w:List Nat}{σ:H}(hw:ap w) (hz:w.length<500):ab C1 (n+1) (.val (.ref 309)) [.list (w.map iv),.int (r:Nat)] [] σ (.list ((0::hl r 0 w).map iv)) σ:=by
 have l:=pp (call:=ab C1 n) (a:=309) (i:=1) iv (fun s:(List Nat×Nat)×Option V=>fr 309 [some (.list (w.map iv)),some (.int (r:Nat)),some (.list ((s.1.1++[s.1.2]).map iv)),s.2]) (fun _=>[]) (fun s d=>((s.1.1++[s.1.2],sH r s.1.2 d),some (iv d)))
  (fun s ds=>s.1.1.length+ds.length<500∧ap ds) (g:=none) (s:=(([],0),none)) (xs:=w.map iv) (as:=w) rfl ⟨by rw [List.length_nil,Nat.zero_add]; exact hz,hw⟩ (fun _ _ _=>trivial) fun s d ds ok=>by
  obtain⟨o1,o2⟩:=ok;rw [List.length_cons] at o1;have o3:s.1.1.length+1<1000:=Nat.lt_trans (Nat.lt_of_le_of_lt (Nat.add_le_add_left (Nat.le_add_left 1 _) _) o1) (by decide)
  have hl0:(s.1.1++[s.1.2]).length=s.1.1.length+1:=List.length_append;refine⟨⟨by rw [hl0,Nat.add_assoc,Nat.add_comm 1]; exact o1,o2.tl⟩,?_⟩
  have hz:((s.1.1++[s.1.2]).map iv).length<1000:=by rw [List.length_map,hl0]; exact o3
  have p1:aE ((s.1.1++[s.1.2]).map iv).length (-1)=some s.1.1.length:=by rw [List.length_map,hl0]; exact de (Nat.lt_trans o3 (by decide))
  show Tn _ 309 1 _ _ _ _ (fr 309 [_,_,some (.list ((s.1.1++[s.1.2]++[sH r s.1.2 d]).map iv)),_]) _;rw [List.map_append (l₁:=s.1.1++[s.1.2])];rcases o2.hd with rfl | rfl
  ·have e:(if (0:Int) > (s.1.2:Int) - 1 then 0 else (s.1.2:Int) - 1)=((s.1.2 - 1:Nat):Int):=BW _
   have t:=Al (call:=ab C1 n) (R:=some (.list (w.map iv))) (r:=(r:Nat)) (d:=(0:Nat)) (o:=s.2) hz p1 nS rfl;rw [e] at t;exact t
  ·have e:(if (r:Int)<(s.1.2:Int)+1 then (r:Int) else (s.1.2:Int)+1)=((min (s.1.2+1) r:Nat):Int):=Be _ _
   have t:=Am (call:=ab C1 n) (R:=some (.list (w.map iv))) (r:=(r:Nat)) (d:=(1:Nat)) (o:=s.2) hz p1 nS rfl;rw [e] at t;exact t
 have e:∀(w:List Nat) (p:List Nat) (c:Nat) (o:Option V),((w.foldl (fun(s:(List Nat×Nat)×Option V) d=>((s.1.1++[s.1.2],sH r s.1.2 d),some (iv d))) ((p,c),o)).1.1++[(w.foldl (fun(s:(List Nat×Nat)×Option V) d=>((s.1.1++[s.1.2],sH r s.1.2 d),some (iv d))) ((p,c),o)).1.2])=p++c::hl r c w:=fun w=>by
  induction w with
  |nil=>exact fun _ _ _=>rfl
  |cons d w ih=>exact fun p c o=>(ih (p++[c]) (sH r c d) _).trans (by rw [List.append_assoc]; rfl)
 rw [e w [] 0 none] at l;have hn:∀w:List Nat,j9 (w.map iv)=true:=fun w=>dY
 exact aR (by kernel_rfl) (by show (eU 0 (w.map iv)&&true)=true; rw [dY]; rfl) (by kernel_rfl) (yc l (by rw [List.length_map]; exact Nat.lt_trans hz (by decide))) (.val dY)
theorem sy {r c:Nat}{w:List Nat}:(c::hl r c w).getLast? = some (bY r c w):=by
 induction w generalizing c with
 |nil=>rfl
 |cons d w ih=>exact (List.getLast?_cons_cons ..).trans ih
theorem sz {n x k:Nat}{σ:H}(hx:x<2 ^ 200) (hk:(aT x).length≤k) (hk2:k≤240):ab C1 (n+11) (.val (.ref 326)) [.int x,.int k] [] σ (.int (ya x k:Nat)) σ:=by
 have c1:ab C1 (n+10) (.val (.ref 209)) [.int x,.int 1] [] [] (.list ((aT x).map iv)) []:=fw (n:=n) (w:=1) (Nat.le_refl 1) (by decide) hx
 have e:((k:Int) - ((aT x).map iv).length)=((k - (aT x).length:Nat):Int):=by rw [List.length_map,Int.natCast_sub hk]
 have b1:ah [] .Mult (.list [.int 0]) (.int ((k:Int) - ((aT x).map iv).length)) (.list (List.replicate (k - (aT x).length) (V.int 0))):=by
  have:=ah.rep (σ:=[]) (n:=((k - (aT x).length:Nat):Int)) (LO.val (xs:=[V.int 0])) (Int.natCast_nonneg _) (Int.ofNat_lt.mpr (Nat.lt_of_le_of_lt (Nat.le_trans (Nat.sub_le _ _) hk2) (by decide)):_<((4096:Nat):Int)) (by decide)
  rw [pq,Int.toNat_natCast] at this;rw [e]; exact this
 have er:((aT x).map iv++List.replicate (k - (aT x).length) (V.int 0)).reverse=((aT x++zs (k - (aT x).length)).reverse).map iv:=by rw [List.map_reverse,List.map_append,List.map_replicate]; rfl
 have hl0:(aT x++zs (k - (aT x).length)).reverse.length=k:=by rw [List.length_reverse,List.length_append,List.length_replicate,Nat.add_sub_cancel' hk]
 have hb:ap (aT x++zs (k - (aT x).length)).reverse:=fun d h=>bf eE d (List.mem_reverse.mp h)
 have c2:=fx (n:=n) (w:=1) (ds:=(aT x++zs (k - (aT x).length)).reverse) (σ:=[]) LO.val (kt hb) (by rw [hl0]; exact Nat.lt_of_le_of_lt hk2 (by decide)) (by decide) (by rw [hl0]; exact Nat.le_trans hk2 (by decide)) (by rw [hl0]; exact Nat.le_trans (Nat.mul_le_mul_left 1 hk2) (by decide))
 rw [←er] at c2;exact aR (by kernel_rfl) rfl (by kernel_rfl) (yd c1 (by rw [List.length_map]; exact Nat.lt_of_le_of_lt (Nat.le_trans hk hk2) (by decide)) b1 (Nat.lt_of_le_of_lt (Nat.le_trans (Nat.sub_le _ _) hk2) (by decide)) c2) (.val rfl)
end Mini
set_option maxRecDepth 100000
set_option autoImplicit false
set_option exponentiation.threshold 5000
namespace Mini
open PySem
noncomputable def ch (y:List Nat):List (List Nat×V):=[([100,101,101,112],.str y),([111,102],.str [114,111,119])]
section
variable {call:ad}{w ones wl:List V}{x kind d:Int}{a b jw:Nat}{r av R:V}{o1 o2:Option V}{σ σ2 σ3 σ4:H}
theorem xe {hi:Int}(h:(!(d==0))=false) (hz:wl.length<1000) (e:ay σ (.builtin "max") [.int ((wl.length:Int) - 1),.int 1] (.int hi)) (b1:-(2 ^ 62)<hi) (b2:hi<2 ^ 62):Tn call 319 5 (.int d) (fr 319 [some (.int x),some (.int kind),some R,some r,some (.list wl),some (.list ones),o1,o2]) σ .next (fr 319 [some (.int x),some (.int kind),some R,some r,some (.list (a9 wl none (some hi))),some (.list ones),some (.int d),o2]) σ:=by
 refine cq [.b false,.v (.int ↑(List.length wl)),.v (.int (↑(List.length wl) - 1)),.v (.int hi),.v (.list (a9 wl none (some hi)))] (q:=fun K=>(Tr σ (.int d) false)∧(ay σ (.builtin "len") [.list wl] (.int ↑(List.length wl)))∧(ah σ .Sub (.int ↑(List.length wl)) (.int 1) (.int (↑(List.length wl) - 1)))∧(ay σ (.builtin "max") [.int (↑(List.length wl) - 1),.int 1] (.int hi))∧(-(2:Int) ^ (62:Nat)<hi∧hi<(2:Int) ^ (62:Nat))∧(aW σ (.list wl) none (some hi) (.list (a9 wl none (some hi))))∧(K .next (fr 319 [some (.int x),some (.int kind),some R,some r,some (.list (a9 wl none (some hi))),some (.list ones),some (.int d),o2]) σ)) (fun K=>by kernel_rfl) fun K hK=>⟨(.int ‹_›),(.lenL .val (by exact aS ‹_›)),.sub,e,⟨‹_›,‹_›⟩,(.list .val (by exact aS ‹_›)),hK⟩
theorem An (h:(!(d==0))=true) (hz:wl.length<1000) (hy:ones.length<1000) (q1:aE wl.length (-1)=some jw) (q2:wl[jw]? = some (.ref a)) (f1:Fo σ (.ref a) "attrib" av) (hb:(wl.length:Int).natAbs<2 ^ 1000)
 (hc:call (.val (.ref 239)) [.ref a,.str [101],av] [("deep",.str (ae wl.length))] σ (.ref b) σ2) (u1:cY C1 σ2 (.ref b) "text" (.str [60]) σ3) (u2:cY C1 σ3 (.ref b) "tail" (.str [62]) σ4) :
 Tn call 319 5 (.int d) (fr 319 [some (.int x),some (.int kind),some R,some r,some (.list wl),some (.list ones),o1,o2]) σ .next (fr 319 [some (.int x),some (.int kind),some R,some r,some (.list (wl++[.ref b])),some (.list (ones++[.ref b])),some (.int d),some (.ref b)]) σ4:=by
 refine cq [.b true,.v (.int (-1)),.v (.ref a),.v (.int (-1)),.v (.ref a),.fld av,.v (.int ↑(List.length wl)),.v (.str (ae ↑(List.length wl))),.vh (.ref b) σ2,.h σ3,.h σ4,.v (.list (wl++[.ref b])),.v (.list (ones++[.ref b]))] (q:=fun K=>(Tr σ (.int d) true)∧(bS .USub (.int 1) (.int (-1)))∧(bx σ (.list wl) (.int (-1)) (.ref a))∧(bS .USub (.int 1) (.int (-1)))∧(bx σ (.list wl) (.int (-1)) (.ref a))∧(gB C1 σ (.ref a) (Str.ofString "attrib") av)∧(ay σ (.builtin "len") [.list wl] (.int ↑(List.length wl)))∧(ay σ (.type "str") [.int ↑(List.length wl)] (.str (ae ↑(List.length wl))))∧(call (.val (.ref 239)) [.ref a,.str [101],av] [(Str.ofString "deep",.str (ae ↑(List.length wl)))] σ (.ref b) σ2)∧(cY C1 σ2 (.ref b) (Str.ofString "text") (.str [60]) σ3)∧(cY C1 σ3 (.ref b) (Str.ofString "tail") (.str [62]) σ4)∧(ah σ4 .Add (.list wl) (.list [.ref b]) (.list (wl++[.ref b])))∧(ah σ4 .Add (.list ones) (.list [.ref b]) (.list (ones++[.ref b])))∧(K .next (fr 319 [some (.int x),some (.int kind),some R,some r,some (.list (wl++[.ref b])),some (.list (ones++[.ref b])),some (.int d),some (.ref b)]) σ4)) (fun K=>by kernel_rfl) fun K hK=>⟨(.int ‹_›),.neg,(.list .val ‹_› ‹_›),.neg,(.list .val ‹_› ‹_›),(.fobj f1),(.lenL .val (by exact aS ‹_›)),(.str ‹_›),‹_›,u1,u2,(.app .val .val (by exact bp ‹_› (Nat.le_of_ble_eq_true rfl))),(.app .val .val (by exact bp ‹_› (Nat.le_of_ble_eq_true rfl))),hK⟩
theorem Ao {wr mk:List Nat}{C:List V}{t:Int}{o3 o4 o5 o6:Option V}{rt:Nat}{wr2:List Nat}(hp:mk≠[]) (hz:C.length<1000) (rp:xv wr mk [] (.str wr2)):Tn call 319 13 (.int t) (fr 319 [some (.int x),some (.int kind),some R,some (.ref rt),o3,o4,o1,o2,o5,some (.str wr),some (.tstr mk),some r,some (.list C),o6]) σ .next (fr 319 [some (.int x),some (.int kind),some R,some (.ref rt),o3,o4,o1,o2,o5,some (.str wr2),some (.tstr mk),some r,some (.list (C++[.int (count mk wr:Nat)])),some (.int t)]) σ:=by
 refine cq [.meth "str.count",.vh (.int ↑(count mk wr)) σ,.v (.list (C++[.int ↑(count mk wr)])),.v (.str wr2)] (q:=fun K=>(dN σ (.str wr) (Str.ofString "count") "str.count")∧(aF σ "str.count" (.str wr) [.tstr mk] (.int ↑(count mk wr)) σ)∧(ah σ .Add (.list C) (.list [.int ↑(count mk wr)]) (.list (C++[.int ↑(count mk wr)])))∧(xv wr mk [] (.str wr2))∧(K .next (fr 319 [some (.int x),some (.int kind),some R,some (.ref rt),o3,o4,o1,o2,o5,some (.str wr2),some (.tstr mk),some r,some (.list (C++[.int ↑(count mk wr)])),some (.int t)]) σ)) (fun K=>by kernel_rfl) fun K hK=>⟨.count,(.count ‹_›),(.app .val .val (by exact bp ‹_› (Nat.le_of_ble_eq_true rfl))),rp,hK⟩
theorem Ap {ρ:P}{q1 q2:Option V}{h:Int}(hd:(!(d==0))=true):Tc call 38 (ex 319 10 []) (.tuple [.int h,.int d]) (cf (ex 319 10 []) ρ [none,q1,q2]) σ (some (.int h)) (cf (ex 319 10 []) ρ [none,some (.int h),some (.int d)]):=by
 refine dW [.b true] (q:=fun K=>(Tr σ (.int d) true)∧(K (some (.int h)) (cf (ex 319 10 []) ρ [none,some (.int h),some (.int d)]) σ)) (fun K=>by kernel_rfl) fun K hK=>⟨(.int ‹_›),hK⟩
theorem Aq {ρ:P}{q1 q2:Option V}{h:Int}(hd:(!(d==0))=false):Tc call 38 (ex 319 10 []) (.tuple [.int h,.int d]) (cf (ex 319 10 []) ρ [none,q1,q2]) σ none (cf (ex 319 10 []) ρ [none,some (.int h),some (.int d)]):=by
 refine dW [.b false] (q:=fun K=>(Tr σ (.int d) false)∧(K none (cf (ex 319 10 []) ρ [none,some (.int h),some (.int d)]) σ)) (fun K=>by kernel_rfl) fun K hK=>⟨(.int ‹_›),hK⟩
theorem Ar {ρ:P}{q:Option V}(f1:Fo σ (.ref a) "tag" (.str [101])) (f2:Fo σ (.ref a) "attrib" av):Tc call 37 (ex 319 11 [0]) (.ref a) (cf (ex 319 11 [0]) ρ [none,q]) σ (some (.tuple [.str [101],av])) (cf (ex 319 11 [0]) ρ [none,some (.ref a)]):=by
 refine dW [.fld (.str [101]),.fld av] (q:=fun K=>(gB C1 σ (.ref a) (Str.ofString "tag") (.str [101]))∧(gB C1 σ (.ref a) (Str.ofString "attrib") av)∧(K (some (.tuple [.str [101],av])) (cf (ex 319 11 [0]) ρ [none,some (.ref a)]) σ)) (fun K=>by kernel_rfl) fun K hK=>⟨(.fobj f1),(.fobj f2),hK⟩
end
section
variable {call:ad}{ds Z wl ones HL HH DP TL TR CC:List V}{x kind m mm:Int}{j esc:Nat}{pg wr wr2:List Nat}{o1 o2 o3:Option V}{σ1 σ2 σ3 σ4:H}
theorem vy (c1:call (.val (.ref 209)) [.int x,.int 1] [] [] (.list ds) []) (c2:call (.val (.ref 295)) [.str [97,108,108],.dict (ch [48])] [] [] (.ref 0) σ1) (hp:(!(x.fmod 2==0))=false) (u1:cY C1 σ1 (.ref 0) "tail" V.none σ2) (sm:ay σ2 (.builtin "sum") [.list ds] (.int m)) (b1:ah σ2 .Mult (.list [.int 0]) (.int m) (.list Z)) (hd:ds.length<1000) (hz:Z.length<1000) (hE:(ds++Z).length<1048576)
 (l1:Lp call 319 5 none (ds++Z) (fr 319 [some (.int x),some (.int kind),some (.list ds),some (.ref 0),some (.list [.ref 0]),some (.list [])]) σ2 .next (fr 319 [some (.int x),some (.int kind),some (.list ds),some (.ref 0),some (.list wl),some (.list ones),o1,o2]) σ3) (lo:LO (σ3++[.list []]) (.ref σ3.length) []) (c3:call (.val (.ref 246)) [.bm "list.append" (.ref σ3.length),.ref 0] [] (σ3++[.list []]) .none σ4) (m1:aF σ4 "str.join" (.str []) [.ref σ3.length] (.str pg) σ4) (i1:aE 5 kind=some j) (i2:([.val (.ref 260),.val (.ref 281),.val (.ref 267),.val (.ref 288),.val (.ref 274)]:List V)[j]? = some (.val (.ref esc)))
 (c4:call (.val (.ref esc)) [.str pg] [] σ4 (.str wr) σ4) (k4:(kind==4)=false) (k3:(kind==3)=false) (c5:call (.val (.ref 309)) [.list ds,.int ds.length] [] σ4 (.list HH) σ4) (s5:aW σ4 (.list HH) (some 1) none (.list HL)) (hv:(a0 HL ds).length<1048576) (p1:Cp call 38 (ex 319 10 []) none (a0 HL ds) (fr 319 [some (.int x),some (.int kind),some (.list ds),some (.ref 0),some (.list wl),some (.list ones),o1,o2,some (.ref σ3.length),some (.str wr),some (.tstr ([38,108,116,59]++[38,103,116,59]))]) σ4 DP σ4) (ho:ones.length<1048576) (p2:Cp call 37 (ex 319 11 [0]) none ones (fr 319 [some (.int x),some (.int kind),some (.list ds),some (.ref 0),some (.list wl),some (.list ones),o1,o2,some (.ref σ3.length),some (.str wr),some (.tstr ([38,108,116,59]++[38,103,116,59])),some (.list DP)]) σ4 TL σ4) (hq:DP.length<1000) (p3:Cp call 37 (ex 319 11 [1]) none DP (fr 319 [some (.int x),some (.int kind),some (.list ds),some (.ref 0),some (.list wl),some (.list ones),o1,o2,some (.ref σ3.length),some (.str wr),some (.tstr ([38,108,116,59]++[38,103,116,59])),some (.list DP)]) σ4 TR σ4) (n1:Cm σ4 .NotEq (.list TL) (.list TR) false)
 (mx:ay σ4 (.builtin "max") [.list (DP++[.int 0])] (.int mm)) (mb:mm.natAbs<4096) (hr:(range 0 mm).length<1048576) (l2:Lp call 319 13 none (range 0 mm) (fr 319 [some (.int x),some (.int kind),some (.list ds),some (.ref 0),some (.list wl),some (.list ones),o1,o2,some (.ref σ3.length),some (.str wr),some (.tstr ([38,108,116,59]++[38,103,116,59])),some (.list DP),some (.list [])]) σ4 .next (fr 319 [some (.int x),some (.int kind),some (.list ds),some (.ref 0),some (.list wl),some (.list ones),o1,o2,some (.ref σ3.length),some (.str wr2),some (.tstr ([38,108,116,59]++[38,103,116,59])),some (.list DP),some (.list CC),o3]) σ4) (f5:Fo σ4 (.ref 0) "tail" V.none) (ew:(wr2==[])=true) :
 ag C1 call (bJ 319).body (fr 319 [some (.int x),some (.int kind)]) [] (.list CC) σ4:=by
 refine aC [.vh (.list ds) [],.vh (.ref 0) σ1,.v (.int (Int.fmod x 2)),.b false,.h σ2,.v (.int m),.v (.list Z),.v (.list (ds++Z)),.st .next (fr 319 [some (.int x),some (.int kind),some (.list ds),some (.ref 0),some (.list wl),some (.list ones),o1,o2]) σ3,.l [],.vh .none σ4,.v (.val (.ref esc)),.meth "str.join",.vh (.str pg) σ4,.vh (.str wr) σ4,.b false,.b false,.v (.str ([38,108,116,59]++[38,103,116,59])),.v (.int ↑(List.length ds)),.vh (.list HH) σ4,.v (.list HL),.lh DP σ4,.lh TL σ4,.lh TR σ4,.b false,.v (.list (DP++[.int 0])),.v (.int mm),.st .next (fr 319 [some (.int x),some (.int kind),some (.list ds),some (.ref 0),some (.list wl),some (.list ones),o1,o2,some (.ref (List.length σ3)),some (.str wr2),some (.tstr ([38,108,116,59]++[38,103,116,59])),some (.list DP),some (.list CC),o3]) σ4,.fld .none,.b false,.b true] (q:=(call (.val (.ref 209)) [.int x,.int 1] [] [] (.list ds) [])∧(call (.val (.ref 295)) [.str [97,108,108],.dict (ch [48])] [] [] (.ref 0) σ1)∧(ah σ1 .Mod (.int x) (.int 2) (.int (Int.fmod x 2)))∧(Tr σ1 (.int (Int.fmod x 2)) false)∧(cY C1 σ1 (.ref 0) (Str.ofString "tail") .none σ2)∧(ay σ2 (.builtin "sum") [.list ds] (.int m))∧(ah σ2 .Mult (.list [.int 0]) (.int m) (.list Z))∧(ah σ2 .Add (.list ds) (.list Z) (.list (ds++Z)))∧(Lp call 319 5 none (ds++Z) (fr 319 [some (.int x),some (.int kind),some (.list ds),some (.ref 0),some (.list [.ref 0]),some (.list [])]) σ2 .next (fr 319 [some (.int x),some (.int kind),some (.list ds),some (.ref 0),some (.list wl),some (.list ones),o1,o2]) σ3)∧(LO (σ3++[aa.list []]) (.ref (List.length σ3)) [])∧(call (.val (.ref 246)) [.bm "list.append" (.ref (List.length σ3)),.ref 0] [] (σ3++[aa.list []]) .none σ4)∧(bx σ4 (.tuple [.val (.ref 260),.val (.ref 281),.val (.ref 267),.val (.ref 288),.val (.ref 274)]) (.int kind) (.val (.ref esc)))∧(dN σ4 (.str []) (Str.ofString "join") "str.join")∧(aF σ4 "str.join" (.str []) [.ref (List.length σ3)] (.str pg) σ4)∧(call (.val (.ref esc)) [.str pg] [] σ4 (.str wr) σ4)∧(Cm σ4 .Eq (.int kind) (.int 4) false)∧(Cm σ4 .Eq (.int kind) (.int 3) false)∧(ah σ4 .Add (.str [38,108,116,59]) (.str [38,103,116,59]) (.str ([38,108,116,59]++[38,103,116,59])))∧(ay σ4 (.builtin "len") [.list ds] (.int ↑(List.length ds)))∧(call (.val (.ref 309)) [.list ds,.int ↑(List.length ds)] [] σ4 (.list HH) σ4)∧(-(2:Int) ^ (62:Nat)<(1:Int)∧(1:Int)<(2:Int) ^ (62:Nat))∧(aW σ4 (.list HH) (some 1) none (.list HL))∧(au (It.items true none (a0 HL ds))=true)∧(Cp call 38 (ex 319 10 []) none (a0 HL ds) (fr 319 [some (.int x),some (.int kind),some (.list ds),some (.ref 0),some (.list wl),some (.list ones),o1,o2,some (.ref (List.length σ3)),some (.str wr),some (.tstr ([38,108,116,59]++[38,103,116,59]))]) σ4 DP σ4)∧(au (It.items false none ones)=true)∧(Cp call 37 (ex 319 11 [0]) none ones (fr 319 [some (.int x),some (.int kind),some (.list ds),some (.ref 0),some (.list wl),some (.list ones),o1,o2,some (.ref (List.length σ3)),some (.str wr),some (.tstr ([38,108,116,59]++[38,103,116,59])),some (.list DP)]) σ4 TL σ4)∧(au (It.items false none DP)=true)∧(Cp call 37 (ex 319 11 [1]) none DP (fr 319 [some (.int x),some (.int kind),some (.list ds),some (.ref 0),some (.list wl),some (.list ones),o1,o2,some (.ref (List.length σ3)),some (.str wr),some (.tstr ([38,108,116,59]++[38,103,116,59])),some (.list DP)]) σ4 TR σ4)∧(Cm σ4 .NotEq (.list TL) (.list TR) false)∧(ah σ4 .Add (.list DP) (.list [.int 0]) (.list (DP++[.int 0])))∧(ay σ4 (.builtin "max") [.list (DP++[.int 0])] (.int mm))∧(Int.natAbs mm<(4096:Nat))∧(Lp call 319 13 none (range 0 mm) (fr 319 [some (.int x),some (.int kind),some (.list ds),some (.ref 0),some (.list wl),some (.list ones),o1,o2,some (.ref (List.length σ3)),some (.str wr),some (.tstr ([38,108,116,59]++[38,103,116,59])),some (.list DP),some (.list [])]) σ4 .next (fr 319 [some (.int x),some (.int kind),some (.list ds),some (.ref 0),some (.list wl),some (.list ones),o1,o2,some (.ref (List.length σ3)),some (.str wr2),some (.tstr ([38,108,116,59]++[38,103,116,59])),some (.list DP),some (.list CC),o3]) σ4)∧(gB C1 σ4 (.ref 0) (Str.ofString "tail") .none)∧(Tr σ4 .none false)∧(Cm σ4 .Eq (.str wr2) (.str []) true)∧(cZ (.list CC) (.list CC) σ4 σ4)) (by kernel_rfl) ⟨‹_›,‹_›,(.mod (by decide)),(.int ‹_›),u1,sm,b1,(.app .val .val (by exact bp ‹_› ‹_›)),‹_›,lo,‹_›,(.tup ‹_› ‹_›),.join,m1,‹_›,(.eqI ‹_›),(.eqI ‹_›),(.cat (by exact Nat.le_of_ble_eq_true rfl)),(.lenL .val (by exact aS ‹_›)),‹_›,⟨(by exact Int.natCast_nonneg _),(by exact Int.natCast_nonneg _)⟩,s5,(by exact small ‹_›),‹_›,(by exact small ‹_›),‹_›,(by exact small (aS ‹_›)),‹_›,n1,(.app .val .val (by exact bp ‹_› (by decide))),mx,‹_›,‹_›,(.fobj f5),.none,(.eqS ‹_›),fin⟩
theorem vz (c1:call (.val (.ref 209)) [.int x,.int 1] [] [] (.list ds) []) (c2:call (.val (.ref 295)) [.str [97,108,108],.dict (ch [48])] [] [] (.ref 0) σ1) (hp:(!(x.fmod 2==0))=false) (u1:cY C1 σ1 (.ref 0) "tail" V.none σ2) (sm:ay σ2 (.builtin "sum") [.list ds] (.int m)) (b1:ah σ2 .Mult (.list [.int 0]) (.int m) (.list Z)) (hd:ds.length<1000) (hz:Z.length<1000) (hE:(ds++Z).length<1048576)
 (l1:Lp call 319 5 none (ds++Z) (fr 319 [some (.int x),some (.int kind),some (.list ds),some (.ref 0),some (.list [.ref 0]),some (.list [])]) σ2 .next (fr 319 [some (.int x),some (.int kind),some (.list ds),some (.ref 0),some (.list wl),some (.list ones),o1,o2]) σ3) (lo:LO (σ3++[.list []]) (.ref σ3.length) []) (c3:call (.val (.ref 246)) [.bm "list.append" (.ref σ3.length),.ref 0] [] (σ3++[.list []]) .none σ4) (m1:aF σ4 "str.join" (.str []) [.ref σ3.length] (.str pg) σ4) (i1:aE 5 kind=some j) (i2:([.val (.ref 260),.val (.ref 281),.val (.ref 267),.val (.ref 288),.val (.ref 274)]:List V)[j]? = some (.val (.ref esc)))
 (c4:call (.val (.ref esc)) [.str pg] [] σ4 (.str wr) σ4) (k4:(kind==4)=false) (k3:(kind==3)=true) (c5:call (.val (.ref 309)) [.list ds,.int ds.length] [] σ4 (.list HH) σ4) (s5:aW σ4 (.list HH) (some 1) none (.list HL)) (hv:(a0 HL ds).length<1048576) (p1:Cp call 38 (ex 319 10 []) none (a0 HL ds) (fr 319 [some (.int x),some (.int kind),some (.list ds),some (.ref 0),some (.list wl),some (.list ones),o1,o2,some (.ref σ3.length),some (.str wr),some (.tstr ([38,108,116,59]++[62]))]) σ4 DP σ4) (ho:ones.length<1048576) (p2:Cp call 37 (ex 319 11 [0]) none ones (fr 319 [some (.int x),some (.int kind),some (.list ds),some (.ref 0),some (.list wl),some (.list ones),o1,o2,some (.ref σ3.length),some (.str wr),some (.tstr ([38,108,116,59]++[62])),some (.list DP)]) σ4 TL σ4) (hq:DP.length<1000) (p3:Cp call 37 (ex 319 11 [1]) none DP (fr 319 [some (.int x),some (.int kind),some (.list ds),some (.ref 0),some (.list wl),some (.list ones),o1,o2,some (.ref σ3.length),some (.str wr),some (.tstr ([38,108,116,59]++[62])),some (.list DP)]) σ4 TR σ4) (n1:Cm σ4 .NotEq (.list TL) (.list TR) false)
 (mx:ay σ4 (.builtin "max") [.list (DP++[.int 0])] (.int mm)) (mb:mm.natAbs<4096) (hr:(range 0 mm).length<1048576) (l2:Lp call 319 13 none (range 0 mm) (fr 319 [some (.int x),some (.int kind),some (.list ds),some (.ref 0),some (.list wl),some (.list ones),o1,o2,some (.ref σ3.length),some (.str wr),some (.tstr ([38,108,116,59]++[62])),some (.list DP),some (.list [])]) σ4 .next (fr 319 [some (.int x),some (.int kind),some (.list ds),some (.ref 0),some (.list wl),some (.list ones),o1,o2,some (.ref σ3.length),some (.str wr2),some (.tstr ([38,108,116,59]++[62])),some (.list DP),some (.list CC),o3]) σ4) (f5:Fo σ4 (.ref 0) "tail" V.none) (ew:(wr2==[])=true) :
 ag C1 call (bJ 319).body (fr 319 [some (.int x),some (.int kind)]) [] (.list CC) σ4:=by
 refine aC [.vh (.list ds) [],.vh (.ref 0) σ1,.v (.int (Int.fmod x 2)),.b false,.h σ2,.v (.int m),.v (.list Z),.v (.list (ds++Z)),.st .next (fr 319 [some (.int x),some (.int kind),some (.list ds),some (.ref 0),some (.list wl),some (.list ones),o1,o2]) σ3,.l [],.vh .none σ4,.v (.val (.ref esc)),.meth "str.join",.vh (.str pg) σ4,.vh (.str wr) σ4,.b false,.b true,.v (.str ([38,108,116,59]++[62])),.v (.int ↑(List.length ds)),.vh (.list HH) σ4,.v (.list HL),.lh DP σ4,.lh TL σ4,.lh TR σ4,.b false,.v (.list (DP++[.int 0])),.v (.int mm),.st .next (fr 319 [some (.int x),some (.int kind),some (.list ds),some (.ref 0),some (.list wl),some (.list ones),o1,o2,some (.ref (List.length σ3)),some (.str wr2),some (.tstr ([38,108,116,59]++[62])),some (.list DP),some (.list CC),o3]) σ4,.fld .none,.b false,.b true] (q:=(call (.val (.ref 209)) [.int x,.int 1] [] [] (.list ds) [])∧(call (.val (.ref 295)) [.str [97,108,108],.dict (ch [48])] [] [] (.ref 0) σ1)∧(ah σ1 .Mod (.int x) (.int 2) (.int (Int.fmod x 2)))∧(Tr σ1 (.int (Int.fmod x 2)) false)∧(cY C1 σ1 (.ref 0) (Str.ofString "tail") .none σ2)∧(ay σ2 (.builtin "sum") [.list ds] (.int m))∧(ah σ2 .Mult (.list [.int 0]) (.int m) (.list Z))∧(ah σ2 .Add (.list ds) (.list Z) (.list (ds++Z)))∧(Lp call 319 5 none (ds++Z) (fr 319 [some (.int x),some (.int kind),some (.list ds),some (.ref 0),some (.list [.ref 0]),some (.list [])]) σ2 .next (fr 319 [some (.int x),some (.int kind),some (.list ds),some (.ref 0),some (.list wl),some (.list ones),o1,o2]) σ3)∧(LO (σ3++[aa.list []]) (.ref (List.length σ3)) [])∧(call (.val (.ref 246)) [.bm "list.append" (.ref (List.length σ3)),.ref 0] [] (σ3++[aa.list []]) .none σ4)∧(bx σ4 (.tuple [.val (.ref 260),.val (.ref 281),.val (.ref 267),.val (.ref 288),.val (.ref 274)]) (.int kind) (.val (.ref esc)))∧(dN σ4 (.str []) (Str.ofString "join") "str.join")∧(aF σ4 "str.join" (.str []) [.ref (List.length σ3)] (.str pg) σ4)∧(call (.val (.ref esc)) [.str pg] [] σ4 (.str wr) σ4)∧(Cm σ4 .Eq (.int kind) (.int 4) false)∧(Cm σ4 .Eq (.int kind) (.int 3) true)∧(ah σ4 .Add (.str [38,108,116,59]) (.str [62]) (.str ([38,108,116,59]++[62])))∧(ay σ4 (.builtin "len") [.list ds] (.int ↑(List.length ds)))∧(call (.val (.ref 309)) [.list ds,.int ↑(List.length ds)] [] σ4 (.list HH) σ4)∧(-(2:Int) ^ (62:Nat)<(1:Int)∧(1:Int)<(2:Int) ^ (62:Nat))∧(aW σ4 (.list HH) (some 1) none (.list HL))∧(au (It.items true none (a0 HL ds))=true)∧(Cp call 38 (ex 319 10 []) none (a0 HL ds) (fr 319 [some (.int x),some (.int kind),some (.list ds),some (.ref 0),some (.list wl),some (.list ones),o1,o2,some (.ref (List.length σ3)),some (.str wr),some (.tstr ([38,108,116,59]++[62]))]) σ4 DP σ4)∧(au (It.items false none ones)=true)∧(Cp call 37 (ex 319 11 [0]) none ones (fr 319 [some (.int x),some (.int kind),some (.list ds),some (.ref 0),some (.list wl),some (.list ones),o1,o2,some (.ref (List.length σ3)),some (.str wr),some (.tstr ([38,108,116,59]++[62])),some (.list DP)]) σ4 TL σ4)∧(au (It.items false none DP)=true)∧(Cp call 37 (ex 319 11 [1]) none DP (fr 319 [some (.int x),some (.int kind),some (.list ds),some (.ref 0),some (.list wl),some (.list ones),o1,o2,some (.ref (List.length σ3)),some (.str wr),some (.tstr ([38,108,116,59]++[62])),some (.list DP)]) σ4 TR σ4)∧(Cm σ4 .NotEq (.list TL) (.list TR) false)∧(ah σ4 .Add (.list DP) (.list [.int 0]) (.list (DP++[.int 0])))∧(ay σ4 (.builtin "max") [.list (DP++[.int 0])] (.int mm))∧(Int.natAbs mm<(4096:Nat))∧(Lp call 319 13 none (range 0 mm) (fr 319 [some (.int x),some (.int kind),some (.list ds),some (.ref 0),some (.list wl),some (.list ones),o1,o2,some (.ref (List.length σ3)),some (.str wr),some (.tstr ([38,108,116,59]++[62])),some (.list DP),some (.list [])]) σ4 .next (fr 319 [some (.int x),some (.int kind),some (.list ds),some (.ref 0),some (.list wl),some (.list ones),o1,o2,some (.ref (List.length σ3)),some (.str wr2),some (.tstr ([38,108,116,59]++[62])),some (.list DP),some (.list CC),o3]) σ4)∧(gB C1 σ4 (.ref 0) (Str.ofString "tail") .none)∧(Tr σ4 .none false)∧(Cm σ4 .Eq (.str wr2) (.str []) true)∧(cZ (.list CC) (.list CC) σ4 σ4)) (by kernel_rfl) ⟨‹_›,‹_›,(.mod (by decide)),(.int ‹_›),u1,sm,b1,(.app .val .val (by exact bp ‹_› ‹_›)),‹_›,lo,‹_›,(.tup ‹_› ‹_›),.join,m1,‹_›,(.eqI ‹_›),(.eqI ‹_›),(.cat (by exact Nat.le_of_ble_eq_true rfl)),(.lenL .val (by exact aS ‹_›)),‹_›,⟨(by exact Int.natCast_nonneg _),(by exact Int.natCast_nonneg _)⟩,s5,(by exact small ‹_›),‹_›,(by exact small ‹_›),‹_›,(by exact small (aS ‹_›)),‹_›,n1,(.app .val .val (by exact bp ‹_› (by decide))),mx,‹_›,‹_›,(.fobj f5),.none,(.eqS ‹_›),fin⟩
theorem vA (c1:call (.val (.ref 209)) [.int x,.int 1] [] [] (.list ds) []) (c2:call (.val (.ref 295)) [.str [97,108,108],.dict (ch [48])] [] [] (.ref 0) σ1) (hp:(!(x.fmod 2==0))=false) (u1:cY C1 σ1 (.ref 0) "tail" V.none σ2) (sm:ay σ2 (.builtin "sum") [.list ds] (.int m)) (b1:ah σ2 .Mult (.list [.int 0]) (.int m) (.list Z)) (hd:ds.length<1000) (hz:Z.length<1000) (hE:(ds++Z).length<1048576)
 (l1:Lp call 319 5 none (ds++Z) (fr 319 [some (.int x),some (.int kind),some (.list ds),some (.ref 0),some (.list [.ref 0]),some (.list [])]) σ2 .next (fr 319 [some (.int x),some (.int kind),some (.list ds),some (.ref 0),some (.list wl),some (.list ones),o1,o2]) σ3) (lo:LO (σ3++[.list []]) (.ref σ3.length) []) (c3:call (.val (.ref 246)) [.bm "list.append" (.ref σ3.length),.ref 0] [] (σ3++[.list []]) .none σ4) (m1:aF σ4 "str.join" (.str []) [.ref σ3.length] (.str pg) σ4) (i1:aE 5 kind=some j) (i2:([.val (.ref 260),.val (.ref 281),.val (.ref 267),.val (.ref 288),.val (.ref 274)]:List V)[j]? = some (.val (.ref esc)))
 (c4:call (.val (.ref esc)) [.str pg] [] σ4 (.str wr) σ4) (k4:(kind==4)=true) (k3:(kind==3)=false) (c5:call (.val (.ref 309)) [.list ds,.int ds.length] [] σ4 (.list HH) σ4) (s5:aW σ4 (.list HH) (some 1) none (.list HL)) (hv:(a0 HL ds).length<1048576) (p1:Cp call 38 (ex 319 10 []) none (a0 HL ds) (fr 319 [some (.int x),some (.int kind),some (.list ds),some (.ref 0),some (.list wl),some (.list ones),o1,o2,some (.ref σ3.length),some (.str wr),some (.tstr ([60]++[38,103,116,59]))]) σ4 DP σ4) (ho:ones.length<1048576) (p2:Cp call 37 (ex 319 11 [0]) none ones (fr 319 [some (.int x),some (.int kind),some (.list ds),some (.ref 0),some (.list wl),some (.list ones),o1,o2,some (.ref σ3.length),some (.str wr),some (.tstr ([60]++[38,103,116,59])),some (.list DP)]) σ4 TL σ4) (hq:DP.length<1000) (p3:Cp call 37 (ex 319 11 [1]) none DP (fr 319 [some (.int x),some (.int kind),some (.list ds),some (.ref 0),some (.list wl),some (.list ones),o1,o2,some (.ref σ3.length),some (.str wr),some (.tstr ([60]++[38,103,116,59])),some (.list DP)]) σ4 TR σ4) (n1:Cm σ4 .NotEq (.list TL) (.list TR) false)
 (mx:ay σ4 (.builtin "max") [.list (DP++[.int 0])] (.int mm)) (mb:mm.natAbs<4096) (hr:(range 0 mm).length<1048576) (l2:Lp call 319 13 none (range 0 mm) (fr 319 [some (.int x),some (.int kind),some (.list ds),some (.ref 0),some (.list wl),some (.list ones),o1,o2,some (.ref σ3.length),some (.str wr),some (.tstr ([60]++[38,103,116,59])),some (.list DP),some (.list [])]) σ4 .next (fr 319 [some (.int x),some (.int kind),some (.list ds),some (.ref 0),some (.list wl),some (.list ones),o1,o2,some (.ref σ3.length),some (.str wr2),some (.tstr ([60]++[38,103,116,59])),some (.list DP),some (.list CC),o3]) σ4) (f5:Fo σ4 (.ref 0) "tail" V.none) (ew:(wr2==[])=true) :
 ag C1 call (bJ 319).body (fr 319 [some (.int x),some (.int kind)]) [] (.list CC) σ4:=by
 refine aC [.vh (.list ds) [],.vh (.ref 0) σ1,.v (.int (Int.fmod x 2)),.b false,.h σ2,.v (.int m),.v (.list Z),.v (.list (ds++Z)),.st .next (fr 319 [some (.int x),some (.int kind),some (.list ds),some (.ref 0),some (.list wl),some (.list ones),o1,o2]) σ3,.l [],.vh .none σ4,.v (.val (.ref esc)),.meth "str.join",.vh (.str pg) σ4,.vh (.str wr) σ4,.b true,.b false,.v (.str ([60]++[38,103,116,59])),.v (.int ↑(List.length ds)),.vh (.list HH) σ4,.v (.list HL),.lh DP σ4,.lh TL σ4,.lh TR σ4,.b false,.v (.list (DP++[.int 0])),.v (.int mm),.st .next (fr 319 [some (.int x),some (.int kind),some (.list ds),some (.ref 0),some (.list wl),some (.list ones),o1,o2,some (.ref (List.length σ3)),some (.str wr2),some (.tstr ([60]++[38,103,116,59])),some (.list DP),some (.list CC),o3]) σ4,.fld .none,.b false,.b true] (q:=(call (.val (.ref 209)) [.int x,.int 1] [] [] (.list ds) [])∧(call (.val (.ref 295)) [.str [97,108,108],.dict (ch [48])] [] [] (.ref 0) σ1)∧(ah σ1 .Mod (.int x) (.int 2) (.int (Int.fmod x 2)))∧(Tr σ1 (.int (Int.fmod x 2)) false)∧(cY C1 σ1 (.ref 0) (Str.ofString "tail") .none σ2)∧(ay σ2 (.builtin "sum") [.list ds] (.int m))∧(ah σ2 .Mult (.list [.int 0]) (.int m) (.list Z))∧(ah σ2 .Add (.list ds) (.list Z) (.list (ds++Z)))∧(Lp call 319 5 none (ds++Z) (fr 319 [some (.int x),some (.int kind),some (.list ds),some (.ref 0),some (.list [.ref 0]),some (.list [])]) σ2 .next (fr 319 [some (.int x),some (.int kind),some (.list ds),some (.ref 0),some (.list wl),some (.list ones),o1,o2]) σ3)∧(LO (σ3++[aa.list []]) (.ref (List.length σ3)) [])∧(call (.val (.ref 246)) [.bm "list.append" (.ref (List.length σ3)),.ref 0] [] (σ3++[aa.list []]) .none σ4)∧(bx σ4 (.tuple [.val (.ref 260),.val (.ref 281),.val (.ref 267),.val (.ref 288),.val (.ref 274)]) (.int kind) (.val (.ref esc)))∧(dN σ4 (.str []) (Str.ofString "join") "str.join")∧(aF σ4 "str.join" (.str []) [.ref (List.length σ3)] (.str pg) σ4)∧(call (.val (.ref esc)) [.str pg] [] σ4 (.str wr) σ4)∧(Cm σ4 .Eq (.int kind) (.int 4) true)∧(Cm σ4 .Eq (.int kind) (.int 3) false)∧(ah σ4 .Add (.str [60]) (.str [38,103,116,59]) (.str ([60]++[38,103,116,59])))∧(ay σ4 (.builtin "len") [.list ds] (.int ↑(List.length ds)))∧(call (.val (.ref 309)) [.list ds,.int ↑(List.length ds)] [] σ4 (.list HH) σ4)∧(-(2:Int) ^ (62:Nat)<(1:Int)∧(1:Int)<(2:Int) ^ (62:Nat))∧(aW σ4 (.list HH) (some 1) none (.list HL))∧(au (It.items true none (a0 HL ds))=true)∧(Cp call 38 (ex 319 10 []) none (a0 HL ds) (fr 319 [some (.int x),some (.int kind),some (.list ds),some (.ref 0),some (.list wl),some (.list ones),o1,o2,some (.ref (List.length σ3)),some (.str wr),some (.tstr ([60]++[38,103,116,59]))]) σ4 DP σ4)∧(au (It.items false none ones)=true)∧(Cp call 37 (ex 319 11 [0]) none ones (fr 319 [some (.int x),some (.int kind),some (.list ds),some (.ref 0),some (.list wl),some (.list ones),o1,o2,some (.ref (List.length σ3)),some (.str wr),some (.tstr ([60]++[38,103,116,59])),some (.list DP)]) σ4 TL σ4)∧(au (It.items false none DP)=true)∧(Cp call 37 (ex 319 11 [1]) none DP (fr 319 [some (.int x),some (.int kind),some (.list ds),some (.ref 0),some (.list wl),some (.list ones),o1,o2,some (.ref (List.length σ3)),some (.str wr),some (.tstr ([60]++[38,103,116,59])),some (.list DP)]) σ4 TR σ4)∧(Cm σ4 .NotEq (.list TL) (.list TR) false)∧(ah σ4 .Add (.list DP) (.list [.int 0]) (.list (DP++[.int 0])))∧(ay σ4 (.builtin "max") [.list (DP++[.int 0])] (.int mm))∧(Int.natAbs mm<(4096:Nat))∧(Lp call 319 13 none (range 0 mm) (fr 319 [some (.int x),some (.int kind),some (.list ds),some (.ref 0),some (.list wl),some (.list ones),o1,o2,some (.ref (List.length σ3)),some (.str wr),some (.tstr ([60]++[38,103,116,59])),some (.list DP),some (.list [])]) σ4 .next (fr 319 [some (.int x),some (.int kind),some (.list ds),some (.ref 0),some (.list wl),some (.list ones),o1,o2,some (.ref (List.length σ3)),some (.str wr2),some (.tstr ([60]++[38,103,116,59])),some (.list DP),some (.list CC),o3]) σ4)∧(gB C1 σ4 (.ref 0) (Str.ofString "tail") .none)∧(Tr σ4 .none false)∧(Cm σ4 .Eq (.str wr2) (.str []) true)∧(cZ (.list CC) (.list CC) σ4 σ4)) (by kernel_rfl) ⟨‹_›,‹_›,(.mod (by decide)),(.int ‹_›),u1,sm,b1,(.app .val .val (by exact bp ‹_› ‹_›)),‹_›,lo,‹_›,(.tup ‹_› ‹_›),.join,m1,‹_›,(.eqI ‹_›),(.eqI ‹_›),(.cat (by exact Nat.le_of_ble_eq_true rfl)),(.lenL .val (by exact aS ‹_›)),‹_›,⟨(by exact Int.natCast_nonneg _),(by exact Int.natCast_nonneg _)⟩,s5,(by exact small ‹_›),‹_›,(by exact small ‹_›),‹_›,(by exact small (aS ‹_›)),‹_›,n1,(.app .val .val (by exact bp ‹_› (by decide))),mx,‹_›,‹_›,(.fobj f5),.none,(.eqS ‹_›),fin⟩
theorem vB (c1:call (.val (.ref 209)) [.int x,.int 1] [] [] (.list ds) []) (c2:call (.val (.ref 295)) [.str [97,108,108],.dict (ch [48])] [] [] (.ref 0) σ1) (hp:(!(x.fmod 2==0))=true) (u1:cY C1 σ1 (.ref 0) "tail" (V.str [46]) σ2) (sm:ay σ2 (.builtin "sum") [.list ds] (.int m)) (b1:ah σ2 .Mult (.list [.int 0]) (.int m) (.list Z)) (hd:ds.length<1000) (hz:Z.length<1000) (hE:(ds++Z).length<1048576)
 (l1:Lp call 319 5 none (ds++Z) (fr 319 [some (.int x),some (.int kind),some (.list ds),some (.ref 0),some (.list [.ref 0]),some (.list [])]) σ2 .next (fr 319 [some (.int x),some (.int kind),some (.list ds),some (.ref 0),some (.list wl),some (.list ones),o1,o2]) σ3) (lo:LO (σ3++[.list []]) (.ref σ3.length) []) (c3:call (.val (.ref 246)) [.bm "list.append" (.ref σ3.length),.ref 0] [] (σ3++[.list []]) .none σ4) (m1:aF σ4 "str.join" (.str []) [.ref σ3.length] (.str pg) σ4) (i1:aE 5 kind=some j) (i2:([.val (.ref 260),.val (.ref 281),.val (.ref 267),.val (.ref 288),.val (.ref 274)]:List V)[j]? = some (.val (.ref esc)))
 (c4:call (.val (.ref esc)) [.str pg] [] σ4 (.str wr) σ4) (k4:(kind==4)=false) (k3:(kind==3)=false) (c5:call (.val (.ref 309)) [.list ds,.int ds.length] [] σ4 (.list HH) σ4) (s5:aW σ4 (.list HH) (some 1) none (.list HL)) (hv:(a0 HL ds).length<1048576) (p1:Cp call 38 (ex 319 10 []) none (a0 HL ds) (fr 319 [some (.int x),some (.int kind),some (.list ds),some (.ref 0),some (.list wl),some (.list ones),o1,o2,some (.ref σ3.length),some (.str wr),some (.tstr ([38,108,116,59]++[38,103,116,59]))]) σ4 DP σ4) (ho:ones.length<1048576) (p2:Cp call 37 (ex 319 11 [0]) none ones (fr 319 [some (.int x),some (.int kind),some (.list ds),some (.ref 0),some (.list wl),some (.list ones),o1,o2,some (.ref σ3.length),some (.str wr),some (.tstr ([38,108,116,59]++[38,103,116,59])),some (.list DP)]) σ4 TL σ4) (hq:DP.length<1000) (p3:Cp call 37 (ex 319 11 [1]) none DP (fr 319 [some (.int x),some (.int kind),some (.list ds),some (.ref 0),some (.list wl),some (.list ones),o1,o2,some (.ref σ3.length),some (.str wr),some (.tstr ([38,108,116,59]++[38,103,116,59])),some (.list DP)]) σ4 TR σ4) (n1:Cm σ4 .NotEq (.list TL) (.list TR) false)
 (mx:ay σ4 (.builtin "max") [.list (DP++[.int 0])] (.int mm)) (mb:mm.natAbs<4096) (hr:(range 0 mm).length<1048576) (l2:Lp call 319 13 none (range 0 mm) (fr 319 [some (.int x),some (.int kind),some (.list ds),some (.ref 0),some (.list wl),some (.list ones),o1,o2,some (.ref σ3.length),some (.str wr),some (.tstr ([38,108,116,59]++[38,103,116,59])),some (.list DP),some (.list [])]) σ4 .next (fr 319 [some (.int x),some (.int kind),some (.list ds),some (.ref 0),some (.list wl),some (.list ones),o1,o2,some (.ref σ3.length),some (.str wr2),some (.tstr ([38,108,116,59]++[38,103,116,59])),some (.list DP),some (.list CC),o3]) σ4) (f5:Fo σ4 (.ref 0) "tail" (V.str [46])) (ew:(wr2==[46])=true) :
 ag C1 call (bJ 319).body (fr 319 [some (.int x),some (.int kind)]) [] (.list CC) σ4:=by
 refine aC [.vh (.list ds) [],.vh (.ref 0) σ1,.v (.int (Int.fmod x 2)),.b true,.h σ2,.v (.int m),.v (.list Z),.v (.list (ds++Z)),.st .next (fr 319 [some (.int x),some (.int kind),some (.list ds),some (.ref 0),some (.list wl),some (.list ones),o1,o2]) σ3,.l [],.vh .none σ4,.v (.val (.ref esc)),.meth "str.join",.vh (.str pg) σ4,.vh (.str wr) σ4,.b false,.b false,.v (.str ([38,108,116,59]++[38,103,116,59])),.v (.int ↑(List.length ds)),.vh (.list HH) σ4,.v (.list HL),.lh DP σ4,.lh TL σ4,.lh TR σ4,.b false,.v (.list (DP++[.int 0])),.v (.int mm),.st .next (fr 319 [some (.int x),some (.int kind),some (.list ds),some (.ref 0),some (.list wl),some (.list ones),o1,o2,some (.ref (List.length σ3)),some (.str wr2),some (.tstr ([38,108,116,59]++[38,103,116,59])),some (.list DP),some (.list CC),o3]) σ4,.fld (.str [46]),.b true,.b true] (q:=(call (.val (.ref 209)) [.int x,.int 1] [] [] (.list ds) [])∧(call (.val (.ref 295)) [.str [97,108,108],.dict (ch [48])] [] [] (.ref 0) σ1)∧(ah σ1 .Mod (.int x) (.int 2) (.int (Int.fmod x 2)))∧(Tr σ1 (.int (Int.fmod x 2)) true)∧(cY C1 σ1 (.ref 0) (Str.ofString "tail") (.str [46]) σ2)∧(ay σ2 (.builtin "sum") [.list ds] (.int m))∧(ah σ2 .Mult (.list [.int 0]) (.int m) (.list Z))∧(ah σ2 .Add (.list ds) (.list Z) (.list (ds++Z)))∧(Lp call 319 5 none (ds++Z) (fr 319 [some (.int x),some (.int kind),some (.list ds),some (.ref 0),some (.list [.ref 0]),some (.list [])]) σ2 .next (fr 319 [some (.int x),some (.int kind),some (.list ds),some (.ref 0),some (.list wl),some (.list ones),o1,o2]) σ3)∧(LO (σ3++[aa.list []]) (.ref (List.length σ3)) [])∧(call (.val (.ref 246)) [.bm "list.append" (.ref (List.length σ3)),.ref 0] [] (σ3++[aa.list []]) .none σ4)∧(bx σ4 (.tuple [.val (.ref 260),.val (.ref 281),.val (.ref 267),.val (.ref 288),.val (.ref 274)]) (.int kind) (.val (.ref esc)))∧(dN σ4 (.str []) (Str.ofString "join") "str.join")∧(aF σ4 "str.join" (.str []) [.ref (List.length σ3)] (.str pg) σ4)∧(call (.val (.ref esc)) [.str pg] [] σ4 (.str wr) σ4)∧(Cm σ4 .Eq (.int kind) (.int 4) false)∧(Cm σ4 .Eq (.int kind) (.int 3) false)∧(ah σ4 .Add (.str [38,108,116,59]) (.str [38,103,116,59]) (.str ([38,108,116,59]++[38,103,116,59])))∧(ay σ4 (.builtin "len") [.list ds] (.int ↑(List.length ds)))∧(call (.val (.ref 309)) [.list ds,.int ↑(List.length ds)] [] σ4 (.list HH) σ4)∧(-(2:Int) ^ (62:Nat)<(1:Int)∧(1:Int)<(2:Int) ^ (62:Nat))∧(aW σ4 (.list HH) (some 1) none (.list HL))∧(au (It.items true none (a0 HL ds))=true)∧(Cp call 38 (ex 319 10 []) none (a0 HL ds) (fr 319 [some (.int x),some (.int kind),some (.list ds),some (.ref 0),some (.list wl),some (.list ones),o1,o2,some (.ref (List.length σ3)),some (.str wr),some (.tstr ([38,108,116,59]++[38,103,116,59]))]) σ4 DP σ4)∧(au (It.items false none ones)=true)∧(Cp call 37 (ex 319 11 [0]) none ones (fr 319 [some (.int x),some (.int kind),some (.list ds),some (.ref 0),some (.list wl),some (.list ones),o1,o2,some (.ref (List.length σ3)),some (.str wr),some (.tstr ([38,108,116,59]++[38,103,116,59])),some (.list DP)]) σ4 TL σ4)∧(au (It.items false none DP)=true)∧(Cp call 37 (ex 319 11 [1]) none DP (fr 319 [some (.int x),some (.int kind),some (.list ds),some (.ref 0),some (.list wl),some (.list ones),o1,o2,some (.ref (List.length σ3)),some (.str wr),some (.tstr ([38,108,116,59]++[38,103,116,59])),some (.list DP)]) σ4 TR σ4)∧(Cm σ4 .NotEq (.list TL) (.list TR) false)∧(ah σ4 .Add (.list DP) (.list [.int 0]) (.list (DP++[.int 0])))∧(ay σ4 (.builtin "max") [.list (DP++[.int 0])] (.int mm))∧(Int.natAbs mm<(4096:Nat))∧(Lp call 319 13 none (range 0 mm) (fr 319 [some (.int x),some (.int kind),some (.list ds),some (.ref 0),some (.list wl),some (.list ones),o1,o2,some (.ref (List.length σ3)),some (.str wr),some (.tstr ([38,108,116,59]++[38,103,116,59])),some (.list DP),some (.list [])]) σ4 .next (fr 319 [some (.int x),some (.int kind),some (.list ds),some (.ref 0),some (.list wl),some (.list ones),o1,o2,some (.ref (List.length σ3)),some (.str wr2),some (.tstr ([38,108,116,59]++[38,103,116,59])),some (.list DP),some (.list CC),o3]) σ4)∧(gB C1 σ4 (.ref 0) (Str.ofString "tail") (.str [46]))∧(Tr σ4 (.str [46]) true)∧(Cm σ4 .Eq (.str wr2) (.str [46]) true)∧(cZ (.list CC) (.list CC) σ4 σ4)) (by kernel_rfl) ⟨‹_›,‹_›,(.mod (by decide)),(.int ‹_›),u1,sm,b1,(.app .val .val (by exact bp ‹_› ‹_›)),‹_›,lo,‹_›,(.tup ‹_› ‹_›),.join,m1,‹_›,(.eqI ‹_›),(.eqI ‹_›),(.cat (by exact Nat.le_of_ble_eq_true rfl)),(.lenL .val (by exact aS ‹_›)),‹_›,⟨(by exact Int.natCast_nonneg _),(by exact Int.natCast_nonneg _)⟩,s5,(by exact small ‹_›),‹_›,(by exact small ‹_›),‹_›,(by exact small (aS ‹_›)),‹_›,n1,(.app .val .val (by exact bp ‹_› (by decide))),mx,‹_›,‹_›,(.fobj f5),(.str (by exact Nat.le_of_ble_eq_true rfl) rfl),(.eqS ‹_›),fin⟩
theorem vC (c1:call (.val (.ref 209)) [.int x,.int 1] [] [] (.list ds) []) (c2:call (.val (.ref 295)) [.str [97,108,108],.dict (ch [48])] [] [] (.ref 0) σ1) (hp:(!(x.fmod 2==0))=true) (u1:cY C1 σ1 (.ref 0) "tail" (V.str [46]) σ2) (sm:ay σ2 (.builtin "sum") [.list ds] (.int m)) (b1:ah σ2 .Mult (.list [.int 0]) (.int m) (.list Z)) (hd:ds.length<1000) (hz:Z.length<1000) (hE:(ds++Z).length<1048576)
 (l1:Lp call 319 5 none (ds++Z) (fr 319 [some (.int x),some (.int kind),some (.list ds),some (.ref 0),some (.list [.ref 0]),some (.list [])]) σ2 .next (fr 319 [some (.int x),some (.int kind),some (.list ds),some (.ref 0),some (.list wl),some (.list ones),o1,o2]) σ3) (lo:LO (σ3++[.list []]) (.ref σ3.length) []) (c3:call (.val (.ref 246)) [.bm "list.append" (.ref σ3.length),.ref 0] [] (σ3++[.list []]) .none σ4) (m1:aF σ4 "str.join" (.str []) [.ref σ3.length] (.str pg) σ4) (i1:aE 5 kind=some j) (i2:([.val (.ref 260),.val (.ref 281),.val (.ref 267),.val (.ref 288),.val (.ref 274)]:List V)[j]? = some (.val (.ref esc)))
 (c4:call (.val (.ref esc)) [.str pg] [] σ4 (.str wr) σ4) (k4:(kind==4)=false) (k3:(kind==3)=true) (c5:call (.val (.ref 309)) [.list ds,.int ds.length] [] σ4 (.list HH) σ4) (s5:aW σ4 (.list HH) (some 1) none (.list HL)) (hv:(a0 HL ds).length<1048576) (p1:Cp call 38 (ex 319 10 []) none (a0 HL ds) (fr 319 [some (.int x),some (.int kind),some (.list ds),some (.ref 0),some (.list wl),some (.list ones),o1,o2,some (.ref σ3.length),some (.str wr),some (.tstr ([38,108,116,59]++[62]))]) σ4 DP σ4) (ho:ones.length<1048576) (p2:Cp call 37 (ex 319 11 [0]) none ones (fr 319 [some (.int x),some (.int kind),some (.list ds),some (.ref 0),some (.list wl),some (.list ones),o1,o2,some (.ref σ3.length),some (.str wr),some (.tstr ([38,108,116,59]++[62])),some (.list DP)]) σ4 TL σ4) (hq:DP.length<1000) (p3:Cp call 37 (ex 319 11 [1]) none DP (fr 319 [some (.int x),some (.int kind),some (.list ds),some (.ref 0),some (.list wl),some (.list ones),o1,o2,some (.ref σ3.length),some (.str wr),some (.tstr ([38,108,116,59]++[62])),some (.list DP)]) σ4 TR σ4) (n1:Cm σ4 .NotEq (.list TL) (.list TR) false)
 (mx:ay σ4 (.builtin "max") [.list (DP++[.int 0])] (.int mm)) (mb:mm.natAbs<4096) (hr:(range 0 mm).length<1048576) (l2:Lp call 319 13 none (range 0 mm) (fr 319 [some (.int x),some (.int kind),some (.list ds),some (.ref 0),some (.list wl),some (.list ones),o1,o2,some (.ref σ3.length),some (.str wr),some (.tstr ([38,108,116,59]++[62])),some (.list DP),some (.list [])]) σ4 .next (fr 319 [some (.int x),some (.int kind),some (.list ds),some (.ref 0),some (.list wl),some (.list ones),o1,o2,some (.ref σ3.length),some (.str wr2),some (.tstr ([38,108,116,59]++[62])),some (.list DP),some (.list CC),o3]) σ4) (f5:Fo σ4 (.ref 0) "tail" (V.str [46])) (ew:(wr2==[46])=true) :
 ag C1 call (bJ 319).body (fr 319 [some (.int x),some (.int kind)]) [] (.list CC) σ4:=by
 refine aC [.vh (.list ds) [],.vh (.ref 0) σ1,.v (.int (Int.fmod x 2)),.b true,.h σ2,.v (.int m),.v (.list Z),.v (.list (ds++Z)),.st .next (fr 319 [some (.int x),some (.int kind),some (.list ds),some (.ref 0),some (.list wl),some (.list ones),o1,o2]) σ3,.l [],.vh .none σ4,.v (.val (.ref esc)),.meth "str.join",.vh (.str pg) σ4,.vh (.str wr) σ4,.b false,.b true,.v (.str ([38,108,116,59]++[62])),.v (.int ↑(List.length ds)),.vh (.list HH) σ4,.v (.list HL),.lh DP σ4,.lh TL σ4,.lh TR σ4,.b false,.v (.list (DP++[.int 0])),.v (.int mm),.st .next (fr 319 [some (.int x),some (.int kind),some (.list ds),some (.ref 0),some (.list wl),some (.list ones),o1,o2,some (.ref (List.length σ3)),some (.str wr2),some (.tstr ([38,108,116,59]++[62])),some (.list DP),some (.list CC),o3]) σ4,.fld (.str [46]),.b true,.b true] (q:=(call (.val (.ref 209)) [.int x,.int 1] [] [] (.list ds) [])∧(call (.val (.ref 295)) [.str [97,108,108],.dict (ch [48])] [] [] (.ref 0) σ1)∧(ah σ1 .Mod (.int x) (.int 2) (.int (Int.fmod x 2)))∧(Tr σ1 (.int (Int.fmod x 2)) true)∧(cY C1 σ1 (.ref 0) (Str.ofString "tail") (.str [46]) σ2)∧(ay σ2 (.builtin "sum") [.list ds] (.int m))∧(ah σ2 .Mult (.list [.int 0]) (.int m) (.list Z))∧(ah σ2 .Add (.list ds) (.list Z) (.list (ds++Z)))∧(Lp call 319 5 none (ds++Z) (fr 319 [some (.int x),some (.int kind),some (.list ds),some (.ref 0),some (.list [.ref 0]),some (.list [])]) σ2 .next (fr 319 [some (.int x),some (.int kind),some (.list ds),some (.ref 0),some (.list wl),some (.list ones),o1,o2]) σ3)∧(LO (σ3++[aa.list []]) (.ref (List.length σ3)) [])∧(call (.val (.ref 246)) [.bm "list.append" (.ref (List.length σ3)),.ref 0] [] (σ3++[aa.list []]) .none σ4)∧(bx σ4 (.tuple [.val (.ref 260),.val (.ref 281),.val (.ref 267),.val (.ref 288),.val (.ref 274)]) (.int kind) (.val (.ref esc)))∧(dN σ4 (.str []) (Str.ofString "join") "str.join")∧(aF σ4 "str.join" (.str []) [.ref (List.length σ3)] (.str pg) σ4)∧(call (.val (.ref esc)) [.str pg] [] σ4 (.str wr) σ4)∧(Cm σ4 .Eq (.int kind) (.int 4) false)∧(Cm σ4 .Eq (.int kind) (.int 3) true)∧(ah σ4 .Add (.str [38,108,116,59]) (.str [62]) (.str ([38,108,116,59]++[62])))∧(ay σ4 (.builtin "len") [.list ds] (.int ↑(List.length ds)))∧(call (.val (.ref 309)) [.list ds,.int ↑(List.length ds)] [] σ4 (.list HH) σ4)∧(-(2:Int) ^ (62:Nat)<(1:Int)∧(1:Int)<(2:Int) ^ (62:Nat))∧(aW σ4 (.list HH) (some 1) none (.list HL))∧(au (It.items true none (a0 HL ds))=true)∧(Cp call 38 (ex 319 10 []) none (a0 HL ds) (fr 319 [some (.int x),some (.int kind),some (.list ds),some (.ref 0),some (.list wl),some (.list ones),o1,o2,some (.ref (List.length σ3)),some (.str wr),some (.tstr ([38,108,116,59]++[62]))]) σ4 DP σ4)∧(au (It.items false none ones)=true)∧(Cp call 37 (ex 319 11 [0]) none ones (fr 319 [some (.int x),some (.int kind),some (.list ds),some (.ref 0),some (.list wl),some (.list ones),o1,o2,some (.ref (List.length σ3)),some (.str wr),some (.tstr ([38,108,116,59]++[62])),some (.list DP)]) σ4 TL σ4)∧(au (It.items false none DP)=true)∧(Cp call 37 (ex 319 11 [1]) none DP (fr 319 [some (.int x),some (.int kind),some (.list ds),some (.ref 0),some (.list wl),some (.list ones),o1,o2,some (.ref (List.length σ3)),some (.str wr),some (.tstr ([38,108,116,59]++[62])),some (.list DP)]) σ4 TR σ4)∧(Cm σ4 .NotEq (.list TL) (.list TR) false)∧(ah σ4 .Add (.list DP) (.list [.int 0]) (.list (DP++[.int 0])))∧(ay σ4 (.builtin "max") [.list (DP++[.int 0])] (.int mm))∧(Int.natAbs mm<(4096:Nat))∧(Lp call 319 13 none (range 0 mm) (fr 319 [some (.int x),some (.int kind),some (.list ds),some (.ref 0),some (.list wl),some (.list ones),o1,o2,some (.ref (List.length σ3)),some (.str wr),some (.tstr ([38,108,116,59]++[62])),some (.list DP),some (.list [])]) σ4 .next (fr 319 [some (.int x),some (.int kind),some (.list ds),some (.ref 0),some (.list wl),some (.list ones),o1,o2,some (.ref (List.length σ3)),some (.str wr2),some (.tstr ([38,108,116,59]++[62])),some (.list DP),some (.list CC),o3]) σ4)∧(gB C1 σ4 (.ref 0) (Str.ofString "tail") (.str [46]))∧(Tr σ4 (.str [46]) true)∧(Cm σ4 .Eq (.str wr2) (.str [46]) true)∧(cZ (.list CC) (.list CC) σ4 σ4)) (by kernel_rfl) ⟨‹_›,‹_›,(.mod (by decide)),(.int ‹_›),u1,sm,b1,(.app .val .val (by exact bp ‹_› ‹_›)),‹_›,lo,‹_›,(.tup ‹_› ‹_›),.join,m1,‹_›,(.eqI ‹_›),(.eqI ‹_›),(.cat (by exact Nat.le_of_ble_eq_true rfl)),(.lenL .val (by exact aS ‹_›)),‹_›,⟨(by exact Int.natCast_nonneg _),(by exact Int.natCast_nonneg _)⟩,s5,(by exact small ‹_›),‹_›,(by exact small ‹_›),‹_›,(by exact small (aS ‹_›)),‹_›,n1,(.app .val .val (by exact bp ‹_› (by decide))),mx,‹_›,‹_›,(.fobj f5),(.str (by exact Nat.le_of_ble_eq_true rfl) rfl),(.eqS ‹_›),fin⟩
theorem vD (c1:call (.val (.ref 209)) [.int x,.int 1] [] [] (.list ds) []) (c2:call (.val (.ref 295)) [.str [97,108,108],.dict (ch [48])] [] [] (.ref 0) σ1) (hp:(!(x.fmod 2==0))=true) (u1:cY C1 σ1 (.ref 0) "tail" (V.str [46]) σ2) (sm:ay σ2 (.builtin "sum") [.list ds] (.int m)) (b1:ah σ2 .Mult (.list [.int 0]) (.int m) (.list Z)) (hd:ds.length<1000) (hz:Z.length<1000) (hE:(ds++Z).length<1048576)
 (l1:Lp call 319 5 none (ds++Z) (fr 319 [some (.int x),some (.int kind),some (.list ds),some (.ref 0),some (.list [.ref 0]),some (.list [])]) σ2 .next (fr 319 [some (.int x),some (.int kind),some (.list ds),some (.ref 0),some (.list wl),some (.list ones),o1,o2]) σ3) (lo:LO (σ3++[.list []]) (.ref σ3.length) []) (c3:call (.val (.ref 246)) [.bm "list.append" (.ref σ3.length),.ref 0] [] (σ3++[.list []]) .none σ4) (m1:aF σ4 "str.join" (.str []) [.ref σ3.length] (.str pg) σ4) (i1:aE 5 kind=some j) (i2:([.val (.ref 260),.val (.ref 281),.val (.ref 267),.val (.ref 288),.val (.ref 274)]:List V)[j]? = some (.val (.ref esc)))
 (c4:call (.val (.ref esc)) [.str pg] [] σ4 (.str wr) σ4) (k4:(kind==4)=true) (k3:(kind==3)=false) (c5:call (.val (.ref 309)) [.list ds,.int ds.length] [] σ4 (.list HH) σ4) (s5:aW σ4 (.list HH) (some 1) none (.list HL)) (hv:(a0 HL ds).length<1048576) (p1:Cp call 38 (ex 319 10 []) none (a0 HL ds) (fr 319 [some (.int x),some (.int kind),some (.list ds),some (.ref 0),some (.list wl),some (.list ones),o1,o2,some (.ref σ3.length),some (.str wr),some (.tstr ([60]++[38,103,116,59]))]) σ4 DP σ4) (ho:ones.length<1048576) (p2:Cp call 37 (ex 319 11 [0]) none ones (fr 319 [some (.int x),some (.int kind),some (.list ds),some (.ref 0),some (.list wl),some (.list ones),o1,o2,some (.ref σ3.length),some (.str wr),some (.tstr ([60]++[38,103,116,59])),some (.list DP)]) σ4 TL σ4) (hq:DP.length<1000) (p3:Cp call 37 (ex 319 11 [1]) none DP (fr 319 [some (.int x),some (.int kind),some (.list ds),some (.ref 0),some (.list wl),some (.list ones),o1,o2,some (.ref σ3.length),some (.str wr),some (.tstr ([60]++[38,103,116,59])),some (.list DP)]) σ4 TR σ4) (n1:Cm σ4 .NotEq (.list TL) (.list TR) false)
 (mx:ay σ4 (.builtin "max") [.list (DP++[.int 0])] (.int mm)) (mb:mm.natAbs<4096) (hr:(range 0 mm).length<1048576) (l2:Lp call 319 13 none (range 0 mm) (fr 319 [some (.int x),some (.int kind),some (.list ds),some (.ref 0),some (.list wl),some (.list ones),o1,o2,some (.ref σ3.length),some (.str wr),some (.tstr ([60]++[38,103,116,59])),some (.list DP),some (.list [])]) σ4 .next (fr 319 [some (.int x),some (.int kind),some (.list ds),some (.ref 0),some (.list wl),some (.list ones),o1,o2,some (.ref σ3.length),some (.str wr2),some (.tstr ([60]++[38,103,116,59])),some (.list DP),some (.list CC),o3]) σ4) (f5:Fo σ4 (.ref 0) "tail" (V.str [46])) (ew:(wr2==[46])=true) :
 ag C1 call (bJ 319).body (fr 319 [some (.int x),some (.int kind)]) [] (.list CC) σ4:=by
 refine aC [.vh (.list ds) [],.vh (.ref 0) σ1,.v (.int (Int.fmod x 2)),.b true,.h σ2,.v (.int m),.v (.list Z),.v (.list (ds++Z)),.st .next (fr 319 [some (.int x),some (.int kind),some (.list ds),some (.ref 0),some (.list wl),some (.list ones),o1,o2]) σ3,.l [],.vh .none σ4,.v (.val (.ref esc)),.meth "str.join",.vh (.str pg) σ4,.vh (.str wr) σ4,.b true,.b false,.v (.str ([60]++[38,103,116,59])),.v (.int ↑(List.length ds)),.vh (.list HH) σ4,.v (.list HL),.lh DP σ4,.lh TL σ4,.lh TR σ4,.b false,.v (.list (DP++[.int 0])),.v (.int mm),.st .next (fr 319 [some (.int x),some (.int kind),some (.list ds),some (.ref 0),some (.list wl),some (.list ones),o1,o2,some (.ref (List.length σ3)),some (.str wr2),some (.tstr ([60]++[38,103,116,59])),some (.list DP),some (.list CC),o3]) σ4,.fld (.str [46]),.b true,.b true] (q:=(call (.val (.ref 209)) [.int x,.int 1] [] [] (.list ds) [])∧(call (.val (.ref 295)) [.str [97,108,108],.dict (ch [48])] [] [] (.ref 0) σ1)∧(ah σ1 .Mod (.int x) (.int 2) (.int (Int.fmod x 2)))∧(Tr σ1 (.int (Int.fmod x 2)) true)∧(cY C1 σ1 (.ref 0) (Str.ofString "tail") (.str [46]) σ2)∧(ay σ2 (.builtin "sum") [.list ds] (.int m))∧(ah σ2 .Mult (.list [.int 0]) (.int m) (.list Z))∧(ah σ2 .Add (.list ds) (.list Z) (.list (ds++Z)))∧(Lp call 319 5 none (ds++Z) (fr 319 [some (.int x),some (.int kind),some (.list ds),some (.ref 0),some (.list [.ref 0]),some (.list [])]) σ2 .next (fr 319 [some (.int x),some (.int kind),some (.list ds),some (.ref 0),some (.list wl),some (.list ones),o1,o2]) σ3)∧(LO (σ3++[aa.list []]) (.ref (List.length σ3)) [])∧(call (.val (.ref 246)) [.bm "list.append" (.ref (List.length σ3)),.ref 0] [] (σ3++[aa.list []]) .none σ4)∧(bx σ4 (.tuple [.val (.ref 260),.val (.ref 281),.val (.ref 267),.val (.ref 288),.val (.ref 274)]) (.int kind) (.val (.ref esc)))∧(dN σ4 (.str []) (Str.ofString "join") "str.join")∧(aF σ4 "str.join" (.str []) [.ref (List.length σ3)] (.str pg) σ4)∧(call (.val (.ref esc)) [.str pg] [] σ4 (.str wr) σ4)∧(Cm σ4 .Eq (.int kind) (.int 4) true)∧(Cm σ4 .Eq (.int kind) (.int 3) false)∧(ah σ4 .Add (.str [60]) (.str [38,103,116,59]) (.str ([60]++[38,103,116,59])))∧(ay σ4 (.builtin "len") [.list ds] (.int ↑(List.length ds)))∧(call (.val (.ref 309)) [.list ds,.int ↑(List.length ds)] [] σ4 (.list HH) σ4)∧(-(2:Int) ^ (62:Nat)<(1:Int)∧(1:Int)<(2:Int) ^ (62:Nat))∧(aW σ4 (.list HH) (some 1) none (.list HL))∧(au (It.items true none (a0 HL ds))=true)∧(Cp call 38 (ex 319 10 []) none (a0 HL ds) (fr 319 [some (.int x),some (.int kind),some (.list ds),some (.ref 0),some (.list wl),some (.list ones),o1,o2,some (.ref (List.length σ3)),some (.str wr),some (.tstr ([60]++[38,103,116,59]))]) σ4 DP σ4)∧(au (It.items false none ones)=true)∧(Cp call 37 (ex 319 11 [0]) none ones (fr 319 [some (.int x),some (.int kind),some (.list ds),some (.ref 0),some (.list wl),some (.list ones),o1,o2,some (.ref (List.length σ3)),some (.str wr),some (.tstr ([60]++[38,103,116,59])),some (.list DP)]) σ4 TL σ4)∧(au (It.items false none DP)=true)∧(Cp call 37 (ex 319 11 [1]) none DP (fr 319 [some (.int x),some (.int kind),some (.list ds),some (.ref 0),some (.list wl),some (.list ones),o1,o2,some (.ref (List.length σ3)),some (.str wr),some (.tstr ([60]++[38,103,116,59])),some (.list DP)]) σ4 TR σ4)∧(Cm σ4 .NotEq (.list TL) (.list TR) false)∧(ah σ4 .Add (.list DP) (.list [.int 0]) (.list (DP++[.int 0])))∧(ay σ4 (.builtin "max") [.list (DP++[.int 0])] (.int mm))∧(Int.natAbs mm<(4096:Nat))∧(Lp call 319 13 none (range 0 mm) (fr 319 [some (.int x),some (.int kind),some (.list ds),some (.ref 0),some (.list wl),some (.list ones),o1,o2,some (.ref (List.length σ3)),some (.str wr),some (.tstr ([60]++[38,103,116,59])),some (.list DP),some (.list [])]) σ4 .next (fr 319 [some (.int x),some (.int kind),some (.list ds),some (.ref 0),some (.list wl),some (.list ones),o1,o2,some (.ref (List.length σ3)),some (.str wr2),some (.tstr ([60]++[38,103,116,59])),some (.list DP),some (.list CC),o3]) σ4)∧(gB C1 σ4 (.ref 0) (Str.ofString "tail") (.str [46]))∧(Tr σ4 (.str [46]) true)∧(Cm σ4 .Eq (.str wr2) (.str [46]) true)∧(cZ (.list CC) (.list CC) σ4 σ4)) (by kernel_rfl) ⟨‹_›,‹_›,(.mod (by decide)),(.int ‹_›),u1,sm,b1,(.app .val .val (by exact bp ‹_› ‹_›)),‹_›,lo,‹_›,(.tup ‹_› ‹_›),.join,m1,‹_›,(.eqI ‹_›),(.eqI ‹_›),(.cat (by exact Nat.le_of_ble_eq_true rfl)),(.lenL .val (by exact aS ‹_›)),‹_›,⟨(by exact Int.natCast_nonneg _),(by exact Int.natCast_nonneg _)⟩,s5,(by exact small ‹_›),‹_›,(by exact small ‹_›),‹_›,(by exact small (aS ‹_›)),‹_›,n1,(.app .val .val (by exact bp ‹_› (by decide))),mx,‹_›,‹_›,(.fobj f5),(.str (by exact Nat.le_of_ble_eq_true rfl) rfl),(.eqS ‹_›),fin⟩
end
end Mini
set_option maxRecDepth 100000
set_option autoImplicit false
set_option exponentiation.threshold 5000
namespace Mini
open PySem
theorem As {call:ad}{ρ:P}{q:Option V}{h:Int}{σ:H}(hh:h.natAbs<2 ^ 1000):Tc call 37 (ex 319 11 [1]) (.int h) (cf (ex 319 11 [1]) ρ [none,q]) σ (some (.tuple [.str [101],.dict (ch (ae h))])) (cf (ex 319 11 [1]) ρ [none,some (.int h)]):=by
 refine dW [.v (.str (ae h))] (q:=fun K=>(ay σ (.type "str") [.int h] (.str (ae h)))∧(K (some (.tuple [.str [101],.dict (ch (ae h))])) (cf (ex 319 11 [1]) ρ [none,some (.int h)]) σ)) (fun K=>by kernel_rfl) fun K hK=>⟨(.str ‹_›),hK⟩
structure El where
 dp:Nat
 kids:List Nat
noncomputable def ye:Nat→List Nat
 |0=>[97,108,108]
 |_+1=>[101]
noncomputable def vE:Nat→V
 |0=>.dict (ch [48])
 |m+1=>.ref (4*m+3)
noncomputable def Bf:Nat→List Nat
 |0=>[]
 |_+1=>[60]
noncomputable def Bg (tl:V):Nat→V
 |0=>tl
 |_+1=>.str [62]
noncomputable def rf (m:Nat):V:=.ref (4*m)
structure rq (tl:V) (B:H) (m:Nat) (e:El):Prop where
 fo:B[4*m]? = some (.fobj (some (4*m+1)))
 di:B[4*m+1]? = some (.dict (dP (4*m) (ye m) (vE m) (Bf m) (Bg tl m)))
 li:B[4*m+2]? = some (.list (e.kids.map rf))
 a:∀k,m=k+1→B[4*k+3]? = some (.dict (ch (ae (e.dp:Nat))))
structure HB (tl:V) (els:List El) (B:H):Prop where
 b:∀m e,els[m]? = some e→rq tl B m e
 len:B.length+1=4*els.length
theorem fB {B l:H}{i j:Nat}{v:aa}(h:j<B.length) (hn:i≠j):((B.set i v)++l)[j]? = B[j]?:=by
 rw [List.getElem?_append_left (by rw [List.length_set]; exact h),List.getElem?_set_ne hn]
theorem zE {α:Type}{l m:List α}{n k:Nat}(h:l.length=n):(l++m)[n+k]? = m[k]?:=by subst h; exact ga
theorem HB.lt {tl:V}{els:List El}{B:H}(X:HB tl els B) {m:Nat}(h:m<els.length):4*m+3≤B.length:=by
 have:=X.len;exact Nat.le_of_succ_le_succ (Nat.le_trans (Nat.mul_le_mul_left 4 h) (Nat.le_of_eq this.symm))
theorem Bh {a b i j:Nat}(hi:i<4) (hj:j<4) (h:i≠j):4*a+i≠4*b+j:=fun e=>h (by
 have:=congrArg (· % 4) e;show i=j;rw [←Nat.mod_eq_of_lt hi,←Nat.mod_eq_of_lt hj,←Nat.mul_add_mod 4 a i,←Nat.mul_add_mod 4 b j];exact this)
noncomputable def nb (k:Nat) (T:H) (A D:List (List Nat×V)):H:=T++[.dict A,.fobj (some (k+2)),.dict D,.list []]
noncomputable def dZ (els:List El) (top dp:Nat):List El:=(els.modify top fun e=>⟨e.dp,e.kids++[els.length]⟩)++[⟨dp,[]⟩]
theorem pP {els:List El}{top p m:Nat}{e e':El}(ht:els[top]? = some e) (h:(dZ els top p)[m]? = some e'):(m<els.length∧((m=top∧e'=⟨e.dp,e.kids++[els.length]⟩)∨(m≠top∧els[m]? = some e')))∨(m=els.length∧e'=⟨p,[]⟩):=by
 unfold dZ at h
 by_cases hm:m<els.length
 ·refine .inl ⟨hm,?_⟩;rw [List.getElem?_append_left (by rw [List.length_modify]; exact hm),List.getElem?_modify] at h
  by_cases q:top=m
  ·subst q;rw [ht] at h;have h:(if top=top then (⟨e.dp,e.kids++[els.length]⟩:El) else e)=e':=Option.some.inj h
   rw [if_pos rfl] at h;exact .inl ⟨rfl,h.symm⟩
  ·refine .inr ⟨fun e=>q e.symm,?_⟩
   cases h2:els[m]? with
   |none=>rw [h2] at h; cases h
   |some e1=>
    rw [h2] at h;have h:(if top=m then (⟨e1.dp,e1.kids++[els.length]⟩:El) else e1)=e':=Option.some.inj h
    rw [if_neg q] at h;exact congrArg some h
 ·rw [List.getElem?_append_right (by rw [List.length_modify]; exact Nat.not_lt.mp hm),List.length_modify] at h
  have h2:m - els.length=0:=Nat.lt_one_iff.mp (List.getElem?_eq_some_iff.mp h).1;rw [h2] at h;exact .inr ⟨Nat.le_antisymm (Nat.sub_eq_zero_iff_le.mp h2) (Nat.not_lt.mp hm),(Option.some.inj h).symm⟩
theorem ir {els:List El}{top p:Nat}:(dZ els top p).length=els.length+1:=by
 unfold dZ;rw [List.length_append,List.length_modify]; rfl
theorem sC {els:List El}{top p:Nat}{e:El}(h:els[top]? = some e):(dZ els top p)[top]? = some ⟨e.dp,e.kids++[els.length]⟩:=by
 unfold dZ;rw [List.getElem?_append_left (by rw [List.length_modify]; exact (List.getElem?_eq_some_iff.mp h).1),List.getElem?_modify,h]
 show some (if top=top then _ else _)=_
 rw [if_pos rfl]
theorem pQ {els:List El}{top p i:Nat}(h:i≠top) (hl:i<els.length):(dZ els top p)[i]? = els[i]?:=by
 unfold dZ;rw [List.getElem?_append_left (by rw [List.length_modify]; exact hl),List.getElem?_modify]
 cases els[i]? with
 |none=>rfl
 |some e=>
  show some (if top=i then _ else e)=some e
  rw [if_neg fun q=>h q.symm]
theorem sD {els:List El}{top p:Nat}:(dZ els top p)[els.length]? = some ⟨p,[]⟩:=by
 unfold dZ;rw [List.getElem?_append_right (by rw [List.length_modify]; exact Nat.le_refl _),List.length_modify,Nat.sub_self]; rfl
noncomputable def eM (B:H) (top:Nat) (e:El):H:=B.set (4*top+2) (.list (e.kids.map rf++[.ref (B.length+1)]))
theorem HB.grow {tl:V}{els:List El}{B:H}{top p:Nat}{e:El}(X:HB tl els B) (ht:els[top]? = some e) :
  HB tl (dZ els top p) (nb B.length (eM B top e) (ch (ae (p:Nat))) (dP (B.length+1) [101] (.ref B.length) [60] (.str [62]))):=by
 have hT:(eM B top e).length=B.length:=List.length_set;have htl:top<els.length:=(List.getElem?_eq_some_iff.mp ht).1;have hl:=X.len;unfold nb;constructor
 ·intro m e' h;rcases pP ht h with ⟨hm,h⟩ | ⟨rfl,rfl⟩
  ·have h3:=X.lt hm;have h4:∀k,m=k+1→4*k+3<B.length∧4*top+2≠4*k+3:=fun k hk=>⟨Nat.le_trans (Nat.le_add_right (4*k+4) 3) (Nat.le_trans (Nat.le_of_eq (by rw [hk]; rfl)) h3),Bh (by decide) (by decide) (by decide)⟩
   have n0:4*top+2≠4*m:=Bh (j:=0) (by decide) (by decide) (by decide)
   have n1:4*top+2≠4*m+1:=Bh (by decide) (by decide) (by decide)
   have kp:∀e0,els[m]? = some e0→e'.dp=e0.dp→((eM B top e)++[.dict (ch (ae (p:Nat))),.fobj (some (B.length+2)),.dict (dP (B.length+1) [101] (.ref B.length) [60] (.str [62])),.list []])[4*m+2]? = some (.list (e'.kids.map rf)) →
     rq tl ((eM B top e)++[.dict (ch (ae (p:Nat))),.fobj (some (B.length+2)),.dict (dP (B.length+1) [101] (.ref B.length) [60] (.str [62])),.list []]) m e':=fun e0 h0 hp hk=>by
    have b:=X.b m e0 h0;exact⟨(fB (Nat.le_trans (Nat.le_add_right (4*m+1) 2) h3) n0).trans b.fo,(fB (Nat.le_of_succ_le h3) n1).trans b.di,hk,fun k hk=>hp▸(fB (h4 k hk).1 (h4 k hk).2).trans (b.a k hk)⟩
   rcases h with ⟨rfl,rfl⟩ | ⟨hmt,h⟩
   ·refine kp e ht rfl ?_;rw [List.getElem?_append_left (by rw [hT]; exact h3)]
    unfold eM;rw [List.getElem?_set_self h3,List.map_append];show _=some (aa.list (_++[.ref (4*els.length)]));rw [←hl]
   ·exact kp e' h rfl ((fB h3 fun e=>hmt (Nat.eq_of_mul_eq_mul_left (by decide) (Nat.add_right_cancel e)).symm).trans (X.b m e' h).li)
  ·obtain⟨k,hk⟩:∃k,els.length=k+1:=Nat.exists_eq_succ_of_ne_zero (Nat.ne_of_gt (Nat.lt_of_le_of_lt (Nat.zero_le _) htl));have e3:B.length=4*k+3:=Nat.succ.inj (hl.trans (congrArg _ hk));rw [e3] at hT ⊢;rw [hk];exact⟨zE (k:=1) hT,zE (k:=2) hT,zE (k:=3) hT,fun j hj=>by
    obtain rfl:=Nat.succ.inj hj;exact zE (k:=0) hT⟩
 ·rw [List.length_append,hT,ir];show B.length+4+1=4*els.length+4;rw [←hl]
section
variable {n:Nat}{y:List Nat}{tl:V}{els:List El}{B R l:H}{m top p:Nat}{e:El}{v:V}{nm:Str}{tag:List Nat}
theorem pR {attr:V}{σ:H}:ab C1 (n+1) (.val (.ref 295)) [.str tag,attr] [] σ (.ref σ.length) (σ++[.fobj (some (σ.length+1)),.dict (dP σ.length tag attr [] (.str [])),.list []]):=
 aN (by kernel_rfl) (by kernel_rfl) z6
theorem rq.app (b:rq tl B m e) (h:4*m+3≤B.length):rq tl (B++l) m e:=
 ⟨(List.getElem?_append_left (Nat.lt_of_lt_of_le (Nat.lt_add_of_pos_right (by decide:0<3)) h)).trans b.fo,(List.getElem?_append_left (Nat.lt_of_lt_of_le (Nat.lt_succ_of_lt (Nat.lt_succ_self _)) h)).trans b.di,(List.getElem?_append_left h).trans b.li,
  fun k hk=>(List.getElem?_append_left (by subst hk; exact Nat.lt_of_lt_of_le (Nat.lt_add_of_pos_right (by decide:0<4):4*k+3<4*k+3+4) h)).trans (b.a k hk)⟩
theorem rq.o (b:rq tl B m e) (hn:ck nm aM=true) (hv:bP nm.cps.toList (dP (4*m) (ye m) (vE m) (Bf m) (Bg tl m))=some v) (hh:jt v=true):Fo B (rf m) nm v:=
 .mk (i:=4*m) (d:=4*m+1) b.fo hn b.di hv hh
theorem rq.attr (b:rq tl B m e):jt (vE m)=true∧∃y,DO B (vE m) (ch y):=by
 cases m with
 |zero=>exact⟨rfl,_,.val⟩
 |succ k=>exact⟨rfl,_,.ref (b.a k rfl)⟩
theorem sE {T:H}{i:Nat}(hT:T.length=i) {A D:List (List Nat×V)}(hn:ck nm aM=true) (hz:Nat.blt D.length 900=true):cY C1 (nb i T A D) (.ref (i+1)) nm v (nb i T A (aj nm.cps.toList v D)):=by
 have:=cY.fobj (C:=C1) (σ:=nb i T A D) (i:=i+1) (d:=i+2) (n:=nm) (v:=v) (zE (k:=1) hT) hn (zE (k:=2) hT) (Nat.le_of_ble_eq_true hz);have e:(nb i T A D).set (i+2) (.dict (aj nm.cps.toList v D))=nb i T A (aj nm.cps.toList v D):=hT▸sa (k:=2);rwa [e] at this
theorem At {x y:List Nat}:aw (aw [] (ch x)) [([100,101,101,112],.str y)]=ch y:=by kernel_rfl
theorem vF (X:HB tl els B) (ht:els[top]? = some e) (hk:e.kids.length<1000) {z:List Nat} :
  ab C1 (n+2) (.val (.ref 239)) [rf top,.str [101],vE top] [("deep",.str z)] B (.ref (B.length+1)) (nb B.length (eM B top e) (ch z) (dP (B.length+1) [101] (.ref B.length) [] (.str []))):=by
 have htl:=(List.getElem?_eq_some_iff.mp ht).1;have h3:=X.lt htl;have b:=X.b top e ht;obtain⟨_,y,hy⟩:=b.attr;have hf:zT 239 [rf top,.str [101],vE top] [("deep",.str z)]=some (fr 239 [some (rf top),some (.str [101]),some (vE top),some (.dict [([100,101,101,112],.str z)])]):=by kernel_rfl
 have e1:(B++[aa.dict (aw (aw [] (ch y)) [([100,101,101,112],.str z)])]).length=B.length+1:=List.length_append;have c1:=pR (n:=n) (tag:=[101]) (attr:=.ref B.length) (σ:=B++[.dict (aw (aw [] (ch y)) [([100,101,101,112],.str z)])]);rw [e1] at c1;have b2:=b.app (l:=[.dict (aw (aw [] (ch y)) [([100,101,101,112],.str z)])]) h3;have b3:=b2.app (l:=[.fobj (some (B.length+2)),.dict (dP (B.length+1) [101] (.ref B.length) [] (.str [])),.list []]) (Nat.le_trans h3 (by rw [List.length_append]; exact Nat.le_add_right _ _))
 have c2:ab C1 (n+1) (.clo nJ [("made",rf top)] none) [.ref (B.length+1)] [] (B++[.dict (aw (aw [] (ch y)) [([100,101,101,112],.str z)])]++[.fobj (some (B.length+2)),.dict (dP (B.length+1) [101] (.ref B.length) [] (.str [])),.list []]) .none _:=
  lN (by kernel_rfl) (by kernel_rfl) (z7 (x:=.ref (B.length+1)) (l:=4*top+2) (b3.o (by kernel_rfl) (by kernel_rfl) rfl) b3.li (na hk))
 have e2:(B++[aa.dict (aw (aw [] (ch y)) [([100,101,101,112],.str z)])]++[aa.fobj (some (B.length+2)),aa.dict (dP (B.length+1) [101] (.ref B.length) [] (.str [])),aa.list []]).set (4*top+2) (aa.list (e.kids.map rf++[V.ref (B.length+1)]))=nb B.length (eM B top e) (aw (aw [] (ch y)) [([100,101,101,112],.str z)]) (dP (B.length+1) [101] (.ref B.length) [] (.str [])):=by
  unfold nb eM;rw [List.append_assoc];exact List.set_append_left _ _ h3
 rw [e2] at c2;have r:=aN (n:=n+1) (by kernel_rfl) hf (z9 hy (Nat.le_of_ble_eq_true rfl) (Nat.le_of_ble_eq_true rfl) (b2.o (by kernel_rfl) (by kernel_rfl) rfl) c1 (b3.o (by kernel_rfl) (by kernel_rfl) rfl) c2)
 rw [At] at r;exact r
end
end Mini
set_option maxRecDepth 100000
set_option autoImplicit false
set_option exponentiation.threshold 5000
namespace Mini
open PySem
inductive Ch (els:List El):Nat→Nat→List Nat→List Nat→Prop
 |nil {a:Nat}:Ch els a a [] []
 |cons {a e' e:Nat}{ks L Ls:List Nat}{el:El}(h:els[a]? = some el) (h1:Ch els (a+1) e' el.kids L) (h2:Ch els e' e ks Ls):Ch els a e (a::ks) (1::L++0::Ls)
section
variable {els els':List El}{a e y N:Nat}{ks L Ls P st:List Nat}{el:El}
theorem Ch.le (h:Ch els a e ks L):a≤e:=by
 induction h with
 |nil=>exact Nat.le_refl _
 |cons _ _ _ i1 i2=>exact Nat.le_of_succ_le (Nat.le_trans i1 i2)
theorem Ch.frame (h:Ch els a e ks L) (hf:∀i,a≤i→i<e→els'[i]? = els[i]?):Ch els' a e ks L:=by
 induction h with
 |nil=>exact .nil
 |cons h h1 h2 i1 i2=>
  have l1:=h1.le;have l2:=h2.le;exact .cons ((hf _ (Nat.le_refl _) (Nat.lt_of_lt_of_le l1 l2)).trans h) (i1 fun i p q=>hf i (Nat.le_of_succ_le p) (Nat.lt_of_lt_of_le q l2)) (i2 fun i p q=>hf i (Nat.le_trans (Nat.le_of_succ_le l1) p) q)
theorem Ch.snoc (h:Ch els a y ks Ls) (hy:els[y]? = some el) (h1:Ch els (y+1) e el.kids L):Ch els a e (ks++[y]) (Ls++(1::L++[0])):=by
 induction h with
 |nil=>exact .cons hy h1 .nil
 |@cons a e' _ ks L0 Ls el0 h g1 g2 _ i2=>
  have:=Ch.cons h g1 (i2 hy h1);rw [List.append_assoc];exact this
inductive yf (els:List El):Nat→List Nat→List Nat→Prop
 |root {y:Nat}:yf els y [] []
 |step {x y:Nat}{ks Ls P st:List Nat}{el:El}(h:els[x]? = some el) (hk:el.kids=ks++[y]) (hc:Ch els (x+1) y ks Ls) (hp:yf els x st P):yf els y (x::st) (P++Ls++[1])
theorem yf.frame (h:yf els y st P) (hf:∀i,i<y→els'[i]? = els[i]?):yf els' y st P:=by
 induction h with
 |root=>exact .root
 |step h hk hc _ ih=>
  have l:=hc.le;exact .step ((hf _ l).trans h) hk (hc.frame fun i _ q=>hf i q) (ih fun i q=>hf i (Nat.lt_trans q l))
structure yg (els:List El) (y:Nat) (st w:List Nat):Prop where
 mk ::
 ex:∃el P L,els[y]? = some el∧Ch els (y+1) els.length el.kids L∧yf els y st P∧w=P++L
theorem yg.push {dp:Nat}{w:List Nat}(h:yg els y st w):yg (dZ els y dp) els.length (y::st) (w++[1]):=by
 obtain⟨el,P,L,h1,h2,h3,rfl⟩:=h.ex;have hl:=(List.getElem?_eq_some_iff.mp h1).1;refine⟨⟨dp,[]⟩,P++L++[1],[],sD,?_,?_,(List.append_nil _).symm⟩
 ·rw [ir]; exact .nil
 ·exact .step (sC h1) rfl (h2.frame fun i p q=>pQ (Nat.ne_of_gt p) q) (h3.frame fun i q=>pQ (Nat.ne_of_lt q) (Nat.lt_trans q hl))
theorem yg.pop {x:Nat}{w:List Nat}(h:yg els y (x::st) w):yg els x st (w++[0]):=by
 obtain⟨el,P,L,h1,h2,h3,rfl⟩:=h.ex;cases h3 with
 |@step _ _ ks Ls P _ el0 g hk hc hp=>
  refine⟨el0,P,Ls++(1::L++[0]),g,?_,hp,?_⟩
  ·rw [hk]; exact hc.snoc h1 h2
  ·simp only [List.append_assoc,List.cons_append,List.nil_append]
end
structure SS where
 els:List El
 y:Nat
 st:List Nat
 w:List Nat
noncomputable def nT (s:SS) (d:Nat):SS:=match d with
 |0=>match s.st with
  |[]=>s
  |x::st=>⟨s.els,x,st,s.w++[0]⟩
 |_+1=>⟨dZ s.els s.y (s.st.length+1),s.els.length,s.y::s.st,s.w++[1]⟩
noncomputable def dq:Nat→List Nat→List Nat
 |_,[]=>[]
 |h,d::w=>match d with
  |0=>dq (h - 1) w
  |_+1=>(h+1)::dq (h+1) w
noncomputable def dJ (N:Nat):List V:=(List.range N).map fun k=>rf (k+1)
structure HV (tl:V) (s:SS) (B:H) (N:Nat) (D:List Nat):Prop where
 X:HB tl s.els B
 n:s.els.length=N+1
 o:yg s.els s.y s.st s.w
 d:s.els.map (·.dp)=0::D
 k:∀(m:Nat) (e:El),s.els[m]? = some e→e.kids.length≤N
theorem vG {i:Nat}{tag tx tx':List Nat}{a tl:V}:aj (Str.ofString "text").cps.toList (.str tx') (dP i tag a tx tl)=dP i tag a tx' tl:=by kernel_rfl
theorem pS {i:Nat}{tag tx:List Nat}{a tl tl':V}:aj (Str.ofString "tail").cps.toList tl' (dP i tag a tx tl)=dP i tag a tx tl':=by kernel_rfl
section
variable {T:H}{i j:Nat}(hT:T.length=i) {A:List (List Nat×V)}{tag tx tx':List Nat}{a tl tl':V}
include hT
theorem vH:cY C1 (nb i T A (dP j tag a tx tl)) (.ref (i+1)) "text" (.str tx') (nb i T A (dP j tag a tx' tl)):=by
 have:=sE (v:=.str tx') (nm:= "text") hT (A:=A) (D:=dP j tag a tx tl) (by kernel_rfl) rfl
 rwa [vG] at this
theorem vI:cY C1 (nb i T A (dP j tag a tx tl)) (.ref (i+1)) "tail" tl' (nb i T A (dP j tag a tx tl')):=by
 have:=sE (v:=tl') (nm:= "tail") hT (A:=A) (D:=dP j tag a tx tl) (by kernel_rfl) rfl
 rwa [pS] at this
end
theorem yh {tl:V}{s:SS}{B:H}{N:Nat}{D:List Nat}(v:HV tl s B N D) {e:El}(he:s.els[s.y]? = some e) :
  HV tl (nT s 1) (nb B.length (eM B s.y e) (ch (ae ((s.st.length+1:Nat):Int))) (dP (B.length+1) [101] (.ref B.length) [60] (.str [62]))) (N+1) (D++[s.st.length+1]):=by
 refine⟨v.X.grow he,by show (dZ _ _ _).length=_; rw [ir,v.n],v.o.push,?_,fun m e' h=>?_⟩
 ·show (dZ s.els s.y (s.st.length+1)).map (·.dp)=_;unfold dZ;rw [List.map_append,←List.cons_append,←v.d];refine congrArg (· ++ _) (List.ext_getElem? fun i=>?_)
  rw [List.getElem?_map,List.getElem?_map,List.getElem?_modify];cases s.els[i]? with
  |none=>rfl
  |some e=>
   show some (El.dp (if s.y=i then _ else e))=some e.dp
   by_cases q:s.y=i
   ·rw [if_pos q]
   ·rw [if_neg q]
 ·rcases pP he h with ⟨_,⟨rfl,rfl⟩ | ⟨_,h⟩⟩ | ⟨_,rfl⟩
  ·show (e.kids++[_]).length≤_;rw [List.length_append];exact Nat.succ_le_succ (v.k _ _ he)
  ·exact Nat.le_succ_of_le (v.k _ _ h)
  ·exact Nat.zero_le _
theorem yi {tl:V}{s:SS}{B:H}{N:Nat}{D:List Nat}(v:HV tl s B N D):HV tl (nT s 0) B N D:=by
 obtain⟨els,y,st,w⟩:=s;cases st with
 |nil=>exact v
 |cons x st=>exact⟨v.X,v.n,v.o.pop,v.d,v.k⟩
inductive HI (x kind:Nat) (tl:V) (R:V) (W:List Nat) (F:SS) (DF as:List Nat) (ρ:Mini.P) (B:H):Prop
 |mk {s:SS}{N:Nat}{D:List Nat}{o1 o2:Option V}(v:HV tl s B N D) (hb:ap as) (hN:N+as.length<500) (hs:s.st.length≤N) (hf:as.foldl nT s=F) (hd:D++dq s.st.length as=DF)
  (e:ρ=fr 319 [some (.int x),some (.int kind),some R,some (.ref 0),some (.list ((s.y::s.st).reverse.map rf)),some (.list (dJ N)),o1,o2])
theorem Bi {n:Nat}:(if (1:Int) > ((n+1+1:Nat):Int) - 1 then 1 else ((n+1+1:Nat):Int) - 1)=((n+1:Nat):Int):=by
 have e:((n+1+1:Nat):Int) - 1=((n+1:Nat):Int):=Int.add_sub_cancel ((n+1:Nat):Int) 1;rw [e];exact if_neg (Int.not_lt.mpr (Int.ofNat_le.mpr (Nat.succ_le_succ (Nat.zero_le n))))
theorem sF {n x kind:Nat}{tl R:V}{W DF:List Nat}{F:SS}(d:Nat) (as:List Nat) (ρ:Mini.P) (σ:H) (I:HI x kind tl R W F DF (d::as) ρ σ) :
  ∃ρ' σ',HI x kind tl R W F DF as ρ' σ'∧Tn (ab C1 (n+2)) 319 5 (iv d) ρ σ .next ρ' σ':=by
 obtain⟨v,hb,hN,hs,hf,hd,rfl⟩:=I;rename_i s N D o1 o2;rw [List.length_cons,←Nat.add_assoc] at hN;have hs1:s.st.length+1≤500:=Nat.le_of_lt (Nat.lt_of_le_of_lt (Nat.succ_le_succ (Nat.le_trans hs (Nat.le_add_right _ _))) hN);have hN9:N<1000:=Nat.lt_trans (Nat.lt_of_le_of_lt (Nat.le_add_right _ _) (Nat.lt_of_succ_lt hN)) (by decide)
 have hwl:((s.y::s.st).reverse.map rf).length=s.st.length+1:=by rw [List.length_map,List.length_reverse]; rfl
 have hst:((s.y::s.st).reverse.map rf).length<1000:=by rw [hwl]; exact Nat.lt_of_le_of_lt hs1 (by decide)
 rcases hb.hd with rfl | rfl
 ·obtain⟨els,y,st,w⟩:=s;cases st with
  |nil=>
   exact⟨_,_,.mk (s:=⟨els,y,[],w⟩) (o1:=some (iv 0)) (o2:=o2) v hb.tl (Nat.lt_of_succ_lt hN) hs hf hd rfl,
    xe (call:=ab C1 (n+2)) (x:=x) (kind:=kind) (R:=R) (r:=.ref 0) (ones:=dJ N) (wl:=[rf y]) (d:=((0:Nat):Int)) (o1:=o1) (o2:=o2) (σ:=σ) (hi:=1) rfl hst
     (ay.max (σ:=σ) (a:=((0+1:Nat):Int) - 1) (b:=1)) (by decide) (by decide)⟩
  |cons y1 st=>
   refine⟨_,_,.mk (s:=⟨els,y1,st,w++[0]⟩) (o1:=some (iv 0)) (o2:=o2) (yi v) hb.tl (Nat.lt_of_succ_lt hN) (Nat.le_of_succ_le hs) hf hd rfl,?_⟩;have m:=ay.max (σ:=σ) (a:=(((y::y1::st).reverse.map rf).length:Int) - 1) (b:=1);have hwl:((y::y1::st).reverse.map rf).length=st.length+1+1:=hwl;have e:(if (1:Int) > (((y::y1::st).reverse.map rf).length:Int) - 1 then 1 else (((y::y1::st).reverse.map rf).length:Int) - 1)=((st.length+1:Nat):Int):=by rw [hwl]; exact Bi
   rw [e] at m;have ec:a9 ((y::y1::st).reverse.map rf) none (some ((st.length+1:Nat):Int))=(y1::st).reverse.map rf:=by
    rw [ig,List.reverse_cons,List.map_append,List.take_left' (by rw [List.length_map,List.length_reverse]; rfl)]
   exact ec▸xe (call:=ab C1 (n+2)) (x:=x) (kind:=kind) (R:=R) (r:=.ref 0) (ones:=dJ N) (wl:=(y::y1::st).reverse.map rf) (d:=((0:Nat):Int)) (o1:=o1) (o2:=o2) (σ:=σ) (hi:=(st.length+1:Nat)) rfl hst m (Int.lt_of_lt_of_le (by decide) (Int.natCast_nonneg _)) (Int.lt_of_le_of_lt (Int.ofNat_le.mpr (Nat.le_of_succ_le hs1)) (by decide))
 ·obtain⟨e,P,L,he,h2,h3,h4⟩:=v.o.ex;have hk:=Nat.lt_of_le_of_lt (v.k _ _ he) hN9;have b:=v.X.b _ e he;have hh:=b.attr;have hT:(eM σ s.y e).length=σ.length:=List.length_set;have hr:V.ref (σ.length+1)=rf s.els.length:=congrArg V.ref v.X.len;have hrs:(s.y::s.st).reverse.map rf++[rf s.els.length]=(s.els.length::s.y::s.st).reverse.map rf:=by rw [List.reverse_cons (a:=s.els.length),List.map_append]; rfl
  have hro:dJ N++[rf s.els.length]=dJ (N+1):=by unfold dJ; rw [List.range_succ,List.map_append,v.n]; rfl
  have hz:(dJ N).length<1000:=by unfold dJ; rw [List.length_map,List.length_range]; exact hN9
  have f1:Fo σ (rf s.y) "attrib" (vE s.y):=b.o (by kernel_rfl) (by kernel_rfl) hh.1
  have c:=vF (n:=n) v.X he hk (z:=ae ((s.st.length+1:Nat):Int));refine⟨_,_,.mk (s:=nT s 1) (o1:=some (iv 1)) (o2:=some (.ref (σ.length+1))) (yh v he) hb.tl (by rw [Nat.add_right_comm]; exact hN) (Nat.succ_le_succ hs) hf (by rw [List.append_assoc]; exact hd) rfl,?_⟩
  show Tn _ 319 5 _ _ _ _ (fr 319 [_,_,_,_,some (.list ((s.els.length::s.y::s.st).reverse.map rf)),some (.list (dJ (N+1))),_,_]) _;rw [←hrs,←hro,←hr];have hwi:(((s.y::s.st).reverse.map rf).length:Int)=((s.st.length+1:Nat):Int):=congrArg Nat.cast hwl;rw [←hwi] at c ⊢;exact An rfl hst hz (by rw [hwl]; exact de (hwl▸aS hst)) (by rw [List.reverse_cons,List.getElem?_map,←List.length_reverse (as:=s.st),List.getElem?_concat_length]; rfl) f1 (by rw [hwl]; exact Nat.lt_trans (Nat.lt_of_le_of_lt hs1 (by decide):s.st.length+1<1000) (by decide)) c (vH hT) (vI hT)
end Mini
set_option maxRecDepth 100000
set_option autoImplicit false
set_option exponentiation.threshold 5000
namespace Mini
open PySem
noncomputable def tok (d:Nat):V:=.str [if d=0 then 62 else 60]
structure FE (h:Nat) (as:List Nat) (s F:SS):Prop where
 w:F.w=s.w++dw h as
 n:F.st.length=vl h as
 z:(F.y::F.st).getLast? = (s.y::s.st).getLast?
theorem yj {as:List Nat}{s:SS}{h:Nat}(hb:ap as) (hs:s.st.length=h):FE h as s (as.foldl nT s):=by
 induction as generalizing s h with
 |nil=>exact⟨(List.append_nil _).symm,hs,rfl⟩
 |cons d as ih=>
  obtain⟨els,y,st,w⟩:=s;rcases hb.hd with rfl | rfl
  ·cases st with
   |nil=>
    obtain rfl:h=0:=hs.symm;obtain⟨a,b,c⟩:=ih (s:=⟨els,y,[],w⟩) (h:=0) hb.tl rfl;exact⟨a,b,c⟩
   |cons x st=>
    obtain rfl:h=st.length+1:=hs.symm;obtain⟨a,b,c⟩:=ih (s:=⟨els,x,st,w++[0]⟩) hb.tl rfl;exact⟨a.trans (List.append_assoc ..),b,c.trans (List.getLast?_cons_cons ..).symm⟩
  ·have hs:st.length=h:=hs;obtain⟨a,b,c⟩:=ih (s:=⟨dZ els y (st.length+1),els.length,y::st,w++[1]⟩) hb.tl (congrArg (· + 1) hs);exact⟨a.trans (List.append_assoc ..),b,c.trans (List.getLast?_cons_cons ..)⟩
section
variable {n N:Nat}{tl:V}{els:List El}{B R:H}
structure HR (tl:V) (els:List El) (σ:H):Prop where
 b:∀(m:Nat) (e:El),els[m]? = some e→rq tl σ m e
theorem HB.r (X:HB tl els B):HR tl els (B++R):=⟨fun m e h=>(X.b m e h).app (X.lt (List.getElem?_eq_some_iff.mp h).1)⟩
variable {σ:H}(X:HR tl els σ)
include X
noncomputable def KL (n:Nat) (σ:H) (a e:Nat) (ks L:List Nat):Prop:=∀(f g:Nat) (xs0:List V) (e0:V) (T:List V) (o:Option V),e≤a+f→0<a→σ[g]? = some (.list xs0)→T.length+L.length<900 →
 ∃o',∀K:Fl→P→H→Prop,K .next (fr 302 [some e0,some (.list (T++L.map tok)),o']) σ→bu (ev C1 (ab C1 (n+f)) 39) (bl (st 302 1)).1 (bl (st 302 1)).2 (some g) xs0 (ks.map rf) (fr 302 [some e0,some (.list T),o]) σ K
omit X in
theorem sG {m e f:Nat}{L:List Nat}{el:El}{tx:List Nat}(b:rq tl σ m el) (ht:bP (Str.ofString "text").cps.toList (dP (4*m) (ye m) (vE m) (Bf m) (Bg tl m))=some (.str tx)) (h:KL n σ (m+1) e el.kids L) (hf:e≤m+1+f) (hL:L.length<899) :
  ab C1 (n+f+1) (.val (.ref 302)) [rf m] [] σ (.list (.str tx::L.map tok)) σ:=by
 obtain⟨o',l⟩:=h f (4*m+2) (el.kids.map rf) (rf m) [.str tx] none hf (Nat.succ_pos _) b.li (by rw [List.length_singleton,Nat.add_comm]; exact Nat.succ_lt_succ hL)
 have l:=l (fun f2 ρ2 σ2=>f2 = .next∧ρ2=fr 302 [some (rf m),some (.list ([.str tx]++L.map tok)),o']∧σ2=σ) ⟨rfl,rfl,rfl⟩
 exact aN (by kernel_rfl) (by kernel_rfl) (Ab (a:=4*m) (l:=4*m+2) (b.o (by kernel_rfl) ht rfl) (b.o (by kernel_rfl) (by kernel_rfl) rfl) b.li l)
theorem Au {a e:Nat}{ks L:List Nat}(h:Ch els a e ks L):KL n σ a e ks L:=by
 induction h with
 |nil=>
  intro f g xs0 e0 T o _ _ hg _;exact⟨o,fun K k=>⟨hg,by rw [List.map_nil,List.append_nil] at k; exact k⟩⟩
 |@cons a e' e ks L Ls el h h1 h2 i1 i2=>
  intro f g xs0 e0 T o hf ha hg hT;have l1:=h1.le;have l2:=h2.le;have f0:1≤f:=Nat.le_of_add_le_add_left (Nat.le_trans l1 (Nat.le_trans l2 hf));obtain⟨f,rfl⟩:=Nat.exists_eq_add_one_of_ne_zero (Nat.ne_of_gt f0);obtain⟨m,rfl⟩:=Nat.exists_eq_add_one_of_ne_zero (Nat.ne_of_gt ha);have b:=X.b _ el h;have hlen:(1::L++0::Ls).length=L.length+Ls.length+2:=by
   rw [List.length_append,List.length_cons,List.length_cons]; exact congrArg (· + 1) (Nat.succ_add ..)
  rw [hlen] at hT;have hT2:T.length+(L.length+1)+1<900:=Nat.lt_of_le_of_lt (Nat.add_le_add_left (Nat.add_le_add_right (Nat.le_add_right _ _) 2) _) hT;have eT:T.length+(L.length+1)+1+Ls.length=T.length+(L.length+Ls.length+2):=(Nat.add_right_comm ..).trans (congrArg (· + 1) ((Nat.add_assoc ..).trans (congrArg (T.length + ·) (Nat.succ_add ..))));have hB:L.length+2<900:=Nat.lt_of_le_of_lt (Nat.add_le_add_right (Nat.le_add_right _ _) 2) (Nat.lt_of_le_of_lt (Nat.le_add_left _ _) hT);have c:=sG (n:=n) (e:=e') (f:=f) (L:=L) (tx:=[60]) b (by kernel_rfl) i1 (Nat.le_trans (Nat.le_trans l2 hf) (Nat.le_of_eq (Nat.add_right_comm (m+1) 1 f).symm)) (Nat.le_of_succ_le (Nat.le_of_succ_le_succ hB))
  have ft:=b.o (nm:= "tail") (v:=.str [62]) (by kernel_rfl) (by kernel_rfl) rfl
  have hl:(V.str [60]::L.map tok).length=L.length+1:=by rw [List.length_cons,List.length_map]
  have t:=Aa (e:=e0) (o:=o) (T:=T) c (by rw [hl]; exact Nat.lt_trans (Nat.lt_of_succ_lt hT2) (by decide)) (by rw [List.length_append,hl]; exact Nat.lt_trans hT2 (by decide)) ft
  have e1:T++(V.str [60]::L.map tok)++[V.str [62]]++Ls.map tok=T++(1::L++0::Ls).map tok:=by
   rw [List.map_append,List.append_assoc,List.append_assoc]; rfl
  obtain⟨o',k2⟩:=i2 (f+1) g xs0 e0 (T++(V.str [60]::L.map tok)++[V.str [62]]) (some (rf (m+1))) (Nat.le_trans hf (Nat.add_le_add_right (Nat.le_of_succ_le l1) _)) (Nat.lt_of_lt_of_le (Nat.succ_pos _) l1) hg (by rw [List.length_append,List.length_append,hl,List.length_singleton,eT]; exact hT)
  refine⟨o',fun K k=>⟨hg,t (fun(f2:Fl) (ρ:P) (σ:H)=>match f2 with
   |.next=>bu (ev C1 (ab C1 (n+f+1)) 39) (bl (st 302 1)).1 (bl (st 302 1)).2 (some g) xs0 (ks.map rf) ρ σ K
   |.cont=>bu (ev C1 (ab C1 (n+f+1)) 39) (bl (st 302 1)).1 (bl (st 302 1)).2 (some g) xs0 (ks.map rf) ρ σ K
   |.brk=>K .next ρ σ
   |.ret v=>K (.ret v) ρ σ) (k2 K ?_)⟩⟩
  rw [e1];exact k
end
theorem qE {α β:Type}{g:α→List β}{l:List α}{T:List β}:l.foldl (fun T k=>T++g k) T=T++l.flatMap g:=by
 induction l generalizing T with
 |nil=>exact (List.append_nil _).symm
 |cons x l ih=>rw [List.foldl_cons,ih,List.flatMap_cons,List.append_assoc]
noncomputable def bK (odd:Bool):V:=match odd with
 |true=>.str [46]
 |false=>.none
noncomputable def sI (odd:Bool):List (List Nat):=match odd with
 |true=>[[46]]
 |false=>[]
noncomputable def dg (odd:Bool) (L:List Nat):List V:=(.str []::L.map tok)++(sI odd).map .str
theorem sJ {n:Nat}{els:List El}{B:H}{el:El}{L:List Nat}{odd:Bool}(X:HB (bK odd) els B) (he:els[0]? = some el) (hc:Ch els 1 els.length el.kids L) (hL:L.length<800) (hn:els.length≤100) :
  ab C1 (n+102) (.val (.ref 246)) [.bm "list.append" (.ref B.length),rf 0] [] (B++[.list []]) .none (B++[.list (dg odd L)]):=by
 have XR:=fun Q=>HB.r (R:=[.list Q]) X
 have b:=fun Q=>(XR Q).b 0 el he
 have c1:=sG (n:=n) (e:=els.length) (f:=99) (L:=L) (tx:=[]) (b []) (by kernel_rfl) (Au (XR []) hc) (Nat.le_trans hn (Nat.le_of_eq (Nat.zero_add 100).symm)) (Nat.lt_trans hL (by decide))
 have c2:ab C1 (n+101) (.clo lz [("made",rf 0)] none) [] [] (B++[.list []]) (.list (.str []::L.map tok)) (B++[.list []]):=lN (by kernel_rfl) (by kernel_rfl) (z8 c1)
 have hg:∀Q,(B++[aa.list Q])[B.length]? = some (.list Q):=fun Q=>ga (k:=0)
 have hset:∀Q Q',(B++[aa.list Q]).set B.length (.list Q')=B++[.list Q']:=fun Q Q'=>sa (k:=0)
 have l:=pp (call:=ab C1 (n+101)) (a:=246) (i:=0) (fun v:V=>v) (fun s:List V×Option V=>fr 246 [some (.bm "list.append" (.ref B.length)),some (rf 0),s.2]) (fun s=>B++[.list s.1]) (fun s v=>(s.1++[v],some v)) (fun s vs=>s.1.length+vs.length<1000) (g:=none) (s:=([],none)) (xs:=.str []::L.map tok) (as:=.str []::L.map tok) (List.map_id' _).symm (by
   rw [List.length_cons,List.length_map];rw [List.length_nil,Nat.zero_add];exact Nat.lt_trans (Nat.succ_lt_succ hL) (by decide)) (fun _ _ _=>trivial) fun s v vs ok=>by
  refine⟨?_,?_⟩
  ·show (s.1++[v]).length+_<_;rw [List.length_append,Nat.add_assoc,Nat.add_comm _ vs.length];exact ok
  ·have t:=xK (call:=ab C1 (n+101)) (e:=rf 0) (x:=v) (o:=s.2) (pa:=B.length) (xs:=s.1) (σ:=B++[.list s.1]) (hg _) (Nat.lt_trans (Nat.lt_of_le_of_lt (Nat.le_add_right _ _) ok) (by decide))
   rw [hset] at t;exact t
 have e1:((.str []::L.map tok).foldl (fun(s:List V×Option V) v=>(s.1++[v],some v)) ([],none)).1 = .str []::L.map tok:=by
  refine (ge (g:=fun T v=>T++[v]) (h:=fun(_:List V×Option V) v=>some v)).trans ?_
  rw [qE (g:=fun v:V=>[v]),List.flatMap_singleton',List.nil_append]
 rw [e1] at l;have o0:=(b []).o (nm:= "itertext") (v:=.clo lz [("made",rf 0)] none) (by kernel_rfl) (by kernel_rfl) rfl
 refine aN (ρ:=fr 246 [some (.bm "list.append" (.ref B.length)),some (rf 0)]) (by kernel_rfl) (by kernel_rfl) ?_
 cases odd with
 |false=>
  have o:=(b (.str []::L.map tok)).o (nm:= "tail") (v:=.none) (by kernel_rfl) (by kernel_rfl) rfl
  have:=xL o0 c2 l o .none;unfold dg;rw [show (sI false).map V.str=[] from rfl,List.append_nil]
  exact this
 |true=>
  have o:=(b (.str []::L.map tok)).o (nm:= "tail") (v:=.str [46]) (by kernel_rfl) (by kernel_rfl) rfl
  have r:=xM (pa:=B.length) o0 c2 l o (.str (by decide) rfl) (hg _) (by rw [List.length_cons,List.length_map]; exact Nat.lt_trans (Nat.succ_lt_succ hL) (by decide))
  rw [hset] at r;exact r
end Mini
set_option maxRecDepth 100000
set_option autoImplicit false
namespace Mini
open PySem
noncomputable def sub (c:Nat) (q:List Nat) (x:Nat):List Nat:=if x=c then q else [x]
theorem sK {α:Type}{c x:Nat}{a b:α}:(if Nat.beq c x then a else b)=if x=c then a else b:=by
 by_cases h:x=c
 ·subst h; rw [Nat.beq_refl,if_pos rfl,if_pos rfl]
 ·rw [if_neg h,if_neg fun q=>h (Nat.eq_of_beq_eq_true q).symm]
theorem jB {c x:Nat}{r:List Nat}:bX [c] (x::r)=Nat.beq c x:=by
 show (Nat.beq c x&&bX [] r)=_;cases r <;> exact Bool.and_true _
theorem sL {c:Nat}{q:List Nat}{s:List Nat}:dc [c] q s 0=s.flatMap (sub c q):=by
 induction s with
 |nil=>rfl
 |cons x s ih=>
  show (if bX [c] (x::s) then q++dc [c] q s 0 else [x]++dc [c] q s 0)=_
  rw [jB,List.flatMap_cons,ih,sK];unfold sub;split <;> rfl
theorem vJ {c:Nat}{s:List Nat}:gH [c] s 0=s.count c:=by
 induction s with
 |nil=>rfl
 |cons x s ih=>
  show (if bX [c] (x::s) then gH [c] s 0+1 else gH [c] s 0)=_
  rw [jB,List.count_cons,ih,sK]
  by_cases h:x=c
  ·rw [if_pos h,if_pos (beq_iff_eq.mpr h)]
  ·rw [if_neg h,if_neg fun q=>h (beq_iff_eq.mp q)]; rfl
theorem iu {c:Nat}{s:List Nat}:kf [c] s=decide (c∈s):=by
 show Nat.blt 0 (gH [c] s 0)=_;rw [vJ]
 by_cases h:c∈s
 ·rw [decide_eq_true h]; exact Nat.ble_eq_true_of_le (List.count_pos_iff.mpr h)
 ·rw [decide_eq_false h,List.count_eq_zero_of_not_mem h]; rfl
theorem lT {c:Nat}{q s:List Nat}(h:c∉s):s.flatMap (sub c q)=s:=by
 induction s with
 |nil=>rfl
 |cons x s ih=>
  rw [List.flatMap_cons,ih (fun h2=>h (List.mem_cons_of_mem _ h2))]
  unfold sub;rw [if_neg (fun h2=>h (by rw [←h2]; exact List.mem_cons_self))]; rfl
noncomputable def aJ:List (Nat×List Nat)→List Nat→List Nat
 |[],s=>s
 |p::T,s=>aJ T (s.flatMap (sub p.1 p.2))
theorem lU {T:List (Nat×List Nat)}{s:List Nat}:aJ T s=s.flatMap fun x=>aJ T [x]:=by
 induction T generalizing s with
 |nil=>exact (List.flatMap_singleton' s).symm
 |cons p T ih=>
  show aJ T _=s.flatMap fun x=>aJ T ([x].flatMap (sub p.1 p.2))
  rw [ih,List.flatMap_assoc]
  congr 1
  funext x
  rw [←ih,List.flatMap_singleton]
theorem lV {α:Type}{s:List α}{f:α→List Nat}{b:Nat}(h:∀x,x∈s→(f x).length≤b):(s.flatMap f).length≤b*s.length:=by
 induction s with
 |nil=>exact Nat.zero_le _
 |cons x s ih=>
  rw [List.flatMap_cons,List.length_append,List.length_cons,Nat.mul_succ,Nat.add_comm];exact Nat.add_le_add (ih fun y hy=>h y (List.mem_cons_of_mem _ hy)) (h x List.mem_cons_self)
noncomputable def zF (a:Nat):List Stmt:=match st a 0 with
 |.Try b _ _ _ _=>b
 |_=>[]
noncomputable def tr (a i:Nat):Stmt:=((zF a).drop i).headD nP
noncomputable def tF (a:Nat) (s:List Nat):P:=fr a [some (.str s)]
noncomputable def yk (call:ad) (a:Nat):Nat→List (Nat×List Nat)→Prop
 |i,[]=>∀(x:List Nat) K ws,dT (ev C1 call 39) ((zF a).drop i) (tF a x) [] ws K=K (.ret (.str x)) (tF a x) [] ws
 |i,p::T=>(zF a).drop i=tr a i::(zF a).drop (i+1)∧(∀(x y:List Nat) K ws,(ev C1 call 39).S (tr a i) (tF a x) [] (.b true::.v (.str y)::ws) K=(Cm [] .In (.str [p.1]) (.str x) true∧xv x [p.1] p.2 (.str y)∧K .next (tF a y) [] ws)) ∧
  (∀(x:List Nat) K ws,(ev C1 call 39).S (tr a i) (tF a x) [] (.b false::ws) K=(Cm [] .In (.str [p.1]) (.str x) false∧K .next (tF a x) [] ws))∧yk call a (i+1) T
noncomputable def sM (T:List (Nat×List Nat)):Bool:=T.all fun p=>Nat.ble p.2.length 6 && !([p.1]==p.2)
noncomputable def sN:List (Nat×List Nat)→List Nat→Bool
 |[],_=>true
 |p::T,l=>Nat.ble l.length 6&&sN T (l.flatMap (sub p.1 p.2))
theorem vK {call:ad}{a:Nat}{T:List (Nat×List Nat)}{i:Nat}(h:yk call a i T) (ht:sM T=true) {s:List Nat}{g:Nat→List Nat}(hb:∀x,x∈s→sN T (g x)=true) (hs:s.length<20000) {K:Fl→P→H→Ws→Prop}(hK:∀ρ ws,K (.ret (.str (aJ T (s.flatMap g)))) ρ [] ws) :
  ∃ws,dT (ev C1 call 39) ((zF a).drop i) (tF a (s.flatMap g)) [] ws K:=by
 induction T generalizing g i with
 |nil=>exact⟨[],by rw [h]; exact hK _ _⟩
 |cons p T ih=>
  obtain⟨e,h1,h2,h3⟩:=h;unfold sM at ht;rw [List.all_cons,Bool.and_eq_true,Bool.and_eq_true] at ht;obtain⟨⟨t1,t2⟩,t3⟩:=ht;have t1:=Nat.le_of_ble_eq_true t1;have hl:(s.flatMap g).length≤6*s.length:=lV fun x hx=>Nat.le_of_ble_eq_true (Bool.and_eq_true _ _▸hb x hx).1
  obtain⟨ws,q⟩:=ih h3 t3 (g:=fun x=>(g x).flatMap (sub p.1 p.2)) (fun x hx=>(Bool.and_eq_true _ _▸hb x hx).2) (by rw [←List.flatMap_assoc]; exact hK)
  rw [←List.flatMap_assoc] at q;rw [e]
  by_cases hc:p.1∈s.flatMap g
  ·refine⟨.b true::.v (.str ((s.flatMap g).flatMap (sub p.1 p.2)))::ws,?_⟩;show (ev C1 call 39).S _ _ _ _ _;rw [h1];refine⟨.inn (List.cons_ne_nil _ _) (by rw [iu,decide_eq_true hc]),?_,q⟩
   rw [←sL];refine .mk (List.cons_ne_nil _ _) (fun q=>by rw [beq_iff_eq.mpr q] at t2; cases t2) ?_
   have:((s.flatMap g).length+1)*p.2.length≤((s.flatMap g).length+1)*6:=Nat.mul_le_mul_left _ t1;show _<1048576;omega
  ·refine⟨.b false::ws,?_⟩;show (ev C1 call 39).S _ _ _ _ _;rw [h2];rw [lT hc] at q;exact⟨.inn (List.cons_ne_nil _ _) (by rw [iu,decide_eq_false hc]),q⟩
noncomputable def alph:List Nat:=[38,60,62,34,9,10,13,59,46,97,98,99,100,101,102]
theorem d0 {n:Nat}{a:Nat}{T:List (Nat×List Nat)}{s:List Nat}{σ:H}(hm:md .pure a=true) (hf:zT a [.str s] []=some (tF a s)) (hb:∀ws K,dT (ev C1 (ab C1 n) jb) (bJ a).body (tF a s) [] ws K=dT (ev C1 (ab C1 n) 39) ((zF a).drop 0) (tF a s) [] ws fun f ρ σ ws=>match f with
  |.next=>dT (ev C1 (ab C1 n) jb) [] ρ σ ws K
  |f=>K f ρ σ ws) (h:yk (ab C1 n) a 0 T) (ht:(sM T&&alph.all fun x=>sN T [x])=true) (ha:∀x,x∈s→x∈alph) (hs:s.length<20000):ab C1 (n+1) (.val (.ref a)) [.str s] [] σ (.str (aJ T s)) σ:=by
 rw [Bool.and_eq_true,List.all_eq_true] at ht;obtain⟨ws,q⟩:=vK h ht.1 (g:=fun x=>[x]) (fun x hx=>ht.2 x (ha x hx)) hs (K:=fun f ρ σ ws=>match f with
  |.next=>dT (ev C1 (ab C1 n) jb) [] ρ σ ws (fun f _ σ2 _=>jv f = .str (aJ T s)∧σ2=[])
  |f=>jv f = .str (aJ T s)∧σ=[]) (fun _ _=>⟨by rw [List.flatMap_singleton']; rfl,rfl⟩)
 rw [List.flatMap_singleton'] at q;exact aR hm rfl hf ⟨ws,by rw [hb]; exact q⟩ (.val rfl)
noncomputable def BL:List (Nat×List Nat):=[(38,[38,97,109,112,59]),(60,[38,108,116,59]),(62,[38,103,116,59])]
noncomputable def BM:List (Nat×List Nat):=[(38,[38,97,109,112,59]),(60,[38,108,116,59]),(62,[38,103,116,59]),(13,[38,35,120,68,59])]
noncomputable def BN:List (Nat×List Nat):=[(38,[38,97,109,112,59]),(60,[38,108,116,59]),(62,[38,103,116,59]),(34,[38,113,117,111,116,59]),(13,[38,35,49,51,59]),(10,[38,35,49,48,59]),(9,[38,35,48,57,59])]
noncomputable def BO:List (Nat×List Nat):=[(38,[38,97,109,112,59]),(60,[38,108,116,59]),(34,[38,113,117,111,116,59]),(9,[38,35,120,57,59]),(10,[38,35,120,65,59]),(13,[38,35,120,68,59])]
noncomputable def BP:List (Nat×List Nat):=[(38,[38,97,109,112,59]),(62,[38,103,116,59]),(34,[38,113,117,111,116,59])]
section
variable {n:Nat}{s:List Nat}{σ:H}(ha:∀x,x∈s→x∈alph) (hs:s.length<20000)
include ha hs
theorem BX:ab C1 (n+1) (.val (.ref 260)) [.str s] [] σ (.str (aJ BL s)) σ:=
 d0 (by kernel_rfl) (by kernel_rfl) (fun _ _=>by kernel_rfl) ⟨by kernel_rfl,fun _ _ _ _=>by kernel_rfl,fun _ _ _=>by kernel_rfl,by kernel_rfl,fun _ _ _ _=>by kernel_rfl,fun _ _ _=>by kernel_rfl,by kernel_rfl,fun _ _ _ _=>by kernel_rfl,fun _ _ _=>by kernel_rfl,fun _ _ _=>by kernel_rfl⟩ rfl ha hs
theorem BY:ab C1 (n+1) (.val (.ref 281)) [.str s] [] σ (.str (aJ BM s)) σ:=
 d0 (by kernel_rfl) (by kernel_rfl) (fun _ _=>by kernel_rfl) ⟨by kernel_rfl,fun _ _ _ _=>by kernel_rfl,fun _ _ _=>by kernel_rfl,by kernel_rfl,fun _ _ _ _=>by kernel_rfl,fun _ _ _=>by kernel_rfl,by kernel_rfl,fun _ _ _ _=>by kernel_rfl,fun _ _ _=>by kernel_rfl,by kernel_rfl,fun _ _ _ _=>by kernel_rfl,fun _ _ _=>by kernel_rfl,fun _ _ _=>by kernel_rfl⟩ rfl ha hs
theorem BZ:ab C1 (n+1) (.val (.ref 267)) [.str s] [] σ (.str (aJ BN s)) σ:=
 d0 (by kernel_rfl) (by kernel_rfl) (fun _ _=>by kernel_rfl) ⟨by kernel_rfl,fun _ _ _ _=>by kernel_rfl,fun _ _ _=>by kernel_rfl,by kernel_rfl,fun _ _ _ _=>by kernel_rfl,fun _ _ _=>by kernel_rfl,by kernel_rfl,fun _ _ _ _=>by kernel_rfl,fun _ _ _=>by kernel_rfl,by kernel_rfl,fun _ _ _ _=>by kernel_rfl,fun _ _ _=>by kernel_rfl,by kernel_rfl,fun _ _ _ _=>by kernel_rfl,fun _ _ _=>by kernel_rfl,by kernel_rfl,fun _ _ _ _=>by kernel_rfl,fun _ _ _=>by kernel_rfl,by kernel_rfl,fun _ _ _ _=>by kernel_rfl,fun _ _ _=>by kernel_rfl,fun _ _ _=>by kernel_rfl⟩ rfl ha hs
theorem B0:ab C1 (n+1) (.val (.ref 288)) [.str s] [] σ (.str (aJ BO s)) σ:=
 d0 (by kernel_rfl) (by kernel_rfl) (fun _ _=>by kernel_rfl) ⟨by kernel_rfl,fun _ _ _ _=>by kernel_rfl,fun _ _ _=>by kernel_rfl,by kernel_rfl,fun _ _ _ _=>by kernel_rfl,fun _ _ _=>by kernel_rfl,by kernel_rfl,fun _ _ _ _=>by kernel_rfl,fun _ _ _=>by kernel_rfl,by kernel_rfl,fun _ _ _ _=>by kernel_rfl,fun _ _ _=>by kernel_rfl,by kernel_rfl,fun _ _ _ _=>by kernel_rfl,fun _ _ _=>by kernel_rfl,by kernel_rfl,fun _ _ _ _=>by kernel_rfl,fun _ _ _=>by kernel_rfl,fun _ _ _=>by kernel_rfl⟩ rfl ha hs
theorem B1:ab C1 (n+1) (.val (.ref 274)) [.str s] [] σ (.str (aJ BP s)) σ:=
 d0 (by kernel_rfl) (by kernel_rfl) (fun _ _=>by kernel_rfl) ⟨by kernel_rfl,fun _ _ _ _=>by kernel_rfl,fun _ _ _=>by kernel_rfl,by kernel_rfl,fun _ _ _ _=>by kernel_rfl,fun _ _ _=>by kernel_rfl,by kernel_rfl,fun _ _ _ _=>by kernel_rfl,fun _ _ _=>by kernel_rfl,fun _ _ _=>by kernel_rfl⟩ rfl ha hs
end
end Mini
set_option maxRecDepth 100000
set_option autoImplicit false
set_option exponentiation.threshold 5000
namespace Mini
open PySem
theorem nU {α:Type}{f:α→List Nat}{l:List α}:fg [] (l.map f)=l.flatMap f:=by
 induction l with
 |nil=>rfl
 |cons x l ih=>
  cases l with
  |nil=>exact (List.append_nil _).symm
  |cons y l=>exact congrArg (f x ++ ·) ih
noncomputable def Av (d:Nat):Nat:=if d=0 then 62 else 60
noncomputable def xf (odd:Bool):List Nat:=match odd with
 |true=>[46]
 |false=>[]
noncomputable def uI (odd:Bool) (L:List Nat):List Nat:=L.map Av++xf odd
noncomputable def zG (odd:Bool) (L:List Nat):List (List Nat):=([]::L.map fun d=>[Av d])++sI odd
theorem Bj {odd:Bool}{L:List Nat}:dg odd L=(zG odd L).map .str:=by
 unfold dg zG;rw [List.map_append,List.map_cons,List.map_map]; rfl
theorem pT {odd:Bool}{L:List Nat}:fg [] (zG odd L)=uI odd L:=by
 have e:=nU (f:=fun x:List Nat=>x) (l:=zG odd L)
 rw [List.map_id'] at e;rw [e];unfold zG uI;rw [List.flatMap_append,List.flatMap_cons,List.nil_append,List.flatMap_map];refine congr (congrArg _ List.map_eq_flatMap.symm) ?_;cases odd <;> rfl
noncomputable def k5:List Nat:=[0,1,2,3,4]
noncomputable def kA (k:Nat):List (Nat×List Nat):=([BL,BM,BN,BO,BP]:List (List (Nat×List Nat))).getD k []
noncomputable def Bk (k:Nat):Nat:=([260,281,267,288,274]:List Nat).getD k 0
theorem vL {n k:Nat}{s:List Nat}{σ:H}(hk:k∈k5) (ha:∀x,x∈s→x∈alph) (hs:s.length<20000):ab C1 (n+1) (.val (.ref (Bk k))) [.str s] [] σ (.str (aJ (kA k) s)) σ:=by
 unfold k5 at hk;simp only [List.mem_cons,List.not_mem_nil,or_false] at hk;rcases hk with rfl | rfl | rfl | rfl | rfl
 ·exact BX ha hs
 ·exact BY ha hs
 ·exact BZ ha hs
 ·exact B0 ha hs
 ·exact B1 ha hs
noncomputable def cH (k:Nat):List Nat:=match Nat.beq k 4 with
 |true=>[60]
 |false=>[38,108,116,59]
noncomputable def mkB (k:Nat):List Nat:=match Nat.beq k 3 with
 |true=>[62]
 |false=>[38,103,116,59]
noncomputable def sg (k d:Nat):List Nat:=if d=0 then mkB k else cH k
noncomputable def iw (k:Nat) (odd:Bool) (u:List Nat):List Nat:=u.flatMap (sg k)++xf odd
theorem Aw {k:Nat}(hk:k∈k5):aJ (kA k) [62]=mkB k∧aJ (kA k) [60]=cH k∧aJ (kA k) [46]=[46]:=(by decide +kernel:∀k,k∈k5→aJ (kA k) [62]=mkB k∧aJ (kA k) [60]=cH k∧aJ (kA k) [46]=[46]) k hk
theorem Ax {k:Nat}{odd:Bool}{L:List Nat}(hk:k∈k5):aJ (kA k) (uI odd L)=iw k odd L:=by
 obtain⟨h1,h2,h3⟩:=Aw hk;rw [lU];unfold uI iw;rw [List.flatMap_append,List.flatMap_map];have e:(fun d=>aJ (kA k) [Av d])=sg k:=by
  funext d
  unfold Av sg
  by_cases h:d=0
  ·rw [if_pos h,if_pos h,h1]
  ·rw [if_neg h,if_neg h,h2]
 rw [e];refine congrArg _ ?_;cases odd
 ·rfl
 ·show [46].flatMap _=_;rw [List.flatMap_singleton]; exact h3
theorem vM {odd:Bool}{L:List Nat}:∀x,x∈uI odd L→x∈alph:=fun x hx=>by
 unfold uI at hx;rcases List.mem_append.mp hx with h | h
 ·obtain⟨d,_,rfl⟩:=List.mem_map.mp h;unfold Av;split <;> decide
 ·cases odd
  ·cases h
  ·rw [List.mem_singleton.mp h]; decide
structure Mt (k:Nat):Prop where
 m:∀r,dc (cH k++mkB k) [] (cH k++(mkB k++r)) 0=dc (cH k++mkB k) [] r 0∧gH (cH k++mkB k) (cH k++(mkB k++r)) 0=gH (cH k++mkB k) r 0+1
 a:∀r,dc (cH k++mkB k) [] (cH k++(cH k++r)) 0=cH k++dc (cH k++mkB k) [] (cH k++r) 0∧gH (cH k++mkB k) (cH k++(cH k++r)) 0=gH (cH k++mkB k) (cH k++r) 0
 b:∀r,dc (cH k++mkB k) [] (mkB k++r) 0=mkB k++dc (cH k++mkB k) [] r 0∧gH (cH k++mkB k) (mkB k++r) 0=gH (cH k++mkB k) r 0
 t:∀odd,dc (cH k++mkB k) [] (xf odd) 0=xf odd∧gH (cH k++mkB k) (xf odd) 0=0
theorem mt {k:Nat}(hk:k∈k5):Mt k:=by
 unfold k5 at hk;simp only [List.mem_cons,List.not_mem_nil,or_false] at hk;rcases hk with rfl | rfl | rfl | rfl | rfl <;> exact⟨fun _=>⟨rfl,rfl⟩,fun _=>⟨rfl,rfl⟩,fun _=>⟨rfl,rfl⟩,fun odd=>by cases odd <;> exact⟨rfl,rfl⟩⟩
theorem qF {k h:Nat}{odd b:Bool}{u:List Nat}(M:Mt k) (hb:pG (h+b.toNat) u) :
  dc (cH k++mkB k) [] ((match b with | true=>cH k | false=>[])++iw k odd u) 0=iw k odd (dl b u)∧gH (cH k++mkB k) ((match b with | true=>cH k | false=>[])++iw k odd u) 0=ct b u:=by
 induction u generalizing h b with
 |nil=>cases b with
  |true=>exact absurd hb (Nat.succ_ne_zero h)
  |false=>exact M.t odd
 |cons d u ih=>
  have e0:∀u,iw k odd (0::u)=mkB k++iw k odd u:=fun u=>List.append_assoc ..
  have e1:∀u,iw k odd (1::u)=cH k++iw k odd u:=fun u=>List.append_assoc ..
  match d,b,hb with
  |0,true,hb=>
   have ih:=ih (h:=h) (b:=false) hb.2;rw [e0];exact⟨(M.m _).1.trans ih.1,(M.m _).2.trans ((congrArg (· + 1) ih.2).trans (Nat.add_comm ..))⟩
  |0,false,hb=>
   have ih:=ih (h:=h - 1) (b:=false) hb.2;rw [e0];exact⟨(M.b _).1.trans ((congrArg (mkB k ++ ·) ih.1).trans (e0 _).symm),(M.b _).2.trans ih.2⟩
  |1,true,hb=>
   have ih:=ih (h:=h+1) (b:=true) hb.2;rw [e1];exact⟨(M.a _).1.trans ((congrArg (cH k ++ ·) ih.1).trans (e1 _).symm),(M.a _).2.trans ih.2⟩
  |1,false,hb=>
   have ih:=ih (h:=h) (b:=true) hb.2;rw [e1];exact ih
end Mini
set_option maxRecDepth 100000
set_option autoImplicit false
set_option exponentiation.threshold 5000
namespace Mini
open PySem
section
variable {call:ad}{ds Z wl ones HL HH DP TL TR CC:List V}{x kind m mm:Int}{j esc:Nat}{pg wr wr2:List Nat}{o1 o2 o3:Option V}{σ1 σ2 σ3 σ4:H}{odd a4 a3:Bool}
noncomputable def mA:Bool→List Nat
 |true=>[60]
 |false=>[38,108,116,59]
noncomputable def mB:Bool→List Nat
 |true=>[62]
 |false=>[38,103,116,59]
theorem yl (c1:call (.val (.ref 209)) [.int x,.int 1] [] [] (.list ds) []) (c2:call (.val (.ref 295)) [.str [97,108,108],.dict (ch [48])] [] [] (.ref 0) σ1) (hp:(!(x.fmod 2==0))=odd) (u1:cY C1 σ1 (.ref 0) "tail" (bK odd) σ2) (sm:ay σ2 (.builtin "sum") [.list ds] (.int m)) (b1:ah σ2 .Mult (.list [.int 0]) (.int m) (.list Z)) (hd:ds.length<1000) (hz:Z.length<1000) (hE:(ds++Z).length<1048576)
 (l1:Lp call 319 5 none (ds++Z) (fr 319 [some (.int x),some (.int kind),some (.list ds),some (.ref 0),some (.list [.ref 0]),some (.list [])]) σ2 .next (fr 319 [some (.int x),some (.int kind),some (.list ds),some (.ref 0),some (.list wl),some (.list ones),o1,o2]) σ3) (lo:LO (σ3++[.list []]) (.ref σ3.length) []) (c3:call (.val (.ref 246)) [.bm "list.append" (.ref σ3.length),.ref 0] [] (σ3++[.list []]) .none σ4) (m1:aF σ4 "str.join" (.str []) [.ref σ3.length] (.str pg) σ4) (i1:aE 5 kind=some j) (i2:([.val (.ref 260),.val (.ref 281),.val (.ref 267),.val (.ref 288),.val (.ref 274)]:List V)[j]? = some (.val (.ref esc)))
 (c4:call (.val (.ref esc)) [.str pg] [] σ4 (.str wr) σ4) (k4:(kind==4)=a4) (k3:(kind==3)=a3) (c5:call (.val (.ref 309)) [.list ds,.int ds.length] [] σ4 (.list HH) σ4) (s5:aW σ4 (.list HH) (some 1) none (.list HL)) (hv:(a0 HL ds).length<1048576) (p1:Cp call 38 (ex 319 10 []) none (a0 HL ds) (fr 319 [some (.int x),some (.int kind),some (.list ds),some (.ref 0),some (.list wl),some (.list ones),o1,o2,some (.ref σ3.length),some (.str wr),some (.tstr (mA a4++mB a3))]) σ4 DP σ4) (ho:ones.length<1048576) (p2:Cp call 37 (ex 319 11 [0]) none ones (fr 319 [some (.int x),some (.int kind),some (.list ds),some (.ref 0),some (.list wl),some (.list ones),o1,o2,some (.ref σ3.length),some (.str wr),some (.tstr (mA a4++mB a3)),some (.list DP)]) σ4 TL σ4) (hq:DP.length<1000) (p3:Cp call 37 (ex 319 11 [1]) none DP (fr 319 [some (.int x),some (.int kind),some (.list ds),some (.ref 0),some (.list wl),some (.list ones),o1,o2,some (.ref σ3.length),some (.str wr),some (.tstr (mA a4++mB a3)),some (.list DP)]) σ4 TR σ4) (n1:Cm σ4 .NotEq (.list TL) (.list TR) false)
 (mx:ay σ4 (.builtin "max") [.list (DP++[.int 0])] (.int mm)) (mb:mm.natAbs<4096) (hr:(range 0 mm).length<1048576) (l2:Lp call 319 13 none (range 0 mm) (fr 319 [some (.int x),some (.int kind),some (.list ds),some (.ref 0),some (.list wl),some (.list ones),o1,o2,some (.ref σ3.length),some (.str wr),some (.tstr (mA a4++mB a3)),some (.list DP),some (.list [])]) σ4 .next (fr 319 [some (.int x),some (.int kind),some (.list ds),some (.ref 0),some (.list wl),some (.list ones),o1,o2,some (.ref σ3.length),some (.str wr2),some (.tstr (mA a4++mB a3)),some (.list DP),some (.list CC),o3]) σ4) (f5:Fo σ4 (.ref 0) "tail" (bK odd)) (ew:(wr2==(xf odd))=true) :
 ag C1 call (bJ 319).body (fr 319 [some (.int x),some (.int kind)]) [] (.list CC) σ4:=by
 cases odd with
 |false=>cases a4 with
  |false=>cases a3 with
   |false=>exact vy c1 c2 hp u1 sm b1 hd hz hE l1 lo c3 m1 i1 i2 c4 k4 k3 c5 s5 hv p1 ho p2 hq p3 n1 mx mb hr l2 f5 ew
   |true=>exact vz c1 c2 hp u1 sm b1 hd hz hE l1 lo c3 m1 i1 i2 c4 k4 k3 c5 s5 hv p1 ho p2 hq p3 n1 mx mb hr l2 f5 ew
  |true=>cases a3 with
   |false=>exact vA c1 c2 hp u1 sm b1 hd hz hE l1 lo c3 m1 i1 i2 c4 k4 k3 c5 s5 hv p1 ho p2 hq p3 n1 mx mb hr l2 f5 ew
   |true=>rw [eq_of_beq k4] at k3; cases k3
 |true=>cases a4 with
  |false=>cases a3 with
   |false=>exact vB c1 c2 hp u1 sm b1 hd hz hE l1 lo c3 m1 i1 i2 c4 k4 k3 c5 s5 hv p1 ho p2 hq p3 n1 mx mb hr l2 f5 ew
   |true=>exact vC c1 c2 hp u1 sm b1 hd hz hE l1 lo c3 m1 i1 i2 c4 k4 k3 c5 s5 hv p1 ho p2 hq p3 n1 mx mb hr l2 f5 ew
  |true=>cases a3 with
   |false=>exact vD c1 c2 hp u1 sm b1 hd hz hE l1 lo c3 m1 i1 i2 c4 k4 k3 c5 s5 hv p1 ho p2 hq p3 n1 mx mb hr l2 f5 ew
   |true=>rw [eq_of_beq k4] at k3; cases k3
end
theorem ym {α:Type}{l:List α}{a:Nat}:l.foldl (fun a _=>a+1) a=a+l.length:=by
 induction l generalizing a with
 |nil=>rfl
 |cons x l ih=>exact ih.trans (Nat.succ_add_eq_add_succ _ _)
theorem yn {call:ad}{a i:Nat}(enc:Nat→P) (hp:Nat→H) {b:Int}{N:Nat}{c:Int}(hb:c=b+N) (h:∀k,k<N→Tn call a i (.int (b+(k:Nat))) (enc k) (hp k) .next (enc (k+1)) (hp (k+1))):Lp call a i none (range b c) (enc 0) (hp 0) .next (enc N) (hp N):=by
 have:=pp (call:=call) (a:=a) (i:=i) (fun k:Nat=>V.int (b+(k:Nat))) enc hp (fun s _=>s+1) (fun s ps=>ps=List.range' s (N - s)) (g:=none) (xs:=range b c) (as:=List.range N) (s:=0) (by
  unfold range;rw [hb,Int.add_comm,Int.add_sub_cancel,Int.toNat_natCast]) List.range_eq_range' (fun _ _ _=>trivial) fun s x xs ok=>by
  cases q:N - s with
  |zero=>rw [q] at ok; cases ok
  |succ j=>
   rw [q,List.range'_succ] at ok;obtain⟨rfl,rfl⟩:=List.cons.inj ok;exact⟨by rw [Nat.sub_add_eq,q]; rfl,h x (Nat.lt_of_sub_eq_succ q)⟩
 rw [ym,List.length_range,Nat.zero_add] at this;exact this
noncomputable def xg (b:Int):Nat→Option V
 |0=>none
 |k+1=>some (.int (b+(k:Nat)))
theorem yo {h n:Nat}{w:List Nat}:dq h (w++zs n)=dq h w:=by
 induction w generalizing h with
 |nil=>
  induction n generalizing h with
  |zero=>rfl
  |succ n ih=>exact ih
 |cons d w ih=>
  match d with
  |0=>exact ih
  |_+1=>exact congrArg (_ :: ·) ih
theorem yp {h:Nat}{w:List Nat}(hw:ap w):(dq h w).length=w.sum:=by
 induction w generalizing h with
 |nil=>rfl
 |cons d w ih=>
  rw [List.sum_cons];rcases hw.hd with rfl | rfl
  ·rw [Nat.zero_add]; exact ih hw.tl
  ·rw [Nat.add_comm]; exact congrArg (· + 1) (ih hw.tl)
theorem sO {h:Nat}{w:List Nat}(hw:ap w):(∀b,b∈dq h w→b≤mx h w)∧(mx h w∈dq h w∨mx h w=0):=by
 induction w generalizing h with
 |nil=>exact⟨nofun,.inr rfl⟩
 |cons d w ih=>
  rcases hw.hd with rfl | rfl
  ·exact ih hw.tl
  ·obtain⟨a,b⟩:=ih (h:=h+1) hw.tl;refine⟨fun c hc=>?_,.inl ?_⟩
   ·rcases List.mem_cons.mp hc with rfl | hc
    ·exact Nat.le_max_left _ _
    ·exact Nat.le_trans (a c hc) (Nat.le_max_right _ _)
   ·show max (h+1) (mx (h+1) w)∈(h+1)::dq (h+1) w
    by_cases q:mx (h+1) w≤h+1
    ·rw [Nat.max_eq_left q]; exact List.mem_cons_self
    ·have q:=Nat.le_of_not_le q;rw [Nat.max_eq_right q];exact List.mem_cons_of_mem _ (b.resolve_right fun e=>by rw [e] at q; exact Nat.not_succ_le_zero _ q)
theorem nV {h:Nat}{w:List Nat}(hw:ap w):mx h w≤h+w.sum:=by
 induction w generalizing h with
 |nil=>exact Nat.zero_le _
 |cons d w ih=>
  rw [List.sum_cons];rcases hw.hd with rfl | rfl
  ·rw [Nat.zero_add]; exact Nat.le_trans (ih hw.tl) (Nat.add_le_add_right (Nat.sub_le _ _) _)
  ·have:=ih (h:=h+1) hw.tl;rw [←Nat.add_assoc];exact Nat.max_le.mpr ⟨Nat.le_add_right _ _,this⟩
theorem yq {r h:Nat}{w:List Nat}(hw:ap w) (hr:h+w.sum≤r):((hl r h w).zip w).filterMap (fun p=>if p.2=0 then none else some (iv p.1))=(dq h w).map iv:=by
 induction w generalizing h with
 |nil=>rfl
 |cons d w ih=>
  rw [List.sum_cons] at hr;rcases hw.hd with rfl | rfl
  ·rw [Nat.zero_add] at hr;exact ih hw.tl (Nat.le_trans (Nat.add_le_add_right (Nat.sub_le h 1) _) hr)
  ·rw [←Nat.add_assoc] at hr;have e:sH r h 1=h+1:=Nat.min_eq_left (Nat.le_trans (Nat.le_add_right _ _) hr);show List.filterMap _ ((sH r h 1,1)::(hl r (sH r h 1) w).zip w)=iv (h+1)::(dq (h+1) w).map iv;rw [e];have:=ih hw.tl hr;rw [←this];exact List.filterMap_cons_some (f:=fun p:Nat×Nat=>if p.2=0 then none else some (iv p.1)) (a:=(h+1,1)) rfl
theorem lW {us ws:List Nat}:a0 (us.map iv) (ws.map iv)=(us.zip ws).map fun p=>.tuple [iv p.1,iv p.2]:=by
 unfold a0;rw [List.zipWith_map,List.zip_eq_zipWith,List.map_zipWith]
theorem yr {call:ad}{w:List Nat}(hw:ap w) {ρ:P}{σ:H}(h0:aH C1 (jc (ex 319 10 [])).scope ρ=cf (ex 319 10 []) ρ [none,none,none]):Cp call 38 (ex 319 10 []) none (a0 ((hl w.length 0 w).map iv) (w.map iv)) ρ σ ((dq 0 w).map iv) σ:=by
 have hs:w.sum≤w.length:=by
  clear h0
  induction w with
  |nil=>exact Nat.le_refl 0
  |cons d w ih=>rw [List.sum_cons,List.length_cons,Nat.add_comm]; exact Nat.add_le_add (ih hw.tl) (hw d List.mem_cons_self)
 rw [←yq hw (r:=w.length) (by rw [Nat.zero_add]; exact hs)]
 refine jx (fun p:Nat×Nat=>.tuple [iv p.1,iv p.2]) _ (fun ρ'=>∃q1 q2,ρ'=cf (ex 319 10 []) ρ [none,q1,q2]) lW ⟨none,none,h0⟩ trivial fun p hp ρ' ⟨q1,q2,e⟩=>⟨cf (ex 319 10 []) ρ [none,some (iv p.1),some (iv p.2)],⟨_,_,rfl⟩,?_⟩
 subst e;obtain⟨h,d⟩:=p;rcases fA (hw d (List.of_mem_zip hp).2) with rfl | rfl
 ·exact Aq rfl
 ·exact Ap rfl
end Mini
set_option maxRecDepth 100000
set_option autoImplicit false
namespace Mini
open PySem
theorem qG:am C1 184 "keys" = some 136:=by kernel_rfl
theorem Bl:am C1 184 "add_header" = some 181:=by kernel_rfl
theorem gb {xs:List V}{rest l:H}{k:Nat}:(bk xs (rest++l))[rest.length+3+k]? = l[k]?:=ga (l:=bk xs rest)
theorem sb {xs:List V}{rest:H}{x y:aa}:(bk xs (rest++[x])).set (rest.length+3) y=bk xs (rest++[y]):=sa (l:=bk xs rest) (k:=0)
section
variable {call:ad}{s val:List Nat}{xs:List V}{rest:H}
theorem yt (hx:xs.length<1000) (c1:call (.val (.ref 83)) [.ref 1,.str val] [("name",.bool false)] (bk xs (rest++[.list []])) (.str val) (bk xs (rest++[.list []]))) (m1:aF (bk xs (rest++[.list []])) "list.append" (.ref (rest.length+3)) [.str val] .none (bk xs (rest++[.list [.str val]])))
 (i1:dN (bk xs (rest++[.list []])) (.ref (rest.length+3)) "append" "list.append")
 (l:Lp call 181 2 none [] (fr 181 [some (.ref 1),some (.str s),some (.str val),some (.dict []),some (.ref (rest.length+3))]) (bk xs (rest++[.list [.str val]])) .next (fr 181 [some (.ref 1),some (.str s),some (.str val),some (.dict []),some (.ref (rest.length+3))]) (bk xs (rest++[.list [.str val]])))
 (c2:call (.val (.ref 83)) [.ref 1,.str s] [("name",.bool true)] (bk xs (rest++[.list [.str val]])) (.str s) (bk xs (rest++[.list [.str val]]))) (m2:aF (bk xs (rest++[.list [.str val]])) "str.join" (.str [59,32]) [.ref (rest.length+3)] (.str val) (bk xs (rest++[.list [.str val]]))) :
 ag C1 call (bJ 181).body (fr 181 [some (.ref 1),some (.str s),some (.str val),some (.dict [])]) (bk xs rest) .none (bk (xs++[.tuple [.str s,.str val]]) (rest++[.list [.str val]])):=by
 refine aC [.b true,.inst 83,.vh (.str val) (bk xs (rest++[aa.list []])),.meth "list.append",.vh .none (bk xs (rest++[aa.list [.str val]])),.st .next (fr 181 [some (.ref 1),some (.str s),some (.str val),some (.dict []),some (.ref (List.length rest+3))]) (bk xs (rest++[aa.list [.str val]])),.fld (.ref 2),.meth "list.append",.inst 83,.vh (.str s) (bk xs (rest++[aa.list [.str val]])),.meth "str.join",.vh (.str val) (bk xs (rest++[aa.list [.str val]])),.vh .none (List.set (bk xs (rest++[aa.list [.str val]])) 2 (aa.list (xs++[.tuple [.str s,.str val]])))] (q:=(Cm (bk xs rest++[aa.list []]) .IsNot (.str val) .none true)∧(∃c,ly (bk xs rest++[aa.list []]) (.ref (1:Nat)) (Str.ofString "_convert_string_type") c∧am C1 c (Str.ofString "_convert_string_type")=some (83:Addr))∧(call (.val (.ref 83)) [.ref 1,.str val] [(Str.ofString "name",.bool false)] (bk xs (rest++[aa.list []])) (.str val) (bk xs (rest++[aa.list []])))∧(dN (bk xs (rest++[aa.list []])) (.ref (List.length (bk xs rest))) (Str.ofString "append") "list.append")∧(aF (bk xs (rest++[aa.list []])) "list.append" (.ref (List.length (bk xs rest))) [.str val] .none (bk xs (rest++[aa.list [.str val]])))∧(Lp call 181 2 none [] (fr 181 [some (.ref 1),some (.str s),some (.str val),some (.dict []),some (.ref (List.length rest+3))]) (bk xs (rest++[aa.list [.str val]])) .next (fr 181 [some (.ref 1),some (.str s),some (.str val),some (.dict []),some (.ref (List.length rest+3))]) (bk xs (rest++[aa.list [.str val]])))∧(gB C1 (bk xs (rest++[aa.list [.str val]])) (.ref 1) (Str.ofString "_headers") (.ref 2))∧(dN (bk xs (rest++[aa.list [.str val]])) (.ref 2) (Str.ofString "append") "list.append")∧(∃c,ly (bk xs (rest++[aa.list [.str val]])) (.ref (1:Nat)) (Str.ofString "_convert_string_type") c∧am C1 c (Str.ofString "_convert_string_type")=some (83:Addr))∧(call (.val (.ref 83)) [.ref 1,.str s] [(Str.ofString "name",.bool true)] (bk xs (rest++[aa.list [.str val]])) (.str s) (bk xs (rest++[aa.list [.str val]])))∧(dN (bk xs (rest++[aa.list [.str val]])) (.str [59,32]) (Str.ofString "join") "str.join")∧(aF (bk xs (rest++[aa.list [.str val]])) "str.join" (.str [59,32]) [.ref (List.length rest+3)] (.str val) (bk xs (rest++[aa.list [.str val]])))∧(aF (bk xs (rest++[aa.list [.str val]])) "list.append" (.ref 2) [.tuple [.str s,.str val]] .none (List.set (bk xs (rest++[aa.list [.str val]])) 2 (aa.list (xs++[.tuple [.str s,.str val]]))))∧(cZ .none .none (bk (xs++[.tuple [.str s,.str val]]) (rest++[aa.list [.str val]])) (bk (xs++[.tuple [.str s,.str val]]) (rest++[aa.list [.str val]])))) (by kernel_rfl) ⟨(.noN .str),⟨_,⟨(.mk rfl rfl (by exact eV)),(by exact uU)⟩⟩,‹_›,i1,m1,‹_›,(.inst rfl (by exact cr) (by exact cr) rfl (by exact jy) (by exact cr)),(.append (.ref rfl)),⟨_,⟨(.mk rfl rfl (by exact eV)),(by exact uU)⟩⟩,‹_›,.join,m2,(.append rfl (by exact aS ‹_›)),fin⟩
end
section
variable {n:Nat}{hs:List Hv}{s val:List Nat}{rest:H}
theorem jC (hn:hs.length<1000):ab C1 (n+1) (.val (.ref 136)) [.ref 1] [] (bk (hs.map hv) rest) (.ref (rest.length+3)) (bk (hs.map hv) (rest++[.list (hs.map fun p=>.str p.1)])):=by
 have e:(hs.map fun p=>V.str p.1)=hs.filterMap fun p=>some (.str p.1):=by rw [List.filterMap_eq_map']
 refine aN (ρ:=fr 136 [some (.ref 1)]) (by kernel_rfl) (by kernel_rfl) (u0 (na hn) ?_)
 rw [e];exact jx hv _ (fun ρ=>∃o1 o2,ρ=cf (ex 136 0 []) (fr 136 [some (.ref 1)]) [none,o1,o2]) rfl ⟨none,none,by kernel_rfl⟩ ⟨rfl,trivial⟩ fun p hp ρ ⟨o1,o2,e⟩=>⟨cf (ex 136 0 []) (fr 136 [some (.ref 1)]) [none,some (.str p.1),some (.str p.2)],⟨_,_,rfl⟩,e▸xI⟩
theorem sP (hn:hs.length<1000) (ht:bR s=true) (hl:s.length<1000) (hv1:bR val=true) (hv2:val.length<1000) :
  ab C1 (n+2) (.val (.ref 181)) [.ref 1,.str s,.str val] [] (bk (hs.map hv) rest) .none (bk ((hs++[(s,val)]).map hv) (rest++[.list [.str val]])):=by
 rw [List.map_append];have m1:=aF.append (σ:=bk (hs.map hv) (rest++[.list []])) (i:=rest.length+3) (v:=.str val) (gb (k:=0)) (by decide)
 have e:∀y,(bk (hs.map hv) (rest++[.list []])).set (rest.length+3) y=bk (hs.map hv) (rest++[y]):=fun y=>sb
 rw [e] at m1;have m2:=aF.join (σ:=bk (hs.map hv) (rest++[.list [.str val]])) (sep:=[59,32]) (v:=.ref (rest.length+3)) (ts:=[val]) (.ref (gb (k:=0))) (aS hv2) (by decide)
 exact aN (by kernel_rfl) (by kernel_rfl) (yt (na hn) (fn hv1 hv2) m1 (.append (.ref (gb (k:=0)))) ⟨rfl,rfl,rfl⟩ (fn ht hl) m2)
end
end Mini
set_option maxRecDepth 100000
set_option autoImplicit false
set_option exponentiation.threshold 5000
namespace Mini
open PySem
noncomputable def B2:Stmt→List Stmt
 |.If _ b _ _=>b
 |_=>[]
noncomputable def B3:Stmt→List Stmt
 |.If _ _ o _=>o
 |_=>[]
noncomputable def ix:Expr:=A9 (A9 (AV ((B2 ((B3 (((bl (st 314 7)).2.drop 3).headD nP)).headD nP)).getD 2 nP)) 1) 1
section
variable {call:ad}{xs ys L M S:List V}{rest rest2 rest3:H}{r tk i d:Int}{nn lv R:Option V}{o1 o2 o3 o4 o5:Option V}
 (hk:call (.val (.ref 136)) [.ref 1] [] (bk xs rest) (.ref (rest.length+3)) (bk xs (rest++[.list L]))) (lo:LO (bk xs (rest++[.list L])) (.ref (rest.length+3)) L) (ne:Cm (bk xs (rest++[.list L])) .NotEq (.ref (rest.length+3)) (.list M) false) (hL:L.length<1000) (hS:S.length<1000)
include hk lo ne hL hS
theorem yu (hd:(!(d==0))=false) (he:(!L.isEmpty)=false):Tn call 314 7 (.tuple [.int i,.int d]) (fr 314 [nn,some (.int r),lv,R,some (.ref 1),some (.list M),some (.list S),some (.int tk),o1,o2,o3,o4,o5]) (bk xs rest) .next (fr 314 [nn,some (.int r),lv,R,some (.ref 1),some (.list M),some (.list (S++[.int L.length])),some (.int tk),some (.int i),some (.int d),some (.ref (rest.length+3)),o4,o5]) (bk xs (rest++[.list L])):=by
 refine cq [.inst 136,.vh (.ref (List.length rest+3)) (bk xs (rest++[aa.list L])),.b false,.v (.int ↑(List.length L)),.v (.list (S++[.int ↑(List.length L)])),.b false,.b false] (q:=fun K=>(∃c,ly (bk xs rest) (.ref (1:Nat)) (Str.ofString "keys") c∧am C1 c (Str.ofString "keys")=some (136:Addr))∧(call (.val (.ref 136)) [.ref 1] [] (bk xs rest) (.ref (List.length rest+3)) (bk xs (rest++[aa.list L])))∧(Cm (bk xs (rest++[aa.list L])) .NotEq (.ref (List.length rest+3)) (.list M) false)∧(ay (bk xs (rest++[aa.list L])) (.builtin "len") [.ref (List.length rest+3)] (.int ↑(List.length L)))∧(ah (bk xs (rest++[aa.list L])) .Add (.list S) (.list [.int ↑(List.length L)]) (.list (S++[.int ↑(List.length L)])))∧(Tr (bk xs (rest++[aa.list L])) (.int d) false)∧(Tr (bk xs (rest++[aa.list L])) (.ref (List.length rest+3)) false)∧(K .next (fr 314 [nn,some (.int r),lv,R,some (.ref 1),some (.list M),some (.list (S++[.int ↑(List.length L)])),some (.int tk),some (.int i),some (.int d),some (.ref (List.length rest+3)),o4,o5]) (bk xs (rest++[aa.list L])))) (fun K=>by kernel_rfl) fun K hK=>⟨⟨_,⟨(.mk rfl rfl (by exact eV)),(by exact qG)⟩⟩,‹_›,ne,(.lenL lo (by exact aS ‹_›)),(.app .val .val (by exact bp ‹_› (Nat.le_of_ble_eq_true rfl))),(.int ‹_›),(.list lo (by exact aS ‹_›) ‹_›),hK⟩
theorem yv (hd:(!(d==0))=true) (hr:decide ((L.length:Int)<r)=false) (he:(!L.isEmpty)=true):Tn call 314 7 (.tuple [.int i,.int d]) (fr 314 [nn,some (.int r),lv,R,some (.ref 1),some (.list M),some (.list S),some (.int tk),o1,o2,o3,o4,o5]) (bk xs rest) .next (fr 314 [nn,some (.int r),lv,R,some (.ref 1),some (.list M),some (.list (S++[.int L.length])),some (.int tk),some (.int i),some (.int d),some (.ref (rest.length+3)),o4,o5]) (bk xs (rest++[.list L])):=by
 refine cq [.inst 136,.vh (.ref (List.length rest+3)) (bk xs (rest++[aa.list L])),.b false,.v (.int ↑(List.length L)),.v (.list (S++[.int ↑(List.length L)])),.b true,.v (.int ↑(List.length L)),.b false,.b true,.b true] (q:=fun K=>(∃c,ly (bk xs rest) (.ref (1:Nat)) (Str.ofString "keys") c∧am C1 c (Str.ofString "keys")=some (136:Addr))∧(call (.val (.ref 136)) [.ref 1] [] (bk xs rest) (.ref (List.length rest+3)) (bk xs (rest++[aa.list L])))∧(Cm (bk xs (rest++[aa.list L])) .NotEq (.ref (List.length rest+3)) (.list M) false)∧(ay (bk xs (rest++[aa.list L])) (.builtin "len") [.ref (List.length rest+3)] (.int ↑(List.length L)))∧(ah (bk xs (rest++[aa.list L])) .Add (.list S) (.list [.int ↑(List.length L)]) (.list (S++[.int ↑(List.length L)])))∧(Tr (bk xs (rest++[aa.list L])) (.int d) true)∧(ay (bk xs (rest++[aa.list L])) (.builtin "len") [.ref (List.length rest+3)] (.int ↑(List.length L)))∧(Cm (bk xs (rest++[aa.list L])) .Lt (.int ↑(List.length L)) (.int r) false)∧(Tr (bk xs (rest++[aa.list L])) (.ref (List.length rest+3)) true)∧(Tr (bk xs (rest++[aa.list L])) (.int d) true)∧(K .next (fr 314 [nn,some (.int r),lv,R,some (.ref 1),some (.list M),some (.list (S++[.int ↑(List.length L)])),some (.int tk),some (.int i),some (.int d),some (.ref (List.length rest+3)),o4,o5]) (bk xs (rest++[aa.list L])))) (fun K=>by kernel_rfl) fun K hK=>⟨⟨_,⟨(.mk rfl rfl (by exact eV)),(by exact qG)⟩⟩,‹_›,ne,(.lenL lo (by exact aS ‹_›)),(.app .val .val (by exact bp ‹_› (Nat.le_of_ble_eq_true rfl))),(.int ‹_›),(.lenL lo (by exact aS ‹_›)),(.lt ‹_›),(.list lo (by exact aS ‹_›) ‹_›),(.int ‹_›),hK⟩
theorem Ay {c j:Nat}(hM:M.length<1000) (hd:(!(d==0))=true) (hr:decide ((L.length:Int)<r)=true) (p1:aE 2 (i.fmod 2)=some j) (p2:([98,66]:List Nat)[j]? = some c) (hi:i.natAbs<2 ^ 1000) (hz:(ae i).length<1000)
 (q1:aE (M++[V.str ([c]++ae i)]).length (-1)=some M.length) (q2:(M++[V.str ([c]++ae i)])[M.length]? = some (.str ([c]++ae i)))
 (ha:call (.val (.ref 181)) [.ref 1,.str ([c]++ae i),.str (ae i)] [] (bk xs (rest++[.list L])) .none (bk ys rest2)):Tn call 314 7 (.tuple [.int i,.int d]) (fr 314 [nn,some (.int r),lv,R,some (.ref 1),some (.list M),some (.list S),some (.int tk),o1,o2,o3,o4,o5]) (bk xs rest) .next (fr 314 [nn,some (.int r),lv,R,some (.ref 1),some (.list (M++[.str ([c]++ae i)])),some (.list (S++[.int L.length])),some (.int (tk+1)),some (.int i),some (.int d),some (.ref (rest.length+3)),o4,o5]) (bk ys rest2):=by
 refine cq [.inst 136,.vh (.ref (List.length rest+3)) (bk xs (rest++[aa.list L])),.b false,.v (.int ↑(List.length L)),.v (.list (S++[.int ↑(List.length L)])),.b true,.v (.int ↑(List.length L)),.b true,.v (.int (Int.fmod i 2)),.v (.str [c]),.v (.str (ae i)),.v (.str ([c]++ae i)),.v (.list (M++[.str ([c]++ae i)])),.inst 181,.v (.int (-1)),.v (.str ([c]++ae i)),.v (.str (ae i)),.vh .none (bk ys rest2),.v (.int (tk+1))] (q:=fun K=>(∃c,ly (bk xs rest) (.ref (1:Nat)) (Str.ofString "keys") c∧am C1 c (Str.ofString "keys")=some (136:Addr))∧(call (.val (.ref 136)) [.ref 1] [] (bk xs rest) (.ref (List.length rest+3)) (bk xs (rest++[aa.list L])))∧(Cm (bk xs (rest++[aa.list L])) .NotEq (.ref (List.length rest+3)) (.list M) false)∧(ay (bk xs (rest++[aa.list L])) (.builtin "len") [.ref (List.length rest+3)] (.int ↑(List.length L)))∧(ah (bk xs (rest++[aa.list L])) .Add (.list S) (.list [.int ↑(List.length L)]) (.list (S++[.int ↑(List.length L)])))∧(Tr (bk xs (rest++[aa.list L])) (.int d) true)∧(ay (bk xs (rest++[aa.list L])) (.builtin "len") [.ref (List.length rest+3)] (.int ↑(List.length L)))∧(Cm (bk xs (rest++[aa.list L])) .Lt (.int ↑(List.length L)) (.int r) true)∧(ah (bk xs (rest++[aa.list L])) .Mod (.int i) (.int 2) (.int (Int.fmod i 2)))∧(bx (bk xs (rest++[aa.list L])) (.str [98,66]) (.int (Int.fmod i 2)) (.str [c]))∧(ay (bk xs (rest++[aa.list L])) (.type "str") [.int i] (.str (ae i)))∧(ah (bk xs (rest++[aa.list L])) .Add (.str [c]) (.str (ae i)) (.str ([c]++ae i)))∧(ah (bk xs (rest++[aa.list L])) .Add (.list M) (.list [.str ([c]++ae i)]) (.list (M++[.str ([c]++ae i)])))∧(∃c,ly (bk xs (rest++[aa.list L])) (.ref (1:Nat)) (Str.ofString "add_header") c∧am C1 c (Str.ofString "add_header")=some (181:Addr))∧(bS .USub (.int 1) (.int (-1)))∧(bx (bk xs (rest++[aa.list L])) (.list (M++[.str ([c]++ae i)])) (.int (-1)) (.str ([c]++ae i)))∧(ay (bk xs (rest++[aa.list L])) (.type "str") [.int i] (.str (ae i)))∧(call (.val (.ref 181)) [.ref 1,.str ([c]++ae i),.str (ae i)] [] (bk xs (rest++[aa.list L])) .none (bk ys rest2))∧(ah (bk ys rest2) .Add (.int tk) (.int 1) (.int (tk+1)))∧(K .next (fr 314 [nn,some (.int r),lv,R,some (.ref 1),some (.list (M++[.str ([c]++ae i)])),some (.list (S++[.int ↑(List.length L)])),some (.int (tk+1)),some (.int i),some (.int d),some (.ref (List.length rest+3)),o4,o5]) (bk ys rest2))) (fun K=>by kernel_rfl) fun K hK=>⟨⟨_,⟨(.mk rfl rfl (by exact eV)),(by exact qG)⟩⟩,‹_›,ne,(.lenL lo (by exact aS ‹_›)),(.app .val .val (by exact bp ‹_› (Nat.le_of_ble_eq_true rfl))),(.int ‹_›),(.lenL lo (by exact aS ‹_›)),(.lt ‹_›),(.mod (by decide)),(.str ‹_› ‹_›),(.str ‹_›),(.cat (by exact bp (Nat.le_of_ble_eq_true rfl) ‹_›)),(.app .val .val (by exact bp ‹_› (Nat.le_of_ble_eq_true rfl))),⟨_,⟨(.mk rfl rfl (by exact eV)),(by exact Bl)⟩⟩,.neg,(.list .val ‹_› ‹_›),(.str ‹_›),‹_›,.add,hK⟩
theorem yw {nm tp:List Nat}{p j jj cc k2:Nat}{IT M2:List V}(hd:(!(d==0))=false) (he:(!L.isEmpty)=true) (p1:aE M.length (-1)=some j) (p2:M[j]? = some (.str nm)) (s1:aW (bk xs (rest++[.list L])) (.str nm) (some 1) none (.str tp)) (z1:tp.length<640) (z2:tp≠[]) (z3:bi tp 0=some p) (z4:tp.length<1000)
 (q1:aE 2 ((p:Int).fmod 2)=some jj) (q2:([66,98]:List Nat)[jj]? = some cc) (c1:call (.val (.ref 131)) [.ref 1,.str ([cc]++tp)] [] (bk xs (rest++[.list L])) (.str tp) (bk xs (rest++[.list L]))) (ee:(tp != tp)=false)
 (c2:call (.val (.ref 148)) [.ref 1] [] (bk xs (rest++[.list L])) (.ref k2) (bk xs rest2)) (hM:M.length<1048576) (cp:Cp call 33 ix none M (fr 314 [nn,some (.int r),some (.bool true),R,some (.ref 1),some (.list M),some (.list (S++[.int L.length])),some (.int tk),some (.int i),some (.int d),some (.ref (rest.length+3)),some (.str nm),some (.str ([cc]++tp))]) (bk xs rest2) IT (bk xs rest2)) (n2:Cm (bk xs rest2) .NotEq (.ref k2) (.list IT) false)
 (c3:call (.val (.ref 102)) [.ref 1,.str ([cc]++tp)] [] (bk xs rest2) .none (bk ys rest2)) (s2:aW (bk ys rest2) (.list M) none (some (-1)) (.list M2)) (m1:dN (bk ys rest2) (.ref (rest.length+3)) "append" "list.append") (m2:aF (bk ys rest2) "list.append" (.ref (rest.length+3)) [.str []] .none (bk ys rest3)) :
 Tn call 314 7 (.tuple [.int i,.int d]) (fr 314 [nn,some (.int r),some (.bool true),R,some (.ref 1),some (.list M),some (.list S),some (.int tk),o1,o2,o3,o4,o5]) (bk xs rest) .next (fr 314 [nn,some (.int r),some (.bool true),R,some (.ref 1),some (.list M2),some (.list (S++[.int L.length])),some (.int tk),some (.int i),some (.int d),some (.ref (rest.length+3)),some (.str nm),some (.str ([cc]++tp))]) (bk ys rest3):=by
 refine cq [.inst 136,.vh (.ref (List.length rest+3)) (bk xs (rest++[aa.list L])),.b false,.v (.int ↑(List.length L)),.v (.list (S++[.int ↑(List.length L)])),.b false,.b true,.b false,.b true,.v (.int (-1)),.v (.str nm),.v (.str tp),.v (.int ↑p),.v (.int (Int.fmod (↑p) 2)),.v (.str [cc]),.v (.str tp),.v (.str ([cc]++tp)),.inst 131,.vh (.str tp) (bk xs (rest++[aa.list L])),.v (.str tp),.b false,.inst 148,.vh (.ref k2) (bk xs rest2),.lh IT (bk xs rest2),.b false,.inst 102,.vh .none (bk ys rest2),.b true,.v (.int (-1)),.v (.list M2),.meth "list.append",.vh .none (bk ys rest3)] (q:=fun K=>(∃c,ly (bk xs rest) (.ref (1:Nat)) (Str.ofString "keys") c∧am C1 c (Str.ofString "keys")=some (136:Addr))∧(call (.val (.ref 136)) [.ref 1] [] (bk xs rest) (.ref (List.length rest+3)) (bk xs (rest++[aa.list L])))∧(Cm (bk xs (rest++[aa.list L])) .NotEq (.ref (List.length rest+3)) (.list M) false)∧(ay (bk xs (rest++[aa.list L])) (.builtin "len") [.ref (List.length rest+3)] (.int ↑(List.length L)))∧(ah (bk xs (rest++[aa.list L])) .Add (.list S) (.list [.int ↑(List.length L)]) (.list (S++[.int ↑(List.length L)])))∧(Tr (bk xs (rest++[aa.list L])) (.int d) false)∧(Tr (bk xs (rest++[aa.list L])) (.ref (List.length rest+3)) true)∧(Tr (bk xs (rest++[aa.list L])) (.int d) false)∧(Tr (bk xs (rest++[aa.list L])) (.bool true) true)∧(bS .USub (.int 1) (.int (-1)))∧(bx (bk xs (rest++[aa.list L])) (.list M) (.int (-1)) (.str nm))∧(-(2:Int) ^ (62:Nat)<(1:Int)∧(1:Int)<(2:Int) ^ (62:Nat))∧(aW (bk xs (rest++[aa.list L])) (.str nm) (some 1) none (.str tp))∧(ay (bk xs (rest++[aa.list L])) (.type "int") [.str tp] (.int ↑p))∧(ah (bk xs (rest++[aa.list L])) .Mod (.int ↑p) (.int 2) (.int (Int.fmod (↑p) 2)))∧(bx (bk xs (rest++[aa.list L])) (.str [66,98]) (.int (Int.fmod (↑p) 2)) (.str [cc]))∧(-(2:Int) ^ (62:Nat)<(1:Int)∧(1:Int)<(2:Int) ^ (62:Nat))∧(aW (bk xs (rest++[aa.list L])) (.str nm) (some 1) none (.str tp))∧(ah (bk xs (rest++[aa.list L])) .Add (.str [cc]) (.str tp) (.str ([cc]++tp)))∧(∃c,ly (bk xs (rest++[aa.list L])) (.ref (1:Nat)) (Str.ofString "get") c∧am C1 c (Str.ofString "get")=some (131:Addr))∧(call (.val (.ref 131)) [.ref 1,.str ([cc]++tp)] [] (bk xs (rest++[aa.list L])) (.str tp) (bk xs (rest++[aa.list L])))∧(-(2:Int) ^ (62:Nat)<(1:Int)∧(1:Int)<(2:Int) ^ (62:Nat))∧(aW (bk xs (rest++[aa.list L])) (.str nm) (some 1) none (.str tp))∧(Cm (bk xs (rest++[aa.list L])) .NotEq (.str tp) (.str tp) false)∧(∃c,ly (bk xs (rest++[aa.list L])) (.ref (1:Nat)) (Str.ofString "items") c∧am C1 c (Str.ofString "items")=some (148:Addr))∧(call (.val (.ref 148)) [.ref 1] [] (bk xs (rest++[aa.list L])) (.ref k2) (bk xs rest2))∧(au (It.items false none M)=true)∧(Cp call 33 ix none M (fr 314 [nn,some (.int r),some (.bool true),R,some (.ref 1),some (.list M),some (.list (S++[.int ↑(List.length L)])),some (.int tk),some (.int i),some (.int d),some (.ref (List.length rest+3)),some (.str nm),some (.str ([cc]++tp))]) (bk xs rest2) IT (bk xs rest2))∧(Cm (bk xs rest2) .NotEq (.ref k2) (.list IT) false)∧(∃c,xw (bk xs rest2) (.ref (1:Nat)) c∧am C1 c (Str.ofString "__delitem__")=some (102:Addr))∧(call (.val (.ref 102)) [.ref 1,.str ([cc]++tp)] [] (bk xs rest2) .none (bk ys rest2))∧(Tr (bk ys rest2) (.bool true) true)∧(bS .USub (.int 1) (.int (-1)))∧(-(2:Int) ^ (62:Nat)<(-1:Int)∧(-1:Int)<(2:Int) ^ (62:Nat))∧(aW (bk ys rest2) (.list M) none (some (-1)) (.list M2))∧(dN (bk ys rest2) (.ref (List.length rest+3)) (Str.ofString "append") "list.append")∧(aF (bk ys rest2) "list.append" (.ref (List.length rest+3)) [.str []] .none (bk ys rest3))∧(K .next (fr 314 [nn,some (.int r),some (.bool true),R,some (.ref 1),some (.list M2),some (.list (S++[.int ↑(List.length L)])),some (.int tk),some (.int i),some (.int d),some (.ref (List.length rest+3)),some (.str nm),some (.str ([cc]++tp))]) (bk ys rest3))) (fun K=>by kernel_rfl) fun K hK=>⟨⟨_,⟨(.mk rfl rfl (by exact eV)),(by exact qG)⟩⟩,‹_›,ne,(.lenL lo (by exact aS ‹_›)),(.app .val .val (by exact bp ‹_› (Nat.le_of_ble_eq_true rfl))),(.int ‹_›),(.list lo (by exact aS ‹_›) ‹_›),(.int ‹_›),.bool,.neg,(.list .val ‹_› ‹_›),⟨(by exact Int.natCast_nonneg _),(by exact Int.natCast_nonneg _)⟩,s1,(.int ‹_› ‹_› ‹_›),(.mod (by decide)),(.str ‹_› ‹_›),⟨(by exact Int.natCast_nonneg _),(by exact Int.natCast_nonneg _)⟩,s1,(.cat (by exact bp (Nat.le_of_ble_eq_true rfl) ‹_›)),⟨_,⟨(.mk rfl rfl (by exact eV)),(by exact zW)⟩⟩,‹_›,⟨(by exact Int.natCast_nonneg _),(by exact Int.natCast_nonneg _)⟩,s1,(.neS ‹_›),⟨_,⟨(.mk rfl rfl (by exact eV)),(by exact zX)⟩⟩,‹_›,(by exact small ‹_›),‹_›,n2,⟨_,⟨(.mk rfl),(by exact zY)⟩⟩,‹_›,.bool,.neg,⟨(by exact Int.natCast_nonneg _),(by exact Int.natCast_nonneg _)⟩,s2,m1,m2,hK⟩
theorem yx {nm tp:List Nat}{p j jj cc k2:Nat}{IT M2:List V}(hd:(!(d==0))=false) (he:(!L.isEmpty)=true) (p1:aE M.length 0=some j) (p2:M[j]? = some (.str nm)) (s1:aW (bk xs (rest++[.list L])) (.str nm) (some 1) none (.str tp)) (z1:tp.length<640) (z2:tp≠[]) (z3:bi tp 0=some p) (z4:tp.length<1000)
 (q1:aE 2 ((p:Int).fmod 2)=some jj) (q2:([66,98]:List Nat)[jj]? = some cc) (c1:call (.val (.ref 131)) [.ref 1,.str ([cc]++tp)] [] (bk xs (rest++[.list L])) (.str tp) (bk xs (rest++[.list L]))) (ee:(tp != tp)=false)
 (c2:call (.val (.ref 148)) [.ref 1] [] (bk xs (rest++[.list L])) (.ref k2) (bk xs rest2)) (hM:M.length<1048576) (cp:Cp call 33 ix none M (fr 314 [nn,some (.int r),some (.bool false),R,some (.ref 1),some (.list M),some (.list (S++[.int L.length])),some (.int tk),some (.int i),some (.int d),some (.ref (rest.length+3)),some (.str nm),some (.str ([cc]++tp))]) (bk xs rest2) IT (bk xs rest2)) (n2:Cm (bk xs rest2) .NotEq (.ref k2) (.list IT) false)
 (c3:call (.val (.ref 102)) [.ref 1,.str ([cc]++tp)] [] (bk xs rest2) .none (bk ys rest2)) (s2:aW (bk ys rest2) (.list M) (some 1) none (.list M2)) (m1:dN (bk ys rest2) (.ref (rest.length+3)) "append" "list.append") (m2:aF (bk ys rest2) "list.append" (.ref (rest.length+3)) [.str []] .none (bk ys rest3)) :
 Tn call 314 7 (.tuple [.int i,.int d]) (fr 314 [nn,some (.int r),some (.bool false),R,some (.ref 1),some (.list M),some (.list S),some (.int tk),o1,o2,o3,o4,o5]) (bk xs rest) .next (fr 314 [nn,some (.int r),some (.bool false),R,some (.ref 1),some (.list M2),some (.list (S++[.int L.length])),some (.int tk),some (.int i),some (.int d),some (.ref (rest.length+3)),some (.str nm),some (.str ([cc]++tp))]) (bk ys rest3):=by
 refine cq [.inst 136,.vh (.ref (List.length rest+3)) (bk xs (rest++[aa.list L])),.b false,.v (.int ↑(List.length L)),.v (.list (S++[.int ↑(List.length L)])),.b false,.b true,.b false,.b false,.v (.str nm),.v (.str tp),.v (.int ↑p),.v (.int (Int.fmod (↑p) 2)),.v (.str [cc]),.v (.str tp),.v (.str ([cc]++tp)),.inst 131,.vh (.str tp) (bk xs (rest++[aa.list L])),.v (.str tp),.b false,.inst 148,.vh (.ref k2) (bk xs rest2),.lh IT (bk xs rest2),.b false,.inst 102,.vh .none (bk ys rest2),.b false,.v (.list M2),.meth "list.append",.vh .none (bk ys rest3)] (q:=fun K=>(∃c,ly (bk xs rest) (.ref (1:Nat)) (Str.ofString "keys") c∧am C1 c (Str.ofString "keys")=some (136:Addr))∧(call (.val (.ref 136)) [.ref 1] [] (bk xs rest) (.ref (List.length rest+3)) (bk xs (rest++[aa.list L])))∧(Cm (bk xs (rest++[aa.list L])) .NotEq (.ref (List.length rest+3)) (.list M) false)∧(ay (bk xs (rest++[aa.list L])) (.builtin "len") [.ref (List.length rest+3)] (.int ↑(List.length L)))∧(ah (bk xs (rest++[aa.list L])) .Add (.list S) (.list [.int ↑(List.length L)]) (.list (S++[.int ↑(List.length L)])))∧(Tr (bk xs (rest++[aa.list L])) (.int d) false)∧(Tr (bk xs (rest++[aa.list L])) (.ref (List.length rest+3)) true)∧(Tr (bk xs (rest++[aa.list L])) (.int d) false)∧(Tr (bk xs (rest++[aa.list L])) (.bool false) false)∧(bx (bk xs (rest++[aa.list L])) (.list M) (.int 0) (.str nm))∧(-(2:Int) ^ (62:Nat)<(1:Int)∧(1:Int)<(2:Int) ^ (62:Nat))∧(aW (bk xs (rest++[aa.list L])) (.str nm) (some 1) none (.str tp))∧(ay (bk xs (rest++[aa.list L])) (.type "int") [.str tp] (.int ↑p))∧(ah (bk xs (rest++[aa.list L])) .Mod (.int ↑p) (.int 2) (.int (Int.fmod (↑p) 2)))∧(bx (bk xs (rest++[aa.list L])) (.str [66,98]) (.int (Int.fmod (↑p) 2)) (.str [cc]))∧(-(2:Int) ^ (62:Nat)<(1:Int)∧(1:Int)<(2:Int) ^ (62:Nat))∧(aW (bk xs (rest++[aa.list L])) (.str nm) (some 1) none (.str tp))∧(ah (bk xs (rest++[aa.list L])) .Add (.str [cc]) (.str tp) (.str ([cc]++tp)))∧(∃c,ly (bk xs (rest++[aa.list L])) (.ref (1:Nat)) (Str.ofString "get") c∧am C1 c (Str.ofString "get")=some (131:Addr))∧(call (.val (.ref 131)) [.ref 1,.str ([cc]++tp)] [] (bk xs (rest++[aa.list L])) (.str tp) (bk xs (rest++[aa.list L])))∧(-(2:Int) ^ (62:Nat)<(1:Int)∧(1:Int)<(2:Int) ^ (62:Nat))∧(aW (bk xs (rest++[aa.list L])) (.str nm) (some 1) none (.str tp))∧(Cm (bk xs (rest++[aa.list L])) .NotEq (.str tp) (.str tp) false)∧(∃c,ly (bk xs (rest++[aa.list L])) (.ref (1:Nat)) (Str.ofString "items") c∧am C1 c (Str.ofString "items")=some (148:Addr))∧(call (.val (.ref 148)) [.ref 1] [] (bk xs (rest++[aa.list L])) (.ref k2) (bk xs rest2))∧(au (It.items false none M)=true)∧(Cp call 33 ix none M (fr 314 [nn,some (.int r),some (.bool false),R,some (.ref 1),some (.list M),some (.list (S++[.int ↑(List.length L)])),some (.int tk),some (.int i),some (.int d),some (.ref (List.length rest+3)),some (.str nm),some (.str ([cc]++tp))]) (bk xs rest2) IT (bk xs rest2))∧(Cm (bk xs rest2) .NotEq (.ref k2) (.list IT) false)∧(∃c,xw (bk xs rest2) (.ref (1:Nat)) c∧am C1 c (Str.ofString "__delitem__")=some (102:Addr))∧(call (.val (.ref 102)) [.ref 1,.str ([cc]++tp)] [] (bk xs rest2) .none (bk ys rest2))∧(Tr (bk ys rest2) (.bool false) false)∧(-(2:Int) ^ (62:Nat)<(1:Int)∧(1:Int)<(2:Int) ^ (62:Nat))∧(aW (bk ys rest2) (.list M) (some 1) none (.list M2))∧(dN (bk ys rest2) (.ref (List.length rest+3)) (Str.ofString "append") "list.append")∧(aF (bk ys rest2) "list.append" (.ref (List.length rest+3)) [.str []] .none (bk ys rest3))∧(K .next (fr 314 [nn,some (.int r),some (.bool false),R,some (.ref 1),some (.list M2),some (.list (S++[.int ↑(List.length L)])),some (.int tk),some (.int i),some (.int d),some (.ref (List.length rest+3)),some (.str nm),some (.str ([cc]++tp))]) (bk ys rest3))) (fun K=>by kernel_rfl) fun K hK=>⟨⟨_,⟨(.mk rfl rfl (by exact eV)),(by exact qG)⟩⟩,‹_›,ne,(.lenL lo (by exact aS ‹_›)),(.app .val .val (by exact bp ‹_› (Nat.le_of_ble_eq_true rfl))),(.int ‹_›),(.list lo (by exact aS ‹_›) ‹_›),(.int ‹_›),.bool,(.list .val ‹_› ‹_›),⟨(by exact Int.natCast_nonneg _),(by exact Int.natCast_nonneg _)⟩,s1,(.int ‹_› ‹_› ‹_›),(.mod (by decide)),(.str ‹_› ‹_›),⟨(by exact Int.natCast_nonneg _),(by exact Int.natCast_nonneg _)⟩,s1,(.cat (by exact bp (Nat.le_of_ble_eq_true rfl) ‹_›)),⟨_,⟨(.mk rfl rfl (by exact eV)),(by exact zW)⟩⟩,‹_›,⟨(by exact Int.natCast_nonneg _),(by exact Int.natCast_nonneg _)⟩,s1,(.neS ‹_›),⟨_,⟨(.mk rfl rfl (by exact eV)),(by exact zX)⟩⟩,‹_›,(by exact small ‹_›),‹_›,n2,⟨_,⟨(.mk rfl),(by exact zY)⟩⟩,‹_›,.bool,⟨(by exact Int.natCast_nonneg _),(by exact Int.natCast_nonneg _)⟩,s2,m1,m2,hK⟩
end
end Mini
set_option maxRecDepth 100000
set_option autoImplicit false
set_option exponentiation.threshold 5000
namespace Mini
open PySem
section
variable {call:ad}{ds Z E M S L OUT xs:List V}{rest:H}{σ2:H}{x r tk k:Int}{ky:Nat}{last:Bool}{o1 o2 o3 o4 o5:Option V}
theorem Az {nn rr lv R hh mm tt:Option V}{i d a b:Int}{j j2:Nat}{q1 q2:Option V}{σ:H}(p1:aE S.length i=some j) (p2:S[j]? = some (.int a)) (p3:aE S.length (i+1)=some j2) (p4:S[j2]? = some (.int b)) :
 Tc call 36 (ex 314 10 [0,0]) (.tuple [.int i,.int d]) (cf (ex 314 10 [0,0]) (fr 314 [nn,rr,lv,R,hh,mm,some (.list S),tt,o1,o2,o3,o4,o5]) [none,q1,q2]) σ (some (.int (d+a - b))) (cf (ex 314 10 [0,0]) (fr 314 [nn,rr,lv,R,hh,mm,some (.list S),tt,o1,o2,o3,o4,o5]) [none,some (.int i),some (.int d)]):=by
 refine dW [.v (.int a),.v (.int (d+a)),.v (.int (i+1)),.v (.int b),.v (.int (d+a - b))] (q:=fun K=>(bx σ (.list S) (.int i) (.int a))∧(ah σ .Add (.int d) (.int a) (.int (d+a)))∧(ah σ .Add (.int i) (.int 1) (.int (i+1)))∧(bx σ (.list S) (.int (i+1)) (.int b))∧(ah σ .Sub (.int (d+a)) (.int b) (.int (d+a - b)))∧(K (some (.int (d+a - b))) (cf (ex 314 10 [0,0]) (fr 314 [nn,rr,lv,R,hh,mm,some (.list S),tt,o1,o2,o3,o4,o5]) [none,some (.int i),some (.int d)]) σ)) (fun K=>by kernel_rfl) fun K hK=>⟨(.list .val ‹_› ‹_›),.add,.add,(.list .val ‹_› ‹_›),.sub,hK⟩
theorem yy (c1:call (.val (.ref 209)) [.int x,.int 1] [] [] (.list ds) []) (s1:aW [] (.list ds) (some (-1)) none (.list E)) (n1:Cm [] .Eq (.list E) (.list [.int 0]) false) (b1:ah [] .Mult (.list [.int 0]) (.int r) (.list Z)) (hd:ds.length<1000) (hz:Z.length<1000)
 (c2:call (.val (.ref 184)) [] [] [] (.ref 1) (bk [] [])) (hE:(dR (ds++Z)).length<1048576)
 (lp:Lp call 314 7 none (dR (ds++Z)) (fr 314 [some (.int x),some (.int r),some (.bool last),some (.list (ds++Z)),some (.ref 1),some (.list []),some (.list []),some (.int 0)]) (bk [] []) .next (fr 314 [some (.int x),some (.int r),some (.bool last),some (.list (ds++Z)),some (.ref 1),some (.list M),some (.list S),some (.int tk),o1,o2,o3,o4,o5]) (bk xs rest))
 (c3:call (.val (.ref 136)) [.ref 1] [] (bk xs rest) (.ref ky) σ2) (lo:LO σ2 (.ref ky) L) (hL:L.length<1000) (hS:S.length<1000) (q1:aE (S++[V.int L.length]).length (-1)=some S.length) (q2:(S++[V.int L.length])[S.length]? = some (.int L.length)) (q3:((L.length:Int) != 0)=false)
 (cp:Cp call 36 (ex 314 10 [0,0]) none (dR (ds++Z)) (fr 314 [some (.int x),some (.int r),some (.bool last),some (.list (ds++Z)),some (.ref 1),some (.list M),some (.list (S++[.int L.length])),some (.int tk),o1,o2,o3,o4,o5]) σ2 OUT σ2) (c4:call (.val (.ref 216)) [.list OUT,.int 1] [] σ2 (.int k) σ2) :
 ag C1 call (bJ 314).body (fr 314 [some (.int x),some (.int r),some (.bool last)]) [] (.tuple [.int k,.int tk]) σ2:=by
 refine aC [.vh (.list ds) [],.v (.int (-1)),.v (.list E),.b false,.v (.list Z),.v (.list (ds++Z)),.vh (.ref 1) (bk [] []),.st .next (fr 314 [some (.int x),some (.int r),some (.bool last),some (.list (ds++Z)),some (.ref 1),some (.list M),some (.list S),some (.int tk),o1,o2,o3,o4,o5]) (bk xs rest),.inst 136,.vh (.ref ky) σ2,.v (.int ↑(List.length L)),.v (.list (S++[.int ↑(List.length L)])),.v (.int (-1)),.v (.int ↑(List.length L)),.b false,.lh OUT σ2,.vh (.int k) σ2] (q:=(call (.val (.ref 209)) [.int x,.int 1] [] [] (.list ds) [])∧(bS .USub (.int 1) (.int (-1)))∧(-(2:Int) ^ (62:Nat)<(-1:Int)∧(-1:Int)<(2:Int) ^ (62:Nat))∧(aW [] (.list ds) (some (-1)) none (.list E))∧(Cm [] .Eq (.list E) (.list [.int 0]) false)∧(ah [] .Mult (.list [.int 0]) (.int r) (.list Z))∧(ah [] .Add (.list ds) (.list Z) (.list (ds++Z)))∧(call (.val (.ref 184)) [] [] [] (.ref 1) (bk [] []))∧(Lp call 314 7 none (dR (ds++Z)) (fr 314 [some (.int x),some (.int r),some (.bool last),some (.list (ds++Z)),some (.ref 1),some (.list []),some (.list []),some (.int 0)]) (bk [] []) .next (fr 314 [some (.int x),some (.int r),some (.bool last),some (.list (ds++Z)),some (.ref 1),some (.list M),some (.list S),some (.int tk),o1,o2,o3,o4,o5]) (bk xs rest))∧(∃c,ly (bk xs rest) (.ref (1:Nat)) (Str.ofString "keys") c∧am C1 c (Str.ofString "keys")=some (136:Addr))∧(call (.val (.ref 136)) [.ref 1] [] (bk xs rest) (.ref ky) σ2)∧(ay σ2 (.builtin "len") [.ref ky] (.int ↑(List.length L)))∧(ah σ2 .Add (.list S) (.list [.int ↑(List.length L)]) (.list (S++[.int ↑(List.length L)])))∧(bS .USub (.int 1) (.int (-1)))∧(bx σ2 (.list (S++[.int ↑(List.length L)])) (.int (-1)) (.int ↑(List.length L)))∧(Cm σ2 .NotEq (.int ↑(List.length L)) (.int 0) false)∧(au (It.items true none (dR (ds++Z)))=true)∧(Cp call 36 (ex 314 10 [0,0]) none (dR (ds++Z)) (fr 314 [some (.int x),some (.int r),some (.bool last),some (.list (ds++Z)),some (.ref 1),some (.list M),some (.list (S++[.int ↑(List.length L)])),some (.int tk),o1,o2,o3,o4,o5]) σ2 OUT σ2)∧(call (.val (.ref 216)) [.list OUT,.int 1] [] σ2 (.int k) σ2)∧(cZ (.tuple [.int k,.int tk]) (.tuple [.int k,.int tk]) σ2 σ2)) (by kernel_rfl) ⟨‹_›,.neg,⟨(by exact Int.natCast_nonneg _),(by exact Int.natCast_nonneg _)⟩,s1,n1,b1,(.app .val .val (by exact bp ‹_› ‹_›)),‹_›,‹_›,⟨_,⟨(.mk rfl rfl (by exact eV)),(by exact qG)⟩⟩,‹_›,(.lenL lo (by exact aS ‹_›)),(.app .val .val (by exact bp ‹_› (Nat.le_of_ble_eq_true rfl))),.neg,(.list .val ‹_› ‹_›),(.neI ‹_›),(by exact small ‹_›),‹_›,‹_›,fin⟩
end
end Mini
set_option maxRecDepth 100000
set_option autoImplicit false
set_option exponentiation.threshold 5000
namespace Mini
open PySem
structure Txt (n:Nat):Prop where
 t:bR (ae n)=true
 l:(ae n).length<100
 z:ae n≠[]
 r:bi (ae n) 0=some n
 w:(ae n).map low=ae n
theorem yz:((List.range 200).all fun n=>bR (ae (n:Nat))&&Nat.blt (ae (n:Nat)).length 100 && !(ae (n:Nat)).isEmpty&&bi (ae (n:Nat)) 0==some n&&(ae (n:Nat)).map low==ae (n:Nat))=true:=by decide +kernel
theorem qH {n:Nat}(h:n<200):Txt n:=by
 have:=List.all_eq_true.mp yz n (List.mem_range.mpr h);simp only [Bool.and_eq_true,Bool.not_eq_true',List.isEmpty_eq_false_iff,beq_iff_eq] at this;exact⟨this.1.1.1.1,Nat.le_of_ble_eq_true this.1.1.1.2,this.1.1.2,this.1.2,this.2⟩
theorem vN {p q:Nat}(hp:p<200) (hq:q<200) (h:ae (p:Nat)=ae (q:Nat)):p=q:=by
 have:=(qH hp).r;rw [h,(qH hq).r] at this;exact (Option.some.inj this).symm
noncomputable def zH (p:Nat):Nat:=([98,66]:List Nat).getD (p % 2) 0
noncomputable def AA (p:Nat):Nat:=([66,98]:List Nat).getD (p % 2) 0
noncomputable def gJ (p:Nat):List Nat:=[zH p]++ae (p:Nat)
noncomputable def ng (p:Nat):List Nat:=[AA p]++ae (p:Nat)
noncomputable def cG (p:Nat):V:=.str (gJ p)
noncomputable def bF (ps:List Nat):List Hv:=ps.map fun p=>(gJ p,ae (p:Nat))
theorem iy {p:Nat}:aE 2 ((p:Int).fmod 2)=some (p % 2)∧([98,66]:List Nat)[p % 2]? = some (zH p)∧([66,98]:List Nat)[p % 2]? = some (AA p)∧low (zH p)=98∧low (AA p)=98∧bR [zH p]=true∧bR [AA p]=true:=by
 have h2:p % 2<2:=Nat.mod_lt _ (by decide)
 refine⟨by rw [show (2:Int)=((2:Nat):Int) from rfl,dd]; exact cg (by decide) h2,?_⟩
 unfold zH AA;generalize p % 2=k at h2;exact (by decide:∀k,k<2→([98,66]:List Nat)[k]? = some (([98,66]:List Nat).getD k 0)∧([66,98]:List Nat)[k]? = some (([66,98]:List Nat).getD k 0)∧low (([98,66]:List Nat).getD k 0)=98∧low (([66,98]:List Nat).getD k 0)=98∧bR [([98,66]:List Nat).getD k 0]=true∧bR [([66,98]:List Nat).getD k 0]=true) k h2
theorem cx {s:List Nat}(h:bR s=true):bH s=true:=List.all_eq_true.mpr fun c hc=>by
 have:=(Bool.and_eq_true_iff.mp (List.all_eq_true.mp h c hc)).2;exact Nat.ble_eq_true_of_le (Nat.le_trans (Nat.succ_le_succ (Nat.le_of_ble_eq_true this)) (by decide))
theorem iA {a b:List Nat}(h1:bR a=true) (h2:bR b=true):bR (a++b)=true:=by
 unfold bR at *;rw [List.all_append,h1,h2]; rfl
section
variable {p q:Nat}
theorem gU (h:p<200):bR (gJ p)=true:=iA iy.2.2.2.2.2.1 (qH h).t
theorem vO (h:p<200):bR (ng p)=true:=iA iy.2.2.2.2.2.2 (qH h).t
theorem kB (h:p<200):(gJ p).length<1000:=by
 unfold gJ;rw [List.length_append];exact Nat.lt_trans (Nat.add_lt_add_left (qH h).l 1) (by decide)
theorem sQ (h:p<200):(ng p).length<1000:=by
 unfold ng;rw [List.length_append];exact Nat.lt_trans (Nat.add_lt_add_left (qH h).l 1) (by decide)
theorem yA (h:p<200):(gJ p).map low=98::ae (p:Nat):=by
 unfold gJ;rw [List.map_append,(qH h).w];exact congrArg (· :: _) iy.2.2.2.1
theorem sS (h:p<200):(ng p).map low=98::ae (p:Nat):=by
 unfold ng;rw [List.map_append,(qH h).w];exact congrArg (· :: _) iy.2.2.2.2.1
theorem pU (hp:p<200) (hq:q<200):((gJ q).map low==(ng p).map low)=(q==p):=by
 rw [yA hq,sS hp]
 by_cases h:q=p
 ·subst h; rw [beq_self_eq_true,beq_self_eq_true]
 ·rw [beq_eq_false_iff_ne.mpr h,beq_eq_false_iff_ne.mpr fun e=>h (vN hq hp (List.cons.inj e).2)]
theorem gV {α:Type}{c:α}{s:List α}:a9 (c::s) (some 1) none=s:=by
 have e:aL (c::s).length (some 1) 0=1:=by
  exact (nG 1 (s.length+1)).trans (Nat.min_eq_left (Nat.succ_le_succ (Nat.zero_le _)))
 show ((c::s).drop (aL (c::s).length (some 1) 0)).take ((c::s).length - aL (c::s).length (some 1) 0)=s;rw [e];exact List.take_length
end
section
variable {ps:List Nat}{p:Nat}
theorem xh (h:∀p,p∈ps→p<200):∀q,q∈bF ps→AZ q:=fun q hq=>by
 obtain⟨p,hp,rfl⟩:=List.mem_map.mp hq;exact⟨cx (gU (h p hp)),kB (h p hp)⟩
theorem kE:(bF ps).length=ps.length:=List.length_map ..
theorem yB (h:∀p,p∈ps→p<200) (hp:p<200):keep (ng p) (bF ps)=bF (ps.filter (· != p)):=by
 unfold keep bF
 induction ps with
 |nil=>rfl
 |cons q ps ih=>
  have e:((gJ q).map low != (ng p).map low)=(q != p):=congrArg not (pU hp (h q List.mem_cons_self));have ih:=ih fun q hq=>h q (List.mem_cons_of_mem _ hq)
  rw [List.map_cons,List.filter_cons,List.filter_cons,e,ih];cases q != p <;> rfl
theorem yC (h:∀p,p∈ps→p<200) (hp:p∈ps):jz (ng p) (bF ps)=some (gJ p,ae (p:Nat)):=by
 unfold jz bF
 induction ps with
 |nil=>cases hp
 |cons q ps ih=>
  have e:((gJ q).map low==(ng p).map low)=(q==p):=pU (h p hp) (h q List.mem_cons_self);rw [List.map_cons,List.find?_cons,e];cases g:q==p with
  |true=>rw [eq_of_beq g]
  |false=>exact ih (fun q hq=>h q (List.mem_cons_of_mem _ hq)) ((List.mem_cons.mp hp).resolve_left fun e=>by rw [e,beq_self_eq_true] at g; cases g)
theorem pV (h:p∉ps):ps.filter (· != p)=ps:=List.filter_eq_self.mpr fun q hq=>bne_iff_ne.mpr fun e=>h (e▸hq)
theorem yD (h:(p::ps).Nodup):(p::ps).filter (· != p)=ps:=by
 rw [List.filter_cons,bne_self_eq_false];exact pV (List.nodup_cons.mp h).1
theorem sT (h:(ps++[p]).Nodup):(ps++[p]).filter (· != p)=ps:=by
 have hn:p∉ps:=fun q=>(List.nodup_append.mp h).2.2 _ q _ (List.mem_singleton.mpr rfl) rfl
 rw [List.filter_append,pV hn,List.filter_cons,bne_self_eq_false];exact List.append_nil ps
theorem qI {n:Nat}{hs:List Hv}{s:List Nat}{rest:H}(ha:bH s=true) (ht:bR (s.map low)=true) (hl:s.length<1000) (hh:∀p,p∈hs→AZ p) {q:Hv}(hf:jz s hs=some q) :
  ab C1 (n+2) (.val (.ref 131)) [.ref 1,.str s] [] (bk (hs.map hv) rest) (.str q.2) (bk (hs.map hv) rest):=by
 obtain⟨p1,p2,h⟩:=xJ (n:=n+1) (s:=s) (df:=.none) (σ:=bk (hs.map hv) rest) hh rfl none none;have l:=h (fun f2 ρ2 σ2=>f2=BF (jz s hs)∧ρ2=fr 131 [some (.ref 1),some (.str (s.map low)),some .none,p1,p2]∧σ2=bk (hs.map hv) rest) ⟨rfl,rfl,rfl⟩
 rw [hf] at l;exact aN (ρ:=fr 131 [some (.ref 1),some (.str s),some .none]) (by kernel_rfl) (by kernel_rfl) (uZ ha hl (fn ht (na hl)) l)
end
end Mini
set_option maxRecDepth 100000
set_option autoImplicit false
set_option exponentiation.threshold 5000
namespace Mini
open PySem
theorem pW {w:List Nat}:(iz w).map V.int=w.map iv:=by unfold iz; rw [List.map_map]; rfl
theorem yE {σ:H}{a:V}{y:List Nat}(h:DO σ a (ch y)):zL σ a (.dict (ch y)):=.mk h rfl (.hit rfl (.hit rfl .nil))
theorem yF {σ:H}{D:List Nat}{k0:Nat}(h:∀i d,D[i]? = some d→DO σ (.ref (4*(k0+i)+3)) (ch (ae (d:Nat)))) :
  zB σ ((List.range' k0 D.length).map fun k=>.tuple [.str [101],.ref (4*k+3)]) (D.map fun d=>.tuple [.str [101],.dict (ch (ae (d:Nat)))]):=by
 induction D generalizing k0 with
 |nil=>exact .nil
 |cons d D ih=>
  rw [List.length_cons,List.range'_succ];exact .cons (yE (h 0 d rfl)) (ih fun i e hi=>by
   have:=h (i+1) e hi;rwa [←Nat.add_assoc,Nat.add_right_comm] at this)
theorem pX {w:List Nat}(hw:ap w):w.sum≤w.length:=by
 induction w with
 |nil=>exact Nat.le_refl 0
 |cons d w ih=>rw [List.sum_cons,List.length_cons,Nat.add_comm]; exact Nat.add_le_add (ih hw.tl) (hw d List.mem_cons_self)
theorem AB {σ:H}{xs:List Int}{r:Int}(hm:r∈xs) (hl:∀b,b∈xs→b≤r):ay σ (.builtin "max") [.list (xs.map .int)] (.int r):=by
 cases xs with
 |nil=>cases hm
 |cons a ns=>exact .maxL .val hm hl
theorem AC {k:Nat}:cH k=mA (Nat.beq k 4)∧mkB k=mB (Nat.beq k 3):=by
 unfold cH mkB;cases Nat.beq k 4 <;> cases Nat.beq k 3 <;> exact⟨rfl,rfl⟩
theorem pY {k m:Nat}:((k:Int)==(m:Int))=Nat.beq k m:=by
 by_cases h:k=m
 ·subst h; rw [beq_self_eq_true,Nat.beq_refl]
 ·rw [beq_eq_false_iff_ne.mpr fun e=>h (Int.ofNat_inj.mp e),Bool.eq_false_iff.mpr fun q=>h (Nat.eq_of_beq_eq_true q)]
theorem kF {α:Type}{e:Expr}{d:Nat}{call:ad}(dec f:α→V) {as:List α}{ρ:P}{σ:H}(h0:aH C1 (jc e).scope ρ=cf e ρ [none,none]) (h:∀a,a∈as→∀o,Tc call d e (dec a) (cf e ρ [none,o]) σ (some (f a)) (cf e ρ [none,some (dec a)])):Cp call d e none (as.map dec) ρ σ (as.map f) σ:=by
 rw [←List.filterMap_eq_map' (f:=f)];exact jx dec (fun a=>some (f a)) (fun ρ'=>∃o,ρ'=cf e ρ [none,o]) rfl ⟨none,h0⟩ trivial fun a ha ρ' ⟨o,q⟩=>⟨_,⟨_,rfl⟩,q▸h a ha o⟩
theorem sU {odd:Bool}:(xf odd).length≤1:=by cases odd <;> exact Nat.le_of_ble_eq_true rfl
theorem sV {odd:Bool}:jt (bK odd)=true:=by cases odd <;> rfl
theorem vP {k:Nat}:(cH k).length≤4:=by
 unfold cH;cases Nat.beq k 4 <;> exact Nat.le_of_ble_eq_true rfl
theorem vQ {k:Nat}:(mkB k).length≤4:=by
 unfold mkB;cases Nat.beq k 3 <;> exact Nat.le_of_ble_eq_true rfl
theorem yG {k d:Nat}:(sg k d).length≤4:=by
 unfold sg
 by_cases h:d=0
 ·rw [if_pos h]; exact vQ
 ·rw [if_neg h]; exact vP
theorem AD {k:Nat}:cH k++mkB k≠[]:=by
 unfold cH;cases Nat.beq k 4 <;> exact List.cons_ne_nil _ _
theorem vR {k:Nat}{odd:Bool}{u:List Nat}:(iw k odd u).length≤4*u.length+1:=by
 unfold iw;rw [List.length_append];exact Nat.add_le_add (lV fun _ _=>yG) sU
theorem vS {odd:Bool}{L:List Nat}:(uI odd L).length≤L.length+1:=by
 unfold uI;rw [List.length_append,List.length_map];exact Nat.add_le_add_left sU _
theorem yH {k:Nat}(h:k<5):([.val (.ref 260),.val (.ref 281),.val (.ref 267),.val (.ref 288),.val (.ref 274)]:List V)[k]? = some (.val (.ref (Bk k))):=by
 have:=congrArg (Option.map fun a=>V.val (.ref a)) ((by decide:∀k,k<5→([260,281,267,288,274]:List Nat)[k]? = some (Bk k)) k h)
 rw [←List.getElem?_map] at this;exact this
theorem HB.one {tl:V}{B:H}(h0:rq tl B 0 ⟨0,[]⟩) (h:B.length+1=4):HB tl [⟨0,[]⟩] B:=⟨(fun m e h=>by
  cases m with
  |zero=>exact Option.some.inj h▸h0
  |succ m=>exact nomatch h),h⟩
theorem kG {n x k:Nat}{σ:H}(hx:x<2 ^ 90) (hk:k∈k5):ab C1 (n+103) (.val (.ref 319)) [.int x,.int k] [] σ (.list ((i9 (aT x)).map iv)) σ:=by
 have hw:ap (aT x):=eE;have hl0:(aT x).length≤90:=iq hx;have c1:ab C1 (n+102) (.val (.ref 209)) [.int x,.int 1] [] [] (.list ((aT x).map iv)) []:=fw (n:=n+92) (w:=1) (Nat.le_refl 1) (by decide) (Nat.lt_trans hx (by decide))
 generalize aT x=w at *;have hs:=pX hw;have hs90:=Nat.le_trans hs hl0;have hd:(w.map iv).length<1000:=by rw [List.length_map]; exact Nat.lt_of_le_of_lt hl0 (by decide)
 have c2:=pR (n:=n+101) (tag:=[97,108,108]) (attr:=.dict (ch [48])) (σ:=[]);obtain⟨odd,ho⟩:∃odd,(!((x:Int).fmod 2==0))=odd:=⟨_,rfl⟩;have u1:cY C1 ([]++[.fobj (some 1),.dict (dP 0 [97,108,108] (.dict (ch [48])) [] (.str [])),.list []]) (.ref 0) "tail" (bK odd) [.fobj (some 1),.dict (dP 0 [97,108,108] (.dict (ch [48])) [] (bK odd)),.list []]:=by
  have:=cY.fobj (C:=C1) (σ:=[]++[.fobj (some 1),.dict (dP 0 [97,108,108] (.dict (ch [48])) [] (.str [])),.list []]) (i:=0) (d:=1) (n:= "tail") (v:=bK odd) rfl (by kernel_rfl) rfl (by decide)
  rw [pS] at this;exact this
 have sm:ay [.fobj (some 1),.dict (dP 0 [97,108,108] (.dict (ch [48])) [] (bK odd)),.list []] (.builtin "sum") [.list (w.map iv)] (.int (w.sum:Nat)):=by
  have:=ay.sum (σ:=[.fobj (some 1),.dict (dP 0 [97,108,108] (.dict (ch [48])) [] (bK odd)),.list []]) (LO.val (xs:=(iz w).map .int));rw [rY,pW] at this;exact this
 have b1:ah [.fobj (some 1),.dict (dP 0 [97,108,108] (.dict (ch [48])) [] (bK odd)),.list []] .Mult (.list [.int 0]) (.int (w.sum:Nat)) (.list (List.replicate w.sum (V.int 0))):=by
  have:=ah.rep (σ:=[.fobj (some 1),.dict (dP 0 [97,108,108] (.dict (ch [48])) [] (bK odd)),.list []]) (n:=(w.sum:Nat)) (LO.val (xs:=[V.int 0])) (Int.natCast_nonneg _) (Int.ofNat_lt.mpr (Nat.lt_of_le_of_lt hs90 (by decide)):_<((4096:Nat):Int)) (by decide)
  rw [pq,Int.toNat_natCast] at this;exact this
 have eW:w.map iv++List.replicate w.sum (V.int 0)=(w++zs w.sum).map iv:=by rw [List.map_append,List.map_replicate]; rfl
 have hbW:ap (w++zs w.sum):=bf hw;have hWl:(w++zs w.sum).length≤180:=by rw [List.length_append,List.length_replicate]; exact Nat.add_le_add hl0 hs90
 have X0:HB (bK odd) [⟨0,[]⟩] [.fobj (some 1),.dict (dP 0 [97,108,108] (.dict (ch [48])) [] (bK odd)),.list []]:=.one ⟨rfl,rfl,rfl,nofun⟩ rfl;have V0:HV (bK odd) ⟨[⟨0,[]⟩],0,[],[]⟩ [.fobj (some 1),.dict (dP 0 [97,108,108] (.dict (ch [48])) [] (bK odd)),.list []] 0 []:=⟨X0,rfl,⟨⟨0,[]⟩,[],[],rfl,.nil,.root,rfl⟩,rfl,(fun m e h=>by
  cases m with
  |zero=>cases h; exact Nat.le_refl 0
  |succ m=>cases h)⟩
 obtain⟨ρ',B,I,Lq⟩:=rU (call:=ab C1 (n+102)) (a:=319) (i:=5) (xs0:=(w++zs w.sum).map iv) iv (HI x k (bK odd) (.list (w.map iv)) (w++zs w.sum) ((w++zs w.sum).foldl nT ⟨[⟨0,[]⟩],0,[],[]⟩) (dq 0 (w++zs w.sum))) (fun d as ρ σ I=>sF (n:=n+100) d as ρ σ I) (w++zs w.sum)
  (fr 319 [some (.int x),some (.int k),some (.list (w.map iv)),some (.ref 0),some (.list [.ref 0]),some (.list []),none,none]) [.fobj (some 1),.dict (dP 0 [97,108,108] (.dict (ch [48])) [] (bK odd)),.list []] (.mk (s:=⟨[⟨0,[]⟩],0,[],[]⟩) (N:=0) (D:=[]) V0 hbW ((Nat.zero_add _).symm▸Nat.lt_of_le_of_lt hWl (by decide)) (Nat.le_refl 0) rfl rfl rfl)
 have l1:=w4 Lq;have fe:=yj (s:=⟨[⟨0,[]⟩],0,[],[]⟩) (h:=0) hbW rfl;obtain⟨v,_y1,_y2,_y3,hf,hdd,rfl⟩:=I;rename_i s N D o1 o2;have hf:s=(w++zs w.sum).foldl nT ⟨[⟨0,[]⟩],0,[],[]⟩:=hf;rw [←hf] at fe;clear hf;have hD:D=dq 0 w:=by
  have:D++[]=dq 0 (w++zs w.sum):=hdd;rw [List.append_nil,yo] at this;exact this
 have hdl:D.length=w.sum:=hD▸yp hw;have hNl:N=w.sum:=by
  have:=congrArg List.length v.d;rw [List.length_map,v.n,List.length_cons,hdl] at this;exact Nat.succ.inj this
 have hN9:N≤90:=hNl▸hs90;have hst0:s.st=[]:=List.eq_nil_of_length_eq_zero (by
  rw [fe.n,kn];have:=nR (h:=0) hw;rw [Nat.zero_add] at this;exact Nat.sub_eq_zero_of_le this)
 have hy:s.y=0:=by
  have:=fe.z;rw [hst0] at this;exact Option.some.inj this
 obtain⟨el,P,L,he,hc,hp,hwL⟩:=v.o.ex;rw [hst0] at hp l1;rw [hy] at he hc l1;cases hp with | root=>
 have hLw:L=lR w:=by
  have:=fe.w;rw [hwL] at this;exact this
 have bL:=kq hw;rw [←hLw] at bL;have hLl:L.length≤180:=by
  have:=kr (n:=mx 0 w) bL;rw [hLw,pJ hw,gP hw,dD hw (Nat.le_refl _) (Nat.zero_le _)] at this;rw [hLw,←this,List.length_nil,Nat.zero_add];exact Nat.mul_le_mul_left 2 hs90
 have ser:=sJ (n:=n) (B:=B) (odd:=odd) v.X he hc (Nat.lt_of_le_of_lt hLl (by decide)) (v.n▸Nat.le_trans (Nat.succ_le_succ hN9) (by decide))
 have hg:∀Q,(B++[aa.list Q])[B.length]? = some (.list Q):=fun Q=>ga (k:=0)
 have XR:=HB.r (R:=[.list (dg odd L)]) v.X;have hpl:(uI odd L).length<300:=Nat.lt_of_le_of_lt vS (Nat.lt_of_le_of_lt (Nat.succ_le_succ hLl) (by decide))
 have m1:aF (B++[.list (dg odd L)]) "str.join" (.str []) [.ref B.length] (.str (uI odd L)) (B++[.list (dg odd L)]):=by
  have:=aF.join (σ:=B++[.list (dg odd L)]) (sep:=[]) (v:=.ref B.length) (ts:=zG odd L) (by rw [←Bj]; exact .ref (hg _)) (by rw [pT]; exact Nat.lt_trans hpl (by decide)) (by decide)
  rwa [pT] at this
 have c4:=vL (n:=n+101) (σ:=B++[.list (dg odd L)]) hk (vM (odd:=odd) (L:=L)) (Nat.lt_trans hpl (by decide))
 rw [Ax hk] at c4;have hk5:k<5:=(by decide:∀k,k∈k5→k<5) k hk
 have i2:=yH hk5;have c5:=jA (n:=n+101) (r:=w.length) (w:=w) (σ:=B++[.list (dg odd L)]) hw (Nat.lt_of_le_of_lt hl0 (by decide))
 have s5:aW (B++[.list (dg odd L)]) (.list ((0::hl w.length 0 w).map iv)) (some 1) none (.list ((hl w.length 0 w).map iv)):=by
  have:=aW.list (σ:=B++[.list (dg odd L)]) (lo:=some 1) (hi:=none) (LO.val (xs:=(0::hl w.length 0 w).map iv)) (aS (by rw [List.length_map,List.length_cons,kz]; exact Nat.lt_of_le_of_lt (Nat.succ_le_succ hl0) (by decide)))
  have e:a9 ((0::hl w.length 0 w).map iv) (some 1) none=(hl w.length 0 w).map iv:=gV;rwa [e] at this
 have hdk:∀i d,D[i]? = some d→∃e,s.els[i+1]? = some e∧e.dp=d:=fun i d h=>by
  have h2:(s.els.map (·.dp))[i+1]? = some d:=by rw [v.d]; exact h
  rw [List.getElem?_map] at h2;cases q:s.els[i+1]? with
  |none=>rw [q] at h2; cases h2
  |some e=>rw [q] at h2; exact⟨e,rfl,Option.some.inj h2⟩
 have p2:∀vs,Cp (ab C1 (n+102)) 37 (ex 319 11 [0]) none (dJ N) (fr 319 vs) (B++[.list (dg odd L)]) ((List.range N).map fun k=>.tuple [.str [101],.ref (4*k+3)]) (B++[.list (dg odd L)]):=fun vs=>kF (fun k=>rf (k+1)) _ (by kernel_rfl) fun j hj o=>by
  obtain⟨e,he,_⟩:=hdk j (D[j]'(by rw [hdl,←hNl]; exact List.mem_range.mp hj)) (List.getElem?_eq_getElem _)
  have b:=XR.b _ e he;exact Ar (b.o (by kernel_rfl) (by kernel_rfl) rfl) (b.o (nm:= "attrib") (v:=.ref (4*j+3)) (by kernel_rfl) (by kernel_rfl) rfl)
 have hDb:∀d,d∈D→d≤90:=fun d hd=>Nat.le_trans ((sO (h:=0) hw).1 d (hD▸hd)) (Nat.le_trans (nV hw) (by rw [Nat.zero_add]; exact hs90))
 have p3:∀vs,Cp (ab C1 (n+102)) 37 (ex 319 11 [1]) none (D.map iv) (fr 319 vs) (B++[.list (dg odd L)]) (D.map fun d=>.tuple [.str [101],.dict (ch (ae (d:Nat)))]) (B++[.list (dg odd L)]):=fun vs=>kF iv _ (by kernel_rfl) fun d hd o=>As (Nat.lt_trans (Nat.lt_of_le_of_lt (hDb d hd) (by decide:90<1000)) (by decide))
 have n1:Cm (B++[.list (dg odd L)]) .NotEq (.list ((List.range N).map fun k=>.tuple [.str [101],.ref (4*k+3)])) (.list (D.map fun d=>.tuple [.str [101],.dict (ch (ae (d:Nat)))])) false:=by
  refine .neTDs .val .val ?_;have:=yF (σ:=B++[.list (dg odd L)]) (D:=D) (k0:=0) fun i d h=>by
   obtain⟨e,he,rfl⟩:=hdk i d h;rw [Nat.zero_add];exact .ref ((XR.b _ e he).a i rfl)
  rw [hdl,←hNl,←List.range_eq_range'] at this;exact this
 have mx1:ay (B++[.list (dg odd L)]) (.builtin "max") [.list (D.map iv++[.int 0])] (.int (mx 0 w:Nat)):=by
  have e:D.map iv++[V.int 0]=((iz (D++[0])).map .int):=by rw [pW,List.map_append]; rfl
  rw [e];refine AB ?_ fun b hb=>?_
  ·unfold iz;refine List.mem_map.mpr ⟨mx 0 w,?_,rfl⟩;rcases (sO (h:=0) hw).2 with h | h
   ·exact List.mem_append_left _ (hD▸h)
   ·rw [h]; exact List.mem_append_right _ (List.mem_singleton.mpr rfl)
  ·obtain⟨d,hd,rfl⟩:=List.mem_map.mp hb;refine Int.ofNat_le.mpr ?_;rcases List.mem_append.mp hd with h | h
   ·exact (sO (h:=0) hw).1 d (hD▸h)
   ·rw [List.mem_singleton.mp h]; exact Nat.zero_le _
 have hmx:mx 0 w≤90:=Nat.le_trans (nV hw) (by rw [Nat.zero_add]; exact hs90)
 have M:=mt hk;obtain⟨eA,eB⟩:=AC (k:=k);have hmne:=AD (k:=k);have wl:∀t,(iw k odd (dQ t L)).length<2000:=fun t=>Nat.lt_of_le_of_lt (Nat.le_trans vR (Nat.succ_le_succ (Nat.mul_le_mul_left 4 (Nat.le_trans (Nat.le_add_right _ _) (Nat.le_trans (Nat.le_of_eq (kr (n:=t) bL)) hLl))))) (by decide)
 have st1:∀t,dc (cH k++mkB k) [] (iw k odd (dQ t L)) 0=iw k odd (dQ (t+1) L)∧gH (cH k++mkB k) (iw k odd (dQ t L)) 0=ct false (dQ t L):=fun t=>by
  have:=qF (odd:=odd) (b:=false) (h:=0) M (pH (n:=t) bL);rw [lQ];exact this
 have l2:=fun(a4 a5 a6 a7:Option V) (σ:H)=>yn (call:=ab C1 (n+102)) (a:=319) (i:=13) (b:=0) (N:=mx 0 w) (c:=(mx 0 w:Nat)) (fun t=>fr 319 [some (.int x),some (.int k),some (.list (w.map iv)),some (.ref 0),a4,a5,a6,a7,some (.ref B.length),some (.str (iw k odd (dQ t L))),some (.tstr (cH k++mkB k)),some (.list (D.map iv)),some (.list (((List.range t).map fun t=>ct false (dQ t L)).map iv)),xg 0 t]) (fun _=>σ) (Int.zero_add _).symm fun t ht=>by
  have c:=Ao (call:=ab C1 (n+102)) (x:=x) (kind:=k) (R:=.list (w.map iv)) (rt:=0) (o3:=a4) (o4:=a5) (o1:=a6) (o2:=a7) (o5:=some (.ref B.length)) (wr:=iw k odd (dQ t L)) (mk:=cH k++mkB k) (r:=.list (D.map iv)) (C:=((List.range t).map fun t=>ct false (dQ t L)).map iv) (o6:=xg 0 t) (t:=0+(t:Nat)) (wr2:=iw k odd (dQ (t+1) L)) (σ:=σ) hmne (by rw [List.length_map,List.length_map,List.length_range]; exact Nat.lt_trans ht (Nat.lt_of_le_of_lt hmx (by decide))) (by
   have:=xv.mk (s:=iw k odd (dQ t L)) (p:=cH k++mkB k) (q:=[]) hmne hmne (by rw [List.length_nil,Nat.mul_zero,Nat.add_zero]; exact Nat.lt_trans (wl t) (by decide))
   have e:replace (cH k++mkB k) [] (iw k odd (dQ t L))=iw k odd (dQ (t+1) L):=(st1 t).1;rwa [e] at this)
  have ec:(count (cH k++mkB k) (iw k odd (dQ t L)))=ct false (dQ t L):=(st1 t).2;rw [ec] at c;have en:((List.range (t+1)).map fun t=>ct false (dQ t L)).map iv=((List.range t).map fun t=>ct false (dQ t L)).map iv++[.int (ct false (dQ t L):Nat)]:=by rw [List.range_succ,List.map_append,List.map_append]; rfl
  rw [en];exact c
 have hr:(range 0 (mx 0 w:Nat)).length<1048576:=by
  unfold range;rw [List.length_map,List.length_range,Int.sub_zero,Int.toNat_natCast];exact Nat.lt_of_le_of_lt hmx (by decide)
 have hz:(a0 ((hl w.length 0 w).map iv) (w.map iv)).length<1048576:=by
  rw [lW,List.length_map,List.length_zip];exact Nat.lt_of_le_of_lt (Nat.min_le_right _ _) (Nat.lt_of_le_of_lt hl0 (by decide))
 have hon:(dJ N).length<1048576:=by unfold dJ; rw [List.length_map,List.length_range]; exact Nat.lt_of_le_of_lt hN9 (by decide)
 have hDl:(D.map iv).length<1000:=by rw [List.length_map,hdl]; exact Nat.lt_of_le_of_lt hs90 (by decide)
 have f5:=(XR.b 0 el he).o (nm:= "tail") (v:=bK odd) (by kernel_rfl) (by kernel_rfl) sV
 have dee:=fun(vs:List (Option V))=>yr (call:=ab C1 (n+102)) hw (ρ:=fr 319 vs) (σ:=B++[.list (dg odd L)]) (by kernel_rfl)
 rw [←hD] at dee;rw [←eW] at l1;have hH:i9 w=(List.range (mx 0 w)).map fun t=>ct false (dQ t L):=by rw [hLw]; rfl
 rw [hH];rw [eA,eB] at l2;have elw:(w.length:Int)=((w.map iv).length:Nat):=by rw [List.length_map]
 rw [elw] at c5;have ew:(iw k odd (dQ (mx 0 w) L)==xf odd)=true:=by rw [hLw,pJ hw]; exact beq_self_eq_true _
 exact aR (by kernel_rfl) rfl (by kernel_rfl) (yl (a4:=Nat.beq k 4) (a3:=Nat.beq k 3) c1 c2 ho u1 sm b1 hd (by rw [List.length_replicate]; exact Nat.lt_of_le_of_lt hs90 (by decide)) (by rw [eW,List.length_map]; exact Nat.lt_of_le_of_lt hWl (by decide)) l1 (.ref (hg _)) ser m1 (cg (n:=5) (by decide) hk5) i2 c4 (pY (m:=4)) (pY (m:=3)) c5 s5 hz (dee _) hon (p2 _) hDl (p3 _) n1 mx1 (Nat.lt_of_le_of_lt hmx (by decide)) hr (l2 _ _ _ _ _) f5 ew) (.val dY)
end Mini
set_option maxRecDepth 100000
set_option autoImplicit false
set_option exponentiation.threshold 5000
namespace Mini
open PySem
theorem yI {call:ad}{nm tp:List Nat}{ρ:P}{σ:H}{o:Option V}(s1:aW σ (.str nm) (some 1) none (.str tp)):Tc call 33 ix (.str nm) (cf ix ρ [none,o]) σ (some (.tuple [.str nm,.str tp])) (cf ix ρ [none,some (.str nm)]):=by
 refine dW [.v (.str tp)] (q:=fun K=>(-(2:Int) ^ (62:Nat)<(1:Int)∧(1:Int)<(2:Int) ^ (62:Nat))∧(aW σ (.str nm) (some 1) none (.str tp))∧(K (some (.tuple [.str nm,.str tp])) (cf ix ρ [none,some (.str nm)]) σ)) (fun K=>by kernel_rfl) fun K hK=>⟨⟨(by decide),(by decide)⟩,s1,hK⟩
section
variable {l c d:Nat}{w pre:List Nat}
theorem fnl_snoc:bY l c (w++[d])=sH l (bY l c w) d:=ik
theorem vT:hl l c (w++[d])=hl l c w++[sH l (bY l c w) d]:=by
 induction w generalizing c with
 |nil=>rfl
 |cons e w ih=>exact congrArg (_ :: ·) ih
theorem iB:bg l c (w++[d])=bg l c w+(sH l (bY l c w) d - bY l c w):=il
theorem pZ:(c::hl l c w).dropLast++[bY l c w]=c::hl l c w:=by
 induction w generalizing c with
 |nil=>rfl
 |cons d w ih=>exact congrArg (c :: ·) ih
theorem sW {α:Type}{l:List α}:a9 l none (some (-1))=l.dropLast:=by
 cases l with
 |nil=>rfl
 |cons x l=>
  show (x::l).take ((max 0 (min ((-1:Int)+((l.length+1:Nat):Int)) ((l.length+1:Nat):Int))).toNat - 0)=_;rw [rX,Nat.sub_zero,List.dropLast_eq_take]; rfl
end
structure PV (l:Nat) (pre ps:List Nat):Prop where
 n:ps.length=bY l 0 pre
 b:∀p,p∈ps→p<pre.length
 d:ps.Nodup
noncomputable def sX (l:Nat) (pre:List Nat):List V:=(0::hl l 0 pre).dropLast.map iv
theorem vU {l d:Nat}{pre:List Nat}:sX l pre++[iv (bY l 0 pre)]=sX l (pre++[d]):=by
 have e:(0::hl l 0 (pre++[d])).dropLast=0::hl l 0 pre:=by
  rw [vT];exact List.dropLast_concat (l₁:=0::hl l 0 pre)
 unfold sX;rw [e];have:=congrArg (List.map iv) (pZ (l:=l) (c:=0) (w:=pre));rw [List.map_append] at this;exact this
theorem sY {l:Nat}{pre:List Nat}:(sX l pre).length=pre.length:=by
 unfold sX;rw [List.length_map,List.length_dropLast,List.length_cons,kz]; rfl
inductive PI (x l:Nat) (last:Bool) (W:List Nat) (as:List (Nat×Nat)) (ρ:Mini.P) (σ:H):Prop
 |mk {pre suf ps:List Nat}{rest:H}{o1 o2 o3 o4 o5:Option V}(e:W=pre++suf) (ea:as=suf.zipIdx pre.length) (v:PV l pre ps)
  (er:ρ=fr 314 [some (.int x),some (.int l),some (.bool last),some (.list (W.map iv)),some (.ref 1),some (.list (ps.map cG)),some (.list (sX l pre)),some (.int (bg l 0 pre:Nat)),o1,o2,o3,o4,o5]) (es:σ=bk ((bF ps).map hv) rest)
theorem vV {q:Nat×Nat}{as:List (Nat×Nat)}{suf:List Nat}{n:Nat}(h:q::as=suf.zipIdx n):∃d s,suf=d::s∧q=(d,n)∧as=s.zipIdx (n+1):=by
 cases suf with
 |nil=>exact nomatch h
 |cons d s=>
  rw [List.zipIdx_cons] at h;exact⟨d,s,rfl,(List.cons.inj h).1,(List.cons.inj h).2⟩
theorem yJ {ps:List Nat}(h:∀p,p∈ps→p<200):uH (ps.map cG):=by
 induction ps with
 |nil=>exact .nil
 |cons p ps ih=>exact .str (cx (gU (h p List.mem_cons_self))) (ih fun q hq=>h q (List.mem_cons_of_mem _ hq))
theorem AE {ps:List Nat}(h:∀p,p∈ps→p<200):zA ((bF ps).map hv):=by
 induction ps with
 |nil=>exact .nil
 |cons p ps ih=>exact .cons (.str (cx (gU (h p List.mem_cons_self))) (.str (cx (qH (h p List.mem_cons_self)).t) .nil)) (ih fun q hq=>h q (List.mem_cons_of_mem _ hq))
theorem sZ {call:ad}{ps:List Nat}(h:∀p,p∈ps→p<200) {vs:List (Option V)}{σ:H}:Cp call 33 ix none (ps.map cG) (fr 314 vs) σ ((bF ps).map hv) σ:=by
 have e:(bF ps).map hv=ps.filterMap fun p=>some (.tuple [.str (gJ p),.str (ae (p:Nat))]):=by
  rw [List.filterMap_eq_map'];unfold bF;rw [List.map_map]; rfl
 rw [e];exact jx cG _ (fun ρ=>∃o,ρ=cf ix (fr 314 vs) [none,o]) rfl ⟨none,by kernel_rfl⟩ trivial fun p hp ρ ⟨o,e⟩=>⟨cf ix (fr 314 vs) [none,some (.str (gJ p))],⟨_,rfl⟩,e▸yI (by
  have:=aW.str (σ:=σ) (s:=gJ p) (lo:=some 1) (hi:=none) (aS (kB (h p hp)));have e:a9 (gJ p) (some 1) none=ae (p:Nat):=gV;rwa [e] at this)⟩
theorem s0 {p:Nat}(h:p<200) {σ:H}:aW σ (.str (gJ p)) (some 1) none (.str (ae (p:Nat))):=by
 have:=aW.str (σ:=σ) (s:=gJ p) (lo:=some 1) (hi:=none) (aS (kB h));have e:a9 (gJ p) (some 1) none=ae (p:Nat):=gV;rwa [e] at this
structure Dn (n:Nat) (ps ps2:List Nat) (p:Nat) (rest:H):Prop where
 c1:ab C1 (n+2) (.val (.ref 131)) [.ref 1,.str (ng p)] [] (bk ((bF ps).map hv) (rest++[.list (ps.map cG)])) (.str (ae (p:Nat))) (bk ((bF ps).map hv) (rest++[.list (ps.map cG)]))
 c2:ab C1 (n+2) (.val (.ref 148)) [.ref 1] [] (bk ((bF ps).map hv) (rest++[.list (ps.map cG)])) (.ref (rest.length+4)) (bk ((bF ps).map hv) (rest++[.list (ps.map cG),.list ((bF ps).map hv)]))
 n2:Cm (bk ((bF ps).map hv) (rest++[.list (ps.map cG),.list ((bF ps).map hv)])) .NotEq (.ref (rest.length+4)) (.list ((bF ps).map hv)) false
 c3:ab C1 (n+2) (.val (.ref 102)) [.ref 1,.str (ng p)] [] (bk ((bF ps).map hv) (rest++[.list (ps.map cG),.list ((bF ps).map hv)])) .none (bk ((bF ps2).map hv) (rest++[.list (ps.map cG),.list ((bF ps).map hv)]))
 m1:dN (bk ((bF ps2).map hv) (rest++[.list (ps.map cG),.list ((bF ps).map hv)])) (.ref (rest.length+3)) "append" "list.append"
 m2:aF (bk ((bF ps2).map hv) (rest++[.list (ps.map cG),.list ((bF ps).map hv)])) "list.append" (.ref (rest.length+3)) [.str []] .none (bk ((bF ps2).map hv) (rest++[.list (ps.map cG++[.str []]),.list ((bF ps).map hv)]))
theorem dn {n:Nat}{ps ps2:List Nat}{p:Nat}{rest:H}(h:∀p,p∈ps→p<200) (hl:ps.length<1000) (hp:p∈ps) (hf:ps.filter (· != p)=ps2):Dn n ps ps2 p rest:=by
 have hp1:=h p hp;have ha:=cx (vO hp1);have ht:bR ((ng p).map low)=true:=by
  rw [sS hp1];exact iA (a:=[98]) rfl (qH hp1).t
 have hz:(bF ps).length<1000:=kE (ps:=ps)▸hl;have c2:=nH (n:=n+1) (hs:=bF ps) (rest:=rest++[.list (ps.map cG)]) hz;have c3:=se (n:=n) (s:=ng p) (hs:=bF ps) (rest:=rest++[.list (ps.map cG),.list ((bF ps).map hv)]) ha ht (sQ hp1) (xh h) hz;rw [yB h hp1,hf] at c3;rw [List.length_append,List.append_assoc] at c2;have g:∀xs:List V,(bk xs (rest++[.list (ps.map cG),.list ((bF ps).map hv)]))[rest.length+3]? = some (.list (ps.map cG)):=fun xs=>gb (k:=0)
 have m2:=aF.append (σ:=bk ((bF ps2).map hv) (rest++[.list (ps.map cG),.list ((bF ps).map hv)])) (i:=rest.length+3) (v:=.str []) (g _) (aS (na hl));have e:∀y,(bk ((bF ps2).map hv) (rest++[.list (ps.map cG),.list ((bF ps).map hv)])).set (rest.length+3) y=bk ((bF ps2).map hv) (rest++[y,.list ((bF ps).map hv)]):=fun y=>sa (l:=bk ((bF ps2).map hv) rest) (k:=0)
 rw [e] at m2;exact⟨qI (q:=(gJ p,ae (p:Nat))) ha ht (sQ hp1) (xh h) (yC h hp),c2,.neTs (.ref (gb (k:=1))) .val (AE h),c3,.append (.ref (g _)),m2⟩
theorem s6 {n x l:Nat}{last:Bool}{W:List Nat}(h1:1≤l) (h4:l≤4) (hW:W.length<200) (hb:ap W) (q:Nat×Nat) (as:List (Nat×Nat)) (ρ:Mini.P) (σ:H) (I:PI x l last W (q::as) ρ σ) :
  ∃ρ' σ',PI x l last W as ρ' σ'∧Tn (ab C1 (n+2)) 314 7 (.tuple [.int (q.2:Nat),.int (q.1:Nat)]) ρ σ .next ρ' σ':=by
 obtain⟨e,ea,v,rfl,rfl⟩:=I;rename_i pre suf ps rest o1 o2 o3 o4 o5;obtain⟨d,suf,rfl,rfl,ea2⟩:=vV ea;have hd:d=0∨d=1:=fA (hb d (e▸List.mem_append_right _ List.mem_cons_self));have hlen:pre.length<200:=Nat.lt_of_le_of_lt (Nat.le_trans (Nat.le_add_right _ _) (Nat.le_of_eq (e▸List.length_append).symm)) hW;have hps:∀p,p∈ps→p<200:=fun p hp=>Nat.lt_trans (v.b p hp) hlen
 have hpl:ps.length<1000:=by rw [v.n]; exact Nat.lt_of_le_of_lt (Nat.le_trans (nM (Nat.zero_le l)) h4) (by decide)
 have eL:((bF ps).map fun p=>V.str p.1)=ps.map cG:=by unfold bF; rw [List.map_map]; rfl
 have hk:=jC (n:=n+1) (hs:=bF ps) (rest:=rest) (kE (ps:=ps)▸hpl);rw [eL] at hk;have lo:LO (bk ((bF ps).map hv) (rest++[.list (ps.map cG)])) (.ref (rest.length+3)) (ps.map cG):=.ref (gb (k:=0));have ne:Cm (bk ((bF ps).map hv) (rest++[.list (ps.map cG)])) .NotEq (.ref (rest.length+3)) (.list (ps.map cG)) false:=.neSc lo .val (yJ hps);have hL:(ps.map cG).length<1000:=na hpl;have hS:(sX l pre).length<1000:=by rw [sY]; exact Nat.lt_trans hlen (by decide)
 have eW:W=(pre++[d])++suf:=by rw [List.append_assoc]; exact e
 have ez:suf.zipIdx (pre.length+1)=suf.zipIdx (pre++[d]).length:=by rw [List.length_append]; rfl
 have eS:sX l pre++[V.int ((ps.map cG).length:Nat)]=sX l (pre++[d]):=by rw [List.length_map,v.n]; exact vU
 have lw:∀p,p∈ps→p<(pre++[d]).length:=fun p hp=>by rw [List.length_append]; exact Nat.lt_succ_of_lt (v.b p hp)
 rcases hd with rfl | rfl
 ·have et:bg l 0 (pre++[0])=bg l 0 pre:=by
   rw [iB,Bc,Nat.sub_eq_zero_of_le (Nat.sub_le _ _)]; rfl
  have ef:bY l 0 (pre++[0])=bY l 0 pre - 1:=fnl_snoc;cases ps with
  |nil=>
   have hc:bY l 0 pre=0:=v.n.symm;refine⟨_,_,.mk (ps:=[]) (rest:=rest++[.list []]) (o1:=some (.int (pre.length:Nat))) (o2:=some (.int (0:Nat))) (o3:=some (.ref (rest.length+3))) (o4:=o4) (o5:=o5) eW (ea2.trans ez) ⟨by rw [ef,hc]; rfl,lw,v.d⟩ rfl rfl,?_⟩
   rw [←eS,et];exact yu hk lo ne hL hS rfl rfl
  |cons p0 pt=>
   have hne:(!((p0::pt).map cG).isEmpty)=true:=rfl;cases last with
   |false=>
    have D:=dn (n:=n) (rest:=rest) hps hpl List.mem_cons_self (yD v.d);have T:=qH (hps p0 List.mem_cons_self);have C:=iy (p:=p0);refine⟨_,_,.mk (ps:=pt) (rest:=rest++[.list ((p0::pt).map cG++[.str []]),.list ((bF (p0::pt)).map hv)]) (o1:=some (.int (pre.length:Nat))) (o2:=some (.int (0:Nat))) (o3:=some (.ref (rest.length+3))) (o4:=some (.str (gJ p0))) (o5:=some (.str (ng p0))) eW (ea2.trans ez) ⟨by rw [ef,←v.n]; rfl,fun p hp=>lw p (List.mem_cons_of_mem _ hp),(List.nodup_cons.mp v.d).2⟩ rfl rfl,?_⟩
    rw [←eS,et];exact yx (nm:=gJ p0) (tp:=ae (p0:Nat)) (p:=p0) (j:=0) (M2:=pt.map cG) hk lo ne hL hS rfl hne (cg (aS hL) (Nat.succ_pos _)) rfl (s0 (hps p0 List.mem_cons_self)) (Nat.lt_trans T.l (by decide)) T.z T.r (Nat.lt_trans T.l (by decide)) C.1 C.2.2.1 D.c1 (bne_self_eq_false _) D.c2 (Nat.lt_trans hL (by decide)) (sZ hps) D.n2 D.c3 (by
     have:=aW.list (σ:=bk ((bF pt).map hv) (rest++[.list ((p0::pt).map cG),.list ((bF (p0::pt)).map hv)])) (lo:=some 1) (hi:=none) (LO.val (xs:=(p0::pt).map cG)) (aS hL);have e:a9 ((p0::pt).map cG) (some 1) none=pt.map cG:=gV;rwa [e] at this) D.m1 D.m2
   |true=>
    obtain⟨t,p,et2⟩:∃t p,p0::pt=t++[p]:=⟨(p0::pt).dropLast,(p0::pt).getLast (List.cons_ne_nil _ _),(List.dropLast_concat_getLast (List.cons_ne_nil _ _)).symm⟩;rw [et2] at hps hpl v hk lo ne hL eS lw hne ⊢;have hmem:p∈t++[p]:=List.mem_append_right _ (List.mem_singleton.mpr rfl);have D:=dn (n:=n) (rest:=rest) hps hpl hmem (sT v.d);have T:=qH (hps p hmem);have C:=iy (p:=p);have hl2:(t++[p]).length=t.length+1:=List.length_append;refine⟨_,_,.mk (ps:=t) (rest:=rest++[.list ((t++[p]).map cG++[.str []]),.list ((bF (t++[p])).map hv)]) (o1:=some (.int (pre.length:Nat))) (o2:=some (.int (0:Nat))) (o3:=some (.ref (rest.length+3))) (o4:=some (.str (gJ p))) (o5:=some (.str (ng p))) eW (ea2.trans ez) ⟨by rw [ef,←v.n,hl2]; rfl,fun p hp=>lw p (List.mem_append_left _ hp),(List.nodup_append.mp v.d).1⟩ rfl rfl,?_⟩
    rw [←eS,et];exact yw (nm:=gJ p) (tp:=ae (p:Nat)) (p:=p) (j:=t.length) (M2:=t.map cG) hk lo ne hL hS rfl hne (by rw [List.length_map,hl2]; exact de (hl2▸aS hpl)) nS (s0 (hps p hmem)) (Nat.lt_trans T.l (by decide)) T.z T.r (Nat.lt_trans T.l (by decide)) C.1 C.2.2.1 D.c1 (bne_self_eq_false _) D.c2 (Nat.lt_trans hL (by decide)) (sZ hps) D.n2 D.c3 (by
     have:=aW.list (σ:=bk ((bF t).map hv) (rest++[.list ((t++[p]).map cG),.list ((bF (t++[p])).map hv)])) (lo:=none) (hi:=some (-1)) (LO.val (xs:=(t++[p]).map cG)) (aS hL);have e:a9 ((t++[p]).map cG) none (some (-1))=t.map cG:=by rw [sW,List.map_append]; exact List.dropLast_concat
     rwa [e] at this) D.m1 D.m2
 ·by_cases hc:ps.length<l
  ·have T:=qH hlen;have C:=iy (p:=pre.length);have es:sH l (bY l 0 pre) 1=bY l 0 pre+1:=Nat.min_eq_left (v.n▸hc);have et:bg l 0 (pre++[1])=bg l 0 pre+1:=by rw [iB,es,Nat.add_sub_cancel_left]
   have ef:bY l 0 (pre++[1])=bY l 0 pre+1:=fnl_snoc.trans es;have ha:=sP (n:=n) (hs:=bF ps) (s:=gJ pre.length) (val:=ae (pre.length:Nat)) (rest:=rest++[.list (ps.map cG)]) (kE (ps:=ps)▸hpl) (gU hlen) (kB hlen) T.t (Nat.lt_trans T.l (by decide))
   have eh:bF ps++[(gJ pre.length,ae (pre.length:Nat))]=bF (ps++[pre.length]):=by unfold bF; rw [List.map_append]; rfl
   rw [eh] at ha;have em:ps.map cG++[V.str ([zH pre.length]++ae (pre.length:Nat))]=(ps++[pre.length]).map cG:=by rw [List.map_append]; rfl
   have hni:pre.length∉ps:=fun h=>Nat.lt_irrefl _ (v.b _ h)
   refine⟨_,_,.mk (ps:=ps++[pre.length]) (rest:=rest++[.list (ps.map cG)]++[.list [.str (ae (pre.length:Nat))]]) (o1:=some (.int (pre.length:Nat))) (o2:=some (.int (1:Nat))) (o3:=some (.ref (rest.length+3))) (o4:=o4) (o5:=o5) eW (ea2.trans ez) ⟨by rw [ef,List.length_append,v.n]; rfl,fun p hp=>(List.mem_append.mp hp).elim (lw p) fun h=>by rw [List.mem_singleton.mp h,List.length_append]; exact Nat.lt_succ_self _,List.nodup_append.mpr ⟨v.d,List.nodup_cons.mpr ⟨nofun,List.nodup_nil⟩,fun a ha b hb=>by rw [List.mem_singleton.mp hb]; exact fun e=>hni (e▸ha)⟩⟩ rfl rfl,?_⟩
   rw [←eS,et,←em,Int.natCast_add];exact Ay hk lo ne hL hS hL rfl (decide_eq_true (by rw [List.length_map]; exact Int.ofNat_lt.mpr hc)) C.1 C.2.1 (Nat.lt_trans hlen (by decide)) (Nat.lt_trans T.l (by decide)) (by rw [List.length_append]; exact de (Nat.lt_trans (Nat.succ_lt_succ hL) (by decide))) (List.getElem?_concat_length ..) ha
  ·have es:sH l (bY l 0 pre) 1=bY l 0 pre:=by
    have:bY l 0 pre≤l:=nM (Nat.zero_le l);rw [v.n] at hc;exact Nat.min_eq_right (Nat.le_trans (Nat.not_lt.mp hc) (Nat.le_succ _)) |>.trans (Nat.le_antisymm (Nat.not_lt.mp hc) this)
   have et:bg l 0 (pre++[1])=bg l 0 pre:=by rw [iB,es,Nat.sub_self]; rfl
   have ef:bY l 0 (pre++[1])=bY l 0 pre:=fnl_snoc.trans es;have hne:(!(ps.map cG).isEmpty)=true:=by
    cases ps with
    |nil=>exact absurd h1 hc
    |cons=>rfl
   refine⟨_,_,.mk (ps:=ps) (rest:=rest++[.list (ps.map cG)]) (o1:=some (.int (pre.length:Nat))) (o2:=some (.int (1:Nat))) (o3:=some (.ref (rest.length+3))) (o4:=o4) (o5:=o5) eW (ea2.trans ez) ⟨by rw [ef,v.n],lw,v.d⟩ rfl rfl,?_⟩
   rw [←eS,et];exact yv hk lo ne hL hS rfl (decide_eq_false (by rw [List.length_map]; exact fun q=>hc (Int.ofNat_lt.mp q))) hne
end Mini
set_option maxRecDepth 100000
set_option autoImplicit false
set_option exponentiation.threshold 5000
namespace Mini
open PySem
theorem yK {xs:List V}{x:V}:a9 (xs++[x]) (some (-1)) none=[x]:=by
 have e:aL (xs++[x]).length (some (-1)) 0=xs.length:=by
  rw [List.length_append];exact rX _
 show ((xs++[x]).drop (aL (xs++[x]).length (some (-1)) 0)).take ((xs++[x]).length - aL (xs++[x]).length (some (-1)) 0)=_;rw [e,List.drop_left,List.length_append,Nat.add_sub_cancel_left]; rfl
theorem s7 {x:Nat}:aT x=[]∨∃t,aT x=t++[1]:=by
 cases h:aT x with
 |nil=>exact .inl rfl
 |cons d w=>
  obtain⟨t,e,q⟩:∃t e,aT x=t++[e]:=⟨(aT x).dropLast,(aT x).getLast (by rw [h]; exact List.cons_ne_nil _ _),(List.dropLast_concat_getLast _).symm⟩
  rw [←h,q];have hb:ap (t++[e]):=q▸eE;have he:=fA (hb e (List.mem_append_right _ (List.mem_singleton.mpr rfl)));rcases he with rfl | rfl
  ·have hx:aA 1 (aT x)=aA 1 t:=by rw [q]; exact eD (n:=1)
   rw [vo] at hx;have:=iq (x:=x) (n:=t.length) (hx▸cK fun d h=>hb d (List.mem_append_left _ h))
   rw [q,List.length_append] at this;exact absurd this (Nat.not_succ_le_self _)
  ·exact .inr ⟨t,rfl⟩
theorem AF {l c i d:Nat}{w:List Nat}(h:w[i]? = some d):∃a,(c::hl l c w)[i]? = some a∧(c::hl l c w)[i+1]? = some (sH l a d):=by
 induction w generalizing c i with
 |nil=>cases h
 |cons e w ih=>
  cases i with
  |zero=>cases h; exact⟨c,rfl,rfl⟩
  |succ i=>exact ih h
theorem yL {l c k:Nat}{w B:List Nat}(hB:∀j,B[k+j]? = (c::hl l c w)[j]?):((w.zipIdx k).map fun p=>p.1+B.getD p.2 0 - B.getD (p.2+1) 0)=rn l c w:=by
 induction w generalizing c k with
 |nil=>rfl
 |cons d w ih=>
  have h0:B.getD k 0=c:=by
   have:=hB 0;rw [Nat.add_zero] at this;rw [List.getD_eq_getElem?_getD,this]; rfl
  have h1:B.getD (k+1) 0=sH l c d:=by rw [List.getD_eq_getElem?_getD,hB 1]; rfl
  rw [List.zipIdx_cons,List.map_cons];show (d+B.getD k 0 - B.getD (k+1) 0)::_=(d+c - sH l c d)::rn l (sH l c d) w;rw [h0,h1];refine congrArg (_ :: ·) (ih fun j=>?_)
  rw [Nat.add_assoc,Nat.add_comm 1];exact hB (j+1)
theorem vW {l c d:Nat}(h:d≤1):sH l c d≤d+c:=by
 rcases fA h with rfl | rfl
 ·rw [Bc]; exact Nat.le_trans (Nat.sub_le c 1) (Nat.le_add_left c 0)
 ·rw [BK]; exact Nat.le_trans (Nat.min_le_left _ _) (Nat.le_of_eq (Nat.add_comm c 1))
theorem kH {w:List Nat}:dR (w.map iv)=w.zipIdx.map fun p=>.tuple [.int (p.2:Nat),.int (p.1:Nat)]:=rV
theorem yM {call:ad}{l:Nat}{W:List Nat}(hb:ap W) (hW:W.length<200) {nn rr lv R hh mm tt o1 o2 o3 o4 o5:Option V}{σ:H} :
  Cp call 36 (ex 314 10 [0,0]) none (dR (W.map iv)) (fr 314 [nn,rr,lv,R,hh,mm,some (.list ((0::hl l 0 W).map iv)),tt,o1,o2,o3,o4,o5]) σ ((rn l 0 W).map iv) σ:=by
 have e:(rn l 0 W).map iv=W.zipIdx.filterMap fun p=>some (iv (p.1+(0::hl l 0 W).getD p.2 0 - (0::hl l 0 W).getD (p.2+1) 0)):=by
  rw [List.filterMap_eq_map',←yL (k:=0) (B:=0::hl l 0 W) fun j=>by rw [Nat.zero_add],List.map_map]; rfl
 rw [e];have hlen:((0::hl l 0 W).map iv).length=W.length+1:=by rw [List.length_map,List.length_cons,kz]
 have hs:((0::hl l 0 W).map iv).length<af:=by rw [hlen]; exact Nat.lt_trans (Nat.succ_lt_succ hW) (by decide)
 refine jx (fun p:Nat×Nat=>.tuple [.int (p.2:Nat),.int (p.1:Nat)]) _ (fun ρ=>∃q1 q2,ρ=cf (ex 314 10 [0,0]) (fr 314 [nn,rr,lv,R,hh,mm,some (.list ((0::hl l 0 W).map iv)),tt,o1,o2,o3,o4,o5]) [none,q1,q2]) kH ⟨none,none,by kernel_rfl⟩ trivial fun p hp ρ ⟨q1,q2,e⟩=>⟨cf (ex 314 10 [0,0]) (fr 314 [nn,rr,lv,R,hh,mm,some (.list ((0::hl l 0 W).map iv)),tt,o1,o2,o3,o4,o5]) [none,some (.int (p.2:Nat)),some (.int (p.1:Nat))],⟨_,_,rfl⟩,?_⟩
 subst e;obtain⟨d,i⟩:=p;have hp:=xF hp;have hi:i<W.length:=(List.getElem?_eq_some_iff.mp hp).1;obtain⟨a,h1,h2⟩:=AF (l:=l) (c:=0) hp;have hle:=vW (l:=l) (c:=a) (hb d (List.mem_of_getElem? hp));have e1:(0::hl l 0 W).getD i 0=a:=by rw [List.getD_eq_getElem?_getD,h1]; rfl
 have e2:(0::hl l 0 W).getD (i+1) 0=sH l a d:=by rw [List.getD_eq_getElem?_getD,h2]; rfl
 have t:=Az (call:=call) (S:=(0::hl l 0 W).map iv) (nn:=nn) (rr:=rr) (lv:=lv) (R:=R) (hh:=hh) (mm:=mm) (tt:=tt) (o1:=o1) (o2:=o2) (o3:=o3) (o4:=o4) (o5:=o5) (i:=i) (d:=d) (a:=a) (b:=(sH l a d:Nat)) (j:=i) (j2:=i+1) (q1:=q1) (q2:=q2) (σ:=σ) (cg hs (by rw [hlen]; exact Nat.lt_succ_of_lt hi)) (by rw [List.getElem?_map,h1]; rfl) (cg (k:=i+1) hs (by rw [hlen]; exact Nat.succ_lt_succ hi)) (by rw [List.getElem?_map,h2]; rfl)
 show Tc _ _ _ _ _ _ (some (.int ((d+(0::hl l 0 W).getD i 0 - (0::hl l 0 W).getD (i+1) 0:Nat):Int))) _;rw [e1,e2,Int.natCast_sub hle,Int.natCast_add];exact t
theorem qJ {n x l:Nat}{last:Bool}{σ:H}(h1:1≤l) (hl4:l≤4) (hx:x<2 ^ 140):ab C1 (n+11) (.val (.ref 314)) [.int x,.int l,.bool last] [] σ (.tuple [.int (cV l (aT x):Nat),.int (bg l 0 (aT x):Nat)]) σ:=by
 have hb0:ap (aT x):=eE;have hb:ap (aT x++zs l):=bf hb0;have hl0:(aT x).length≤140:=iq hx;have hW:(aT x++zs l).length<200:=by rw [List.length_append,List.length_replicate]; exact Nat.lt_of_le_of_lt (Nat.add_le_add hl0 hl4) (by decide)
 have c1:ab C1 (n+10) (.val (.ref 209)) [.int x,.int 1] [] [] (.list ((aT x).map iv)) []:=fw (n:=n) (w:=1) (Nat.le_refl 1) (by decide) (Nat.lt_trans hx (by decide))
 have hd:((aT x).map iv).length<1000:=by rw [List.length_map]; exact Nat.lt_of_le_of_lt hl0 (by decide)
 obtain⟨E,s1,n1⟩:∃E,aW [] (.list ((aT x).map iv)) (some (-1)) none (.list E)∧Cm [] .Eq (.list E) (.list [.int 0]) false:=by
  have s:=aW.list (σ:=[]) (lo:=some (-1)) (hi:=none) (LO.val (xs:=(aT x).map iv)) (aS hd);refine⟨_,s,?_⟩;rcases s7 (x:=x) with h | ⟨t,h⟩
  ·rw [h];exact .eqIs (ns:=[]) (ms:=[0]) .val .val (by decide)
  ·rw [h,List.map_append];have e:a9 (t.map iv++[1].map iv) (some (-1)) none=[V.int 1]:=yK;rw [e];exact .eqIs (ns:=[1]) (ms:=[0]) .val .val (by decide)
 have b1:ah [] .Mult (.list [.int 0]) (.int (l:Nat)) (.list (List.replicate l (V.int 0))):=by
  have:=ah.rep (σ:=[]) (n:=(l:Nat)) (LO.val (xs:=[V.int 0])) (Int.natCast_nonneg _) (Int.ofNat_lt.mpr (Nat.lt_of_le_of_lt hl4 (by decide)):_<((4096:Nat):Int)) (by decide)
  rw [pq,Int.toNat_natCast] at this;exact this
 have eW:(aT x).map iv++List.replicate l (V.int 0)=(aT x++zs l).map iv:=by rw [List.map_append,List.map_replicate]; rfl
 have hE:(dR ((aT x).map iv++List.replicate l (V.int 0))).length<1048576:=by rw [eW,kH,List.length_map,List.length_zipIdx]; exact Nat.lt_trans hW (by decide)
 obtain⟨ρ',σ',I,L⟩:=rU (call:=ab C1 (n+10)) (a:=314) (i:=7) (xs0:=dR ((aT x++zs l).map iv)) (fun p:Nat×Nat=>V.tuple [.int (p.2:Nat),.int (p.1:Nat)]) (PI x l last (aT x++zs l)) (fun q as ρ σ I=>s6 (n:=n+8) h1 hl4 hW hb q as ρ σ I) (aT x++zs l).zipIdx
  (fr 314 [some (.int x),some (.int l),some (.bool last),some (.list ((aT x++zs l).map iv)),some (.ref 1),some (.list []),some (.list []),some (.int 0),none,none,none,none,none]) (bk [] []) (.mk (pre:=[]) (suf:=aT x++zs l) (ps:=[]) (rest:=[]) rfl rfl ⟨rfl,nofun,List.nodup_nil⟩ rfl rfl)
 rw [←kH] at L
 replace L:=w4 L
 obtain⟨e,ea,v,rfl,rfl⟩:=I;rename_i pre suf ps rest o1 o2 o3 o4 o5;have hs:suf=[]:=by cases suf with
  |nil=>rfl
  |cons=>cases ea
 subst hs;rw [List.append_nil] at e;subst e;have hf:bY l 0 (aT x++zs l)=0:=eF (Nat.le_refl l);have hp:ps=[]:=List.eq_nil_of_length_eq_zero (v.n.trans hf);subst hp;have c3:=jC (n:=n+9) (hs:=bF []) (rest:=rest) (by decide)
 have es:sX l (aT x++zs l)++[V.int ([]:List V).length]=(0::hl l 0 (aT x++zs l)).map iv:=by
  have:=congrArg (List.map iv) (pZ (l:=l) (c:=0) (w:=aT x++zs l));rw [List.map_append,hf] at this;exact this
 have hS:(sX l (aT x++zs l)).length<1000:=by rw [sY]; exact Nat.lt_trans hW (by decide)
 have cp:=yM (call:=ab C1 (n+10)) (l:=l) hb hW (nn:=some (.int x)) (rr:=some (.int l)) (lv:=some (.bool last)) (R:=some (.list ((aT x++zs l).map iv))) (hh:=some (.ref 1)) (mm:=some (.list [])) (tt:=some (.int (bg l 0 (aT x++zs l):Nat))) (o1:=o1) (o2:=o2) (o3:=o3) (o4:=o4) (o5:=o5) (σ:=bk [] (rest++[.list []]));have ho:ap (rn l 0 (aT x++zs l)):=bE hb0;have hlo:(rn l 0 (aT x++zs l)).length<200:=by rw [rn_len]; exact hW
 have c4:=fx (n:=n) (w:=1) (ds:=rn l 0 (aT x++zs l)) (σ:=bk [] (rest++[.list []])) LO.val (kt ho) (Nat.lt_trans hlo (by decide)) (by decide) (Nat.le_trans (Nat.le_of_lt hlo) (by decide)) (Nat.le_trans (Nat.mul_le_mul_left 1 (Nat.le_of_lt hlo)) (by decide))
 have et:bg l 0 (aT x++zs l)=bg l 0 (aT x):=gO;rw [←es] at cp;rw [←eW] at cp L;rw [et] at cp L;exact aR (by kernel_rfl) rfl (by kernel_rfl) (yy c1 s1 n1 b1 hd (by rw [List.length_replicate]; exact Nat.lt_of_le_of_lt hl4 (by decide)) (sd (n:=n+8)) hE L c3 (.ref (gb (k:=0))) (by decide) hS (by rw [List.length_append]; exact de (Nat.lt_trans (Nat.succ_lt_succ hS) (by decide))) (List.getElem?_concat_length ..) rfl cp c4) (.val rfl)
end Mini
set_option maxRecDepth 100000
set_option autoImplicit false
set_option exponentiation.threshold 5000
namespace Mini
open PySem
noncomputable abbrev aq (RW:List V):List V:=RW++[.int 1,.int 0,.int 1,.int 1,.int 1]
theorem Bm {call:ad}{a:Int}{ρ:P}{o:Option V}{σ:H}:Tc call 37 (ex 331 0 [0]) (.int a) (cf (ex 331 0 [0]) ρ [none,o]) σ (some (.int (a.fmod 2))) (cf (ex 331 0 [0]) ρ [none,some (.int a)]):=by
 refine dW [.v (.int (Int.fmod a 2))] (q:=fun K=>(ah σ .Mod (.int a) (.int 2) (.int (Int.fmod a 2)))∧(K (some (.int (Int.fmod a 2))) (cf (ex 331 0 [0]) ρ [none,some (.int a)]) σ)) (fun K=>by kernel_rfl) fun K hK=>⟨(.mod (by decide)),hK⟩
theorem Bn {call:ad}{a:Int}{ρ:P}{o:Option V}{σ:H}:Tc call 36 (ex 331 1 [1,0]) (.int a) (cf (ex 331 1 [1,0]) ρ [none,o]) σ (some (.int (a.fmod 1000000))) (cf (ex 331 1 [1,0]) ρ [none,some (.int a)]):=by
 refine dW [.v (.int 1000000),.v (.int (Int.fmod a 1000000))] (q:=fun K=>(ah σ .Pow (.int 10) (.int 6) (.int 1000000))∧(ah σ .Mod (.int a) (.int 1000000) (.int (Int.fmod a 1000000)))∧(K (some (.int (Int.fmod a 1000000))) (cf (ex 331 1 [1,0]) ρ [none,some (.int a)]) σ)) (fun K=>by kernel_rfl) fun K hK=>⟨.pow,(.mod (by decide)),hK⟩
section
variable {call:ad}{xs RW TW HV HA HB RC HC:List V}{tw kind one oth x f s ta tb ro cc t3 t4 mf mx t5 ct p2 up lo pu pl t6 t7 fu fl hc:Int}{jj:Nat}{bb:Bool}
theorem vX (ca:Cp call 37 (ex 331 0 [0]) none (a9 xs none (some 60)) (fr 331 [some (.list xs)]) [] RW [])
 (cb:Cp call 36 (ex 331 1 [1,0]) none (a9 xs none (some 60)) (fr 331 [some (.list xs),none,some (.list (aq RW))]) [] TW [])
 (c1:call (.val (.ref 216)) [.list (aq RW),.int 1] [] [] (.int x) [])
 (c2:call (.val (.ref 319)) [.int x,.int kind] [] [] (.list HV) [])
 (c3:call (.val (.ref 314)) [.int x,.int one,.bool false] [] [] (.tuple [.int f,.int ta]) [])
 (c4:call (.val (.ref 314)) [.int x,.int oth,.bool true] [] [] (.tuple [.int s,.int tb]) [])
 (c5:call (.val (.ref 319)) [.int f,.int kind] [] [] (.list HV) [])
 (c6:call (.val (.ref 319)) [.int s,.int kind] [] [] (.list HV) [])
 (c7:call (.val (.ref 314)) [.int f,.int oth,.bool true] [] [] (.tuple [.int cc,.int t3]) [])
 (c8:call (.val (.ref 314)) [.int s,.int one,.bool false] [] [] (.tuple [.int cc,.int t4]) [])
 (c9:call (.val (.ref 326)) [.int f,.int (2*(aq RW).length)] [] [] (.int mf) [])
 (d1:call (.val (.ref 314)) [.int mf,.int one,.bool true] [] [] (.tuple [.int mx,.int t5]) [])
 (d2:call (.val (.ref 326)) [.int x,.int (2*(aq RW).length)] [] [] (.int mx) [])
 (d3:call (.val (.ref 230)) [.int x,.int p2] [] [] (.tuple [.int up,.int lo]) [])
 (d4:call (.val (.ref 230)) [.int (-x),.int (-p2)] [] [] (.tuple [.int up,.int (-lo)]) [])
 (d5:call (.val (.ref 230)) [.int (-x),.int p2] [] [] (.tuple [.int (-up),.int 0]) [])
 (d6:call (.val (.ref 230)) [.int x,.int (-p2)] [] [] (.tuple [.int (-up),.int (-0)]) [])
 (d7:call (.val (.ref 314)) [.int up,.int one,.bool false] [] [] (.tuple [.int pu,.int t6]) [])
 (d8:call (.val (.ref 314)) [.int lo,.int one,.bool false] [] [] (.tuple [.int pl,.int t7]) [])
 (d9:call (.val (.ref 230)) [.int f,.int p2] [] [] (.tuple [.int fu,.int fl]) [])
 (e1:call (.val (.ref 309)) [.list RC,.int one] [] [] (.list HC) [])
 (e2:call (.val (.ref 230)) [.int f,.int 2] [] [] (.tuple [.int x,.int 0]) [])
 (hx:xs.length<1000) (hz1:(a9 xs none (some 60)).length<1048576) (hR:RW.length<1000) (hRR:(aq RW).length<1000) (sm:ay [] (.builtin "sum") [.list TW] (.int tw)) (k1:(207+tw).fmod 5=kind) (k2:1+((207+tw).fdiv 5).fmod 4=one) (k3:1+((207+tw).fdiv 20).fmod 4=oth)
 (b1:-(2 ^ 62)<one) (b2:one<2 ^ 62) (b3:-(2 ^ 62)<oth) (b4:oth<2 ^ 62) (sA:aW [] (.list HV) none (some one) (.list HA)) (uA:ay [] (.builtin "sum") [.list HA] (.int ta)) (sB:aW [] (.list HV) none (some oth) (.list HB)) (uB:ay [] (.builtin "sum") [.list HB] (.int tb)) (uC:ay [] (.builtin "sum") [.list HV] (.int ro)) (uD:ay [] (.builtin "sum") [.list (aq RW)] (.int ro))
 (r1:(ta != ta)=false) (r2:(tb != tb)=false) (r3:(ro != ro)=false) (n1:Cm [] .NotEq (.list HV) (.list HV) false) (r4:(cc != cc)=false) (o1:aZ ((aq RW).length:Int)=true) (r5:(mx != mx)=false) (k4:((207+tw).fdiv 80).fmod (((aq RW).length:Int)+1)=ct) (n2:((aq RW).length:Int)+1≠0)
 (sh:ah [] .LShift (.int 1) (.int ct) (.int p2)) (hl:(!(lo==0))=false) (n3:Cm [] .NotEq (.tuple [.int up,.int (-lo)]) (.tuple [.int up,.int (-lo)]) false) (n4:Cm [] .NotEq (.tuple [.int (-up),.int 0]) (.tuple [.int (-up),.int 0]) false) (n5:Cm [] .NotEq (.tuple [.int (-up),.int (-0)]) (.tuple [.int (-up),.int (-0)]) false)
 (o2:aZ up=true) (o3:aZ p2=true) (r6:(up*p2+lo != x)=false) (r7:decide (0≤lo)=true) (r8:decide (lo<p2)=true) (b5:-(2 ^ 62)<ct) (b6:ct<2 ^ 62) (sR:aW [] (.list (aq RW)) none (some ct) (.list RC)) (hC:HC.length<1000) (p1:aE HC.length (-1)=some jj) (q1:HC[jj]? = some (.int hc)) (n6:Cm [] .Eq (.tuple [.int fu,.int fl]) (.tuple [.int pu,.int pl]) bb) (r9:Cm [] .Eq (.int hc) (.int 0) bb) (r10:Cm [] .NotEq (.bool bb) (.bool bb) false)
 (z1:decide (one > 1)=false) (n7:Cm [] .Eq (.tuple [.int x,.int 0]) (.tuple [.int x,.int 0]) true):ag C1 call (bJ 331).body (fr 331 [some (.list xs)]) [] (.bool true) []:=by
 subst k1 k2 k3 k4;refine aC [.v (.list (a9 xs none (some 60))),.lh RW [],.v (.list (aq RW)),.v (.list (a9 xs none (some 60))),.lh TW [],.v (.int tw),.v (.int (207+tw)),.v (.int (Int.fmod (207+tw) 5)),.v (.int (Int.fdiv (207+tw) 5)),.v (.int (Int.fmod (Int.fdiv (207+tw) 5) 4)),.v (.int (1+Int.fmod (Int.fdiv (207+tw) 5) 4)),.v (.int (Int.fdiv (207+tw) 20)),.v (.int (Int.fmod (Int.fdiv (207+tw) 20) 4)),.v (.int (1+Int.fmod (Int.fdiv (207+tw) 20) 4)),.vh (.int x) [],.vh (.list HV) [],.vh (.tuple [.int f,.int ta]) [],.vh (.tuple [.int s,.int tb]) [],.v (.list HA),.v (.int ta),.b false,.v (.list HB),.v (.int tb),.b false,.v (.int ro),.v (.int ro),.b false,.vh (.list HV) [],.b false,.vh (.list HV) [],.b false,.vh (.tuple [.int cc,.int t3]) [],.v (.int cc),.vh (.tuple [.int cc,.int t4]) [],.v (.int cc),.b false,.v (.int ↑(List.length (aq RW))),.v (.int (2 * ↑(List.length (aq RW)))),.vh (.int mf) [],.vh (.tuple [.int mx,.int t5]) [],.v (.int mx),.v (.int ↑(List.length (aq RW))),.v (.int (2 * ↑(List.length (aq RW)))),.vh (.int mx) [],.b false,.v (.int (Int.fdiv (207+tw) 80)),.v (.int ↑(List.length (aq RW))),.v (.int (↑(List.length (aq RW))+1)),.v (.int (Int.fmod (Int.fdiv (207+tw) 80) (↑(List.length (aq RW))+1))),.v (.int p2),.vh (.tuple [.int up,.int lo]) [],.b false,.v (.int (-up)),.v (.int (-x)),.v (.int p2),.v (.int (-p2)),.vh (.tuple [.int up,.int (-lo)]) [],.v (.int (-lo)),.b false,.v (.int (-x)),.v (.int p2),.vh (.tuple [.int (-up),.int 0]) [],.b false,.v (.int p2),.v (.int (-p2)),.vh (.tuple [.int (-up),.int (-0)]) [],.v (.int (-up)),.v (.int 0),.v (.int (-0)),.b false,.v (.int p2),.v (.int (up*p2)),.v (.int (up*p2+lo)),.b false,.b true,.v (.int p2),.b true,.vh (.tuple [.int pu,.int t6]) [],.v (.int pu),.vh (.tuple [.int pl,.int t7]) [],.v (.int pl),.v (.int p2),.vh (.tuple [.int fu,.int fl]) [],.b bb,.v (.list RC),.vh (.list HC) [],.v (.int (-1)),.v (.int hc),.b bb,.b false,.b false,.b false,.vh (.tuple [.int x,.int 0]) [],.b true] (q:=(-(2:Int) ^ (62:Nat)<(60:Int)∧(60:Int)<(2:Int) ^ (62:Nat))∧(aW [] (.list xs) none (some 60) (.list (a9 xs none (some 60))))∧(au (It.items false none (a9 xs none (some (60:Int))))=true)∧(Cp call 37 (ex 331 0 [0]) none (a9 xs none (some 60)) (fr 331 [some (.list xs)]) [] RW [])∧(ah [] .Add (.list RW) (.list [.int 1,.int 0,.int 1,.int 1,.int 1]) (.list (aq RW)))∧(-(2:Int) ^ (62:Nat)<(60:Int)∧(60:Int)<(2:Int) ^ (62:Nat))∧(aW [] (.list xs) none (some 60) (.list (a9 xs none (some 60))))∧(au (It.items false none (a9 xs none (some (60:Int))))=true)∧(Cp call 36 (ex 331 1 [1,0]) none (a9 xs none (some 60)) (fr 331 [some (.list xs),none,some (.list (aq RW))]) [] TW [])∧(ay [] (.builtin "sum") [.list TW] (.int tw))∧(ah [] .Add (.int 207) (.int tw) (.int (207+tw)))∧(ah [] .Mod (.int (207+tw)) (.int 5) (.int (Int.fmod (207+tw) 5)))∧(ah [] .FloorDiv (.int (207+tw)) (.int 5) (.int (Int.fdiv (207+tw) 5)))∧(ah [] .Mod (.int (Int.fdiv (207+tw) 5)) (.int 4) (.int (Int.fmod (Int.fdiv (207+tw) 5) 4)))∧(ah [] .Add (.int 1) (.int (Int.fmod (Int.fdiv (207+tw) 5) 4)) (.int (1+Int.fmod (Int.fdiv (207+tw) 5) 4)))∧(ah [] .FloorDiv (.int (207+tw)) (.int 20) (.int (Int.fdiv (207+tw) 20)))∧(ah [] .Mod (.int (Int.fdiv (207+tw) 20)) (.int 4) (.int (Int.fmod (Int.fdiv (207+tw) 20) 4)))∧(ah [] .Add (.int 1) (.int (Int.fmod (Int.fdiv (207+tw) 20) 4)) (.int (1+Int.fmod (Int.fdiv (207+tw) 20) 4)))∧(call (.val (.ref 216)) [.list (aq RW),.int 1] [] [] (.int x) [])∧(call (.val (.ref 319)) [.int x,.int (Int.fmod (207+tw) 5)] [] [] (.list HV) [])∧(call (.val (.ref 314)) [.int x,.int (1+Int.fmod (Int.fdiv (207+tw) 5) 4),.bool false] [] [] (.tuple [.int f,.int ta]) [])∧(call (.val (.ref 314)) [.int x,.int (1+Int.fmod (Int.fdiv (207+tw) 20) 4),.bool true] [] [] (.tuple [.int s,.int tb]) [])∧(-(2:Int) ^ (62:Nat)<(1:Int)+Int.fmod (Int.fdiv ((207:Int)+tw) (5:Int)) (4:Int)∧(1:Int)+Int.fmod (Int.fdiv ((207:Int)+tw) (5:Int)) (4:Int)<(2:Int) ^ (62:Nat))∧(aW [] (.list HV) none (some (1+Int.fmod (Int.fdiv (207+tw) 5) 4)) (.list HA))∧(ay [] (.builtin "sum") [.list HA] (.int ta))∧(Cm [] .NotEq (.int ta) (.int ta) false)∧(-(2:Int) ^ (62:Nat)<(1:Int)+Int.fmod (Int.fdiv ((207:Int)+tw) (20:Int)) (4:Int)∧(1:Int)+Int.fmod (Int.fdiv ((207:Int)+tw) (20:Int)) (4:Int)<(2:Int) ^ (62:Nat))∧(aW [] (.list HV) none (some (1+Int.fmod (Int.fdiv (207+tw) 20) 4)) (.list HB))∧(ay [] (.builtin "sum") [.list HB] (.int tb))∧(Cm [] .NotEq (.int tb) (.int tb) false)∧(ay [] (.builtin "sum") [.list HV] (.int ro))∧(ay [] (.builtin "sum") [.list (aq RW)] (.int ro))∧(Cm [] .NotEq (.int ro) (.int ro) false)∧(call (.val (.ref 319)) [.int f,.int (Int.fmod (207+tw) 5)] [] [] (.list HV) [])∧(Cm [] .NotEq (.list HV) (.list HV) false)∧(call (.val (.ref 319)) [.int s,.int (Int.fmod (207+tw) 5)] [] [] (.list HV) [])∧(Cm [] .NotEq (.list HV) (.list HV) false)∧(call (.val (.ref 314)) [.int f,.int (1+Int.fmod (Int.fdiv (207+tw) 20) 4),.bool true] [] [] (.tuple [.int cc,.int t3]) [])∧(bx [] (.tuple [.int cc,.int t3]) (.int 0) (.int cc))∧(call (.val (.ref 314)) [.int s,.int (1+Int.fmod (Int.fdiv (207+tw) 5) 4),.bool false] [] [] (.tuple [.int cc,.int t4]) [])∧(bx [] (.tuple [.int cc,.int t4]) (.int 0) (.int cc))∧(Cm [] .NotEq (.int cc) (.int cc) false)∧(ay [] (.builtin "len") [.list (aq RW)] (.int ↑(List.length (aq RW))))∧(ah [] .Mult (.int 2) (.int ↑(List.length (aq RW))) (.int (2 * ↑(List.length (aq RW)))))∧(call (.val (.ref 326)) [.int f,.int (2 * ↑(List.length (aq RW)))] [] [] (.int mf) [])∧(call (.val (.ref 314)) [.int mf,.int (1+Int.fmod (Int.fdiv (207+tw) 5) 4),.bool true] [] [] (.tuple [.int mx,.int t5]) [])∧(bx [] (.tuple [.int mx,.int t5]) (.int 0) (.int mx))∧(ay [] (.builtin "len") [.list (aq RW)] (.int ↑(List.length (aq RW))))∧(ah [] .Mult (.int 2) (.int ↑(List.length (aq RW))) (.int (2 * ↑(List.length (aq RW)))))∧(call (.val (.ref 326)) [.int x,.int (2 * ↑(List.length (aq RW)))] [] [] (.int mx) [])∧(Cm [] .NotEq (.int mx) (.int mx) false)∧(ah [] .FloorDiv (.int (207+tw)) (.int 80) (.int (Int.fdiv (207+tw) 80)))∧(ay [] (.builtin "len") [.list (aq RW)] (.int ↑(List.length (aq RW))))∧(ah [] .Add (.int ↑(List.length (aq RW))) (.int 1) (.int (↑(List.length (aq RW))+1)))∧(ah [] .Mod (.int (Int.fdiv (207+tw) 80)) (.int (↑(List.length (aq RW))+1)) (.int (Int.fmod (Int.fdiv (207+tw) 80) (↑(List.length (aq RW))+1))))∧(ah [] .LShift (.int 1) (.int (Int.fmod (Int.fdiv (207+tw) 80) (↑(List.length (aq RW))+1))) (.int p2))∧(call (.val (.ref 230)) [.int x,.int p2] [] [] (.tuple [.int up,.int lo]) [])∧(Tr [] (.int lo) false)∧(bS .USub (.int up) (.int (-up)))∧(bS .USub (.int x) (.int (-x)))∧(ah [] .LShift (.int 1) (.int (Int.fmod (Int.fdiv (207+tw) 80) (↑(List.length (aq RW))+1))) (.int p2))∧(bS .USub (.int p2) (.int (-p2)))∧(call (.val (.ref 230)) [.int (-x),.int (-p2)] [] [] (.tuple [.int up,.int (-lo)]) [])∧(bS .USub (.int lo) (.int (-lo)))∧(Cm [] .NotEq (.tuple [.int up,.int (-lo)]) (.tuple [.int up,.int (-lo)]) false)∧(bS .USub (.int x) (.int (-x)))∧(ah [] .LShift (.int 1) (.int (Int.fmod (Int.fdiv (207+tw) 80) (↑(List.length (aq RW))+1))) (.int p2))∧(call (.val (.ref 230)) [.int (-x),.int p2] [] [] (.tuple [.int (-up),.int 0]) [])∧(Cm [] .NotEq (.tuple [.int (-up),.int 0]) (.tuple [.int (-up),.int 0]) false)∧(ah [] .LShift (.int 1) (.int (Int.fmod (Int.fdiv (207+tw) 80) (↑(List.length (aq RW))+1))) (.int p2))∧(bS .USub (.int p2) (.int (-p2)))∧(call (.val (.ref 230)) [.int x,.int (-p2)] [] [] (.tuple [.int (-up),.int (-0)]) [])∧(bx [] (.tuple [.int (-up),.int 0]) (.int 0) (.int (-up)))∧(bx [] (.tuple [.int (-up),.int 0]) (.int 1) (.int 0))∧(bS .USub (.int 0) (.int (-0)))∧(Cm [] .NotEq (.tuple [.int (-up),.int (-0)]) (.tuple [.int (-up),.int (-0)]) false)∧(ah [] .LShift (.int 1) (.int (Int.fmod (Int.fdiv (207+tw) 80) (↑(List.length (aq RW))+1))) (.int p2))∧(ah [] .Mult (.int up) (.int p2) (.int (up*p2)))∧(ah [] .Add (.int (up*p2)) (.int lo) (.int (up*p2+lo)))∧(Cm [] .NotEq (.int (up*p2+lo)) (.int x) false)∧(Cm [] .LtE (.int 0) (.int lo) true)∧(ah [] .LShift (.int 1) (.int (Int.fmod (Int.fdiv (207+tw) 80) (↑(List.length (aq RW))+1))) (.int p2))∧(Cm [] .Lt (.int lo) (.int p2) true)∧(call (.val (.ref 314)) [.int up,.int (1+Int.fmod (Int.fdiv (207+tw) 5) 4),.bool false] [] [] (.tuple [.int pu,.int t6]) [])∧(bx [] (.tuple [.int pu,.int t6]) (.int 0) (.int pu))∧(call (.val (.ref 314)) [.int lo,.int (1+Int.fmod (Int.fdiv (207+tw) 5) 4),.bool false] [] [] (.tuple [.int pl,.int t7]) [])∧(bx [] (.tuple [.int pl,.int t7]) (.int 0) (.int pl))∧(ah [] .LShift (.int 1) (.int (Int.fmod (Int.fdiv (207+tw) 80) (↑(List.length (aq RW))+1))) (.int p2))∧(call (.val (.ref 230)) [.int f,.int p2] [] [] (.tuple [.int fu,.int fl]) [])∧(Cm [] .Eq (.tuple [.int fu,.int fl]) (.tuple [.int pu,.int pl]) bb)∧(-(2:Int) ^ (62:Nat)<Int.fmod (Int.fdiv ((207:Int)+tw) (80:Int)) (↑(List.length (RW++[.int (1:Int),.int (0:Int),.int (1:Int),.int (1:Int),.int (1:Int)]))+(1:Int))∧Int.fmod (Int.fdiv ((207:Int)+tw) (80:Int)) (↑(List.length (RW++[.int (1:Int),.int (0:Int),.int (1:Int),.int (1:Int),.int (1:Int)]))+(1:Int))<(2:Int) ^ (62:Nat))∧(aW [] (.list (aq RW)) none (some (Int.fmod (Int.fdiv (207+tw) 80) (↑(List.length (aq RW))+1))) (.list RC))∧(call (.val (.ref 309)) [.list RC,.int (1+Int.fmod (Int.fdiv (207+tw) 5) 4)] [] [] (.list HC) [])∧(bS .USub (.int 1) (.int (-1)))∧(bx [] (.list HC) (.int (-1)) (.int hc))∧(Cm [] .Eq (.int hc) (.int 0) bb)∧(Cm [] .NotEq (.bool bb) (.bool bb) false)∧(Cm [] .Gt (.int (1+Int.fmod (Int.fdiv (207+tw) 5) 4)) (.int 1) false)∧(Tr [] (.bool false) false)∧(call (.val (.ref 230)) [.int f,.int 2] [] [] (.tuple [.int x,.int 0]) [])∧(Cm [] .Eq (.tuple [.int x,.int 0]) (.tuple [.int x,.int 0]) true)∧(cZ (.bool true) (.bool true) [] [])) (by kernel_rfl) ⟨⟨(by exact Int.natCast_nonneg _),(by exact Int.natCast_nonneg _)⟩,(.list .val (by exact aS ‹_›)),(by exact small ‹_›),‹_›,(.app .val .val (by exact bp ‹_› (by decide))),⟨(by exact Int.natCast_nonneg _),(by exact Int.natCast_nonneg _)⟩,(.list .val (by exact aS ‹_›)),(by exact small ‹_›),‹_›,sm,.add,(.mod (by decide)),(.fdiv (by decide) rfl),(.mod (by decide)),.add,(.fdiv (by decide) rfl),(.mod (by decide)),.add,‹_›,‹_›,‹_›,‹_›,⟨‹_›,‹_›⟩,sA,uA,(.neI ‹_›),⟨‹_›,‹_›⟩,sB,uB,(.neI ‹_›),uC,uD,(.neI ‹_›),‹_›,n1,‹_›,n1,‹_›,(.tup rfl rfl),‹_›,(.tup rfl rfl),(.neI ‹_›),(.lenL .val (by exact aS ‹_›)),(.mul rfl ‹_›),‹_›,‹_›,(.tup rfl rfl),(.lenL .val (by exact aS ‹_›)),(.mul rfl ‹_›),‹_›,(.neI ‹_›),(.fdiv (by decide) rfl),(.lenL .val (by exact aS ‹_›)),.add,(.mod ‹_›),sh,‹_›,(.int ‹_›),.neg,.neg,sh,.neg,‹_›,.neg,n3,.neg,sh,‹_›,n4,sh,.neg,‹_›,(.tup rfl rfl),(.tup rfl rfl),.neg,n4,sh,(.mul ‹_› ‹_›),.add,(.neI ‹_›),(.le ‹_›),sh,(.lt ‹_›),‹_›,(.tup rfl rfl),‹_›,(.tup rfl rfl),sh,‹_›,n6,⟨‹_›,‹_›⟩,sR,‹_›,.neg,(.list .val ‹_› ‹_›),r9,r10,(.gt ‹_›),.bool,‹_›,n7,fin⟩
theorem vY (ca:Cp call 37 (ex 331 0 [0]) none (a9 xs none (some 60)) (fr 331 [some (.list xs)]) [] RW [])
 (cb:Cp call 36 (ex 331 1 [1,0]) none (a9 xs none (some 60)) (fr 331 [some (.list xs),none,some (.list (aq RW))]) [] TW [])
 (c1:call (.val (.ref 216)) [.list (aq RW),.int 1] [] [] (.int x) [])
 (c2:call (.val (.ref 319)) [.int x,.int kind] [] [] (.list HV) [])
 (c3:call (.val (.ref 314)) [.int x,.int one,.bool false] [] [] (.tuple [.int f,.int ta]) [])
 (c4:call (.val (.ref 314)) [.int x,.int oth,.bool true] [] [] (.tuple [.int s,.int tb]) [])
 (c5:call (.val (.ref 319)) [.int f,.int kind] [] [] (.list HV) [])
 (c6:call (.val (.ref 319)) [.int s,.int kind] [] [] (.list HV) [])
 (c7:call (.val (.ref 314)) [.int f,.int oth,.bool true] [] [] (.tuple [.int cc,.int t3]) [])
 (c8:call (.val (.ref 314)) [.int s,.int one,.bool false] [] [] (.tuple [.int cc,.int t4]) [])
 (c9:call (.val (.ref 326)) [.int f,.int (2*(aq RW).length)] [] [] (.int mf) [])
 (d1:call (.val (.ref 314)) [.int mf,.int one,.bool true] [] [] (.tuple [.int mx,.int t5]) [])
 (d2:call (.val (.ref 326)) [.int x,.int (2*(aq RW).length)] [] [] (.int mx) [])
 (d3:call (.val (.ref 230)) [.int x,.int p2] [] [] (.tuple [.int up,.int lo]) [])
 (d4:call (.val (.ref 230)) [.int (-x),.int (-p2)] [] [] (.tuple [.int up,.int (-lo)]) [])
 (d5:call (.val (.ref 230)) [.int (-x),.int p2] [] [] (.tuple [.int (-up),.int 0]) [])
 (d6:call (.val (.ref 230)) [.int x,.int (-p2)] [] [] (.tuple [.int (-up),.int (-0)]) [])
 (d7:call (.val (.ref 314)) [.int up,.int one,.bool false] [] [] (.tuple [.int pu,.int t6]) [])
 (d8:call (.val (.ref 314)) [.int lo,.int one,.bool false] [] [] (.tuple [.int pl,.int t7]) [])
 (d9:call (.val (.ref 230)) [.int f,.int p2] [] [] (.tuple [.int fu,.int fl]) [])
 (e1:call (.val (.ref 309)) [.list RC,.int one] [] [] (.list HC) [])
 (hx:xs.length<1000) (hz1:(a9 xs none (some 60)).length<1048576) (hR:RW.length<1000) (hRR:(aq RW).length<1000) (sm:ay [] (.builtin "sum") [.list TW] (.int tw)) (k1:(207+tw).fmod 5=kind) (k2:1+((207+tw).fdiv 5).fmod 4=one) (k3:1+((207+tw).fdiv 20).fmod 4=oth)
 (b1:-(2 ^ 62)<one) (b2:one<2 ^ 62) (b3:-(2 ^ 62)<oth) (b4:oth<2 ^ 62) (sA:aW [] (.list HV) none (some one) (.list HA)) (uA:ay [] (.builtin "sum") [.list HA] (.int ta)) (sB:aW [] (.list HV) none (some oth) (.list HB)) (uB:ay [] (.builtin "sum") [.list HB] (.int tb)) (uC:ay [] (.builtin "sum") [.list HV] (.int ro)) (uD:ay [] (.builtin "sum") [.list (aq RW)] (.int ro))
 (r1:(ta != ta)=false) (r2:(tb != tb)=false) (r3:(ro != ro)=false) (n1:Cm [] .NotEq (.list HV) (.list HV) false) (r4:(cc != cc)=false) (o1:aZ ((aq RW).length:Int)=true) (r5:(mx != mx)=false) (k4:((207+tw).fdiv 80).fmod (((aq RW).length:Int)+1)=ct) (n2:((aq RW).length:Int)+1≠0)
 (sh:ah [] .LShift (.int 1) (.int ct) (.int p2)) (hl:(!(lo==0))=false) (n3:Cm [] .NotEq (.tuple [.int up,.int (-lo)]) (.tuple [.int up,.int (-lo)]) false) (n4:Cm [] .NotEq (.tuple [.int (-up),.int 0]) (.tuple [.int (-up),.int 0]) false) (n5:Cm [] .NotEq (.tuple [.int (-up),.int (-0)]) (.tuple [.int (-up),.int (-0)]) false)
 (o2:aZ up=true) (o3:aZ p2=true) (r6:(up*p2+lo != x)=false) (r7:decide (0≤lo)=true) (r8:decide (lo<p2)=true) (b5:-(2 ^ 62)<ct) (b6:ct<2 ^ 62) (sR:aW [] (.list (aq RW)) none (some ct) (.list RC)) (hC:HC.length<1000) (p1:aE HC.length (-1)=some jj) (q1:HC[jj]? = some (.int hc)) (n6:Cm [] .Eq (.tuple [.int fu,.int fl]) (.tuple [.int pu,.int pl]) bb) (r9:Cm [] .Eq (.int hc) (.int 0) bb) (r10:Cm [] .NotEq (.bool bb) (.bool bb) false)
 (z1:decide (one > 1)=true):ag C1 call (bJ 331).body (fr 331 [some (.list xs)]) [] (.bool true) []:=by
 subst k1 k2 k3 k4;refine aC [.v (.list (a9 xs none (some 60))),.lh RW [],.v (.list (aq RW)),.v (.list (a9 xs none (some 60))),.lh TW [],.v (.int tw),.v (.int (207+tw)),.v (.int (Int.fmod (207+tw) 5)),.v (.int (Int.fdiv (207+tw) 5)),.v (.int (Int.fmod (Int.fdiv (207+tw) 5) 4)),.v (.int (1+Int.fmod (Int.fdiv (207+tw) 5) 4)),.v (.int (Int.fdiv (207+tw) 20)),.v (.int (Int.fmod (Int.fdiv (207+tw) 20) 4)),.v (.int (1+Int.fmod (Int.fdiv (207+tw) 20) 4)),.vh (.int x) [],.vh (.list HV) [],.vh (.tuple [.int f,.int ta]) [],.vh (.tuple [.int s,.int tb]) [],.v (.list HA),.v (.int ta),.b false,.v (.list HB),.v (.int tb),.b false,.v (.int ro),.v (.int ro),.b false,.vh (.list HV) [],.b false,.vh (.list HV) [],.b false,.vh (.tuple [.int cc,.int t3]) [],.v (.int cc),.vh (.tuple [.int cc,.int t4]) [],.v (.int cc),.b false,.v (.int ↑(List.length (aq RW))),.v (.int (2 * ↑(List.length (aq RW)))),.vh (.int mf) [],.vh (.tuple [.int mx,.int t5]) [],.v (.int mx),.v (.int ↑(List.length (aq RW))),.v (.int (2 * ↑(List.length (aq RW)))),.vh (.int mx) [],.b false,.v (.int (Int.fdiv (207+tw) 80)),.v (.int ↑(List.length (aq RW))),.v (.int (↑(List.length (aq RW))+1)),.v (.int (Int.fmod (Int.fdiv (207+tw) 80) (↑(List.length (aq RW))+1))),.v (.int p2),.vh (.tuple [.int up,.int lo]) [],.b false,.v (.int (-up)),.v (.int (-x)),.v (.int p2),.v (.int (-p2)),.vh (.tuple [.int up,.int (-lo)]) [],.v (.int (-lo)),.b false,.v (.int (-x)),.v (.int p2),.vh (.tuple [.int (-up),.int 0]) [],.b false,.v (.int p2),.v (.int (-p2)),.vh (.tuple [.int (-up),.int (-0)]) [],.v (.int (-up)),.v (.int 0),.v (.int (-0)),.b false,.v (.int p2),.v (.int (up*p2)),.v (.int (up*p2+lo)),.b false,.b true,.v (.int p2),.b true,.vh (.tuple [.int pu,.int t6]) [],.v (.int pu),.vh (.tuple [.int pl,.int t7]) [],.v (.int pl),.v (.int p2),.vh (.tuple [.int fu,.int fl]) [],.b bb,.v (.list RC),.vh (.list HC) [],.v (.int (-1)),.v (.int hc),.b bb,.b false,.b true,.b true] (q:=(-(2:Int) ^ (62:Nat)<(60:Int)∧(60:Int)<(2:Int) ^ (62:Nat))∧(aW [] (.list xs) none (some 60) (.list (a9 xs none (some 60))))∧(au (It.items false none (a9 xs none (some (60:Int))))=true)∧(Cp call 37 (ex 331 0 [0]) none (a9 xs none (some 60)) (fr 331 [some (.list xs)]) [] RW [])∧(ah [] .Add (.list RW) (.list [.int 1,.int 0,.int 1,.int 1,.int 1]) (.list (aq RW)))∧(-(2:Int) ^ (62:Nat)<(60:Int)∧(60:Int)<(2:Int) ^ (62:Nat))∧(aW [] (.list xs) none (some 60) (.list (a9 xs none (some 60))))∧(au (It.items false none (a9 xs none (some (60:Int))))=true)∧(Cp call 36 (ex 331 1 [1,0]) none (a9 xs none (some 60)) (fr 331 [some (.list xs),none,some (.list (aq RW))]) [] TW [])∧(ay [] (.builtin "sum") [.list TW] (.int tw))∧(ah [] .Add (.int 207) (.int tw) (.int (207+tw)))∧(ah [] .Mod (.int (207+tw)) (.int 5) (.int (Int.fmod (207+tw) 5)))∧(ah [] .FloorDiv (.int (207+tw)) (.int 5) (.int (Int.fdiv (207+tw) 5)))∧(ah [] .Mod (.int (Int.fdiv (207+tw) 5)) (.int 4) (.int (Int.fmod (Int.fdiv (207+tw) 5) 4)))∧(ah [] .Add (.int 1) (.int (Int.fmod (Int.fdiv (207+tw) 5) 4)) (.int (1+Int.fmod (Int.fdiv (207+tw) 5) 4)))∧(ah [] .FloorDiv (.int (207+tw)) (.int 20) (.int (Int.fdiv (207+tw) 20)))∧(ah [] .Mod (.int (Int.fdiv (207+tw) 20)) (.int 4) (.int (Int.fmod (Int.fdiv (207+tw) 20) 4)))∧(ah [] .Add (.int 1) (.int (Int.fmod (Int.fdiv (207+tw) 20) 4)) (.int (1+Int.fmod (Int.fdiv (207+tw) 20) 4)))∧(call (.val (.ref 216)) [.list (aq RW),.int 1] [] [] (.int x) [])∧(call (.val (.ref 319)) [.int x,.int (Int.fmod (207+tw) 5)] [] [] (.list HV) [])∧(call (.val (.ref 314)) [.int x,.int (1+Int.fmod (Int.fdiv (207+tw) 5) 4),.bool false] [] [] (.tuple [.int f,.int ta]) [])∧(call (.val (.ref 314)) [.int x,.int (1+Int.fmod (Int.fdiv (207+tw) 20) 4),.bool true] [] [] (.tuple [.int s,.int tb]) [])∧(-(2:Int) ^ (62:Nat)<(1:Int)+Int.fmod (Int.fdiv ((207:Int)+tw) (5:Int)) (4:Int)∧(1:Int)+Int.fmod (Int.fdiv ((207:Int)+tw) (5:Int)) (4:Int)<(2:Int) ^ (62:Nat))∧(aW [] (.list HV) none (some (1+Int.fmod (Int.fdiv (207+tw) 5) 4)) (.list HA))∧(ay [] (.builtin "sum") [.list HA] (.int ta))∧(Cm [] .NotEq (.int ta) (.int ta) false)∧(-(2:Int) ^ (62:Nat)<(1:Int)+Int.fmod (Int.fdiv ((207:Int)+tw) (20:Int)) (4:Int)∧(1:Int)+Int.fmod (Int.fdiv ((207:Int)+tw) (20:Int)) (4:Int)<(2:Int) ^ (62:Nat))∧(aW [] (.list HV) none (some (1+Int.fmod (Int.fdiv (207+tw) 20) 4)) (.list HB))∧(ay [] (.builtin "sum") [.list HB] (.int tb))∧(Cm [] .NotEq (.int tb) (.int tb) false)∧(ay [] (.builtin "sum") [.list HV] (.int ro))∧(ay [] (.builtin "sum") [.list (aq RW)] (.int ro))∧(Cm [] .NotEq (.int ro) (.int ro) false)∧(call (.val (.ref 319)) [.int f,.int (Int.fmod (207+tw) 5)] [] [] (.list HV) [])∧(Cm [] .NotEq (.list HV) (.list HV) false)∧(call (.val (.ref 319)) [.int s,.int (Int.fmod (207+tw) 5)] [] [] (.list HV) [])∧(Cm [] .NotEq (.list HV) (.list HV) false)∧(call (.val (.ref 314)) [.int f,.int (1+Int.fmod (Int.fdiv (207+tw) 20) 4),.bool true] [] [] (.tuple [.int cc,.int t3]) [])∧(bx [] (.tuple [.int cc,.int t3]) (.int 0) (.int cc))∧(call (.val (.ref 314)) [.int s,.int (1+Int.fmod (Int.fdiv (207+tw) 5) 4),.bool false] [] [] (.tuple [.int cc,.int t4]) [])∧(bx [] (.tuple [.int cc,.int t4]) (.int 0) (.int cc))∧(Cm [] .NotEq (.int cc) (.int cc) false)∧(ay [] (.builtin "len") [.list (aq RW)] (.int ↑(List.length (aq RW))))∧(ah [] .Mult (.int 2) (.int ↑(List.length (aq RW))) (.int (2 * ↑(List.length (aq RW)))))∧(call (.val (.ref 326)) [.int f,.int (2 * ↑(List.length (aq RW)))] [] [] (.int mf) [])∧(call (.val (.ref 314)) [.int mf,.int (1+Int.fmod (Int.fdiv (207+tw) 5) 4),.bool true] [] [] (.tuple [.int mx,.int t5]) [])∧(bx [] (.tuple [.int mx,.int t5]) (.int 0) (.int mx))∧(ay [] (.builtin "len") [.list (aq RW)] (.int ↑(List.length (aq RW))))∧(ah [] .Mult (.int 2) (.int ↑(List.length (aq RW))) (.int (2 * ↑(List.length (aq RW)))))∧(call (.val (.ref 326)) [.int x,.int (2 * ↑(List.length (aq RW)))] [] [] (.int mx) [])∧(Cm [] .NotEq (.int mx) (.int mx) false)∧(ah [] .FloorDiv (.int (207+tw)) (.int 80) (.int (Int.fdiv (207+tw) 80)))∧(ay [] (.builtin "len") [.list (aq RW)] (.int ↑(List.length (aq RW))))∧(ah [] .Add (.int ↑(List.length (aq RW))) (.int 1) (.int (↑(List.length (aq RW))+1)))∧(ah [] .Mod (.int (Int.fdiv (207+tw) 80)) (.int (↑(List.length (aq RW))+1)) (.int (Int.fmod (Int.fdiv (207+tw) 80) (↑(List.length (aq RW))+1))))∧(ah [] .LShift (.int 1) (.int (Int.fmod (Int.fdiv (207+tw) 80) (↑(List.length (aq RW))+1))) (.int p2))∧(call (.val (.ref 230)) [.int x,.int p2] [] [] (.tuple [.int up,.int lo]) [])∧(Tr [] (.int lo) false)∧(bS .USub (.int up) (.int (-up)))∧(bS .USub (.int x) (.int (-x)))∧(ah [] .LShift (.int 1) (.int (Int.fmod (Int.fdiv (207+tw) 80) (↑(List.length (aq RW))+1))) (.int p2))∧(bS .USub (.int p2) (.int (-p2)))∧(call (.val (.ref 230)) [.int (-x),.int (-p2)] [] [] (.tuple [.int up,.int (-lo)]) [])∧(bS .USub (.int lo) (.int (-lo)))∧(Cm [] .NotEq (.tuple [.int up,.int (-lo)]) (.tuple [.int up,.int (-lo)]) false)∧(bS .USub (.int x) (.int (-x)))∧(ah [] .LShift (.int 1) (.int (Int.fmod (Int.fdiv (207+tw) 80) (↑(List.length (aq RW))+1))) (.int p2))∧(call (.val (.ref 230)) [.int (-x),.int p2] [] [] (.tuple [.int (-up),.int 0]) [])∧(Cm [] .NotEq (.tuple [.int (-up),.int 0]) (.tuple [.int (-up),.int 0]) false)∧(ah [] .LShift (.int 1) (.int (Int.fmod (Int.fdiv (207+tw) 80) (↑(List.length (aq RW))+1))) (.int p2))∧(bS .USub (.int p2) (.int (-p2)))∧(call (.val (.ref 230)) [.int x,.int (-p2)] [] [] (.tuple [.int (-up),.int (-0)]) [])∧(bx [] (.tuple [.int (-up),.int 0]) (.int 0) (.int (-up)))∧(bx [] (.tuple [.int (-up),.int 0]) (.int 1) (.int 0))∧(bS .USub (.int 0) (.int (-0)))∧(Cm [] .NotEq (.tuple [.int (-up),.int (-0)]) (.tuple [.int (-up),.int (-0)]) false)∧(ah [] .LShift (.int 1) (.int (Int.fmod (Int.fdiv (207+tw) 80) (↑(List.length (aq RW))+1))) (.int p2))∧(ah [] .Mult (.int up) (.int p2) (.int (up*p2)))∧(ah [] .Add (.int (up*p2)) (.int lo) (.int (up*p2+lo)))∧(Cm [] .NotEq (.int (up*p2+lo)) (.int x) false)∧(Cm [] .LtE (.int 0) (.int lo) true)∧(ah [] .LShift (.int 1) (.int (Int.fmod (Int.fdiv (207+tw) 80) (↑(List.length (aq RW))+1))) (.int p2))∧(Cm [] .Lt (.int lo) (.int p2) true)∧(call (.val (.ref 314)) [.int up,.int (1+Int.fmod (Int.fdiv (207+tw) 5) 4),.bool false] [] [] (.tuple [.int pu,.int t6]) [])∧(bx [] (.tuple [.int pu,.int t6]) (.int 0) (.int pu))∧(call (.val (.ref 314)) [.int lo,.int (1+Int.fmod (Int.fdiv (207+tw) 5) 4),.bool false] [] [] (.tuple [.int pl,.int t7]) [])∧(bx [] (.tuple [.int pl,.int t7]) (.int 0) (.int pl))∧(ah [] .LShift (.int 1) (.int (Int.fmod (Int.fdiv (207+tw) 80) (↑(List.length (aq RW))+1))) (.int p2))∧(call (.val (.ref 230)) [.int f,.int p2] [] [] (.tuple [.int fu,.int fl]) [])∧(Cm [] .Eq (.tuple [.int fu,.int fl]) (.tuple [.int pu,.int pl]) bb)∧(-(2:Int) ^ (62:Nat)<Int.fmod (Int.fdiv ((207:Int)+tw) (80:Int)) (↑(List.length (RW++[.int (1:Int),.int (0:Int),.int (1:Int),.int (1:Int),.int (1:Int)]))+(1:Int))∧Int.fmod (Int.fdiv ((207:Int)+tw) (80:Int)) (↑(List.length (RW++[.int (1:Int),.int (0:Int),.int (1:Int),.int (1:Int),.int (1:Int)]))+(1:Int))<(2:Int) ^ (62:Nat))∧(aW [] (.list (aq RW)) none (some (Int.fmod (Int.fdiv (207+tw) 80) (↑(List.length (aq RW))+1))) (.list RC))∧(call (.val (.ref 309)) [.list RC,.int (1+Int.fmod (Int.fdiv (207+tw) 5) 4)] [] [] (.list HC) [])∧(bS .USub (.int 1) (.int (-1)))∧(bx [] (.list HC) (.int (-1)) (.int hc))∧(Cm [] .Eq (.int hc) (.int 0) bb)∧(Cm [] .NotEq (.bool bb) (.bool bb) false)∧(Cm [] .Gt (.int (1+Int.fmod (Int.fdiv (207+tw) 5) 4)) (.int 1) true)∧(Tr [] (.bool true) true)∧(cZ (.bool true) (.bool true) [] [])) (by kernel_rfl) ⟨⟨(by exact Int.natCast_nonneg _),(by exact Int.natCast_nonneg _)⟩,(.list .val (by exact aS ‹_›)),(by exact small ‹_›),‹_›,(.app .val .val (by exact bp ‹_› (by decide))),⟨(by exact Int.natCast_nonneg _),(by exact Int.natCast_nonneg _)⟩,(.list .val (by exact aS ‹_›)),(by exact small ‹_›),‹_›,sm,.add,(.mod (by decide)),(.fdiv (by decide) rfl),(.mod (by decide)),.add,(.fdiv (by decide) rfl),(.mod (by decide)),.add,‹_›,‹_›,‹_›,‹_›,⟨‹_›,‹_›⟩,sA,uA,(.neI ‹_›),⟨‹_›,‹_›⟩,sB,uB,(.neI ‹_›),uC,uD,(.neI ‹_›),‹_›,n1,‹_›,n1,‹_›,(.tup rfl rfl),‹_›,(.tup rfl rfl),(.neI ‹_›),(.lenL .val (by exact aS ‹_›)),(.mul rfl ‹_›),‹_›,‹_›,(.tup rfl rfl),(.lenL .val (by exact aS ‹_›)),(.mul rfl ‹_›),‹_›,(.neI ‹_›),(.fdiv (by decide) rfl),(.lenL .val (by exact aS ‹_›)),.add,(.mod ‹_›),sh,‹_›,(.int ‹_›),.neg,.neg,sh,.neg,‹_›,.neg,n3,.neg,sh,‹_›,n4,sh,.neg,‹_›,(.tup rfl rfl),(.tup rfl rfl),.neg,n4,sh,(.mul ‹_› ‹_›),.add,(.neI ‹_›),(.le ‹_›),sh,(.lt ‹_›),‹_›,(.tup rfl rfl),‹_›,(.tup rfl rfl),sh,‹_›,n6,⟨‹_›,‹_›⟩,sR,‹_›,.neg,(.list .val ‹_› ‹_›),r9,r10,(.gt ‹_›),.bool,fin⟩
theorem vZ (ca:Cp call 37 (ex 331 0 [0]) none (a9 xs none (some 60)) (fr 331 [some (.list xs)]) [] RW [])
 (cb:Cp call 36 (ex 331 1 [1,0]) none (a9 xs none (some 60)) (fr 331 [some (.list xs),none,some (.list (aq RW))]) [] TW [])
 (c1:call (.val (.ref 216)) [.list (aq RW),.int 1] [] [] (.int x) [])
 (c2:call (.val (.ref 319)) [.int x,.int kind] [] [] (.list HV) [])
 (c3:call (.val (.ref 314)) [.int x,.int one,.bool false] [] [] (.tuple [.int f,.int ta]) [])
 (c4:call (.val (.ref 314)) [.int x,.int oth,.bool true] [] [] (.tuple [.int s,.int tb]) [])
 (c5:call (.val (.ref 319)) [.int f,.int kind] [] [] (.list HV) [])
 (c6:call (.val (.ref 319)) [.int s,.int kind] [] [] (.list HV) [])
 (c7:call (.val (.ref 314)) [.int f,.int oth,.bool true] [] [] (.tuple [.int cc,.int t3]) [])
 (c8:call (.val (.ref 314)) [.int s,.int one,.bool false] [] [] (.tuple [.int cc,.int t4]) [])
 (c9:call (.val (.ref 326)) [.int f,.int (2*(aq RW).length)] [] [] (.int mf) [])
 (d1:call (.val (.ref 314)) [.int mf,.int one,.bool true] [] [] (.tuple [.int mx,.int t5]) [])
 (d2:call (.val (.ref 326)) [.int x,.int (2*(aq RW).length)] [] [] (.int mx) [])
 (d3:call (.val (.ref 230)) [.int x,.int p2] [] [] (.tuple [.int up,.int lo]) [])
 (d4:call (.val (.ref 230)) [.int (-x),.int (-p2)] [] [] (.tuple [.int up,.int (-lo)]) [])
 (d5:call (.val (.ref 230)) [.int (-x),.int p2] [] [] (.tuple [.int (-up - 1),.int (p2 - lo)]) [])
 (d6:call (.val (.ref 230)) [.int x,.int (-p2)] [] [] (.tuple [.int (-up - 1),.int (-(p2 - lo))]) [])
 (d7:call (.val (.ref 314)) [.int up,.int one,.bool false] [] [] (.tuple [.int pu,.int t6]) [])
 (d8:call (.val (.ref 314)) [.int lo,.int one,.bool false] [] [] (.tuple [.int pl,.int t7]) [])
 (d9:call (.val (.ref 230)) [.int f,.int p2] [] [] (.tuple [.int fu,.int fl]) [])
 (e1:call (.val (.ref 309)) [.list RC,.int one] [] [] (.list HC) [])
 (e2:call (.val (.ref 230)) [.int f,.int 2] [] [] (.tuple [.int x,.int 0]) [])
 (hx:xs.length<1000) (hz1:(a9 xs none (some 60)).length<1048576) (hR:RW.length<1000) (hRR:(aq RW).length<1000) (sm:ay [] (.builtin "sum") [.list TW] (.int tw)) (k1:(207+tw).fmod 5=kind) (k2:1+((207+tw).fdiv 5).fmod 4=one) (k3:1+((207+tw).fdiv 20).fmod 4=oth)
 (b1:-(2 ^ 62)<one) (b2:one<2 ^ 62) (b3:-(2 ^ 62)<oth) (b4:oth<2 ^ 62) (sA:aW [] (.list HV) none (some one) (.list HA)) (uA:ay [] (.builtin "sum") [.list HA] (.int ta)) (sB:aW [] (.list HV) none (some oth) (.list HB)) (uB:ay [] (.builtin "sum") [.list HB] (.int tb)) (uC:ay [] (.builtin "sum") [.list HV] (.int ro)) (uD:ay [] (.builtin "sum") [.list (aq RW)] (.int ro))
 (r1:(ta != ta)=false) (r2:(tb != tb)=false) (r3:(ro != ro)=false) (n1:Cm [] .NotEq (.list HV) (.list HV) false) (r4:(cc != cc)=false) (o1:aZ ((aq RW).length:Int)=true) (r5:(mx != mx)=false) (k4:((207+tw).fdiv 80).fmod (((aq RW).length:Int)+1)=ct) (n2:((aq RW).length:Int)+1≠0)
 (sh:ah [] .LShift (.int 1) (.int ct) (.int p2)) (hl:(!(lo==0))=true) (n3:Cm [] .NotEq (.tuple [.int up,.int (-lo)]) (.tuple [.int up,.int (-lo)]) false) (n4:Cm [] .NotEq (.tuple [.int (-up - 1),.int (p2 - lo)]) (.tuple [.int (-up - 1),.int (p2 - lo)]) false) (n5:Cm [] .NotEq (.tuple [.int (-up - 1),.int (-(p2 - lo))]) (.tuple [.int (-up - 1),.int (-(p2 - lo))]) false)
 (o2:aZ up=true) (o3:aZ p2=true) (r6:(up*p2+lo != x)=false) (r7:decide (0≤lo)=true) (r8:decide (lo<p2)=true) (b5:-(2 ^ 62)<ct) (b6:ct<2 ^ 62) (sR:aW [] (.list (aq RW)) none (some ct) (.list RC)) (hC:HC.length<1000) (p1:aE HC.length (-1)=some jj) (q1:HC[jj]? = some (.int hc)) (n6:Cm [] .Eq (.tuple [.int fu,.int fl]) (.tuple [.int pu,.int pl]) bb) (r9:Cm [] .Eq (.int hc) (.int 0) bb) (r10:Cm [] .NotEq (.bool bb) (.bool bb) false)
 (z1:decide (one > 1)=false) (n7:Cm [] .Eq (.tuple [.int x,.int 0]) (.tuple [.int x,.int 0]) true):ag C1 call (bJ 331).body (fr 331 [some (.list xs)]) [] (.bool true) []:=by
 subst k1 k2 k3 k4;refine aC [.v (.list (a9 xs none (some 60))),.lh RW [],.v (.list (aq RW)),.v (.list (a9 xs none (some 60))),.lh TW [],.v (.int tw),.v (.int (207+tw)),.v (.int (Int.fmod (207+tw) 5)),.v (.int (Int.fdiv (207+tw) 5)),.v (.int (Int.fmod (Int.fdiv (207+tw) 5) 4)),.v (.int (1+Int.fmod (Int.fdiv (207+tw) 5) 4)),.v (.int (Int.fdiv (207+tw) 20)),.v (.int (Int.fmod (Int.fdiv (207+tw) 20) 4)),.v (.int (1+Int.fmod (Int.fdiv (207+tw) 20) 4)),.vh (.int x) [],.vh (.list HV) [],.vh (.tuple [.int f,.int ta]) [],.vh (.tuple [.int s,.int tb]) [],.v (.list HA),.v (.int ta),.b false,.v (.list HB),.v (.int tb),.b false,.v (.int ro),.v (.int ro),.b false,.vh (.list HV) [],.b false,.vh (.list HV) [],.b false,.vh (.tuple [.int cc,.int t3]) [],.v (.int cc),.vh (.tuple [.int cc,.int t4]) [],.v (.int cc),.b false,.v (.int ↑(List.length (aq RW))),.v (.int (2 * ↑(List.length (aq RW)))),.vh (.int mf) [],.vh (.tuple [.int mx,.int t5]) [],.v (.int mx),.v (.int ↑(List.length (aq RW))),.v (.int (2 * ↑(List.length (aq RW)))),.vh (.int mx) [],.b false,.v (.int (Int.fdiv (207+tw) 80)),.v (.int ↑(List.length (aq RW))),.v (.int (↑(List.length (aq RW))+1)),.v (.int (Int.fmod (Int.fdiv (207+tw) 80) (↑(List.length (aq RW))+1))),.v (.int p2),.vh (.tuple [.int up,.int lo]) [],.b true,.v (.int (-up)),.v (.int (-up - 1)),.v (.int p2),.v (.int (p2 - lo)),.v (.int (-x)),.v (.int p2),.v (.int (-p2)),.vh (.tuple [.int up,.int (-lo)]) [],.v (.int (-lo)),.b false,.v (.int (-x)),.v (.int p2),.vh (.tuple [.int (-up - 1),.int (p2 - lo)]) [],.b false,.v (.int p2),.v (.int (-p2)),.vh (.tuple [.int (-up - 1),.int (-(p2 - lo))]) [],.v (.int (-up - 1)),.v (.int (p2 - lo)),.v (.int (-(p2 - lo))),.b false,.v (.int p2),.v (.int (up*p2)),.v (.int (up*p2+lo)),.b false,.b true,.v (.int p2),.b true,.vh (.tuple [.int pu,.int t6]) [],.v (.int pu),.vh (.tuple [.int pl,.int t7]) [],.v (.int pl),.v (.int p2),.vh (.tuple [.int fu,.int fl]) [],.b bb,.v (.list RC),.vh (.list HC) [],.v (.int (-1)),.v (.int hc),.b bb,.b false,.b false,.b false,.vh (.tuple [.int x,.int 0]) [],.b true] (q:=(-(2:Int) ^ (62:Nat)<(60:Int)∧(60:Int)<(2:Int) ^ (62:Nat))∧(aW [] (.list xs) none (some 60) (.list (a9 xs none (some 60))))∧(au (It.items false none (a9 xs none (some (60:Int))))=true)∧(Cp call 37 (ex 331 0 [0]) none (a9 xs none (some 60)) (fr 331 [some (.list xs)]) [] RW [])∧(ah [] .Add (.list RW) (.list [.int 1,.int 0,.int 1,.int 1,.int 1]) (.list (aq RW)))∧(-(2:Int) ^ (62:Nat)<(60:Int)∧(60:Int)<(2:Int) ^ (62:Nat))∧(aW [] (.list xs) none (some 60) (.list (a9 xs none (some 60))))∧(au (It.items false none (a9 xs none (some (60:Int))))=true)∧(Cp call 36 (ex 331 1 [1,0]) none (a9 xs none (some 60)) (fr 331 [some (.list xs),none,some (.list (aq RW))]) [] TW [])∧(ay [] (.builtin "sum") [.list TW] (.int tw))∧(ah [] .Add (.int 207) (.int tw) (.int (207+tw)))∧(ah [] .Mod (.int (207+tw)) (.int 5) (.int (Int.fmod (207+tw) 5)))∧(ah [] .FloorDiv (.int (207+tw)) (.int 5) (.int (Int.fdiv (207+tw) 5)))∧(ah [] .Mod (.int (Int.fdiv (207+tw) 5)) (.int 4) (.int (Int.fmod (Int.fdiv (207+tw) 5) 4)))∧(ah [] .Add (.int 1) (.int (Int.fmod (Int.fdiv (207+tw) 5) 4)) (.int (1+Int.fmod (Int.fdiv (207+tw) 5) 4)))∧(ah [] .FloorDiv (.int (207+tw)) (.int 20) (.int (Int.fdiv (207+tw) 20)))∧(ah [] .Mod (.int (Int.fdiv (207+tw) 20)) (.int 4) (.int (Int.fmod (Int.fdiv (207+tw) 20) 4)))∧(ah [] .Add (.int 1) (.int (Int.fmod (Int.fdiv (207+tw) 20) 4)) (.int (1+Int.fmod (Int.fdiv (207+tw) 20) 4)))∧(call (.val (.ref 216)) [.list (aq RW),.int 1] [] [] (.int x) [])∧(call (.val (.ref 319)) [.int x,.int (Int.fmod (207+tw) 5)] [] [] (.list HV) [])∧(call (.val (.ref 314)) [.int x,.int (1+Int.fmod (Int.fdiv (207+tw) 5) 4),.bool false] [] [] (.tuple [.int f,.int ta]) [])∧(call (.val (.ref 314)) [.int x,.int (1+Int.fmod (Int.fdiv (207+tw) 20) 4),.bool true] [] [] (.tuple [.int s,.int tb]) [])∧(-(2:Int) ^ (62:Nat)<(1:Int)+Int.fmod (Int.fdiv ((207:Int)+tw) (5:Int)) (4:Int)∧(1:Int)+Int.fmod (Int.fdiv ((207:Int)+tw) (5:Int)) (4:Int)<(2:Int) ^ (62:Nat))∧(aW [] (.list HV) none (some (1+Int.fmod (Int.fdiv (207+tw) 5) 4)) (.list HA))∧(ay [] (.builtin "sum") [.list HA] (.int ta))∧(Cm [] .NotEq (.int ta) (.int ta) false)∧(-(2:Int) ^ (62:Nat)<(1:Int)+Int.fmod (Int.fdiv ((207:Int)+tw) (20:Int)) (4:Int)∧(1:Int)+Int.fmod (Int.fdiv ((207:Int)+tw) (20:Int)) (4:Int)<(2:Int) ^ (62:Nat))∧(aW [] (.list HV) none (some (1+Int.fmod (Int.fdiv (207+tw) 20) 4)) (.list HB))∧(ay [] (.builtin "sum") [.list HB] (.int tb))∧(Cm [] .NotEq (.int tb) (.int tb) false)∧(ay [] (.builtin "sum") [.list HV] (.int ro))∧(ay [] (.builtin "sum") [.list (aq RW)] (.int ro))∧(Cm [] .NotEq (.int ro) (.int ro) false)∧(call (.val (.ref 319)) [.int f,.int (Int.fmod (207+tw) 5)] [] [] (.list HV) [])∧(Cm [] .NotEq (.list HV) (.list HV) false)∧(call (.val (.ref 319)) [.int s,.int (Int.fmod (207+tw) 5)] [] [] (.list HV) [])∧(Cm [] .NotEq (.list HV) (.list HV) false)∧(call (.val (.ref 314)) [.int f,.int (1+Int.fmod (Int.fdiv (207+tw) 20) 4),.bool true] [] [] (.tuple [.int cc,.int t3]) [])∧(bx [] (.tuple [.int cc,.int t3]) (.int 0) (.int cc))∧(call (.val (.ref 314)) [.int s,.int (1+Int.fmod (Int.fdiv (207+tw) 5) 4),.bool false] [] [] (.tuple [.int cc,.int t4]) [])∧(bx [] (.tuple [.int cc,.int t4]) (.int 0) (.int cc))∧(Cm [] .NotEq (.int cc) (.int cc) false)∧(ay [] (.builtin "len") [.list (aq RW)] (.int ↑(List.length (aq RW))))∧(ah [] .Mult (.int 2) (.int ↑(List.length (aq RW))) (.int (2 * ↑(List.length (aq RW)))))∧(call (.val (.ref 326)) [.int f,.int (2 * ↑(List.length (aq RW)))] [] [] (.int mf) [])∧(call (.val (.ref 314)) [.int mf,.int (1+Int.fmod (Int.fdiv (207+tw) 5) 4),.bool true] [] [] (.tuple [.int mx,.int t5]) [])∧(bx [] (.tuple [.int mx,.int t5]) (.int 0) (.int mx))∧(ay [] (.builtin "len") [.list (aq RW)] (.int ↑(List.length (aq RW))))∧(ah [] .Mult (.int 2) (.int ↑(List.length (aq RW))) (.int (2 * ↑(List.length (aq RW)))))∧(call (.val (.ref 326)) [.int x,.int (2 * ↑(List.length (aq RW)))] [] [] (.int mx) [])∧(Cm [] .NotEq (.int mx) (.int mx) false)∧(ah [] .FloorDiv (.int (207+tw)) (.int 80) (.int (Int.fdiv (207+tw) 80)))∧(ay [] (.builtin "len") [.list (aq RW)] (.int ↑(List.length (aq RW))))∧(ah [] .Add (.int ↑(List.length (aq RW))) (.int 1) (.int (↑(List.length (aq RW))+1)))∧(ah [] .Mod (.int (Int.fdiv (207+tw) 80)) (.int (↑(List.length (aq RW))+1)) (.int (Int.fmod (Int.fdiv (207+tw) 80) (↑(List.length (aq RW))+1))))∧(ah [] .LShift (.int 1) (.int (Int.fmod (Int.fdiv (207+tw) 80) (↑(List.length (aq RW))+1))) (.int p2))∧(call (.val (.ref 230)) [.int x,.int p2] [] [] (.tuple [.int up,.int lo]) [])∧(Tr [] (.int lo) true)∧(bS .USub (.int up) (.int (-up)))∧(ah [] .Sub (.int (-up)) (.int 1) (.int (-up - 1)))∧(ah [] .LShift (.int 1) (.int (Int.fmod (Int.fdiv (207+tw) 80) (↑(List.length (aq RW))+1))) (.int p2))∧(ah [] .Sub (.int p2) (.int lo) (.int (p2 - lo)))∧(bS .USub (.int x) (.int (-x)))∧(ah [] .LShift (.int 1) (.int (Int.fmod (Int.fdiv (207+tw) 80) (↑(List.length (aq RW))+1))) (.int p2))∧(bS .USub (.int p2) (.int (-p2)))∧(call (.val (.ref 230)) [.int (-x),.int (-p2)] [] [] (.tuple [.int up,.int (-lo)]) [])∧(bS .USub (.int lo) (.int (-lo)))∧(Cm [] .NotEq (.tuple [.int up,.int (-lo)]) (.tuple [.int up,.int (-lo)]) false)∧(bS .USub (.int x) (.int (-x)))∧(ah [] .LShift (.int 1) (.int (Int.fmod (Int.fdiv (207+tw) 80) (↑(List.length (aq RW))+1))) (.int p2))∧(call (.val (.ref 230)) [.int (-x),.int p2] [] [] (.tuple [.int (-up - 1),.int (p2 - lo)]) [])∧(Cm [] .NotEq (.tuple [.int (-up - 1),.int (p2 - lo)]) (.tuple [.int (-up - 1),.int (p2 - lo)]) false)∧(ah [] .LShift (.int 1) (.int (Int.fmod (Int.fdiv (207+tw) 80) (↑(List.length (aq RW))+1))) (.int p2))∧(bS .USub (.int p2) (.int (-p2)))∧(call (.val (.ref 230)) [.int x,.int (-p2)] [] [] (.tuple [.int (-up - 1),.int (-(p2 - lo))]) [])∧(bx [] (.tuple [.int (-up - 1),.int (p2 - lo)]) (.int 0) (.int (-up - 1)))∧(bx [] (.tuple [.int (-up - 1),.int (p2 - lo)]) (.int 1) (.int (p2 - lo)))∧(bS .USub (.int (p2 - lo)) (.int (-(p2 - lo))))∧(Cm [] .NotEq (.tuple [.int (-up - 1),.int (-(p2 - lo))]) (.tuple [.int (-up - 1),.int (-(p2 - lo))]) false)∧(ah [] .LShift (.int 1) (.int (Int.fmod (Int.fdiv (207+tw) 80) (↑(List.length (aq RW))+1))) (.int p2))∧(ah [] .Mult (.int up) (.int p2) (.int (up*p2)))∧(ah [] .Add (.int (up*p2)) (.int lo) (.int (up*p2+lo)))∧(Cm [] .NotEq (.int (up*p2+lo)) (.int x) false)∧(Cm [] .LtE (.int 0) (.int lo) true)∧(ah [] .LShift (.int 1) (.int (Int.fmod (Int.fdiv (207+tw) 80) (↑(List.length (aq RW))+1))) (.int p2))∧(Cm [] .Lt (.int lo) (.int p2) true)∧(call (.val (.ref 314)) [.int up,.int (1+Int.fmod (Int.fdiv (207+tw) 5) 4),.bool false] [] [] (.tuple [.int pu,.int t6]) [])∧(bx [] (.tuple [.int pu,.int t6]) (.int 0) (.int pu))∧(call (.val (.ref 314)) [.int lo,.int (1+Int.fmod (Int.fdiv (207+tw) 5) 4),.bool false] [] [] (.tuple [.int pl,.int t7]) [])∧(bx [] (.tuple [.int pl,.int t7]) (.int 0) (.int pl))∧(ah [] .LShift (.int 1) (.int (Int.fmod (Int.fdiv (207+tw) 80) (↑(List.length (aq RW))+1))) (.int p2))∧(call (.val (.ref 230)) [.int f,.int p2] [] [] (.tuple [.int fu,.int fl]) [])∧(Cm [] .Eq (.tuple [.int fu,.int fl]) (.tuple [.int pu,.int pl]) bb)∧(-(2:Int) ^ (62:Nat)<Int.fmod (Int.fdiv ((207:Int)+tw) (80:Int)) (↑(List.length (RW++[.int (1:Int),.int (0:Int),.int (1:Int),.int (1:Int),.int (1:Int)]))+(1:Int))∧Int.fmod (Int.fdiv ((207:Int)+tw) (80:Int)) (↑(List.length (RW++[.int (1:Int),.int (0:Int),.int (1:Int),.int (1:Int),.int (1:Int)]))+(1:Int))<(2:Int) ^ (62:Nat))∧(aW [] (.list (aq RW)) none (some (Int.fmod (Int.fdiv (207+tw) 80) (↑(List.length (aq RW))+1))) (.list RC))∧(call (.val (.ref 309)) [.list RC,.int (1+Int.fmod (Int.fdiv (207+tw) 5) 4)] [] [] (.list HC) [])∧(bS .USub (.int 1) (.int (-1)))∧(bx [] (.list HC) (.int (-1)) (.int hc))∧(Cm [] .Eq (.int hc) (.int 0) bb)∧(Cm [] .NotEq (.bool bb) (.bool bb) false)∧(Cm [] .Gt (.int (1+Int.fmod (Int.fdiv (207+tw) 5) 4)) (.int 1) false)∧(Tr [] (.bool false) false)∧(call (.val (.ref 230)) [.int f,.int 2] [] [] (.tuple [.int x,.int 0]) [])∧(Cm [] .Eq (.tuple [.int x,.int 0]) (.tuple [.int x,.int 0]) true)∧(cZ (.bool true) (.bool true) [] [])) (by kernel_rfl) ⟨⟨(by exact Int.natCast_nonneg _),(by exact Int.natCast_nonneg _)⟩,(.list .val (by exact aS ‹_›)),(by exact small ‹_›),‹_›,(.app .val .val (by exact bp ‹_› (by decide))),⟨(by exact Int.natCast_nonneg _),(by exact Int.natCast_nonneg _)⟩,(.list .val (by exact aS ‹_›)),(by exact small ‹_›),‹_›,sm,.add,(.mod (by decide)),(.fdiv (by decide) rfl),(.mod (by decide)),.add,(.fdiv (by decide) rfl),(.mod (by decide)),.add,‹_›,‹_›,‹_›,‹_›,⟨‹_›,‹_›⟩,sA,uA,(.neI ‹_›),⟨‹_›,‹_›⟩,sB,uB,(.neI ‹_›),uC,uD,(.neI ‹_›),‹_›,n1,‹_›,n1,‹_›,(.tup rfl rfl),‹_›,(.tup rfl rfl),(.neI ‹_›),(.lenL .val (by exact aS ‹_›)),(.mul rfl ‹_›),‹_›,‹_›,(.tup rfl rfl),(.lenL .val (by exact aS ‹_›)),(.mul rfl ‹_›),‹_›,(.neI ‹_›),(.fdiv (by decide) rfl),(.lenL .val (by exact aS ‹_›)),.add,(.mod ‹_›),sh,‹_›,(.int ‹_›),.neg,.sub,sh,.sub,.neg,sh,.neg,‹_›,.neg,n3,.neg,sh,‹_›,n4,sh,.neg,‹_›,(.tup rfl rfl),(.tup rfl rfl),.neg,n5,sh,(.mul ‹_› ‹_›),.add,(.neI ‹_›),(.le ‹_›),sh,(.lt ‹_›),‹_›,(.tup rfl rfl),‹_›,(.tup rfl rfl),sh,‹_›,n6,⟨‹_›,‹_›⟩,sR,‹_›,.neg,(.list .val ‹_› ‹_›),r9,r10,(.gt ‹_›),.bool,‹_›,n7,fin⟩
theorem v3 (ca:Cp call 37 (ex 331 0 [0]) none (a9 xs none (some 60)) (fr 331 [some (.list xs)]) [] RW [])
 (cb:Cp call 36 (ex 331 1 [1,0]) none (a9 xs none (some 60)) (fr 331 [some (.list xs),none,some (.list (aq RW))]) [] TW [])
 (c1:call (.val (.ref 216)) [.list (aq RW),.int 1] [] [] (.int x) [])
 (c2:call (.val (.ref 319)) [.int x,.int kind] [] [] (.list HV) [])
 (c3:call (.val (.ref 314)) [.int x,.int one,.bool false] [] [] (.tuple [.int f,.int ta]) [])
 (c4:call (.val (.ref 314)) [.int x,.int oth,.bool true] [] [] (.tuple [.int s,.int tb]) [])
 (c5:call (.val (.ref 319)) [.int f,.int kind] [] [] (.list HV) [])
 (c6:call (.val (.ref 319)) [.int s,.int kind] [] [] (.list HV) [])
 (c7:call (.val (.ref 314)) [.int f,.int oth,.bool true] [] [] (.tuple [.int cc,.int t3]) [])
 (c8:call (.val (.ref 314)) [.int s,.int one,.bool false] [] [] (.tuple [.int cc,.int t4]) [])
 (c9:call (.val (.ref 326)) [.int f,.int (2*(aq RW).length)] [] [] (.int mf) [])
 (d1:call (.val (.ref 314)) [.int mf,.int one,.bool true] [] [] (.tuple [.int mx,.int t5]) [])
 (d2:call (.val (.ref 326)) [.int x,.int (2*(aq RW).length)] [] [] (.int mx) [])
 (d3:call (.val (.ref 230)) [.int x,.int p2] [] [] (.tuple [.int up,.int lo]) [])
 (d4:call (.val (.ref 230)) [.int (-x),.int (-p2)] [] [] (.tuple [.int up,.int (-lo)]) [])
 (d5:call (.val (.ref 230)) [.int (-x),.int p2] [] [] (.tuple [.int (-up - 1),.int (p2 - lo)]) [])
 (d6:call (.val (.ref 230)) [.int x,.int (-p2)] [] [] (.tuple [.int (-up - 1),.int (-(p2 - lo))]) [])
 (d7:call (.val (.ref 314)) [.int up,.int one,.bool false] [] [] (.tuple [.int pu,.int t6]) [])
 (d8:call (.val (.ref 314)) [.int lo,.int one,.bool false] [] [] (.tuple [.int pl,.int t7]) [])
 (d9:call (.val (.ref 230)) [.int f,.int p2] [] [] (.tuple [.int fu,.int fl]) [])
 (e1:call (.val (.ref 309)) [.list RC,.int one] [] [] (.list HC) [])
 (hx:xs.length<1000) (hz1:(a9 xs none (some 60)).length<1048576) (hR:RW.length<1000) (hRR:(aq RW).length<1000) (sm:ay [] (.builtin "sum") [.list TW] (.int tw)) (k1:(207+tw).fmod 5=kind) (k2:1+((207+tw).fdiv 5).fmod 4=one) (k3:1+((207+tw).fdiv 20).fmod 4=oth)
 (b1:-(2 ^ 62)<one) (b2:one<2 ^ 62) (b3:-(2 ^ 62)<oth) (b4:oth<2 ^ 62) (sA:aW [] (.list HV) none (some one) (.list HA)) (uA:ay [] (.builtin "sum") [.list HA] (.int ta)) (sB:aW [] (.list HV) none (some oth) (.list HB)) (uB:ay [] (.builtin "sum") [.list HB] (.int tb)) (uC:ay [] (.builtin "sum") [.list HV] (.int ro)) (uD:ay [] (.builtin "sum") [.list (aq RW)] (.int ro))
 (r1:(ta != ta)=false) (r2:(tb != tb)=false) (r3:(ro != ro)=false) (n1:Cm [] .NotEq (.list HV) (.list HV) false) (r4:(cc != cc)=false) (o1:aZ ((aq RW).length:Int)=true) (r5:(mx != mx)=false) (k4:((207+tw).fdiv 80).fmod (((aq RW).length:Int)+1)=ct) (n2:((aq RW).length:Int)+1≠0)
 (sh:ah [] .LShift (.int 1) (.int ct) (.int p2)) (hl:(!(lo==0))=true) (n3:Cm [] .NotEq (.tuple [.int up,.int (-lo)]) (.tuple [.int up,.int (-lo)]) false) (n4:Cm [] .NotEq (.tuple [.int (-up - 1),.int (p2 - lo)]) (.tuple [.int (-up - 1),.int (p2 - lo)]) false) (n5:Cm [] .NotEq (.tuple [.int (-up - 1),.int (-(p2 - lo))]) (.tuple [.int (-up - 1),.int (-(p2 - lo))]) false)
 (o2:aZ up=true) (o3:aZ p2=true) (r6:(up*p2+lo != x)=false) (r7:decide (0≤lo)=true) (r8:decide (lo<p2)=true) (b5:-(2 ^ 62)<ct) (b6:ct<2 ^ 62) (sR:aW [] (.list (aq RW)) none (some ct) (.list RC)) (hC:HC.length<1000) (p1:aE HC.length (-1)=some jj) (q1:HC[jj]? = some (.int hc)) (n6:Cm [] .Eq (.tuple [.int fu,.int fl]) (.tuple [.int pu,.int pl]) bb) (r9:Cm [] .Eq (.int hc) (.int 0) bb) (r10:Cm [] .NotEq (.bool bb) (.bool bb) false)
 (z1:decide (one > 1)=true):ag C1 call (bJ 331).body (fr 331 [some (.list xs)]) [] (.bool true) []:=by
 subst k1 k2 k3 k4;refine aC [.v (.list (a9 xs none (some 60))),.lh RW [],.v (.list (aq RW)),.v (.list (a9 xs none (some 60))),.lh TW [],.v (.int tw),.v (.int (207+tw)),.v (.int (Int.fmod (207+tw) 5)),.v (.int (Int.fdiv (207+tw) 5)),.v (.int (Int.fmod (Int.fdiv (207+tw) 5) 4)),.v (.int (1+Int.fmod (Int.fdiv (207+tw) 5) 4)),.v (.int (Int.fdiv (207+tw) 20)),.v (.int (Int.fmod (Int.fdiv (207+tw) 20) 4)),.v (.int (1+Int.fmod (Int.fdiv (207+tw) 20) 4)),.vh (.int x) [],.vh (.list HV) [],.vh (.tuple [.int f,.int ta]) [],.vh (.tuple [.int s,.int tb]) [],.v (.list HA),.v (.int ta),.b false,.v (.list HB),.v (.int tb),.b false,.v (.int ro),.v (.int ro),.b false,.vh (.list HV) [],.b false,.vh (.list HV) [],.b false,.vh (.tuple [.int cc,.int t3]) [],.v (.int cc),.vh (.tuple [.int cc,.int t4]) [],.v (.int cc),.b false,.v (.int ↑(List.length (aq RW))),.v (.int (2 * ↑(List.length (aq RW)))),.vh (.int mf) [],.vh (.tuple [.int mx,.int t5]) [],.v (.int mx),.v (.int ↑(List.length (aq RW))),.v (.int (2 * ↑(List.length (aq RW)))),.vh (.int mx) [],.b false,.v (.int (Int.fdiv (207+tw) 80)),.v (.int ↑(List.length (aq RW))),.v (.int (↑(List.length (aq RW))+1)),.v (.int (Int.fmod (Int.fdiv (207+tw) 80) (↑(List.length (aq RW))+1))),.v (.int p2),.vh (.tuple [.int up,.int lo]) [],.b true,.v (.int (-up)),.v (.int (-up - 1)),.v (.int p2),.v (.int (p2 - lo)),.v (.int (-x)),.v (.int p2),.v (.int (-p2)),.vh (.tuple [.int up,.int (-lo)]) [],.v (.int (-lo)),.b false,.v (.int (-x)),.v (.int p2),.vh (.tuple [.int (-up - 1),.int (p2 - lo)]) [],.b false,.v (.int p2),.v (.int (-p2)),.vh (.tuple [.int (-up - 1),.int (-(p2 - lo))]) [],.v (.int (-up - 1)),.v (.int (p2 - lo)),.v (.int (-(p2 - lo))),.b false,.v (.int p2),.v (.int (up*p2)),.v (.int (up*p2+lo)),.b false,.b true,.v (.int p2),.b true,.vh (.tuple [.int pu,.int t6]) [],.v (.int pu),.vh (.tuple [.int pl,.int t7]) [],.v (.int pl),.v (.int p2),.vh (.tuple [.int fu,.int fl]) [],.b bb,.v (.list RC),.vh (.list HC) [],.v (.int (-1)),.v (.int hc),.b bb,.b false,.b true,.b true] (q:=(-(2:Int) ^ (62:Nat)<(60:Int)∧(60:Int)<(2:Int) ^ (62:Nat))∧(aW [] (.list xs) none (some 60) (.list (a9 xs none (some 60))))∧(au (It.items false none (a9 xs none (some (60:Int))))=true)∧(Cp call 37 (ex 331 0 [0]) none (a9 xs none (some 60)) (fr 331 [some (.list xs)]) [] RW [])∧(ah [] .Add (.list RW) (.list [.int 1,.int 0,.int 1,.int 1,.int 1]) (.list (aq RW)))∧(-(2:Int) ^ (62:Nat)<(60:Int)∧(60:Int)<(2:Int) ^ (62:Nat))∧(aW [] (.list xs) none (some 60) (.list (a9 xs none (some 60))))∧(au (It.items false none (a9 xs none (some (60:Int))))=true)∧(Cp call 36 (ex 331 1 [1,0]) none (a9 xs none (some 60)) (fr 331 [some (.list xs),none,some (.list (aq RW))]) [] TW [])∧(ay [] (.builtin "sum") [.list TW] (.int tw))∧(ah [] .Add (.int 207) (.int tw) (.int (207+tw)))∧(ah [] .Mod (.int (207+tw)) (.int 5) (.int (Int.fmod (207+tw) 5)))∧(ah [] .FloorDiv (.int (207+tw)) (.int 5) (.int (Int.fdiv (207+tw) 5)))∧(ah [] .Mod (.int (Int.fdiv (207+tw) 5)) (.int 4) (.int (Int.fmod (Int.fdiv (207+tw) 5) 4)))∧(ah [] .Add (.int 1) (.int (Int.fmod (Int.fdiv (207+tw) 5) 4)) (.int (1+Int.fmod (Int.fdiv (207+tw) 5) 4)))∧(ah [] .FloorDiv (.int (207+tw)) (.int 20) (.int (Int.fdiv (207+tw) 20)))∧(ah [] .Mod (.int (Int.fdiv (207+tw) 20)) (.int 4) (.int (Int.fmod (Int.fdiv (207+tw) 20) 4)))∧(ah [] .Add (.int 1) (.int (Int.fmod (Int.fdiv (207+tw) 20) 4)) (.int (1+Int.fmod (Int.fdiv (207+tw) 20) 4)))∧(call (.val (.ref 216)) [.list (aq RW),.int 1] [] [] (.int x) [])∧(call (.val (.ref 319)) [.int x,.int (Int.fmod (207+tw) 5)] [] [] (.list HV) [])∧(call (.val (.ref 314)) [.int x,.int (1+Int.fmod (Int.fdiv (207+tw) 5) 4),.bool false] [] [] (.tuple [.int f,.int ta]) [])∧(call (.val (.ref 314)) [.int x,.int (1+Int.fmod (Int.fdiv (207+tw) 20) 4),.bool true] [] [] (.tuple [.int s,.int tb]) [])∧(-(2:Int) ^ (62:Nat)<(1:Int)+Int.fmod (Int.fdiv ((207:Int)+tw) (5:Int)) (4:Int)∧(1:Int)+Int.fmod (Int.fdiv ((207:Int)+tw) (5:Int)) (4:Int)<(2:Int) ^ (62:Nat))∧(aW [] (.list HV) none (some (1+Int.fmod (Int.fdiv (207+tw) 5) 4)) (.list HA))∧(ay [] (.builtin "sum") [.list HA] (.int ta))∧(Cm [] .NotEq (.int ta) (.int ta) false)∧(-(2:Int) ^ (62:Nat)<(1:Int)+Int.fmod (Int.fdiv ((207:Int)+tw) (20:Int)) (4:Int)∧(1:Int)+Int.fmod (Int.fdiv ((207:Int)+tw) (20:Int)) (4:Int)<(2:Int) ^ (62:Nat))∧(aW [] (.list HV) none (some (1+Int.fmod (Int.fdiv (207+tw) 20) 4)) (.list HB))∧(ay [] (.builtin "sum") [.list HB] (.int tb))∧(Cm [] .NotEq (.int tb) (.int tb) false)∧(ay [] (.builtin "sum") [.list HV] (.int ro))∧(ay [] (.builtin "sum") [.list (aq RW)] (.int ro))∧(Cm [] .NotEq (.int ro) (.int ro) false)∧(call (.val (.ref 319)) [.int f,.int (Int.fmod (207+tw) 5)] [] [] (.list HV) [])∧(Cm [] .NotEq (.list HV) (.list HV) false)∧(call (.val (.ref 319)) [.int s,.int (Int.fmod (207+tw) 5)] [] [] (.list HV) [])∧(Cm [] .NotEq (.list HV) (.list HV) false)∧(call (.val (.ref 314)) [.int f,.int (1+Int.fmod (Int.fdiv (207+tw) 20) 4),.bool true] [] [] (.tuple [.int cc,.int t3]) [])∧(bx [] (.tuple [.int cc,.int t3]) (.int 0) (.int cc))∧(call (.val (.ref 314)) [.int s,.int (1+Int.fmod (Int.fdiv (207+tw) 5) 4),.bool false] [] [] (.tuple [.int cc,.int t4]) [])∧(bx [] (.tuple [.int cc,.int t4]) (.int 0) (.int cc))∧(Cm [] .NotEq (.int cc) (.int cc) false)∧(ay [] (.builtin "len") [.list (aq RW)] (.int ↑(List.length (aq RW))))∧(ah [] .Mult (.int 2) (.int ↑(List.length (aq RW))) (.int (2 * ↑(List.length (aq RW)))))∧(call (.val (.ref 326)) [.int f,.int (2 * ↑(List.length (aq RW)))] [] [] (.int mf) [])∧(call (.val (.ref 314)) [.int mf,.int (1+Int.fmod (Int.fdiv (207+tw) 5) 4),.bool true] [] [] (.tuple [.int mx,.int t5]) [])∧(bx [] (.tuple [.int mx,.int t5]) (.int 0) (.int mx))∧(ay [] (.builtin "len") [.list (aq RW)] (.int ↑(List.length (aq RW))))∧(ah [] .Mult (.int 2) (.int ↑(List.length (aq RW))) (.int (2 * ↑(List.length (aq RW)))))∧(call (.val (.ref 326)) [.int x,.int (2 * ↑(List.length (aq RW)))] [] [] (.int mx) [])∧(Cm [] .NotEq (.int mx) (.int mx) false)∧(ah [] .FloorDiv (.int (207+tw)) (.int 80) (.int (Int.fdiv (207+tw) 80)))∧(ay [] (.builtin "len") [.list (aq RW)] (.int ↑(List.length (aq RW))))∧(ah [] .Add (.int ↑(List.length (aq RW))) (.int 1) (.int (↑(List.length (aq RW))+1)))∧(ah [] .Mod (.int (Int.fdiv (207+tw) 80)) (.int (↑(List.length (aq RW))+1)) (.int (Int.fmod (Int.fdiv (207+tw) 80) (↑(List.length (aq RW))+1))))∧(ah [] .LShift (.int 1) (.int (Int.fmod (Int.fdiv (207+tw) 80) (↑(List.length (aq RW))+1))) (.int p2))∧(call (.val (.ref 230)) [.int x,.int p2] [] [] (.tuple [.int up,.int lo]) [])∧(Tr [] (.int lo) true)∧(bS .USub (.int up) (.int (-up)))∧(ah [] .Sub (.int (-up)) (.int 1) (.int (-up - 1)))∧(ah [] .LShift (.int 1) (.int (Int.fmod (Int.fdiv (207+tw) 80) (↑(List.length (aq RW))+1))) (.int p2))∧(ah [] .Sub (.int p2) (.int lo) (.int (p2 - lo)))∧(bS .USub (.int x) (.int (-x)))∧(ah [] .LShift (.int 1) (.int (Int.fmod (Int.fdiv (207+tw) 80) (↑(List.length (aq RW))+1))) (.int p2))∧(bS .USub (.int p2) (.int (-p2)))∧(call (.val (.ref 230)) [.int (-x),.int (-p2)] [] [] (.tuple [.int up,.int (-lo)]) [])∧(bS .USub (.int lo) (.int (-lo)))∧(Cm [] .NotEq (.tuple [.int up,.int (-lo)]) (.tuple [.int up,.int (-lo)]) false)∧(bS .USub (.int x) (.int (-x)))∧(ah [] .LShift (.int 1) (.int (Int.fmod (Int.fdiv (207+tw) 80) (↑(List.length (aq RW))+1))) (.int p2))∧(call (.val (.ref 230)) [.int (-x),.int p2] [] [] (.tuple [.int (-up - 1),.int (p2 - lo)]) [])∧(Cm [] .NotEq (.tuple [.int (-up - 1),.int (p2 - lo)]) (.tuple [.int (-up - 1),.int (p2 - lo)]) false)∧(ah [] .LShift (.int 1) (.int (Int.fmod (Int.fdiv (207+tw) 80) (↑(List.length (aq RW))+1))) (.int p2))∧(bS .USub (.int p2) (.int (-p2)))∧(call (.val (.ref 230)) [.int x,.int (-p2)] [] [] (.tuple [.int (-up - 1),.int (-(p2 - lo))]) [])∧(bx [] (.tuple [.int (-up - 1),.int (p2 - lo)]) (.int 0) (.int (-up - 1)))∧(bx [] (.tuple [.int (-up - 1),.int (p2 - lo)]) (.int 1) (.int (p2 - lo)))∧(bS .USub (.int (p2 - lo)) (.int (-(p2 - lo))))∧(Cm [] .NotEq (.tuple [.int (-up - 1),.int (-(p2 - lo))]) (.tuple [.int (-up - 1),.int (-(p2 - lo))]) false)∧(ah [] .LShift (.int 1) (.int (Int.fmod (Int.fdiv (207+tw) 80) (↑(List.length (aq RW))+1))) (.int p2))∧(ah [] .Mult (.int up) (.int p2) (.int (up*p2)))∧(ah [] .Add (.int (up*p2)) (.int lo) (.int (up*p2+lo)))∧(Cm [] .NotEq (.int (up*p2+lo)) (.int x) false)∧(Cm [] .LtE (.int 0) (.int lo) true)∧(ah [] .LShift (.int 1) (.int (Int.fmod (Int.fdiv (207+tw) 80) (↑(List.length (aq RW))+1))) (.int p2))∧(Cm [] .Lt (.int lo) (.int p2) true)∧(call (.val (.ref 314)) [.int up,.int (1+Int.fmod (Int.fdiv (207+tw) 5) 4),.bool false] [] [] (.tuple [.int pu,.int t6]) [])∧(bx [] (.tuple [.int pu,.int t6]) (.int 0) (.int pu))∧(call (.val (.ref 314)) [.int lo,.int (1+Int.fmod (Int.fdiv (207+tw) 5) 4),.bool false] [] [] (.tuple [.int pl,.int t7]) [])∧(bx [] (.tuple [.int pl,.int t7]) (.int 0) (.int pl))∧(ah [] .LShift (.int 1) (.int (Int.fmod (Int.fdiv (207+tw) 80) (↑(List.length (aq RW))+1))) (.int p2))∧(call (.val (.ref 230)) [.int f,.int p2] [] [] (.tuple [.int fu,.int fl]) [])∧(Cm [] .Eq (.tuple [.int fu,.int fl]) (.tuple [.int pu,.int pl]) bb)∧(-(2:Int) ^ (62:Nat)<Int.fmod (Int.fdiv ((207:Int)+tw) (80:Int)) (↑(List.length (RW++[.int (1:Int),.int (0:Int),.int (1:Int),.int (1:Int),.int (1:Int)]))+(1:Int))∧Int.fmod (Int.fdiv ((207:Int)+tw) (80:Int)) (↑(List.length (RW++[.int (1:Int),.int (0:Int),.int (1:Int),.int (1:Int),.int (1:Int)]))+(1:Int))<(2:Int) ^ (62:Nat))∧(aW [] (.list (aq RW)) none (some (Int.fmod (Int.fdiv (207+tw) 80) (↑(List.length (aq RW))+1))) (.list RC))∧(call (.val (.ref 309)) [.list RC,.int (1+Int.fmod (Int.fdiv (207+tw) 5) 4)] [] [] (.list HC) [])∧(bS .USub (.int 1) (.int (-1)))∧(bx [] (.list HC) (.int (-1)) (.int hc))∧(Cm [] .Eq (.int hc) (.int 0) bb)∧(Cm [] .NotEq (.bool bb) (.bool bb) false)∧(Cm [] .Gt (.int (1+Int.fmod (Int.fdiv (207+tw) 5) 4)) (.int 1) true)∧(Tr [] (.bool true) true)∧(cZ (.bool true) (.bool true) [] [])) (by kernel_rfl) ⟨⟨(by exact Int.natCast_nonneg _),(by exact Int.natCast_nonneg _)⟩,(.list .val (by exact aS ‹_›)),(by exact small ‹_›),‹_›,(.app .val .val (by exact bp ‹_› (by decide))),⟨(by exact Int.natCast_nonneg _),(by exact Int.natCast_nonneg _)⟩,(.list .val (by exact aS ‹_›)),(by exact small ‹_›),‹_›,sm,.add,(.mod (by decide)),(.fdiv (by decide) rfl),(.mod (by decide)),.add,(.fdiv (by decide) rfl),(.mod (by decide)),.add,‹_›,‹_›,‹_›,‹_›,⟨‹_›,‹_›⟩,sA,uA,(.neI ‹_›),⟨‹_›,‹_›⟩,sB,uB,(.neI ‹_›),uC,uD,(.neI ‹_›),‹_›,n1,‹_›,n1,‹_›,(.tup rfl rfl),‹_›,(.tup rfl rfl),(.neI ‹_›),(.lenL .val (by exact aS ‹_›)),(.mul rfl ‹_›),‹_›,‹_›,(.tup rfl rfl),(.lenL .val (by exact aS ‹_›)),(.mul rfl ‹_›),‹_›,(.neI ‹_›),(.fdiv (by decide) rfl),(.lenL .val (by exact aS ‹_›)),.add,(.mod ‹_›),sh,‹_›,(.int ‹_›),.neg,.sub,sh,.sub,.neg,sh,.neg,‹_›,.neg,n3,.neg,sh,‹_›,n4,sh,.neg,‹_›,(.tup rfl rfl),(.tup rfl rfl),.neg,n5,sh,(.mul ‹_› ‹_›),.add,(.neI ‹_›),(.le ‹_›),sh,(.lt ‹_›),‹_›,(.tup rfl rfl),‹_›,(.tup rfl rfl),sh,‹_›,n6,⟨‹_›,‹_›⟩,sR,‹_›,.neg,(.list .val ‹_› ‹_›),r9,r10,(.gt ‹_›),.bool,fin⟩
end
end Mini
set_option maxRecDepth 100000
set_option autoImplicit false
set_option exponentiation.threshold 5000
namespace Mini
open PySem
noncomputable def gi (xs:List Int):List Nat:=xs.map fun a=>(a.fmod 2).toNat
theorem s8 {xs:List Int}:ap (gi xs):=fun d h=>by
 obtain⟨a,_,rfl⟩:=List.mem_map.mp h;exact Nat.le_of_lt_succ ((Int.toNat_lt (Int.fmod_nonneg_of_pos a (by decide))).mpr (Int.fmod_lt_of_pos a (show (0:Int)<((2:Nat):Int) by decide)))
noncomputable def lX (xs:List Int):List Nat:=gi xs++[1,0,1,1,1]
theorem v4 {xs:List Int}:ap (lX xs):=gN s8 (by decide)
theorem row_len {xs:List Int}:(lX xs).length=xs.length+5:=by unfold lX gi; rw [List.length_append,List.length_map]; rfl
theorem row_v {xs:List Int}:(lX xs).map iv=(gi xs).map iv++[V.int 1,V.int 0,V.int 1,V.int 1,V.int 1]:=by unfold lX; rw [List.map_append]; rfl
theorem yN {xs:List Int}:(gi xs).map iv=xs.map fun a=>V.int (a.fmod 2):=by
 unfold gi;rw [List.map_map];refine List.map_congr_left fun a _=>?_
 show V.int ((a.fmod 2).toNat:Int)=_;rw [Int.toNat_of_nonneg (Int.fmod_nonneg_of_pos a (by decide))]
theorem p8 {w:List Nat}(hw:ap w):i9 (aT (aA 1 w))=i9 w:=su eE hw (gS hw) fun _=>ku hw
theorem s9 {p q r a:Int}(h:a=p - r+p*q) (h1:0≤p - r) (h2:p - r<p) (h0:0≤p):a.fdiv p=q∧a.fmod p=p - r:=by
 rw [Int.fdiv_eq_ediv_of_nonneg _ h0,Int.fmod_eq_emod_of_nonneg _ h0];exact (Int.ediv_emod_unique (Int.lt_of_le_of_lt h1 h2)).mpr ⟨h.symm,h1,h2⟩
theorem tc {x p:Nat}(hp:1≤p):x % p=0∧(-(x:Int)).fdiv p = -((x / p:Nat):Int)∧(-(x:Int)).fmod p=0∨x % p≠0∧(-(x:Int)).fdiv p = -((x / p:Nat):Int) - 1∧(-(x:Int)).fmod p=(p:Int) - (x % p:Nat):=by
 have hlt:=Nat.mod_lt x hp;have hi:(x:Int)=(p:Int)*((x / p:Nat):Int)+((x % p:Nat):Int):=by rw [←Int.natCast_mul,←Int.natCast_add,Nat.div_add_mod]
 generalize x / p=a at *;generalize x % p=b at *;cases b with
 |zero=>
  have h:=s9 (p:=p) (q:=-(a:Int)) (r:=p) (a:=-(x:Int)) (by rw [hi,Int.mul_neg,Int.sub_self,Int.zero_add]; exact congrArg _ (Int.add_zero _)) (Int.le_of_eq (Int.sub_self _).symm) (Int.sub_self (p:Int)▸Int.natCast_pos.mpr hp) (Int.natCast_nonneg _)
  exact .inl ⟨rfl,h.1,h.2.trans (Int.sub_self _)⟩
 |succ b=>
  have h:=s9 (p:=p) (q:=-(a:Int) - 1) (r:=(b+1:Nat)) (a:=-(x:Int)) (by rw [hi,Int.mul_sub,Int.mul_neg,Int.mul_one,Int.neg_add,Int.sub_eq_add_neg,Int.sub_eq_add_neg,Int.add_comm (p:Int),Int.add_comm (-_) (-(p:Int)),Int.add_assoc,Int.add_neg_cancel_left,Int.add_comm]) (Int.sub_nonneg_of_le (Int.ofNat_le.mpr (Nat.le_of_lt hlt))) (Int.sub_lt_self _ (Int.natCast_pos.mpr (Nat.succ_pos b))) (Int.natCast_nonneg _)
  exact .inr ⟨Nat.succ_ne_zero b,h.1,h.2⟩
structure LV (r:List Nat) (one oth ct:Nat):Prop where
 b:ap r
 l:r.length≤65
 l5:5≤r.length
 o1:1≤one
 o4:one≤4
 p1:1≤oth
 p4:oth≤4
 c:ct≤r.length
section
variable {r:List Nat}{one oth ct:Nat}
noncomputable abbrev B4 (r:List Nat):Nat:=aA 1 r
theorem LV.x (V:LV r one oth ct):B4 r<2 ^ 65:=Nat.lt_of_lt_of_le (cK V.b) (Nat.pow_le_pow_right (by decide) V.l)
theorem LV.fl (V:LV r one oth ct) {l:Nat}(h:l≤4):cV l r<2 ^ 69:=Nat.lt_of_lt_of_le (x9 V.b) (Nat.pow_le_pow_right (by decide) (Nat.add_le_add V.l h))
theorem iC {n l:Nat}{w:List Nat}{last:Bool}{σ:H}(hw:ap w) (hl:w.length≤140) (h1:1≤l) (h4:l≤4):ab C1 (n+11) (.val (.ref 314)) [.int (aA 1 w:Nat),.int l,.bool last] [] σ (.tuple [.int (cV l w:Nat),.int (bg l 0 w:Nat)]) σ:=by
 have:=qJ (n:=n) (last:=last) (σ:=σ) h1 h4 (Nat.lt_of_lt_of_le (cK hw) (Nat.pow_le_pow_right (by decide) hl))
 rwa [eG hw,ku hw] at this
theorem td {n k:Nat}{w:List Nat}{σ:H}(hw:ap w) (hl:w.length<90) (hk:k∈k5):ab C1 (n+103) (.val (.ref 319)) [.int (aA 1 w:Nat),.int k] [] σ (.list ((i9 w).map iv)) σ:=by
 have:=kG (n:=n) (σ:=σ) (Nat.lt_of_lt_of_le (cK hw) (Nat.pow_le_pow_right (by decide) (Nat.le_of_lt hl))) hk
 rwa [p8 hw] at this
theorem xi {n k:Nat}{w:List Nat}{σ:H}(hw:ap w) (hl:w.length≤k) (hk:k≤140):ab C1 (n+11) (.val (.ref 326)) [.int (aA 1 w:Nat),.int k] [] σ (.int (aA 1 (w++zs (k - w.length)).reverse:Nat)) σ:=by
 have hx:=cK hw;have:=sz (n:=n) (k:=k) (σ:=σ) (Nat.lt_of_lt_of_le hx (Nat.pow_le_pow_right (by decide) (Nat.le_trans hl (Nat.le_trans hk (by decide))))) (Nat.le_trans (iq hx) hl) (Nat.le_trans hk (by decide))
 have e:ya (aA 1 w) k=aA 1 (w++zs (k - w.length)).reverse:=by
  have:=kx (bf (n:=k - w.length) hw);rwa [eD,List.length_append,List.length_replicate,Nat.add_sub_cancel' hl] at this
 rwa [e] at this
theorem kI {w:List Nat}{σ:H}:ay σ (.builtin "sum") [.list (w.map iv)] (.int (w.sum:Nat)):=by
 have:=ay.sum (σ:=σ) (LO.val (xs:=(iz w).map .int));rwa [rY,pW] at this
theorem b7 {w:List Nat}{n:Nat}{σ:H}(h:w.length<1000):aW σ (.list (w.map iv)) none (some (n:Int)) (.list ((w.take n).map iv)):=by
 have:=aW.list (σ:=σ) (lo:=none) (hi:=some (n:Int)) (LO.val (xs:=w.map iv)) (aS (na h));rwa [ig,←List.map_take] at this
theorem gW {w:List Nat}{σ:H}:Cm σ .NotEq (.list (w.map iv)) (.list (w.map iv)) false:=by
 have:=Cm.neIs (σ:=σ) (LO.val (xs:=(iz w).map .int)) (LO.val (xs:=(iz w).map .int)) (show (!decide (iz w=iz w))=false by rw [decide_eq_true rfl]; rfl)
 rwa [pW] at this
theorem bU {a b:Int}{σ:H}:Cm σ .NotEq (.tuple [.int a,.int b]) (.tuple [.int a,.int b]) false:=.neT (.int (.int .nil))
noncomputable abbrev fR (l:Nat) (r:List Nat):List Nat:=rn l 0 (r++zs l)
theorem ed (V:LV r one oth ct) {l:Nat}:ap (fR l r):=bE V.b
theorem p9 {l:Nat}:(fR l r).length=r.length+l:=by rw [rn_len,List.length_append,List.length_replicate]
theorem AG (V:LV r one oth ct) {l:Nat}:i9 (fR l r)=i9 r:=by
 have h1:=p8 (ed V (l:=l));have h2:i9 (aT (aA 1 (fR l r)))=i9 r:=vt V.b;exact h1.symm.trans h2
theorem yO (V:LV r one oth ct) {k l:Nat}:cV k (fR l r)=cV l (fR k r):=by
 have:=sx (l:=l) (k:=k) V.b;have h1:cV k (aT (aA 1 (fR l r)))=cV k (fR l r):=eG (ed V);have h2:cV l (aT (aA 1 (fR k r)))=cV l (fR k r):=eG (ed V);exact h1.symm.trans (this.trans h2)
theorem AH (V:LV r one oth ct) {n:Nat}(h:r.length+one≤n):cV one (fR one r++zs (n - (fR one r).length)).reverse=aA 1 (r++zs (n - r.length)).reverse:=by
 have h0:=vu (l:=one) V.b h;have hl:(fR one r).length≤n:=p9▸h;have e:ya (cV one r) n=aA 1 (fR one r++zs (n - (fR one r).length)).reverse:=by
  have:=kx (bf (n:=n - (fR one r).length) (ed V (l:=one)));rwa [eD,List.length_append,List.length_replicate,Nat.add_sub_cancel' hl] at this
 rw [e,eG fun d q=>bf (ed V) d (List.mem_reverse.mp q)] at h0
 exact h0
theorem LV.f (V:LV r one oth ct) {l:Nat}(h:l≤4):(fR l r).length≤69:=Nat.le_trans (Nat.le_of_eq p9) (Nat.add_le_add V.l h)
theorem LV.f2 (V:LV r one oth ct) {l:Nat}(h:l≤4):r.length+l≤2*r.length:=Nat.two_mul _▸Nat.add_le_add_left (Nat.le_trans h (Nat.le_of_succ_le V.l5)) _
theorem nW {m:Nat}(h:m≤65):2*m≤140:=Nat.le_trans (Nat.mul_le_mul_left 2 h) (by decide)
theorem gK {n:Nat}:-(2 ^ 62)<(n:Int):=Int.lt_of_lt_of_le (by decide) (Int.natCast_nonneg n)
theorem gL {n:Nat}(h:n≤65):(n:Int)<2 ^ 62:=Int.lt_of_le_of_lt (Int.ofNat_le.mpr h) (by decide)
theorem a8 {a b c:Nat}(h:a≤b) (q:Nat.ble b c=true):a≤c:=Nat.le_trans h (Nat.le_of_ble_eq_true q)
theorem AI {w:List Nat}(h:one=1) (hw:ap w):cV one w=2*aA 1 w:=by
 subst h;exact vx hw
theorem te {n k:Nat}(X:LV r one oth ct) (hk:k∈k5) {xs RW TW:List V}{tw:Int}(eR:r.map iv=RW++[V.int 1,V.int 0,V.int 1,V.int 1,V.int 1])
 (ca:Cp (ab C1 (n+103)) 37 (ex 331 0 [0]) none (a9 xs none (some 60)) (fr 331 [some (.list xs)]) [] RW [])
 (cb:Cp (ab C1 (n+103)) 36 (ex 331 1 [1,0]) none (a9 xs none (some 60)) (fr 331 [some (.list xs),none,some (.list (RW++[V.int 1,V.int 0,V.int 1,V.int 1,V.int 1]))]) [] TW [])
 (hx:xs.length<1000) (hz:(a9 xs none (some 60)).length<1048576) (sm:ay [] (.builtin "sum") [.list TW] (.int tw)) (k1:(207+tw).fmod 5=k) (k2:1+((207+tw).fdiv 5).fmod 4=one) (k3:1+((207+tw).fdiv 20).fmod 4=oth) (k4:((207+tw).fdiv 80).fmod ((r.length:Int)+1)=ct) :
 ag C1 (ab C1 (n+103)) (bJ 331).body (fr 331 [some (.list xs)]) [] (.bool true) []:=by
 have L65:=X.l;have eL:(RW++[V.int 1,V.int 0,V.int 1,V.int 1,V.int 1]).length=r.length:=by rw [←eR,List.length_map]
 have hr9:r.length<1000:=a8 (Nat.succ_le_succ L65) rfl;have hRW:RW.length<1000:=Nat.lt_of_le_of_lt (Nat.le_trans (Nat.le_add_right _ _) (Nat.le_of_eq (List.length_append.symm.trans eL))) hr9;have F1:=X.f X.o4;have F2:=X.f X.p4;have hx0:=X.x;have c1:ab C1 (n+103) (.val (.ref 216)) [.list (r.map iv),.int 1] [] [] (.int (aA 1 r:Nat)) []:=fx (n:=n+93) (w:=1) (ds:=r) LO.val (kt X.b) (a8 (Nat.succ_le_succ L65) rfl) (by decide) (a8 L65 rfl) ((Nat.one_mul _).symm▸a8 L65 rfl)
 have c2:=td (n:=n) (k:=k) (σ:=[]) X.b (a8 (Nat.succ_le_succ L65) rfl) hk;have c3:=iC (n:=n+92) (last:=false) (σ:=[]) X.b (a8 L65 rfl) X.o1 X.o4;have c4:=iC (n:=n+92) (last:=true) (σ:=[]) X.b (a8 L65 rfl) X.p1 X.p4;have c5:=td (n:=n) (k:=k) (σ:=[]) (ed X (l:=one)) (a8 (Nat.succ_le_succ F1) rfl) hk;have c6:=td (n:=n) (k:=k) (σ:=[]) (ed X (l:=oth)) (a8 (Nat.succ_le_succ F2) rfl) hk;rw [AG X] at c5 c6;have c7:=iC (n:=n+92) (last:=true) (σ:=[]) (ed X (l:=one)) (a8 F1 rfl) X.p1 X.p4;have c8:=iC (n:=n+92) (last:=false) (σ:=[]) (ed X (l:=oth)) (a8 F2 rfl) X.o1 X.o4;rw [←yO X] at c8;have c9:=xi (n:=n+92) (k:=2*r.length) (σ:=[]) (ed X (l:=one)) (Nat.le_trans (Nat.le_of_eq p9) (X.f2 X.o4)) (nW L65);have d1:=iC (n:=n+92) (last:=true) (σ:=[]) (w:=(fR one r++zs (2*r.length - (fR one r).length)).reverse) (fun d q=>bf (ed X) d (List.mem_reverse.mp q)) (by rw [List.length_reverse,List.length_append,List.length_replicate,Nat.add_sub_cancel' (Nat.le_trans (Nat.le_of_eq p9) (X.f2 X.o4))]; exact nW L65) X.o1 X.o4
 rw [AH X (X.f2 X.o4)] at d1;have d2:=xi (n:=n+92) (k:=2*r.length) (σ:=[]) X.b (Nat.le_mul_of_pos_left _ (by decide)) (nW L65)
 have hp:2 ^ ct<2 ^ 190:=Nat.pow_lt_pow_right (by decide) (a8 (Nat.succ_le_succ (Nat.le_trans X.c L65)) rfl)
 have hp1:1≤2 ^ ct:=Nat.two_pow_pos ct;have hxl:(aA 1 r)<2 ^ 190:=Nat.lt_trans hx0 (by decide)
 have hfl:aA 1 (fR one r)<2 ^ 190:=Nat.lt_trans (X.fl X.o4) (by decide)
 have d3:=fy (n:=n+90) (a:=(aA 1 r:Nat)) (σ:=[]) hp1 hxl hp;have d4:=pE (n:=n+89) (a:=(aA 1 r:Nat)) (σ:=[]) hp1 hxl hp;have d5:=fy (n:=n+90) (a:=-(aA 1 r:Nat)) (σ:=[]) hp1 (by rw [Int.natAbs_neg]; exact hxl) hp
 have d6:=pE (n:=n+89) (a:=-(aA 1 r:Nat)) (σ:=[]) hp1 (by rw [Int.natAbs_neg]; exact hxl) hp
 have d9:=fy (n:=n+90) (a:=(aA 1 (fR one r):Nat)) (σ:=[]) hp1 hfl hp;have e2:=fy (n:=n+90) (b:=2) (a:=(aA 1 (fR one r):Nat)) (σ:=[]) (by decide) hfl (by decide)
 rw [Int.neg_neg] at d6;rw [cw,dd] at d3 d4 d9;obtain⟨q1,q2⟩:=pN X.b X.c;rw [q1,q2] at d3 d4;have hT:(r.take ct).length≤r.length:=List.length_take_le' _ _;have bT:ap (r.take ct):=fun d q=>X.b d (List.mem_of_mem_take q)
 have bD:ap (r.drop ct):=fun d q=>X.b d (List.mem_of_mem_drop q)
 have d7:=iC (n:=n+92) (last:=false) (σ:=[]) bD (Nat.le_trans (List.length_drop▸Nat.sub_le _ _) (a8 L65 rfl)) X.o1 X.o4;have d8:=iC (n:=n+92) (last:=false) (σ:=[]) bT (Nat.le_trans hT (a8 L65 rfl)) X.o1 X.o4;have e1:=jA (n:=n+102) (r:=one) (σ:=[]) bT (a8 (Nat.succ_le_succ (Nat.le_trans hT L65)) rfl);rw [eR] at c1;have hH:(i9 r).length<1000:=by
  unfold i9;rw [List.length_map,List.length_range];exact Nat.lt_of_le_of_lt (Nat.le_trans (nV (h:=0) X.b) (Nat.zero_add _▸pX X.b)) hr9
 have e2r:((2*r.length:Nat):Int)=2*((RW++[V.int 1,V.int 0,V.int 1,V.int 1,V.int 1]).length:Int):=by rw [eL]; rfl
 rw [e2r] at c9 d2;have uA:ay [] (.builtin "sum") [.list (((i9 r).take one).map iv)] (.int (bg one 0 r:Nat)):=by rw [←lS X.b]; exact kI
 have uB:ay [] (.builtin "sum") [.list (((i9 r).take oth).map iv)] (.int (bg oth 0 r:Nat)):=by rw [←lS X.b]; exact kI
 have uC:ay [] (.builtin "sum") [.list ((i9 r).map iv)] (.int (r.sum:Nat)):=by rw [←vm X.b]; exact kI
 have uD:ay [] (.builtin "sum") [.list (RW++[V.int 1,V.int 0,V.int 1,V.int 1,V.int 1])] (.int (r.sum:Nat)):=by rw [←eR]; exact kI
 have sh:ah [] .LShift (.int 1) (.int ct) (.int (2 ^ ct:Nat)):=by
  have:=py (σ:=[]) (a:=1) (s:=ct) (k:=1) (by decide) (by decide) (Nat.le_trans X.c (a8 L65 rfl))
  rwa [Nat.one_mul] at this
 have sR:aW [] (.list (RW++[V.int 1,V.int 0,V.int 1,V.int 1,V.int 1])) none (some (ct:Int)) (.list ((r.take ct).map iv)):=by rw [←eR]; exact b7 hr9
 have hxn:aA 1 (r.take ct)<2 ^ ct:=q1▸Nat.mod_lt _ hp1;have hup:aA 1 (r.drop ct)≤aA 1 r:=q2▸Nat.div_le_self _ _;have hdm:aA 1 (r.drop ct)*2 ^ ct+aA 1 (r.take ct)=aA 1 r:=by
  rw [←q1,←q2,Nat.mul_comm]; exact Nat.div_add_mod _ _
 have o2:aZ ((aA 1 (r.drop ct):Nat):Int)=true:=gC (k:=190) (Nat.lt_of_le_of_lt hup hxl) (by decide)
 have o3:aZ ((2 ^ ct:Nat):Int)=true:=gC hp (by decide)
 have r6:(((aA 1 (r.drop ct):Nat):Int)*((2 ^ ct:Nat):Int)+((aA 1 (r.take ct):Nat):Int) != ((aA 1 r:Nat):Int))=false:=by
  rw [←Int.natCast_mul,←Int.natCast_add,hdm]; exact bne_self_eq_false _
 have r7:decide (0≤((aA 1 (r.take ct):Nat):Int))=true:=decide_eq_true (Int.natCast_nonneg _);have r8:decide (((aA 1 (r.take ct):Nat):Int)<((2 ^ ct:Nat):Int))=true:=decide_eq_true (Int.ofNat_lt.mpr hxn);have hC:((0::hl one 0 (r.take ct)).map iv).length<1000:=by rw [List.length_map,List.length_cons,kz]; exact a8 (Nat.succ_le_succ (Nat.succ_le_succ (Nat.le_trans hT L65))) rfl
 obtain⟨jj,p1,q3⟩:∃jj,aE ((0::hl one 0 (r.take ct)).map iv).length (-1)=some jj∧((0::hl one 0 (r.take ct)).map iv)[jj]? = some (.int (bY one 0 (r.take ct):Nat)):=by
  have e:((0::hl one 0 (r.take ct)).map iv).length=(hl one 0 (r.take ct)).length+1:=by rw [List.length_map,List.length_cons]
  refine⟨(hl one 0 (r.take ct)).length,by rw [e]; exact de (by rw [←e]; exact aS hC),?_⟩
  have:=sy (r:=one) (c:=0) (w:=r.take ct);rw [List.getLast?_eq_getElem?] at this;rw [List.getElem?_map];exact congrArg (Option.map iv) this
 have ci:=vw (l:=one) X.b X.c;obtain⟨bb,hbb⟩:∃bb,decide (bY one 0 (r.take ct)=0)=bb:=⟨_,rfl⟩;have r9:(((bY one 0 (r.take ct):Nat):Int)==0)=bb:=by
  rw [←hbb,Bool.eq_iff_iff,beq_iff_eq,decide_eq_true_iff]; exact Int.ofNat_eq_zero
 have n6:(((aA 1 (fR one r) / 2 ^ ct:Nat):Int)==((cV one (r.drop ct):Nat):Int)&&((aA 1 (fR one r) % 2 ^ ct:Nat):Int)==((cV one (r.take ct):Nat):Int))=bb:=by
  rw [←hbb,Bool.eq_iff_iff,Bool.and_eq_true,beq_iff_eq,beq_iff_eq,decide_eq_true_iff,Int.ofNat_inj,Int.ofNat_inj]; exact ci
 have two_eq:∀a b:Int,Cm [] .Eq (.tuple [.int a,.int b]) (.tuple [.int a,.int b]) true:=fun a b=>.eqT2 (by rw [beq_self_eq_true,beq_self_eq_true]; rfl)
 have o1:aZ ((RW++[V.int 1,V.int 0,V.int 1,V.int 1,V.int 1]).length:Int)=true:=by rw [eL]; exact gC (k:=65) (Nat.lt_of_le_of_lt L65 (by decide)) (by decide)
 have k5':((207+tw).fdiv 80).fmod (((RW++[V.int 1,V.int 0,V.int 1,V.int 1,V.int 1]).length:Int)+1)=ct:=by rw [eL]; exact k4
 have n2':((RW++[V.int 1,V.int 0,V.int 1,V.int 1,V.int 1]).length:Int)+1≠0:=Int.ofNat_ne_zero.mpr (Nat.succ_ne_zero _);have e3:one=1→ab C1 (n+103) (.val (.ref 230)) [.int (aA 1 (fR one r):Nat),.int 2] [] [] (.tuple [.int (aA 1 r:Nat),.int 0]) []:=fun h1=>by
  have ef:aA 1 (fR one r)=2*aA 1 r:=AI h1 X.b;have e3:((aA 1 (fR one r):Nat):Int).fdiv ((2:Nat):Int)=((aA 1 r:Nat):Int):=by rw [cw,ef,Nat.mul_div_cancel_left _ (by decide)]
  have e4:((aA 1 (fR one r):Nat):Int).fmod ((2:Nat):Int)=0:=by rw [dd,ef,Nat.mul_mod_right]; rfl
  rw [e3,e4] at e2;exact e2
 rcases tc (x:=aA 1 r) hp1 with ⟨z0,z1,z2⟩ | ⟨z0,z1,z2⟩
 ·rw [q1] at z0;rw [z1,z2,q2] at d5 d6;have hl:(!(((aA 1 (r.take ct):Nat):Int)==0))=false:=by rw [z0]; rfl
  by_cases h1:one=1
  ·exact vX ca cb c1 c2 c3 c4 c5 c6 c7 c8 c9 d1 d2 d3 d4 d5 d6 d7 d8 d9 e1 (e3 h1) hx hz hRW (eL.symm▸hr9) sm k1 k2 k3 gK (gL (a8 X.o4 rfl)) gK (gL (a8 X.p4 rfl)) (b7 hH) uA (b7 hH) uB uC uD (bne_self_eq_false _) (bne_self_eq_false _) (bne_self_eq_false _) gW (bne_self_eq_false _) o1 (bne_self_eq_false _) k5' n2' sh hl bU bU bU o2 o3 r6 r7 r8 gK (gL (Nat.le_trans X.c L65)) sR hC p1 q3 (.eqT2 n6) (.eqI r9) (.neB (bne_self_eq_false _)) (decide_eq_false fun q=>absurd (h1▸q) (by decide)) (two_eq _ _)
  ·exact vY ca cb c1 c2 c3 c4 c5 c6 c7 c8 c9 d1 d2 d3 d4 d5 d6 d7 d8 d9 e1 hx hz hRW (eL.symm▸hr9) sm k1 k2 k3 gK (gL (a8 X.o4 rfl)) gK (gL (a8 X.p4 rfl)) (b7 hH) uA (b7 hH) uB uC uD (bne_self_eq_false _) (bne_self_eq_false _) (bne_self_eq_false _) gW (bne_self_eq_false _) o1 (bne_self_eq_false _) k5' n2' sh hl bU bU bU o2 o3 r6 r7 r8 gK (gL (Nat.le_trans X.c L65)) sR hC p1 q3 (.eqT2 n6) (.eqI r9) (.neB (bne_self_eq_false _)) (decide_eq_true (Int.ofNat_lt.mpr (Nat.lt_of_le_of_ne X.o1 (Ne.symm h1))))
 ·rw [q1] at z0 z2;rw [z1,z2,q2] at d5 d6;have hl:(!(((aA 1 (r.take ct):Nat):Int)==0))=true:=by
   have:(((aA 1 (r.take ct):Nat):Int)==0)=false:=beq_eq_false_iff_ne.mpr (Int.ofNat_ne_zero.mpr z0);rw [this]; rfl
  by_cases h1:one=1
  ·exact vZ ca cb c1 c2 c3 c4 c5 c6 c7 c8 c9 d1 d2 d3 d4 d5 d6 d7 d8 d9 e1 (e3 h1) hx hz hRW (eL.symm▸hr9) sm k1 k2 k3 gK (gL (a8 X.o4 rfl)) gK (gL (a8 X.p4 rfl)) (b7 hH) uA (b7 hH) uB uC uD (bne_self_eq_false _) (bne_self_eq_false _) (bne_self_eq_false _) gW (bne_self_eq_false _) o1 (bne_self_eq_false _) k5' n2' sh hl bU bU bU o2 o3 r6 r7 r8 gK (gL (Nat.le_trans X.c L65)) sR hC p1 q3 (.eqT2 n6) (.eqI r9) (.neB (bne_self_eq_false _)) (decide_eq_false fun q=>absurd (h1▸q) (by decide)) (two_eq _ _)
  ·exact v3 ca cb c1 c2 c3 c4 c5 c6 c7 c8 c9 d1 d2 d3 d4 d5 d6 d7 d8 d9 e1 hx hz hRW (eL.symm▸hr9) sm k1 k2 k3 gK (gL (a8 X.o4 rfl)) gK (gL (a8 X.p4 rfl)) (b7 hH) uA (b7 hH) uB uC uD (bne_self_eq_false _) (bne_self_eq_false _) (bne_self_eq_false _) gW (bne_self_eq_false _) o1 (bne_self_eq_false _) k5' n2' sh hl bU bU bU o2 o3 r6 r7 r8 gK (gL (Nat.le_trans X.c L65)) sR hC p1 q3 (.eqT2 n6) (.eqI r9) (.neB (bne_self_eq_false _)) (decide_eq_true (Int.ofNat_lt.mpr (Nat.lt_of_le_of_ne X.o1 (Ne.symm h1))))
end
theorem xj {c:Int}{m:Nat}(hm:0<m):∃k:Nat,k<m∧c.fmod m=k:=by
 obtain⟨k,e⟩:=Int.eq_ofNat_of_zero_le (Int.fmod_nonneg_of_pos c (Int.natCast_pos.mpr hm));exact⟨k,Int.ofNat_lt.mp (e▸Int.fmod_lt_of_pos c (Int.natCast_pos.mpr hm)),e⟩
theorem lv {ys:List Int}{o p t:Nat}(hy:ys.length≤60) (ho:o<4) (hp:p<4) (ht:t<(lX ys).length+1):LV (lX ys) (1+o) (1+p) t:=
 ⟨v4,Nat.le_trans (Nat.le_of_eq row_len) (Nat.add_le_add_right hy 5),Nat.le_trans (Nat.le_add_left 5 ys.length) (Nat.le_of_eq row_len.symm),Nat.le_add_right 1 o,Nat.add_comm 1 o▸ho,Nat.le_add_right 1 p,Nat.add_comm 1 p▸hp,Nat.le_of_lt_succ ht⟩
theorem v6 {n:Nat}{xs:List Int}(h:xs.length≤63):ag C1 (ab C1 (n+103)) (bJ 331).body (fr 331 [some (.list (xs.map .int))]) [] (.bool true) []:=by
 have hy:(xs.take 60).length≤60:=List.length_take_le _ _;have ec:a9 (xs.map V.int) none (some 60)=(xs.take 60).map V.int:=(ig (n:=60)).trans List.map_take.symm;have sm:ay [] (.builtin "sum") [.list (((xs.take 60).map fun a=>a.fmod 1000000).map V.int)] (.int ((xs.take 60).map fun a=>a.fmod 1000000).sum):=ay.sum LO.val
 rw [List.map_map] at sm;obtain⟨k,hk,k1⟩:=xj (c:=207+((xs.take 60).map fun a=>a.fmod 1000000).sum) (m:=5) (by decide)
 obtain⟨o,ho,k2⟩:=xj (c:=(207+((xs.take 60).map fun a=>a.fmod 1000000).sum).fdiv 5) (m:=4) (by decide)
 obtain⟨p,hp,k3⟩:=xj (c:=(207+((xs.take 60).map fun a=>a.fmod 1000000).sum).fdiv 20) (m:=4) (by decide)
 obtain⟨t,ht,k4⟩:=xj (c:=(207+((xs.take 60).map fun a=>a.fmod 1000000).sum).fdiv 80) (m:=(lX (xs.take 60)).length+1) (Nat.succ_pos _)
 exact te (n:=n) (lv hy ho hp ht) ((by decide:∀k,k<5→k∈k5) k hk) (row_v.trans (congrArg (· ++ _) yN)) (ec▸kF V.int _ (by kernel_rfl) fun a _ o=>Bm) (ec▸kF V.int _ (by kernel_rfl) fun a _ o=>Bn)
  (na (Nat.lt_of_le_of_lt h (by decide))) (ec▸na (Nat.lt_of_le_of_lt hy (by decide))) sm k1 (congrArg (1 + ·) k2) (congrArg (1 + ·) k3) k4
theorem AJ {xs:List Int}(h:xs.length≤63):∃n σ',n≤200∧ab C1 n (.val (.ref 331)) [.list (xs.map .int)] [] [] (.bool true) σ':=
 ⟨104,[],by decide,aN (by kernel_rfl) (by kernel_rfl) (v6 (n:=0) h)⟩
end Mini
set_option maxRecDepth 100000
set_option autoImplicit false
namespace Mini
open PySem PySem.W PyProof.Rows
structure Wd where
 phi:List Addr
 fz:Addr→Option Obj
 tk:Nat
structure Wd.le (W W':Wd):Prop where
 phi:∃more,W'.phi=W.phi++more
 fz:∀a o,W.fz a=some o→W'.fz a=some o
 tk:W.tk≤W'.tk
theorem Wd.le.refl (W:Wd):W.le W:=⟨⟨[],by simp⟩,fun _ _ e=>e,Nat.le_refl _⟩
theorem Wd.le.trans {A B C:Wd}(x:A.le B) (y:B.le C):A.le C:=by
 obtain⟨m,e⟩:=x.phi;obtain⟨n,f⟩:=y.phi;exact⟨⟨m++n,by rw [f,e,List.append_assoc]⟩,fun a o q=>y.fz a o (x.fz a o q),Nat.le_trans x.tk y.tk⟩
theorem Wd.le.at {W W':Wd}(x:W.le W') {i:Nat}{a:Addr}(e:W.phi[i]? = some a):W'.phi[i]? = some a:=by
 obtain⟨m,q⟩:=x.phi;rw [q,List.getElem?_append_left (List.getElem?_eq_some_iff.mp e).1,e]
noncomputable abbrev ak (ys:List Value) (ep:Nat):Obj:={ cls:=.type "list",data:=.seq ys.toArray ep }
noncomputable abbrev fE (ys:List Value):Obj:={ cls:=.type "tuple",data:=.seq ys.toArray }
noncomputable abbrev ax (ds:List DictEntry) (ep:Nat):Obj:={ cls:=.type "dict",data:=.dict ds.toArray ep }
noncomputable abbrev xk (id:String) (u:Value):Obj:={ cls:=.type "builtin_function_or_method",data:=.fields #[.builtin id,u] }
noncomputable def cW (W:Wd) (c:Addr) (v:Value):Prop:=∃o,W.fz c=some o∧o.data = .cell (some v)
noncomputable def cL (W:Wd) (cd:Value):Prop:=∃c o vs q t,cd = .ref c∧W.fz c=some o∧o.data = .fields vs∧vs[1]? = some (.str q t)
structure qa (W:Wd) (d:m8) (me:Option Str) (f:Addr) (fd:FuncData):Prop where
 at_:∃od sl,W.fz f=some ⟨.type "function",od,.func fd,sl⟩
 params:fd.params.args.map (·.arg)=d.params
 plain:fd.params.posonlyargs=[]∧fd.params.vararg=none∧fd.params.kwonlyargs=[]∧fd.params.kwarg=none
 body:fd.body=d.body
 scope:fd.scope=d.scope
 globals:fd.globals=mainGlobals
 builtins:fd.builtins=builtinsNs
 defaults:fd.defaults = .none
 code:cL W fd.code
 own:∀x,me=some x→∃c,fd.closure.lookup x=some c∧cW W c (.ref f)
mutual
noncomputable def VR (P:Params) (W:Wd):V→Value→Prop
 |.none,v=>v = .none
 |.bool b,v=>v = .bool b
 |.int i,v=>∃t,v = .int i t
 |.str s,v=>∃t,v = .str ⟨s.toArray⟩ t
 |.tstr s,v=>∃t,v = .str ⟨s.toArray⟩ t∧0<t∧t<W.tk
 |.list xs,v=>∃a ys ep,v = .ref a∧W.fz a=some (ak ys ep)∧aB P W xs ys
 |.tuple xs,v=>∃a ys,v = .ref a∧W.fz a=some (fE ys)∧aB P W xs ys
 |.dict es,v=>∃a ds ep,v = .ref a∧W.fz a=some (ax ds ep)∧aO P W es ds∧(es.map (·.1)).Nodup
 |.ref i,v=>∃a,v = .ref a∧W.phi[i]? = some a
 |.val u,v=>v=u
 |.clo d caps self,v=>∃f fd,v = .ref f∧qa W d self f fd∧lA P W caps fd.closure
 |.bm id self,v=>∃a u,v = .ref a∧W.fz a=some (xk id u)∧VR P W self u
noncomputable def aB (P:Params) (W:Wd):List V→List Value→Prop
 |[],ys=>ys=[]
 |x::xs,ys=>∃y r,ys=y::r∧VR P W x y∧aB P W xs r
noncomputable def aO (P:Params) (W:Wd):List (List Nat×V)→List DictEntry→Prop
 |[],ds=>ds=[]
 |(k,x)::es,ds=>∃t y r,ds=⟨PyData.keyHash P ⟨k.toArray⟩,.str ⟨k.toArray⟩ t,y⟩::r∧VR P W x y∧aO P W es r
noncomputable def lA (P:Params) (W:Wd):List (Str×V)→List (Str×Addr)→Prop
 |[],_=>True
 |(n,x)::cs,cl=>(∃c y,cl.lookup n=some c∧cW W c y∧VR P W x y)∧lA P W cs cl
end
theorem cW.mono {W W':Wd}(h:W.le W') {c:Addr}{v:Value}(x:cW W c v):cW W' c v:=let ⟨o,a,b⟩:=x; ⟨o,h.fz _ _ a,b⟩
theorem cL.mono {W W':Wd}(h:W.le W') {cd:Value}(x:cL W cd):cL W' cd:=let ⟨c,o,vs,q,t,a,b,r⟩:=x; ⟨c,o,vs,q,t,a,h.fz _ _ b,r⟩
theorem qa.mono {W W':Wd}(h:W.le W') {d:m8}{me:Option Str}{f:Addr}{fd:FuncData}(x:qa W d me f fd):qa W' d me f fd:=
 ⟨let ⟨od,sl,e⟩:=x.at_; ⟨od,sl,h.fz _ _ e⟩,x.params,x.plain,x.body,x.scope,x.globals,x.builtins,x.defaults,x.code.mono h,fun n e=>let ⟨c,a,b⟩:=x.own n e; ⟨c,a,b.mono h⟩⟩
mutual
theorem VR.mono {P:Params}{W W':Wd}(h:W.le W'):∀(x:V) (v:Value),VR P W x v→VR P W' x v
 |.none,_,e=>e
 |.bool _,_,e=>e
 |.int _,_,e=>e
 |.str _,_,e=>e
 |.tstr _,_,e=>let ⟨t,a,b,c⟩:=e; ⟨t,a,b,Nat.lt_of_lt_of_le c h.tk⟩
 |.list xs,_,e=>by
  obtain⟨a,ys,ep,e1,e2,e3⟩:=e;exact⟨a,ys,ep,e1,h.fz _ _ e2,aB.mono h xs ys e3⟩
 |.tuple xs,_,e=>by
  obtain⟨a,ys,e1,e2,e3⟩:=e;exact⟨a,ys,e1,h.fz _ _ e2,aB.mono h xs ys e3⟩
 |.dict es,_,e=>by
  obtain⟨a,ds,ep,e1,e2,e3,e4⟩:=e;exact⟨a,ds,ep,e1,h.fz _ _ e2,aO.mono h es ds e3,e4⟩
 |.ref i,_,e=>by
  obtain⟨a,e1,e2⟩:=e;exact⟨a,e1,h.at e2⟩
 |.val _,_,e=>e
 |.clo d caps self,_,e=>by
  obtain⟨f,fd,e1,e2,e3⟩:=e;exact⟨f,fd,e1,e2.mono h,lA.mono h caps _ e3⟩
 |.bm id self,_,e=>by
  obtain⟨a,u,e1,e2,e3⟩:=e;exact⟨a,u,e1,h.fz _ _ e2,VR.mono h self u e3⟩
theorem aB.mono {P:Params}{W W':Wd}(h:W.le W'):∀(xs:List V) (ys:List Value),aB P W xs ys→aB P W' xs ys
 |[],_,e=>e
 |x::xs,_,e=>by
  obtain⟨y,r,e1,e2,e3⟩:=e;exact⟨y,r,e1,VR.mono h x y e2,aB.mono h xs r e3⟩
theorem aO.mono {P:Params}{W W':Wd}(h:W.le W'):∀(xs:List (List Nat×V)) (ys:List DictEntry),aO P W xs ys→aO P W' xs ys
 |[],_,e=>e
 |(k,x)::xs,_,e=>by
  obtain⟨t,y,r,e1,e2,e3⟩:=e;exact⟨t,y,r,e1,VR.mono h x y e2,aO.mono h xs r e3⟩
theorem lA.mono {P:Params}{W W':Wd}(h:W.le W'):∀(xs:List (Str×V)) (cl:List (Str×Addr)),lA P W xs cl→lA P W' xs cl
 |[],_,_=>trivial
 |(n,x)::xs,cl,e=>by
  obtain⟨⟨c,y,e1,e2,e3⟩,e4⟩:=e;exact⟨⟨c,y,e1,e2.mono h,VR.mono h x y e3⟩,lA.mono h xs cl e4⟩
end
structure TS where
 prog:Program
 w:World
 C:ce
 K:Frag
 tabs:List (Addr×Addr)
 tab0:Addr→Array Value
 os:OsState
 gens:Array GenState
 tabK:∀c P,(c,P)∈tabs→∃o,K.lookup c=some o
noncomputable abbrev TS.M (T:TS):Model:=model T.prog T.w
noncomputable abbrev TS.P (T:TS):Params:=T.w.params
noncomputable def kJ (P:Params) (W:Wd):aa→Obj→Prop
 |.list xs,o=>∃ys ep,o=ak ys ep∧aB P W xs ys
 |.dict es,o=>∃ds ep,o=ax ds ep∧aO P W es ds∧(es.map (·.1)).Nodup
 |.inst c d,o=>∃dx,W.phi[d]? = some dx∧o=⟨.ref c,some dx,.plain,#[]⟩
 |.fobj none,o=>∃fd,o=⟨.type "function",none,.func fd,#[]⟩
 |.fobj (some d),o=>∃fd dx,W.phi[d]? = some dx∧o=⟨.type "function",some dx,.func fd,#[]⟩
theorem kJ.mono {P:Params}{W W':Wd}(h:W.le W'):∀{x:aa}{o:Obj},kJ P W x o→kJ P W' x o
 |.list _,_,⟨ys,ep,e,r⟩=>⟨ys,ep,e,r.mono h⟩
 |.dict _,_,⟨ds,ep,e,r,n⟩=>⟨ds,ep,e,r.mono h,n⟩
 |.inst _ _,_,⟨dx,e,r⟩=>⟨dx,h.at e,r⟩
 |.fobj none,_,⟨fd,e⟩=>⟨fd,e⟩
 |.fobj (some _),_,⟨fd,dx,e,r⟩=>⟨fd,dx,h.at e,r⟩
noncomputable abbrev Kn:=Addr→Option Obj
structure jd (T:TS) (W:Wd) (h:Heap) (c P:Addr) (ps:Array Value):Prop where
 code:h.IsCode c P ps
 tab:h.TableAt c P ps
 tri:TriplesOk ps.toList
 more:∃m,ps=T.tab0 P++m
 all:∀pos c',codeAmong pos ps.toList=some c'→cL W c'
noncomputable def fF (T:TS) (a:Addr):Prop:=∃c,(c,a)∈T.tabs
structure aI (T:TS) (W:Wd) (pr:Kn) (σ:H) (s:Shared):Prop where
 fzIn:∀a o,W.fz a=some o→s.heap.get? a=some o
 prIn:∀a o,pr a=some o→s.heap.get? a=some o
 len:W.phi.length=σ.length
 objs:∀(i:Nat) (x:aa) (a:Addr),σ[i]? = some x→W.phi[i]? = some a→∃o,s.heap.get? a=some o∧kJ T.P W x o
 nodup:W.phi.Nodup
 phi:∀a∈W.phi,W.fz a=none∧pr a=none∧¬fF T a
 prfz:∀a o,pr a=some o→W.fz a=none
 top:∀a o,T.K.lookup a=some o→W.fz a=some o
 tab:∀c P,(c,P)∈T.tabs→∃ps,jd T W s.heap c P ps
 tabfz:∀a,fF T a→W.fz a=none∧pr a=none
 os:s.os=T.os
 gens:s.gens=T.gens
 sys:∃o,pr sysModules=some o
 tk:0<W.tk∧W.tk≤s.toks
theorem aI.notSys {T:TS}{W:Wd}{pr:Kn}{σ:H}{s:Shared}(R:aI T W pr σ s) {a:Addr}(h:a∈W.phi∨∃o,W.fz a=some o):(a==sysModules)=false:=by
 rw [beq_eq_false_iff_ne];rintro rfl;obtain⟨o,e⟩:=R.sys;rcases h with h | ⟨p,h⟩
 ·have:=(R.phi _ h).2.1; rw [e] at this; cases this
 ·rw [R.prfz _ _ e] at h; cases h
structure be (s s':Shared):Prop where
 keep:∀b o,s.heap.get? b=some o→s'.heap.get? b=some o
 os:s'.os=s.os
 gens:s'.gens=s.gens
 tk:s.toks≤s'.toks
theorem be.tok {s:Shared}{t:Nat}(h:s.toks≤t):be s { s with toks:=t }:=⟨fun _ _ e=>e,rfl,rfl,h⟩
theorem be.tok1 (s:Shared):be s { s with toks:=s.toks+1 }:=.tok (Nat.le_succ _)
theorem be.push (s:Shared) (o:Obj):be s { s with heap:=s.heap.push o }:=⟨fun _ _ e=>Heap.get?_push_of_some _ e,rfl,rfl,Nat.le_refl _⟩
theorem jd.at2 {T:TS}{W:Wd}{h h':Heap}{c P:Addr}{ps:Array Value}(x:jd T W h c P ps) (kc:∀o,h.get? c=some o→h'.get? c=some o) (kP:∀o,h.get? P=some o→h'.get? P=some o):jd T W h' c P ps:=by
 obtain⟨⟨oc,vs,g1,g2⟩,g3⟩:=x.tab;have e1:=(kc _ g1).trans g1.symm;have e2:=(kP _ g3).trans g3.symm;have y:=x.code;have z:=x.tab;unfold Heap.IsCode at y;unfold Heap.TableAt at z;rw [←e1,←e2] at y z;exact⟨y,z,x.tri,x.more,x.all⟩
theorem jd.mono {T:TS}{W W':Wd}{h:Heap}{c P:Addr}{ps:Array Value}(x:jd T W h c P ps) (k:∀a o,W.fz a=some o→W'.fz a=some o):jd T W' h c P ps:=
 ⟨x.code,x.tab,x.tri,x.more,fun pos c' e=>let ⟨c,o,vs,q,t,x1,x2,x3⟩:=x.all pos c' e; ⟨c,o,vs,q,t,x1,k _ _ x2,x3⟩⟩
noncomputable def Wd.add (W:Wd) (a:Addr) (o:Obj):Wd:=⟨W.phi,fun b=>if b=a then some o else W.fz b,W.tk⟩
theorem Wd.le_add (W:Wd) {a:Addr}{o:Obj}(h:W.fz a=none∨W.fz a=some o):W.le (W.add a o):=⟨⟨[],by simp [Wd.add]⟩,fun b p e=>by
 unfold Wd.add;dsimp only
 by_cases q:b=a
 ·subst q; rcases h with h | h <;> rw [h] at e <;> cases e; simp
 ·rw [if_neg q]; exact e,Nat.le_refl _⟩
theorem Wd.add_at (W:Wd) (a:Addr) (o:Obj):(W.add a o).fz a=some o:=by simp [Wd.add]
theorem lY {h:Heap}{a:Addr}(e:h.get? a=none) {f:Kn}(k:∀a o,f a=some o→h.get? a=some o):f a=none:=by
 cases q:f a with
 |none=>rfl
 |some o=>rw [k _ _ q] at e; cases e
theorem nX {h:Heap}{a:Addr}(ha:h.objs.size≤a):h.get? a=none:=match q:h.get? a with
 |none=>rfl
 |some _=>absurd (Heap.lt_size q) (Nat.not_lt.mpr ha)
theorem az (h:Heap):h.get? h.objs.size=none:=nX (Nat.le_refl _)
theorem cy {f:Kn}{a b:Addr}{o:Obj}(h:f b=some o) (e:f a=none):b≠a:=fun q=>by rw [q,e] at h; cases h
theorem kK {x:Option Obj}(h:∀o,x=some o→False):x=none:=match x,h with
 |none,_=>rfl
 |some _,h=>(h _ rfl).elim
theorem b8 {x:Option Obj}{o:Obj}{F:Prop}(h:x=none) (e:x=some o):F:=nomatch h.symm.trans e
structure dO (T:TS) (W:Wd) (pr:Kn) (a:Addr):Prop where
 nfz:W.fz a=none
 npr:pr a=none
 nphi:a∉W.phi
 ntab:¬fF T a
theorem dO.add {T:TS}{W:Wd}{pr:Kn}{a b:Addr}{o:Obj}(x:dO T W pr b) (h:b≠a):dO T (W.add a o) pr b:=⟨(if_neg h).trans x.nfz,x.npr,x.nphi,x.ntab⟩
theorem dO.phi {T:TS}{W:Wd}{pr:Kn}{a b:Addr}(x:dO T W pr b) (h:b≠a):dO T ⟨W.phi++[a],W.fz,W.tk⟩ pr b:=⟨x.nfz,x.npr,fun m=>(List.mem_append.mp m).elim x.nphi fun m=>h (List.mem_singleton.mp m),x.ntab⟩
section
variable {T:TS}{W W':Wd}{pr pr':Kn}{σ:H}{s s':Shared}
theorem aI.new (R:aI T W pr σ s) {a:Addr}(e:s.heap.get? a=none):dO T W pr a:=by
 refine⟨lY e R.fzIn,lY e R.prIn,fun q=>?_,fun⟨c,q⟩=>let ⟨_,r⟩:=R.tab c a q; b8 e r.tab.2⟩
 obtain⟨i,hi⟩:=List.mem_iff_getElem?.mp q;have:i<σ.length:=R.len▸(List.getElem?_eq_some_iff.mp hi).1;obtain⟨o,ho,_⟩:=R.objs i σ[i] a (List.getElem?_eq_getElem this) hi;exact b8 e ho
theorem aI.move (R:aI T W pr σ s) (L:W.le W') (hphi:W'.phi=W.phi) (hfz:∀a o,W'.fz a=some o→W.fz a=some o∨dO T W pr a∧s'.heap.get? a=some o) (k:∀b,dO T W pr b∨fF T b∨∀p,s.heap.get? b=some p→s'.heap.get? b=some p)
  (tab:∀c P,(c,P)∈T.tabs→∃ps,jd T W' s'.heap c P ps) (h1:s'.os=s.os) (h2:s'.gens=s.gens) (h3:W'.tk≤s'.toks):aI T W' pr σ s':=by
 have kp:∀{b p},(dO T W pr b→False)→(fF T b→False)→s.heap.get? b=some p→s'.heap.get? b=some p:=fun n t e=>(k _).elim (fun h=>(n h).elim) fun h=>h.elim (fun h=>(t h).elim) fun h=>h _ e
 have fz0:∀{a},W.fz a=none→(dO T W pr a→False)→W'.fz a=none:=fun e n=>kK fun o h=>(hfz _ _ h).elim (b8 e) fun h=>n h.1
 refine⟨fun a o e=>(hfz a o e).elim (fun e=>kp (fun n=>b8 n.nfz e) (fun t=>b8 (R.tabfz _ t).1 e) (R.fzIn a o e)) And.right,fun a o e=>kp (fun n=>b8 n.npr e) (fun t=>b8 (R.tabfz _ t).2 e) (R.prIn a o e),hphi▸R.len,fun i x a e f=>?_,
  hphi▸R.nodup,fun a h=>?_,fun a o e=>fz0 (R.prfz a o e) fun n=>b8 n.npr e,fun a o e=>L.fz _ _ (R.top a o e),tab,fun a t=>⟨fz0 (R.tabfz a t).1 fun n=>n.ntab t,(R.tabfz a t).2⟩,h1.trans R.os,h2.trans R.gens,R.sys,Nat.lt_of_lt_of_le R.tk.1 L.tk,h3⟩
 ·rw [hphi] at f;have hm:=List.mem_of_getElem? f;obtain⟨o,g1,g2⟩:=R.objs i x a e f;exact⟨o,kp (fun n=>n.nphi hm) (R.phi a hm).2.2 g1,g2.mono L⟩
 ·rw [hphi] at h;have p:=R.phi a h;exact⟨fz0 p.1 fun n=>n.nphi h,p.2⟩
theorem aI.tabsK (R:aI T W pr σ s) (f:∀a o,W.fz a=some o→W'.fz a=some o) (k:∀b,dO T W pr b∨∀p,s.heap.get? b=some p→s'.heap.get? b=some p) (c P:Addr) (h:(c,P)∈T.tabs):∃ps,jd T W' s'.heap c P ps:=by
 obtain⟨ps,r⟩:=R.tab c P h;obtain⟨o,ho⟩:=T.tabK _ _ h;exact⟨ps,(r.at2 ((k c).resolve_left fun n=>b8 n.nfz (R.top _ _ ho)) ((k P).resolve_left fun n=>n.ntab ⟨c,h⟩)).mono f⟩
theorem aI.own' (R:aI T W pr σ s) (k:∀b,dO T W pr b∨∀p,s.heap.get? b=some p→s'.heap.get? b=some p) (h1:s'.os=s.os) (h2:s'.gens=s.gens) (h3:s.toks≤s'.toks):aI T W pr σ s':=
 R.move (.refl W) rfl (fun _ _=>.inl) (fun b=>(k b).imp id .inr) (R.tabsK (fun _ _ e=>e) k) h1 h2 (Nat.le_trans R.tk.2 h3)
theorem aI.own {a:Addr}(R:aI T W pr σ s) (n:dO T W pr a) (k:∀b,b≠a→∀p,s.heap.get? b=some p→s'.heap.get? b=some p) (h1:s'.os=s.os) (h2:s'.gens=s.gens) (h3:s.toks≤s'.toks):aI T W pr σ s':=
 R.own' (fun b=>if h:b=a then .inl (h▸n) else .inr (k b h)) h1 h2 h3
theorem aI.grow (R:aI T W pr σ s) (g:be s s'):aI T W pr σ s':=R.own' (fun b=>.inr (g.keep b)) g.os g.gens g.tk
theorem aI.freeze (R:aI T W pr σ s) {a:Addr}{o:Obj}(n:dO T W pr a) (e:s.heap.get? a=some o):aI T (W.add a o) pr σ s∧W.le (W.add a o):=
 have L:=W.le_add (a:=a) (o:=o) (.inl n.nfz)
 ⟨R.move L rfl (fun b p q=>if h:b=a then .inr (h▸⟨n,by rw [h,Wd.add_at] at q; exact e.trans q⟩) else .inl ((if_neg h).symm.trans q)) (fun _=>.inr (.inr fun _ e=>e)) (R.tabsK L.fz fun _=>.inr fun _ e=>e) rfl rfl R.tk.2,L⟩
theorem aI.newAt (R:aI T W pr σ s) (a:Addr):(W.phi++[a])[σ.length]? = some a:=by
 rw [←R.len,List.getElem?_append_right (Nat.le_refl _),Nat.sub_self]; rfl
theorem aI.reguard (R:aI T W pr σ s) (h:∀a o,pr' a=some o→pr a=some o∨dO T W pr a∧s.heap.get? a=some o) (hs:∃o,pr' sysModules=some o):aI T W pr' σ s:=
 have no:∀{a},pr a=none→(dO T W pr a→False)→pr' a=none:=fun e n=>kK fun o q=>(h _ o q).elim (b8 e) fun q=>n q.1
 ⟨R.fzIn,fun a o e=>(h a o e).elim (R.prIn a o) And.right,R.len,R.objs,R.nodup,fun a m=>let ⟨x,y,z⟩:=R.phi a m; ⟨x,no y fun n=>n.nphi m,z⟩,fun a o e=>(h a o e).elim (R.prfz a o) fun q=>q.1.nfz,R.top,R.tab,
  fun a t=>let ⟨x,y⟩:=R.tabfz a t; ⟨x,no y fun n=>n.ntab t⟩,R.os,R.gens,hs,R.tk⟩
end
theorem aI.alloc {T:TS}{W:Wd}{pr:Kn}{σ:H}{s:Shared}(R:aI T W pr σ s) {a:Addr}{o:Obj}{x:aa}(n:dO T W pr a) (e:s.heap.get? a=some o) (hx:kJ T.P ⟨W.phi++[a],W.fz,W.tk⟩ x o) :
  aI T ⟨W.phi++[a],W.fz,W.tk⟩ pr (σ++[x]) s∧W.le ⟨W.phi++[a],W.fz,W.tk⟩:=by
 have L:W.le ⟨W.phi++[a],W.fz,W.tk⟩:=⟨⟨[a],rfl⟩,fun _ _ e=>e,Nat.le_refl _⟩
 refine⟨⟨R.fzIn,R.prIn,by rw [List.length_append,List.length_append,R.len]; rfl,fun i y b h1 h2=>?_,List.nodup_append.mpr ⟨R.nodup,List.pairwise_singleton _ a,fun b hb c hc q=>n.nphi (List.mem_singleton.mp hc▸q▸hb)⟩,fun b hb=>(List.mem_append.mp hb).elim (R.phi b) fun h=>by rw [List.mem_singleton.mp h]; exact⟨n.nfz,n.npr,n.ntab⟩,R.prfz,R.top,R.tabsK L.fz fun _=>.inr fun _ e=>e,R.tabfz,R.os,R.gens,R.sys,R.tk⟩,L⟩
 rcases Nat.lt_or_ge i σ.length with hi | hi
 ·rw [List.getElem?_append_left hi] at h1;obtain⟨p,h3,h4⟩:=R.objs i y b h1 ((List.getElem?_append_left (R.len▸hi)).symm.trans h2);exact⟨p,h3,h4.mono L⟩
 ·rw [List.getElem?_append_right hi] at h1;have h2:=(List.getElem?_append_right (R.len.symm▸hi)).symm.trans h2;rw [R.len] at h2;revert h1 h2;cases i - σ.length with
  |zero=>exact fun h1 h2=>Option.some.inj h2▸Option.some.inj h1▸⟨o,e,hx⟩
  |succ=>exact fun h1=>nomatch h1
theorem aI.store {T:TS}{W:Wd}{pr:Kn}{σ:H}{s s':Shared}(R:aI T W pr σ s) {i:Nat}{a:Addr}{o:Obj}{x:aa}(hi:W.phi[i]? = some a) (hs:Heap.SameBut a s.heap s'.heap) (e:s'.heap.get? a=some o)
  (hx:kJ T.P W x o) (h1:s'.os=s.os) (h2:s'.gens=s.gens) (h3:s.toks≤s'.toks):aI T W pr (σ.set i x) s':=by
 have ha:=R.phi a (List.mem_of_getElem? hi);have k:=hs.extBut;refine⟨fun b p q=>k b p (cy q ha.1) (R.fzIn b p q),fun b p q=>k b p (cy q ha.2.1) (R.prIn b p q),R.len.trans List.length_set.symm,fun j y b h4 h5=>?_,R.nodup,R.phi,R.prfz,R.top,fun c P h=>?_,R.tabfz,h1.trans R.os,h2.trans R.gens,R.sys,R.tk.1,Nat.le_trans R.tk.2 h3⟩
 rotate_left
 ·obtain⟨ps,r⟩:=R.tab c P h;obtain⟨o,ho⟩:=T.tabK _ _ h;exact⟨ps,r.at2 (k c · (cy (R.top _ _ ho) ha.1)) (k P · fun q=>ha.2.2 ⟨c,q▸h⟩)⟩
 by_cases hj:i=j
 ·subst hj;rw [List.getElem?_set_self (R.len▸(List.getElem?_eq_some_iff.mp hi).1)] at h4;rw [hi] at h5;exact⟨o,Option.some.inj h5▸e,Option.some.inj h4▸hx⟩
 ·rw [List.getElem?_set_ne hj] at h4;obtain⟨p,h6,h7⟩:=R.objs j y b h4 h5;exact⟨p,k b p (fun h=>hj ((List.getElem?_inj (List.getElem?_eq_some_iff.mp hi).1 R.nodup).mp (hi.trans (h▸h5.symm)))) h6,h7⟩
end Mini
set_option maxRecDepth 100000
set_option autoImplicit false
namespace Mini
open PySem PySem.W PyProof.Rows
noncomputable def gj (T:TS) (n:Str) (v:Value):Prop:=
 nsIn T.K mainGlobals n=some (some v)∨(nsIn T.K mainGlobals n=some none∧nsIn T.K builtinsNs n=some (some v))
noncomputable def gk (W:Wd) (pr:Kn) (c:Addr) (v:Value):Prop:=cW W c v∨∃o,pr c=some o∧o.data = .cell (some v)
inductive aV (T:TS) (W:Wd) (pr:Kn) (env:Env) (m:Str→Option Value) (h:Heap):Slot→Prop
 |loc0 {n:Str}(k:env.kindOf n=some .local) (e:m n=none):aV T W pr env m h ⟨n,.loc,none⟩
 |loc {n:Str}{v:V}{v':Value}(k:env.kindOf n=some .local) (e:m n=some v') (r:VR T.P W v v'):aV T W pr env m h ⟨n,.loc,some v⟩
 |cell0 {n:Str}{c:Addr}(k:env.kindOf n=some .cell) (l:env.cells.lookup n=some c) (e:h.IsCell c none):aV T W pr env m h ⟨n,.cell,none⟩
 |cell {n:Str}{c:Addr}{v:V}{v':Value}(k:env.kindOf n=some .cell) (l:env.cells.lookup n=some c) (e:h.IsCell c (some v')) (r:VR T.P W v v'):aV T W pr env m h ⟨n,.cell,some v⟩
 |once0 {n:Str}{c:Addr}(k:env.kindOf n=some .cell) (l:env.cells.lookup n=some c) (e:h.IsCell c none):aV T W pr env m h ⟨n,.once,none⟩
 |once {n:Str}{c:Addr}{v:V}{v':Value}(k:env.kindOf n=some .cell) (l:env.cells.lookup n=some c) (e:cW W c v') (r:VR T.P W v v'):aV T W pr env m h ⟨n,.once,some v⟩
 |free0 {n:Str}:aV T W pr env m h ⟨n,.free,none⟩
 |free {n:Str}{c:Addr}{v:V}{v':Value}(k:env.kindOf n=some .free∨env.kindOf n=some .cell) (d:(n==("__classdict__" : Str))=false) (l:env.cells.lookup n=some c) (e:gk W pr c v') (r:VR T.P W v v'):aV T W pr env m h ⟨n,.free,some v⟩
 |glob0 {n:Str}:aV T W pr env m h ⟨n,.glob,none⟩
 |glob {n:Str}{v:V}{v':Value}(k:env.kindOf n=some .globalImplicit) (g:gj T n v') (r:VR T.P W v v'):aV T W pr env m h ⟨n,.glob,some v⟩
noncomputable def AK (sl:Slot):Bool:=match sl.kind with
 |.loc=>false
 |.cell=>true
 |.once=>sl.val.isNone
 |.free=>false
 |.glob=>false
noncomputable def cz (env:Env) (sl:Slot):Option Addr:=match AK sl with
 |true=>env.cells.lookup sl.name
 |false=>none
noncomputable def aU (env:Env) (ρ:P):List Addr:=env.locals::ρ.filterMap (cz env)
structure dh (T:TS) (W:Wd) (pr:Kn) (env:Env) (ρ:P) (s:Shared):Prop where
 kind:env.scope.kind = .function
 glb:env.globals=mainGlobals
 blt:env.builtins=builtinsNs
 fr:∃m,s.heap.Ns env.locals m∧∀sl∈ρ,aV T W pr env m s.heap sl
 own:∀a∈aU env ρ,dO T W pr a
 apart:(aU env ρ).Nodup
 names:(ρ.map (·.name)).Nodup
 code:ff ρ=true→∃c P,env.code = .ref c∧(c,P)∈T.tabs
structure St (T:TS) (W:Wd) (pr:Kn) (env:Env) (ρ:P) (σ:H) (s:Shared):Prop where
 f:dh T W pr env ρ s
 r:aI T W pr σ s
section
variable {T:TS}{W W':Wd}{pr:Kn}{env:Env}{ρ:P}{σ σ':H}{s s':Shared}
theorem dh.there (F:dh T W pr env ρ s) {a:Addr}(ha:a∈aU env ρ):∃o,s.heap.get? a=some o:=by
 obtain⟨m,hn,hs⟩:=F.fr;rcases List.mem_cons.mp ha with rfl | h
 ·obtain⟨o,es,ep,ho,hd,_⟩:=hn;exact⟨o,ho⟩
 ·obtain⟨sl,h1,h2⟩:=List.mem_filterMap.mp h;have xx:=hs sl h1
  induction xx with
  |cell0 _ l e=>cases l.symm.trans h2; exact e.imp fun _=>And.left
  |cell _ l e=>cases l.symm.trans h2; exact e.imp fun _=>And.left
  |once0 _ l e=>cases l.symm.trans h2; exact e.imp fun _=>And.left
  |_=>cases h2
theorem gk.mono {c:Addr}{v:Value}(L:W.le W') (x:gk W pr c v):gk W' pr c v:=x.imp (fun h=>h.mono L) id
theorem aV.mono {m:Str→Option Value}{h:Heap}{sl:Slot}(L:W.le W') (x:aV T W pr env m h sl):aV T W' pr env m h sl:=by
 induction x with
 |loc0 k e=>exact .loc0 k e
 |loc k e r=>exact .loc k e (r.mono L)
 |cell0 k l e=>exact .cell0 k l e
 |cell k l e r=>exact .cell k l e (r.mono L)
 |once0 k l e=>exact .once0 k l e
 |once k l e r=>exact .once k l (e.mono L) (r.mono L)
 |free0=>exact .free0
 |free k d l e r=>exact .free k d l (e.mono L) (r.mono L)
 |glob0=>exact .glob0
 |glob k g r=>exact .glob k g (r.mono L)
theorem aV.move {m m':Str→Option Value}{h h':Heap}{sl:Slot}(hm:m' sl.name=m sl.name) (kp:∀a,cz env sl=some a→∀o,h.get? a=some o→h'.get? a=some o) (x:aV T W pr env m h sl):aV T W pr env m' h' sl:=by
 induction x with
 |loc0 k e=>exact .loc0 k (hm.trans e)
 |loc k e r=>exact .loc k (hm.trans e) r
 |cell0 k' l e=>exact .cell0 k' l (e.imp fun o h=>⟨kp _ l o h.1,h.2⟩)
 |cell k' l e r=>exact .cell k' l (e.imp fun o h=>⟨kp _ l o h.1,h.2⟩) r
 |once0 k' l e=>exact .once0 k' l (e.imp fun o h=>⟨kp _ l o h.1,h.2⟩)
 |once k l e r=>exact .once k l e r
 |free0=>exact .free0
 |free k d l e r=>exact .free k d l e r
 |glob0=>exact .glob0
 |glob k g r=>exact .glob k g r
theorem fG {sl:Slot}{a:Addr}(h:sl∈ρ) (e:cz env sl=some a):a∈aU env ρ:=List.mem_cons_of_mem _ (List.mem_filterMap.mpr ⟨sl,h,e⟩)
theorem dh.le (F:dh T W pr env ρ s) (L:W.le W') (k:∀a∈aU env ρ,∀o,s.heap.get? a=some o→s'.heap.get? a=some o) (n:∀a∈aU env ρ,dO T W' pr a):dh T W' pr env ρ s':=by
 obtain⟨m,hn,hs⟩:=F.fr;refine⟨F.kind,F.glb,F.blt,⟨m,?_,fun sl h=>((hs sl h).mono L).move rfl fun a e=>k a (fG h e)⟩,n,F.apart,F.names,F.code⟩
 obtain⟨o,es,ep,ho,r⟩:=hn;exact⟨o,es,ep,k _ List.mem_cons_self o ho,r⟩
theorem St.grow (S:St T W pr env ρ σ s) (g:be s s'):St T W pr env ρ σ s':=⟨S.f.le (.refl W) (fun _ _ o e=>g.keep _ o e) S.f.own,S.r.grow g⟩
theorem St.tok (S:St T W pr env ρ σ s):St T W pr env ρ σ { s with toks:=s.toks+1 }:=S.grow (be.tok1 s)
theorem St.noOwn (S:St T W pr env ρ σ s) {a:Addr}(e:s.heap.get? a=none):a∉aU env ρ:=fun h=>let ⟨_,hp⟩:=S.f.there h; b8 e hp
theorem dh.add (F:dh T W pr env ρ s) {a:Addr}{o:Obj}(no:a∉aU env ρ) (k:∀b∈aU env ρ,∀p,s.heap.get? b=some p→s'.heap.get? b=some p) (L:W.le (W.add a o)):dh T (W.add a o) pr env ρ s':=F.le L k fun b hb=>(F.own b hb).add fun h=>no (h▸hb)
theorem dh.phi (F:dh T W pr env ρ s) {a:Addr}(no:a∉aU env ρ) (k:∀b∈aU env ρ,∀p,s.heap.get? b=some p→s'.heap.get? b=some p) (L:W.le ⟨W.phi++[a],W.fz,W.tk⟩):dh T ⟨W.phi++[a],W.fz,W.tk⟩ pr env ρ s':=F.le L k fun b hb=>(F.own b hb).phi fun h=>no (h▸hb)
theorem St.freeze (S:St T W pr env ρ σ s) (g:be s s') {a:Addr}{o:Obj}(e:s.heap.get? a=none) (e':s'.heap.get? a=some o):St T (W.add a o) pr env ρ σ s'∧W.le (W.add a o):=
 let ⟨R,L⟩:=(S.r.grow g).freeze (S.r.new e) e'
 ⟨⟨S.f.add (S.noOwn e) (fun b _=>g.keep b) L,R⟩,L⟩
theorem St.alloc (S:St T W pr env ρ σ s) (g:be s s') {a:Addr}{o:Obj}{x:aa}(e:s.heap.get? a=none) (e':s'.heap.get? a=some o) (hx:kJ T.P ⟨W.phi++[a],W.fz,W.tk⟩ x o) :
  St T ⟨W.phi++[a],W.fz,W.tk⟩ pr env ρ (σ++[x]) s'∧W.le ⟨W.phi++[a],W.fz,W.tk⟩:=
 let ⟨R,L⟩:=(S.r.grow g).alloc (S.r.new e) e' hx
 ⟨⟨S.f.phi (S.noOwn e) (fun b _=>g.keep b) L,R⟩,L⟩
theorem St.store (S:St T W pr env ρ σ s) {i:Nat}{a:Addr}{o:Obj}{x:aa}(hi:W.phi[i]? = some a) (hs:Heap.SameBut a s.heap s'.heap) (e:s'.heap.get? a=some o)
  (hx:kJ T.P W x o) (h1:s'.os=s.os) (h2:s'.gens=s.gens) (h3:s.toks≤s'.toks):St T W pr env ρ (σ.set i x) s':=
 ⟨S.f.le (.refl W) (fun b hb p q=>(hs.2 b fun h=>by
  have:=(S.f.own b hb).nphi;exact this (h▸List.mem_of_getElem? hi)).trans q) S.f.own,S.r.store hi hs e hx h1 h2 h3⟩
noncomputable def je (env:Env) (ρ:P) (pr:Kn) (h:Heap):Kn:=fun a=>if a∈aU env ρ then h.get? a else pr a
theorem kL {h:Heap}{a:Addr}(e:a∈aU env ρ):je env ρ pr h a=h.get? a:=if_pos e
theorem kM {h:Heap}{a:Addr}(e:a∉aU env ρ):je env ρ pr h a=pr a:=if_neg e
theorem St.up (S:St T W pr env ρ σ s) {a:Addr}{o:Obj}(e:pr a=some o):je env ρ pr s.heap a=some o:=(kM fun q=>b8 (S.f.own a q).npr e).trans e
theorem St.guard (S:St T W pr env ρ σ s):aI T W (je env ρ pr s.heap) σ s:=
 S.r.reguard (fun a o e=>if h:a∈aU env ρ then .inr ⟨S.f.own a h,(kL h).symm.trans e⟩ else .inl ((kM h).symm.trans e)) (S.r.sys.imp fun _=>S.up)
theorem St.back (S:St T W pr env ρ σ s) (L:W.le W') (R:aI T W' (je env ρ pr s.heap) σ' s'):St T W' pr env ρ σ' s':=
 have R2:=R.reguard (fun _ _ e=>.inl (S.up e)) S.r.sys
 ⟨S.f.le L (fun a h o e=>R.prIn a o ((kL h).trans e)) fun a h=>let ⟨o,e⟩:=S.f.there h
  have q:=(kL (pr:=pr) h).trans e
  ⟨R.prfz a o q,(S.f.own a h).npr,fun z=>b8 (R.phi a z).2.1 q,(S.f.own a h).ntab⟩,R2⟩
end
structure an (A:Around) (n:Nat):Prop where
 handled:A.handled=none
 depth:A.depth+n≤690
 units:A.units+40*n≤9000
theorem an.lt {A:Around}{n:Nat}(r:an A n):A.depth<recursionLimit:=Nat.lt_of_le_of_lt (Nat.le_trans (Nat.le_add_right _ n) r.depth) (by decide)
theorem eqL_iff:∀{a b:List Nat},i8 a b=true↔a=b
 |[],[]=>⟨fun _=>rfl,fun _=>rfl⟩
 |[],_::_=>⟨nofun,nofun⟩
 |_::_,[]=>⟨nofun,nofun⟩
 |a::r,b::t=>⟨fun h=>have h:=Bool.and_eq_true_iff.mp h; Nat.eq_of_beq_eq_true h.1▸eqL_iff.mp h.2▸rfl,fun h=>have h:=List.cons.inj h; Bool.and_eq_true_iff.mpr ⟨h.1▸Nat.beq_refl a,eqL_iff.mpr h.2⟩⟩
theorem sEq_iff {a b:Str}:cF a b=true↔a=b:=
 ⟨fun h=>match a,b,Array.toList_inj.mp (eqL_iff.mp h) with
  |⟨_⟩,⟨_⟩,h=>congrArg _ h,fun h=>h▸eqL_iff.mpr rfl⟩
theorem lZ (a:Str):cF a a=true:=sEq_iff.mpr rfl
theorem gX {c G:Prop} [d:Decidable c] (h:c→G) (k:¬c→G):G:=d.byCases h k
theorem ai {α β:Type}{o:Option α}{f:α→Option β}{b:β}{G:Prop}(h:o.bind f=some b) (k:∀a,o=some a→f a=some b→G):G:=let ⟨a,x,y⟩:=Option.bind_eq_some_iff.mp h; k a x y
theorem ac {α:Type}{x:α}{F:Prop}(h:(none:Option α)=some x):F:=nomatch h
theorem fH {α:Type}{k n:List Nat}{x y:α}{M:α→Prop}(h1:k=n→M x) (h2:k≠n→M y):M (match i8 k n with | true=>x | false=>y):=by
 cases h:i8 k n with
 |true=>exact h1 (eqL_iff.mp h)
 |false=>exact h2 fun q=>Bool.false_ne_true (h.symm.trans (eqL_iff.mpr q))
theorem eg {α:Type}{k n:Str}{x y:α}{M:α→Prop}(h1:k=n→M x) (h2:k≠n→M y):M (match cF k n with | true=>x | false=>y):=by
 cases h:cF k n with
 |true=>exact h1 (sEq_iff.mp h)
 |false=>exact h2 fun q=>Bool.false_ne_true (h.symm.trans (sEq_iff.mpr q))
theorem iD {n:Str}{v:V}:∀{ρ:P},lookup n ρ=some v→∃sl∈ρ,sl.name=n∧sl.val=some v
 |[],e=>ac e
 |sl::r,e=>eg (k:=sl.name) (n:=n) (M:=fun z=>z=some v→∃x∈sl::r,x.name=n∧x.val=some v) (fun h e=>⟨sl,List.mem_cons_self,h,e⟩)
   (fun _ e=>let ⟨x,a,b⟩:=iD e; ⟨x,List.mem_cons_of_mem _ a,b⟩) e
section
variable {T:TS}{W:Wd}{pr:Kn}{env:Env}{ρ:P}{σ:H}{s:Shared}{A:Around}{E:Value→Shared→Prop}
theorem l0 {n:Str}{v:Value}{Q:Value→Shared→Prop}(R:aI T W pr σ s) (g:env.globals=mainGlobals) (b:env.builtins=builtinsNs) (h:gj T n v) (q:Q v s) :
  wpAny T.M A (loadGlobal env n) Q E s:=by
 have K:T.K.In s.heap:=fun a o e=>R.fzIn a o (R.top a o e)
 unfold loadGlobal;rw [g,b];rcases h with h | ⟨h1,h2⟩
 ·exact wpAny_bind ((looks_nsIn K h).here (wpAny_pure q))
 ·exact wpAny_bind ((looks_nsIn K h1).here (wpAny_bind ((looks_nsIn K h2).here (wpAny_pure q))))
theorem xl {α:Type}{a b:Sem α}{M:Model}{Q:α→Shared→Prop}(h:a=b) (k:wpAny M A b Q E s):wpAny M A a Q E s:=h▸k
theorem v7 {n:Str}{v:V}{Q:Value→Shared→Prop}(S:St T W pr env ρ σ s) (e:lookup n ρ=some v) (q:∀v',VR T.P W v v'→Q v' s):wpAny T.M A (loadName env n) Q E s:=by
 obtain⟨sl,hm,rfl,hv⟩:=iD e;obtain⟨m,hn,hs⟩:=S.f.fr;have xx:=hs sl hm
 induction xx with
 |loc k e' r=>exact wpAny_loadName_local S.f.kind k hn e' (q _ (Option.some.inj hv▸r))
 |cell k l e' r=>exact wpAny_loadName_cell S.f.kind k l e' (q _ (Option.some.inj hv▸r))
 |once k l e' r=>exact wpAny_loadName_cell S.f.kind k l (e'.imp fun o h=>⟨S.r.fzIn _ _ h.1,h.2⟩) (q _ (Option.some.inj hv▸r))
 |free k d l e' r=>
  have hc:s.heap.IsCell _ (some _):=e'.elim (fun h=>h.imp fun o h=>⟨S.r.fzIn _ _ h.1,h.2⟩) fun h=>h.imp fun o h=>⟨S.r.prIn _ _ h.1,h.2⟩
  have hq:=q _ (Option.some.inj hv▸r);exact k.elim (fun k=>wpAny_loadName_free S.f.kind k l hc hq d) fun k=>wpAny_loadName_cell S.f.kind k l hc hq
 |glob k g r=>exact xl (loadName_read S.f.kind k) (l0 S.r S.f.glb S.f.blt g (q _ (Option.some.inj hv▸r)))
 |_=>exact ac hv
theorem kN {n:Str}{pos:Pos}{v:V}{Q:Value→Shared→Prop}(S:St T W pr env ρ σ s) (e:lookup n ρ=some v) (hd:(n==("__debug__" : Str))=false) (q:∀v',VR T.P W v v'→Q v' s) :
  wpAny T.M A (eval (.Name n pos) env) Q E s:=wpAny_Name (v7 S e q) hd
end
end Mini
set_option maxRecDepth 100000
set_option autoImplicit false
namespace Mini
open PySem PySem.W PyProof.Rows
theorem jD {i:Int}(h:aZ i=true):i.natAbs<2 ^ 4096:=Nat.le_of_ble_eq_true h
theorem kO {i:Int}(h:aZ i=true):Builtin.Int.intBits i≤4096:=PyProof.Rows.intBits_le (jD h)
theorem jE {a b:Int}(h:aZ b=true):Builtin.divisionGoesByPylong a b=false:=PyProof.noPylong_of_log2 (by
 by_cases h0:b.natAbs=0
 ·rw [h0]; decide +kernel
 ·exact Nat.lt_trans ((Nat.log2_lt h0).mpr (jD h)) (by decide))
section
variable {P:Params}{W:Wd}{M:Value→Prop}{v:Value}
theorem VR.mkN:VR P W .none .none:=rfl
theorem VR.mkB {b:Bool}:VR P W (.bool b) (.bool b):=rfl
theorem VR.mkI {i:Int}{t:Tok}:VR P W (.int i) (.int i t):=by exact⟨t,rfl⟩
theorem VR.mkS {x:List Nat}{t:Tok}:VR P W (.str x) (.str ⟨x.toArray⟩ t):=by exact⟨t,rfl⟩
theorem VR.mkL {xs:List V}{a:Addr}{ys:List Value}{ep:Nat}(h:W.fz a=some (ak ys ep)) (k:aB P W xs ys):VR P W (.list xs) (.ref a):=by exact⟨a,ys,ep,rfl,h,k⟩
theorem VR.mkT {xs:List V}{a:Addr}{ys:List Value}(h:W.fz a=some (fE ys)) (k:aB P W xs ys):VR P W (.tuple xs) (.ref a):=by exact⟨a,ys,rfl,h,k⟩
theorem VR.mkR {i:Nat}{a:Addr}(h:W.phi[i]? = some a):VR P W (.ref i) (.ref a):=by exact⟨a,rfl,h⟩
theorem VR.mkU {u:Value}:VR P W (.val u) u:=rfl
@[elab_as_elim] theorem VR.n (h:VR P W .none v) (k:M .none):M v:=by exact h▸k
@[elab_as_elim] theorem VR.b {b:Bool}(h:VR P W (.bool b) v) (k:M (.bool b)):M v:=by exact h▸k
@[elab_as_elim] theorem VR.i {x:Int}(h:VR P W (.int x) v) (k:∀t,M (.int x t)):M v:=by obtain⟨t,rfl⟩:=h; exact k t
@[elab_as_elim] theorem VR.s {x:List Nat}(h:VR P W (.str x) v) (k:∀t,M (.str ⟨x.toArray⟩ t)):M v:=by obtain⟨t,rfl⟩:=h; exact k t
@[elab_as_elim] theorem VR.ts {x:List Nat}(h:VR P W (.tstr x) v) (k:∀t,0<t→t<W.tk→M (.str ⟨x.toArray⟩ t)):M v:=by obtain⟨t,rfl,h1,h2⟩:=h; exact k t h1 h2
@[elab_as_elim] theorem VR.l {xs:List V}(h:VR P W (.list xs) v) (k:∀a ys ep,W.fz a=some (ak ys ep)→aB P W xs ys→M (.ref a)):M v:=by obtain⟨a,ys,ep,rfl,h1,h2⟩:=h; exact k a ys ep h1 h2
@[elab_as_elim] theorem VR.t {xs:List V}(h:VR P W (.tuple xs) v) (k:∀a ys,W.fz a=some (fE ys)→aB P W xs ys→M (.ref a)):M v:=by obtain⟨a,ys,rfl,h1,h2⟩:=h; exact k a ys h1 h2
@[elab_as_elim] theorem VR.r {i:Nat}(h:VR P W (.ref i) v) (k:∀a,W.phi[i]? = some a→M (.ref a)):M v:=by obtain⟨a,rfl,h1⟩:=h; exact k a h1
@[elab_as_elim] theorem VR.u {u:Value}(h:VR P W (.val u) v) (k:M u):M v:=by exact h▸k
end
theorem aB.nil {P:Params}{W:Wd}:aB P W [] []:=rfl
theorem aB.cons {P:Params}{W:Wd}{x:V}{xs:List V}{y:Value}{ys:List Value}(h:VR P W x y) (k:aB P W xs ys):aB P W (x::xs) (y::ys):=by exact⟨y,ys,rfl,h,k⟩
@[elab_as_elim] theorem aB.nl {P:Params}{W:Wd}{M:List Value→Prop}{ys:List Value}(h:aB P W [] ys) (k:M []):M ys:=by exact h▸k
@[elab_as_elim] theorem aB.cs {P:Params}{W:Wd}{M:List Value→Prop}{x:V}{xs:List V}{ys:List Value}(h:aB P W (x::xs) ys) (k:∀y r,VR P W x y→aB P W xs r→M (y::r)):M ys:=by
 obtain⟨y,r,rfl,h1,h2⟩:=h; exact k y r h1 h2
@[elab_as_elim] theorem aB.one {P:Params}{W:Wd}{M:List Value→Prop}{x:V}{ys:List Value}(h:aB P W [x] ys) (k:∀y,VR P W x y→M [y]):M ys:=h.cs fun y _ h1 h2=>h2.nl (k y h1)
@[elab_as_elim] theorem aB.two {P:Params}{W:Wd}{M:List Value→Prop}{x z:V}{ys:List Value}(h:aB P W [x,z] ys) (k:∀y u,VR P W x y→VR P W z u→M [y,u]):M ys:=h.cs fun y _ h1 h2=>h2.one fun u h3=>k y u h1 h3
section
variable {α:Type}{c:Prop} [Decidable c] {a b:Sem α}{M:Model}{A:Around}{E:Value→Shared→Prop}{Q:α→Shared→Prop}{s:Shared}
theorem aX (hc:¬c) (h:wpAny M A b Q E s):wpAny M A (if c then a else b) Q E s:=by rw [if_neg hc]; exact h
theorem fI (hc:c) (h:wpAny M A a Q E s):wpAny M A (if c then a else b) Q E s:=by rw [if_pos hc]; exact h
end
theorem bd.out {b:Bool}{p:Prop}(h:bd b p):b=true∧p:=match b,h with
 |true,h=>⟨rfl,h⟩
@[elab_as_elim] theorem fj.vr {P:Params}{W:Wd}{M:Value→Prop}{v:V}{k:Int→Prop}{v':Value}(e:fj v k) (h:VR P W v v') (g:∀i t,k i→M (.int i t)):M v':=by
 cases v with
 |int i=>exact h.i fun t=>g i t e
 |_=>exact e.elim
@[elab_as_elim] theorem lE.vr {P:Params}{W:Wd}{M:Value→Prop}{v:V}{k:List Nat→Prop}{v':Value}(e:lE v k) (h:VR P W v v') (g:∀x t,k x→M (.str ⟨x.toArray⟩ t)):M v':=by
 cases v with
 |str x=>exact h.s fun t=>g x t e
 |_=>exact e.elim
@[elab_as_elim] theorem dz.vr {P:Params}{W:Wd}{M:Value→Prop}{v:V}{k:List V→Prop}{v':Value}(e:dz v k) (h:VR P W v v') (g:∀xs a ys ep,W.fz a=some (ak ys ep)→aB P W xs ys→k xs→M (.ref a)):M v':=by
 cases v with
 |list xs=>exact h.l fun a ys ep h1 h2=>g xs a ys ep h1 h2 e
 |_=>exact e.elim
theorem pf.out {G:Prop}{v:V}{k:Nat→Prop}(e:pf v k) (g:∀i,v = .ref i→k i→G):G:=by
 cases v with
 |ref i=>exact g i rfl e
 |_=>exact e.elim
@[elab_as_elim] theorem uL.vr {P:Params}{W:Wd}{M:List Value→Prop}{vs:List V}{k:V→Prop}{vs':List Value}(e:uL vs k) (h:aB P W vs vs') (g:∀x y,VR P W x y→k x→M [y]):M vs':=by
 cases vs with
 |nil=>exact e.elim
 |cons x xs=>
  obtain⟨c,e⟩:=bd.out e;rw [List.isEmpty_iff] at c;subst c;exact h.one fun y h4=>g x y h4 e
theorem aB.length {P:Params}{W:Wd}:∀{xs:List V}{ys:List Value},aB P W xs ys→xs.length=ys.length
 |[],_,h=>h.nl rfl
 |_::_,_,h=>h.cs fun _ _ _ h2=>congrArg (· + 1) h2.length
theorem aB.append {P:Params}{W:Wd}{xs':List V}{ys':List Value}(h':aB P W xs' ys'):∀{xs:List V}{ys:List Value},aB P W xs ys→aB P W (xs++xs') (ys++ys')
 |[],_,h=>h.nl h'
 |_::_,_,h=>h.cs fun _ _ h1 h2=>.cons h1 (aB.append h' h2)
theorem aB.flat {P:Params}{W:Wd}{xs:List V}{ys:List Value}(h:aB P W xs ys):∀n:Nat,aB P W (List.replicate n xs).flatten (List.replicate n ys).flatten
 |0=>.nil
 |n+1=>(h.flat n).append h
theorem aB.get {P:Params}{W:Wd}{x:V}:∀{xs:List V}{ys:List Value}{i:Nat},aB P W xs ys→xs[i]? = some x→∃y,ys[i]? = some y∧VR P W x y
 |[],_,_,_,e=>nomatch e
 |_::_,_,0,h,e=>h.cs fun y _ h1 _=>⟨y,rfl,Option.some.inj e▸h1⟩
 |_::xs,_,i+1,h,e=>h.cs fun _ _ _ h2=>aB.get (i:=i) h2 (List.getElem?_cons_succ.symm.trans e)
theorem aB.take {P:Params}{W:Wd}:∀{xs:List V}{ys:List Value}(n:Nat),aB P W xs ys→aB P W (xs.take n) (ys.take n)
 |_,_,0,_=>.nil
 |[],_,_+1,h=>h.nl .nil
 |_::_,_,n+1,h=>h.cs fun _ _ h1 h2=>.cons h1 (h2.take n)
theorem aB.drop {P:Params}{W:Wd}:∀{xs:List V}{ys:List Value}(n:Nat),aB P W xs ys→aB P W (xs.drop n) (ys.drop n)
 |_,_,0,h=>h
 |[],_,_+1,h=>h.nl .nil
 |_::_,_,n+1,h=>h.cs fun _ _ _ h2=>h2.drop n
theorem aB.reverse {P:Params}{W:Wd}:∀{xs:List V}{ys:List Value},aB P W xs ys→aB P W xs.reverse ys.reverse
 |[],_,h=>h.nl .nil
 |_::_,_,h=>h.cs fun _ _ h1 h2=>by rw [List.reverse_cons,List.reverse_cons]; exact .append (.cons h1 .nil) h2.reverse
theorem aB.set {P:Params}{W:Wd}{x:V}{y:Value}(k:VR P W x y):∀{xs:List V}{ys:List Value}(i:Nat),aB P W xs ys→aB P W (xs.set i x) (ys.set i y)
 |[],_,_,h=>h.nl .nil
 |_::_,_,0,h=>h.cs fun _ _ _ h2=>.cons k h2
 |_::_,_,i+1,h=>h.cs fun _ _ h1 h2=>.cons h1 (h2.set k i)
noncomputable abbrev GE (T:TS) (W:Wd) (pr:Kn) (env:Env) (ρ:P) (K:V→H→Ws→Prop) (Q:Value→Shared→Prop):Prop:=
 ∀W' s' v v' σ' ws',W.le W'→VR T.P W' v v'→St T W' pr env ρ σ' s'→K v σ' ws'→Q v' s'
theorem bo.out {α:Type}{o:Option α}{K:α→Prop}{G:Prop}(h:bo o K) (k:∀x,o=some x→K x→G):G:=match o,h with
 |some x,h=>k x rfl h
section
variable {T:TS}{W:Wd}{pr:Kn}{env:Env}{ρ:P}{σ:H}{s s':Shared}{A:Around}{E:Value→Shared→Prop}{n:Nat}{K:V→H→Ws→Prop}{Q:Value→Shared→Prop}{ws:Ws}
@[elab_as_elim] theorem aI.lst {M:Value→Prop}{a:V}{xs:List V}{a':Value}(R:aI T W pr σ s) (h:VR T.P W a a') (e:LO σ a xs) (k:∀l ys ep,s.heap.get? l=some (ak ys ep)→aB T.P W xs ys→xs.length=ys.length→M (.ref l)):M a':=by
 induction e with
 |val=>exact h.l fun l ys ep h1 h2=>k l ys ep (R.fzIn _ _ h1) h2 h2.length
 |ref he=>exact h.r fun l h1=>let ⟨_,h2,ys,ep,e,h4⟩:=R.objs _ _ _ he h1; k l ys ep (e▸h2) h4 h4.length
theorem dj {xs:List V}{ys:List Value}(e:xs.length=ys.length) (h:xs.length<af):ys.length≤sizeLine:=e▸Nat.le_trans (Nat.le_of_lt h) (by decide)
theorem qK {us ws:List Value}:({ cls:=.type "list",data:=.seq (us.toArray++ws.toArray) }:Obj)=ak (us++ws) 0:=by simp [ak]
theorem tf {b:Bool}{a:Addr}{xs:List V}{ys:List Value}{ep:Nat}(S:St T W pr env ρ σ s) (g:be s s') (e:s.heap.get? a=none) (e':s'.heap.get? a=some (ak ys ep)) (h:aB T.P W xs ys) :
  ∃W',W.le W'∧VR T.P W' (aD b (.list xs) (.list xs) σ).1 (.ref a)∧St T W' pr env ρ (aD b (.list xs) (.list xs) σ).2 s':=match b with
 |false=>let ⟨S',L⟩:=S.freeze g e e'; ⟨_,L,.mkL (W.add_at a _) (h.mono L),S'⟩
 |true=>
  have L:W.le ⟨W.phi++[a],W.fz,W.tk⟩:=⟨⟨[a],rfl⟩,fun _ _ e=>e,Nat.le_refl _⟩
  let ⟨S',_⟩:=S.alloc g e e' (x:=.list xs) ⟨ys,ep,rfl,h.mono L⟩
  ⟨_,L,.mkR (by rw [←S.r.len,List.getElem?_append_right (Nat.le_refl _),Nat.sub_self]; rfl),S'⟩
theorem GE.list (q:GE T W pr env ρ K Q) (S:St T W pr env ρ σ s) {b:Bool}{xs:List V}{ys:List Value}{ep:Nat}(h:aB T.P W xs ys) (k:K (aD b (.list xs) (.list xs) σ).1 (aD b (.list xs) (.list xs) σ).2 ws) :
  Q (.ref s.heap.objs.size) { s with heap:=s.heap.push (ak ys ep) }:=
 let ⟨W',L,h1,h2⟩:=tf (b:=b) S (be.push s (ak ys ep)) (az _) (Heap.get?_push_size _ rfl) h
 q W' _ _ _ _ _ L h1 h2 k
theorem GE.int {i:Int}(q:GE T W pr env ρ K Q) (S:St T W pr env ρ σ s) (k:K (.int i) σ ws):Q (.int i s.toks) { s with toks:=s.toks+1 }:=q W _ _ _ _ _ (.refl W) .mkI S.tok k
theorem GE.here {v:V}{v':Value}(q:GE T W pr env ρ K Q) (S:St T W pr env ρ σ s) (h:VR T.P W v v') (k:K v σ ws):Q v' s:=q W _ _ _ _ _ (.refl W) h S k
theorem GE.mono {W':Wd}(q:GE T W pr env ρ K Q) (L:W.le W'):GE T W' pr env ρ K Q:=fun W2 s v v' σ ws L2=>q W2 s v v' σ ws (L.trans L2)
theorem St.later (S:St T W pr env ρ σ s):St T ⟨W.phi,W.fz,s.toks+1⟩ pr env ρ σ { s with toks:=s.toks+1 }∧W.le ⟨W.phi,W.fz,s.toks+1⟩:=
 have L:W.le ⟨W.phi,W.fz,s.toks+1⟩:=⟨⟨[],(List.append_nil _).symm⟩,fun _ _ e=>e,Nat.le_succ_of_le S.r.tk.2⟩
 ⟨⟨S.f.le L (fun _ _ _ e=>e) (fun a h=>let x:=S.f.own a h; ⟨x.nfz,x.npr,x.nphi,x.ntab⟩),S.r.move L rfl (fun _ _=>.inl) (fun _=>.inr (.inr fun _ e=>e)) (S.r.tabsK L.fz fun _=>.inr fun _ e=>e) rfl rfl (Nat.le_refl _)⟩,L⟩
theorem St.grow' {k:Nat}(S:St T W pr env ρ σ s) (h:W.tk≤k):St T W pr env ρ σ { s with toks:=k }:=
 let R:=S.r
 ⟨S.f.le (.refl W) (fun _ _ _ e=>e) S.f.own,⟨R.fzIn,R.prIn,R.len,R.objs,R.nodup,R.phi,R.prfz,R.top,R.tab,R.tabfz,R.os,R.gens,R.sys,R.tk.1,h⟩⟩
theorem GE.str {x:List Nat}{y:Str}{t:Tok}{m:Nat}(q:GE T W pr env ρ K Q) (S:St T W pr env ρ σ s) (h:W.tk≤m) (e:y=⟨x.toArray⟩) (k:K (.str x) σ ws):Q (.str y t) { s with toks:=m }:=
 q W _ _ _ _ _ (.refl W) (e▸.mkS) (S.grow' h) k
theorem GE.str1 {x:List Nat}{y:Str}(q:GE T W pr env ρ K Q) (S:St T W pr env ρ σ s) (e:y=⟨x.toArray⟩) (k:K (.str x) σ ws):Q (.str y s.toks) { s with toks:=s.toks+1 }:=q.str S (Nat.le_succ_of_le S.r.tk.2) e k
theorem GE.intG {i:Int}{t:Tok}{h':Heap}{tk:Nat}(q:GE T W pr env ρ K Q) (S:St T W pr env ρ σ s) (hk:∀c o,s.heap.get? c=some o→h'.get? c=some o) (ht:W.tk≤tk) (k:K (.int i) σ ws):Q (.int i t) { s with heap:=h',toks:=tk }:=
 q W _ _ _ _ _ (.refl W) .mkI ((S.grow' ht).grow ⟨hk,rfl,rfl,Nat.le_refl _⟩) k
theorem fJ {α:Type}(xs:Array α):∀(k:Nat) (acc:Array α),List.foldl (fun x1 x2=>x1++x2) acc (List.replicate k xs)=acc++((List.replicate k xs.toList).flatten).toArray
 |0,acc=>by simp
 |k+1,acc=>by
  rw [List.replicate_succ,List.foldl_cons,fJ xs k,List.replicate_succ,List.flatten_cons];exact Array.ext' (by simp)
theorem qL {l:Addr}{ys:List Value}{k:Nat}{x:Int}{u:Tok}(hl:s.heap.get? l=some (ak ys k)) (h0:0≤x) (hhi:x<4096) (hsz:ys.length<4096)
  (h:Q (.ref s.heap.objs.size) { s with heap:=s.heap.push (ak (List.replicate x.toNat ys).flatten 0) }):wpAny T.M A (binaryOp .Mult (.ref l) (.int x u)) Q E s:=by
 have hz:ys.toArray.size*x.toNat≤2 ^ 24:=Nat.le_trans (Nat.mul_le_mul (Nat.le_of_lt hsz) (show x.toNat≤4096 by omega)) (by decide)
 refine wpAny_binaryOp_repeat_ref (T:= "list") (U:= "int") (by decide) ⟨_,hl,rfl⟩ (fun s'=>typeIs_int s' x u) noFill_list_mul F.fills_int_mul F.slot_int_rmul repeat_list F.slot_int_index.lookup
  (call_meets F.slot_int_rmul (typeIs_int s x u) F.entry_int_rmul (F.args_int_rmul_2 _ _) (int___rmul___int_list x u l ys.toArray k)
   ⟨hl,rfl,⟨_,hl,rfl⟩,call_meets F.slot_list_mul ⟨_,hl,rfl⟩ F.entry_list_mul (F.args_list_mul_2 _ _)
    (AutoListH.list___mul___list_int_3 l ys.toArray k x u (by simp [Builtin.List.listFitsIndex]; omega) (by omega) (by simp [Builtin.List.listTooLong,sizeLine] at hz ⊢; omega))
    ⟨hl,?_⟩⟩)
 have e:(List.foldl (fun x1 x2=>x1++x2) #[] (List.replicate (if ys.toArray.isEmpty=true then 0 else x.toNat) ys.toArray))=((List.replicate x.toNat ys).flatten).toArray:=by
  rw [fJ];cases ys <;> simp
 rw [e];exact h
theorem gY {x y:List Nat}:(⟨x.toArray⟩:Str)++⟨y.toArray⟩=⟨(x++y).toArray⟩:=by show Str.append _ _=_; simp [Str.append]
theorem yP {x:List Nat}{m:Nat}(h:x.length<m) (hm:m≤sizeLine):(⟨x.toArray⟩:Str).length≤sizeLine:=by show x.toArray.size≤_; rw [List.size_toArray]; exact Nat.le_trans (Nat.le_of_lt h) hm
theorem jF {x:List Nat}(h:(!x.isEmpty)=true):((⟨x.toArray⟩:Str).length==0)=false:=by
 cases x with
 |nil=>cases h
 |cons=>rfl
theorem AL (S:St T W pr env ρ σ s):W.tk≤s.toks+1:=Nat.le_succ_of_le S.r.tk.2
theorem yQ {op:Operator}{a b v:V}{a' b':Value}{bh:Bool}(S:St T W pr env ρ σ s) (h:ah σ op a b v) (ha:VR T.P W a a') (hb:VR T.P W b b') (k:K (o9 bh a b v σ).1 (o9 bh a b v σ).2 ws) (q:GE T W pr env ρ K Q) :
  wpAny T.M A (binaryOp op a' b') Q E s:=by
 induction h with
 |add=>exact ha.i fun t=>hb.i fun u=>PyProof.Rows.add_int (q.int S k)
 |sub=>exact ha.i fun t=>hb.i fun u=>PyProof.Rows.sub_int (q.int S k)
 |mul hx hy=>
  refine ha.i fun t=>hb.i fun u=>PyProof.Rows.mul_int (q.int S k) ?_
  have h1:=kO hx;have h2:=kO hy;unfold IntMulOk Builtin.Int.intTooBig;simp only [Bool.and_eq_true,decide_eq_true_eq,not_and];intro _ h3;have h3:((2 ^ 27:Nat):Int)<(Builtin.Int.intBits _:Int)+(Builtin.Int.intBits _:Int):=h3;omega
 |fdiv h hy=>exact ha.i fun t=>hb.i fun u=>PyProof.Rows.floordiv_int h (q.int S k) (.inl (jE hy))
 |mod h=>exact ha.i fun t=>hb.i fun u=>PyProof.Rows.mod_int' h (q.int S k)
 |shl hx h0 h1=>exact ha.i fun t=>hb.i fun u=>PyProof.Rows.lshift_int h0 (by have:=kO hx; omega) (q.int S k)
 |shr h0=>exact ha.i fun t=>hb.i fun u=>PyProof.Rows.rshift_int h0 (q.int S k)
 |xor=>exact ha.i fun t=>hb.i fun u=>PyProof.Rows.xor_int (q.int S k)
 |pow=>exact ha.i fun t=>hb.i fun u=>PyProof.Rows.pow_int (by decide) (by decide +kernel) (q.int S k)
 |@cat x y h=>
  refine ha.s fun t=>hb.s fun u=>?_
  have hz:(⟨(x++y).toArray⟩:Str).length≤sizeLine:=yP (by rw [List.length_append]; exact h) (by decide)
  have low:K (.str (x++y)) σ ws→wpAny T.M A (binaryOp .Add (.str ⟨x.toArray⟩ t) (.str ⟨y.toArray⟩ u)) Q E s:=fun k=>wpAny_with_toks S.r.tk.2 (PyProof.Rows.add_str (fun t' tk h1=>q.str S h1 gY k) (by simpa [Str.length] using hz))
  cases bh with
  |false=>exact low k
  |true=>
   have k:K (match o8 (.str x) (.str y) with | true=>(V.tstr (x++y),σ) | false=>(V.str (x++y),σ)).1 (match o8 (.str x) (.str y) with | true=>(V.tstr (x++y),σ) | false=>(V.str (x++y),σ)).2 ws:=k
   cases g:o8 (.str x) (.str y) with
   |false=>rw [g] at k; exact low k
   |true=>
    rw [g] at k;have g:(!x.isEmpty && !y.isEmpty)=true:=g;have g:=Bool.and_eq_true_iff.mp g;refine PySem.P.add_str ?_;rw [jF g.1,jF g.2,gY];exact⟨hz,q _ _ (.tstr (x++y)) _ _ _ S.later.2 (by exact⟨_,rfl,Nat.lt_of_lt_of_le S.r.tk.1 S.r.tk.2,Nat.lt_succ_self _⟩) S.later.1 k⟩
 |rep h h0 h1 hz=>exact hb.i fun u=>S.r.lst ha h fun l ys ep e1 e2 e3=>qL e1 h0 h1 (e3▸hz) (q.list S (e2.flat _) k)
 |app h h' hz=>
  refine S.r.lst ha h fun l us ep e1 e2 e3=>S.r.lst hb h' fun l2 ws ep2 f1 f2 f3=>?_
  rw [e3,f3] at hz;exact P.add_list e1 f1 (by rw [qK]; exact q.list S (f2.append e2) k) (by simp only [List.size_toArray]; exact Nat.le_trans (Nat.le_of_lt hz) (by decide))
theorem yR {op:UnaryOp}{a v:V}{a':Value}(S:St T W pr env ρ σ s) (h:bS op a v) (ha:VR T.P W a a') (k:K v σ ws) (q:GE T W pr env ρ K Q):wpAny T.M A (unaryOp op a') Q E s:=by
 induction h with
 |neg=>exact ha.i fun t=>PySem.P.neg_int (q.int S k)
 |inv=>exact ha.i fun t=>PyProof.Rows.invert_int (q.int S k)
end
end Mini
set_option maxRecDepth 100000
set_option autoImplicit false
namespace Mini
open PySem PySem.W PyProof.Rows
open AutoSeq1 (wpAny_loadPart')
open MeetsSeq3 (plain_eq_loop entry_eq_loop)
noncomputable def v8 (T:TS) (A:Around) (s:Shared) (y x:Value):Prop:=∀(E:Value→Shared→Prop) (Q:Bool→Shared→Prop),Q true s→wpAny T.M A (eqBool y x) Q E s
noncomputable abbrev Bo (T:TS) (A:Around) (R:Result→Shared→Prop):Fin→Shared→Prop:=fun fin s'=>match fin with
 |.done f=>R (.ok f) s'
 |.again c'=>c'.quiet=true∧codeAny T.M A c' R s'
section
variable {T:TS}{A:Around}{s:Shared}{l b:Addr}{xs ys:List Value}{n n2:Nat}{E:Value→Shared→Prop}{Q:Value→Shared→Prop}
theorem tg (hsz:xs.length=ys.length) (hl:s.heap.get? l=some (ak xs n)) (hb:s.heap.get? b=some (ak ys n2)) (he:∀(j:Nat) (x y:Value),xs[j]? = some x→ys[j]? = some y→v8 T A.in1 s x y) (R:Result→Shared→Prop)
  (h:R (.ok (.ret (.bool false))) s) (k:Nat):∀(i:Nat),xs.length - i=k →
   wpAny T.M A.in1 (Builtin.«list.__eq__.loop» ⟨[.ref l,.ref b,rawInt i,rawInt 3],[]⟩) (Bo T A R) (fun e s'=>R (.error e) s') s:=by
 have a1:∀(zs:List Value) (i:Nat),zs.toArray[((i:Nat):Int).toNat]? = zs[i]?:=fun zs i=>by rw [Int.toNat_natCast,List.getElem?_toArray]
 induction k with
 |zero=>
  intro i hk;obtain⟨hp,g,d,tk,os⟩:=s;have hi:=Nat.le_of_sub_eq_zero hk
  wp_walk using wpAny_loadPart' hl,wpAny_loadPart' hb
  rw [a1,a1,List.getElem?_eq_none hi,List.getElem?_eq_none (hsz▸hi)]
  wp_walk using wpAny_loadPart' hl,wpAny_loadPart' hb
  show R (.ok (.ret (.bool (xs.toArray.size != ys.toArray.size)))) _;rw [List.size_toArray,List.size_toArray,hsz,bne_self_eq_false];exact h
 |succ k ih=>
  intro i hk;have hlt:i<xs.length:=Nat.lt_of_sub_eq_succ hk;have ih':=ih (i+1) (by rw [Nat.sub_succ,hk]; rfl)
  have e1:=List.getElem?_eq_getElem hlt;have e2:=List.getElem?_eq_getElem (hsz▸hlt:i<ys.length);have hei:=he i _ _ e1 e2;obtain⟨hp,g,d,tk,os⟩:=s
  wp_walk using wpAny_loadPart' hl,wpAny_loadPart' hb
  rw [a1,a1,e1,e2];refine wpAny_bind (hei _ _ ?_)
  wp_walk
  exact⟨plainId_quiet plain_eq_loop _,codeAny_builtin entry_eq_loop (by
   rw [Around.under_plainId plain_eq_loop _];exact ih')⟩
theorem nY (hl:s.heap.get? l=some (ak xs n)) (hb:s.heap.get? b=some (ak ys n2)) (hu:A.units<cLine) (hsz:xs.length=ys.length) (he:∀(j:Nat) (x y:Value),xs[j]? = some x→ys[j]? = some y→v8 T A.in1 s x y)
  (h:Q (.bool false) s):wpAny T.M A (richCompare .NotEq (.ref l) (.ref b)) Q E s:=by
 refine wpAny_richCompare_same_room (op:=.NotEq) ⟨_,hl,rfl⟩ ⟨_,hb,rfl⟩ F.slot_list_ne (call_meetsIn F.slot_list_ne ⟨_,hl,rfl⟩ F.entry_list_ne (F.args_list_ne_2 _ _)
  (S:=fun A R s'=>s'=s∧(∀(j:Nat) (x y:Value),xs[j]? = some x→ys[j]? = some y→v8 T A.in1 s x y)∧R (.ok (.ret (.bool false))) s) ?_ ⟨rfl,he,(fun x=>nomatch x),h⟩) hu
 rintro A R s' ⟨rfl,he,h⟩;have hz:(xs.toArray.size != ys.toArray.size)=false:=by rw [List.size_toArray,List.size_toArray,hsz,bne_self_eq_false]
 obtain⟨hp,g,d,tk,os⟩:=s';have f3:=AutoSeq1.sub_list_list;have hne:¬(xs.toArray.size != ys.toArray.size)=true:=by rw [hz]; exact Bool.false_ne_true
 wp_walk using wpAny_loadPart' hl,wpAny_loadPart' hb
 exact⟨plainId_quiet plain_eq_loop _,codeAny_builtin entry_eq_loop (by
  rw [Around.under_plainId plain_eq_loop _];exact tg hsz hl hb he _ h _ 0 rfl)⟩
theorem qM (hl:s.heap.get? l=some (fE xs)) (hb:s.heap.get? b=some (fE ys)) (hu:A.units<cLine) (hsz:xs.length=ys.length) (he:∀p,p∈xs.zip ys→v8 T A.in1 s p.1 p.2)
  (h:Q (.bool true) s):wpAny T.M A (richCompare .Eq (.ref l) (.ref b)) Q E s:=by
 refine wpAny_richCompare_same_room (op:=.Eq) ⟨_,hl,rfl⟩ ⟨_,hb,rfl⟩ F.slot_tuple_eq (call_meetsIn F.slot_tuple_eq ⟨_,hl,rfl⟩ F.entry_tuple_eq (F.args_tuple_eq_2 _ _)
  (S:=fun A R s'=>s'=s∧(∀p,p∈xs.zip ys→v8 T A.in1 s p.1 p.2)∧R (.ok (.ret (.bool true))) s) ?_ ⟨rfl,he,(fun x=>nomatch x),h⟩) hu
 refine .of_wp fun A R s' h=>?_
 obtain⟨rfl,he,h⟩:=h;obtain⟨hp,g,d,tk,os⟩:=s';have f2:=AutoSeq1.sub_tuple_tuple;have hz:Builtin.Tuple.tupleCompareSizes .Eq xs.toArray.size ys.toArray.size = .bool true:=by
  rw [List.size_toArray,List.size_toArray,hsz];show Value.bool (ys.length==ys.length)=_;rw [beq_self_eq_true]
 wp_walk using wpAny_loadPart' hl,wpAny_loadPart' hb,wpAny_forIn_list _ (fun rest b s'=>b.1=none∧s'=⟨hp,g,d,tk,os⟩∧∀p,p∈rest→v8 T A.in1 ⟨hp,g,d,tk,os⟩ p.1 p.2) _
 case turn=>
  rintro⟨y,x⟩ rest b s' ⟨hb',rfl,he⟩;refine wpAny_bind (he _ List.mem_cons_self _ _ ?_)
  wp_walk
  exact⟨rfl,rfl,fun p hp=>he p (List.mem_cons_of_mem _ hp)⟩
 case fin=>
  rintro⟨b1,b2⟩ s' ⟨hb',rfl,_⟩;simp only at hb';subst hb'
  wp_walk
  exact⟨_,rfl,by rw [hz]; exact h⟩
 case h=>exact⟨rfl,rfl,he⟩
theorem ao (hl:s.heap.get? l=some (ak xs n)):s.heap.IsList l xs.toArray:=⟨_,hl,rfl,n,rfl⟩
theorem th (hl:s.heap.get? l=some (fE xs)):s.heap.IsTuple l xs.toArray:=⟨_,hl,rfl,0,rfl⟩
noncomputable abbrev kS (T:TS):KeyKind T.prog T.w Str:=strKind T.prog T.w
noncomputable def AM:Value→Str
 |.str x _=>x
 |_=>⟨#[]⟩
noncomputable def kv (ds:List DictEntry):List (Str×Value):=ds.map fun e=>(AM e.key,e.val)
noncomputable def mk (k:List Nat):Str:=⟨k.toArray⟩
theorem iE {a b:List Nat}(h:mk a=mk b):a=b:=by simpa [mk] using congrArg Str.cps h
theorem nZ {k q:List Nat}{v:Value}{r:List (Str×Value)}:valueAt ((mk k,v)::r) (mk q)=if i8 k q then some v else valueAt r (mk q):=by
 unfold valueAt;rw [List.find?_cons]
 by_cases h:k=q
 ·simp [h,eqL_iff.mpr rfl]
 ·have:i8 k q=false:=by rw [Bool.eq_false_iff]; exact fun e=>h (eqL_iff.mp e)
  simp [this,show ¬mk k=mk q from fun e=>h (iE e)]
end
section
variable {T:TS}{W:Wd}{pr:Kn}{σ:H}{s:Shared}{A:Around}
@[elab_as_elim] theorem aO.nl {P:Params}{M:List DictEntry→Prop}{ds:List DictEntry}(h:aO P W [] ds) (k:M []):M ds:=by exact h▸k
@[elab_as_elim] theorem aO.cs {P:Params}{M:List DictEntry→Prop}{k:List Nat}{x:V}{es:List (List Nat×V)}{ds:List DictEntry}(h:aO P W ((k,x)::es) ds) (f:∀t y r,VR P W x y→aO P W es r→M (⟨PyData.keyHash P ⟨k.toArray⟩,.str ⟨k.toArray⟩ t,y⟩::r)):M ds:=by
 obtain⟨t,y,r,rfl,h1,h2⟩:=h; exact f t y r h1 h2
@[elab_as_elim] theorem VR.d {P:Params}{M:Value→Prop}{es:List (List Nat×V)}{v:Value}(h:VR P W (.dict es) v) (k:∀a ds ep,W.fz a=some (ax ds ep)→aO P W es ds→(es.map (·.1)).Nodup→M (.ref a)):M v:=by
 obtain⟨a,ds,ep,rfl,h1,h2,h3⟩:=h; exact k a ds ep h1 h2 h3
theorem aO.length {P:Params}:∀{es:List (List Nat×V)}{ds:List DictEntry},aO P W es ds→es.length=ds.length
 |[],_,h=>h.nl rfl
 |(_,_)::_,_,h=>h.cs fun _ _ _ _ h2=>congrArg (· + 1) h2.length
theorem aO.keys:∀{es:List (List Nat×V)}{ds:List DictEntry},aO T.P W es ds→(∀e∈ds,∃k,(kS T).is k e.key=true∧e.hash=(kS T).hash k)∧Pairs (kS T) ds (kv ds)∧(kv ds).map (·.1)=es.map fun p=>mk p.1
 |[],_,h=>h.nl ⟨(fun _ h=>nomatch h),.nil,rfl⟩
 |(k,_)::_,_,h=>h.cs fun _ _ _ _ h2=>
  let ⟨a,b,c⟩:=aO.keys h2
  ⟨List.forall_mem_cons.mpr ⟨⟨mk k,strKind_is _ _ _ _,rfl⟩,a⟩,.cons (strKind_is _ _ _ _) rfl b,congrArg (mk k :: ·) c⟩
theorem aO.nodup {es:List (List Nat×V)}{ds:List DictEntry}(h:aO T.P W es ds) (n:(es.map (·.1)).Nodup):((kv ds).map (·.1)).Nodup:=by
 rw [h.keys.2.2,show (es.map fun p=>mk p.1)=(es.map (·.1)).map mk by simp]
 exact List.Pairwise.map _ (fun a b hab h=>hab (iE h)) n
theorem aO.dictOf {es:List (List Nat×V)}{ds:List DictEntry}{l:Addr}{ep:Nat}(h:aO T.P W es ds) (n:(es.map (·.1)).Nodup) (hl:s.heap.get? l=some (ax ds ep)):s.heap.DictOf (kS T) l (kv ds):=
 ⟨_,ds.toArray,ep,hl,⟨rfl,rfl,rfl⟩,rfl,fun e he=>h.keys.1 e (List.mem_toArray.mp he),h.keys.2.1,h.nodup n⟩
theorem aO.some' {k:List Nat}{x:V}:∀{es:List (List Nat×V)}{ds:List DictEntry},aO T.P W es ds→bP k es=some x→∃y,valueAt (kv ds) (mk k)=some y∧VR T.P W x y
 |[],_,_,e=>nomatch e
 |(k',x')::es,_,h,e=>h.cs fun t y r h1 h2=>by
  show ∃z,valueAt ((mk k',y)::kv r) (mk k)=some z∧_;rw [nZ];have e:(match i8 k' k with | true=>some x' | false=>bP k es)=some x:=e
  cases q:i8 k' k with
  |true=>rw [q] at e; exact⟨y,if_pos rfl,Option.some.inj e▸h1⟩
  |false=>rw [q] at e; exact aO.some' h2 e
@[elab_as_elim] theorem aI.dct {M:Value→Prop}{a:V}{es:List (List Nat×V)}{a':Value}(R:aI T W pr σ s) (h:VR T.P W a a') (e:DO σ a es) (k:∀l ds ep,s.heap.get? l=some (ax ds ep)→aO T.P W es ds→(es.map (·.1)).Nodup→(l∈W.phi∨∃o,W.fz l=some o)→M (.ref l)):M a':=by
 induction e with
 |val=>exact h.d fun l ds ep h1 h2 h3=>k l ds ep (R.fzIn _ _ h1) h2 h3 (.inr ⟨_,h1⟩)
 |ref he=>exact h.r fun l h1=>let ⟨_,h2,ds,ep,e,h4,h5⟩:=R.objs _ _ _ he h1; k l ds ep (e▸h2) h4 h5 (.inl (List.mem_of_getElem? h1))
theorem gZ {x y:List Nat}:(x==y)=((⟨x.toArray⟩:Str)==⟨y.toArray⟩):=by
 rw [Bool.eq_iff_iff,beq_iff_eq,beq_iff_eq];exact⟨fun h=>h▸rfl,fun h=>iE h⟩
theorem qN {bs as:List (List Nat×V)}{db:List DictEntry}(hb:aO T.P W bs db) (e:rx bs as):∀{da:List DictEntry},aO T.P W as da→KeqHits A s (kv db) (kv da) true:=by
 induction e with
 |nil=>exact fun h=>h.nl .nil
 |@hit k x _ e hr ih=>
  refine fun h=>h.cs fun _ _ _ h1 h2=>?_
  obtain⟨z,h3,h4⟩:=hb.some' e;revert h3;refine h4.s fun t2 h3=>h1.s fun t1=>?_
  have g:=SeqAt.EqAt.str_str (A:=A) (s:=s) ⟨x.toArray⟩ t1 ⟨x.toArray⟩ t2;rw [beq_self_eq_true] at g;exact .hit (b:=true) h3 g (ih h2)
theorem yS {a b:V}{a' b':Value}(R:aI T W pr σ s) (hu:A.units<cLine) (h:zL σ a b) (ha:VR T.P W a a') (hb:VR T.P W b b'):(∀(E:Value→Shared→Prop) (Q:Value→Shared→Prop),Q (.bool true) s→wpAny T.M A (compareOp .Eq a' b') Q E s)∧v8 T A s a' b':=by
 induction h with
 |mk h hl hr=>
  refine R.dct ha h fun l ds ep h2 h4 h5 hm=>hb.d fun b ws ep2 g1 g2 g3=>?_
  have hk:((kv ds).length==(kv ws).length&&true)=true:=by rw [kv,kv,List.length_map,List.length_map,←h4.length,←g2.length,hl,beq_self_eq_true]; rfl
  have e:∀(E:Value→Shared→Prop) (Q:Value→Shared→Prop),Q (.bool true) s→wpAny T.M A (compareOp .Eq (.ref l) (.ref b)) Q E s:=fun E Q q=>
   keq_eq (R.notSys hm) (R.notSys (.inr ⟨_,g1⟩)) (h4.dictOf h5 h2) (g2.dictOf g3 (R.fzIn _ _ g1)) hu (fun _=>qN g2 hr h4) (hk.symm▸q)
  refine⟨e,fun E Q q=>?_⟩
  unfold eqBool;exact wpAny_holding (wpAny_ite_split (fun _=>wpAny_bind (wpAny_rule (wpAny_pure q))) fun _=>wpAny_bind (e E _ (wpAny_truthy_bool q)))
theorem n8:A.in1.units≤A.units+100:=by unfold Around.in1; first | exact Nat.le_add_right _ _ | exact Nat.add_le_add_left (by decide) _
theorem yT {x:List Nat}(h:bH x=true):PyData.canLay0 (.str ⟨x.toArray⟩)=true:=by
 show Array.all _ _=true;rw [List.all_toArray];exact List.all_eq_true.mpr fun c hc=>decide_eq_true (Nat.lt_trans (Nat.le_of_ble_eq_true (List.all_eq_true.mp h c hc)) (by decide))
theorem n9 {xs:List V}(h:uH xs):∃ds,PyData.canLayAll0 ds=true∧PyData.depthAll ds=0∧∀{hp:Heap}{ys:List Value},aB T.P W xs ys→ReadsAll hp ys ds []:=by
 induction h with
 |nil=>exact⟨[],rfl,rfl,fun h=>h.nl .nil⟩
 |@int i _ _ ih=>exact let ⟨ds,a,b,c⟩:=ih; ⟨.int i::ds,a,(Nat.zero_max _).trans b,fun h=>h.cs fun _ _ h1 h2=>h1.i fun t=>.cons (.int i t) (c h2)⟩
 |@str x _ ha _ ih=>exact let ⟨ds,a,b,c⟩:=ih; ⟨.str ⟨x.toArray⟩::ds,Bool.and_eq_true_iff.mpr ⟨yT ha,a⟩,(Nat.zero_max _).trans b,fun h=>h.cs fun _ _ h1 h2=>h1.s fun t=>.cons (.str _ t) (c h2)⟩
theorem yU {xs:List V}(R:aI T W pr σ s) (h:zA xs):∃ds,PyData.canLayAll0 ds=true∧PyData.depthAll ds≤1∧∀{ys:List Value},aB T.P W xs ys→ReadsAll s.heap ys ds []:=by
 induction h with
 |nil=>exact⟨[],rfl,Nat.zero_le _,fun h=>h.nl .nil⟩
 |cons h _ ih=>exact let ⟨ds,a,b,c⟩:=ih; let ⟨es,f,g,k⟩:=n9 h
   ⟨.tuple es::ds,Bool.and_eq_true_iff.mpr ⟨f,a⟩,Nat.max_le.mpr ⟨Nat.le_of_eq (congrArg (· + 1) g),b⟩,fun h=>h.cs fun _ _ h1 h2=>h1.t fun _ _ e h3=>.cons (.tuple (R.fzIn _ _ e) rfl rfl (k h3)) (c h2)⟩
theorem kQ {a b:Value}{d:PyData}{as bs:List Addr}(ra:Reads s.heap a d as) (rb:Reads s.heap b d bs) (hd:d.canLay0=true) (hz:d.depth≤2) (hu:A.units+2<cLine) {E:Value→Shared→Prop}{Q:Value→Shared→Prop}(q:Q (.bool false) s):wpAny T.M A (compareOp .NotEq a b) Q E s:=
 SeqAt.compareNe_reads ra rb hd hd (Nat.lt_of_le_of_lt (Nat.add_le_add_left (Nat.le_trans (Nat.min_le_left _ _) hz) _) hu) (by rw [SeqAt.eqv_refl d hd]; exact q)
theorem g0 {P:Params}{x y:V}{v:Value}(h:VR P W (.tuple [x,y]) v):∃a p q,v = .ref a∧W.fz a=some (fE [p,q])∧VR P W x p∧VR P W y q:=by
 obtain⟨a,_,rfl,e,r⟩:=h;obtain⟨p,_,rfl,h1,q,_,rfl,h2,rfl⟩:=r;exact⟨a,p,q,rfl,e,h1,h2⟩
theorem AN {t:List Nat}{x y:V}{u w:Value}(R:aI T W pr σ s) (hu:A.units<cLine) (hu1:A.in1.units<cLine) (h:zL σ x y) (a:VR T.P W (.tuple [.str t,x]) u) (b:VR T.P W (.tuple [.str t,y]) w):v8 T A s u w:=by
 obtain⟨l,p,q,rfl,el,p1,q1⟩:=g0 a;obtain⟨m,p',q',rfl,em,p2,q2⟩:=g0 b;intro E Q k;have ee:∀(E:Value→Shared→Prop) (Q:Value→Shared→Prop),Q (.bool true) s→wpAny T.M A (compareOp .Eq (.ref l) (.ref m)) Q E s:=fun E Q k=>qM (R.fzIn _ _ el) (R.fzIn _ _ em) hu rfl (fun z hz=>by
  rcases List.mem_cons.mp hz with rfl | hz
  ·refine p1.s fun t1=>p2.s fun t2=>?_
   have:=SeqAt.EqAt.str_str (A:=A.in1) (s:=s) ⟨t.toArray⟩ t1 ⟨t.toArray⟩ t2 T.prog T.w;rw [beq_self_eq_true] at this;exact this
  ·rw [List.mem_singleton.mp hz];exact (yS R hu1 h q1 q2).2) k
 unfold eqBool;exact wpAny_holding (wpAny_ite_split (fun _=>wpAny_bind (wpAny_rule (wpAny_pure k))) fun _=>wpAny_bind (ee E _ (wpAny_truthy_bool k)))
theorem yV {xs ys:List V}(R:aI T W pr σ s) (hu:A.units<cLine) (hu1:A.in1.units<cLine) (h:zB σ xs ys):∀{us ws:List Value},aB T.P W xs us→aB T.P W ys ws→us.length=ws.length∧∀(j:Nat) (x y:Value),us[j]? = some x→ws[j]? = some y→v8 T A s x y:=by
 induction h with
 |nil=>exact fun h1 h2=>h1.nl (h2.nl ⟨rfl,fun _ _ _ e=>nomatch e⟩)
 |cons h hs ih=>exact fun h1 h2=>h1.cs fun u us a1 a2=>h2.cs fun w ws b1 b2=>
   let ⟨e,f⟩:=ih a2 b2
   ⟨congrArg (· + 1) e,fun j x y=>match j with
    |0=>fun e1 e2=>Option.some.inj e1▸Option.some.inj e2▸AN R hu hu1 h a1 b1
    |j+1=>fun e1 e2=>f j x y e1 e2⟩
theorem yW {a b:Value}{d e:PyData}{as bs:List Addr}(ra:Reads s.heap a d as) (rb:Reads s.heap b e bs) (hd:d.canLay0=true) (hd2:e.canLay0=true) (hz:d.depth≤2) (hu:A.units+2<cLine) {E:Value→Shared→Prop}{Q:Value→Shared→Prop}(q:Q (.bool (PyData.eqv d e)) s):wpAny T.M A (compareOp .Eq a b) Q E s:=
 SeqAt.compareEq_reads ra rb hd hd2 (Nat.lt_of_le_of_lt (Nat.add_le_add_left (Nat.le_trans (Nat.min_le_left _ _) hz) _) hu) q
end
end Mini
set_option maxRecDepth 100000
set_option autoImplicit false
namespace Mini
open PySem PySem.W PyProof.Rows
open PySem.Builtin PySem.Builtin.Str PySem.StrLaws
theorem jG:∀{p t:List Nat},bX p t=true↔t.take p.length=p
 |[],t=>by simp [bX]
 |_::_,[]=>by simp [bX]
 |a::p,b::t=>by
  simp only [bX,Bool.and_eq_true,jG (p:=p),List.length_cons,List.take_succ_cons,List.cons.injEq];exact and_congr ⟨fun h=>(Nat.eq_of_beq_eq_true h).symm,fun h=>h▸Nat.beq_refl _⟩ Iff.rfl
noncomputable def eK (p:List Nat):List Nat→Nat→Nat→List Nat
 |[],_,_=>[]
 |_::r,i,k+1=>eK p r (i+1) k
 |c::r,i,0=>if bX p (c::r) then i::eK p r (i+1) (p.length - 1) else eK p r (i+1) 0
theorem oa {t p r:List Nat}{i:Nat}(hr:t.drop i=r) (hi:i≤t.length):(i+(⟨p.toArray⟩:Str).length≤t.length∧subAt ⟨t.toArray⟩ ⟨p.toArray⟩ i=true)↔bX p r=true:=by
 rw [subAt_eq,jG];have hl:(⟨p.toArray⟩:Str).length=p.length:=by simp [Str.length]
 rw [hl,beq_iff_eq];simp only [hr];constructor
 ·exact fun h=>h.2
 ·intro h;refine⟨?_,h⟩;have:=congrArg List.length h;rw [←hr] at this;simp at this;omega
theorem kR {t r:List Nat}{c i:Nat}(hi:i+(c::r).length=t.length):i+1+r.length=t.length:=by rw [←hi,List.length_cons,Nat.add_assoc,Nat.add_comm 1]
theorem fK (t p:List Nat) (hp:p≠[]):∀(r:List Nat) (i free:Nat) (acc:Array Nat),t.drop i=r→i+r.length=t.length→acc.size≤i →
  (forIn (List.range' i (r.length+1)) (acc,free) (occBody ⟨t.toArray⟩ ⟨p.toArray⟩ t.length (t.length+1))).run.fst.toList=acc.toList++eK p r i (free - i)
 |[],i,free,acc,hr,hi,ha=>by
  have hl:(⟨p.toArray⟩:Str).length=p.length:=List.size_toArray;have:0<p.length:=List.length_pos_iff.mpr hp;simp only [List.length_nil,Nat.add_zero] at hi;simp only [List.length_nil,Nat.zero_add,List.range'_one,List.forIn_cons,List.forIn_nil];unfold occBody;rw [if_neg (by rw [hl]; exact fun h=>absurd h.1.2 (Nat.not_le.mpr (hi▸Nat.lt_add_of_pos_right this)))]
  simp [eK]
 |c::r,i,free,acc,hr,hi,ha=>by
  have hl:(⟨p.toArray⟩:Str).length=p.length:=List.size_toArray;have hi2:=kR hi;have hle:i≤t.length:=hi▸Nat.le_add_right _ _;have hr':t.drop (i+1)=r:=by rw [←List.tail_drop,hr]; rfl
  have key:=oa (p:=p) hr hle;rw [hl] at key;rw [List.length_cons,List.range'_succ,List.forIn_cons];unfold occBody
  by_cases hf:free≤i
  ·rw [Nat.sub_eq_zero_of_le hf]
   by_cases hh:bX p (c::r)=true
   ·obtain⟨k1,k2⟩:=key.mpr hh;rw [if_pos ⟨⟨⟨Nat.lt_succ_of_le (Nat.le_trans ha hle),hf⟩,by rw [hl]; exact k1⟩,k2⟩]
    have ih:=fK t p hp r (i+1) (i+p.length) (acc.push i) hr' hi2 (by rw [Array.size_push]; exact Nat.succ_le_succ ha)
    rw [Nat.add_sub_add_left] at ih;simp only [eK,hh,if_true,hl];refine Eq.trans ih ?_;simp
   ·rw [if_neg (fun h=>hh (key.mp ⟨by have:=h.1.2; rw [hl] at this; exact this,h.2⟩))]
    have ih:=fK t p hp r (i+1) free acc hr' hi2 (Nat.le_succ_of_le ha);rw [Nat.sub_eq_zero_of_le (Nat.le_succ_of_le hf)] at ih;simp only [eK,hh,Bool.false_eq_true,if_false];exact ih
  ·rw [if_neg (fun h=>hf h.1.1.2)]
   have ih:=fK t p hp r (i+1) free acc hr' hi2 (Nat.le_succ_of_le ha);obtain⟨k,hk⟩:=Nat.exists_eq_succ_of_ne_zero (Nat.sub_ne_zero_of_lt (Nat.lt_of_not_le hf));rw [Nat.sub_add_eq,hk] at ih;rw [hk];exact ih
theorem ti (t p:List Nat) (hp:p≠[]):occurrences ⟨t.toArray⟩ ⟨p.toArray⟩ 0 (⟨t.toArray⟩:Str).length ((⟨t.toArray⟩:Str).length+1)=eK p t 0 0:=by
 have hl:(⟨t.toArray⟩:Str).length=t.length:=by simp [Str.length]
 rw [occ_eq,hl];have:=fK t p hp t 0 0 #[] rfl (by simp) (by simp)
 simpa using this
theorem cM (p:List Nat):∀(r:List Nat) (i k:Nat),(eK p r i k).length=gH p r k
 |[],_,_=>by simp [eK,gH]
 |_::r,i,k+1=>by simp only [eK,gH]; exact cM p r _ _
 |c::r,i,0=>by
  simp only [eK,gH];split
  ·simp [cM p r]
  ·exact cM p r _ _
theorem tj (t p:List Nat) (hp:p≠[]):Txt.count ⟨t.toArray⟩ ⟨p.toArray⟩=(count p t:Nat):=by
 unfold Txt.count;rw [ti t p hp,cM]; rfl
theorem qb (p:List Nat):∀(t:List Nat),0<gH p t 0↔∃i,i<t.length∧bX p (t.drop i)=true
 |[]=>by simp [gH]
 |c::r=>by
  simp only [gH]
  by_cases hh:bX p (c::r)=true
  ·rw [if_pos hh];exact⟨fun _=>⟨0,by simp,hh⟩,fun _=>Nat.succ_pos _⟩
  ·rw [if_neg hh,qb p r];constructor
   ·rintro⟨i,h1,h2⟩; exact⟨i+1,by simpa using h1,h2⟩
   ·rintro⟨i,h1,h2⟩;cases i with
    |zero=>exact absurd h2 hh
    |succ i=>exact⟨i,by simpa using h1,h2⟩
theorem qO (t p:List Nat) (hp:p≠[]):(!(occurrences ⟨t.toArray⟩ ⟨p.toArray⟩ 0 (⟨t.toArray⟩:Str).length 1).isEmpty)=kf p t:=by
 rw [Bool.eq_iff_iff,found_iff];have hl:(⟨t.toArray⟩:Str).length=t.length:=by simp [Str.length]
 have hm:(⟨p.toArray⟩:Str).length=p.length:=by simp [Str.length]
 have h0:0<p.length:=List.length_pos_iff.mpr hp;have:kf p t=true↔0<gH p t 0:=⟨fun h=>Nat.le_of_ble_eq_true h,fun h=>Nat.ble_eq_true_of_le h⟩
 rw [this,qb,hl];constructor
 ·rintro⟨i,h1,h2⟩;have h1':=h1;rw [hm] at h1';exact⟨i,by omega,(oa rfl (by omega)).mp ⟨h1,h2⟩⟩
 ·rintro⟨i,h1,h2⟩;exact⟨i,(oa rfl (by omega)).mpr h2⟩
noncomputable def fL (q t:List Nat) (m:Nat):Nat→List Nat→List Nat
 |a,[]=>t.drop a
 |a,c::cs=>(t.drop a).take (c - a)++(q++fL q t m (c+m) cs)
theorem cN (sep:Str):∀(x:Str) (r:List Str),(Str.join sep (x::r)).cps.toList=x.cps.toList++(r.map fun y=>sep.cps.toList++y.cps.toList).flatten
 |x,[]=>by simp [Str.join]
 |x,y::r=>by
  have h:=cN sep y r;show ((x++sep++Str.join sep (y::r):Str)).cps.toList=_;have e:∀a b:Str,(a++b:Str).cps.toList=a.cps.toList++b.cps.toList:=fun a b=>by show (Str.append a b).cps.toList=_; simp [Str.append]
  rw [e,e,h];simp
theorem gD (q t:List Nat) (m:Nat):∀(cuts:List Nat) (a:Nat),
  (Str.join ⟨q.toArray⟩ ((((a::cuts.map (· + m)).zip (cuts++[t.length])).map fun(i,j)=>strSub ⟨t.toArray⟩ i j))).cps.toList=fL q t m a cuts
 |[],a=>by
  simp only [List.map_nil,List.nil_append,List.zip_cons_cons,List.zip_nil_left,List.map_cons,cN,List.map_nil,List.flatten_nil,List.append_nil,fL];simp [strSub,List.take_of_length_le]
 |c::cs,a=>by
  have ih:=gD q t m cs (c+m);simp only [List.map_cons,List.cons_append,List.zip_cons_cons,List.map_cons] at ih ⊢;cases cs with
  |nil=>
   simp only [List.map_nil,List.nil_append,List.zip_cons_cons,List.zip_nil_left,List.map_cons,List.map_nil,cN,List.flatten_cons,List.flatten_nil,List.append_nil,fL] at ih ⊢;simp [strSub,List.take_of_length_le,List.drop_take]
  |cons d ds=>
   simp only [List.map_cons,List.cons_append,List.zip_cons_cons,List.map_cons,cN,List.flatten_cons,fL] at ih ⊢;rw [←ih];simp [strSub,List.drop_take]
theorem dE (p q t:List Nat) (hp:p≠[]):∀(r:List Nat) (i k a:Nat),t.drop i=r→i+r.length=t.length→(k=0∧a≤i)∨a=i+k→fL q t p.length a (eK p r i k)=(t.take i).drop a++dc p q r k
 |[],i,k,a,hr,hi,ha=>by
  simp only [eK,fL,dc,List.append_nil];rw [List.take_of_length_le (i:=i) (Nat.le_of_eq hi.symm)]
 |c::r,i,k+1,a,hr,hi,ha=>by
  have hr':t.drop (i+1)=r:=by rw [←List.tail_drop,hr]; rfl
  simp only [eK,dc];have ha':a=i+(k+1):=ha.resolve_left fun h=>nomatch h.1
  rw [dE p q t hp r (i+1) k a hr' (kR hi) (.inr (ha'.trans (by rw [Nat.add_assoc,Nat.add_comm 1])))]
  rw [List.drop_of_length_le (Nat.le_trans (List.length_take_le _ _) (ha'▸Nat.add_le_add_left (Nat.succ_le_succ (Nat.zero_le k)) i)),List.drop_of_length_le (Nat.le_trans (List.length_take_le _ _) (ha'▸Nat.le_add_right _ _))]
 |c::r,i,0,a,hr,hi,ha=>by
  have hr':t.drop (i+1)=r:=by rw [←List.tail_drop,hr]; rfl
  have hi2:=kR hi;have h0:0<p.length:=List.length_pos_iff.mpr hp;have ha':a≤i:=ha.elim And.right Nat.le_of_eq;simp only [eK,dc];split
  ·simp only [fL];rw [dE p q t hp r (i+1) (p.length - 1) (i+p.length) hr' hi2 (.inr (by rw [Nat.add_assoc,Nat.add_sub_cancel' h0]))]
   rw [List.drop_of_length_le (l:=t.take (i+1)) (Nat.le_trans (List.length_take_le _ _) (Nat.add_le_add_left h0 i)),List.nil_append,List.drop_take]
  ·rw [dE p q t hp r (i+1) 0 a hr' hi2 (.inl ⟨rfl,Nat.le_succ_of_le ha'⟩)];have hc:t[i]? = some c:=by
    have:=List.getElem?_drop (xs:=t) (i:=i) (j:=0);rw [hr] at this; exact this.symm
   rw [List.take_add_one,hc,Option.toList_some,List.drop_append,List.append_assoc]
   congr 1
   rw [List.length_take_of_le (hi▸Nat.le_add_right _ _),Nat.sub_eq_zero_of_le ha']; rfl
theorem oe (t p q:List Nat) (hp:p≠[]):Txt.replace ⟨t.toArray⟩ ⟨p.toArray⟩ ⟨q.toArray⟩=⟨(replace p q t).toArray⟩:=by
 have h0:0<p.length:=List.length_pos_iff.mpr hp;have hm:(⟨p.toArray⟩:Str).length=p.length:=by simp [Str.length]
 have hl:(⟨t.toArray⟩:Str).length=t.length:=by simp [Str.length]
 have w:=dE p q t hp t 0 0 0 rfl (by simp) (.inl ⟨rfl,Nat.le_refl _⟩)
 simp only [List.take_zero,List.drop_nil,List.nil_append] at w;unfold Txt.replace;rw [ti t p hp,hm];have hz:(p.length==0)=false:=by simp; omega
 rw [hz,Bool.false_and,Bool.or_false];have e:∀{x:Str},x.cps.toList=replace p q t→x=⟨(replace p q t).toArray⟩:=fun {x} h=>by
  obtain⟨⟨l⟩⟩:=x;simp at h; rw [h]
 split
 ·rename_i h;apply e;simp only [List.isEmpty_iff] at h;rw [h] at w;simp only [fL,List.drop_zero] at w;exact w
 ·apply e;rw [glued_eq_join];unfold partsBetween;rw [hl];exact (gD q t p.length _ 0).trans w
theorem qP:∀c,c<128→Unicode.lowerOf c=[low c]:=by decide +kernel
theorem l3 (f:Nat→Nat→List Nat) (g:Nat→Nat) (s:List Nat) (h:∀i c,s[i]? = some c→f i c=[g c]):placed ⟨s.toArray⟩ f=(s.map g).toArray:=by
 unfold placed;have:(s.toArray.mapIdx fun i c=>(f i c).toArray)=(s.map fun c=>#[g c]).toArray:=by
  apply Array.ext';simp;apply List.ext_getElem?;intro i;simp only [List.getElem?_mapIdx,List.getElem?_map];cases hc:s[i]? with
  |none=>rfl
  |some c=>simp [h i c hc]
 show (s.toArray.mapIdx fun i c=>(f i c).toArray).flatten=_
 rw [this];apply Array.ext';clear h this;simp only [Array.toList_flatten]
 induction s with
 |nil=>rfl
 |cons a r ih=>simpa using ih
theorem l4 (s:List Nat) (h:bH s=true):Txt.lower ⟨s.toArray⟩=⟨(s.map low).toArray⟩:=by
 unfold Txt.lower;rw [l3 _ low];intro i c hc;have hc':c<128:=Nat.le_of_ble_eq_true (List.all_eq_true.mp h c (List.mem_of_getElem? hc));unfold Unicode.lowerAt;have:s.toArray[i]? = some c:=by simpa using hc
 rw [this];dsimp only;have hne:(c==0x3A3)=false:=by simp; omega
 rw [hne,Bool.false_and,if_neg Bool.false_ne_true];exact qP c hc'
end Mini
set_option maxRecDepth 100000
set_option autoImplicit false
namespace Mini
open PySem PySem.W PyProof.Rows
section
variable {T:TS}{W:Wd}{pr:Kn}{env:Env}{ρ:P}{σ σ':H}{s s':Shared}{A:Around}{E:Value→Shared→Prop}{n:Nat}{K:V→H→Ws→Prop}{Q:Value→Shared→Prop}{ws:Ws}
theorem qc (S:St T W pr env ρ σ s):St T W pr env ρ σ { s with toks:=s.toks+1+1 }:=S.tok.tok
theorem ib {n:Nat}(h:n<af):(n:Int)<2 ^ 63:=by have:af=2 ^ 20:=rfl; omega
theorem tm (S:St T W pr env ρ σ s):W.tk≤s.toks+1+1:=Nat.le_succ_of_le (AL S)
theorem bV {x:List Nat}:(⟨x.toArray⟩:Str).length=x.length:=List.size_toArray
theorem fM {v:V}{v':Value}{b:Bool}{Q:Bool→Shared→Prop}(S:St T W pr env ρ σ s) (h:VR T.P W v v') (e:Tr σ v b) (q:∀s',St T W pr env ρ σ s'→Q b s'):wpAny T.M A (truthy v') Q E s:=by
 cases e with
 |none=>exact h.n (truthy_none (q _ S))
 |bool=>exact h.b (wpAny_truthy_bool (q _ S))
 |int e=>exact h.i fun t=>PySem.P.truthy_int (by subst e; exact q _ S)
 |@str x _ hz e=>
  refine h.s fun t=>PySem.P.truthy_str (by rw [bV]; exact Int.not_le.mpr (ib hz)) ?_
  have:((((⟨x.toArray⟩:Str).length:Nat):Int) != 0)=b:=by rw [bV,←e]; cases x <;> simp <;> omega
  rw [this];exact q _ (qc S)
 |@list _ xs _ e hz e2=>
  refine S.r.lst h e fun l ys ep h1 h2 h3=>wpAny_truthy_list (ao h1) (by rw [List.size_toArray,←h3]; exact ib hz) ?_
  have:(!ys.toArray.isEmpty)=b:=by rw [←e2]; cases xs <;> cases ys <;> simp_all
  rw [this]; exact q _ (qc S)
theorem l6 {x y:String}:(Value.type x==Value.type y)=(x==y):=by
 rw [Bool.eq_iff_iff,beq_iff_eq,beq_iff_eq];exact⟨fun h=>by injection h,fun h=>h▸rfl⟩
theorem aB.are:∀{ns:List Int}{ys:List Value},aB T.P W (ns.map .int) ys→IntsAre ys ns
 |[],_,h=>h.nl .nil
 |i::ns,_,h=>h.cs fun y r h1 h2=>h1.i fun t=>.cons _ _ (aB.are h2)
theorem v9 {a:V}{a':Value}(h:ry a) (ha:VR T.P W a a'):PySem.plainIs a' .none=true∧a'≠.none:=by
 induction h with
 |str=>exact ha.s fun _=>⟨rfl,nofun⟩
 |list=>exact ha.l fun _ _ _ _ _=>⟨rfl,nofun⟩
 |ref=>exact ha.r fun _ _=>⟨rfl,nofun⟩
theorem qd {op:CmpOp}{a b:V}{a' b':Value}{r:Bool}{Q:Value→Shared→Prop}(S:St T W pr env ρ σ s) (r2:an A n) (h:Cm σ op a b r) (ha:VR T.P W a a') (hb:VR T.P W b b') (q:Q (.bool r) s):wpAny T.M A (compareOp op a' b') Q E s:=by
 have hu:A.units+100<cLine:=Nat.lt_of_le_of_lt (Nat.le_add_right _ (40*n)) (show A.units+100+40*n<9900 by have:=r2.units; omega)
 have hu0:A.units<cLine:=Nat.lt_of_le_of_lt (Nat.le_add_right _ _) hu;have hu1:A.in1.units<cLine:=Nat.lt_of_le_of_lt (n8) hu;have hu2:A.in1.in1.units<cLine:=by have:=n8 (A:=A); have:=n8 (A:=A.in1); have:=r2.units; unfold cLine at *; omega
 induction h with
 |eqI h=>exact ha.i fun _=>hb.i fun _=>PyProof.Rows.eq_int (h▸q)
 |neI h=>exact ha.i fun _=>hb.i fun _=>PyProof.Rows.ne_int (h▸q)
 |eqS h=>exact ha.s fun _=>hb.s fun _=>PyProof.Rows.eq_str (by rw [←gZ]; exact h▸q)
 |neS h=>exact ha.s fun _=>hb.s fun _=>PyProof.Rows.ne_str (by subst h; rw [bne,←gZ]; exact q)
 |neT h=>exact let ⟨_,f,g,k⟩:=n9 h; ha.t fun _ _ e h1=>hb.t fun _ _ e' h2=>kQ (.tuple (S.r.fzIn _ _ e) rfl rfl (k h1)) (.tuple (S.r.fzIn _ _ e') rfl rfl (k h2)) f (Nat.le_succ_of_le (Nat.le_of_eq (congrArg (· + 1) g))) (Nat.lt_of_le_of_lt (Nat.add_le_add_left (by decide) _) hu) q
 |@eqT2 x y u v b h=>
  obtain⟨l,p,p',rfl,e,a1,a2⟩:=g0 ha;obtain⟨m,r,r',rfl,e',b1,b2⟩:=g0 hb;obtain⟨t1,rfl⟩:=a1;obtain⟨t2,rfl⟩:=a2;obtain⟨u1,rfl⟩:=b1;obtain⟨u2,rfl⟩:=b2;refine yW (.tuple (S.r.fzIn _ _ e) rfl rfl (.cons (.int x t1) (.cons (.int y t2) .nil))) (.tuple (S.r.fzIn _ _ e') rfl rfl (.cons (.int u u1) (.cons (.int v u2) .nil))) rfl rfl (show 1≤2 from by decide) (Nat.lt_of_le_of_lt (Nat.add_le_add_left (by decide) _) hu) ?_
  have h:PyData.eqv (.tuple [.int x,.int y]) (.tuple [.int u,.int v])=b:=by show (x==u&&(y==v&&true))=b; rw [Bool.and_true]; exact h
  rw [h];exact q
 |neB h=>exact ha.b (hb.b (PyProof.Rows.ne_bool (h▸q)))
 |gt h=>exact ha.i fun _=>hb.i fun _=>PyProof.Rows.gt_int (h▸q)
 |lt h=>exact ha.i fun _=>hb.i fun _=>PyProof.Rows.lt_int (h▸q)
 |le h=>exact ha.i fun _=>hb.i fun _=>PyProof.Rows.le_int (h▸q)
 |noN0=>exact ha.n (hb.n (wpAny_isNot_self rfl q))
 |noN h=>exact let ⟨p,e⟩:=v9 h ha; hb.n (wpAny_isNot_other p e q)
 |isT h=>exact ha.u (hb.u (wpAny_is_plain rfl (by rw [l6,h]; exact q)))
 |noT h=>exact ha.u (hb.u (wpAny_isNot_plain rfl (by rw [l6,h,Bool.not_not]; exact q)))
 |inn hx h=>exact ha.s fun _=>hb.s fun _=>PyProof.Rows.in_str (by rw [qO _ _ hx,h]; exact q)
 |eqIs h1 h2 h=>exact S.r.lst ha h1 fun _ _ _ e1 e2 _=>S.r.lst hb h2 fun _ _ _ f1 f2 _=>ke_eq_ints (ao e1) (ao f1) (aB.are e2) (aB.are f2) (Nat.lt_of_le_of_lt (Nat.add_le_add_left (by decide) _) hu) (h▸q)
 |neIs h1 h2 h=>exact S.r.lst ha h1 fun _ _ _ e1 e2 _=>S.r.lst hb h2 fun _ _ _ f1 f2 _=>ke_ne_ints (ao e1) (ao f1) (aB.are e2) (aB.are f2) (Nat.lt_of_le_of_lt (Nat.add_le_add_left (by decide) _) hu) (h▸q)
 |neTs h1 h2 h=>exact let ⟨_,f,g,k⟩:=yU S.r h; S.r.lst ha h1 fun _ _ _ e1 e2 _=>S.r.lst hb h2 fun _ _ _ f1 f2 _=>kQ (.list e1 rfl rfl (k e2)) (.list f1 rfl rfl (k f2)) f (Nat.succ_le_succ g) (Nat.lt_of_le_of_lt (Nat.add_le_add_left (by decide) _) hu) q
 |neSc h1 h2 h=>exact let ⟨_,f,g,k⟩:=n9 h; S.r.lst ha h1 fun _ _ _ e1 e2 _=>S.r.lst hb h2 fun _ _ _ f1 f2 _=>kQ (.list e1 rfl rfl (k e2)) (.list f1 rfl rfl (k f2)) f (Nat.le_succ_of_le (Nat.le_of_eq (congrArg (· + 1) g))) (Nat.lt_of_le_of_lt (Nat.add_le_add_left (by decide) _) hu) q
 |neTDs h1 h2 h=>exact S.r.lst ha h1 fun _ _ _ e1 e2 _=>S.r.lst hb h2 fun _ _ _ f1 f2 _=>let ⟨g,k⟩:=yV S.r hu1 hu2 h e2 f2; nY e1 f1 hu0 g k q
theorem gl {m j:Nat}{k:Int}(h:aE m k=some j):seqIndex? k m=some j∧(-(2 ^ 62:Int)<k∧k<2 ^ 62)∧(0≤k∧k.toNat=j∨k<0∧-(m:Int)≤k∧(k+m).toNat=j):=by
 unfold aE at h;have big:af=2 ^ 20:=rfl;cases hb:Nat.blt m af with
 |false=>rw [hb] at h; cases h
 |true=>
  have hm:m<af:=Nat.le_of_ble_eq_true hb;rw [hb] at h;unfold seqIndex?
  by_cases h0:0≤k
  ·have h0':¬k<0:=by omega
   simp only [h0,h0',if_true,if_false] at h ⊢
   by_cases h1:k.toNat<m
   ·simp only [h1,Bool.not_true,Bool.false_eq_true,if_true,if_false,Option.some.injEq] at h;refine⟨?_,by omega,.inl ⟨trivial,h⟩⟩
    rw [if_pos (by simp; omega)]; exact congrArg some h
   ·simp [h1] at h
  ·have h0':k<0:=by omega
   simp only [h0,h0',if_true,if_false] at h ⊢
   by_cases h1:0≤k+m
   ·simp only [h1,Bool.not_true,Bool.false_eq_true,if_true,if_false,Option.some.injEq] at h;refine⟨?_,by omega,.inr ⟨trivial,by omega,h⟩⟩
    rw [if_pos (by simp; omega)]; exact congrArg some h
   ·simp [h1] at h
noncomputable def kT (T:TS) (A:Around) (E:Value→Shared→Prop) (s:Shared) (o i:Value) (Q:Value→Shared→Prop):Prop:=
 ∃t id,typeLookup (.type t) "__getitem__" = pure (some (.builtin id))∧s.TypeIs o t∧wpAny T.M A (PySem.getItem o i) Q E s
theorem yX {o i v:V}{o' i':Value}(S:St T W pr env ρ σ s) (h:bx σ o i v) (ho:VR T.P W o o') (hi:VR T.P W i i') (k:K v σ ws) (q:GE T W pr env ρ K Q):kT T A E s o' i' Q:=by
 induction h with
 |str h h'=>
  obtain⟨h1,h2,h3⟩:=gl h;exact ho.s fun t=>hi.i fun u=>⟨"str",_,F.slot_str_getitem.lookup,typeIs_str _ _ _,PySem.P.getItem_str (by simp; omega) (by rw [bV,h1]; simpa using h') (q.str1 S rfl k)⟩
 |tup h h'=>
  obtain⟨h1,h2,h3⟩:=gl h;refine ho.t fun a ys h4 h5=>hi.i fun u=>?_
  obtain⟨y,h6,h7⟩:=h5.get h';have h4':=S.r.fzIn _ _ h4;exact⟨"tuple",_,F.slot_tuple_getitem.lookup,⟨_,h4',rfl⟩,getItem_tuple (items:=ys.toArray) ⟨_,h4',rfl,0,rfl⟩ (by omega) (by omega) (by rw [List.size_toArray,←h5.length]; exact h1) (by simpa using h6) (q.here S h7 k)⟩
 |@dict es ks _ h=>
  refine S.r.dct ho .val fun l ds ep h1 h2 h3 h4=>hi.s fun u=>?_
  obtain⟨y,h5,h6⟩:=h2.some' h;exact⟨"dict",_,F.slot_dict_getitem.lookup,⟨_,h1,rfl⟩,wpAny_getItem_of (knd:=kS T) (k:=mk ks) (strKind_is _ _ _ _) (h2.dictOf h3 h1).mapOf h5 (q _ _ _ _ _ _ (.refl W) h6 S.tok k)⟩
 |list h hp h'=>
  refine hi.i fun u=>S.r.lst ho h fun l ys ep h4 h5 h6=>⟨"list",_,F.slot_list_getitem.lookup,⟨_,h4,rfl⟩,?_⟩
  obtain⟨h1,h2,h3⟩:=gl hp;obtain⟨y,h6',h7⟩:=h5.get h';rcases h3 with ⟨h0,h3⟩ | ⟨h0,h3,h8⟩
  ·exact wpAny_getItem_list (ao h4) h0 (by omega) (by rw [h3]; simpa using h6') (q.here S h7 k)
  ·exact wpAny_getItem_list_neg (ao h4) h0 (by rw [List.size_toArray,←h6]; exact h3) (by omega) (by rw [List.size_toArray,←h6,h8]; simpa using h6') (q.here S h7 k)
theorem hA (m:Nat) (lo:Option Int) (d:Nat):(match lo with | none=>(d:Int) | some i=>max 0 (min (if i<0 then i+m else i) (m:Int)))=((aL m lo d:Nat):Int):=by
 cases lo with
 |none=>rfl
 |some i=>exact (Int.toNat_of_nonneg (Int.le_max_left _ _)).symm
theorem jf (items:Array Value) (lo hi:Option Int):slicePick items lo hi none=(a9 items.toList lo hi).toArray:=by
 have e:sliceBounds lo hi none items.size=(((aL items.size lo 0:Nat):Int),((aL items.size hi items.size:Nat):Int),1):=by
  rw [←hA,←hA];simp only [sliceBounds,Option.getD_none];simp only [show (1:Int) > 0 by decide,if_true]
  cases lo <;> cases hi <;> rfl
 unfold slicePick;rw [e];simp only [sliceRange_one,pick_run];simp only [a9,Array.length_toList]
theorem tn (x:List Nat) (lo hi:Option Int):Builtin.Str.strSliceIndices lo hi 1 x.length=sliceRange (aL x.length lo 0:Nat) (aL x.length hi x.length:Nat) 1:=by
 rw [←hA,←hA];simp only [Builtin.Str.strSliceIndices];simp only [show (1:Int) > 0 by decide,if_true]
 cases lo <;> cases hi <;> rfl
theorem kU (x:List Nat) (lo hi:Option Int):(Builtin.Str.strSliceIndices lo hi 1 x.length).filterMap (x.toArray[·]?)=a9 x lo hi:=by
 rw [tn,sliceRange_one,pick_run];rfl
theorem og (m:Nat) (lo:Option Int) (d:Nat) (hd:d≤m):aL m lo d≤m:=by
 cases lo with
 |none=>exact hd
 |some i=>exact Int.toNat_le.mpr (Int.max_le.mpr ⟨Int.natCast_nonneg _,Int.min_le_right _ _⟩)
theorem tu {x:List Nat}{lo hi:Option Int}(h:(Builtin.Str.strSliceIndices lo hi 1 x.length).length=x.length):a9 x lo hi=x:=by
 rw [tn,sliceRange_one,List.length_map,List.length_range] at h;have h1:=og x.length hi x.length (Nat.le_refl _);unfold a9;rcases x with _ | ⟨c,x⟩
 ·simp
 ·have h2:aL (c::x).length lo 0=0:=by simp only [List.length_cons] at *; omega
  rw [h2] at h ⊢;exact List.take_of_length_le (Nat.le_of_eq h.symm)
theorem qe (x:Option (Int×Tok)):IsPart (partValue x) (x.map (·.1)):=by
 cases x with
 |none=>exact .none
 |some p=>exact .int p.1 p.2
noncomputable abbrev BQ (lo hi:Option (Int×Tok)):Obj:={ cls:=.type "slice",data:=.fields #[partValue lo,partValue hi,.none] }
theorem yY {o v:V}{o':Value}{lo hi:Option (Int×Tok)}{bh:Bool}(S:St T W pr env ρ σ s') (h:aW σ o (lo.map (·.1)) (hi.map (·.1)) v) (ho:VR T.P W o o') (hs:s={ s' with heap:=s'.heap.push (BQ lo hi) }) (k:K (kg bh v σ).1 (kg bh v σ).2 ws) (q:GE T W pr env ρ K Q) :
  kT T A E s o' (.ref s'.heap.objs.size) Q:=by
 have S1:St T W pr env ρ σ s:=hs▸S.grow (be.push s' _);have hg:s.heap.get? s'.heap.objs.size=some (BQ lo hi):=hs▸Heap.get?_push_size _ rfl;cases h with
 |@str x _ _ hz=>
  refine ho.s fun t=>⟨"str",_,F.slot_str_getitem.lookup,typeIs_str _ _ _,wpAny_with_toks S1.r.tk.2 (wpAny_getItem_str_slice (l:=lo) (u:=hi) (st:=none) ⟨_,hg,rfl,rfl⟩ rfl ?_)⟩
  unfold sliceMade slicePicked;rw [bV];refine post_val_or_made (fun _=>?_) (fun t' m hk=>q.str S1 hk ?_ k)
  ·show (List.filterMap _ _).toArray.size≤sizeLine;rw [List.size_toArray];exact Nat.le_trans (List.length_filterMap_le _ _) (Nat.le_trans (sliceIndices_le _ _ x.length) (Nat.le_trans (Nat.le_of_lt hz) (by decide)))
  ·split
   ·rename_i h;simp only [Option.map_none,Option.getD_none,beq_self_eq_true,Bool.true_and,beq_iff_eq] at h;rw [tu h]
   ·exact congrArg (fun l=>Str.mk (List.toArray l)) (kU x _ _)
 |list h hz=>
  refine S1.r.lst ho h fun l ys ep h4 h5 h6=>⟨"list",_,F.slot_list_getitem.lookup,⟨_,h4,rfl⟩,wpAny_getItem_list_slice (st:=none) (ao h4) ⟨_,hg,rfl,rfl⟩ (qe lo) (qe hi) .none (by simp) ?_ (dj h6 hz)⟩
  rw [jf];exact q.list S1 (by unfold a9; rw [h6]; exact (h5.drop _).take _) k
theorem aB.ints:∀{ns:List Int}{ys:List Value},aB T.P W (ns.map .int) ys→∃ps:List (Int×Tok),ys=ps.map (fun p=>.int p.1 p.2)∧ps.map (·.1)=ns
 |[],_,h=>h.nl ⟨[],rfl,rfl⟩
 |i::ns,_,h=>h.cs fun y r h1 h2=>h1.i fun t=>let ⟨ps,e1,e2⟩:=aB.ints h2; ⟨(i,t)::ps,congrArg (_ :: ·) e1,congrArg (i :: ·) e2⟩
theorem aB.intList {l:Addr}{ys:List Value}{ep:Nat}{ns:List Int}(h:aB T.P W (ns.map .int) ys) (hl:s.heap.get? l=some (ak ys ep)):∃ps:List (Int×Tok),s.heap.IsList l (intItems ps.toArray)∧ps.map (·.1)=ns:=by
 obtain⟨ps,rfl,e2⟩:=h.ints;have:=ao hl;rw [show (ps.map fun p=>Value.int p.1 p.2).toArray=intItems ps.toArray by simp [intItems]] at this
 exact⟨ps,this,e2⟩
theorem eN:∀(cs:List Nat) (a n:Nat),bi cs a=some n→PySem.NumText.AllDigits cs∧cs.foldl (fun acc c=>acc*10+(c - 48)) a=n
 |[],a,n,h=>⟨fun _ hc=>(nomatch hc),Option.some.inj h⟩
 |c::r,a,n,h=>by
  unfold bi at h;cases h1:Nat.ble 48 c with
  |false=>rw [h1] at h; cases h
  |true=>
   cases h2:Nat.ble c 57 with
   |false=>rw [h1,h2] at h; cases h
   |true=>
    rw [h1,h2] at h;obtain⟨h3,h4⟩:=eN r _ n h;exact⟨List.forall_mem_cons.mpr ⟨⟨Nat.le_of_ble_eq_true h1,Nat.le_of_ble_eq_true h2⟩,h3⟩,h4⟩
theorem yZ {ps:List (Int×Tok)}{r:Int}(h0:0<ps.length) (hm:r∈ps.map (·.1)) (hl:∀b∈ps.map (·.1),b≤r) :
  numAt ps.toArray (argBest (fun i j=>decide (numAt ps.toArray i > numAt ps.toArray j)) (ps.toArray.size - 1))=r:=by
 obtain⟨b1,b2⟩:=argBest_gt (numAt ps.toArray) (ps.toArray.size - 1);have at_:∀j (hj:j<ps.length),numAt ps.toArray j=ps[j].1:=fun j hj=>by simp [numAt,hj]
 rw [List.size_toArray] at b1 b2 ⊢;have hb:=Nat.lt_of_le_of_lt b1 (Nat.sub_lt h0 (by decide))
 refine Int.le_antisymm (by rw [at_ _ hb]; exact hl _ (List.mem_map.mpr ⟨_,List.getElem_mem hb,rfl⟩)) ?_
 obtain⟨p,hp,rfl⟩:=List.mem_map.mp hm;obtain⟨j,hj,rfl⟩:=List.mem_iff_getElem.mp hp;exact at_ j hj▸b2 j (Nat.le_sub_one_of_lt hj)
theorem y0 {i:Int}(h:i.natAbs<2 ^ 1000):i.natAbs.log2<1920:=by
 by_cases h0:i.natAbs=0
 ·rw [h0]; decide +kernel
 ·exact Nat.lt_of_lt_of_le ((Nat.log2_lt h0).mpr h) (by decide)
theorem y3 {f:Value}{args:List V}{args':List Value}{v:V}(S:St T W pr env ρ σ s) (r2:an A n) (h:ay σ f args v) (ha:aB T.P W args args') (k:K v σ ws) (q:GE T W pr env ρ K Q):wpAny T.M A (call f args') Q E s:=by
 induction h with
 |lenS hz=>exact ha.one fun y h=>h.s fun t=>PySem.P.len_str (by rw [bV]; exact Int.not_le.mpr (ib hz)) (by rw [bV]; exact q.intG S (fun _ _ e=>e) (tm S) k)
 |lenL h hz=>exact ha.one fun y h1=>S.r.lst h1 h fun l ys ep h4 h5 h6=>Calls.call_len_list (ao h4) (by rw [List.size_toArray,←h6]; exact ib hz) (by rw [List.size_toArray,←h6]; exact q.intG S (fun _ _ e=>e) (tm S) k)
 |@sum _ ns h=>
  refine ha.one fun y h1=>S.r.lst h1 h fun l ys ep h4 h5 h6=>?_
  obtain⟨ps,h7,h8⟩:=h5.intList h4;refine wpAny_with_toks S.r.tk.2 (sum_intListG r2.handled h7 fun h' tk t' hk htk=>?_)
  rw [show preSum (numAt ps.toArray) ps.toArray.size=ns.sum by rw [preSum_eq,List.take_of_length_le (by simp),h8]]
  exact q.intG S hk htk k
 |max=>exact ha.two fun y z h1 h2=>h1.i fun t=>h2.i fun u=>wpAny_with_toks S.r.tk.2 (max_two_ints r2.handled fun h' tk hk htk=>by
   split
   ·rename_i hc; rw [if_pos hc] at k; exact q.intG S hk htk k
   ·rename_i hc; rw [if_neg hc] at k; exact q.intG S hk htk k)
 |maxL h hm hl=>
  refine ha.one fun y h1=>S.r.lst h1 h fun l ys ep h4 h5 h6=>?_
  obtain⟨ps,h7,h8⟩:=h5.intList h4;have h0:0<ps.length:=by rw [←List.length_map (f:=(·.1)),h8]; exact Nat.succ_pos _
  refine wpAny_with_toks S.r.tk.2 (max_intList r2.handled h7 (by rw [List.size_toArray]; exact h0) fun v h' tk hv hk htk=>?_)
  obtain⟨t,rfl⟩:=intItems_at hv;rw [yZ h0 (h8▸hm) (h8▸hl)];exact q.intG S hk htk k
 |min=>exact ha.two fun y z h1 h2=>h1.i fun t=>h2.i fun u=>wpAny_with_toks S.r.tk.2 (min_two_ints r2.handled fun h' tk hk htk=>by
   split
   ·rename_i hc; rw [if_pos hc] at k; exact q.intG S hk htk k
   ·rename_i hc; rw [if_neg hc] at k; exact q.intG S hk htk k)
 |@divmod a b hb hok=>exact ha.two fun y z h1 h2=>h1.i fun t=>h2.i fun u=>divmod_int hb (by
   have g:be s { s with toks:=s.toks+1+1,heap:=s.heap.push (fE [.int (a.fdiv b) s.toks,.int (a.fmod b) (s.toks+1)]) }:=
    ⟨fun _ _ e=>Heap.get?_push_of_some _ e,rfl,rfl,Nat.le_add_right _ 2⟩
   obtain⟨S',L⟩:=S.freeze g (az _) (Heap.get?_push_size _ rfl);exact q _ _ _ _ _ _ L (.mkT (Wd.add_at _ _ _) (.cons .mkI (.cons .mkI .nil))) S' k) (.inl (jE hok))
 |str hz=>exact ha.one fun y h=>h.i fun t=>PySem.P.str_of_int (y0 hz) (q.str1 S rfl k)
 |@int x m hz h0 h1=>
  refine ha.one fun y h=>h.s fun t=>KIN.call_text (n:=(m:Int)) ?_ (by rw [bV]; omega) (q.int S k)
  obtain⟨h2,h3⟩:=eN x 0 m h1;rw [PySem.intText_digits (by simpa using h2) (by simpa using h0) (by rw [bV]; omega)]
  simp only [PySem.NumText.digitsVal,h3]
 |typS=>exact ha.one fun y h=>h.s fun t=>call_type_of (typeIs_str _ _ _) (by decide) (q.here S .mkU k)
 |typL h=>exact ha.one fun y h1=>S.r.lst h1 h fun l ys ep h4 _ _=>call_type_of (Tx:= "list") ⟨_,h4,rfl⟩ (by decide) (q.here S .mkU k)
theorem l7 {sep:List Nat}:∀{ts:List (List Nat)},(Str.join ⟨sep.toArray⟩ (ts.map fun t=>(⟨t.toArray⟩:Str)))=⟨(fg sep ts).toArray⟩∧(ts.map (·.length)).sum+ts.length*sep.length≤(fg sep ts).length+sep.length
 |[]=>⟨rfl,by simp⟩
 |[s]=>⟨rfl,by simp [fg]⟩
 |s::y::r=>by
  obtain⟨h3,h4⟩:=l7 (sep:=sep) (ts:=y::r);refine⟨?_,?_⟩
  ·show (⟨s.toArray⟩:Str)++⟨sep.toArray⟩++Str.join ⟨sep.toArray⟩ ((y::r).map fun t=>(⟨t.toArray⟩:Str))=_
   rw [h3,gY,gY,List.append_assoc]; rfl
  ·show s.length+((y::r).map (·.length)).sum+((y::r).length+1)*sep.length≤(s++(sep++fg sep (y::r))).length+sep.length;rw [List.length_append,List.length_append,Nat.add_mul];omega
theorem aB.strs:∀{ts:List (List Nat)}{ys:List Value},aB T.P W (ts.map .str) ys→∃ps:List (Str×Tok),ys=strValues ps∧ps.map (·.1)=ts.map fun t=>(⟨t.toArray⟩:Str)
 |[],_,h=>h.nl ⟨[],rfl,rfl⟩
 |i::ns,_,h=>h.cs fun y r h1 h2=>h1.s fun t=>let ⟨ps,e1,e2⟩:=aB.strs h2; ⟨(_,t)::ps,congrArg (_ :: ·) e1,congrArg (_ :: ·) e2⟩
theorem cA (S:St T W pr env ρ σ s) {i:Nat}{l:Addr}{us:List V}{ys:List Value}{ep:Nat}{h':Heap}(hi:W.phi[i]? = some l) (hs:Heap.SameBut l s.heap h') (e:h'.get? l=some (ak ys ep)) (h:aB T.P W us ys) :
  St T W pr env ρ (σ.set i (.list us)) { s with heap:=h' }:=S.store hi hs e ⟨ys,ep,rfl,h⟩ rfl rfl (Nat.le_refl _)
@[elab_as_elim] theorem aI.held {M:Value→Prop}(R:aI T W pr σ s) {i:Nat}{xs:List V}{v:Value}(h:VR T.P W (.ref i) v) (e:σ[i]? = some (.list xs)) (k:∀l ys ep,W.phi[i]? = some l→s.heap.get? l=some (ak ys ep)→aB T.P W xs ys→xs.length=ys.length→M (.ref l)):M v:=
 h.r fun l h1=>let ⟨_,h2,ys,ep,e',h4⟩:=R.objs _ _ _ e h1; k l ys ep h1 (e'▸h2) h4 h4.length
theorem l8 (S:St T W pr env ρ σ s) {i:Nat}{xs:List V}{u:V}{v v':Value}(h:VR T.P W (.ref i) v) (h':VR T.P W u v') (e:σ[i]? = some (.list xs)) (hz:xs.length<af) (k:K .none (σ.set i (.list (xs++[u]))) ws) (q:GE T W pr env ρ K Q):wpAny T.M A (call (.builtin "list.append") [v,v']) Q E s:=
 S.r.held h e fun l ys ep h1 h2 h4 h5=>append_at (D:=l) (its:=ys.toArray) (n:=ep) h2 (fun h' hs hg=>q W _ _ _ _ _ (.refl W) .mkN (cA S (ep:=ep+1) (ys:=ys++[v']) h1 hs (by rw [hg]; simp [ak]) (.append (.cons ‹_› .nil) h4)) k) (by rw [List.size_toArray]; exact dj h5 hz)
theorem tv {x:List Nat}(h:x.length<af):Builtin.Str.tooLong (⟨x.toArray⟩:Str).length=false:=by
 rw [bV]; exact decide_eq_false (Nat.not_lt.mpr (Nat.le_trans (Nat.le_of_lt h) (by decide)))
theorem wa {id:String}{self v:V}{args:List V}{self':Value}{args':List Value}(S:St T W pr env ρ σ s) (h:aF σ id self args v σ') (h0:VR T.P W self self') (ha:aB T.P W args args') (k:K v σ' ws) (q:GE T W pr env ρ K Q):wpAny T.M A (call (.builtin id) (self'::args')) Q E s:=by
 induction h with
 |count hp=>exact ha.one fun y h=>h0.s fun t=>h.ts fun u _ _=>PySem.SC.count (by rw [tj _ _ hp]; exact q.int S k)
 |lower h hz=>exact ha.nl (h0.s fun t=>PySem.SC.lower (by rw [l4 _ h]; exact tv (by rw [List.length_map]; exact hz)) (by rw [l4 _ h]; exact q.str1 S rfl k))
 |@join sep _ ts h hz hs=>
  refine ha.one fun y h1=>h0.s fun u=>S.r.lst h1 h fun l ys ep h4 h5 h6=>?_
  obtain⟨h7,h8⟩:=l7 (sep:=sep) (ts:=ts);obtain⟨ps,rfl,h9⟩:=h5.strs;refine wpAny_with_toks S.r.tk.2 (PySem.SC.join (D:=l) (l:=ps) (texts:=ts.map fun t=>(⟨t.toArray⟩:Str)) (ao h4) h9 ?_ (fun t' m hk=>q.str S hk (by show Builtin.Str.glued _ _=_; rw [StrLaws.glued_eq_join]; exact h7) k))
  unfold JoinOk;rw [StrLaws.joinTotal,show ((ts.map fun t=>(⟨t.toArray⟩:Str)).map (·.length))=ts.map (·.length) by simp [Str.length],List.length_map,bV]
  have big:af=2 ^ 20:=rfl;unfold Builtin.Str.tooLong sizeLine;simp only [Bool.not_eq_true',decide_eq_false_iff_not];omega
 |bits=>exact ha.nl (h0.i fun t=>call_int_bit_length (q.int S k))
 |append e hz=>exact ha.one fun y h=>l8 S h0 h e hz k q
 |reverse e hz=>
  refine ha.nl (S.r.held h0 e fun l ys ep h1 h2 h4 h5=>?_)
  refine call_meets PySem.F.slot_list_reverse ⟨_,h2,rfl⟩ PySem.F.entry_list_reverse (PySem.F.args_list_reverse_1 _) (AutoSeq1.list_reverse_list_0 l ys.toArray ep (by rw [List.size_toArray]; exact dj h5 hz))
   ⟨h2,(q W _ _ _ _ _ (.refl W) .mkN (cA S (ys:=ys.reverse) (ep:=ep) h1 (Heap.SameBut.update ..) ?_ h4.reverse) k)⟩
  rw [Heap.get?_update_self _ h2 (by simp [Obj.mapSeq,Obj.isFreed])]
  simp [Obj.mapSeq,ak]
theorem qg {l:Addr}{ys:List Value}{ep:Nat}{name:Str}{id:String}{pl:Sem Bool}{Q:Value×List Value→Shared→Prop}(slot:PySem.Slot "list" name id) (ty:typeOf (.builtin id)=pure (.type "method_descriptor"))
  (h:s.heap.get? l=some (ak ys ep)) (q:Q (.builtin id,[.ref l]) s):wpAny T.M A (getMethod (.ref l) name pl) Q E s:=getMethod_builtin ⟨_,h,rfl⟩ F.plainAttrs_list slot ty (fun a e=>by cases e; exact⟨_,h,rfl⟩) q
theorem oh {x:Str}{t:Tok}{name:Str}{id:String}{pl:Sem Bool}{Q:Value×List Value→Shared→Prop}(slot:PySem.Slot "str" name id) (ty:typeOf (.builtin id)=pure (.type "method_descriptor")) (q:Q (.builtin id,[.str x t]) s) :
  wpAny T.M A (getMethod (.str x t) name pl) Q E s:=getMethod_builtin (typeIs_str _ _ _) F.plainAttrs_str slot ty (fun _ e=>nomatch e) q
theorem y4 {self:V}{self':Value}{name:Str}{id:String}{pl:Sem Bool}{Q:Value×List Value→Shared→Prop}(R:aI T W pr σ s) (e:dN σ self name id) (h:VR T.P W self self') (q:Q (.builtin id,[self']) s):wpAny T.M A (getMethod self' name pl) Q E s:=by
 induction e with
 |count=>revert q; refine h.s fun t q=>?_; with_reducible exact oh F.slot_str_count F.type_str_count q
 |lower=>revert q; refine h.s fun t q=>?_; with_reducible exact oh F.slot_str_lower F.type_str_lower q
 |join=>revert q; refine h.s fun t q=>?_; with_reducible exact oh F.slot_str_join F.type_str_join q
 |bits=>revert q; refine h.i fun t q=>?_; with_reducible exact getMethod_builtin (typeIs_int _ _ _) F.plainAttrs_int F.slot_int_bit_length F.type_int_bit_length (fun _ e=>nomatch e) q
 |append e=>revert q; refine R.lst h e fun l ys ep h4 _ _ q=>?_; with_reducible exact qg F.slot_list_append F.type_list_append h4 q
 |reverse e=>revert q; refine R.lst h e fun l ys ep h4 _ _ q=>?_; with_reducible exact qg F.slot_list_reverse F.type_list_reverse h4 q
end
end Mini
set_option maxRecDepth 100000
set_option autoImplicit false
namespace Mini
open PySem PySem.W PyProof.Rows
theorem y5 {a b:List Nat}:i8 a b=(a==b):=by rw [Bool.eq_iff_iff,eqL_iff,beq_iff_eq]
theorem iF {a b:List Nat}{t:Tok}:(Value.str (mk a) t).isStr (mk b)=i8 a b:=by
 rw [y5,gZ]; rfl
theorem l9 {k a:List Nat}{x:V}:∀{es:List (List Nat×V)},a∈(aj k x es).map (·.1)→a=k∨a∈es.map (·.1)
 |[],h=>.inl (List.mem_singleton.mp h)
 |(k',y)::r,h=>fH (k:=k') (n:=k) (x:=(k',x)::r) (y:=(k',y)::aj k x r) (M:=fun z:List (List Nat×V)=>a∈z.map (·.1)→a=k∨a∈((k',y)::r).map (·.1)) (fun _ h=>.inr h) (fun _ h=>(List.mem_cons.mp h).elim (fun q:a=k'=>.inr (q▸List.mem_cons_self)) fun h=>(l9 h).imp id (List.mem_cons_of_mem _)) h
theorem bM {k:List Nat}{x:V}:∀{es:List (List Nat×V)},(es.map (·.1)).Nodup→((aj k x es).map (·.1)).Nodup
 |[],_=>List.pairwise_singleton _ _
 |(k',y)::r,h=>
  have nd:=List.nodup_cons.mp h
  fH (k:=k') (n:=k) (x:=(k',x)::r) (y:=(k',y)::aj k x r) (M:=fun z:List (List Nat×V)=>(z.map (·.1)).Nodup) (fun _=>h) fun ne=>List.nodup_cons.mpr ⟨fun m=>(l9 m).elim ne nd.1,bM nd.2⟩
theorem bw {k:List Nat}{x:V}:∀{es:List (List Nat×V)},(aj k x es).length≤es.length+1
 |[]=>Nat.le_refl _
 |(k',y)::r=>fH (k:=k') (n:=k) (x:=(k',x)::r) (y:=(k',y)::aj k x r) (M:=fun z:List (List Nat×V)=>z.length≤r.length+1+1) (fun _=>Nat.le_succ _) fun _=>Nat.succ_le_succ bw
noncomputable def kW (n:Str) (e0:DictEntry):List DictEntry→List DictEntry
 |[]=>[e0]
 |e::r=>match e.key.isStr n with
  |true=>{ e with val:=e0.val } :: r
  |false=>e::kW n e0 r
theorem fN {n:Str}{e0:DictEntry}:∀{ds:List DictEntry},(nsPutIn n.cps.size n.cps.toList (fun | some e=>{ e with val:=e0.val } | none=>e0) ds).1=kW n e0 ds
 |[]=>rfl
 |e::r=>by
  have ih:=fN (n:=n) (e0:=e0) (ds:=r);show (if e.key.isStrByCps n.cps.size n.cps.toList=true then ({ e with val:=e0.val } :: r,false) else (e::(nsPutIn n.cps.size n.cps.toList _ r).1,_):List DictEntry×Bool).1=match e.key.isStr n with | true=>_ | false=>e::kW n e0 r
  rw [Value.isStrByCps_eq];cases e.key.isStr n with
  |true=>rfl
  |false=>exact congrArg (e :: ·) ih
theorem kX {n:Str}{hs:Int}{key v:Value}{ds:List DictEntry}{ep:Nat}:∃ep',Obj.putName n hs key v (ax ds ep)=ax (kW n ⟨hs,key,v⟩ ds) ep':=by
 have:=fN (n:=n) (e0:=⟨hs,key,v⟩) (ds:=ds);unfold Obj.putName;simp only [ax];revert this;generalize hx:nsPutIn n.cps.size n.cps.toList (fun | some e=>{ e with val:=v } | none=>⟨hs,key,v⟩) ds=x
 obtain⟨a,b⟩:=x;intro this;dsimp only at this;subst this;cases b
 ·exact⟨ep,rfl⟩
 ·exact⟨ep+1,rfl⟩
section
variable {T:TS}{W W':Wd}{pr:Kn}{env:Env}{ρ:P}{σ σ':H}{s s':Shared}{A:Around}{E:Value→Shared→Prop}{n:Nat}{r:cT}
theorem aO.find {k:List Nat}{x:V}:∀{es:List (List Nat×V)}{ds:List DictEntry},aO T.P W es ds→bP k es=some x→∃e,ds.find? (·.key.isStr (mk k))=some e∧VR T.P W x e.val
 |[],_,_,e=>ac e
 |(k',x')::es,_,h,e=>h.cs fun t y r h1 h2=>by
  have e:(match i8 k' k with | true=>some x' | false=>bP k es)=some x:=e
  show ∃e,(match (Value.str (⟨k'.toArray⟩:Str) t).isStr (mk k) with | true=>some _ | false=>r.find? _)=some e∧_
  rw [show (Value.str (⟨k'.toArray⟩:Str) t).isStr (mk k)=i8 k' k from iF]
  cases q:i8 k' k with
  |true=>rw [q] at e; exact⟨_,rfl,Option.some.inj e▸h1⟩
  |false=>rw [q] at e; exact aO.find h2 e
theorem aO.norefs:∀{es:List (List Nat×V)}{ds:List DictEntry},aO T.P W es ds→ds.any (·.refKey)=false
 |[],_,h=>h.nl rfl
 |(k',x')::es,_,h=>h.cs fun t y r _ h2=>h2.norefs
theorem aO.mkC {k:List Nat}{x:V}{t:Tok}{y:Value}{es:List (List Nat×V)}{ds:List DictEntry}(h:VR T.P W x y) (h2:aO T.P W es ds):aO T.P W ((k,x)::es) (⟨PyData.keyHash T.P (mk k),.str (mk k) t,y⟩::ds):=by exact⟨t,y,ds,rfl,h,h2⟩
theorem aO.put {k:List Nat}{x:V}{t:Tok}{y:Value}(hx:VR T.P W x y):∀{es:List (List Nat×V)}{ds:List DictEntry},aO T.P W es ds→aO T.P W (aj k x es) (kW (mk k) ⟨PyData.keyHash T.P (mk k),.str (mk k) t,y⟩ ds)
 |[],_,h=>h.nl (.mkC hx rfl)
 |(k',x')::es,_,h=>h.cs fun t' y' r h1 h2=>by
  show aO T.P W (match i8 k' k with | true=>(k',x)::es | false=>(k',x')::aj k x es) (match (Value.str (⟨k'.toArray⟩:Str) t').isStr (mk k) with | true=>_ | false=>_::kW (mk k) _ r)
  rw [show (Value.str (⟨k'.toArray⟩:Str) t').isStr (mk k)=i8 k' k from iF]
  cases i8 k' k with
  |true=>exact .mkC hx h2
  |false=>exact .mkC h1 (h2.put hx)
theorem gE {es:List (List Nat×V)}{ds:List DictEntry}{ep:Nat}{k:List Nat}{x:V}(h:aO T.P W es ds) (e:bP k es=some x):∃y,lookIn (mk k) (ax ds ep)=some (some y)∧VR T.P W x y:=by
 obtain⟨e0,h1,h2⟩:=h.find e;refine⟨e0.val,?_,h2⟩;unfold lookIn;simp only [ax];rw [h1]
theorem fO {dx:Addr}{es:List (List Nat×V)}{ds:List DictEntry}{ep:Nat}{k:List Nat}{x:V}{y:Value}{Q:Unit→Shared→Prop}(hd:s.heap.get? dx=some (ax ds ep)) (h:aO T.P W es ds) (hx:VR T.P W x y)
  (q:∀h' ds' ep',Heap.SameBut dx s.heap h'→h'.get? dx=some (ax ds' ep')→aO T.P W (aj k x es) ds'→Q () { s with heap:=h',toks:=s.toks+1 }) :
  wpAny T.M A (nsSet dx (mk k) y) Q E s:=by
 unfold nsSet;refine wpAny_bind (wpAny_bind (wpAny_askSetting (wpAny_pure (wpAny_bind (wpAny_mkText (wpAny_bind (wpAny_loadPart hd ?_)))))));dsimp only;have hr:=h.norefs;have c:aRefKeyMayBeTheName (mk k) ds.toArray=false:=by
  rw [aRefKeyMayBeTheName_at,show ds.toArray.any (·.refKey)=ds.any (·.refKey) from by simp,hr,Bool.and_false]
 rw [if_neg (by rw [c]; decide)]
 refine wpAny_updatePart hd ?_;obtain⟨ep',he⟩:=kX (n:=mk k) (hs:=PyData.keyHash T.P (mk k)) (key:=.str (mk k) s.toks) (v:=y) (ds:=ds) (ep:=ep);refine q _ _ ep' (Heap.SameBut.update ..) ?_ (h.put (t:=s.toks) hx);rw [Heap.get?_update_self _ hd]
 ·show some (Obj.putName (mk k) (PyData.keyHash T.P (mk k)) (.str (mk k) s.toks) y (ax ds ep))=_;rw [he]
 ·show (Obj.putName (mk k) (PyData.keyHash T.P (mk k)) (.str (mk k) s.toks) y (ax ds ep)).isFreed=false;rw [he]; rfl
noncomputable def bA (T:TS) (W:Wd):List (List Nat×V)→List (Str×Value)→Prop
 |[],l=>l=[]
 |(k,x)::es,l=>∃y r,l=(mk k,y)::r∧VR T.P W x y∧bA T W es r
theorem bA.mkC {k:List Nat}{x:V}{y:Value}{es:List (List Nat×V)}{l:List (Str×Value)}(h:VR T.P W x y) (k2:bA T W es l):bA T W ((k,x)::es) ((mk k,y)::l):=by exact⟨y,l,rfl,h,k2⟩
@[elab_as_elim] theorem bA.nl {M:List (Str×Value)→Prop}{l:List (Str×Value)}(h:bA T W [] l) (k:M []):M l:=by exact h▸k
@[elab_as_elim] theorem bA.cs {M:List (Str×Value)→Prop}{k:List Nat}{x:V}{es:List (List Nat×V)}{l:List (Str×Value)}(h:bA T W ((k,x)::es) l) (f:∀y r,VR T.P W x y→bA T W es r→M ((mk k,y)::r)):M l:=by
 obtain⟨y,r,rfl,h1,h2⟩:=h; exact f y r h1 h2
theorem aO.kv:∀{es:List (List Nat×V)}{ds:List DictEntry},aO T.P W es ds→bA T W es (Mini.kv ds)
 |[],_,h=>h.nl rfl
 |(k,x)::es,_,h=>h.cs fun t y r h1 h2=>.mkC h1 h2.kv
theorem bA.keys:∀{es:List (List Nat×V)}{l:List (Str×Value)},bA T W es l→l.map (·.1)=(es.map (·.1)).map mk
 |[],_,h=>h.nl rfl
 |(k,x)::es,_,h=>h.cs fun y r _ h2=>congrArg (mk k :: ·) h2.keys
theorem bA.length {es:List (List Nat×V)}{l:List (Str×Value)}(h:bA T W es l):l.length=es.length:=by
 rw [←List.length_map (f:=(·.1)),h.keys,List.length_map,List.length_map]
theorem oi {k:Str}{y y':Value}{r:List (Str×Value)}(h:k∉r.map (·.1)):stored ((k,y')::r) k y=(k,y)::r:=by
 have e:(r.map fun kv=>if kv.1=k then (kv.1,y) else kv)=r:=(List.map_congr_left fun p hp=>if_neg fun q:p.1=k=>h (q▸List.mem_map.mpr ⟨p,hp,rfl⟩)).trans (List.map_id r)
 unfold stored;rw [if_pos (by rw [List.any_cons,decide_eq_true rfl]; rfl),List.map_cons,if_pos rfl,e]
theorem ma {k k':Str}{y y':Value}{r:List (Str×Value)}(h:k'≠k):stored ((k',y')::r) k y=(k',y')::stored r k y:=by
 unfold stored;rw [List.any_cons,decide_eq_false h,Bool.false_or,List.map_cons,if_neg h];exact gX (fun q=>(if_pos q).trans (congrArg (_ :: ·) (if_pos q).symm)) fun q=>(if_neg q).trans (congrArg (_ :: ·) (if_neg q).symm)
theorem bA.store {k:List Nat}{x:V}{y:Value}(hx:VR T.P W x y):∀{es:List (List Nat×V)}{l:List (Str×Value)},bA T W es l→(es.map (·.1)).Nodup→bA T W (aj k x es) (stored l (mk k) y)
 |[],_,h,_=>h.nl (.mkC hx rfl)
 |(k',x')::es,_,h,hn=>h.cs fun y' r h1 h=>
  have nd:=List.nodup_cons.mp hn
  fH (k:=k') (n:=k) (x:=(k',x)::es) (y:=(k',x')::aj k x es) (M:=fun z=>bA T W z (stored ((mk k',y')::r) (mk k) y)) (fun e=>by
    subst e;have off:mk k'∉r.map (·.1):=fun m=>by rw [h.keys] at m; obtain⟨_,hz,q⟩:=List.mem_map.mp m; exact nd.1 (iE q▸hz)
    rw [oi off];exact .mkC hx h) fun ne=>by rw [ma fun q=>ne (iE q)]; exact .mkC h1 (h.store hx nd.2)
theorem tz {e0:DictEntry}{k:Str}{y:Value}(p1:(kS T).is k e0.key=true) (p2:e0.val=y) (q:∃k0,(kS T).is k0 e0.key=true∧e0.hash=(kS T).hash k0):∃t,e0=⟨PyData.keyHash T.P k,.str k t,y⟩:=by
 obtain⟨k0,q1,q2⟩:=q;obtain⟨t,ht⟩:=Value.isStrOf_shape p1;exact⟨t,congr (congr (congrArg DictEntry.mk (q2.trans (congrArg (kS T).hash ((kS T).inj _ _ _ q1 p1)))) ht) p2⟩
theorem aO.of:∀{es:List (List Nat×V)}{ds:List DictEntry}{l:List (Str×Value)},bA T W es l→Pairs (kS T) ds l→(∀e∈ds,∃k,(kS T).is k e.key=true∧e.hash=(kS T).hash k)→aO T.P W es ds
 |[],ds,_,h,p,_=>by cases p with
  |nil=>rfl
  |cons=>cases h
 |(k,x)::es,ds,_,h,p,hk=>by
  revert p;refine h.cs fun y r h1 h p=>?_
  cases p with
  |cons p1 p2 p3=>
   have hk:=List.forall_mem_cons.mp hk;obtain⟨t,rfl⟩:=tz p1 p2 hk.1;exact .mkC h1 (aO.of h p3 hk.2)
theorem jH {h':Heap}{d:Addr}{es:List (List Nat×V)}{l:List (Str×Value)}(D:h'.DictOf (kS T) d l) (h:bA T W es l):∃ds ep,h'.get? d=some (ax ds ep)∧aO T.P W es ds:=by
 obtain⟨o,ds,ep,ho,⟨c1,c2,c3⟩,hd,hk,hp,hn⟩:=D;obtain⟨oc,od,odt,osl⟩:=o;dsimp only at c1 c2 c3 hd;subst c1 c2 c3 hd;exact⟨ds.toList,ep,by rw [ho],aO.of h hp fun e he=>hk e (Array.mem_toList_iff.mp he)⟩
end
end Mini
set_option maxRecDepth 100000
set_option autoImplicit false
namespace Mini
open PySem PySem.W PyProof.Rows Builtin Builtin.ObjectAttr
theorem dF {n:Str}{l:List Str}(h:ck n l=true):n∈l:=by
 unfold ck at h;obtain⟨x,hx,e⟩:=List.any_eq_true.mp h;rw [sEq_iff] at e;exact e▸hx
namespace Fn
theorem lk_ga:typeLookup (.type "function") "__getattribute__" = pure (some (.builtin "object.__getattribute__")):=by rw [typeLookup_type,builtinLookup_eq_fast]; kernel_rfl
theorem slot_ga:PySem.Slot "function" "__getattribute__" "object.__getattribute__" :=
 .of (owner:= "object") (n:= "__getattribute__") lk_ga (by decide +kernel) (by decide +kernel) (by decide +kernel)
  (by first | exact .inl (by decide +kernel) | exact .inr (by decide +kernel)) (by rw [isSubtype_type]; kernel_rfl)
theorem slot_sa:PySem.Slot "function" "__setattr__" "object.__setattr__" :=
 .of (owner:= "object") (n:= "__setattr__") (by rw [typeLookup_type,builtinLookup_eq_fast]; kernel_rfl) (by decide +kernel) (by decide +kernel) (by decide +kernel)
  (by first | exact .inl (by decide +kernel) | exact .inr (by decide +kernel)) (by rw [isSubtype_type]; kernel_rfl)
theorem lk_getattr:typeLookup (.type "function") "__getattr__" = pure none:=by rw [typeLookup_type,builtinLookup_eq_fast]; kernel_rfl
theorem args_ga (a b:Value):argsOk "object.__getattribute__" ⟨[a,b],[]⟩:=by unfold argsOk; kernel_rfl
theorem entry_ga:entryFor table "object.__getattribute__" = some Builtin.«object.__getattribute__» :=entryFor_of_tree (by kernel_rfl)
theorem mro:mroOf (.type "function")=pure [.type "function",.type "object"]:=by kernel_rfl
theorem args_sa (a b c:Value):argsOk "object.__setattr__" ⟨[a,b,c],[]⟩:=by unfold argsOk; kernel_rfl
theorem passes (self:Value):refuseLoop self "__setattr__" [.type "function",.type "object"]=pure ():=by kernel_rfl
theorem lk_name {n:Str}(h:ck n aM=true):typeLookup (.type "function") n=pure none:=by
 have:=dF h;simp only [aM,List.mem_cons,List.not_mem_nil,or_false] at this;rcases this with rfl | rfl | rfl | rfl | rfl | rfl | rfl | rfl <;> (rw [typeLookup_type,builtinLookup_eq_fast]; kernel_rfl)
theorem zI {n:Str}(h:ck n aM=true):fastLookup "function" n=some none:=by
 have:=dF h;simp only [aM,List.mem_cons,List.not_mem_nil,or_false] at this;rcases this with rfl | rfl | rfl | rfl | rfl | rfl | rfl | rfl <;> kernel_rfl
end Fn
section
variable {T:TS}{W W':Wd}{pr:Kn}{env:Env}{ρ:P}{σ σ':H}{s s':Shared}{A:Around}{E:Value→Shared→Prop}{n:Nat}{r:cT}
theorem oj {dx:Addr}{o:Obj}{name:Str}{y:Option Value}{Q:Option Value→Shared→Prop}(hd:s.heap.get? dx=some o) (h:lookIn name o=some y) (q:Q y s):wpAny T.M A (nsGet dx name) Q E s:=by
 unfold nsGet;refine wpAny_bind (wpAny_loadPart hd ?_);rw [nsLook_of h];exact wpAny_pure q
theorem jI {x:V}{v:Value}(h:jt x=true) (hv:VR T.P W x v):handedIn v=true:=by
 cases x with
 |val u=>
  subst hv;cases v <;> first | rfl | cases h
 |none=>obtain rfl:=hv; rfl
 |bool b=>obtain rfl:=hv; rfl
 |int i=>obtain⟨_,rfl⟩:=hv; rfl
 |str i=>obtain⟨_,rfl⟩:=hv; rfl
 |tstr i=>obtain⟨_,rfl,_⟩:=hv; rfl
 |list xs=>obtain⟨_,_,_,rfl,_⟩:=hv; rfl
 |tuple xs=>obtain⟨_,_,rfl,_⟩:=hv; rfl
 |dict xs=>obtain⟨_,_,_,rfl,_⟩:=hv; rfl
 |ref xs=>obtain⟨_,rfl,_⟩:=hv; rfl
 |clo d c m=>obtain⟨_,_,rfl,_⟩:=hv; rfl
 |bm d c=>obtain⟨_,_,rfl,_⟩:=hv; rfl
theorem y6 {f dx:Addr}{fd:FuncData}{o:Obj}{name:Str}{y:Option Value}(hx:s.heap.get? f=some ⟨.type "function",some dx,.func fd,#[]⟩) (hd:s.heap.get? dx=some o) (h:lookIn name o=some y) {Q:Option Value→Shared→Prop}(q:Q y s) :
  wpAny T.M A (inOwnDict name (.ref f)) Q E s:=by
 unfold inOwnDict ObjectAttr.ownDict;obtain⟨hp,g,d,tk,os⟩:=s;dsimp only at hx hd;repeat (any_goals (first | assumption | (with_reducible refine wpAny_loadPart_at hx ?_) | (with_reducible refine oj hd h ?_) | wp_step))
theorem wb {f dx:Addr}{fd:FuncData}{o:Obj}{name:Str}{v:Value}(hn:ck name aM=true) (hx:s.heap.get? f=some ⟨.type "function",some dx,.func fd,#[]⟩) (hd:s.heap.get? dx=some o) (h:lookIn name o=some (some v)) {tk:Tok}{Q:Fin→Shared→Prop}(q:Q (.done (.ret v)) s) :
  wpAny T.M A (Builtin.«object.__getattribute__» ⟨[.ref f,.str name tk],[]⟩) Q E s:=by
 obtain⟨hp,g,d,tk,os⟩:=s;dsimp only at hx hd;have hT:(⟨hp,g,d,tk,os⟩:Shared).TypeIs (.ref f) "function" :=⟨_,hx,rfl⟩;have f1:=Fn.lk_name hn;repeat (any_goals (first | assumption | (with_reducible refine y6 (T:=T) hx hd h ?_) | wp_step))
theorem y7 {f dx:Addr}{fd:FuncData}{o:Obj}{name:Str}{v:Value}(hn:ck name aM=true) (hx:s.heap.get? f=some ⟨.type "function",some dx,.func fd,#[]⟩) (hd:s.heap.get? dx=some o) (h:lookIn name o=some (some v)) (hh:handedIn v=true) {ex:Bool}{Q:Value→Shared→Prop}(q:Q v { s with toks:=s.toks+1 }) :
  wpAny T.M A (getAttr (.ref f) name ex) Q E s:=by
 obtain⟨hp,g,d,tk,os⟩:=s;dsimp only at hx hd;have hT:(⟨hp,g,d,tk,os⟩:Shared).TypeIs (.ref f) "function" :=⟨_,hx,rfl⟩;have hT1:(⟨hp,g,d,tk+1,os⟩:Shared).TypeIs (.ref f) "function" :=⟨_,hx,rfl⟩;have f1:=Fn.slot_ga.lookup;have f4:=Fn.slot_ga.bind (.ref f);have f5:=handedOut_of hh;cases ex;all_goals (
  repeat (any_goals (first | assumption | (rw [if_neg (show ¬(true&&onTheHeap (Value.builtin "object.__getattribute__"))=true by decide)]) | wp_step))
  refine codeAny_call_builtin Fn.slot_ga.plain Fn.entry_ga (Fn.slot_ga.check _ _ _ _ _ _ _ _ hT1 (Fn.args_ga _ _) (wb (T:=T) hn hx hd h ?_));repeat (any_goals (first | assumption | wp_step)))
theorem jg {f dx:Addr}{fd:FuncData}{ds:List DictEntry}{ep:Nat}{es:List (List Nat×V)}{k:List Nat}{x:V}{v:Value}(hn:ck (mk k) aM=true) (hx:s.heap.get? f=some ⟨.type "function",some dx,.func fd,#[]⟩) (hd:s.heap.get? dx=some (ax ds ep)) (h:aO T.P W es ds)
  (hv:VR T.P W x v) (hz:es.length<900) {tk:Tok}{Q:Fin→Shared→Prop}(q:∀h' ds' ep',Heap.SameBut dx s.heap h'→h'.get? dx=some (ax ds' ep')→aO T.P W (aj k x es) ds'→Q (.done (.ret .none)) { s with heap:=h',toks:=s.toks+1 }) :
  wpAny T.M A (Builtin.«object.__setattr__» ⟨[.ref f,.str (mk k) tk,v],[]⟩) Q E s:=by
 obtain⟨hp,g,d,tk,os⟩:=s;dsimp only at hx hd q;have hT:(⟨hp,g,d,tk,os⟩:Shared).TypeIs (.ref f) "function" :=⟨_,hx,rfl⟩;have f1:=Fn.lk_name hn;rw [osa_eq,refuse_eq];repeat (any_goals (first | assumption | (with_reducible refine wpAny_loadPart_at hx ?_) | rw [Fn.mro] | rw [Fn.passes] | (with_reducible refine fO (T:=T) hd h hv fun h' ds' ep' hs hd' h2=>?_) | wp_step))
 have hpl:(ax ds' ep').data.pastItsLine=none:=pastItsLine_dict (by
  have:=h2.length;have:=bw (k:=k) (x:=x) (es:=es);rw [List.size_toArray,sizeLine_eq]; omega)
 rw [hpl];repeat (any_goals (first | assumption | wp_step))
 exact q h' ds' ep' hs hd' h2
set_option maxHeartbeats 2000000 in
theorem jh {f:Addr}{fd:FuncData}{k:List Nat}{x:V}{v:Value}(hn:ck (mk k) aM=true) (hx:s.heap.get? f=some ⟨.type "function",none,.func fd,#[]⟩)
  (hv:VR T.P W x v) {tk:Tok}{Q:Fin→Shared→Prop}(q:∀h' ds' ep',Heap.SameBut f (s.heap.push (ax ds' ep')) h'→h'.get? f=some ⟨.type "function",some s.heap.objs.size,.func fd,#[]⟩→h'.get? s.heap.objs.size=some (ax ds' ep')→aO T.P W [(k,x)] ds'→Q (.done (.ret .none)) { s with heap:=h',toks:=s.toks+1 }) :
  wpAny T.M A (Builtin.«object.__setattr__» ⟨[.ref f,.str (mk k) tk,v],[]⟩) Q E s:=by
 obtain⟨hp,g,d,tk,os⟩:=s;dsimp only at hx q;have hT:(⟨hp,g,d,tk,os⟩:Shared).TypeIs (.ref f) "function" :=⟨_,hx,rfl⟩;have f1:=Fn.lk_name hn;rw [osa_eq,refuse_eq];have hxs:f≠hp.objs.size:=Nat.ne_of_lt (Heap.lt_size hx);have hx1:(hp.push { cls:=.type "dict",data:=.dict #[] }).get? f=some ⟨.type "function",none,.func fd,#[]⟩:=Heap.get?_push_of_some _ hx;have hgd:((hp.push { cls:=.type "dict",data:=.dict #[] }).update f fun o=>{ cls:=o.cls,dict:=some hp.objs.size,data:=o.data,slots:=o.slots }).get? hp.objs.size=some (ax [] 0):=
  (Heap.get?_update_ne _ _ _ _ hxs.symm).trans (Heap.get?_push_at rfl rfl)
 have hgf:((hp.push { cls:=.type "dict",data:=.dict #[] }).update f fun o=>{ cls:=o.cls,dict:=some hp.objs.size,data:=o.data,slots:=o.slots }).get? f=some ⟨.type "function",some hp.objs.size,.func fd,#[]⟩:=
  Heap.get?_update_self _ hx1 rfl
 have h0:aO T.P W ([]:List (List Nat×V)) []:=rfl;repeat (any_goals (first | assumption | (with_reducible refine wpAny_loadPart_at hx ?_) | rw [Fn.mro] | rw [Fn.passes] | (with_reducible refine fO (T:=T) hgd h0 hv fun h' ds' ep' hs hd' h2=>?_) | wp_step))
 have hpl:(ax ds' ep').data.pastItsLine=none:=pastItsLine_dict (by
  have:=h2.length;have:=bw (k:=k) (x:=x) (es:=[]);rw [List.size_toArray,sizeLine_eq];simp at this ⊢; omega)
 rw [hpl];repeat (any_goals (first | assumption | wp_step))
 refine q h' ds' ep' ⟨?_,fun b b1=>?_⟩ ((hs.2 f hxs).trans hgf) hd' h2
 ·rw [hs.1,Heap.size_update,Heap.size_push,Heap.size_push]
 ·by_cases b2:b=hp.objs.size
  ·subst b2;rw [hd',Heap.get?_push_size _ rfl]
  ·rw [hs.2 b b2,Heap.get?_update_ne _ _ _ _ b1,Heap.get?_push_ne _ _ _ b2,Heap.get?_push_ne _ _ _ b2]
theorem tA {f:Addr}{name:Str}{v:Value}{o:Obj}{Q:Unit→Shared→Prop}(hx:s.heap.get? f=some o) (hc:o.cls = .type "function")
  (h:wpAny T.M A.in1 (Builtin.«object.__setattr__» ⟨[.ref f,.str name s.toks,v],[]⟩) (fun fin s'=>match fin with | .done (.ret _)=>Q () s' | _=>False) E { s with toks:=s.toks+1 }) :
  wpAny T.M A (setAttr (.ref f) name v) Q E s:=by
 obtain⟨hp,g,d,tk,os⟩:=s;dsimp only at hx h;have hT1:(⟨hp,g,d,tk+1,os⟩:Shared).TypeIs (.ref f) "function" :=⟨_,hx,hc⟩;have f1:=Fn.slot_sa.lookup;have f4:=Fn.slot_sa.bind (.ref f);unfold setAttr;repeat (any_goals (first | assumption | wp_step))
 refine codeAny_call_builtin Fn.slot_sa.plain PySem.F.store_object.entry (Fn.slot_sa.check _ _ _ _ _ _ _ _ hT1 (Fn.args_sa _ _ _) ?_);refine wpAny_mono h (fun fin s' z=>?_) fun _ _ z=>z
 rcases fin with (_ | _ | _ | _) | _ <;> first | exact wpAny_pure (wpAny_pure z) | exact z.elim
end
end Mini
set_option maxRecDepth 100000
set_option autoImplicit false
namespace Mini
open PySem PySem.W PyProof.Rows
noncomputable def ja (n:Str) (v:V) (x:Slot):Slot:=if cF x.name n then ⟨x.name,x.kind,some v⟩ else x
theorem eH {n:Str}{v:V}{x:Slot}(h:x.name=n):ja n v x=⟨n,x.kind,some v⟩:=by unfold ja; rw [if_pos (sEq_iff.mpr h),h]
theorem cB {n:Str}{v:V}{x:Slot}(h:x.name≠n):ja n v x=x:=if_neg fun q=>h (sEq_iff.mp q)
theorem tB {n:Str}{v:V}(x:Slot):(ja n v x).name=x.name:=by
 by_cases h:x.name=n
 ·rw [eH h]; exact h.symm
 ·rw [cB h]
theorem tC {n:Str}{v:V}(x:Slot):(ja n v x).kind=x.kind:=by
 by_cases h:x.name=n
 ·rw [eH h]
 ·rw [cB h]
theorem tD {n:Str}{v:V}{ρ:P}(h:n∉ρ.map (·.name)):ρ.map (ja n v)=ρ:=
 (List.map_congr_left fun x hx=>cB fun q=>h (List.mem_map.mpr ⟨x,hx,q⟩)).trans (List.map_id _)
theorem tE {β:Type}{f g:Slot→Option β}:∀{ρ:P},(∀x∈ρ,g x=none∨g x=f x)→(ρ.filterMap g).Sublist (ρ.filterMap f)
 |[],_=>.slnil
 |x::r,h=>by
  have ih:=tE fun y hy=>h y (List.mem_cons_of_mem _ hy)
  rw [List.filterMap_cons,List.filterMap_cons];rcases h x List.mem_cons_self with e | e <;> rw [e]
  ·cases f x with
   |none=>exact ih
   |some b=>exact .cons _ ih
  ·cases f x with
   |none=>exact ih
   |some b=>exact .cons_cons _ ih
theorem mc {n:Str}{v:V}{ρ ρ':P}(nd:(ρ.map (·.name)).Nodup) (e:j8 n v ρ=some ρ'):ρ'=ρ.map (ja n v)∧∃x∈ρ,x.name=n∧fc x=true:=by
 induction ρ generalizing ρ' with
 |nil=>exact ac e
 |cons x r ih=>
  rw [List.map_cons,List.nodup_cons] at nd;rw [List.map_cons];have e:(match cF x.name n with | true=>(match fc x with | true=>some (⟨x.name,x.kind,some v⟩::r) | false=>none) | false=>(j8 n v r).map (x :: ·))=some ρ':=e
  cases h:cF x.name n with
  |true=>
   rw [h] at e;have h:=sEq_iff.mp h;cases hs:fc x with
   |true=>rw [hs] at e; rw [eH h,tD (h▸nd.1),←Option.some.inj e,h]; exact⟨rfl,x,List.mem_cons_self,h,hs⟩
   |false=>rw [hs] at e; exact ac e
  |false=>
   rw [h] at e;obtain⟨q,e1,e2⟩:=Option.map_eq_some_iff.mp e;obtain⟨h1,y,h2,h3⟩:=ih nd.2 e1;rw [cB fun q=>Bool.false_ne_true (h.symm.trans (sEq_iff.mpr q)),←e2,h1]
   exact⟨rfl,y,List.mem_cons_of_mem _ h2,h3⟩
theorem jJ {β:Type}{f:Slot→Option β}{a:β}{ρ:P}(nd:(ρ.filterMap f).Nodup) {x y:Slot}(hx:x∈ρ) (hy:y∈ρ) (e1:f x=some a) (e2:f y=some a):x=y:=by
 induction ρ with
 |nil=>cases hx
 |cons z r ih=>
  have at_:∀{w},w∈r→f w=some a→a∈r.filterMap f:=fun h e=>List.mem_filterMap.mpr ⟨_,h,e⟩
  rcases List.mem_cons.mp hx with rfl | hx'
  ·rw [List.filterMap_cons,e1] at nd;rcases List.mem_cons.mp hy with rfl | hy'
   ·rfl
   ·exact absurd (at_ hy' e2) (List.nodup_cons.mp nd).1
  ·rcases List.mem_cons.mp hy with rfl | hy'
   ·rw [List.filterMap_cons,e2] at nd;exact absurd (at_ hx' e1) (List.nodup_cons.mp nd).1
   ·refine ih ?_ hx' hy';rw [List.filterMap_cons] at nd;cases h:f z with
    |none=>rw [h] at nd; exact nd
    |some b=>rw [h] at nd; exact (List.nodup_cons.mp nd).2
theorem iG {α β:Type}{f g:α→Option β}:∀{ρ:List α},(∀x∈ρ,g x=f x)→ρ.filterMap g=ρ.filterMap f
 |[],_=>rfl
 |x::r,h=>by rw [List.filterMap_cons,List.filterMap_cons,h x List.mem_cons_self,iG fun y hy=>h y (List.mem_cons_of_mem _ hy)]
section
variable {T:TS}{W W':Wd}{pr:Kn}{env:Env}{ρ:P}{σ:H}{s s':Shared}{A:Around}{E:Value→Shared→Prop}
theorem gm {ρ:P}(nd:(ρ.map (·.name)).Nodup) {x y:Slot}(hx:x∈ρ) (hy:y∈ρ) (e:x.name=y.name):x=y:=
 jJ (f:=fun x=>some x.name) (by rw [List.filterMap_eq_map']; exact nd) hx hy rfl (congrArg some e.symm)
theorem qQ {n:Str}{v:V}{ρ:P}:(ρ.map (ja n v)).map (·.name)=ρ.map (·.name):=by
 rw [List.map_map]; exact List.map_congr_left fun x _=>tB x
theorem wc {n:Str}{v:V}{ρ:P}:ff (ρ.map (ja n v))=ff ρ:=by
 unfold ff;rw [List.any_map];exact congrArg (List.any ρ) (funext fun x=>congrArg hZ (tC x))
theorem dh.put (F:dh T W pr env ρ s) {n:Str}{v:V}{sl:Slot}{a:Addr}{m m':Str→Option Value}(hn:s'.heap.Ns env.locals m') (hs:∀x∈ρ,aV T W pr env m s.heap x) (hsl:sl∈ρ) (hname:sl.name=n) (ha:∀x∈ρ,x.name≠n→cz env x≠some a) (L:W.le W') (hm:∀x,x≠n→m' x=m x)
  (k:∀b,b≠a→∀o,s.heap.get? b=some o→s'.heap.get? b=some o) (new:aV T W' pr env m' s'.heap ⟨n,sl.kind,some v⟩) (own:∀b∈aU env (ρ.map (ja n v)),dO T W' pr b) (nd:(aU env (ρ.map (ja n v))).Nodup):dh T W' pr env (ρ.map (ja n v)) s':=by
 refine⟨F.kind,F.glb,F.blt,⟨m',hn,fun x hx=>?_⟩,own,nd,by rw [qQ]; exact F.names,by rw [wc]; exact F.code⟩
 obtain⟨y,hy,rfl⟩:=List.mem_map.mp hx
 by_cases h:y.name=n
 ·rw [eH h,show y=sl from gm F.names hy hsl (h.trans hname.symm)]; exact new
 ·rw [cB h];exact ((hs y hy).mono L).move (hm _ h) fun b hb o=>k b (fun q=>ha y hy h (q▸hb)) o
theorem tG {n:Str}{v:V}(h:∀x∈ρ,x.name=n→cz env ⟨n,x.kind,some v⟩=cz env x):aU env (ρ.map (ja n v))=aU env ρ:=by
 unfold aU;rw [List.filterMap_map];refine congrArg (_ :: ·) (iG fun x hx=>?_)
 show cz env (ja n v x)=cz env x
 by_cases q:x.name=n
 ·rw [eH q]; exact h x hx q
 ·rw [cB q]
theorem gn (F:dh T W pr env ρ s) {x:Slot}(hx:x∈ρ):cz env x≠some env.locals:=fun q=>(List.nodup_cons.mp F.apart).1 (List.mem_filterMap.mpr ⟨x,hx,q⟩)
theorem eY (F:dh T W pr env ρ s) {x sl:Slot}{c:Addr}{n:Str}(hx:x∈ρ) (hsl:sl∈ρ) (hc:cz env sl=some c) (hn:sl.name=n) (h:x.name≠n):cz env x≠some c:=fun q=>h (jJ (List.nodup_cons.mp F.apart).2 hx hsl q hc▸hn)
theorem jK {n:Str}{v:V}{v':Value}{Q:Unit→Shared→Prop}(S:St T W pr env ρ σ s) (hsl:(⟨n,.once,none⟩:Slot)∈ρ) (hv:∀c oc,env.cells.lookup n=some c→dO T W pr c→oc.data = .cell (some v')→VR T.P (W.add c oc) v v')
  (q:∀W' s',W.le W'→St T W' pr env (ρ.map (ja n v)) σ s'→Q () s'):wpAny T.M A (storeName env n v') Q E s:=by
 obtain⟨m,hn,hs⟩:=S.f.fr;cases hs _ hsl with
 |@once0 _ c k l e=>
  have hown:=S.f.own c (fG hsl l);have hcl:c≠env.locals:=fun q=>gn S.f hsl (q▸l)
  refine wpAny_storeName_cell S.f.kind k l e fun h' hcell hs'=>?_
  have R1:aI T W pr σ { s with heap:=h' }:=S.r.own (s':={ s with heap:=h' }) hown (fun b q p h=>(hs'.2 b q).trans h) rfl rfl (Nat.le_refl _)
  obtain⟨oc,hoc1,hoc2⟩:=hcell;obtain⟨R2,L⟩:=R1.freeze hown hoc1;have sub:(aU env (ρ.map (ja n v))).Sublist (aU env ρ)∧c∉aU env (ρ.map (ja n v)):=by
   have at_:∀x∈ρ,cz env (ja n v x)=if cF x.name n then none else cz env x:=fun x hx=>by
    by_cases q:x.name=n
    ·rw [eH q,if_pos (sEq_iff.mpr q),gm S.f.names hx hsl q]; rfl
    ·rw [cB q,if_neg fun z=>q (sEq_iff.mp z)]
   constructor
   ·unfold aU;rw [List.filterMap_map];exact .cons_cons _ (tE fun x hx=>by
     show cz env (ja n v x)=none∨cz env (ja n v x)=cz env x;rw [at_ x hx];split
     ·exact .inl rfl
     ·exact .inr rfl)
   ·intro h;rcases List.mem_cons.mp h with h | h
    ·exact hcl h
    ·rw [List.filterMap_map] at h;obtain⟨x,hx,e⟩:=List.mem_filterMap.mp h;have e:cz env (ja n v x)=some c:=e;rw [at_ x hx] at e;split at e
     ·cases e
     ·rename_i q; exact eY S.f hx hsl l rfl (fun z=>q (sEq_iff.mpr z)) e
  refine q _ _ L ⟨S.f.put (hn.sameBut hs' (Ne.symm hcl)) hs hsl rfl (fun x hx h=>eY S.f hx hsl l rfl h) L (fun _ _=>rfl) (fun b hb o h=>(hs'.2 b hb).trans h) (.once k l ⟨oc,W.add_at c oc,hoc2⟩ (hv c oc l hown hoc2)) (fun b hb=>?_) (S.f.apart.sublist sub.1),R2⟩
  exact (S.f.own b (sub.1.subset hb)).add fun z=>sub.2 (z▸hb)
theorem mh {n:Str}{v:V}{v':Value}{ρ':P}{Q:Unit→Shared→Prop}(S:St T W pr env ρ σ s) (h:VR T.P W v v') (e:j8 n v ρ=some ρ') (q:∀W' s',W.le W'→St T W' pr env ρ' σ s'→Q () s') :
  wpAny T.M A (storeName env n v') Q E s:=by
 obtain⟨rfl,sl,hsl,hname,hk⟩:=mc S.f.names e;obtain⟨m,hn,hs⟩:=S.f.fr;have ho:∀{k:SK}{o:Option V},(⟨n,k,o⟩:Slot)∈ρ→cz env ⟨n,k,some v⟩=cz env ⟨n,k,o⟩→aU env (ρ.map (ja n v))=aU env ρ:=fun hs e=>tG fun x hx hxn=>by rw [gm S.f.names hx hs hxn]; exact e
 have loc:∀{o:Option V},(⟨n,.loc,o⟩:Slot)∈ρ→env.kindOf n=some .local→wpAny T.M A (storeName env n v') Q E s:=fun hsl k=>wpAny_storeName_local k hn (fun h' hn' hs'=>
  have ho:=ho hsl rfl
  q W _ (.refl W) ⟨S.f.put hn' hs hsl rfl (fun x hx _=>gn S.f hx) (.refl W) (fun x hx=>if_neg hx) (fun b hb o h=>(hs'.2 b hb).trans h) (.loc k (if_pos rfl) h) (ho▸S.f.own) (ho▸S.f.apart),S.r.own (S.f.own _ List.mem_cons_self) (fun b q p h=>(hs'.2 b q).trans h) rfl rfl (Nat.le_succ _)⟩) (by rw [S.f.kind]; rfl)
 have cell:∀{c:Addr}{v0:Option Value}{o:Option V},(⟨n,.cell,o⟩:Slot)∈ρ→env.kindOf n=some .cell→env.cells.lookup n=some c→s.heap.IsCell c v0→wpAny T.M A (storeName env n v') Q E s:=fun hsl k l e=>wpAny_storeName_cell S.f.kind k l e fun h' hcell hs'=>
  have ho:=ho hsl rfl
  q W _ (.refl W) ⟨S.f.put (hn.sameBut hs' (fun q=>gn S.f hsl (q▸l))) hs hsl rfl (fun x hx h=>eY S.f hx hsl l rfl h) (.refl W) (fun _ _=>rfl) (fun b hb o h=>(hs'.2 b hb).trans h) (.cell k l hcell h) (ho▸S.f.own) (ho▸S.f.apart),S.r.own (S.f.own _ (fG hsl l)) (fun b q p h=>(hs'.2 b q).trans h) rfl rfl (Nat.le_refl _)⟩
 have xx:=hs sl hsl
 induction xx with
 |loc0 k=>subst hname; exact loc hsl k
 |loc k=>subst hname; exact loc hsl k
 |cell0 k l c=>subst hname; exact cell hsl k l c
 |cell k l c=>subst hname; exact cell hsl k l c
 |once0=>subst hname; exact jK S hsl (fun c oc _ hnew _=>h.mono (W.le_add (.inl hnew.nfz))) q
 |_=>exact absurd hk Bool.false_ne_true
theorem wd {n:Str}{v:V}{v':Value}{ρ':P}{Q:Unit→Shared→Prop}(S:St T W pr env ρ σ s) (h:VR T.P W v v') (e:j8 n v ρ=some ρ') (q:∀W' s',W.le W'→St T W' pr env ρ' σ s'→Q () s') :
  wpAny T.M A (bindName env n v') Q E s:=wpAny_bindName (mh S h e q)
noncomputable def dk (pr:Kn) (a:Addr) (o:Obj):Kn:=fun b=>if b=a then some o else pr b
theorem iH (pr:Kn) (a:Addr) (o:Obj):dk pr a o a=some o:=if_pos rfl
theorem cC (pr:Kn) {a b:Addr}(o:Obj) (h:b≠a):dk pr a o b=pr b:=if_neg h
structure bG (T:TS) (W:Wd) (pr:Kn) (env:Env) (ρ:P) (s:Shared) (a:Addr) (o:Obj):Prop where
 n:dO T W pr a
 no:a∉aU env ρ
 at_:s.heap.get? a=some o
theorem aV.prMono {pr':Kn}{m:Str→Option Value}{h:Heap}{sl:Slot}(kp:∀c o v,pr c=some o→o.data = .cell (some v)→pr' c=some o) (x:aV T W pr env m h sl):aV T W pr' env m h sl:=by
 induction x with
 |loc0 k e=>exact .loc0 k e
 |loc k e r=>exact .loc k e r
 |cell0 k' l e=>exact .cell0 k' l e
 |cell k' l e r=>exact .cell k' l e r
 |once0 k' l e=>exact .once0 k' l e
 |once k l e r=>exact .once k l e r
 |free0=>exact .free0
 |free k' d l e r=>exact .free k' d l (e.imp id fun⟨o,h1,h2⟩=>⟨o,kp _ o _ h1 h2,h2⟩) r
 |glob0=>exact .glob0
 |glob k g r=>exact .glob k g r
theorem dh.reguard {pr':Kn}(F:dh T W pr env ρ s) (kp:∀c o v,pr c=some o→o.data = .cell (some v)→pr' c=some o) (no:∀a∈aU env ρ,pr' a=none):dh T W pr' env ρ s:=
 ⟨F.kind,F.glb,F.blt,F.fr.imp fun _ h=>⟨h.1,fun sl m=>(h.2 sl m).prMono kp⟩,fun b hb=>let x:=F.own b hb; ⟨x.nfz,no b hb,x.nphi,x.ntab⟩,F.apart,F.names,F.code⟩
theorem fP {a b:Addr}{o p:Obj}(h:pr a=none) (e:pr b=some p):dk pr a o b=some p:=(cC _ _ (cy e h)).trans e
theorem St.protect (S:St T W pr env ρ σ s) {a:Addr}{o:Obj}(h:bG T W pr env ρ s a o):St T W (dk pr a o) env ρ σ s:=
 ⟨S.f.reguard (fun _ _ _ e _=>fP h.n.npr e) fun b hb=>(cC _ _ fun q:b=a=>h.no (q▸hb)).trans (S.f.own b hb).npr,
  S.r.reguard (fun b p e=>if q:b=a then .inr (q▸⟨h.n,h.at_.trans ((iH ..).symm.trans (q▸e))⟩) else .inl ((cC _ _ q).symm.trans e)) (S.r.sys.imp fun _=>fP h.n.npr)⟩
theorem St.unprotect {a:Addr}{o:Obj}(S:St T W (dk pr a o) env ρ σ s) (hp:pr a=none) (hy:∃p,pr sysModules=some p) (hc:∀v,o.data≠.cell (some v)):St T W pr env ρ σ s∧bG T W pr env ρ s a o:=
 have ha:=iH pr a o
 ⟨⟨S.f.reguard (fun c p v e h=>(cC _ _ fun q:c=a=>hc v (Option.some.inj (ha.symm.trans (q▸e))▸h)).symm.trans e) fun b hb=>kK fun p e=>b8 (S.f.own b hb).npr (fP hp e),S.r.reguard (fun _ _ e=>.inl (fP hp e)) hy⟩,
  ⟨⟨S.r.prfz _ _ ha,hp,fun h=>b8 (S.r.phi a h).2.1 ha,fun h=>b8 (S.r.tabfz a h).2 ha⟩,fun h=>b8 (S.f.own a h).npr ha,S.r.prIn _ _ ha⟩⟩
theorem St.change (S:St T W pr env ρ σ s) {a:Addr}{o o2:Obj}(h:bG T W pr env ρ s a o) (hs:Heap.SameBut a s.heap s'.heap) (e:s'.heap.get? a=some o2) (h1:s'.os=s.os) (h2:s'.gens=s.gens) (h3:s.toks≤s'.toks) :
  St T W pr env ρ σ s'∧bG T W pr env ρ s' a o2:=
 ⟨⟨S.f.le (.refl W) (fun b hb p q=>(hs.2 b fun z=>h.no (z▸hb)).trans q) S.f.own,S.r.own h.n (fun b q p h=>(hs.2 b q).trans h) h1 h2 h3⟩,⟨h.n,h.no,e⟩⟩
theorem St.lose (S:St T W pr env ρ σ s) {a:Addr}(h:dO T W pr a) (no:a∉aU env ρ) (k:∀b,b≠a→∀p,s.heap.get? b=some p→s'.heap.get? b=some p) (h1:s'.os=s.os) (h2:s'.gens=s.gens) (h3:s.toks≤s'.toks):St T W pr env ρ σ s':=
 ⟨S.f.le (.refl W) (fun b hb p q=>k b (fun z=>no (z▸hb)) p q) S.f.own,S.r.own h k h1 h2 h3⟩
theorem St.loses (S:St T W pr env ρ σ s) (k:∀b,(dO T W pr b∧b∉aU env ρ)∨∀p,s.heap.get? b=some p→s'.heap.get? b=some p) (h1:s'.os=s.os) (h2:s'.gens=s.gens) (h3:s.toks≤s'.toks):St T W pr env ρ σ s':=
 ⟨S.f.le (.refl W) (fun b hb p q=>by
  rcases k b with h | h
  ·exact absurd hb h.2
  ·exact h p q) S.f.own,S.r.own' (fun b=>(k b).imp And.left id) h1 h2 h3⟩
theorem St.hold (S:St T W pr env ρ σ s) (g:be s s') {a:Addr}{o:Obj}(e:s.heap.get? a=none) (e':s'.heap.get? a=some o):St T W pr env ρ σ s'∧bG T W pr env ρ s' a o:=
 ⟨S.grow g,S.r.new e,(fun h=>by obtain⟨p,hp⟩:=S.f.there h; rw [hp] at e; cases e),e'⟩
theorem St.still (S:St T W pr env ρ σ s) {a:Addr}{o:Obj}(h:bG T W pr env ρ s a o):St T (W.add a o) pr env ρ σ s∧W.le (W.add a o):=
 let ⟨R,L⟩:=S.r.freeze h.n h.at_
 ⟨⟨S.f.add h.no (fun _ _ _ q=>q) L,R⟩,L⟩
theorem St.give (S:St T W pr env ρ σ s) {a:Addr}{o:Obj}{x:aa}(h:bG T W pr env ρ s a o) (hx:kJ T.P ⟨W.phi++[a],W.fz,W.tk⟩ x o):St T ⟨W.phi++[a],W.fz,W.tk⟩ pr env ρ (σ++[x]) s∧W.le ⟨W.phi++[a],W.fz,W.tk⟩:=
 let ⟨R,L⟩:=S.r.alloc h.n h.at_ hx
 ⟨⟨S.f.phi h.no (fun _ _ _ q=>q) L,R⟩,L⟩
end
end Mini
set_option maxRecDepth 100000
set_option autoImplicit false
namespace Mini
open PySem PySem.W PyProof.Rows Builtin Builtin.ObjectAttr
structure mi (T:TS) (c:Addr) (ms:List (Str×Addr)):Prop where
 ga:findIn T.K (.ref c) "__getattribute__" = some (some (.builtin "object.__getattribute__"))
 gt:findIn T.K (.ref c) "__getattr__" = some none
 sa:findIn T.K (.ref c) "__setattr__" = some (some (.builtin "object.__setattr__"))
 po:plainOver T.K c=true
 cd:(clsIn T.K c).any (·.hasDict)=true
 own:findIn T.K (.ref c) "_headers" = some none
 meth:∀p∈ms,findIn T.K (.ref c) p.1=some (some (.ref p.2))∧typeIn T.K (.ref p.2)=some (.type "function")∧ck p.1 cI=false
 make:makesIn T.K c=true
 notSeq:noSeq T.K c=true
structure TF (T:TS):Prop where
 glob:∀nm v,T.C.glob nm=some v→∃v',gj T nm v'∧∀W,VR T.P W v v'
structure TF2 (T:TS):Prop extends TF T where
 cls:∀c ms,T.C.cls c=some ms→mi T c ms
theorem aI.K {T:TS}{W:Wd}{pr:Kn}{σ:H}{s:Shared}(R:aI T W pr σ s):T.K.In s.heap:=fun a o e=>R.fzIn a o (R.top a o e)
section
variable {T:TS}{W W':Wd}{pr:Kn}{env:Env}{ρ:P}{σ σ':H}{s s':Shared}{A:Around}{E:Value→Shared→Prop}{n:Nat}{K:V→H→Ws→Prop}{Q:Value→Shared→Prop}{ws:Ws}
theorem gp (n:Str):mk n.cps.toList=n:=by cases n; simp [mk]
theorem cj (R:aI T W pr σ s) {d:Nat}{dx:Addr}{es:List (List Nat×V)}(h:W.phi[d]? = some dx) (e:σ[d]? = some (.dict es)):∃ds ep,s.heap.get? dx=some (ax ds ep)∧aO T.P W es ds∧(es.map (·.1)).Nodup:=by
 obtain⟨o,h2,ds,ep,rfl,h4,h5⟩:=R.objs _ _ _ e h;exact⟨ds,ep,h2,h4,h5⟩
theorem hF (R:aI T W pr σ s) {i:Nat}{c:Addr}{d:Nat}{v:Value}(h:VR T.P W (.ref i) v) (e:σ[i]? = some (.inst c d)):∃a dx,v = .ref a∧W.phi[i]? = some a∧W.phi[d]? = some dx∧s.heap.get? a=some ⟨.ref c,some dx,.plain,#[]⟩:=by
 obtain⟨a,rfl,h1⟩:=h;obtain⟨o,h2,dx,h3,rfl⟩:=R.objs _ _ _ e h1;exact⟨a,dx,rfl,h1,h3,h2⟩
theorem kY (R:aI T W pr σ s) {i:Nat}{d:Nat}{v:Value}(h:VR T.P W (.ref i) v) (e:σ[i]? = some (.fobj (some d))):∃a dx fd,v = .ref a∧W.phi[i]? = some a∧W.phi[d]? = some dx∧s.heap.get? a=some ⟨.type "function",some dx,.func fd,#[]⟩:=by
 obtain⟨a,rfl,h1⟩:=h;obtain⟨o,h2,fd,dx,h3,rfl⟩:=R.objs _ _ _ e h1;exact⟨a,dx,fd,rfl,h1,h3,h2⟩
theorem tH (R:aI T W pr σ s) {i:Nat}{v:Value}(h:VR T.P W (.ref i) v) (e:σ[i]? = some (.fobj none)):∃a fd,v = .ref a∧W.phi[i]? = some a∧s.heap.get? a=some ⟨.type "function",none,.func fd,#[]⟩:=by
 obtain⟨a,rfl,h1⟩:=h;obtain⟨o,h2,fd,rfl⟩:=R.objs _ _ _ e h1;exact⟨a,fd,rfl,h1,h2⟩
theorem eI {a c dx:Addr}{o:Obj}(h:s.heap.get? a=some ⟨.ref c,some dx,.plain,#[]⟩) (hd:s.heap.get? dx=some o):PySem.W.InstAt s.heap a ⟨.ref c,some dx,.plain,#[]⟩ c (some o):=⟨h,rfl,rfl,hd⟩
theorem iI {c:Addr}(h:(clsIn T.K c).any (·.hasDict)=true):∃cd,clsIn T.K c=some cd∧cd.hasDict=true:=any_some h
theorem tI (F:TF2 T) {o v:V}{o':Value}{name:Str}{ex:Bool}(S:St T W pr env ρ σ s) (e:gB T.C σ o name v) (h:VR T.P W o o') (k:K v σ ws) (q:GE T W pr env ρ K Q):wpAny T.M A (getAttr o' name ex) Q E s:=by
 induction e with
 |inst hi hc hn he ha hh=>
  obtain⟨ms,hc⟩:=Option.isSome_iff_exists.mp hc;have CO:=F.cls _ ms hc;obtain⟨a,dx,rfl,h1,h2,h3⟩:=hF S.r h hi;obtain⟨ds,ep,h4,h5,h6⟩:=cj S.r h2 he;obtain⟨y,h7,h8⟩:=gE (ep:=ep) h5 ha;rw [gp] at h7;have hnm:=dF hn;simp only [cI,List.mem_cons,List.not_mem_nil,or_false] at hnm;obtain⟨cd,hcd,hdd⟩:=iI CO.cd;refine get_value (v:=y) S.r.K (eI h3 h4) CO.ga ?_ (jI hh h8) (q _ _ _ _ _ _ (.refl W) h8 S.tok k);unfold findObj;rw [hcd,Option.bind_some,hnm,CO.own,Option.bind_some];dsimp only [Option.bind_some];rw [←hnm];unfold PySem.W.ownOf;rw [if_pos hdd];dsimp only;rw [h7]; rfl
 |fobj e=>
  induction e with | mk hi hn he ha hh=>
  obtain⟨a,dx,fd,rfl,h1,h2,h3⟩:=kY S.r h hi;obtain⟨ds,ep,h4,h5,h6⟩:=cj S.r h2 he;obtain⟨y,h7,h8⟩:=gE (ep:=ep) h5 ha;rw [gp] at h7;exact y7 (T:=T) hn h3 h4 h7 (jI hh h8) (q _ _ _ _ _ _ (.refl W) h8 S.tok k)
theorem tJ {c dx x:Addr}{ms:List (Str×Addr)}(CO:mi T c ms) {name:Str}{ds:List DictEntry}{ep:Nat}{es:List (List Nat×V)}{u:V}{v:Value}{Q:Unit→Shared→Prop}(K:T.K.In s.heap) (hn:ck name cI=true) (hx:s.heap.get? x=some ⟨.ref c,some dx,.plain,#[]⟩) (hd:s.heap.get? dx=some (ax ds ep)) (h:aO T.P W es ds)
  (hv:VR T.P W u v) (hz:es.length<900) (q:∀h' ds' ep' tk,s.toks≤tk→Heap.SameBut dx s.heap h'→h'.get? dx=some (ax ds' ep')→aO T.P W (aj name.cps.toList u es) ds'→Q () { s with heap:=h',toks:=tk }) :
  wpAny T.M A (setAttr (.ref x) name v) Q E s:=by
 have hnm:=dF hn;simp only [cI,List.mem_cons,List.not_mem_nil,or_false] at hnm;obtain⟨cd,hcd,hdd⟩:=iI CO.cd;have I:=eI hx hd;refine set_plain K I CO.sa (osa_open (r:=none) (s:={ s with toks:=s.toks+1 }) K I CO.po ?_ fun b=>?_)
 ·unfold takerIn;rw [hnm,CO.own]; rfl
 ·dsimp only;refine wpAny_bind (wpAny_pure (wpAny_bind (wpAny_bind (wpAny_loadPart hx (wpAny_bind (looks_clsIn K hcd _ _ _ _ (fun _ _ e=>e) ?_))))))
  rw [hdd];refine wpAny_pure (a:=some dx) (wpAny_bind (wpAny_pure (wpAny_bind ?_)));have hnn:name=mk name.cps.toList:=(gp name).symm;rw [hnn];refine fO (T:=T) (s:={ s with toks:=s.toks+1 }) hd h hv fun h' ds' ep' hs hd' h2=>?_
  refine wpAny_bind (wpAny_lookBehind hd' (pastItsLine_dict ?_) ?_)
  ·have:=h2.length;have:=bw (k:=name.cps.toList) (x:=u) (es:=es);rw [List.size_toArray,sizeLine_eq]; omega
  ·exact wpAny_pure (q h' ds' ep' _ (by show s.toks≤s.toks+1+1; omega) hs hd' h2)
theorem y8 (F:TF2 T) {o u:V}{o' v:Value}{name:Str}{Q:Unit→Shared→Prop}(S:St T W pr env ρ σ s) (e:cY T.C σ o name u σ') (h:VR T.P W o o') (hv:VR T.P W u v)
  (q:∀W' s',W.le W'→St T W' pr env ρ σ' s'→Q () s'):wpAny T.M A (setAttr o' name v) Q E s:=by
 have hnn:name=mk name.cps.toList:=(gp name).symm
 induction e with
 |inst hi hc hn he hz=>
  obtain⟨ms,hc⟩:=Option.isSome_iff_exists.mp hc;obtain⟨a,dx,rfl,h1,h2,h3⟩:=hF S.r h hi;obtain⟨ds,ep,h4,h5,h6⟩:=cj S.r h2 he;exact tJ (F.cls _ ms hc) S.r.K hn h3 h4 h5 hv hz fun h' ds' ep' tk ht hs hd' hv'=>q W _ (.refl W) (S.store (s':={ s with heap:=h',toks:=tk }) h2 hs hd' ⟨ds',ep',rfl,hv',bM h6⟩ rfl rfl ht)
 |@fobj0 i name u hi hn=>
  obtain⟨a,fd,rfl,h1,h3⟩:=tH S.r h hi;refine tA (T:=T) h3 rfl ?_;rw [hnn];refine jh (T:=T) (W:=W) (s:={ s with toks:=s.toks+1 }) (by rw [←hnn]; exact hn) h3 hv fun h' ds' ep' hk hf hd hv'=>?_
  have L:W.le ⟨W.phi++[s.heap.objs.size],W.fz,W.tk⟩:=⟨⟨[_],rfl⟩,fun _ _ e=>e,Nat.le_refl _⟩
  obtain⟨S1,_⟩:=S.alloc (s':={ s with heap:=s.heap.push (ax ds' ep') }) (x:=.dict [(name.cps.toList,u)]) (be.push s _) (az _) (Heap.get?_push_size _ rfl) ⟨ds',ep',rfl,hv'.mono L,by simp⟩
  have S2:=S1.store (s':={ s with heap:=h',toks:=s.toks+1+1 }) (x:=.fobj (some σ.length)) (L.at h1) hk hf
   ⟨fd,_,by show (W.phi++[s.heap.objs.size])[σ.length]? = _; rw [←S.r.len,List.getElem?_append_right (Nat.le_refl _),Nat.sub_self]; rfl,rfl⟩ rfl rfl (Nat.le_add_right _ 2)
  rw [List.set_append_left _ _ (S.r.len▸(List.getElem?_eq_some_iff.mp h1).1)] at S2;exact q _ _ L S2
 |fobj hi hn he hz=>
  obtain⟨a,dx,fd,rfl,h1,h2,h3⟩:=kY S.r h hi;obtain⟨ds,ep,h4,h5,h6⟩:=cj S.r h2 he;refine tA (T:=T) h3 rfl ?_;rw [hnn];exact jg (T:=T) (s:={ s with toks:=s.toks+1 }) (by rw [←hnn]; exact hn) h3 h4 h5 hv hz fun h' ds' ep' hs hd' hv'=>q W _ (.refl W) (S.store (s':={ s with heap:=h',toks:=s.toks+1+1 }) h2 hs hd' ⟨ds',ep',rfl,hv',bM h6⟩ rfl rfl (Nat.le_add_right _ 2))
end
end Mini
set_option maxRecDepth 100000
set_option autoImplicit false
namespace Mini
open PySem PySem.W PyProof.Rows
section
variable {T:TS}{W W':Wd}{pr:Kn}{env:Env}{ρ ρ':P}{σ σ':H}{s s':Shared}{A:Around}{E:Value→Shared→Prop}{n:Nat}
theorem tL {l sl m:Addr}{ys zs:List Value}{ep ep2:Nat}{Q:Unit→Shared→Prop}(hl:s.heap.get? l=some (ak ys ep)) (hs:s.heap.get? sl=some { cls:=.type "slice",data:=.fields #[.none,.none,.none] }) (hm:s.heap.get? m=some (ak zs ep2))
  (hy:ys.length≤2 ^ 21) (hz:zs.length≤2 ^ 21) (q:∀h' ep',Heap.SameBut l s.heap h'→h'.get? l=some (ak zs ep')→Q () { s with heap:=h' }):wpAny T.M A (setItem (.ref l) (.ref sl) (.ref m)) Q E s:=by
 have IL:=ao hl;have hTs:s.TypeIs (.ref sl) "slice" :=⟨_,hs,rfl⟩;have hTm:s.TypeIs (.ref m) "list" :=⟨_,hm,rfl⟩;unfold setItem;refine wpAny_holding ?_;refine wpAny_bind (wpAny_sequenceKey IL.typeIs (by decide) ?_)
 refine wpAny_bind (wpAny_callSpecial?_slot (name:=Str.ofString "__setitem__") IL.typeIs slot_list_setitem
  (wpAny_call_entry slot_list_setitem IL.typeIs entry_list_setitem ?_ (args_list_setitem _ _ _)))
 show wpAny _ _ (Builtin.List.listSubscript? (.ref sl) >>= _) _ _ s;refine wpAny_bind ?_;unfold Builtin.List.listSubscript?;refine wpAny_bind (wpAny_specialOf hTs slice_no_index ?_);refine fI rfl (wpAny_pure ?_);show wpAny _ _ (typeOf (.ref sl) >>= _) _ _ s;refine wpAny_bind (wpAny_typeOf hTs ?_);refine aX (by decide) ?_
 rw [listSliceParts_eq];refine wpAny_bind (wpAny_bind (wpAny_field hs rfl (x:=.none) rfl (wpAny_bind (wpAny_listPart (k:=none) .none (aX (by decide) ?_)))))
 refine wpAny_bind (wpAny_field hs rfl (x:=.none) rfl (wpAny_bind (wpAny_listPart (k:=none) .none ?_)));refine wpAny_bind (wpAny_field hs rfl (x:=.none) rfl (wpAny_bind (wpAny_listPart (k:=none) .none (wpAny_pure ?_))));have hsl:sliceIndices (rawPart none) (rawPart none) (rawPart none) ys.toArray.size=pure (0,(ys.length:Int),1):=by
  rw [sliceIndices_raw none none none _ (by simp)]
  simp [sliceBounds]
 have fin:∀(g:Array Value→Array Value),g ys.toArray=zs.toArray→wpAny T.M A.in1 (Builtin.List.listUpdate (.ref l) g) (fun _ s1=>∃h' ep',Heap.SameBut l s.heap h'∧h'.get? l=some (ak zs ep')∧s1={ s with heap:=h' }) E s:=fun g hg=>by
  show wpAny T.M A.in1 (updateSeq l g) _ E s;have z1:ys.toArray.size≤sizeLine:=by rw [List.size_toArray,sizeLine_eq]; omega
  have z2:(g ys.toArray).size≤sizeLine+1:=by rw [hg,List.size_toArray,sizeLine_eq]; omega
  obtain⟨ep',he⟩:∃ep',Obj.mapSeq g (ak ys ep)=ak zs ep':=by
   obtain⟨n',hd'⟩:=Obj.data_mapSeq (o:=ak ys ep) rfl g;refine⟨n',?_⟩;have hc:=Obj.cls_mapSeq (ak ys ep) g;rw [hg] at hd';revert hd' hc;simp only [Obj.mapSeq];intro hd' hc;simp only [ak,hd']
  refine wpAny_updateSeq hl rfl ⟨_,ep',Heap.SameBut.update ..,?_,rfl⟩ z1 z2;rw [Heap.get?_update_self _ hl (by rw [he]; rfl),he]
 have e1:(ys.toArray.extract 0 (Int.toNat 0)++zs.toArray++ys.toArray.extract (max 0 (ys.length:Int)).toNat)=zs.toArray:=by
  have:(max 0 (ys.length:Int)).toNat=ys.length:=by omega
  rw [this];simp
 have hlong:Builtin.List.listTooLong (ys.toArray.size+zs.toArray.size)=false:=by
  unfold Builtin.List.listTooLong;rw [List.size_toArray,List.size_toArray,sizeLine_eq];exact decide_eq_false (by omega)
 have last:∀(f:Array Value→Array Value) (lg:List Value),f ys.toArray=zs.toArray→wpAny T.M A.in1 (do
   Builtin.List.listUpdate (.ref l) f
   letGo lg
   ret .none) (fun fin s'=>∃v,fin=Fin.done (Flow.ret v)∧wpAny T.M A (pure ()) Q E s') E s:=fun f lg hf=>by
  refine wpAny_bind (wpAny_mono (fin f hf) (fun _ s1 h1=>?_) fun _ _ z=>z)
  obtain⟨h',ep',q1,q2,rfl⟩:=h1;exact wpAny_bind (wpAny_letGo (wpAny_pure ⟨.none,rfl,wpAny_pure (q h' ep' q1 q2)⟩))
 dsimp only;split
 ·refine wpAny_bind (wpAny_listItems hm rfl (wpAny_bind (wpAny_listItems hl rfl (wpAny_bind (wpAny_of_eq hsl (fI rfl (wpAny_bind (wpAny_rule (aX ?_ (last _ _ e1))))))))));rw [hlong]; exact Bool.false_ne_true
 ·unfold Builtin.List.listAllItems;refine wpAny_bind (wpAny_bind (wpAny_typeOf hTm (fI rfl (wpAny_listItems hm rfl (wpAny_bind (wpAny_listItems hl rfl (wpAny_bind (wpAny_of_eq hsl (fI rfl (wpAny_bind (wpAny_rule (aX ?_ (last _ _ e1)))))))))))));rw [hlong]; exact Bool.false_ne_true
end
end Mini
set_option maxRecDepth 100000
set_option autoImplicit false
namespace Mini
open PySem PySem.W PyProof.Rows
noncomputable def A2 (T:TS) (W:Wd):Fl→Flow→Prop
 |.next,f=>f = .next
 |.brk,f=>f = .brk
 |.cont,f=>f = .cont
 |.ret v,f=>∃v',f = .ret v'∧VR T.P W v v'
noncomputable abbrev GT (T:TS) (W:Wd) (pr:Kn) (env:Env) (ρ:P) (K:Bool→H→Ws→Prop) (Q:Bool→Shared→Prop):Prop:=∀W' s' b σ' ws',W.le W'→St T W' pr env ρ σ' s'→K b σ' ws'→Q b s'
noncomputable abbrev GA (T:TS) (W:Wd) (pr:Kn) (env:Env) (K:P→H→Ws→Prop) (Q:Unit→Shared→Prop):Prop:=∀W' s' ρ' σ' ws',W.le W'→St T W' pr env ρ' σ' s'→K ρ' σ' ws'→Q () s'
noncomputable abbrev GS (T:TS) (W:Wd) (pr:Kn) (env:Env) (K:Fl→P→H→Ws→Prop) (Q:Flow→Shared→Prop):Prop:=∀W' s' f f' ρ' σ' ws',W.le W'→A2 T W' f f'→St T W' pr env ρ' σ' s'→K f ρ' σ' ws'→Q f' s'
structure Snd (T:TS) (n:Nat) (r:cT):Prop where
 ev:∀{e:Expr}{ρ:P}{σ:H}{ws:Ws}{K:V→H→Ws→Prop},r.E e ρ σ ws K→∀{W:Wd}{pr:Kn}{env:Env}{s:Shared}{A:Around}{E:Value→Shared→Prop}{Q:Value→Shared→Prop},St T W pr env ρ σ s→an A n→GE T W pr env ρ K Q→wpAny T.M A (eval e env) Q E s
 tst:∀{e:Expr}{ρ:P}{σ:H}{ws:Ws}{K:Bool→H→Ws→Prop},r.T e ρ σ ws K→∀{W:Wd}{pr:Kn}{env:Env}{s:Shared}{A:Around}{E:Value→Shared→Prop}{Q:Bool→Shared→Prop},St T W pr env ρ σ s→an A n→GT T W pr env ρ K Q→wpAny T.M A (isTrue e env (eval e env)) Q E s
 asg:∀{t:Expr}{v:V}{ρ:P}{σ:H}{ws:Ws}{K:P→H→Ws→Prop},r.A t v ρ σ ws K→∀{W:Wd}{pr:Kn}{env:Env}{s:Shared}{A:Around}{E:Value→Shared→Prop}{Q:Unit→Shared→Prop}{v':Value},St T W pr env ρ σ s→an A n→VR T.P W v v'→GA T W pr env K Q→wpAny T.M A (assign t env v') Q E s
 st:∀{c:Stmt}{ρ:P}{σ:H}{ws:Ws}{K:Fl→P→H→Ws→Prop},r.S c ρ σ ws K→∀{W:Wd}{pr:Kn}{env:Env}{s:Shared}{A:Around}{E:Value→Shared→Prop}{Q:Flow→Shared→Prop},St T W pr env ρ σ s→an A n→GS T W pr env K Q→wpAny T.M A (exec c env) Q E s
theorem dA.out {α:Type}{f:Wo→Option α}{ws:Ws}{K:α→Ws→Prop}{G:Prop}(h:dA f ws K) (k:∀x ws',K x ws'→G):G:=by
 cases ws with
 |nil=>exact h.elim
 |cons w ws=>exact bo.out h fun x _ h=>k x ws h
section
variable {T:TS}{W W':Wd}{pr:Kn}{env:Env}{ρ:P}{σ:H}{s s':Shared}{A:Around}{E:Value→Shared→Prop}{n:Nat}{r:cT}{ws:Ws}{C:ce}{call:ad}
theorem GT.mono {K:Bool→H→Ws→Prop}{Q:Bool→Shared→Prop}(q:GT T W pr env ρ K Q) (L:W.le W'):GT T W' pr env ρ K Q:=fun W2 s b σ ws L2=>q W2 s b σ ws (L.trans L2)
theorem GA.mono {K:P→H→Ws→Prop}{Q:Unit→Shared→Prop}(q:GA T W pr env K Q) (L:W.le W'):GA T W' pr env K Q:=fun W2 s ρ σ ws L2=>q W2 s ρ σ ws (L.trans L2)
theorem GS.mono {K:Fl→P→H→Ws→Prop}{Q:Flow→Shared→Prop}(q:GS T W pr env K Q) (L:W.le W'):GS T W' pr env K Q:=fun W2 s f f' ρ σ ws L2=>q W2 s f f' ρ σ ws (L.trans L2)
inductive we:Expr→EV→Prop
 |sub {o i:Expr}{p:Pos}:we (.Subscript o i p) (.sub o i)
 |slice {lo hi st:Option Expr}{p:Pos}:we (.Slice lo hi st p) (.slice lo hi st)
 |attr {o:Expr}{n:Str}{p:Pos}:we (.Attribute o n p) (.attr o n p)
 |name {n:Str}{p:Pos}:we (.Name n p) (.name n)
 |call {f:Expr}{a:List Expr}{k:List Keyword}{p:Pos}:we (.Call f a k p) (.call f a k)
 |str {s:Str}{k:Nat}{p:Pos}:we (.Constant (.str s) k p) (.str s.cps.toList)
 |tuple {ts:List Expr}{k:Nat}{p:Pos}:we (.Tuple ts k p) (.tuple ts)
 |other {e:Expr}(h:bz e = .other):we e .other
theorem rs (e:Expr):we e (bz e):=by
 cases e with
 |Subscript=>exact .sub
 |Slice=>exact .slice
 |Attribute=>exact .attr
 |Name=>exact .name
 |Call=>exact .call
 |Tuple=>exact .tuple
 |Constant c=>cases c <;> first | exact .str | exact .other rfl
 |_=>exact .other rfl
theorem aP {e:Expr}(h:kh e=true) (es:List Expr):starEach (e::es) env=(false,eval e env)::starEach es env:=by
 cases e <;> first | rfl | cases h
theorem aK {e:Expr}{es:List Expr}(h:ar (e::es)=true):kh e=true∧ar es=true:=Bool.and_eq_true_iff.mp h
theorem bQ {pos:Pos}:∀{es:List Expr},ar es=true→(backTo pos (starEach es env)).all (fun x=>!x.1)=true∧(backTo pos (starEach es env)).any (·.1)=false
 |[],_=>⟨rfl,rfl⟩
 |_::es,h=>by
  obtain⟨h1,h2⟩:=aK h;rw [aP h1];exact bQ (es:=es) h2
theorem cO {pos:Pos}:∀{ks:List Keyword},bC ks=true→(backToKw pos (keywordEach ks env)).all (·.1.isSome)=true∧(backToKw pos (keywordEach ks env)).any (·.1.isNone)=false
 |[],_=>⟨rfl,rfl⟩
 |⟨none,_,_⟩::_,h=>nomatch h
 |⟨some _,_,_⟩::ks,h=>cO (ks:=ks) h
theorem fQ (R:Snd T n r) {pos:Pos}:∀{es:List Expr}{W:Wd}{σ:H}{s:Shared}{ws:Ws}{K:List V→H→Ws→Prop}{Q:List Value→Shared→Prop},ar es=true→gc r ρ es σ ws K→St T W pr env ρ σ s→an A n →
  (∀W' s' vs vs' σ' ws',W.le W'→aB T.P W' vs vs'→St T W' pr env ρ σ' s'→K vs σ' ws'→vs.length=es.length→Q vs' s')→wpAny T.M A (spliced (backTo pos (starEach es env))) Q E s
 |[],W,_,s,ws,_,_,_,e,S,_,q=>Calls.spliced_nil (q W s [] [] _ ws (.refl W) .nil S e rfl)
 |_::_,_,_,_,_,_,_,h,e,S,r2,q=>by
  obtain⟨h1,h2⟩:=aK h;rw [aP h1];exact Calls.spliced_cons (R.ev e S r2 fun W1 s1 v v' σ1 ws1 L1 g1 S1 e1=>fQ R h2 e1 S1 r2 fun W2 s2 us us' σ2 ws2 L2 g2 S2 e2 hl=>q W2 s2 _ _ σ2 ws2 (L1.trans L2) (.cons (g1.mono L2) g2) S2 e2 (congrArg (· + 1) hl))
inductive cP (P:Params) (W:Wd):List (Str×V)→List (Str×Value)→Prop
 |nil:cP P W [] []
 |cons {n:Str}{x:V}{y:Value}{xs:List (Str×V)}{ys:List (Str×Value)}(h:VR P W x y) (k:cP P W xs ys):cP P W ((n,x)::xs) ((n,y)::ys)
theorem cP.mono {P:Params}{W W':Wd}(h:W.le W') {xs:List (Str×V)}{ys:List (Str×Value)}(e:cP P W xs ys):cP P W' xs ys:=by
 induction e with
 |nil=>exact .nil
 |cons a _ ih=>exact .cons (a.mono h) ih
theorem cP.nil' {P:Params}{W:Wd}{xs:List (Str×V)}{ys:List (Str×Value)}(h:cP P W xs ys) (e:xs.isEmpty=true):ys=[]:=by
 cases h with
 |nil=>rfl
 |cons=>cases e
theorem ol (R:Snd T n r) {pos:Pos}:∀{ks:List Keyword}{W:Wd}{σ:H}{s:Shared}{ws:Ws}{K:List (Str×V)→H→Ws→Prop}{Q:List Value→Shared→Prop},lF r ρ ks σ ws K→St T W pr env ρ σ s→an A n →
  (∀W' s' vs us σ' ws',W.le W'→cP T.P W' vs (((backToKw pos (keywordEach ks env)).filterMap (·.1)).zip us)→St T W' pr env ρ σ' s'→K vs σ' ws'→Q us s')→wpAny T.M A (evalAll ((backToKw pos (keywordEach ks env)).map (·.2))) Q E s
 |[],W,_,s,ws,_,_,e,S,_,q=>wpAny_evalAll_nil (q W s [] [] _ ws (.refl W) .nil S e)
 |⟨none,_,_⟩::_,_,_,_,_,_,_,e,_,_,_=>e.elim
 |⟨some nm,x,p⟩::ks,_,_,_,_,_,_,e,S,r2,q=>
  wpAny_evalAll_cons (wpAny_bind (R.ev e S r2 fun W1 s1 v v' σ1 ws1 L1 h1 S1 e1=>wpAny_bind (wpAny_standAt (wpAny_pure (ol R e1 S1 r2 fun W2 s2 us us' σ2 ws2 L2 h2 S2 e2=>q W2 s2 _ _ σ2 ws2 (L1.trans L2) (.cons (h1.mono L2) h2) S2 e2)))))
theorem jL (R:Snd T n r) {pos:Pos}{K:Bool→H→Ws→Prop}{Q:Value→Shared→Prop}:∀{ops:List CmpOp}{bs:List Expr}{W:Wd}{σ:H}{s:Shared}{a:V}{a':Value}{ws:Ws},ops.length=bs.length→lG r ρ a ops bs σ ws K→St T W pr env ρ σ s→an A n→VR T.P W a a' →
  GT T W pr env ρ K (fun b s=>Q (.bool b) s)→wpAny T.M A (compareChain pos a' ops (evalEach bs env)) Q E s
 |[],_,_,_,_,_,_,_,_,e,_,_,_,_=>e.elim
 |_::ops,bs,_,_,_,_,_,_,hl,e,S,r2,ha,q=>by
  cases bs with
  |nil=>exact e.elim
  |cons x bs=>
   cases ops with
   |nil=>
    cases bs with
    |nil=>exact chain_last (R.ev e S r2 fun W1 s1 v v' σ1 ws1 L1 h1 S1 e1=>dA.out e1 fun t ws2 e2=>qd S1 r2 e2.1 (ha.mono L1) h1 (q W1 s1 t σ1 ws2 L1 S1 e2.2))
    |cons=>cases hl
   |cons op' ops=>
    cases bs with
    |nil=>cases hl
    |cons y bs=>exact chain_link (R.ev e S r2 fun W1 s1 v v' σ1 ws1 L1 h1 S1 e1=>dA.out e1 fun t ws2 e2=>qd S1 r2 e2.1 (ha.mono L1) h1 (wpAny_truthy_bool (match t,e2.2 with
     |true,e3=>jL R (Nat.succ.inj hl) e3 S1 r2 h1 (q.mono L1)
     |false,e3=>q W1 s1 false σ1 ws2 L1 S1 e3)))
theorem iJ {pos:Pos}{a:Value}{op:CmpOp}{t:Sem Value}{Q:Bool→Shared→Prop}
  (h:wpAny T.M A t (fun b s₁=>wpAny T.M A (compareOp op a b) (fun c s₂=>wpAny T.M A (truthy c) Q E s₂) E s₁) E s):wpAny T.M A (testChain pos a [op] [t]) Q E s:=by
 show wpAny T.M A (do
  let rv ←holding [a] t
  standAt pos
  let c ←operate [a,rv] (compareOp op a rv)
  holding [c] (truthy c)) Q E s
 exact wpAny_bind (wpAny_holding (wpAny_mono h (fun b s₁ h₁=>wpAny_bind (wpAny_standAt (wpAny_bind (wpAny_operate' (wpAny_mono h₁ (fun c s₂ h₂=>wpAny_holding h₂) fun _ _ x=>x))))) fun _ _ x=>x))
theorem jM (R:Snd T n r) {pos:Pos}{K:Bool→H→Ws→Prop}{Q:Bool→Shared→Prop}:∀{ops:List CmpOp}{bs:List Expr}{W:Wd}{σ:H}{s:Shared}{a:V}{a':Value}{ws:Ws},ops.length=bs.length→lG r ρ a ops bs σ ws K→St T W pr env ρ σ s→an A n→VR T.P W a a' →
  GT T W pr env ρ K Q→wpAny T.M A (testChain pos a' ops (evalEach bs env)) Q E s
 |[],_,_,_,_,_,_,_,_,e,_,_,_,_=>e.elim
 |_::ops,bs,_,_,_,_,_,_,hl,e,S,r2,ha,q=>by
  cases bs with
  |nil=>exact e.elim
  |cons x bs=>
   cases ops with
   |nil=>
    cases bs with
    |nil=>exact iJ (R.ev e S r2 fun W1 s1 v v' σ1 ws1 L1 h1 S1 e1=>dA.out e1 fun t ws2 e2=>qd S1 r2 e2.1 (ha.mono L1) h1 (wpAny_truthy_bool (q W1 s1 t σ1 ws2 L1 S1 e2.2)))
    |cons=>cases hl
   |cons op' ops=>
    cases bs with
    |nil=>cases hl
    |cons y bs=>exact test_link (R.ev e S r2 fun W1 s1 v v' σ1 ws1 L1 h1 S1 e1=>dA.out e1 fun t ws2 e2=>qd S1 r2 e2.1 (ha.mono L1) h1 (wpAny_truthy_bool (match t,e2.2 with
     |true,e3=>jM R (Nat.succ.inj hl) e3 S1 r2 h1 (q.mono L1)
     |false,e3=>q W1 s1 false σ1 ws2 L1 S1 e3)))
theorem jN (R:Snd T n r) {K:Bool→H→Ws→Prop}{Q:Bool→Shared→Prop}:∀{es:List Expr}{W:Wd}{σ:H}{s:Shared}{ws:Ws},nu r ρ es σ ws K→St T W pr env ρ σ s→an A n→GT T W pr env ρ K Q→wpAny T.M A (allTrue .And es env) Q E s
 |[],W,_,s,ws,e,S,_,q=>wpAny_allTrue_And_nil (q W s true _ ws (.refl W) S e)
 |_::_,_,_,_,_,e,S,r2,q=>wpAny_allTrue_And_cons (R.tst e S r2 fun W1 s1 t σ1 ws1 L1 S1 e1=>match t,e1 with
  |true,e1=>jN R e1 S1 r2 (q.mono L1)
  |false,e1=>q W1 s1 false σ1 ws1 L1 S1 e1)
theorem mj (R:Snd T n r) {K:Bool→H→Ws→Prop}{Q:Bool→Shared→Prop}:∀{es:List Expr}{W:Wd}{σ:H}{s:Shared}{ws:Ws},rG r ρ es σ ws K→St T W pr env ρ σ s→an A n→GT T W pr env ρ K Q→wpAny T.M A (allTrue .Or es env) Q E s
 |[],W,_,s,ws,e,S,_,q=>wpAny_allTrue_Or_nil (q W s false _ ws (.refl W) S e)
 |_::_,_,_,_,_,e,S,r2,q=>wpAny_allTrue_Or_cons (R.tst e S r2 fun W1 s1 t σ1 ws1 L1 S1 e1=>match t,e1 with
  |true,e1=>q W1 s1 true σ1 ws1 L1 S1 e1
  |false,e1=>mj R e1 S1 r2 (q.mono L1))
theorem ml (R:Snd T n r) {pos:Pos}{K:V→H→Ws→Prop}{Q:Value→Shared→Prop}:∀{es:List Expr}{W:Wd}{σ:H}{s:Shared}{ws:Ws},rF r ρ es σ ws K→St T W pr env ρ σ s→an A n→GE T W pr env ρ K Q→wpAny T.M A (eval (.BoolOp .And es pos) env) Q E s
 |[],_,_,_,_,e,_,_,_=>e.elim
 |[_],_,_,_,_,e,S,r2,q=>R.ev e S r2 q
 |_::_::_,_,_,_,_,e,S,r2,q=>BoolOp_and (R.ev e S r2 fun W1 s1 v v' σ1 ws1 L1 h1 S1 e1=>dA.out e1 fun t ws2 e2=>fM S1 h1 e2.1 fun s2 S2=>match t,e2.2 with
  |true,e3=>ml R e3 S2 r2 (q.mono L1)
  |false,e3=>q W1 s2 v v' σ1 ws2 L1 h1 S2 e3)
theorem qh (R:Snd T n r) {pos:Pos}{K:V→H→Ws→Prop}{Q:Value→Shared→Prop}:∀{es:List Expr}{W:Wd}{σ:H}{s:Shared}{ws:Ws},xz r ρ es σ ws K→St T W pr env ρ σ s→an A n→GE T W pr env ρ K Q→wpAny T.M A (eval (.BoolOp .Or es pos) env) Q E s
 |[],_,_,_,_,e,_,_,_=>e.elim
 |[_],_,_,_,_,e,S,r2,q=>R.ev e S r2 q
 |_::_::_,_,_,_,_,e,S,r2,q=>BoolOp_or (R.ev e S r2 fun W1 s1 v v' σ1 ws1 L1 h1 S1 e1=>dA.out e1 fun t ws2 e2=>fM S1 h1 e2.1 fun s2 S2=>match t,e2.2 with
  |true,e3=>q W1 s2 v v' σ1 ws2 L1 h1 S2 e3
  |false,e3=>qh R e3 S2 r2 (q.mono L1))
variable {K:V→H→Ws→Prop}{Q:Value→Shared→Prop}
theorem hJ {a b:Nat}(h:Nat.blt a b=true):a<b:=Nat.le_of_ble_eq_true h
theorem wf (R:Snd T n r) {es:List Expr}{pos:Pos}(e:bv C call r (.List es pos) ρ σ ws K) (S:St T W pr env ρ σ s) (r2:an A n) (q:GE T W pr env ρ K Q):wpAny T.M A (eval (.List es pos) env) Q E s:=by
 obtain⟨g,e⟩:=bd.out e;obtain⟨g1,g2⟩:=Bool.and_eq_true_iff.mp g;exact wpAny_List (fQ R g2 e S r2 fun W1 s1 vs vs' σ1 ws1 L1 h1 S1 e1 hl=>⟨dj h1.length (hl▸hJ g1),(q.mono L1).list S1 h1 e1⟩)
theorem tM (R:Snd T n r) {es:List Expr}{k:Nat}{pos:Pos}(e:bv C call r (.Tuple es k pos) ρ σ ws K) (S:St T W pr env ρ σ s) (r2:an A n) (q:GE T W pr env ρ K Q):wpAny T.M A (eval (.Tuple es k pos) env) Q E s:=by
 obtain⟨g,e⟩:=bd.out e;obtain⟨g1,g2⟩:=Bool.and_eq_true_iff.mp g;refine wpAny_Tuple (fQ R g2 e S r2 fun W1 s1 vs vs' σ1 ws1 L1 h1 S1 e1 hl=>⟨dj h1.length (hl▸hJ g1),?_⟩)
 obtain⟨S2,L2⟩:=S1.freeze (be.push s1 (fE vs')) (az _) (Heap.get?_push_size _ rfl);exact q _ _ _ _ _ _ (L1.trans L2) (.mkT (Wd.add_at _ _ _) (h1.mono L2)) S2 e1
theorem jO (R:Snd T n r) {o:Option Expr}{K:Option Int→H→Ws→Prop}(e:ny r ρ o σ ws K) (S:St T W pr env ρ σ s) (r2:an A n)
  (q:∀W' s' lo σ' ws',W.le W'→St T W' pr env ρ σ' s'→K (lo.map (·.1)) σ' ws'→Q (partValue lo) s'):wpAny T.M A (evalPart o env) Q E s:=by
 cases o with
 |none=>exact evalPart_none_step (q W s none σ ws (.refl W) S e)
 |some x=>
  exact evalPart_some_step (R.ev e S r2 fun W1 s1 v v' σ1 ws1 L1 h1 S1 e1=>e1.vr h1 fun i t e2=>q W1 s1 (some (i,t)) σ1 ws1 L1 S1 e2.2)
theorem iK {value idx:Expr}{pos:Pos}(h:wpAny T.M A (eval value env) (fun o s₁=>wpAny T.M A (eval idx env) (fun i s₂=>kT T A E s₂ o i Q) E s₁) E s):wpAny T.M A (eval (.Subscript value idx pos) env) Q E s:=by
 rw [eval_Subscript];refine wpAny_bind (wpAny_mono h (fun o s₁ h₁=>wpAny_bind (wpAny_holding (wpAny_mono h₁ (fun i s₂ h₂=>wpAny_bind (wpAny_standAt ?_)) fun _ _ x=>x))) fun _ _ x=>x)
 obtain⟨t,id,h3,h4,h5⟩:=h₂;refine wpAny_bind ?_;rw [getitemInPython_of_ne h4.not_modules];refine wpAny_bind (wpAny_specialOf h4 h3 ?_);have fin:∀vs,wpAny T.M A (operate vs (PySem.getItem o i)) (fun r s₃=>wpAny T.M A (letTemporaryGo value o r >>= fun _=>pure r) Q E s₃) E s₂:=fun vs=>
  wpAny_operating (wpAny_mono h5 (fun r s₃ h₃=>wpAny_bind (wpAny_letTemporaryGo (wpAny_pure h₃))) fun _ _ x=>x)
 refine wpAny_pure ?_;unfold subscripted;split;all_goals first | exact wpAny_bind (fin _) | contradiction
theorem kZ (R:Snd T n r) {o i:Expr}{pos:Pos}(e:bv C call r (.Subscript o i pos) ρ σ ws K) (S:St T W pr env ρ σ s) (r2:an A n) (q:GE T W pr env ρ K Q):wpAny T.M A (eval (.Subscript o i pos) env) Q E s:=by
 refine iK (R.ev e S r2 fun W1 s1 ov o' σ1 ws1 L1 h1 S1 e1=>?_)
 have q1:=q.mono L1;have go:∀{i:Expr},(r.E i ρ σ1 ws1 fun iv σ ws=>nt ws fun v ws=>bx σ ov iv v∧K v σ ws)→wpAny T.M A (eval i env) (fun i' s₂=>kT T A E s₂ o' i' Q) E s1:=
  fun e1=>R.ev e1 S1 r2 fun W2 s2 iv i' σ2 ws2 L2 h2 S2 e2=>dA.out e2 fun v ws3 e3=>yX S2 e3.1 (h1.mono L2) h2 e3.2 (q1.mono L2)
 clear q e;revert e1;have x:=rs i;generalize bz i=v at x
 induction x with
 |@slice lo hi st p=>
  intro e1;obtain⟨g,e0⟩:=bd.out e1;obtain rfl:=Option.isNone_iff_eq_none.mp g;refine wpAny_Slice (jO R e0 S1 r2 fun W2 s2 lo' σ2 ws2 L2 S2 e2=>jO R e2 S2 r2 fun W3 s3 hi' σ3 ws3 L3 S3 e3=>dA.out e3 fun v ws4 e4=>?_)
  exact xl (evalPart_none _) (wpAny_pure (yY S3 e4.1 (h1.mono (L2.trans L3)) rfl e4.2 (q1.mono (L2.trans L3))))
 |_=>exact go
theorem wg {nm:Str}{pos:Pos}(e:bv C call r (.Name nm pos) ρ σ ws K) (S:St T W pr env ρ σ s) (q:GE T W pr env ρ K Q):wpAny T.M A (eval (.Name nm pos) env) Q E s:=by
 obtain⟨g,e⟩:=bd.out e;exact bo.out e fun v e1 k=>kN S e1 (beq_eq_false_iff_ne.mpr fun q=>Bool.false_ne_true ((congrArg not (sEq_iff.mpr q)).symm.trans g)) fun v' h=>q.here S h k
theorem tN {c:Const}{k:Nat}{pos:Pos}(e:bv C call r (.Constant c k pos) ρ σ ws K) (S:St T W pr env ρ σ s) (q:GE T W pr env ρ K Q):wpAny T.M A (eval (.Constant c k pos) env) Q E s:=by
 cases c with
 |none=>exact wpAny_Constant_none (q.here S .mkN e)
 |bool b=>exact wpAny_Constant_bool (q.here S .mkB e)
 |int i=>exact wpAny_Constant_int (q.int S e)
 |str x=>exact wpAny_Constant_str (q.str1 S rfl e)
 |_=>exact e.elim
theorem om (R:Snd T n r) {a b:Expr}{op:Operator}{pos:Pos}(e:bv C call r (.BinOp a op b pos) ρ σ ws K) (S:St T W pr env ρ σ s) (r2:an A n) (q:GE T W pr env ρ K Q):wpAny T.M A (eval (.BinOp a op b pos) env) Q E s:=
 wpAny_BinOp (R.ev e S r2 fun W1 s1 x x' σ1 ws1 L1 h1 S1 e1=>R.ev e1 S1 r2 fun W2 s2 y y' σ2 ws2 L2 h2 S2 e2=>dA.out e2 fun v ws3 e3=>yQ S2 e3.1 (h1.mono L2) h2 e3.2 (q.mono (L1.trans L2)))
theorem oo {x:V}{x':Value}{t:Bool}(S:St T W pr env ρ σ s) (h:VR T.P W x x') (e:Tr σ x t) (q:∀s',St T W pr env ρ σ s'→Q (.bool (!t)) s'):wpAny T.M A (PySem.unaryOp .Not x') Q E s:=
 wpAny_holding (wpAny_bind (fM S h e fun s1 S1=>wpAny_pure (q s1 S1)))
theorem qR (R:Snd T n r) {a:Expr}{op:UnaryOp}{pos:Pos}(e:bv C call r (.UnaryOp op a pos) ρ σ ws K) (S:St T W pr env ρ σ s) (r2:an A n) (q:GE T W pr env ρ K Q):wpAny T.M A (eval (.UnaryOp op a pos) env) Q E s:=by
 cases op with
 |Not=>exact wpAny_UnaryOp (R.ev e S r2 fun W1 s1 x x' σ1 ws1 L1 h1 S1 e1=>dA.out e1 fun t ws2 e2=>oo S1 h1 e2.1 fun s2 S2=>q W1 s2 _ _ σ1 ws2 L1 .mkB S2 e2.2)
 |_=>exact wpAny_UnaryOp (R.ev e S r2 fun W1 s1 x x' σ1 ws1 L1 h1 S1 e1=>dA.out e1 fun v ws2 e2=>yR S1 e2.1 h1 e2.2 (q.mono L1))
theorem oq (R:Snd T n r) {t a b:Expr}{pos:Pos}(e:bv C call r (.IfExp t a b pos) ρ σ ws K) (S:St T W pr env ρ σ s) (r2:an A n) (q:GE T W pr env ρ K Q):wpAny T.M A (eval (.IfExp t a b pos) env) Q E s:=
 wpAny_IfExp (R.tst e S r2 fun W1 s1 c σ1 ws1 L1 S1 e1=>match c,e1 with
  |true,e1=>R.ev e1 S1 r2 (q.mono L1)
  |false,e1=>R.ev e1 S1 r2 (q.mono L1))
theorem jP {ops:List CmpOp}{bs:List Expr}(g:(!lastMarks ops bs&&Nat.beq ops.length bs.length)=true):lastMarks ops bs=false∧ops.length=bs.length:=
 let ⟨a,b⟩:=Bool.and_eq_true_iff.mp g
 ⟨by simpa using a,Nat.eq_of_beq_eq_true b⟩
theorem k6 (R:Snd T n r) {a:Expr}{ops:List CmpOp}{bs:List Expr}{pos:Pos}(e:bv C call r (.Compare a ops bs pos) ρ σ ws K) (S:St T W pr env ρ σ s) (r2:an A n) (q:GE T W pr env ρ K Q):wpAny T.M A (eval (.Compare a ops bs pos) env) Q E s:=by
 obtain⟨g,e⟩:=bd.out e;obtain⟨g1,g2⟩:=jP g;show wpAny T.M A (do compareChain pos (←eval a env) ops (markedEach ops bs (evalEach bs env))) Q E s
 rw [markedEach_of_false _ _ _ g1];exact wpAny_bind (R.ev e S r2 fun W1 s1 x x' σ1 ws1 L1 h1 S1 e1=>jL R g2 e1 S1 r2 h1 fun W2 s2 t σ2 ws2 L2 S2 e2=>q W2 s2 _ _ σ2 ws2 (L1.trans L2) .mkB S2 e2)
theorem qS {e:Expr}{K:Bool→H→Ws→Prop}{Q:Bool→Shared→Prop}(he:PySem.isTrue e env (eval e env)=(do let v ←eval e env; standAt e.pos; holding [v] (truthy v)))
  (ev:∀{K:V→H→Ws→Prop}{Q:Value→Shared→Prop},bv C call r e ρ σ ws K→GE T W pr env ρ K Q→wpAny T.M A (eval e env) Q E s) (h:uQ C call r e ρ σ ws K) (q:GT T W pr env ρ K Q):wpAny T.M A (PySem.isTrue e env (eval e env)) Q E s:=by
 rw [he];exact wpAny_bind (ev h fun W1 s1 v v' σ1 ws1 L1 h1 S1 e1=>dA.out e1 fun t ws2 e2=>wpAny_bind (wpAny_standAt (wpAny_holding (fM S1 h1 e2.1 fun s2 S2=>q W1 s2 t σ1 ws2 L1 S2 e2.2))))
inductive ot:Expr→Prop
 |not {a:Expr}{p:Pos}:ot (.UnaryOp .Not a p)
 |and {vs:List Expr}{p:Pos}:ot (.BoolOp .And vs p)
 |or {vs:List Expr}{p:Pos}:ot (.BoolOp .Or vs p)
 |ife {t a b:Expr}{p:Pos}:ot (.IfExp t a b p)
 |cmp {a:Expr}{ops:List CmpOp}{bs:List Expr}{p:Pos}:ot (.Compare a ops bs p)
 |plain {e:Expr}(h:∀env,PySem.isTrue e env (eval e env)=(do let v ←eval e env; standAt e.pos; holding [v] (truthy v))) (h2:∀C call r,rK C call r e=uQ C call r e):ot e
theorem Bp (e:Expr):ot e:=by
 cases e with
 |UnaryOp op=>cases op <;> first | exact .not | exact .plain (fun _=>rfl) (fun _ _ _=>rfl)
 |BoolOp op=>cases op <;> first | exact .and | exact .or
 |IfExp=>exact .ife
 |Compare=>exact .cmp
 |_=>exact .plain (fun _=>rfl) (fun _ _ _=>rfl)
theorem tO (R:Snd T n r) {e:Expr}{K:Bool→H→Ws→Prop}{Q:Bool→Shared→Prop}(h:rK C call r e ρ σ ws K) (S:St T W pr env ρ σ s) (r2:an A n)
  (ev:∀{K:V→H→Ws→Prop}{Q:Value→Shared→Prop},bv C call r e ρ σ ws K→GE T W pr env ρ K Q→wpAny T.M A (eval e env) Q E s) (q:GT T W pr env ρ K Q):wpAny T.M A (PySem.isTrue e env (eval e env)) Q E s:=by
 have x:=Bp e
 induction x with
 |not=>exact wpAny_isTrue_Not (R.tst h S r2 fun W1 s1 t σ1 ws1 L1 S1 e1=>q W1 s1 _ σ1 ws1 L1 S1 e1)
 |and=>exact wpAny_isTrue_BoolOp (jN R h S r2 q)
 |or=>exact wpAny_isTrue_BoolOp (mj R h S r2 q)
 |ife=>exact isTrue_IfExp (R.tst h S r2 fun W1 s1 d σ1 ws1 L1 S1 e1=>match d,e1 with
  |true,e1=>R.tst e1 S1 r2 (q.mono L1)
  |false,e1=>R.tst e1 S1 r2 (q.mono L1))
 |@cmp a ops bs pos=>
  obtain⟨g,h⟩:=bd.out h;obtain⟨g1,g2⟩:=jP g;show wpAny T.M A (do testChain pos (←eval a env) ops (markedEach ops bs (evalEach bs env))) Q E s
  rw [markedEach_of_false _ _ _ g1];exact wpAny_bind (R.ev h S r2 fun W1 s1 x x' σ1 ws1 L1 h1 S1 e1=>jM R g2 e1 S1 r2 h1 (q.mono L1))
 |plain h1 h2=>rw [h2] at h; exact qS (h1 env) ev h q
end
end Mini
set_option maxRecDepth 100000
set_option autoImplicit false
namespace Mini
open PySem PySem.W PyProof.Rows
noncomputable def jQ (pr:Kn):List (Addr×Obj)→Kn
 |[]=>pr
 |p::r=>dk (jQ pr r) p.1 p.2
structure aQ (T:TS) (W:Wd) (pr:Kn) (env:Env) (ρ:P) (s:Shared) (hs:List (Addr×Obj)):Prop where
 nd:(hs.map (·.1)).Nodup
 at_:∀p∈hs,bG T W pr env ρ s p.1 p.2
 nc:∀p∈hs,∀v,p.2.data≠.cell (some v)
section
variable {T:TS}{W W':Wd}{pr:Kn}{env:Env}{ρ:P}{σ σ':H}{s s':Shared}{A:Around}{E:Value→Shared→Prop}{n:Nat}{r:cT}
theorem qT {α:Type}{F:α→Prop}:∀x∈([]:List α),F x:=fun _ h=>nomatch h
theorem fS {pr:Kn}{a:Addr}:∀{hs:List (Addr×Obj)},a∉hs.map (·.1)→jQ pr hs a=pr a
 |[],_=>rfl
 |_::_,h=>have h:=not_or.mp fun q=>h (List.mem_cons.mpr q); (cC _ _ h.1).trans (fS h.2)
theorem tP {pr:Kn}{hs:List (Addr×Obj)}(hn:∀p∈hs,pr p.1=none) {a:Addr}{o:Obj}(e:pr a=some o):jQ pr hs a=some o:=
 (fS fun m=>let ⟨_,hx,q⟩:=List.mem_map.mp m; b8 (hn _ hx) (q▸e)).trans e
theorem St.protects:∀{hs:List (Addr×Obj)},St T W pr env ρ σ s→aQ T W pr env ρ s hs→St T W (jQ pr hs) env ρ σ s
 |[],S,_=>S
 |_::_,S,h=>
  have nd:=List.nodup_cons.mp h.nd;have a:=List.forall_mem_cons.mp h.at_
  (St.protects S ⟨nd.2,a.2,(List.forall_mem_cons.mp h.nc).2⟩).protect ⟨⟨a.1.n.nfz,(fS nd.1).trans a.1.n.npr,a.1.n.nphi,a.1.n.ntab⟩,a.1.no,a.1.at_⟩
theorem St.unprotects:∀{hs:List (Addr×Obj)},St T W (jQ pr hs) env ρ σ s→(hs.map (·.1)).Nodup→(∀p∈hs,pr p.1=none)→(∃p,pr sysModules=some p)→(∀p∈hs,∀v,p.2.data≠.cell (some v))→St T W pr env ρ σ s∧aQ T W pr env ρ s hs
 |[],S,_,_,_,_=>⟨S,List.nodup_nil,qT,qT⟩
 |p::r,S,nd,hn,hy,hc=>by
  have nd':=List.nodup_cons.mp nd;have n':=List.forall_mem_cons.mp hn;have c':=List.forall_mem_cons.mp hc;obtain⟨S1,h1⟩:=S.unprotect ((fS nd'.1).trans n'.1) (hy.imp fun _=>tP n'.2) c'.1
  obtain⟨S2,h2⟩:=St.unprotects S1 nd'.2 n'.2 hy c'.2;exact⟨S2,nd,List.forall_mem_cons.mpr ⟨⟨⟨h1.n.nfz,n'.1,h1.n.nphi,h1.n.ntab⟩,h1.no,h1.at_⟩,h2.at_⟩,hc⟩
theorem aQ.le {hs:List (Addr×Obj)}(h:aQ T W pr env ρ s hs):(∀p∈hs,pr p.1=none):=fun p hp=>(h.at_ p hp).n.npr
theorem aQ.one {a:Addr}{o:Obj}(h:bG T W pr env ρ s a o) (hc:∀v,o.data≠.cell (some v)):aQ T W pr env ρ s [(a,o)]:=⟨List.nodup_cons.mpr ⟨fun m=>(nomatch m),List.nodup_nil⟩,List.forall_mem_cons.mpr ⟨h,qT⟩,List.forall_mem_cons.mpr ⟨hc,qT⟩⟩
theorem aQ.two {a b:Addr}{o p:Obj}(h:bG T W pr env ρ s a o) (hc:∀v,o.data≠.cell (some v)) (k:bG T W pr env ρ s b p) (kc:∀v,p.data≠.cell (some v)) (ne:a≠b):aQ T W pr env ρ s [(a,o),(b,p)]:=
 ⟨List.nodup_cons.mpr ⟨fun m=>ne (List.mem_singleton.mp m),(aQ.one k kc).nd⟩,List.forall_mem_cons.mpr ⟨h,(aQ.one k kc).at_⟩,List.forall_mem_cons.mpr ⟨hc,(aQ.one k kc).nc⟩⟩
end
noncomputable def xm (g:Option Nat) (xs:List V) (σ:H):Prop:=match g with
 |none=>True
 |some i=>σ[i]? = some (.list xs)
theorem ph.out {g:Option Nat}{xs:List V}{σ:H}{p:Prop}(h:ph g xs σ p):xm g xs σ∧p:=match g,h with
 |none,h=>⟨trivial,h⟩
 |some _,h=>h
noncomputable def Nx (T:TS) (A:Around) (I:Addr) (tgt:Expr) (G:H→Prop):List V→Wd→List (Addr×Obj)→Prop
 |[],W,hs=>∀(pr:Kn) (env:Env) (ρ:P) (σ:H) (s:Shared) (Q:Option Value→Shared→Prop) (E:Value→Shared→Prop),G σ→St T W pr env ρ σ s→aQ T W pr env ρ s hs →
   (∀W' s',W.le W'→St T W' pr env ρ σ s'→Q none s')→wpAny T.M A (pyNext (.ref I)) Q E s
 |x::xs,W,hs=>∀(pr:Kn) (env:Env) (ρ:P) (σ:H) (s:Shared) (Q:Option Value→Shared→Prop) (E:Value→Shared→Prop),G σ→St T W pr env ρ σ s→aQ T W pr env ρ s hs →
   (∀W' v' s',W.le W'→VR T.P W' x v' →
    (∀(Q':Unit→Shared→Prop) (E':Value→Shared→Prop),(∀W'' s'' hs'',W'.le W''→St T W'' pr env ρ σ s''→aQ T W'' pr env ρ s'' hs''→(∀W2,W''.le W2→Nx T A I tgt G xs W2 hs'')→Q' () s'')→wpAny T.M A (letOwnedTupleGo tgt (.ref I) v') Q' E' s') →
    Q (some v') s')→wpAny T.M A (pyNext (.ref I)) Q E s
section
variable {T:TS}{W W':Wd}{pr:Kn}{env:Env}{ρ:P}{σ σ':H}{s s':Shared}{A:Around}{E:Value→Shared→Prop}{n:Nat}{r:cT}
noncomputable def ownTypes:List String:=["enumerate","zip","dict_itemiterator","dict_reverseitemiterator","odict_iterator","itertools.zip_longest","itertools.pairwise"]
theorem jR {tgt:Expr}{I:Addr}{v:Value}{o:Obj}{ty:String}{vs:Array Value}{Q:Unit→Shared→Prop}(ho:s.heap.get? I=some o) (hc:o.cls = .type ty) (hd:o.data = .fields vs) (hty:ownTypes.contains ty=false) (q:Q () s) :
  wpAny T.M A (letOwnedTupleGo tgt (.ref I) v) Q E s:=by
 have tail:wpAny T.M A (do
   let (.ref r,.ref a):=((Value.ref I),v) | return
   let o ←load r
   match o.cls,o.data with
   |.type n,.fields vs=>
    if ["enumerate","zip","dict_itemiterator","dict_reverseitemiterator","odict_iterator","itertools.zip_longest","itertools.pairwise"].contains n&&vs[0]? == some (rawInt a) then
     rule "for.unpacks-the-owned-tuple"
     updateField r 0 .none
   |_,_=>pure ()) Q E s:=by
  cases v with
  |ref a=>
   show wpAny T.M A (load I >>= _) Q E s;refine wpAny_bind (wpAny_load ho ?_);rw [hc,hd];exact aX (fun h=>Bool.false_ne_true (hty.symm.trans (Bool.and_eq_true_iff.mp h).1)) (wpAny_pure q)
  |_=>exact wpAny_pure q
 cases tgt <;> first | exact tail | exact wpAny_pure q
noncomputable def ji (W:Wd) (I:Addr) (o:Obj) (S0:Nat→Heap→Prop) (i:Nat):Prop:=∀h:Heap,h.get? I=some o→(∀b p,W.fz b=some p→h.get? b=some p)→S0 i h
theorem ji.mono {I:Addr}{o:Obj}{S0:Nat→Heap→Prop}{i:Nat}(L:W.le W') (h:ji W I o S0 i):ji W' I o S0 i:=fun h' h1 h2=>h h' h1 fun b p e=>h2 b p (L.fz _ _ e)
theorem ji.of {fp:List Addr}{I:Addr}{o:Obj}{S0:Nat→Heap→Prop}{i:Nat}{h0:Heap}(frame:∀i h h',S0 i h→(∀b∈fp,∀o,h.get? b=some o→h'.get? b=some o)→S0 i h') (fpz:∀b∈fp,b=I∨∃p,W.fz b=some p) (hS:S0 i h0) (hI:h0.get? I=some o)
  (hz:∀b,b∈fp→b≠I→∀p,W.fz b=some p→h0.get? b=some p):ji W I o S0 i:=fun h h1 h2=>frame _ _ _ hS fun b hb p e=>
 if q:b=I then (q▸h1).trans ((q▸hI).symm.trans e) else let ⟨p0,e0⟩:=(fpz b hb).resolve_left q; (h2 _ _ e0).trans ((hz b hb q _ e0).symm.trans e)
theorem qi {I:Addr}{tgt:Expr}{G:H→Prop}{fp:List Addr}{m:Nat}{P0:Nat→Value→Prop}{S0:Nat→Heap→Prop}(K:Walks T.prog T.w A I fp [I] m P0 S0)
  (ty:∀i h,S0 i h→∃o t vs,h.get? I=some o∧o.cls = .type t∧o.data = .fields vs∧ownTypes.contains t=false) :
  ∀(xs:List V) (i:Nat) (W:Wd) (o:Obj),i+xs.length=m→(∀b∈fp,b=I∨∃p,W.fz b=some p)→ji W I o S0 i→(∀j x v,xs[j]? = some x→P0 (i+j) v→VR T.P W x v)→Nx T A I tgt G xs W [(I,o)]
 |[],i,W,o,hm,_,hw,_=>fun pr env ρ σ s Q E _ S hs q=>
  have hI:=hs.at_ _ List.mem_cons_self
  wpAny_with_toks (Nat.le_refl s.toks) (K.done s _ _ ((show i=m from hm)▸hw _ hI.at_ S.r.fzIn) fun h' tk hk htk=>q W _ (.refl W) (S.lose hI.n hI.no (fun b hb p e=>hk b p (fun m=>hb (List.mem_singleton.mp m)) e) rfl rfl htk))
 |x::xs,i,W,o,hm,fpz,hw,hv=>fun pr env ρ σ s Q E _ S hs q=>
  have hI:=hs.at_ _ List.mem_cons_self
  wpAny_with_toks (Nat.le_refl s.toks) (K.item i s _ _ (hm▸Nat.lt_add_of_pos_right (Nat.succ_pos _)) (hw _ hI.at_ S.r.fzIn) fun v h' tk hP hst' hk htk=>by
   have keep:∀b,b≠I→∀p,s.heap.get? b=some p→h'.get? b=some p:=fun b hb p e=>hk b p (fun m=>hb (List.mem_singleton.mp m)) e
   have S1:St T W pr env ρ σ { s with heap:=h',toks:=tk }:=S.lose hI.n hI.no keep rfl rfl htk
   obtain⟨o1,t1,vs1,g1,g2,g3,g4⟩:=ty _ _ hst';refine q W v _ (.refl W) (hv 0 x v rfl hP) fun Q' E' q'=>jR g1 g2 g3 g4 (q' W _ [(I,o1)] (.refl W) S1 (.one ⟨hI.n,hI.no,g1⟩ fun v e=>nomatch g3.symm.trans e) fun W2 L2=>?_)
   exact qi K ty xs (i+1) W2 o1 ((Nat.succ_add_eq_add_succ i xs.length).trans hm) (fun b hb=>(fpz b hb).imp id fun⟨p,e⟩=>⟨p,L2.fz _ _ e⟩)
    (.mono L2 (.of K.frame fpz hst' g1 fun b _ hb p e=>keep b hb p (S.r.fzIn _ _ e))) fun j x v e1 e2=>(hv (j+1) x v e1 (Nat.add_right_comm i 1 j▸e2)).mono L2)
end
noncomputable def mn (l:Addr) (k:Nat) (d:Option Addr) (sl:Array (Option Value)):Obj:={ cls:=.type "list_iterator",dict:=d,data:=.fields #[.ref l,.int k 0],slots:=sl }
theorem y9 {h:Heap}{I a:Addr}{k:Nat}(x:h.IsListIter I a k):∃d sl,h.get? I=some (mn a k d sl):=by
 obtain⟨⟨c,d,dt,sl⟩,g1,g2,g3⟩:=x;dsimp only at g2 g3;subst g2 g3;exact⟨d,sl,g1⟩
theorem za {s:Shared}{I a:Addr}{k:Nat}{d:Option Addr}{sl:Array (Option Value)}(h:s.heap.get? I=some (mn a k d sl)):s.heap.IsListIter I a k:=⟨_,h,rfl,rfl⟩
theorem tQ {l:Addr}{k:Nat}{d:Option Addr}{sl:Array (Option Value)}(v:Value):(mn l k d sl).data≠.cell (some v):=fun e=>nomatch e
theorem qj {T:TS}{A:Around}(hh:A.handled=none) {tgt:Expr}{i:Nat}{I a:Addr}{xs0:List V}:∀(xs:List V) (k:Nat) (W:Wd) (d:Option Addr) (sl:Array (Option Value)),xs=xs0.drop k→W.phi[i]? = some a→Nx T A I tgt (xm (some i) xs0) xs W [(I,mn a k d sl)]
 |[],k,W,d,sl,hk,ha=>fun pr env ρ σ s Q E hg S hs q=>by
  obtain⟨o,ho,ys,ep,rfl,hv⟩:=S.r.objs i _ a hg ha;have hI:=hs.at_ _ List.mem_cons_self;exact wpAny_pyNext_list_end hh (za hI.at_) (ao ho) (by rw [List.getElem?_toArray,List.getElem?_eq_none (hv.length▸List.drop_eq_nil_iff.mp hk.symm)]) fun h' hx=>q W _ (.refl W) (S.lose hI.n hI.no (fun b hb p e=>hx b p hb e) rfl rfl (Nat.le_refl _))
 |x::xs,k,W,d,sl,hk,ha=>fun pr env ρ σ s Q E hg S hs q=>by
  obtain⟨o,ho,ys,ep,rfl,hv⟩:=S.r.objs i _ a hg ha;have hI:=hs.at_ _ List.mem_cons_self;have hx:xs0[k]? = some x:=by have:=List.getElem?_drop (xs:=xs0) (i:=k) (j:=0); rw [←hk] at this; exact this.symm
  obtain⟨y,hy,hxy⟩:=hv.get hx;refine wpAny_pyNext_list_item (za hI.at_) (ao ho) (x:=y) (by rw [List.getElem?_toArray]; exact hy) fun h' hit' hs'=>?_
  obtain⟨d1,sl1,g1⟩:=y9 hit';obtain⟨S1,h1⟩:=S.change (s':={ s with heap:=h' }) hI hs' g1 rfl rfl (Nat.le_refl _)
  exact q W y _ (.refl W) hxy fun Q' E' q'=>jR h1.at_ rfl rfl (by decide) (q' W _ _ (.refl W) S1 (.one h1 tQ) fun W2 L2=>qj hh xs (k+1) W2 d1 sl1 (by rw [←List.drop_drop,←hk]; rfl) (L2.at ha))
end Mini
set_option maxRecDepth 100000
set_option autoImplicit false
namespace Mini
open PySem PySem.W PyProof.Rows
noncomputable def Sf (T:TS) (A:Around) (I:Addr) (W:Wd) (hs:List (Addr×Obj)):Prop:=
 ∀(pr:Kn) (env:Env) (ρ:P) (σ:H) (s:Shared) (Q:Value→Shared→Prop) (E:Value→Shared→Prop),St T W pr env ρ σ s→aQ T W pr env ρ s hs→Q (.ref I) s→wpAny T.M A (pyIter (.ref I)) Q E s
noncomputable def Go (T:TS) (A:Around) (tgt:Expr) (xs:List V) (W:Wd) (pr:Kn) (env:Env) (ρ:P) (σ:H) (Q:Value→Shared→Prop):Prop:=
 ∀I W' s' hs,W.le W'→St T W' pr env ρ σ s'→aQ T W' pr env ρ s' hs→(∀W2,W'.le W2→Nx T A I tgt (xm none xs) xs W2 hs)→(∀W2,W'.le W2→Sf T A I W2 hs)→Q (.ref I) s'
section
variable {T:TS}{W W':Wd}{pr:Kn}{env:Env}{ρ:P}{σ σ':H}{s s':Shared}{A:Around}{E:Value→Shared→Prop}{n:Nat}{r:cT}
theorem wh {I:Addr}{fp:List Addr}{m:Nat}{P0:Nat→Value→Prop}{S0:Nat→Heap→Prop}(K:Walks T.prog T.w A I fp [I] m P0 S0) {i:Nat}{o:Obj}(hw:ji W I o S0 i):Sf T A I W [(I,o)]:=
 fun pr env ρ σ s Q E S hs q=>K.self i s Q E (hw _ (hs.at_ _ List.mem_cons_self).at_ S.r.fzIn) q
theorem hO {tgt:Expr}{xs:List V}{fp:List Addr}{P0:Nat→Value→Prop}{S0:Nat→Heap→Prop}{o:Obj}{Q:Value→Shared→Prop}(S:St T W pr env ρ σ s) (g:be s s') (e':s'.heap.get? s.heap.objs.size=some o)
  (K:Walks T.prog T.w A s.heap.objs.size fp [s.heap.objs.size] xs.length P0 S0)
  (ty:∀i h,S0 i h→∃o t vs,h.get? s.heap.objs.size=some o∧o.cls = .type t∧o.data = .fields vs∧ownTypes.contains t=false)
  (h0:S0 0 s'.heap) (hfp:∀b∈fp,b=s.heap.objs.size∨∃p,W.fz b=some p) (hv:∀j x v,xs[j]? = some x→P0 j v→VR T.P W x v) (q:Go T A tgt xs W pr env ρ σ Q):Q (.ref s.heap.objs.size) s':=by
 obtain⟨S1,h1⟩:=S.hold g (az _) e';obtain⟨o1,t1,vs1,g1,g2,g3,g4⟩:=ty _ _ h0;have hw:ji W s.heap.objs.size o S0 0:=.of K.frame hfp h0 e' fun b _ _ p e=>S1.r.fzIn _ _ e
 exact q _ W s' [(s.heap.objs.size,o)] (.refl W) S1 (.one h1 fun v e=>nomatch g3.symm.trans ((congrArg Obj.data (Option.some.inj (g1.symm.trans e'))).trans e))
  (fun W2 L2=>qi K ty xs 0 W2 o (Nat.zero_add _) (fun b hb=>(hfp b hb).imp id fun⟨p,e⟩=>⟨p,L2.fz _ _ e⟩) (hw.mono L2) fun j x v e1 e2=>(hv j x v e1 (Nat.zero_add j▸e2)).mono L2) fun W2 L2=>wh K (hw.mono L2)
theorem k7 {l:Addr}{o:Obj}(h:s.heap.get? l=some o):l≠s.heap.objs.size:=Nat.ne_of_lt (Heap.lt_size h)
theorem tR {xs:List V}{ys:List Value}(h:aB T.P W xs ys) (j:Nat) (x:V) (u:Value) (e1:xs[j]? = some x) (e2:ys.toArray[j]? = some u):VR T.P W x u:=
 let ⟨_,h3,h4⟩:=h.get e1
 Option.some.inj (h3.symm.trans (List.getElem?_toArray.symm.trans e2))▸h4
theorem ou {I l:Addr}{o:Obj}(h:W.fz l=some o):∀b∈[I,l],b=I∨∃p,W.fz b=some p:=List.forall_mem_cons.mpr ⟨.inl rfl,List.forall_mem_cons.mpr ⟨.inr ⟨_,h⟩,qT⟩⟩
theorem ow {I:Addr}:∀b∈[I],b=I∨∃p,W.fz b=some p:=List.forall_mem_cons.mpr ⟨.inl rfl,qT⟩
theorem qU {tgt:Expr}{xs:List V}{v:Value}{Q:Value→Shared→Prop}(S:St T W pr env ρ σ s) (r2:an A n) (h:VR T.P W (.list xs) v) (q:Go T A tgt xs W pr env ρ σ Q):wpAny T.M A (pyIter v) Q E s:=
 h.l fun l ys ep h1 h2=>by
  have hl:=S.r.fzIn _ _ h1;have K:=Walks.list (prog:=T.prog) (w:=T.w) (A:=A) r2.handled s.heap.objs.size l (k7 hl) ys.toArray;rw [show ys.toArray.size=xs.length from List.size_toArray.trans h2.length.symm] at K
  exact wpAny_pyIter_list (ao hl) (hO S (be.push s _) (Heap.get?_push_size _ rfl) K (fun i h hi=>let ⟨o,ho,hc,hd⟩:=hi.1; ⟨o,_,_,ho,hc,hd,by decide⟩) ⟨⟨_,Heap.get?_push_size _ rfl,rfl,rfl⟩,(ao hl).push _⟩ (ou h1) (tR h2) q)
theorem mo {x:List Nat}(j:Nat) (y:V) (u:Value) (e1:(x.map fun c=>V.str [c])[j]? = some y) (e2:∃c t,(⟨x.toArray⟩:Str).cps[j]? = some c∧u = .str ⟨#[c]⟩ t):VR T.P W y u:=by
 obtain⟨c,k,e2,rfl⟩:=e2;rw [List.getElem?_map] at e1;have e2:x[j]? = some c:=List.getElem?_toArray.symm.trans e2;rw [e2] at e1;exact Option.some.inj e1▸.mkS
theorem mq {x:List Nat}(h:bH x=true):strIterType ⟨x.toArray⟩ = "str_ascii_iterator" :=by
 unfold strIterType;rw [show (⟨x.toArray⟩:Str).cps.all (fun c=>decide (c<128))=true from (List.all_toArray).trans (List.all_eq_true.mpr fun c hc=>decide_eq_true (Nat.le_of_ble_eq_true (List.all_eq_true.mp h c hc)))]
 rfl
theorem tS {tgt:Expr}{x:List Nat}{v:Value}{Q:Value→Shared→Prop}(S:St T W pr env ρ σ s) (r2:an A n) (ha:bH x=true) (h:VR T.P W (.str x) v) (q:Go T A tgt (x.map fun c=>.str [c]) W pr env ρ σ Q):wpAny T.M A (pyIter v) Q E s:=
 h.s fun t=>by
  refine PySem.wpAny_pyIter_strU ?_;rw [mq ha];have K:=Walks.strAscii (prog:=T.prog) (w:=T.w) (A:=A) r2.handled s.heap.objs.size ⟨x.toArray⟩ t;rw [show (⟨x.toArray⟩:Str).cps.size=(x.map fun c=>V.str [c]).length from (List.length_map ..).symm] at K
  exact hO S (be.push s _) (Heap.get?_push_size _ rfl) K (fun i h hi=>let ⟨o,ho,hc,hd⟩:=hi; ⟨o,_,_,ho,hc,hd,by decide⟩) ⟨_,Heap.get?_push_size _ rfl,rfl,rfl⟩ ow (fun j y u e1 e2=>mo j y u e1 e2) q
theorem tT {i:Int}{n:Nat}(h:i.natAbs<n):-(n:Int)<i∧i<n:=by omega
theorem oy {tgt:Expr}{a:Addr}{i j:Int}{t u v:Tok}{Q:Value→Shared→Prop}(S:St T W pr env ρ σ s) (r2:an A n) (h:IsRange s.heap a i j 1 t u v) (h1:i.natAbs<4096) (h2:j.natAbs<4096) (q:Go T A tgt (range i j) W pr env ρ σ Q) :
  wpAny T.M A (pyIter (.ref a)) Q E s:=by
 obtain⟨a1,a2⟩:=tT h1;obtain⟨b1,b2⟩:=tT h2;clear h1 h2;have hsz:Builtin.Range.rangeSize i j 1=((j - i).toNat:Int):=by rw [rangeSize_one]; split <;> omega
 refine wpAny_pyIter_range h ?_ ?_
 ·unfold Builtin.Range.small Builtin.Range.rangeFitsLong;rw [hsz];simp;omega
 ·rw [hsz];have K:=Walks.range (prog:=T.prog) (w:=T.w) (A:=A) r2.handled s.heap.objs.size i 1 (j - i).toNat;have hlen:(range i j).length=(j - i).toNat:=by simp [range]
  rw [←hlen] at K;refine hO S (be.push s _) (Heap.get?_push_size _ rfl) K (fun i h hi=>⟨_,"range_iterator",_,hi,rfl,rfl,by decide⟩) ?_ ow (fun k x w e1 e2=>?_) q
  ·rw [hlen];show IsRangeIter _ _ _ _ _;have:(s.heap.push { cls:=.type "range_iterator",data:=.fields #[rawInt i,rawInt ((j - i).toNat:Int),rawInt 1] }).get? s.heap.objs.size=some { cls:=.type "range_iterator",data:=.fields #[rawInt i,rawInt ((j - i).toNat:Int),rawInt 1] }:=Heap.get?_push_size _ rfl;refine this.trans ?_;simp
  ·obtain⟨t,rfl⟩:=e2;simp only [range,List.getElem?_map,Option.map_eq_some_iff] at e1;obtain⟨d,e4,rfl⟩:=e1;have:d=k:=by
    have:=List.getElem?_eq_some_iff.mp e4;obtain⟨p,q⟩:=this;simpa using q.symm
   subst this;exact⟨t,by simp⟩
theorem tU {tgt:Expr}{xs:List V}{ys:List Value}{l:Addr}{ep:Nat}{Q:Value→Shared→Prop}(S:St T W pr env ρ σ s) (r2:an A n) (h1:W.fz l=some (ak ys ep)) (h2:aB T.P W xs ys)
  (q:Go T A tgt xs.reverse W pr env ρ σ Q):wpAny T.M A (call (.type "reversed") [.ref l]) (fun x s₁=>wpAny T.M A (pyIter x) Q E s₁) E s:=by
 have hl:=S.r.fzIn _ _ h1;refine call_reversed_list (ao hl) ?_;have e0:ys.toArray.size=xs.reverse.length:=by rw [List.size_toArray,List.length_reverse,h2.length]
 have hr:(s.heap.push (revObj l ((ys.toArray.size:Int) - 1))).IsRevIter s.heap.objs.size l ((ys.toArray.size:Int) - 1):=⟨_,Heap.get?_push_size _ rfl,rfl,rfl⟩;refine wpAny_pyIter_revIter (s:={ s with heap:=s.heap.push (revObj l ((ys.toArray.size:Int) - 1)) }) hr ?_
 have K:=Walks.listRev (prog:=T.prog) (w:=T.w) (A:=A) r2.handled s.heap.objs.size l (k7 hl) ys.toArray;rw [e0] at K hr ⊢;refine hO S (be.push s _) (Heap.get?_push_size _ rfl) K (fun i h hi=>let ⟨o,ho,hc,hd⟩:=hi.2.1; ⟨o,_,_,ho,hc,hd,by decide⟩) ⟨Nat.zero_le _,by simpa using hr,(ao hl).push _⟩ (ou h1) (fun j x u e1 e2=>?_) q
 ·obtain⟨y,h3,h4⟩:=h2.reverse.get e1;have hj:j<ys.length:=by have:=(List.getElem?_eq_some_iff.mp h3).1; simpa using this
  have:u=y:=by
   rw [List.getElem?_reverse hj] at h3;have e2':ys[xs.reverse.length - 1 - j]? = some u:=by simpa using e2
   rw [List.length_reverse,h2.length,h3] at e2';exact (Option.some.inj e2').symm
  rw [this]; exact h4
noncomputable def mr (it:Addr) (i:Int) (old:Value):Obj:={ cls:=.type "enumerate",dict:=none,data:=.fields #[.none,.bool false,.ref it,rawInt i,.none,old],slots:=#[] }
noncomputable def AO (xs:List V) (i:Nat):List V:=(xs.zipIdx i).map fun p=>.tuple [.int p.2,p.1]
theorem mu {it:Addr}{i:Int}{old:Value}(v:Value):(mr it i old).data≠.cell (some v):=fun e=>nomatch e
theorem qk {e it:Addr}{elts:List Expr}{x1:Nat}{pos:Pos}{G:H→Prop}{fp:List Addr}{m:Nat}{P0:Nat→Value→Prop}{S0:Nat→Heap→Prop}(D:Draws T.prog T.w A.in1 it fp m P0 S0) (hne:e≠it)
  (ty:∀i h,S0 i h→∃o,h.get? it=some o∧∀v,o.data≠.cell (some v)) :
  ∀(xs:List V) (i:Nat) (W:Wd) (old:Value) (o:Obj),i+xs.length=m→(∀b∈fp,b=it∨∃p,W.fz b=some p)→ji W it o S0 i→(∀j x v,xs[j]? = some x→P0 (i+j) v→VR T.P W x v)→Nx T A e (.Tuple elts x1 pos) G (AO xs i) W [(e,mr it i old),(it,o)]
 |[],i,W,old,o,hm,_,hw,_=>fun pr env ρ σ s Q E _ S hs q=>
  have hE:=hs.at_ _ List.mem_cons_self;have hI:=hs.at_ _ (List.mem_cons_of_mem _ List.mem_cons_self)
  wpAny_pyNext_enum_endD D (i:=i) (old:=old) hE.at_ ((show i=m from hm)▸hw _ hI.at_ S.r.fzIn) fun h' hk=>q W _ (.refl W) (S.lose hI.n hI.no (fun b hb p e=>hk b p hb e) rfl rfl (Nat.le_refl _))
 |x::xs,i,W,old,o,hm,fpz,hw,hv=>fun pr env ρ σ s Q E _ S hs q=>by
  have hE:=hs.at_ _ List.mem_cons_self;have hI:=hs.at_ _ (List.mem_cons_of_mem _ List.mem_cons_self);have hef:e∉fp:=fun h=>(fpz e h).elim hne fun⟨_,h2⟩=>b8 hE.n.nfz h2
  refine wpAny_with_toks (Nat.le_refl s.toks) (wpAny_pyNext_enum_itemD D (i:=i) (old:=old) hE.at_ (hw _ hI.at_ S.r.fzIn) (hm▸Nat.lt_add_of_pos_right (Nat.succ_pos _)) hne hef fun y h' tk hP he' hst' htup hsz hk htk=>?_)
  have S1:St T W pr env ρ σ { s with heap:=h',toks:=tk+1 }:=S.loses (fun b=>if h1:b=e then .inl (h1▸⟨hE.n,hE.no⟩) else if h2:b=it then .inl (h2▸⟨hI.n,hI.no⟩) else .inr fun p hp=>hk b p h1 h2 hp) rfl rfl htk
  obtain⟨S2,L2⟩:=S1.still (a:=s.heap.objs.size) ⟨S.r.new (az _),S.noOwn (az _),htup⟩;refine q _ (.ref s.heap.objs.size) _ L2 (.mkT (Wd.add_at _ _ _) (.cons .mkI (.cons ((hv 0 x y rfl hP).mono L2) .nil))) fun Q' E' q'=>wpAny_letOwnedTupleGo_enum he' fun h2 he2 hs2=>?_
  obtain⟨o1,g1,g2⟩:=ty _ _ hst';have nE:=hE.n.add (o:=fE [.int i tk,y]) (Nat.ne_of_lt (Heap.lt_size hE.at_));have nI:=hI.n.add (o:=fE [.int i tk,y]) (Nat.ne_of_lt (Heap.lt_size hI.at_));have S3:=S2.lose (s':={ s with heap:=h2,toks:=tk+1 }) nE hE.no (fun b hb p q=>(hs2.2 b hb).trans q) rfl rfl (Nat.le_refl _)
  refine q' _ _ [(e,mr it ((i+1:Nat):Int) y),(it,o1)] (.refl _) S3 (.two ⟨nE,hE.no,he2⟩ mu ⟨nI,hI.no,(hs2.2 it hne.symm).trans g1⟩ g2 hne) fun W3 L3=>?_
  have L:=L2.trans L3;exact qk D hne ty xs (i+1) W3 y o1 ((Nat.succ_add_eq_add_succ i xs.length).trans hm) (fun b hb=>(fpz b hb).imp id fun⟨p,e⟩=>⟨p,L.fz _ _ e⟩)
   (.mono L (.of D.frame fpz hst' g1 fun b hb hbI p e0=>hk b p (fun h=>hef (h▸hb)) hbI (S.r.fzIn _ _ e0))) fun j x v e1 e2=>(hv (j+1) x v e1 (Nat.add_right_comm i 1 j▸e2)).mono L
theorem wi {e it:Addr}{i:Int}{old:Value}{o:Obj}:Sf T A e W [(e,mr it i old),(it,o)]:=fun pr env ρ σ s Q E S hs q=>
 PySem.wpAny_pyIter_enum (i:=i) (old:=old) (it:=it) (hs.at_ _ List.mem_cons_self).at_ q
theorem ql {elts:List Expr}{x1:Nat}{pos:Pos}{xs:List V}{fp:List Addr}{P0:Nat→Value→Prop}{S0:Nat→Heap→Prop}{h':Heap}{Q:Value→Shared→Prop}(S:St T W pr env ρ σ s)
  (he:IsEnum h' (s.heap.objs.size+1) s.heap.objs.size 0 .none) (h0:S0 0 h') (keep:∀b o,s.heap.get? b=some o→h'.get? b=some o)
  (D:Draws T.prog T.w A.in1 s.heap.objs.size fp xs.length P0 S0) (ty:∀i h,S0 i h→∃o,h.get? s.heap.objs.size=some o∧∀v,o.data≠.cell (some v))
  (hfp:∀b∈fp,b=s.heap.objs.size∨∃p,W.fz b=some p) (hv:∀j x v,xs[j]? = some x→P0 j v→VR T.P W x v) (q:Go T A (.Tuple elts x1 pos) (dR xs) W pr env ρ σ Q) :
  wpAny T.M A (pyIter (.ref (s.heap.objs.size+1))) Q E { s with heap:=h' }:=by
 obtain⟨o,ho,hoc⟩:=ty _ _ h0;have S1:=S.grow (s':={ s with heap:=h' }) ⟨keep,rfl,rfl,Nat.le_refl _⟩
 have f1:=az s.heap;have f2:=nX (Nat.le_succ s.heap.objs.size);have hw:ji W s.heap.objs.size o S0 0:=.of D.frame hfp h0 ho fun b _ _ p e=>S1.r.fzIn _ _ e
 exact PySem.wpAny_pyIter_enum he (q _ W _ [(s.heap.objs.size+1,mr s.heap.objs.size ((0:Nat):Int) .none),(s.heap.objs.size,o)] (.refl W) S1 (.two ⟨S.r.new f2,S.noOwn f2,he⟩ mu ⟨S.r.new f1,S.noOwn f1,ho⟩ hoc (Nat.succ_ne_self _))
  (fun W2 L2=>qk D (Nat.succ_ne_self _) ty xs 0 W2 .none o (Nat.zero_add _) (fun b hb=>(hfp b hb).imp id fun⟨p,e⟩=>⟨p,L2.fz _ _ e⟩) (hw.mono L2) fun j x v e1 e2=>(hv j x v e1 (Nat.zero_add j▸e2)).mono L2) fun W2 L2=>wi)
theorem iL {elts:List Expr}{x1:Nat}{pos:Pos}{xs:List V}{v:Value}{Q:Value→Shared→Prop}(S:St T W pr env ρ σ s) (r2:an A n) (h:VR T.P W (.list xs) v) (q:Go T A (.Tuple elts x1 pos) (dR xs) W pr env ρ σ Q) :
  wpAny T.M A (call (.type "enumerate") [v]) (fun x s₁=>wpAny T.M A (pyIter x) Q E s₁) E s:=
 h.l fun l ys ep h1 h2=>by
  have hl:=S.r.fzIn _ _ h1;refine call_enumerate_list (ao hl) fun h' he hit hsz keep=>?_
  have D:=Draws.list (prog:=T.prog) (w:=T.w) (A:=A.in1) r2.handled s.heap.objs.size l (k7 hl) ys.toArray;rw [show ys.toArray.size=xs.length from List.size_toArray.trans h2.length.symm] at D
  exact ql S he ⟨hit,_,keep _ _ hl,rfl,ep,rfl⟩ keep D (fun i h hi=>let ⟨o,ho,_,hd⟩:=hi.1; ⟨o,ho,fun v e=>nomatch hd.symm.trans e⟩) (ou h1) (tR h2) q
theorem jk {elts:List Expr}{x1:Nat}{pos:Pos}{x:List Nat}{v:Value}{Q:Value→Shared→Prop}(S:St T W pr env ρ σ s) (r2:an A n) (ha:bH x=true) (h:VR T.P W (.str x) v) (q:Go T A (.Tuple elts x1 pos) (dR (x.map fun c=>.str [c])) W pr env ρ σ Q) :
  wpAny T.M A (call (.type "enumerate") [v]) (fun x s₁=>wpAny T.M A (pyIter x) Q E s₁) E s:=
 h.s fun t=>by
  refine call_enumerate_str fun h' he hit hsz keep=>?_
  rw [mq ha] at hit;have D:=Draws.strAscii (prog:=T.prog) (w:=T.w) (A:=A.in1) r2.handled s.heap.objs.size ⟨x.toArray⟩ t;rw [show (⟨x.toArray⟩:Str).cps.size=(x.map fun c=>V.str [c]).length from (List.length_map ..).symm] at D
  exact ql S he hit keep D (fun i h hi=>let ⟨o,ho,_,hd⟩:=hi; ⟨o,ho,fun v e=>nomatch hd.symm.trans e⟩) ow mo q
end
end Mini
set_option maxRecDepth 100000
set_option autoImplicit false
namespace Mini
open PySem PySem.W PyProof.Rows
section
variable {T:TS}{W W':Wd}{pr:Kn}{env:Env}{ρ:P}{σ:H}{s s':Shared}{A:Around}{E:Value→Shared→Prop}{n:Nat}{r:cT}{ws:Ws}
theorem tV {nm:Str}{pos:Pos}{v:V}{v':Value}{K:P→H→Ws→Prop}{Q:Unit→Shared→Prop}(S:St T W pr env ρ σ s) (h:VR T.P W v v') (e:bo (j8 nm v ρ) fun ρ=>K ρ σ ws) (q:GA T W pr env K Q):wpAny T.M A (assign (.Name nm pos) env v') Q E s:=by
 show wpAny T.M A (do standAt pos; bindName env nm v') Q E s
 exact bo.out e fun ρ1 e1 k=>wpAny_bind (wpAny_standAt (wd S h e1 fun W1 s1 L1 S1=>q W1 s1 ρ1 σ ws L1 S1 k))
theorem dG:∀{ts:List Expr},ar ts=true→(assignEach ts env).length=ts.length∧(assignEach ts env).findIdx? (·.1)=none∧∀{t r},ts=t::r→assignEach ts env=(false,assign t env)::assignEach r env
 |[],_=>⟨rfl,rfl,nofun⟩
 |t::ts,h=>by
  obtain⟨h1,h2⟩:=aK h;have e:assignEach (t::ts) env=(false,assign t env)::assignEach ts env:=by cases t <;> first | rfl | cases h1
  obtain⟨a,b,_⟩:=dG h2;refine⟨by rw [e]; exact congrArg (· + 1) a,by rw [e,List.findIdx?_cons,b]; rfl,?_⟩
  rintro _ _ ⟨⟩;exact e
theorem qm (R:Snd T n r) {K:P→H→Ws→Prop}{Q:Unit→Shared→Prop}:∀{ts:List Expr}{vs:List V}{W:Wd}{ρ:P}{σ:H}{s:Shared}{us:List Value}{ws:Ws},ar ts=true→uP r ts vs ρ σ ws K→St T W pr env ρ σ s→an A n→aB T.P W vs us→GA T W pr env K Q→wpAny T.M A (assignInOrder ((assignEach ts env).map (·.2)) us) Q E s
 |[],[],W,ρ,σ,s,_,ws,_,e,S,_,h,q=>h.nl (wpAny_pure (q W s ρ σ ws (.refl W) S e))
 |[],_::_,_,_,_,_,_,_,_,e,_,_,_,_=>e.elim
 |_::_,[],_,_,_,_,_,_,_,e,_,_,_,_=>e.elim
 |t::ts,_::_,_,_,_,s,_,_,hn,e,S,r2,h,q=>h.cs fun u us h1 h2=>by
  rw [(dG hn).2.2 rfl];show wpAny T.M A (do holding us (assign t env u); assignInOrder ((assignEach ts env).map (·.2)) us) Q E s
  exact wpAny_bind (wpAny_holding (R.asg e S r2 h1 fun W1 s1 ρ1 σ1 ws1 L1 S1 e1=>qm R (aK hn).2 e1 S1 r2 (h2.mono L1) (q.mono L1)))
theorem qV (R:Snd T n r) {ts:List Expr}{k:Nat}{pos:Pos}{vs:List V}{v':Value}{K:P→H→Ws→Prop}{Q:Unit→Shared→Prop}(e:bd (ar ts&&Nat.beq ts.length vs.length) (uP r ts vs ρ σ ws K)) (S:St T W pr env ρ σ s) (r2:an A n) (h:VR T.P W (.tuple vs) v') (q:GA T W pr env K Q):wpAny T.M A (assign (.Tuple ts k pos) env v') Q E s:=by
 obtain⟨g,e⟩:=bd.out e;obtain⟨g1,g2⟩:=Bool.and_eq_true_iff.mp g;refine h.t fun a us h1 h2=>?_
 obtain⟨k1,k2,_⟩:=dG (env:=env) g1;refine wpAny_assign_Tuple (items:=us.toArray) r2.handled (th (S.r.fzIn _ _ h1)) (by rw [k1,List.size_toArray,←h2.length]; exact Nat.eq_of_beq_eq_true g2) k2 fun h' he=>?_
 exact qm R g1 e (S.grow (s':={ s with heap:=h' }) ⟨fun b o e=>he b o (Nat.ne_of_lt (Heap.lt_size e)) e,rfl,rfl,Nat.le_refl _⟩) r2 h2 q
theorem dm (R:Snd T n r) {K:Fl→P→H→Ws→Prop}{Q:Flow→Shared→Prop}:∀{ss:List Stmt}{W:Wd}{ρ:P}{σ:H}{s:Shared}{ws:Ws},dT r ss ρ σ ws K→St T W pr env ρ σ s→an A n→GS T W pr env K Q→wpAny T.M A (execs ss env) Q E s
 |[],W,ρ,σ,s,ws,e,S,_,q=>wpAny_execs_nil (q W s .next .next ρ σ ws (.refl W) rfl S e)
 |_::_,_,_,_,_,_,e,S,r2,q=>wpAny_execs_cons (R.st e S r2 fun W1 s1 f f' ρ1 σ1 ws1 L1 h1 S1 e1=>by
  cases f with
  |next=>cases h1; exact dm R e1 S1 r2 (q.mono L1)
  |brk=>cases h1; exact q W1 s1 .brk _ ρ1 σ1 ws1 L1 rfl S1 e1
  |cont=>cases h1; exact q W1 s1 .cont _ ρ1 σ1 ws1 L1 rfl S1 e1
  |ret v=>obtain⟨v',rfl,h1⟩:=h1; exact q W1 s1 (.ret v) _ ρ1 σ1 ws1 L1 ⟨v',rfl,h1⟩ S1 e1)
noncomputable abbrev wj (T:TS) (A:Around) (env:Env) (Q:Flow→Shared→Prop) (E:Value→Shared→Prop):Result→Shared→Prop:=fun r s'=>match r with
 |.ok f=>Q f s'
 |.error e=>cameBackBy T.M A env E e s'
noncomputable abbrev GF (T:TS) (W:Wd) (pr:Kn) (env:Env) (K:Fl→P→H→Prop) (Q:Flow→Shared→Prop):Prop:=∀W' s' f f' ρ' σ',W.le W'→A2 T W' f f'→St T W' pr env ρ' σ' s'→K f ρ' σ'→Q f' s'
inductive zb (T:TS) (W:Wd) (pr:Kn) (env:Env) (A:Around) (r:cT) (tgt:Expr) (body:List Stmt) (g:Option Nat) (xs0:List V) (I:Addr) (K:Fl→P→H→Prop):Nat→Shared→Prop
 |mk {xs:List V}{W1:Wd}{s:Shared}{ρ:P}{σ:H}{hs:List (Addr×Obj)}(L:W.le W1) (S:St T W1 pr env ρ σ s) (h:aQ T W1 pr env ρ s hs) (nx:∀W2,W1.le W2→Nx T A I tgt (xm g xs0) xs W2 hs) (e:bu r tgt body g xs0 xs ρ σ K):zb T W pr env A r tgt body g xs0 I K xs.length s
theorem zc (R:Snd T n r) {tgt:Expr}{body:List Stmt}{g:Option Nat}{xs0:List V}{I:Addr}{xs:List V}{hs:List (Addr×Obj)}{K:Fl→P→H→Prop}{Q:Flow→Shared→Prop}(e:bu r tgt body g xs0 xs ρ σ K) (S:St T W pr env ρ σ s) (r2:an A n)
  (h:aQ T W pr env ρ s hs) (nx:∀W2,W.le W2→Nx T A I tgt (xm g xs0) xs W2 hs) (q:GF T W pr env K Q):codeAny T.M A (.forLoop tgt (.ref I) body [] env) (wj T A env Q E) s:=by
 refine codeAny_forLoop_any (zb T W pr env A r tgt body g xs0 I K) ?_ xs.length (.mk (.refl W) S h nx e);rintro m s ⟨L1,S,h,nx,e⟩;rename_i xs W1 ρ σ hs;cases xs with
 |nil=>
  obtain⟨hg,e⟩:=ph.out e;exact nx W1 (.refl W1) pr env _ _ s _ _ hg S h fun W2 s2 L2 S2=>wpAny_execs_nil (q W2 s2 .next .next ρ σ (L1.trans L2) rfl S2 e)
 |cons x xs=>
  obtain⟨hg,ws,e⟩:=ph.out e;refine nx W1 (.refl W1) pr env _ _ s _ _ hg S h fun W2 v' s2 L2 hx lot=>lot _ _ fun W3 s3 hs3 L3 S3 h3 nx3=>?_
  have hsys:=S3.r.sys;refine R.asg e (S3.protects h3) r2 (hx.mono L3) fun W4 s4 ρ4 σ4 ws4 L4 S4 e4=>dm R e4 S4 r2 fun W5 s5 f f' ρ5 σ5 ws5 L5 hf S5 e5=>?_
  obtain⟨S6,h6⟩:=St.unprotects S5 h3.nd h3.le hsys h3.nc;have L:=L1.trans (L2.trans (L3.trans (L4.trans L5)));have go:∀e:bu r tgt body g xs0 xs ρ5 σ5 K,∃k,k<xs.length+1∧zb T W pr env A r tgt body g xs0 I K k s5:=fun e=>⟨_,Nat.lt_succ_self _,.mk L S6 h6 (fun W7 L7=>nx3 W7 (L4.trans (L5.trans L7))) e⟩
  cases f with
  |next=>cases hf; exact go e5
  |cont=>cases hf; exact go e5
  |brk=>cases hf; exact q W5 s5 .next _ ρ5 σ5 L rfl S6 e5
  |ret v=>obtain⟨v5,rfl,hf⟩:=hf; exact q W5 s5 (.ret v) _ ρ5 σ5 L ⟨v5,rfl,hf⟩ S6 e5
end
end Mini
set_option maxRecDepth 100000
set_option autoImplicit false
namespace Mini
open PySem PySem.W PyProof.Rows
section
variable {T:TS}{W W':Wd}{pr:Kn}{env:Env}{ρ ρ':P}{σ σ':H}{s s':Shared}{A:Around}{E:Value→Shared→Prop}{n:Nat}{r:cT}{ws:Ws}
noncomputable abbrev dr (ifs:List Expr) (env:Env) (b:Bool):Sem Bool:=forIn ifs b fun c r=>if r=true then do let ok ←PySem.isTrue c env (eval c env); pure (ForInStep.yield ok) else pure (ForInStep.yield r)
theorem jS {Q:Bool→Shared→Prop}(q:Q false s):∀{l:List Expr},wpAny T.M A (dr l env false) Q E s
 |[]=>wpAny_pure q
 |c::l=>by
  unfold dr;rw [List.forIn_cons];exact wpAny_bind (wpAny_pure (jS q (l:=l)))
theorem iM (R:Snd T n r) {K:Bool→H→Ws→Prop}{Q:Bool→Shared→Prop}:∀{ifs:List Expr}{W:Wd}{σ:H}{s:Shared}{ws:Ws},ey r ρ ifs σ ws K→St T W pr env ρ σ s→an A n→GT T W pr env ρ K Q→wpAny T.M A (dr ifs env true) Q E s
 |[],W,σ,s,ws,e,S,_,q=>wpAny_pure (q W s true σ ws (.refl W) S e)
 |c::ifs,_,_,_,_,e,S,r2,q=>by
  unfold dr;rw [List.forIn_cons];exact wpAny_bind (wpAny_bind (R.tst e S r2 fun W1 s1 t σ1 ws1 L1 S1 e1=>wpAny_pure (match t,e1 with
   |true,e1=>iM R e1 S1 r2 (q.mono L1)
   |false,e1=>jS (q W1 s1 false σ1 ws1 L1 S1 e1))))
theorem k8 {elt target iter:Expr}{ifs:List Expr}{scope:Scope}{pos:Pos}{it acc:Value}{cenv:Env}{R:Result→Shared→Prop}(I:Nat→Shared→Prop)
  (turn:∀m s,I m s→∀E',wpAny T.M A (pyNext it) (fun r s₁=>match r with
   |none=>R (.ok .next) s₁
   |some v=>wpAny T.M A (letOwnedTupleGo target it v) (fun _ s₂=>wpAny T.M A (assign target cenv v) (fun _ s₃=>
     wpAny T.M A (forIn ifs true fun c r=>if r=true then do let ok ←PySem.isTrue c cenv (eval c cenv); pure (ForInStep.yield ok) else pure (ForInStep.yield r)) (fun ok s₄=>
      if ok=true then wpAny T.M A (eval elt cenv) (fun x s₅=>wpAny T.M A (call (.builtin "list.append") [acc,x]) (fun _ s₆=>∃k,k<m∧I k s₆) E' s₅) E' s₄
      else ∃k,k<m∧I k s₄) E' s₃) E' s₂) E' s₁) E' s)
  (m:Nat) (h:I m s):codeAny T.M A (.compLoop (.ListComp elt [⟨target,iter,ifs,0⟩] scope pos) 0 it acc cenv) R s:=by
 refine codeAny_loop rfl I (fun m s hI=>?_) m h
 show wpAny _ A ((compTurn (.ListComp elt [⟨target,iter,ifs,0⟩] scope pos) 0 it acc cenv).onRaise (fun x=>do noteFrame x cenv; theTreesLotGoes x)) _ _ s
 refine wpAny_noted ?_;rw [compTurn_list];refine wpAny_bind (wpAny_standAt (wpAny_bind (wpAny_mono (turn m s hI _) (fun r s₁ h₁=>?_) fun _ _ h'=>h')))
 cases r with
 |none=>exact wpAny_pure h₁
 |some v=>
  refine wpAny_bind (wpAny_mono h₁ (fun _ s₂ h₂=>?_) fun _ _ h'=>h')
  refine wpAny_bind (wpAny_mono h₂ (fun _ s₃ h₃=>wpAny_bind (wpAny_mono h₃ (fun ok s₄ h₄=>?_) fun _ _ h'=>h')) fun _ _ h'=>h')
  cases ok with
  |false=>exact wpAny_pure ⟨rfl,h₄⟩
  |true=>exact wpAny_bind (wpAny_bind (wpAny_mono h₄ (fun x s₅ h₅=>wpAny_bind (wpAny_mono h₅ (fun _ s₆ h₆=>wpAny_pure (wpAny_pure ⟨rfl,h₆⟩)) fun _ _ h'=>h')) fun _ _ h'=>h'))
theorem aQ.other {hs:List (Addr×Obj)}{a:Addr}{o o2:Obj}(h:aQ T W (dk pr a o) env ρ s hs) (k:∀b,b≠a→∀p,s.heap.get? b=some p→s'.heap.get? b=some p):aQ T W (dk pr a o2) env ρ s' hs:=
 ⟨h.nd,fun p hp=>by
  have x:=h.at_ p hp;have hne:p.1≠a:=by
   intro e;have:=x.n.npr;rw [e,iH] at this; cases this
  refine⟨⟨x.n.nfz,?_,x.n.nphi,x.n.ntab⟩,x.no,k p.1 hne _ x.at_⟩;have:=x.n.npr;rw [cC _ _ hne] at this ⊢;exact this,h.nc⟩
theorem oA {a:Addr}{ys:List Value}{ep:Nat}{y:Value}{Q:Value→Shared→Prop}{hs:List (Addr×Obj)}(S:St T W pr env ρ σ s) (hd:bG T W pr env ρ s a (ak ys ep)) (h:aQ T W (dk pr a (ak ys ep)) env ρ s hs) (hz:ys.length≤sizeLine)
  (q:∀s',St T W pr env ρ σ s'→bG T W pr env ρ s' a (ak (ys++[y]) (ep+1))→aQ T W (dk pr a (ak (ys++[y]) (ep+1))) env ρ s' hs→Q .none s'):wpAny T.M A (call (.builtin "list.append") [.ref a,y]) Q E s:=by
 refine append_at (D:=a) (its:=ys.toArray) (n:=ep) hd.at_ (fun h' hs' hg=>?_) (by rw [List.size_toArray]; exact hz)
 have e:({ cls:=.type "list",data:=.seq (ys.toArray.push y) (ep+1) }:Obj)=ak (ys++[y]) (ep+1):=by simp [ak]
 rw [e] at hg;obtain⟨S1,h1⟩:=S.change (s':={ s with heap:=h' }) hd hs' hg rfl rfl (Nat.le_refl _)
 exact q _ S1 h1 (h.other fun b hb p e=>(hs'.2 b hb).trans e)
theorem aB.snoc {xs:List V}{ys:List Value}{x:V}{y:Value}(h:aB T.P W xs ys) (k:VR T.P W x y):aB T.P W (xs++[x]) (ys++[y]):=aB.append (.cons k .nil) h
structure Hc (T:TS) (W:Wd) (pr:Kn) (env:Env) (ρ:P) (σ:H) (s:Shared) (acc:Addr) (ys:List Value) (ep:Nat) (hs:List (Addr×Obj)):Prop where
 S:St T W pr env ρ σ s
 d:bG T W pr env ρ s acc (ak ys ep)
 h:aQ T W (dk pr acc (ak ys ep)) env ρ s hs
theorem mv (R:Snd T n r) {elt tgt:Expr}{ifs:List Expr}{acc:Addr}{x:V}{v':Value}{ys:List Value}{ep m:Nat}{hs:List (Addr×Obj)}{Kt:V→P→H→Prop}{Kf:P→H→Prop}{I:Nat→Shared→Prop}{E':Value→Shared→Prop}
  (e:r.A tgt x ρ σ ws fun ρ σ ws=>ey r ρ ifs σ ws fun t σ ws=>m9 t (r.E elt ρ σ ws fun v σ _=>Kt v ρ σ) (Kf ρ σ)) (H0:Hc T W pr env ρ σ s acc ys ep hs) (r2:an A n) (hz:ys.length≤sizeLine) (hx:VR T.P W x v')
  (qf:∀W' s' ρ' σ',W.le W'→Hc T W' pr env ρ' σ' s' acc ys ep hs→Kf ρ' σ'→∃k,k<m∧I k s')
  (qt:∀W' s' ρ' σ' y y',W.le W'→VR T.P W' y y'→Hc T W' pr env ρ' σ' s' acc (ys++[y']) (ep+1) hs→Kt y ρ' σ'→∃k,k<m∧I k s') :
  wpAny T.M A (assign tgt env v') (fun _ s₃=>wpAny T.M A (dr ifs env true) (fun ok s₄=>
    if ok=true then wpAny T.M A (eval elt env) (fun x s₅=>wpAny T.M A (call (.builtin "list.append") [.ref acc,x]) (fun _ s₆=>∃k,k<m∧I k s₆) E' s₅) E' s₄
    else ∃k,k<m∧I k s₄) E' s₃) E' s:=by
 obtain⟨S,hd,h⟩:=H0;have hsys:=S.r.sys;have hpa:=hd.n.npr;have hsys1:=(S.protect hd).r.sys;have back:∀{W' ρ' σ' s'},St T W' (jQ (dk pr acc (ak ys ep)) hs) env ρ' σ' s'→Hc T W' pr env ρ' σ' s' acc ys ep hs:=fun S5=>
  let ⟨S6,h6⟩:=St.unprotects S5 h.nd h.le hsys1 h.nc
  let ⟨S7,h7⟩:=S6.unprotect hpa hsys (fun v e=>nomatch e)
  ⟨S7,h7,h6⟩
 refine R.asg e ((S.protect hd).protects h) r2 hx fun W1 s1 ρ1 σ1 ws1 L1 S1 e1=>iM R e1 S1 r2 fun W2 s2 t σ2 ws2 L2 S2 e2=>?_
 cases t with
 |false=>exact qf W2 s2 ρ1 σ2 (L1.trans L2) (back S2) e2
 |true=>
  refine R.ev e2 S2 r2 fun W3 s3 y y' σ3 ws3 L3 h3 S3 e3=>?_
  obtain⟨S7,h7,h6⟩:=back S3;exact oA S7 h7 h6 hz fun s4 S8 h8 h9=>qt W3 s4 ρ1 σ3 y y' (L1.trans (L2.trans L3)) h3 ⟨S8,h8,h9⟩ e3
noncomputable abbrev GC (T:TS) (W:Wd) (pr:Kn) (env:Env) (acc:Addr) (K:List V→H→Prop) (RR:Result→Shared→Prop):Prop:=∀W' s' vs ρ' σ' ys ep',W.le W'→St T W' pr env ρ' σ' s'→bG T W' pr env ρ' s' acc (ak ys ep')→aB T.P W' vs ys→K vs σ'→RR (.ok .next) s'
inductive xn (T:TS) (W:Wd) (pr:Kn) (env:Env) (A:Around) (r:cT) (elt tgt:Expr) (ifs:List Expr) (g:Option Nat) (xs0:List V) (I acc:Addr) (K:List V→H→Prop):Nat→Shared→Prop
 |mk {xs vd:List V}{ys:List Value}{ep:Nat}{W1:Wd}{s:Shared}{ρ:P}{σ:H}{hs:List (Addr×Obj)}(L:W.le W1) (h:Hc T W1 pr env ρ σ s acc ys ep hs) (nx:∀W2,W1.le W2→Nx T A I tgt (xm g xs0) xs W2 hs) (hv:aB T.P W1 vd ys) (hz:ys.length+xs.length<af)
   (e:cU r elt tgt ifs g xs0 xs ρ σ fun vs σ=>K (vd++vs) σ):xn T W pr env A r elt tgt ifs g xs0 I acc K xs.length s
theorem lenL {a b:Nat}(h:a+(b+1)<af):a≤sizeLine:=Nat.le_trans (Nat.le_of_lt (Nat.lt_of_le_of_lt (Nat.le_add_right a _) h)) (by decide)
theorem Bq {ys:List Value}{y:Value}{b:Nat}(h:ys.length+(b+1)<af):(ys++[y]).length+b<af:=by rw [List.length_append,Nat.add_assoc,Nat.add_comm [y].length]; exact h
theorem Br {a b:Nat}(h:a+(b+1)<af):a+b<af:=Nat.lt_of_succ_lt h
theorem k9 (R:Snd T n r) {elt tgt iter:Expr}{ifs:List Expr}{scope:Scope}{pos:Pos}{g:Option Nat}{xs0:List V}{I acc:Addr}{xs:List V}{hs:List (Addr×Obj)}{ep:Nat}{K:List V→H→Prop}{RR:Result→Shared→Prop}(e:cU r elt tgt ifs g xs0 xs ρ σ K)
  (h:Hc T W pr env ρ σ s acc [] ep hs) (r2:an A n) (hz:xs.length<af) (nx:∀W2,W.le W2→Nx T A I tgt (xm g xs0) xs W2 hs) (q:GC T W pr env acc K RR) :
  codeAny T.M A (.compLoop (.ListComp elt [⟨tgt,iter,ifs,0⟩] scope pos) 0 (.ref I) (.ref acc) env) RR s:=by
 refine k8 (xn T W pr env A r elt tgt ifs g xs0 I acc K) ?_ xs.length (.mk (.refl W) h nx .nil (by rw [List.length_nil,Nat.zero_add]; exact hz) e)
 rintro m s ⟨L1,h,nx,hv,hz,e⟩ E';rename_i xs vd ys ep W1 ρ σ hs;have hpa:=h.d.n.npr;have hsys:=h.S.r.sys;have nc:∀(v:Value),(ak ys ep).data≠.cell (some v):=fun v e=>nomatch e
 cases xs with
 |nil=>
  obtain⟨hg,e⟩:=ph.out e;refine nx W1 (.refl W1) _ env _ _ s _ _ hg (h.S.protect h.d) h.h fun W2 s2 L2 S2=>?_
  obtain⟨S3,h3⟩:=S2.unprotect hpa hsys nc;exact q W2 s2 _ ρ σ ys ep (L1.trans L2) S3 h3 (hv.mono L2) (List.append_nil vd▸e)
 |cons x xs=>
  obtain⟨hg,ws,e⟩:=ph.out e;refine nx W1 (.refl W1) _ env _ _ s _ _ hg (h.S.protect h.d) h.h fun W2 v' s2 L2 hx lot=>lot _ _ fun W3 s3 hs3 L3 S3 h3 nx3=>?_
  obtain⟨S4,h4⟩:=S3.unprotect hpa hsys nc;have L:=L1.trans (L2.trans L3);refine mv R (Kt:=fun v ρ σ=>cU r elt tgt ifs g xs0 xs ρ σ fun vs σ=>K (vd++(v::vs)) σ) e ⟨S4,h4,h3⟩ r2 (lenL hz) (hx.mono L3)
   (fun W5 s5 ρ5 σ5 L5 h5 e5=>⟨_,Nat.lt_succ_self _,.mk (L.trans L5) h5 (fun W7 L7=>nx3 W7 (L5.trans L7)) (hv.mono (L2.trans (L3.trans L5))) (Br hz) e5⟩)
   fun W5 s5 ρ5 σ5 y y' L5 hy h5 e5=>⟨_,Nat.lt_succ_self _,.mk (L.trans L5) h5 (fun W7 L7=>nx3 W7 (L5.trans L7)) ((hv.mono (L2.trans (L3.trans L5))).snoc hy) (Bq hz) (by simp only [List.append_assoc]; exact e5)⟩
end
end Mini
set_option maxRecDepth 100000
set_option autoImplicit false
namespace Mini
open PySem PySem.W PyProof.Rows
noncomputable def bn (env:Env):List (Str×NameKind)→List (Str×Addr)→List (Str×Addr)
 |[],acc=>acc
 |(n,k)::r,acc=>bn env r (match k == .free with | true=>(n,(env.cells.lookup n).getD 0)::acc | false=>acc)
theorem cX {scope:Scope}{env:Env}(h:∀x∈scope.names,x.2 = .free→∃c,env.cells.lookup x.1=some c):closureFor scope env=pure (bn env scope.names []):=by
 have key:∀(l:List (Str×NameKind)) (acc:List (Str×Addr)),(∀x∈l,x.2 = .free→∃c,env.cells.lookup x.1=some c) →
   (forIn l acc fun(x:Str×NameKind) (cs:List (Str×Addr))=>(if (x.2==NameKind.free)=true then do
    let c ←cellOf env x.1
    pure (ForInStep.yield ((x.1,c)::cs))
    else pure (ForInStep.yield cs):Sem (ForInStep (List (Str×Addr)))))=pure (bn env l acc):=by
  intro l
  induction l with
  |nil=>exact fun acc _=>List.forIn_nil
  |cons x l ih=>
   intro acc h;obtain⟨nm,k⟩:=x;have ih:=fun acc=>ih acc fun y hy=>h y (List.mem_cons_of_mem _ hy)
   rw [List.forIn_cons];show (do let r ←(if (k==NameKind.free)=true then _ else _:Sem _); _)=pure (bn env l (match k == .free with | true=>_ | false=>acc))
   cases hk:k==NameKind.free with
   |true=>
    obtain⟨c,hc⟩:=h _ List.mem_cons_self (eq_of_beq hk);have hcell:cellOf env nm=pure c:=by unfold cellOf; rw [hc]
    rw [if_pos rfl,hcell,hc,pure_bind,pure_bind];exact ih _
   |false=>
    rw [if_neg Bool.false_ne_true,pure_bind];exact ih _
 exact (congrArg (fun m:Sem (List (Str×Addr))=>m >>= fun cs=>pure cs) (key scope.names [] h)).trans (pure_bind _ _)
theorem iN {env:Env}{nm:Str}:∀{l:List (Str×NameKind)}{acc:List (Str×Addr)},nm∉l.map (·.1)→(bn env l acc).lookup nm=acc.lookup nm
 |[],acc,_=>rfl
 |(m,k)::r,acc,h=>by
  have h:=not_or.mp fun q=>h (List.mem_cons.mpr q)
  show (bn env r (match k == .free with | true=>_ | false=>acc)).lookup nm=_
  rw [iN h.2];cases k == .free with
  |true=>exact List.lookup_cons.trans (by rw [beq_false_of_ne h.1])
  |false=>rfl
theorem dH {env:Env}{nm:Str}{c:Addr}(hc:env.cells.lookup nm=some c):∀{l:List (Str×NameKind)}{acc:List (Str×Addr)},(l.map (·.1)).Nodup→(nm,NameKind.free)∈l→(bn env l acc).lookup nm=some c
 |[],acc,_,h=>nomatch h
 |(m,k)::r,acc,nd,h=>by
  have nd:=List.nodup_cons.mp nd;rcases List.mem_cons.mp h with e | h
  ·cases e;show (bn env r ((nm,(env.cells.lookup nm).getD 0)::acc)).lookup nm=_;rw [iN nd.1,List.lookup_cons,beq_self_eq_true,hc]; rfl
  ·exact dH (l:=r) hc nd.2 h
theorem memS_iff {n:Str}{l:List Str}:ia n l=true↔n∈l:=by
 unfold ia;rw [List.any_eq_true];exact⟨fun⟨x,hx,e⟩=>sEq_iff.mp e▸hx,fun h=>⟨n,h,lZ n⟩⟩
theorem bt:∀{l:List Str},br l=true→l.Nodup
 |[],_=>List.nodup_nil
 |n::r,h=>have h:=Bool.and_eq_true_iff.mp h; List.nodup_cons.mpr ⟨fun hm=>Bool.false_ne_true ((congrArg not (memS_iff.mpr hm)).symm.trans h.1),bt h.2⟩
theorem ba {nm:Str}{k:NameKind}:∀{l:List (Str×NameKind)},(l.map (·.1)).Nodup→(nm,k)∈l→l.lookup nm=some k
 |[],_,h=>by simp at h
 |(m,k')::r,nd,h=>by
  have nd:=List.nodup_cons.mp nd;rw [List.lookup_cons];rcases List.mem_cons.mp h with e | h2
  ·cases e; rw [beq_self_eq_true]
  ·have:(nm==m)=false:=by
    rw [beq_eq_false_iff_ne];intro he;exact nd.1 (he▸List.mem_map.mpr ⟨(nm,k),h2,rfl⟩)
   rw [this]; exact ba nd.2 h2
section
variable {T:TS}{W W':Wd}{pr:Kn}{env:Env}{ρ ρ':P}{σ σ':H}{s s':Shared}{A:Around}{E:Value→Shared→Prop}{n:Nat}{r:cT}
theorem wk {x:Option Addr}(h:∀a,x=some a→False):x=none:=match x,h with
 |none,_=>rfl
 |some _,h=>(h _ rfl).elim
theorem ei {nm:Str}:∀{ρ:P},dy nm ρ=true→∃sl∈ρ,sl.name=nm∧fh sl=true∧lookup nm ρ=sl.val
 |[],h=>absurd h Bool.false_ne_true
 |sl::r,h=>by
  show ∃x∈sl::r,x.name=nm∧fh x=true∧(match cF sl.name nm with | true=>sl.val | false=>lookup nm r)=x.val
  have h:(match cF sl.name nm with | true=>fh sl | false=>dy nm r)=true:=h
  cases q:cF sl.name nm with
  |true=>rw [q] at h; exact⟨sl,List.mem_cons_self,sEq_iff.mp q,h,rfl⟩
  |false=>rw [q] at h; exact let ⟨x,a,b⟩:=ei h; ⟨x,List.mem_cons_of_mem _ a,b⟩
theorem oB {nm:Str}(S:St T W pr env ρ σ s) (h:dy nm ρ=true):∃c,env.cells.lookup nm=some c:=by
 obtain⟨m,hn,hs⟩:=S.f.fr;obtain⟨sl,h1,rfl,h3,_⟩:=ei h;have xx:=hs sl h1
 induction xx with
 |cell0 _ l=>exact⟨_,l⟩
 |cell _ l=>exact⟨_,l⟩
 |once0 _ l=>exact⟨_,l⟩
 |once _ l=>exact⟨_,l⟩
 |free _ _ l=>exact⟨_,l⟩
 |_=>exact absurd h3 Bool.false_ne_true
theorem wm {nm:Str}{v:V}(S:St T W pr env ρ σ s) (h:dy nm ρ=true) (e:lookup nm ρ=some v):∃c v',env.cells.lookup nm=some c∧gk W (je env ρ pr s.heap) c v'∧VR T.P W v v':=by
 obtain⟨m,hn,hs⟩:=S.f.fr;obtain⟨sl,h1,rfl,h3,h4⟩:=ei h;have e:=h4.symm.trans e;have xx:=hs sl h1
 induction xx with
 |cell _ l c r=>exact⟨_,_,l,.inr (c.imp fun o h=>⟨(kL (fG h1 l)).trans h.1,h.2⟩),Option.some.inj e▸r⟩
 |once _ l c r=>exact⟨_,_,l,.inl c,Option.some.inj e▸r⟩
 |free _ _ l c r=>exact⟨_,_,l,c.imp id (fun⟨o,h1,h2⟩=>⟨o,S.up h1,h2⟩),Option.some.inj e▸r⟩
 |loc=>exact absurd h3 Bool.false_ne_true
 |glob=>exact absurd h3 Bool.false_ne_true
 |_=>exact ac e
theorem la {scope:Scope}{nm:Str}{k:NameKind}(nd:(scope.names.map (·.1)).Nodup) (h:(nm,k)∈scope.names) :
  (relabel scope env).names.lookup nm=some k∨k = .free∧(relabel scope env).names.lookup nm=some .cell:=by
 have key:∀c:Str×NameKind→Bool,(c (nm,k)=true→k = .free)→(scope.names.map fun x=>if c x=true then (x.1,.cell) else x).lookup nm=some k∨k = .free∧(scope.names.map fun x=>if c x=true then (x.1,.cell) else x).lookup nm=some .cell:=fun c hc=>by
  have at_:∀j,(if c (nm,k)=true then (nm,.cell) else (nm,k))=(nm,j)→(scope.names.map fun x=>if c x=true then (x.1,.cell) else x).lookup nm=some j:=fun j e=>by
   refine ba ?_ (List.mem_map.mpr ⟨_,h,e⟩);rw [List.map_map,show scope.names.map ((·.1)∘fun x=>if c x=true then (x.1,.cell) else x)=scope.names.map (·.1) from List.map_congr_left fun x _=>by show (if c x=true then _ else _:Str×NameKind).1=_; cases c x <;> rfl]
   exact nd
  cases q:c (nm,k) with
  |true=>exact .inr ⟨hc q,at_ _ (if_pos q)⟩
  |false=>exact .inl (at_ _ (if_neg fun z=>Bool.false_ne_true (q.symm.trans z)))
 exact key (fun x=>x.2 == .free&&env.scope.kind == .function&&env.kindOf x.1==some .cell) fun q=>eq_of_beq (Bool.and_eq_true_iff.mp (Bool.and_eq_true_iff.mp q).1).1
theorem mw (F:TF T) {C:ce}(hC:T.C=C) {once:List Str}{fv:Str→Option V}{m:Str→Option Value}{h:Heap}{nm:Str}{k:NameKind}(hm:m nm=none) (hk:env.kindOf nm=some k∨k = .free∧env.kindOf nm=some .cell)
  (hc:k = .cell→∃c,env.cells.lookup nm=some c∧h.IsCell c none) (hf:k = .free→∀v,fv nm=some v→∃c v',(nm==("__classdict__" : Str))=false∧env.cells.lookup nm=some c∧gk W pr c v'∧VR T.P W v v') :
  aV T W pr env m h (rA C once fv (nm,k)):=by
 subst hC;have kd:k≠.free→env.kindOf nm=some k:=fun n=>hk.resolve_right fun h=>n h.1
 cases k with
 |«local» =>exact .loc0 (kd nofun) hm
 |cell=>
  obtain⟨c,c1,c2⟩:=hc rfl;have kd:=kd nofun;show aV T W pr env m h ⟨nm,(match ia nm once with | true=>.once | false=>.cell),none⟩
  cases ia nm once with
  |true=>exact .once0 kd c1 c2
  |false=>exact .cell0 kd c1 c2
 |free=>
  show aV T W pr env m h ⟨nm,.free,fv nm⟩;cases hv:fv nm with
  |none=>exact .free0
  |some v=>exact let ⟨c,v',d,l,e,r⟩:=hf rfl v hv; .free (hk.imp id And.right) d l e r
 |globalImplicit=>
  show aV T W pr env m h ⟨nm,.glob,T.C.glob nm⟩;cases hv:T.C.glob nm with
  |none=>exact .glob0
  |some v=>exact let ⟨v',g1,g2⟩:=F.glob _ _ hv; .glob (kd nofun) g1 (g2 W)
 |globalExplicit=>exact .glob0
theorem frame0_names {C:ce}{scope:Scope}{once:List Str}{fv:Str→Option V}:(cm C scope once fv).map (·.name)=scope.names.map (·.1):=List.map_map
theorem lamOK_frame0 {C:ce}{scope:Scope}{fv:Str→Option V}:ff (cm C scope [] fv)=false:=by
 refine List.any_eq_false.mpr fun sl hsl=>?_
 obtain⟨⟨nm,k⟩,_,rfl⟩:=List.mem_map.mp hsl;cases k <;> exact Bool.false_ne_true
theorem jT {C:ce}{once:List Str}{fv:Str→Option V}{x:Str×NameKind}{a:Addr}(h:cz env (rA C once fv x)=some a):x.2 = .cell∧env.cells.lookup x.1=some a:=by
 obtain⟨nm,k⟩:=x;cases k with
 |cell=>
  have h:cz env ⟨nm,(match ia nm once with | true=>.once | false=>.cell),none⟩=some a:=h
  cases q:ia nm once <;> rw [q] at h <;> exact⟨rfl,h⟩
 |_=>exact ac h
theorem gq {f:Str→Bool}{x:Str×NameKind}(h:qz false f x=true):x.2≠.cell:=fun e=>by
 obtain⟨_,k⟩:=x;cases (show k = .cell from e)
 exact Bool.false_ne_true h
theorem gr {f:Str→Bool}{b:Bool}{x:Str×NameKind}(h:qz b f x=true) (e:x.2 = .free):f x.1=true∧(x.1==("__classdict__" : Str))=false:=by
 obtain⟨nm,k⟩:=x;cases (show k = .free from e)
 have h:=Bool.and_eq_true_iff.mp h;refine⟨h.1,beq_eq_false_iff_ne.mpr fun q=>Bool.false_ne_true ((congrArg not (sEq_iff.mpr q)).symm.trans h.2)⟩
structure iO (scope:Scope) (ρ:P):Prop where
 kind:scope.kind = .function
 nd:(scope.names.map (·.1)).Nodup
 all:∀x∈scope.names,qz false (dy · ρ) x=true
theorem lb {scope:Scope}(ok:rC scope ρ=true):iO scope ρ:=
 have h:=Bool.and_eq_true_iff.mp ok;have h1:=Bool.and_eq_true_iff.mp h.1
 ⟨eq_of_beq h1.1,bt h1.2,List.all_eq_true.mp h.2⟩
theorem gu {scope:Scope}{cl:List (Str×Addr)}{Cl:Addr}{C:ce}(ok:iO scope ρ):aU (compEnvC scope cl Cl env) (aH C scope ρ)=[Cl]:=by
 unfold aU;rw [List.filterMap_eq_nil_iff.mpr fun sl hsl=>wk fun a e=>?_]; rfl
 obtain⟨x,hx,rfl⟩:=List.mem_map.mp hsl;exact gq (ok.all x hx) (jT e).1
theorem oE (F:TF T) (S:St T W pr env ρ σ s) {scope:Scope}{Cl:Addr}(ok:iO scope ρ) (R:aI T W (je env ρ pr s.heap) σ s') (hC:dO T W (je env ρ pr s.heap) Cl) (hn:s'.heap.Ns Cl fun _=>none) :
  St T W (je env ρ pr s.heap) (compEnvC scope (bn env scope.names []) Cl env) (aH T.C scope ρ) σ s':=by
 have ho:=gu (env:=env) (cl:=bn env scope.names []) (Cl:=Cl) (C:=T.C) ok;refine⟨⟨ok.kind,S.f.glb,S.f.blt,⟨_,hn,fun sl hsl=>?_⟩,fun a ha=>?_,by rw [ho]; exact List.pairwise_singleton _ _,frame0_names.symm▸ok.nd,fun h=>absurd (lamOK_frame0.symm.trans h) Bool.false_ne_true⟩,R⟩
 ·obtain⟨⟨nm,k⟩,h1,rfl⟩:=List.mem_map.mp hsl;refine mw F rfl rfl (la ok.nd h1) (fun e=>absurd e (gq (ok.all _ h1))) fun e v hv=>?_
  obtain⟨hc,hd⟩:=gr (ok.all _ h1) e;obtain⟨c,v',h2,h3,h4⟩:=wm S hc hv;subst e;exact⟨c,v',hd,dH h2 ok.nd h1,h3,h4⟩
 ·rw [ho] at ha;exact List.mem_singleton.mp ha▸hC
end
end Mini
set_option maxRecDepth 100000
set_option autoImplicit false
namespace Mini
open PySem PySem.W PyProof.Rows
inductive BR (T:TS) (A:Around) (tgt:Expr) (I:Addr):It→Wd→List (Addr×Obj)→Prop
 |items {t:Bool}{g:Option Nat}{xs:List V}{W:Wd}{hs:List (Addr×Obj)}(nx:∀W2,W.le W2→Nx T A I tgt (xm g xs) xs W2 hs) (sf:∀W2,W.le W2→Sf T A I W2 hs):BR T A tgt I (.items t g xs) W hs
noncomputable abbrev GI (T:TS) (A:Around) (tgt:Expr) (W:Wd) (pr:Kn) (env:Env) (ρ:P) (K:It→H→Ws→Prop) (Q:Value→Shared→Prop):Prop:=
 ∀W' s' I hs it σ' ws',W.le W'→St T W' pr env ρ σ' s'→aQ T W' pr env ρ s' hs→BR T A tgt I it W' hs→K it σ' ws'→Q (.ref I) s'
noncomputable abbrev Bs (T:TS) (A:Around) (E:Value→Shared→Prop) (use:Option (Value→Sem Unit)) (W:Wd) (pr:Kn) (env:Env) (ρ:P) (K:V→H→Ws→Prop) (Q:Value→Shared→Prop):Prop:=
 ∀W' s' D Cl m v σ' ws',W.le W'→St T W' pr env ρ σ' s'→VR T.P W' v (.ref D)→dO T W' pr Cl→Cl∉aU env ρ→s'.heap.Ns Cl m→K v σ' ws'→compPost T.M A E use Q (.ref D) Cl (.ok .next) s'
noncomputable def iP (tgt:Expr) (K:It→H→Ws→Prop):Prop:=∀it σ ws,K it σ ws→xy it tgt=true
structure eZ (T:TS) (n:Nat) (r:cT):Prop extends Snd T n r where
 itr:∀{e:Expr}{ρ:P}{σ:H}{ws:Ws}{K:It→H→Ws→Prop},r.I e ρ σ ws K→∀{tgt:Expr}{W:Wd}{pr:Kn}{env:Env}{s:Shared}{A:Around}{E:Value→Shared→Prop}{Q:Value→Shared→Prop},
  iP tgt K→St T W pr env ρ σ s→an A n→GI T A tgt W pr env ρ K Q→wpAny T.M A (eval e env) (fun x s₁=>wpAny T.M A (pyIter x) Q E s₁) E s
 cmp:∀{elt:Expr}{gens:List Comprehension}{scope:Scope}{pos:Pos}{ρ:P}{σ:H}{ws:Ws}{K:V→H→Ws→Prop},r.E (.ListComp elt gens scope pos) ρ σ ws K →
  ∀{W:Wd}{pr:Kn}{env:Env}{s:Shared}{A:Around}{E:Value→Shared→Prop}{use:Option (Value→Sem Unit)}{Q:Value→Shared→Prop}{pos0:Pos},St T W pr env ρ σ s→an A n→Bs T A E use W pr env ρ K Q →
  wpAny T.M A (comprehension (.ListComp elt gens scope pos) scope env pos0 (newList []) (firstAsync gens) (firstIter gens env) use) Q E s
section
variable {T:TS}{W W':Wd}{pr:Kn}{env:Env}{ρ ρ':P}{σ σ':H}{s s':Shared}{A:Around}{E:Value→Shared→Prop}{n:Nat}{r:cT}{ws:Ws}{K:V→H→Ws→Prop}
theorem qo {e:Expr}(h:rE e=false) (env:Env) (v:Value):foldedSetIterable e env v=pure v:=by
 cases e <;> first | rfl | cases h
theorem cD {h:Heap}{a:Addr}(ha:h.objs.size≤a):h.get? a=none:=nX ha
theorem fT (S:St T W pr env ρ σ s) {a:Addr}(h:s.heap.get? a=none):a∉aU env ρ:=fun q=>by obtain⟨p,hp⟩:=S.f.there q; rw [hp] at h; cases h
noncomputable def wn (T:TS) (A:Around) (E:Value→Shared→Prop) (use:Option (Value→Sem Unit)) (Q:Value→Shared→Prop) (b:Bool) (vs:List V) (W:Wd) (pr:Kn) (env:Env) (ρ:P) (σ:H):Prop:=
 ∀W' s' D Cl m,W.le W'→St T W' pr env ρ (aD b (.list vs) (.list vs) σ).2 s'→VR T.P W' (aD b (.list vs) (.list vs) σ).1 (.ref D)→dO T W' pr Cl→Cl∉aU env ρ→s'.heap.Ns Cl m→compPost T.M A E use Q (.ref D) Cl (.ok .next) s'
theorem oF (F:TF T) (S:St T W pr env ρ σ s) {elt tgt iter:Expr}{ifs:List Expr}{scope:Scope}{pos:Pos}{I:Addr}{vs:List V}{b:Bool}{use:Option (Value→Sem Unit)}{Q:Value→Shared→Prop}(ok:iO scope ρ)
  (lH:∀(s1:Shared) (D Cl:Addr) (RR:Result→Shared→Prop),St T W (je env ρ pr s1.heap) (compEnvC scope (bn env scope.names []) Cl env) (aH T.C scope ρ) σ s1 →
   bG T W (je env ρ pr s1.heap) (compEnvC scope (bn env scope.names []) Cl env) (aH T.C scope ρ) s1 D (ak [] 0) →
   (∀a o,s.heap.get? a=some o→s1.heap.get? a=some o)→s.heap.objs.size≤D→s.heap.objs.size≤Cl →
   (∀W' s' ρ' ys ep',W.le W'→St T W' (je env ρ pr s1.heap) (compEnvC scope (bn env scope.names []) Cl env) ρ' σ' s'→bG T W' (je env ρ pr s1.heap) (compEnvC scope (bn env scope.names []) Cl env) ρ' s' D (ak ys ep')→aB T.P W' vs ys→RR (.ok .next) s') →
   codeAny T.M A (.compStart (.ListComp elt [⟨tgt,iter,ifs,0⟩] scope pos) 0 (.ref I) (.ref D) (compEnvC scope (bn env scope.names []) Cl env)) RR s1)
  (q:wn T A E use Q b vs W pr env ρ σ') :
  wpAny T.M A (newList []) (fun acc s₃=>wpAny T.M A (newFunctionEnv scope env.globals (bn env scope.names []) [] env.qual none .none (some env)) (fun cenv s₄=>
   codeAny T.M A (.compStart (.ListComp elt [⟨tgt,iter,ifs,0⟩] scope pos) 0 (.ref I) acc { cenv with scope:=relabel scope env }) (compPost T.M A E use Q acc cenv.locals) s₄) E s₃) E s:=by
 refine wpAny_newObj_type (wpAny_newFunctionEnv (fun x hx=>gq (ok.all x hx)) (by intro y hy; simp at hy) (fun h₁ hns₁ hsb₁=>?_) ok.kind)
 dsimp only at hns₁ hsb₁ ⊢;generalize hH2:s.heap.push { cls:=.type "list",dict:=none,data:=.seq ([]:List Value).toArray } = H2 at hns₁ hsb₁ ⊢;have hCsz:H2.objs.size=s.heap.objs.size+1:=by rw [←hH2,Heap.size_push]
 have hDC:s.heap.objs.size≠H2.objs.size:=by rw [hCsz]; exact Nat.ne_of_lt (Nat.lt_succ_self _)
 have keep:∀a o,s.heap.get? a=some o→h₁.get? a=some o:=fun a o e=>by
  have hlt:=Heap.lt_size e;exact hsb₁.extBut a o (by rw [hCsz]; exact Nat.ne_of_lt (Nat.lt_succ_of_lt hlt)) (Heap.get?_push_of_some _ (hH2▸Heap.get?_push_of_some _ e))
 have hD:h₁.get? s.heap.objs.size=some (ak [] 0):=hsb₁.extBut _ _ hDC (Heap.get?_push_of_some _ (hH2▸Heap.get?_push_size _ rfl));have hns:h₁.Ns H2.objs.size fun _=>none:=by simpa using hns₁
 have fD:=cD (h:=s.heap) (Nat.le_refl s.heap.objs.size);have fC:s.heap.get? H2.objs.size=none:=cD (by rw [hCsz]; exact Nat.le_succ _)
 have oD:=fT S fD;have oC:=fT S fC;have S4:St T W pr env ρ σ { s with heap:=h₁,toks:=s.toks+([]:List (Str×Value)).length }:=S.grow ⟨keep,rfl,rfl,by simp⟩
 have R4:=S4.guard;have up:∀a,a∉aU env ρ→je env ρ pr h₁ a=pr a:=fun a h=>by unfold je; rw [if_neg h]
 have nD:dO T W (je env ρ pr h₁) s.heap.objs.size:=by have x:=S.r.new fD; exact⟨x.nfz,by rw [up _ oD]; exact x.npr,x.nphi,x.ntab⟩
 have nC:dO T W (je env ρ pr h₁) H2.objs.size:=by have x:=S.r.new fC; exact⟨x.nfz,by rw [up _ oC]; exact x.npr,x.nphi,x.ntab⟩
 have SC:=oE F S4 ok R4 nC hns;have hHD:bG T W (je env ρ pr h₁) (compEnvC scope (bn env scope.names []) H2.objs.size env) (aH T.C scope ρ) { s with heap:=h₁,toks:=s.toks+([]:List (Str×Value)).length } s.heap.objs.size (ak [] 0):=
  ⟨nD,by rw [gu ok,List.mem_singleton]; exact hDC,hD⟩
 refine lH _ s.heap.objs.size H2.objs.size _ SC hHD keep (Nat.le_refl _) (by rw [hCsz]; exact Nat.le_succ _) fun W2 s2 ρ2 ys ep L2 S2 h2 hv=>?_
 have SO:St T W2 pr env ρ σ' s2:=S4.back L2 S2.r;obtain⟨m2,hn2,_⟩:=S2.f.fr;have xC:=S2.f.own H2.objs.size List.mem_cons_self;have pC:dO T W2 pr H2.objs.size:=⟨xC.nfz,by have:=xC.npr; rw [up _ oC] at this; exact this,xC.nphi,xC.ntab⟩
 have pD:bG T W2 pr env ρ s2 s.heap.objs.size (ak ys ep):=⟨⟨h2.n.nfz,by have:=h2.n.npr; rw [up _ oD] at this; exact this,h2.n.nphi,h2.n.ntab⟩,oD,h2.at_⟩
 cases b with
 |false=>
  obtain⟨S3,L3⟩:=SO.still pD;refine q _ s2 s.heap.objs.size H2.objs.size m2 (L2.trans L3) S3 ?_ ⟨?_,pC.npr,pC.nphi,pC.ntab⟩ oC hn2
  ·exact VR.mkL (Wd.add_at _ _ _) (hv.mono L3)
  ·show (if H2.objs.size=_ then _ else _)=_
   rw [if_neg (Ne.symm hDC)]; exact pC.nfz
 |true=>
  have L3:W2.le ⟨W2.phi++[s.heap.objs.size],W2.fz,W2.tk⟩:=⟨⟨[_],rfl⟩,fun _ _ e=>e,Nat.le_refl _⟩
  obtain⟨S3,_⟩:=SO.give pD (x:=.list vs) ⟨ys,ep,rfl,hv.mono L3⟩;refine q _ s2 s.heap.objs.size H2.objs.size m2 (L2.trans L3) S3 ?_ ⟨pC.nfz,pC.npr,fun h=>?_,pC.ntab⟩ oC hn2
  ·exact VR.mkR (SO.r.newAt _)
  ·rcases List.mem_append.mp h with h | h
   ·exact pC.nphi h
   ·rw [List.mem_singleton] at h; exact hDC h.symm
theorem oG {scope:Scope}(ok:iO scope ρ) (S:St T W pr env ρ σ s) {hs:List (Addr×Obj)}{cl:List (Str×Addr)}{D Cl:Addr}{C:ce}{o:Obj}(h:aQ T W pr env ρ s hs) (_S1:St T W (je env ρ pr s'.heap) (compEnvC scope cl Cl env) (aH C scope ρ) σ s')
  (keep:∀a o,s.heap.get? a=some o→s'.heap.get? a=some o) (hD:s.heap.objs.size≤D) (hC:s.heap.objs.size≤Cl) :
  aQ T W (dk (je env ρ pr s'.heap) D o) (compEnvC scope cl Cl env) (aH C scope ρ) s' hs:=by
 refine⟨h.nd,fun p hp=>?_,h.nc⟩
 have x:=h.at_ p hp;have hlt:=Heap.lt_size x.at_;have y:=x.n;refine⟨⟨y.nfz,?_,y.nphi,y.ntab⟩,?_,keep _ _ x.at_⟩
 ·rw [cC _ _ (Nat.ne_of_lt (Nat.lt_of_lt_of_le hlt hD))];exact (kM x.no).trans y.npr
 ·rw [gu ok,List.mem_singleton];exact Nat.ne_of_lt (Nat.lt_of_lt_of_le hlt hC)
theorem du (F:TF T) (R:eZ T n r) {C:ce}(hC:T.C=C) {call:ad}{elt:Expr}{gens:List Comprehension}{scope:Scope}{pos pos0:Pos}{use:Option (Value→Sem Unit)}{Q:Value→Shared→Prop}
  (e:bv C call r (.ListComp elt gens scope pos) ρ σ ws K) (S:St T W pr env ρ σ s) (r2:an A n) (q:Bs T A E use W pr env ρ K Q) :
  wpAny T.M A (comprehension (.ListComp elt gens scope pos) scope env pos0 (newList []) (firstAsync gens) (firstIter gens env) use) Q E s:=by
 subst hC;cases gens with
 |nil=>exact e.elim
 |cons g gs=>
  obtain⟨c,e0⟩:=bd.out e;simp only [Bool.and_eq_true,List.isEmpty_iff,beq_iff_eq,Bool.not_eq_true'] at c;obtain⟨⟨⟨rfl,c2⟩,c3⟩,c4⟩:=c;obtain⟨target,iter,ifs,as⟩:=g;dsimp only at c2 c3 e0;subst c2;have ok:=lb c4;refine wpAny_comprehension_free (g:=⟨target,iter,ifs,0⟩) (gs:=[]) rfl (qo c3 env) (cX fun x hx hf=>oB S (gr (ok.all x hx) hf).1) ok.kind (fun x hx hl=>ba ok.nd (show (x.1,NameKind.local)∈scope.names by rw [←hl]; exact hx)) ?_
  refine R.itr (tgt:=target) e0 (fun it σ ws h=>(bd.out h).1) S r2 fun W1 s1 I hs it σ1 ws1 L1 S1 h1 hi e1=>?_
  obtain⟨g1,g2,e1⟩:=bd.out e1;refine dA.out e1 fun⟨vs,σ2⟩ ws2 e2=>oF (b:=T.C.hint pos) (σ':=σ2) (vs:=vs) F S1 ok (fun s2 D Cl RR S2 hD keep kD kC qq=>?_) fun W' s' D Cl m L2 S2 hv hn ho hm=>q W' s' D Cl m _ _ ws2 (L1.trans L2) S2 hv hn ho hm e2.2
  have hh:=oG ok (o:=ak [] 0) S1 h1 S2 keep kD kC;have qq':GC T W1 (je env ρ pr s2.heap) (compEnvC scope (bn env scope.names []) Cl env) D (fun vs' σ3=>vs'=vs∧σ3=σ2) RR:=fun W2 s3 vs' ρ' σ3 ys ep L S3 h3 hv k=>by
   obtain⟨rfl,rfl⟩:=k;exact qq W2 s3 ρ' ys ep L S3 h3 hv
  induction hi with
  |items nx sf=>
   have lH:=k9 (iter:=iter) (elt:=elt) (scope:=scope) (pos:=pos) R.toSnd e2.1 ⟨S2,hD,hh⟩ r2 (hJ g2) nx qq';exact codeAny_compStart_list lH (sf _ (.refl _) _ _ _ _ _ _ _ (S2.protect hD) hh lH)
theorem jl (F:TF T) (R:eZ T n r) {C:ce}(hC:T.C=C) {call:ad}{elt:Expr}{gens:List Comprehension}{scope:Scope}{pos:Pos}{Q:Value→Shared→Prop}
  (e:bv C call r (.ListComp elt gens scope pos) ρ σ ws K) (S:St T W pr env ρ σ s) (r2:an A n) (q:GE T W pr env ρ K Q):wpAny T.M A (eval (.ListComp elt gens scope pos) env) Q E s:=by
 show wpAny T.M A (comprehension (.ListComp elt gens scope pos) scope env (firstIterPos gens pos) (newList []) (firstAsync gens) (firstIter gens env)) Q E s;exact du F R hC e S r2 fun W' s' D Cl m v σ' ws' L S' hv hn ho hm k=>
  ⟨m,hm,fun h' hs'=>q W' _ v (.ref D) σ' ws' L hv (S'.lose hn ho (fun b hb p e=>(hs'.2 b hb).trans e) rfl rfl (Nat.le_refl _)) k⟩
end
end Mini
set_option maxRecDepth 100000
set_option autoImplicit false
namespace Mini
open PySem PySem.W PyProof.Rows
section
variable {T:TS}{W W':Wd}{pr:Kn}{env:Env}{ρ ρ':P}{σ σ':H}{s s':Shared}{A:Around}{E:Value→Shared→Prop}{n:Nat}{r:cT}{C:ce}{call:ad}{ws:Ws}{K:Fl→P→H→Ws→Prop}{Q:Flow→Shared→Prop}
theorem tW (R:eZ T n r) {tgt iter:Expr}{body orelse:List Stmt}{pos:Pos}(e:dU C call r (.For tgt iter body orelse pos) ρ σ ws K) (S:St T W pr env ρ σ s) (r2:an A n) (q:GS T W pr env K Q) :
  wpAny T.M A (exec (.For tgt iter body orelse pos) env) Q E s:=by
 obtain⟨c,e0⟩:=bd.out e;obtain⟨c1,c2⟩:=Bool.and_eq_true_iff.mp c;rw [List.isEmpty_iff] at c1;subst c1;refine wpAny_For ?_ (fun x=>qo (Bool.not_eq_true' _ |>.mp c2) env x)
 refine R.itr (tgt:=tgt) e0 (fun it σ ws h=>(bd.out h).1) S r2 fun W1 s1 I hs it σ1 ws1 L1 S1 h1 hi e1=>?_
 obtain⟨_,e1⟩:=bd.out e1;refine dA.out e1 fun⟨f,ρ2,σ2⟩ ws2 e2=>?_
 have qq:GF T W1 pr env (fun f2 ρ3 σ3=>f2=f∧ρ3=ρ2∧σ3=σ2) Q:=fun W2 s2 f2 f' ρ3 σ3 L2 hf S2 k=>by
  obtain⟨rfl,rfl,rfl⟩:=k;exact q W2 s2 _ f' _ _ ws2 (L1.trans L2) hf S2 e2.2
 induction hi with
 |items nx sf=>exact zc R.toSnd e2.1 S1 r2 h1 nx qq
theorem wo (R:eZ T n r) {t:Expr}{a b:List Stmt}{pos:Pos}(e:dU C call r (.If t a b pos) ρ σ ws K) (S:St T W pr env ρ σ s) (r2:an A n) (q:GS T W pr env K Q) :
  wpAny T.M A (exec (.If t a b pos) env) Q E s:=
 wpAny_If (R.tst e S r2 fun W1 s1 c σ1 ws1 L1 S1 e1=>match c,e1 with
  |true,e1=>dm R.toSnd e1 S1 r2 (q.mono L1)
  |false,e1=>dm R.toSnd e1 S1 r2 (q.mono L1))
theorem my (R:eZ T n r) {x:Option Expr}{pos:Pos}(e:dU C call r (.Return x pos) ρ σ ws K) (S:St T W pr env ρ σ s) (r2:an A n) (q:GS T W pr env K Q) :
  wpAny T.M A (exec (.Return x pos) env) Q E s:=by
 cases x with
 |none=>
  show wpAny T.M A (do standAt pos; return .ret .none) Q E s
  exact wpAny_bind (wpAny_standAt (wpAny_pure (q W s (.ret .none) _ ρ σ ws (.refl W) ⟨.none,rfl,.mkN⟩ S e)))
 |some x=>
  show wpAny T.M A (do standAt pos; return .ret (←eval x env)) Q E s
  exact wpAny_bind (wpAny_standAt (wpAny_bind (R.ev e S r2 fun W1 s1 v v' σ1 ws1 L1 h1 S1 e1=>wpAny_pure (q W1 s1 (.ret v) _ ρ σ1 ws1 L1 ⟨v',rfl,h1⟩ S1 e1))))
theorem qW {pos:Pos}(e:dU C call r (.Pass pos) ρ σ ws K) (S:St T W pr env ρ σ s) (q:GS T W pr env K Q):wpAny T.M A (exec (.Pass pos) env) Q E s:=by
 show wpAny T.M A (do standAt pos; pure .next) Q E s
 exact wpAny_bind (wpAny_standAt (wpAny_pure (q W s .next _ ρ σ ws (.refl W) rfl S e)))
inductive Bt:Expr→Prop
 |no {e:Expr}(h:∀t line env,swapsWith e t line env=pure false):Bt e
 |lc {elt:Expr}{gens:List Comprehension}{scope:Scope}{pos:Pos}(h:∀t line env,∃b,swapsWith (.ListComp elt gens scope pos) (some t) line env=pure b):Bt (.ListComp elt gens scope pos)
theorem BS (e:Expr) (h:uO e=false):Bt e:=by
 cases e with
 |ListComp=>exact .lc fun t _ _=>by cases t <;> exact⟨_,rfl⟩
 |SetComp=>exact absurd h Bool.false_ne_true.symm
 |DictComp=>exact absurd h Bool.false_ne_true.symm
 |_=>exact .no fun _ _ _=>rfl
theorem tX {t value:Expr}(h:pe t value=false) (env:Env):swappedStores [t] value env=pure none:=by
 cases t with
 |Tuple ts k p=>cases value <;> first | rfl | cases h
 |List ts p=>cases h
 |_=>rfl
theorem zd (R:eZ T n r) {t:Expr}{use:Value→Sem Unit}(hu:∀x,use x=assign t env x) (r2:an A n) (q:GS T W pr env K Q) :
  Bs T A E (some use) W pr env ρ (fun v σ ws=>r.A t v ρ σ ws fun ρ σ ws=>K .next ρ σ ws) (fun _ s'=>Q .next s'):=fun W' s' D Cl m v σ1 ws1 L S hv hn ho hm e2=>by
 show wpAny T.M A (use (.ref D)) _ E s';rw [hu];obtain⟨oC,es,ep,hC,hd,hk⟩:=hm;have hH:bG T W' pr env ρ s' Cl oC:=⟨hn,ho,hC⟩;have hnc:∀v,oC.data≠.cell (some v):=fun v e=>by rw [hd] at e; cases e
 refine R.asg e2 (S.protect hH) r2 hv fun W2 s2 ρ2 σ2 ws2 L2 S2 e3=>?_
 obtain⟨S3,h3⟩:=S2.unprotect hn.npr S.r.sys hnc;exact⟨m,⟨oC,es,ep,h3.at_,hd,hk⟩,fun h' hs'=>q W2 _ .next _ _ _ ws2 (L.trans L2) rfl (S3.lose h3.n h3.no (fun b hb p e=>(hs'.2 b hb).trans e) rfl rfl (Nat.le_refl _)) e3⟩
theorem mz (R:eZ T n r) {ts:List Expr}{x:Expr}{pos:Pos}(e:dU C call r (.Assign ts x pos) ρ σ ws K) (S:St T W pr env ρ σ s) (r2:an A n) (q:GS T W pr env K Q) :
  wpAny T.M A (exec (.Assign ts x pos) env) Q E s:=by
 cases ts with
 |nil=>exact e.elim
 |cons t ts=>
  obtain⟨c,e0⟩:=bd.out e;simp only [Bool.and_eq_true,List.isEmpty_iff,Bool.not_eq_true'] at c;obtain⟨⟨⟨rfl,hb⟩,hsd⟩,hst⟩:=c;have hta:(assignEach [t] env).map (·.2)=[assign t env]:=by rw [(dG (ts:=[t]) (show ar [t]=true from Bool.and_eq_true_iff.mpr ⟨hst,rfl⟩)).2.2 rfl]; rfl
  have plain:swapsWithSole [t] x pos.line env=pure false→wpAny T.M A (exec (.Assign [t] x pos) env) Q E s:=fun hs=>by
   refine wpAny_Assign_stores (R.ev e0 S r2 fun W1 s1 v v' σ1 ws1 L1 h1 S1 e1=>?_) hs (tX hb env)
   rw [hta];show wpAny T.M A (assign t env v') _ E s1;exact R.asg e1 S1 r2 h1 fun W2 s2 ρ2 σ2 ws2 L2 S2 e2=>q W2 s2 .next _ _ _ ws2 (L1.trans L2) rfl S2 e2
  have x0:=BS x hsd
  induction x0 with
  |no h=>exact plain (h _ _ _)
  |@lc elt gens scope p h=>
   obtain⟨b,hs⟩:=h t pos.line env;cases b with
   |false=>exact plain hs
   |true=>
    rw [exec_Assign_arm];refine wpAny_bind (wpAny_standAt ?_);have hs':swapsWithSole [t] (.ListComp elt gens scope p) pos.line env=pure true:=hs;rw [hs'];refine wpAny_bind (wpAny_pure ?_);rw [if_pos rfl,hta];show wpAny T.M A (do
     let _ ←(do let _ ←comprehension (.ListComp elt gens scope p) scope env (firstIterPos gens p) (newList []) (firstAsync gens) (firstIter gens env) (some fun v=>assignAll v [assign t env]))
     pure .next) Q E s
    refine wpAny_bind (wpAny_bind (wpAny_mono (R.cmp e0 (Q:=fun _ s'=>Q .next s') S r2 (zd R (fun _=>rfl) r2 q)) (fun _ s' hq=>wpAny_pure (wpAny_pure hq)) fun _ _ e=>e))
theorem wp {e:Expr}(h:nr e=false):uO e=false:=by
 unfold nr at h;unfold uO;generalize e.ctorIdx=k at *
 match k,h with
 |0,_ | 1,_ | 2,_ | 3,_ | 4,_ | 5,_ | 6,_ | 7,_=>rfl
 |k+11,_=>rfl
theorem qX (R:eZ T n r) {x:Expr}{pos:Pos}(e:dU C call r (.Expr x pos) ρ σ ws K) (S:St T W pr env ρ σ s) (r2:an A n) (q:GS T W pr env K Q):wpAny T.M A (exec (.Expr x pos) env) Q E s:=by
 obtain⟨hc,e0⟩:=bd.out e;have hi:interactive env=false:=by unfold interactive; rw [S.f.kind]; rfl
 have hc:=(Bool.not_eq_true' _).mp hc;have hs:swapsWith x none pos.line env=pure false:=by
  have x0:=BS x (wp hc)
  induction x0 with
  |no h=>exact h _ _ _
  |lc=>exact absurd hc Bool.false_ne_true.symm
 exact wpAny_Expr_any (R.ev e0 S r2 fun W1 s1 v v' σ1 ws1 L1 h1 S1 e1=>q W1 s1 .next _ ρ σ1 ws1 L1 rfl S1 e1) hi hs
theorem tY (R:eZ T n r) {body:List Stmt}{hs:List ExceptHandler}{orelse final:List Stmt}{pos:Pos}(e:dU C call r (.Try body hs orelse final pos) ρ σ ws K) (S:St T W pr env ρ σ s) (r2:an A n) (q:GS T W pr env K Q) :
  wpAny T.M A (exec (.Try body hs orelse final pos) env) Q E s:=by
 obtain⟨hg,e0⟩:=bd.out e;simp only [Bool.and_eq_true,Bool.not_eq_true',List.isEmpty_iff] at hg;obtain⟨⟨h1,rfl⟩,rfl⟩:=hg;cases hs with
 |nil=>cases h1
 |cons h0 hs=>
  refine wpAny_Try_except (dm R.toSnd e0 S r2 fun W1 s1 f f1 ρ1 σ1 ws1 L1 hf S1 e1=>?_)
  have:=q W1 s1 f f1 ρ1 σ1 ws1 L1 hf S1 e1;cases f1 with
  |next=>exact wpAny_execs_nil this
  |_=>exact this
end
end Mini
set_option maxRecDepth 100000
set_option autoImplicit false
namespace Mini
open PySem PySem.W PyProof.Rows
section
variable {T:TS}{W W':Wd}{pr:Kn}{env:Env}{ρ:P}{σ:H}{s:Shared}{A:Around}{E:Value→Shared→Prop}{n:Nat}{r:cT}{ws:Ws}
noncomputable abbrev AP (T:TS) (W:Wd) (pr:Kn) (env:Env) (ρ:P) (K:List V→List (Str×V)→H→Ws→Prop) (Q:Args→Shared→Prop):Prop:=
 ∀W' s' vs kw a σ' ws',W.le W'→aB T.P W' vs a.pos→cP T.P W' kw a.kw→St T W' pr env ρ σ' s'→K vs kw σ' ws'→Q a s'
theorem mC (R:Snd T n r) {f:Value}{args:List Expr}{kws:List Keyword}{pos:Pos}{K:List V→List (Str×V)→H→Ws→Prop}{Q:Args→Shared→Prop}(h1:ar args=true) (h2:bC kws=true)
  (e:gc r ρ args σ ws fun vs σ ws=>lF r ρ kws σ ws fun kw σ ws=>K vs kw σ ws) (S:St T W pr env ρ σ s) (r2:an A n) (q:AP T W pr env ρ K Q):wpAny T.M A (evalArgs f true (backTo pos (starEach args env)) (backToKw pos (keywordEach kws env))) Q E s:=by
 have hall:=(cO (env:=env) (pos:=pos) h2).1;cases args with
 |nil=>exact evalArgs_kw_nil hall (ol R e S r2 fun W1 s1 kw us σ1 ws1 L1 k1 S1 e1=>q W1 s1 [] kw _ σ1 ws1 L1 .nil k1 S1 e1)
 |cons x args=>
  have hs:backTo pos (starEach (x::args) env)=(false,eval x env)::backTo pos (starEach args env):=by rw [aP (aK h1).1]; rfl
  rw [hs];refine evalArgs_kw hall ?_;rw [←hs];exact fQ R h1 e S r2 fun W1 s1 vs us σ1 ws1 L1 k1 S1 e1 _=>ol R e1 S1 r2 fun W2 s2 kw ks σ2 ws2 L2 k2 S2 e2=>q W2 s2 vs kw _ σ2 ws2 (L1.trans L2) (k1.mono L2) k2 S2 e2
noncomputable def bW (T:TS) (A:Around) (f:Value) (s:Shared):Prop:=∀(Q:Keeper→Shared→Prop) (E:Value→Shared→Prop),(∀k,Q k s)→wpAny T.M A (keeperOf f) Q E s
theorem bj {f:Value}(h:∀a,f≠.ref a):bW T A f s:=fun Q E q=>by
 unfold keeperOf;cases f <;> first | exact wpAny_pure (q _) | exact absurd rfl (h _)
theorem jU {a:Addr}{o:Obj}{fd:FuncData}(ho:s.heap.get? a=some o) (hd:o.data = .func fd):bW T A (.ref a) s:=fun Q E q=>by
 show wpAny T.M A (load a >>= _) Q E s;refine wpAny_bind (wpAny_load ho ?_);rw [hd];exact wpAny_pure (q _)
theorem aY {pos:Pos}{f:Value}{first:List Value}{args:List (Bool×Sem Value)}{kws:List (Option Str×Sem Value)}{Q:Value→Shared→Prop}(hp:args.any (·.1)=false) (hk:kws.any (·.1.isNone)=false)
  (h:wpAny T.M A (evalArgs f true args kws) (fun a s₁=>bW T A f s₁∧wpAny T.M A (call f (first++a.pos) a.kw) Q E s₁) E s):wpAny T.M A (callWith pos f first args kws) Q E s:=by
 unfold callWith;refine wpAny_bind (wpAny_holding (wpAny_mono h (fun a s₁ h₁=>wpAny_bind (wpAny_standAt ?_)) fun _ _ x=>x))
 obtain⟨k1,k2⟩:=h₁;have tail:∀{t:Sem Value},wpAny T.M A t Q E s₁→wpAny T.M A (t >>= fun r=>holding [r] point >>= fun _=>pure r) Q E s₁:=
  fun ht=>wpAny_bind (wpAny_mono ht (fun r s₂ hr=>wpAny_bind (wpAny_holding (wpAny_point (wpAny_pure hr)))) fun _ _ x=>x)
 have marked:∀m,wpAny T.M A (callMarked m f (first++a.pos) a.kw) Q E s₁:=fun m=>by
  unfold callMarked;exact Calls.wpAny_keep k2
 simp only [hp,hk,Bool.or_false];refine wpAny_bind (k1 _ _ fun k=>?_)
 cases k with
 |frame=>
  dsimp only;split
  ·exact tail k2
  ·exact tail (marked _)
 |boundFrame=>
  dsimp only;split
  ·exact tail k2
  ·exact tail (marked _)
 |machine=>exact tail k2
 |caller=>exact tail (wpAny_operate' k2)
theorem ej (R:Snd T n r) {f:Value}{first:List Value}{args:List Expr}{kws:List Keyword}{pos:Pos}{K:List V→List (Str×V)→H→Ws→Prop}{Q:Value→Shared→Prop}(h1:ar args=true) (h2:bC kws=true)
  (e:gc r ρ args σ ws fun vs σ ws=>lF r ρ kws σ ws fun kw σ ws=>K vs kw σ ws) (S:St T W pr env ρ σ s) (r2:an A n) (q:AP T W pr env ρ K fun a s₁=>bW T A f s₁∧wpAny T.M A (call f (first++a.pos) a.kw) Q E s₁) :
  wpAny T.M A (callWith pos f first (backTo pos (starEach args env)) (backToKw pos (keywordEach kws env))) Q E s:=
 aY (bQ h1).2 (cO h2).2 (mC R h1 h2 e S r2 q)
theorem fU (R:Snd T n r) {f:Value}{first:List Value}{args:List Expr}{pos:Pos}{K:List V→H→Ws→Prop}{Q:Value→Shared→Prop}(h1:ar args=true) (e:gc r ρ args σ ws K) (S:St T W pr env ρ σ s) (r2:an A n)
  (q:∀W' s' vs vs' σ' ws',W.le W'→aB T.P W' vs vs'→St T W' pr env ρ σ' s'→K vs σ' ws'→bW T A f s'∧wpAny T.M A (call f (first++vs')) Q E s'):wpAny T.M A (callWith pos f first (backTo pos (starEach args env)) (backToKw pos (keywordEach [] env))) Q E s:=by
 refine aY (bQ h1).2 rfl ?_;cases args with
 |nil=>exact evalArgs_kw_nil rfl (wpAny_evalAll_nil (q W s [] [] σ ws (.refl W) .nil S e))
 |cons x args=>
  have hs:backTo pos (starEach (x::args) env)=(false,eval x env)::backTo pos (starEach args env):=by rw [aP (aK h1).1]; rfl
  rw [hs];refine Calls.evalArgs_plain ?_;rw [←hs];exact fQ R h1 e S r2 fun W1 s1 vs us σ1 ws1 L1 k1 S1 e1 _=>q W1 s1 vs us σ1 ws1 L1 k1 S1 e1
theorem eJ (R:Snd T n r) {pos:Pos}{a:Expr}{t:String}{Q:Value→Shared→Prop}{K:V→H→Ws→Prop}(h1:ar [a]=true) (e:r.E a ρ σ ws K) (S:St T W pr env ρ σ s) (r2:an A n)
  (q:∀W' s' v v' σ' ws',W.le W'→VR T.P W' v v'→St T W' pr env ρ σ' s'→K v σ' ws'→wpAny T.M A (call (.type t) [v']) Q E s'):wpAny T.M A (callWith pos (.type t) [] (backTo pos (starEach [a] env)) (backToKw pos (keywordEach [] env))) Q E s:=by
 have hs:backTo pos (starEach [a] env)=[(false,eval a env)]:=by rw [aP (aK h1).1]; rfl
 rw [hs];exact aY rfl rfl (Calls.evalArgs_plain (Calls.spliced_cons (R.ev e S r2 fun W1 s1 v v' σ1 ws1 L1 k1 S1 e1=>Calls.spliced_nil ⟨bj nofun,q W1 s1 v v' σ1 ws1 L1 k1 S1 e1⟩)))
theorem jV (R:Snd T n r) {pos:Pos}{a b:Expr}{t:String}{Q:Value→Shared→Prop}{K:V→V→H→Ws→Prop}(h1:ar [a,b]=true) (e:r.E a ρ σ ws fun v σ ws=>r.E b ρ σ ws fun u σ ws=>K v u σ ws) (S:St T W pr env ρ σ s) (r2:an A n)
  (q:∀W' s' v v' u u' σ' ws',W.le W'→VR T.P W' v v'→VR T.P W' u u'→St T W' pr env ρ σ' s'→K v u σ' ws'→wpAny T.M A (call (.type t) [v',u']) Q E s'):wpAny T.M A (callWith pos (.type t) [] (backTo pos (starEach [a,b] env)) (backToKw pos (keywordEach [] env))) Q E s:=by
 obtain⟨g1,g2⟩:=aK h1;have hs:backTo pos (starEach [a,b] env)=[(false,eval a env),(false,eval b env)]:=by rw [aP g1,aP (aK g2).1]; rfl
 rw [hs];exact aY rfl rfl (Calls.evalArgs_plain (Calls.spliced_cons (R.ev e S r2 fun W1 s1 v v' σ1 ws1 L1 k1 S1 e1=>Calls.spliced_cons (R.ev e1 S1 r2 fun W2 s2 u u' σ2 ws2 L2 k2 S2 e2=>Calls.spliced_nil ⟨bj nofun,q W2 s2 v v' u u' σ2 ws2 (L1.trans L2) (k1.mono L2) k2 S2 e2⟩))))
end
end Mini
set_option maxRecDepth 100000
set_option autoImplicit false
namespace Mini
open PySem PySem.W PyProof.Rows
section
variable {env:Env}{s:Shared}{A:Around}{E:Value→Shared→Prop}
theorem qY {o:Expr}{apos pos:Pos}{args:List Expr}{kws:List Keyword}(h:uK o apos pos args kws=true):dS o=false∧(apos.endLine==pos.line)=true∧args.length+kws.length<28:=by
 unfold uK at h;simp only [Bool.and_eq_true,Bool.not_eq_true'] at h;obtain⟨⟨h1,h2⟩,h3⟩:=h;exact⟨h1,by rw [beq_iff_eq]; exact Nat.eq_of_beq_eq_true h2,Nat.le_of_ble_eq_true h3⟩
theorem qZ {f:Expr}{a:List Expr}{k:List Keyword}{p:Pos}(h:(Nat.beq f.ctorIdx 23&&a.isEmpty&&k.isEmpty)=false) (attr:Str) (env:Env) (whole:Sem Value):attributeBase (.Call f a k p) attr env whole=whole:=by
 cases a with
 |cons=>cases f <;> rfl
 |nil=>cases k with
  |cons=>cases f <;> rfl
  |nil=>cases f <;> first | rfl | exact absurd h Bool.false_ne_true.symm
theorem oH {o:Expr}(h:bz o = .other) (attr:Str) (env:Env) (whole:Sem Value):attributeBase o attr env whole=whole:=by
 cases o <;> first | rfl | exact nomatch h
theorem iQ {o:Expr}(h:dS o=false) (attr:Str) (env:Env) (whole:Sem Value):attributeBase o attr env whole=whole:=by
 unfold dS at h;have v:=rs o;generalize hw:bz o=w at v h
 induction v with
 |@call f a k p=>exact qZ h attr env whole
 |other=>exact oH hw attr env whole
 |_=>rfl
theorem gw {o:Expr}{name:Str}{apos pos:Pos}{args:List Expr}{kws:List Keyword}{M:Model}{Q:Value→Shared→Prop}(hm:uK o apos pos args kws=true) (hp:(backTo pos (starEach args env)).all (fun x=>!x.1)=true) (hk:(backToKw pos (keywordEach kws env)).all (fun x=>x.1.isSome)=true)
  (h:wpAny M A (eval o env) (fun ov s₁=>wpAny M A (getMethod ov name (do return (←importBound o env).getD true)) (fun p s₂=>wpAny M A (callWith pos p.1 p.2 (backTo pos (starEach args env)) (backToKw pos (keywordEach kws env))) Q E s₂) E s₁) E s) :
  wpAny M A (eval (.Call (.Attribute o name apos) args kws pos) env) Q E s:=by
 obtain⟨h1,h2,h3⟩:=qY hm;rw [arm_eval_Call,iQ h1];have hform:methodCallForm (args.length+kws.length) (backTo pos (starEach args env)) (backToKw pos (keywordEach kws env))=true:=by
  unfold methodCallForm;rw [hp,hk];simp only [Bool.true_and,decide_eq_true_eq];split <;> omega
 have hpos:methodCallPos true o env apos pos=pure pos:=by unfold methodCallPos; simp [h2]
 refine wpAny_bind (wpAny_mono h (fun ov s₁ h₁=>wpAny_bind (wpAny_standAt ?_)) fun _ _ e=>e)
 unfold methodCall;rw [hform];refine wpAny_bind (wpAny_holding (wpAny_mono h₁ (fun p s₂ h₂=>?_) fun _ _ e=>e))
 exact wpAny_bind (wpAny_of_eq hpos h₂)
end
end Mini
set_option maxRecDepth 100000
set_option autoImplicit false
namespace Mini
open PySem PySem.W PyProof.Rows
noncomputable def mD (TI TO:Addr):Obj:={ cls:=.type "zip",dict:=none,data:=.fields #[.none,.bool false,.bool false,.ref TI,.ref TO],slots:=#[] }
noncomputable def dK (a b:Value):Obj:={ cls:=.type "tuple",data:=.seq #[a,b] }
noncomputable abbrev fV (z TI TO i1 i2 l1 l2:Addr) (k:Nat) (a b:Value) (d1 d2:Option Addr) (sl1 sl2:Array (Option Value)):List (Addr×Obj):=
 [(z,mD TI TO),(TI,dK (.ref i1) (.ref i2)),(TO,dK a b),(i1,mn l1 k d1 sl1),(i2,mn l2 k d2 sl2)]
section
variable {T:TS}{W W':Wd}{pr:Kn}{env:Env}{ρ:P}{σ σ':H}{s s':Shared}{A:Around}{E:Value→Shared→Prop}{n:Nat}{r:cT}
structure e6 (T:TS) (W:Wd) (k:Nat) (us:List V) (ys:List Value):Prop where
 l:k+us.length=ys.length
 g:∀j x y,us[j]? = some x→ys[k+j]? = some y→VR T.P W x y
theorem e6.mono {k:Nat}{us:List V}{ys:List Value}(L:W.le W') (h:e6 T W k us ys):e6 T W' k us ys:=⟨h.l,fun j x y a b=>(h.g j x y a b).mono L⟩
theorem e6.tail {k:Nat}{u:V}{us:List V}{ys:List Value}(h:e6 T W k (u::us) ys):e6 T W (k+1) us ys:=
 ⟨(Nat.add_right_comm ..).trans h.l,fun j x y a b=>h.g (j+1) x y a (Nat.add_right_comm k 1 j▸b)⟩
theorem e6.lt {k:Nat}{u:V}{us:List V}{ys:List Value}(h:e6 T W k (u::us) ys):k<ys.length:=h.l▸Nat.lt_add_of_pos_right (Nat.succ_pos _)
theorem e6.end {k:Nat}{ys:List Value}(h:e6 T W k [] ys):ys.toArray[k]? = none:=Array.getElem?_eq_none (Nat.le_of_eq (List.size_toArray.trans h.l.symm))
theorem AQ {k:Nat}{ys:List Value}(h:k<ys.length):ys.toArray[k]? = some ys[k]:=List.getElem?_toArray.trans (List.getElem?_eq_getElem h)
theorem ni {α:Type}{a b:α}{l:List α}(h:a∉l) (hb:b∈l):a≠b:=fun q=>h (q▸hb)
theorem wq {α:Type}{P:α→Prop}{a b c d e:α}(h1:P a) (h2:P b) (h3:P c) (h4:P d) (h5:P e):∀p,p∈[a,b,c,d,e]→P p:=
 List.forall_mem_cons.mpr ⟨h1,List.forall_mem_cons.mpr ⟨h2,List.forall_mem_cons.mpr ⟨h3,List.forall_mem_cons.mpr ⟨h4,fun p hp=>List.mem_singleton.mp hp▸h5⟩⟩⟩⟩
theorem jW {z TI TO i1 i2 l1 l2:Addr}{k:Nat}{a b:Value}{d1 d2:Option Addr}{sl1 sl2:Array (Option Value)}{o1 o2:Obj}(h:aQ T W pr env ρ s (fV z TI TO i1 i2 l1 l2 k a b d1 d2 sl1 sl2)) (f1:W.fz l1=some o1) (f2:W.fz l2=some o2) :
  ZipApart z TI TO i1 i2 l1 l2:=by
 have nd:[z,TI,TO,i1,i2].Nodup:=h.nd;obtain⟨n1,nd⟩:=List.nodup_cons.mp nd;obtain⟨n2,nd⟩:=List.nodup_cons.mp nd;obtain⟨n3,nd⟩:=List.nodup_cons.mp nd;obtain⟨n4,nd⟩:=List.nodup_cons.mp nd;have nf:∀p∈fV z TI TO i1 i2 l1 l2 k a b d1 d2 sl1 sl2,∀l o,W.fz l=some o→l≠p.1:=fun p hp l o e q=>by
  have:=(h.at_ p hp).n.nfz; rw [←q,e] at this; cases this
 have m1:=nf (z,mD TI TO) (.head _);have m3:=nf (TO,dK a b) (.tail _ (.tail _ (.head _)));have m4:=nf (i1,mn l1 k d1 sl1) (.tail _ (.tail _ (.tail _ (.head _))));have m5:=nf (i2,mn l2 k d2 sl2) (.tail _ (.tail _ (.tail _ (.tail _ (.head _)))));exact⟨(ni n1 (.head _)).symm,(ni n1 (.tail _ (.head _))).symm,(ni n1 (.tail _ (.tail _ (.head _)))).symm,(ni n1 (.tail _ (.tail _ (.tail _ (.head _))))).symm,ni n2 (.head _),ni n2 (.tail _ (.head _)),ni n2 (.tail _ (.tail _ (.head _))),ni n3 (.head _),ni n3 (.tail _ (.head _)),ni n4 (.head _),m1 l1 o1 f1,m3 l1 o1 f1,m4 l1 o1 f1,m5 l1 o1 f1,m1 l2 o2 f2,m3 l2 o2 f2,m4 l2 o2 f2,m5 l2 o2 f2⟩
theorem ze {z TI TO i1 i2 l1 l2:Addr}{elts:List Expr}{x1:Nat}{pos:Pos}{G:H→Prop}{ys1 ys2:List Value}{ep1 ep2:Nat}(r2:an A n) :
  ∀(us vs:List V) (k:Nat) (W:Wd) (a b:Value) (d1 d2:Option Addr) (sl1 sl2:Array (Option Value)),W.fz l1=some (ak ys1 ep1)→W.fz l2=some (ak ys2 ep2)→e6 T W k us ys1→e6 T W k vs ys2 →
   Nx T A z (.Tuple elts x1 pos) G (a0 us vs) W (fV z TI TO i1 i2 l1 l2 k a b d1 d2 sl1 sl2):=by
 have ends:∀(us vs:List V) (k:Nat) (W:Wd) (a b:Value) (d1 d2:Option Addr) (sl1 sl2:Array (Option Value)),W.fz l1=some (ak ys1 ep1)→W.fz l2=some (ak ys2 ep2)→e6 T W k us ys1→e6 T W k vs ys2→us=[]∨vs=[] →
   Nx T A z (.Tuple elts x1 pos) G [] W (fV z TI TO i1 i2 l1 l2 k a b d1 d2 sl1 sl2):=by
  intro us vs k W a b d1 d2 sl1 sl2 f1 f2 g1 g2 he;intro pr env ρ σ s Q E hG S hs q;have D:=jW hs f1 f2;have at_:=fun p hp=>(hs.at_ p hp).at_
  have hend:ys1.toArray[k]? = none∨ys2.toArray[k]? = none:=he.imp (fun e=>(e▸g1).end) fun e=>(e▸g2).end
  refine wpAny_pyNext_zip_end (a:=a) (b:=b) r2.handled D (at_ (z,mD TI TO) (.head _)) (at_ (TI,dK (.ref i1) (.ref i2)) (.tail _ (.head _))) (at_ (TO,dK a b) (.tail _ (.tail _ (.head _))))
   ⟨_,at_ (i1,mn l1 k d1 sl1) (.tail _ (.tail _ (.tail _ (.head _)))),rfl,rfl⟩ ⟨_,at_ (i2,mn l2 k d2 sl2) (.tail _ (.tail _ (.tail _ (.tail _ (.head _))))),rfl,rfl⟩ (ao (S.r.fzIn _ _ f1)) (ao (S.r.fzIn _ _ f2)) hend fun h' hk=>?_
  refine q W _ (.refl W) (S.loses (fun c=>?_) rfl rfl (Nat.le_refl _))
  have own:∀p∈fV z TI TO i1 i2 l1 l2 k a b d1 d2 sl1 sl2,c=p.1→dO T W pr c∧c∉aU env ρ:=fun p hp e=>⟨e▸(hs.at_ p hp).n,e▸(hs.at_ p hp).no⟩
  by_cases c1:c=z
  ·exact .inl (own (z,mD TI TO) (.head _) c1)
  by_cases c2:c=TO
  ·exact .inl (own (TO,dK a b) (.tail _ (.tail _ (.head _))) c2)
  by_cases c3:c=i1
  ·exact .inl (own (i1,mn l1 k d1 sl1) (.tail _ (.tail _ (.tail _ (.head _)))) c3)
  by_cases c4:c=i2
  ·exact .inl (own (i2,mn l2 k d2 sl2) (.tail _ (.tail _ (.tail _ (.tail _ (.head _))))) c4)
  exact .inr fun p hp=>hk c p c1 c2 c3 c4 hp
 intro us
 induction us with
 |nil=>
  intro vs k W a b d1 d2 sl1 sl2 f1 f2 g1 g2;rw [show a0 [] vs=[] from List.zipWith_nil_left]
  exact ends [] vs k W a b d1 d2 sl1 sl2 f1 f2 g1 g2 (.inl rfl)
 |cons u us ih=>
  intro vs;cases vs with
  |nil=>
   intro k W a b d1 d2 sl1 sl2 f1 f2 g1 g2;rw [show a0 (u::us) []=[] from List.zipWith_nil_right]
   exact ends (u::us) [] k W a b d1 d2 sl1 sl2 f1 f2 g1 g2 (.inr rfl)
  |cons v vs=>
   intro k W a b d1 d2 sl1 sl2 f1 f2 g1 g2;rw [show a0 (u::us) (v::vs) = .tuple [u,v]::a0 us vs from rfl]
   intro pr env ρ σ s Q E hG S hs q;have D:=jW hs f1 f2;have at_:=fun p hp=>(hs.at_ p hp).at_
   have k1:=g1.lt;have k2:=g2.lt;refine wpAny_pyNext_zip_item (a:=a) (b:=b) (x:=ys1[k]) (y:=ys2[k]) D (at_ (z,mD TI TO) (.head _)) (at_ (TI,dK (.ref i1) (.ref i2)) (.tail _ (.head _))) (at_ (TO,dK a b) (.tail _ (.tail _ (.head _))))
    ⟨_,at_ (i1,mn l1 k d1 sl1) (.tail _ (.tail _ (.tail _ (.head _)))),rfl,rfl⟩ ⟨_,at_ (i2,mn l2 k d2 sl2) (.tail _ (.tail _ (.tail _ (.tail _ (.head _))))),rfl,rfl⟩ (ao (S.r.fzIn _ _ f1)) (ao (S.r.fzIn _ _ f2)) (AQ k1) (AQ k2)
    fun h' hz hTO hi1 hi2 htup hsz hk=>?_
   have own:∀c,∀p∈fV z TI TO i1 i2 l1 l2 k a b d1 d2 sl1 sl2,c=p.1→dO T W pr c∧c∉aU env ρ:=fun c p hp e=>⟨e▸(hs.at_ p hp).n,e▸(hs.at_ p hp).no⟩
   have oz:=own z (z,mD TI TO) (.head _) rfl;have oTI:=own TI (TI,dK (.ref i1) (.ref i2)) (.tail _ (.head _)) rfl;have oTO:=own TO (TO,dK a b) (.tail _ (.tail _ (.head _))) rfl;have o1:=own i1 (i1,mn l1 k d1 sl1) (.tail _ (.tail _ (.tail _ (.head _)))) rfl;have o2:=own i2 (i2,mn l2 k d2 sl2) (.tail _ (.tail _ (.tail _ (.tail _ (.head _))))) rfl;have S1:St T W pr env ρ σ { s with heap:=h' }:=S.loses (fun c=>by
    by_cases c1:c=z
    ·exact .inl (c1▸oz)
    by_cases c2:c=TO
    ·exact .inl (c2▸oTO)
    by_cases c3:c=i1
    ·exact .inl (c3▸o1)
    by_cases c4:c=i2
    ·exact .inl (c4▸o2)
    exact .inr fun p hp=>hk c p c1 c2 c3 c4 hp) rfl rfl (Nat.le_refl _)
   have hT:bG T W pr env ρ { s with heap:=h' } s.heap.objs.size (fE [ys1[k],ys2[k]]):=⟨S.r.new (az _),fT S (az _),htup⟩
   obtain⟨S2,L2⟩:=S1.still hT;have hu:=g1.g 0 u ys1[k] rfl (List.getElem?_eq_getElem k1);have hv:=g2.g 0 v ys2[k] rfl (List.getElem?_eq_getElem k2);refine q _ (.ref s.heap.objs.size) _ L2 ?_ fun Q' E' q'=>?_
   ·exact .mkT (Wd.add_at _ _ _) (.cons (hu.mono L2) (.cons (hv.mono L2) .nil))
   refine wpAny_letOwnedTupleGo_zip hz fun h2 hz2 hs2=>?_
   have lt:∀p∈fV z TI TO i1 i2 l1 l2 k a b d1 d2 sl1 sl2,p.1≠s.heap.objs.size:=fun p hp=>Nat.ne_of_lt (Heap.lt_size (at_ p hp))
   have nw:∀c,dO T W pr c→c≠s.heap.objs.size→dO T (W.add s.heap.objs.size (fE [ys1[k],ys2[k]])) pr c:=fun c x e=>⟨by show (if c=_ then _ else _)=_; rw [if_neg e]; exact x.nfz,x.npr,x.nphi,x.ntab⟩
   have nz:=nw z oz.1 (lt (z,mD TI TO) (.head _));have S3:=S2.lose (s':={ s with heap:=h2 }) nz oz.2 (fun b hb p q=>(hs2.2 b hb).trans q) rfl rfl (Nat.le_refl _)
   obtain⟨⟨c1,e1,dt1,t1⟩,a1,a2,a3⟩:=hi1;dsimp only at a2 a3;subst a2 a3;obtain⟨⟨c2,e2,dt2,t2⟩,b1,b2,b3⟩:=hi2;dsimp only at b2 b3;subst b2 b3;have hTI':h'.get? TI=some (dK (.ref i1) (.ref i2)):=hk TI _ D.TIz D.TITO D.TIi1 D.TIi2 (at_ (TI,dK (.ref i1) (.ref i2)) (.tail _ (.head _)));refine q' _ _ (fV z TI TO i1 i2 l1 l2 (k+1) ys1[k] ys2[k] e1 e2 t1 t2) (.refl _) S3 ⟨hs.nd,wq (P:=fun p:Addr×Obj=>bG T (W.add s.heap.objs.size (fE [ys1[k],ys2[k]])) pr env ρ { s with heap:=h2 } p.1 p.2) ⟨nz,oz.2,hz2⟩ ⟨nw TI oTI.1 (lt _ (.tail _ (.head _))),oTI.2,(hs2.2 TI D.TIz).trans hTI'⟩ ⟨nw TO oTO.1 (lt _ (.tail _ (.tail _ (.head _)))),oTO.2,(hs2.2 TO D.TOz).trans hTO⟩
     ⟨nw i1 o1.1 (lt _ (.tail _ (.tail _ (.tail _ (.head _))))),o1.2,(hs2.2 i1 D.i1z).trans a1⟩ ⟨nw i2 o2.1 (lt _ (.tail _ (.tail _ (.tail _ (.tail _ (.head _)))))),o2.2,(hs2.2 i2 D.i2z).trans b1⟩,fun p hp w e=>?_⟩ fun W3 L3=>?_
   ·revert p;exact wq nofun nofun nofun nofun nofun
   ·exact ih vs (k+1) W3 ys1[k] ys2[k] e1 e2 t1 t2 (L3.fz _ _ (L2.fz _ _ f1)) (L3.fz _ _ (L2.fz _ _ f2)) (g1.tail.mono (L2.trans L3)) (g2.tail.mono (L2.trans L3))
theorem aB.rest {us:List V}{ys:List Value}(h:aB T.P W us ys):e6 T W 0 us ys:=⟨by rw [Nat.zero_add,h.length],fun j x y a b=>by
 obtain⟨z,h1,h2⟩:=h.get a;rw [Nat.zero_add,h1] at b; cases b; exact h2⟩
theorem tZ {elts:List Expr}{x1:Nat}{pos:Pos}{us vs:List V}{v1 v2:Value}{Q:Value→Shared→Prop}(S:St T W pr env ρ σ s) (r2:an A n) (h1:VR T.P W (.list us) v1) (h2:VR T.P W (.list vs) v2) (q:Go T A (.Tuple elts x1 pos) (a0 us vs) W pr env ρ σ Q) :
  wpAny T.M A (call (.type "zip") [v1,v2]) (fun x s₁=>wpAny T.M A (pyIter x) Q E s₁) E s:=by
 refine h1.l fun l1 ys1 ep1 f1 g1=>h2.l fun l2 ys2 ep2 f2 g2=>?_
 refine call_zip_2 (ao (S.r.fzIn _ _ f1)) (ao (S.r.fzIn _ _ f2)) fun h' hz hTI hTO hi1 hi2 hsz keep=>?_
 refine PySem.wpAny_pyIter_zip hz ?_;obtain⟨⟨c1,e1,dt1,t1⟩,a1,a2,a3⟩:=hi1;dsimp only at a2 a3;subst a2 a3;obtain⟨⟨c2,e2,dt2,t2⟩,b1,b2,b3⟩:=hi2;dsimp only at b2 b3;subst b2 b3;have fr:∀j,dO T W pr (s.heap.objs.size+j)∧s.heap.objs.size+j∉aU env ρ:=fun j=>⟨S.r.new (cD (Nat.le_add_right _ _)),fT S (cD (Nat.le_add_right _ _))⟩
 have ne:∀i j:Nat,i≠j→s.heap.objs.size+i≠s.heap.objs.size+j:=fun i j h e=>h (Nat.add_left_cancel e)
 have S1:St T W pr env ρ σ { s with heap:=h' }:=S.grow ⟨keep,rfl,rfl,Nat.le_refl _⟩
 refine q _ W _ (fV (s.heap.objs.size+4) (s.heap.objs.size+2) (s.heap.objs.size+3) (s.heap.objs.size+0) (s.heap.objs.size+1) l1 l2 0 .none .none e1 e2 t1 t2) (.refl W) S1 ⟨List.Pairwise.map (s.heap.objs.size + ·) (fun i j h=>ne i j h) (by decide:([4,2,3,0,1]:List Nat).Pairwise (·≠·)),wq (P:=fun p:Addr×Obj=>bG T W pr env ρ { s with heap:=h' } p.1 p.2) ⟨(fr 4).1,(fr 4).2,hz⟩ ⟨(fr 2).1,(fr 2).2,hTI⟩ ⟨(fr 3).1,(fr 3).2,hTO⟩ ⟨(fr 0).1,(fr 0).2,a1⟩ ⟨(fr 1).1,(fr 1).2,b1⟩,fun p hp w e=>?_⟩
  (fun W2 L2=>ze r2 us vs 0 W2 .none .none e1 e2 t1 t2 (L2.fz _ _ f1) (L2.fz _ _ f2) ((g1.mono L2).rest) ((g2.mono L2).rest)) fun W2 L2=>?_
 ·revert p;exact wq nofun nofun nofun nofun nofun
 ·intro pr env ρ σ s' Q E S hs q;exact PySem.wpAny_pyIter_zip (f0:=.none) (hs.at_ (_,mD _ _) List.mem_cons_self).at_ q
end
end Mini
set_option maxRecDepth 100000
set_option autoImplicit false
namespace Mini
open PySem PySem.W PyProof.Rows
section
variable {T:TS}{W W':Wd}{pr:Kn}{env:Env}{ρ:P}{σ:H}{s:Shared}{A:Around}{E:Value→Shared→Prop}{n:Nat}
noncomputable def B5 (d:Addr) (ep:Nat):Obj:={ cls:=.type "dict_itemiterator",data:=.fields #[.none,.bool false,.ref d,.int 0 0,.int 0 0,.int ep 0,.none,.none] }
theorem oI {v:Value}{tgt:Expr}{Q:Value→Shared→Prop}(S:St T W pr env ρ σ s) (r2:an A n) (h:VR T.P W (.dict []) v) (q:Go T A tgt [] W pr env ρ σ Q) :
  wpAny T.M A (PySem.call (.builtin "dict.items") [v]) (fun x s₁=>wpAny T.M A (pyIter x) Q E s₁) E s:=by
 obtain⟨d,ds,ep,rfl,h1,rfl,_⟩:=h;have hd:=S.r.fzIn _ _ h1;have hat:∀{hp:Heap},hp.get? d=some (ax [] ep)→hp.DictAt (kS T) d ([]:List (Str×Value)) ep:=fun e=>⟨_,#[],e,⟨rfl,rfl,rfl⟩,rfl,fun x hx=>(by simp at hx),.nil,List.nodup_nil⟩
 have D:s.heap.DictOf (kS T) d ([]:List (Str×Value)):=(hat hd).dictOf;have hT:s.TypeIs (.ref d) "dict" :=⟨_,hd,rfl⟩;refine call_meetsIn PySem.F.slot_dict_items hT PySem.F.entry_dict_items (PySem.F.args_dict_items_1 _) (meets_dict_items (kS T) d (S.r.notSys (.inr ⟨_,h1⟩))) ⟨⟨_,D⟩,?_⟩;have hv:Heap.IsItemsView (s.heap.push { cls:=.type "dict_items",data:=.fields #[.ref d] }) s.heap.objs.size d:=⟨_,Heap.get?_push_size _ rfl,rfl,rfl⟩;refine wpAny_pyIter_items (s:={ s with heap:=s.heap.push { cls:=.type "dict_items",data:=.fields #[.ref d] } }) hv (hat (Heap.get?_push_of_some _ hd)) ?_
 have S1:=S.grow (be.push s { cls:=.type "dict_items",data:=.fields #[.ref d] });obtain⟨S2,hH⟩:=S1.hold (be.push _ (B5 d ep)) (az _) (Heap.get?_push_size _ rfl);refine q _ W _ _ (.refl W) S2 (.one hH (fun v e=>by cases e)) (fun W2 L2=>?_) fun W2 L2=>?_
 ·intro pr env ρ σ s3 Q3 E3 _ S3 hs3 q3;have hI:=hs3.at_ _ (List.mem_singleton.mpr rfl);refine wpAny_pyNext_items_end (knd:=kS T) (kvs:=[]) r2.handled hI.at_ (hat (S3.r.fzIn _ _ (L2.fz _ _ h1))) rfl fun h' hx=>?_
  exact q3 W2 _ (.refl W2) (S3.lose hI.n hI.no (fun b hb p e=>hx b p hb e) rfl rfl (Nat.le_refl _))
 ·intro pr env ρ σ s3 Q3 E3 S3 hs3 q3;have hI:=hs3.at_ _ (List.mem_singleton.mpr rfl);have hT3:s3.TypeIs (.ref _) "dict_itemiterator" :=⟨_,hI.at_,rfl⟩;refine wpAny_pyIter_slot hT3 PySem.F.slot_dict_itemiterator_iter (wpAny_call_entry PySem.F.slot_dict_itemiterator_iter hT3 kcp_entry ?_ (PySem.F.args_dict_itemiterator_iter_1 _));exact wpAny_pure ⟨_,rfl,"dict_itemiterator",_,hT3,F.slot_dict_itemiterator_next.lookup,q3⟩
theorem mE {es:List (List Nat×V)}{v:Value}{pl:Sem Bool}{Q:Value×List Value→Shared→Prop}(R:aI T W pr σ s) (h:VR T.P W (.dict es) v) (q:Q (.builtin "dict.items",[v]) s):wpAny T.M A (getMethod v "items" pl) Q E s:=by
 obtain⟨d,ds,ep,rfl,h1,_⟩:=h;have hd:=R.fzIn _ _ h1;exact getMethod_builtin ⟨_,hd,rfl⟩ F.plainAttrs_dict F.slot_dict_items F.type_dict_items (fun a e=>by cases e; exact⟨_,hd,rfl⟩) q
end
end Mini
set_option maxRecDepth 100000
set_option autoImplicit false
namespace Mini
open PySem PySem.W PyProof.Rows
section
variable {T:TS}{W W':Wd}{pr:Kn}{env:Env}{ρ:P}{σ:H}{s:Shared}{A:Around}{E:Value→Shared→Prop}{n:Nat}{r:cT}{ws:Ws}{K:It→H→Ws→Prop}{tgt:Expr}{Q:Value→Shared→Prop}
theorem oJ {e:Expr}(h:wW e=true):∃elts k p,e = .Tuple elts k p:=by
 cases e <;> first | exact⟨_,_,_,rfl⟩ | exact absurd h Bool.false_ne_true
theorem GI.to (q:GI T A tgt W pr env ρ K Q) (L:W.le W') {t:Bool}{xs:List V}(k:K (.items t none xs) σ ws):Go T A tgt xs W' pr env ρ σ Q:=
 fun I W2 s2 hs L2 S2 h2 nx sf=>q W2 s2 I hs (.items t none xs) σ ws (L.trans L2) S2 h2 (.items nx sf) k
theorem bN (R:Snd T n r) {e:Expr}(h:dB r e ρ σ ws K) (S:St T W pr env ρ σ s) (r2:an A n) (q:GI T A tgt W pr env ρ K Q) :
  wpAny T.M A (eval e env) (fun x s₁=>wpAny T.M A (pyIter x) Q E s₁) E s:=
 R.ev h S r2 fun W1 s1 v v' σ1 ws1 L1 h1 S1 e1=>match v,h1,e1 with
  |.ref i,h1,e1=>dA.out e1 fun xs ws2 e2=>by
   refine S1.r.held h1 e2.1 fun a ys ep ha hl hys hlen=>wpAny_pyIter_list (ao hl) ?_
   obtain⟨S2,h2⟩:=S1.hold (s':={ s1 with heap:=s1.heap.push (mn a 0 none #[]) }) (be.push s1 _) (az _) (Heap.get?_push_size _ rfl)
   exact q W1 _ _ _ _ σ1 ws2 L1 S2 (.one h2 tQ) (.items (fun W2 L2=>qj r2.handled xs 0 W2 _ _ rfl (L2.at ha)) fun W2 L2 pr env ρ σ s Q E S hs q=>wpAny_pyIter_listiter (za (hs.at_ _ List.mem_cons_self).at_) q) e2.2
  |.list xs,h1,e1=>qU S1 r2 h1 (q.to L1 e1)
  |.str x,h1,e1=>tS S1 r2 e1.1 h1 (q.to L1 e1.2)
  |.none,_,e1=>e1.elim
  |.bool _,_,e1=>e1.elim
  |.int _,_,e1=>e1.elim
  |.tstr _,_,e1=>e1.elim
  |.tuple _,_,e1=>e1.elim
  |.dict _,_,e1=>e1.elim
  |.val _,_,e1=>e1.elim
  |.clo ..,_,e1=>e1.elim
  |.bm ..,_,e1=>e1.elim
theorem iR (S:St T W pr env ρ σ s) {i j:Int}{t u v:Tok}{k:Nat}(r2:an A n) (h1:i.natAbs<4096) (h2:j.natAbs<4096) (q:Go T A tgt (range i j) W pr env ρ σ Q) :
  wpAny T.M A (pyIter (.ref s.heap.objs.size)) Q E { s with heap:=s.heap.push { cls:=.type "range",data:=.fields #[.int i t,.int j u,.int 1 v] },toks:=s.toks+k }:=
 oy (i:=i) (j:=j) (S.grow ⟨fun _ _ e=>Heap.get?_push_of_some _ e,rfl,rfl,Nat.le_add_right _ _⟩) r2 (Heap.get?_push_size _ rfl) h1 h2 q
theorem wt {fv:V}{t:String}(h:uR fv=some t):fv = .val (.type t):=by
 unfold uR at h;split at h
 ·split at h
  ·cases h; rfl
  ·cases h
 ·cases h
theorem t8 {args:List Expr}{a:Expr}(h:rL args=some (.one a)):args=[a]:=by
 cases args with
 |nil=>cases h
 |cons x xs=>cases xs with
  |nil=>cases h; rfl
  |cons y ys=>cases ys <;> cases h
theorem t9 {args:List Expr}{a b:Expr}(h:rL args=some (.two a b)):args=[a,b]:=by
 cases args with
 |nil=>cases h
 |cons x xs=>cases xs with
  |nil=>cases h
  |cons y ys=>cases ys <;> cases h; rfl
noncomputable abbrev zJ (T:TS) (A:Around) (env:Env) (pos:Pos) (t:String) (args:List Expr) (Q:Value→Shared→Prop) (E:Value→Shared→Prop) (s:Shared):Prop:=
 wpAny T.M A (callWith pos (.type t) [] (backTo pos (starEach args env)) (backToKw pos (keywordEach [] env))) (fun x s₁=>wpAny T.M A (pyIter x) Q E s₁) E s
theorem wu (R:Snd T n r) {pos:Pos}{a:Expr}(e:r.E a ρ σ ws fun v σ ws=>ke v fun xs=>K (.items true none (dR xs)) σ ws) (hs:ar [a]=true) (hT:iP tgt K) (S:St T W pr env ρ σ s) (r2:an A n) (q:GI T A tgt W pr env ρ K Q):zJ T A env pos "enumerate" [a] Q E s:=
 eJ R hs e S r2 fun W1 s1 v v' σ1 ws1 L1 h1 S1 e1=>by
  cases v with
  |list xs=>
   obtain⟨elts,k,p',rfl⟩:=oJ (hT _ _ _ e1);exact iL S1 r2 h1 (q.to L1 e1)
  |str x=>
   obtain⟨elts,k,p',rfl⟩:=oJ (hT _ _ _ e1.2);exact jk S1 r2 e1.1 h1 (q.to L1 e1.2)
  |_=>exact e1.elim
theorem zf (R:Snd T n r) {pos:Pos}{a:Expr}(e:r.E a ρ σ ws fun v σ ws=>dz v fun xs=>K (.items false none xs.reverse) σ ws) (hs:ar [a]=true) (S:St T W pr env ρ σ s) (r2:an A n) (q:GI T A tgt W pr env ρ K Q):zJ T A env pos "reversed" [a] Q E s:=
 eJ R hs e S r2 fun W1 s1 v v' σ1 ws1 L1 h1 S1 e1=>e1.vr h1 fun xs l ys ep f1 f2 e2=>tU S1 r2 f1 f2 (q.to L1 e2)
theorem wv (R:Snd T n r) {pos:Pos}{a:Expr}(e:r.E a ρ σ ws fun v σ ws=>fj v fun m=>m.natAbs<4096∧K (.items false none (range 0 m)) σ ws) (hs:ar [a]=true) (S:St T W pr env ρ σ s) (r2:an A n) (q:GI T A tgt W pr env ρ K Q):zJ T A env pos "range" [a] Q E s:=
 eJ R hs e S r2 fun W1 s1 v v' σ1 ws1 L1 h1 S1 e1=>e1.vr h1 fun m t e2=>call_range_1 (iR (k:=2) S1 r2 (by decide) e2.1 (q.to L1 e2.2))
theorem ww (R:Snd T n r) {pos:Pos}{a b:Expr}(e:r.E a ρ σ ws fun v σ ws=>r.E b ρ σ ws fun u σ ws=>fj v fun m=>fj u fun k=>(m.natAbs<4096∧k.natAbs<4096)∧K (.items false none (range m k)) σ ws) (hs:ar [a,b]=true) (S:St T W pr env ρ σ s) (r2:an A n) (q:GI T A tgt W pr env ρ K Q):zJ T A env pos "range" [a,b] Q E s:=
 jV R hs e S r2 fun W1 s1 v v' u u' σ1 ws1 L1 h1 h2 S1 e1=>e1.vr h1 fun m t e2=>e2.vr h2 fun k t2 e3=>call_range_2 (iR (k:=1) S1 r2 e3.1.1 e3.1.2 (q.to L1 e3.2))
theorem zg (R:Snd T n r) {pos:Pos}{a b:Expr}(e:r.E a ρ σ ws fun v σ ws=>r.E b ρ σ ws fun u σ ws=>dz v fun xs=>dz u fun ys=>K (.items true none (a0 xs ys)) σ ws) (hs:ar [a,b]=true) (hT:iP tgt K) (S:St T W pr env ρ σ s) (r2:an A n) (q:GI T A tgt W pr env ρ K Q):zJ T A env pos "zip" [a,b] Q E s:=
 jV R hs e S r2 fun W1 s1 v v' u u' σ1 ws1 L1 h1 h2 S1 e1=>by
  cases v with
  |list xs=>cases u with
   |list ys=>
    obtain⟨elts,k,p',rfl⟩:=oJ (hT _ _ _ e1);exact tZ S1 r2 h1 h2 (q.to L1 e1)
   |_=>exact e1.elim
  |_=>exact e1.elim
theorem wx (R:Snd T n r) {pos:Pos}{args:List Expr}{t:String}{m:Mk}{els G:Prop}(e:made r t m ρ σ ws K els) (hm:rL args=some m) (hs:ar args=true) (hT:iP tgt K)
  (S:St T W pr env ρ σ s) (r2:an A n) (q:GI T A tgt W pr env ρ K Q) (name:zJ T A env pos t args Q E s→G) (k:els→G):G:=by
 cases m with
 |one a=>
  obtain rfl:=t8 hm;unfold made at e;dsimp only at e;split at e
  ·rename_i he;exact name (eq_of_beq he▸wu R e hs hT S r2 q)
  split at e
  ·rename_i he;exact name (eq_of_beq he▸zf R e hs S r2 q)
  split at e
  ·rename_i he;exact name (eq_of_beq he▸wv R e hs S r2 q)
  ·exact k e
 |two a b=>
  obtain rfl:=t9 hm;unfold made at e;dsimp only at e;split at e
  ·rename_i he;exact name (eq_of_beq he▸zg R e hs hT S r2 q)
  split at e
  ·rename_i he;exact name (eq_of_beq he▸ww R e hs S r2 q)
  ·exact k e
theorem jX {n:Str}(g:(!cF n "__debug__")=true):(n==Str.ofString "__debug__")=false:=by
 rw [beq_eq_false_iff_ne];rintro rfl;rw [lZ] at g; cases g
theorem ua (R:Snd T n r) {e:Expr}(h:rM r e ρ σ ws K) (hT:iP tgt K) (S:St T W pr env ρ σ s) (r2:an A n) (q:GI T A tgt W pr env ρ K Q) :
  wpAny T.M A (eval e env) (fun x s₁=>wpAny T.M A (pyIter x) Q E s₁) E s:=by
 have v:=rs e;unfold rM at h;generalize bz e=w at v h
 induction v with
 |@call f args kws pos=>
  have v:=rs f;dsimp only at h;generalize bz f=w at v h
  induction v with
  |name=>
   cases kws with
   |cons=>exact bN R h S r2 q
   |nil=>
    dsimp only at h;cases hm:rL args with
    |none=>rw [hm] at h; exact bN R h S r2 q
    |some m=>
     rw [hm] at h;refine bo.out h fun fv hl h2=>?_
     cases ht:uR fv with
     |none=>rw [ht] at h2; exact bN R h2 S r2 q
     |some t=>
      rw [ht] at h2;obtain⟨c,h3⟩:=bd.out h2;obtain⟨c1,c2⟩:=Bool.and_eq_true_iff.mp c;refine wx (pos:=pos) (E:=E) R h3 hm c1 hT S r2 q (fun h4=>?_) fun h4=>bN R h4 S r2 q
      rw [arm_eval_Call_Name'];exact wpAny_bind (kN S hl (jX c2) fun v' hv=>(wt ht▸hv).u h4)
  |@attr o name p=>
   have h:(match cF name "items" && args.isEmpty&&kws.isEmpty&&uK o p pos args kws with | true=>wZ r o ρ σ ws K | false=>dB r (.Call (.Attribute o name p) args kws pos) ρ σ ws K):=h
   cases c:cF name "items" && args.isEmpty&&kws.isEmpty&&uK o p pos args kws with
   |false=>rw [c] at h; exact bN R h S r2 q
   |true=>
    rw [c] at h;simp only [Bool.and_eq_true,List.isEmpty_iff] at c;obtain⟨⟨⟨c1,rfl⟩,rfl⟩,c4⟩:=c;obtain rfl:=sEq_iff.mp c1;exact gw c4 rfl rfl (R.ev h S r2 fun W1 s1 v v' σ1 ws1 L1 h1 S1 e1=>by
     cases v with
     |dict es=>
      obtain⟨c5,e2⟩:=bd.out e1;obtain rfl:=List.isEmpty_iff.mp c5;exact mE S1.r h1 (aY rfl rfl (PySem.evalArgs_none ⟨bj nofun,oI S1 r2 h1 (q.to L1 e2)⟩))
     |_=>exact e1.elim)
  |_=>exact bN R h S r2 q
 |_=>exact bN R h S r2 q
end
end Mini
set_option maxRecDepth 100000
set_option autoImplicit false
namespace Mini
open PySem PySem.W PyProof.Rows
structure aG (T:TS) (n:Nat) (call:ad):Prop where
 ok:∀{f:V}{args:List V}{kw:List (Str×V)}{σ σ':H}{v:V},call f args kw σ v σ'→∀{W:Wd}{pr:Kn}{s:Shared}{A:Around}{E:Value→Shared→Prop}{Q:Value→Shared→Prop}{f':Value}{args':List Value}{kw':List (Str×Value)},
  aI T W pr σ s→an A n→VR T.P W f f'→aB T.P W args args'→cP T.P W kw kw'→(∀W' v' s',W.le W'→VR T.P W' v v'→aI T W' pr σ' s'→Q v' s')→wpAny T.M A (PySem.call f' args' kw') Q E s
 keep:∀{f:V}{args:List V}{kw:List (Str×V)}{σ σ':H}{v:V},call f args kw σ v σ'→∀{W:Wd}{pr:Kn}{s:Shared}{A:Around}{f':Value}{σ0:H},aI T W pr σ0 s→VR T.P W f f'→bW T A f' s
section
variable {T:TS}{W W':Wd}{pr:Kn}{env:Env}{ρ ρ':P}{σ σ':H}{s s':Shared}{A:Around}{E:Value→Shared→Prop}{n:Nat}{r:cT}{call:ad}{ws:Ws}{K:V→H→Ws→Prop}
theorem aG.from (X:aG T n call) {f v:V}{args:List V}{kw:List (Str×V)}{f':Value}{args':List Value}{kw':List (Str×Value)}{Q:Value→Shared→Prop}(e:call f args kw σ v σ') (S:St T W pr env ρ σ s) (r2:an A n)
  (hf:VR T.P W f f') (ha:aB T.P W args args') (hk:cP T.P W kw kw') (k:K v σ' ws) (q:GE T W pr env ρ K Q):wpAny T.M A (PySem.call f' args' kw') Q E s:=
 X.ok e S.guard r2 hf ha hk fun W' v' s' L h R=>q W' s' v v' σ' ws L h (S.back L R) k
theorem ub {l:Addr}{ys:List Value}{ep:Nat}{k:Int}{t:Tok}{v:Value}{Q:Unit→Shared→Prop}(hl:s.heap.get? l=some (ak ys ep)) (h0:0≤k) (hn:k<ys.length) (hz:ys.length<af)
  (q:∀h' ep',Heap.SameBut l s.heap h'→h'.get? l=some (ak (ys.set k.toNat v) ep')→Q () { s with heap:=h' }):wpAny T.M A (setItem (.ref l) (.int k t) v) Q E s:=by
 have IL:=ao hl;have big:af=2 ^ 20:=rfl;unfold setItem;refine wpAny_holding ?_;refine wpAny_bind (wpAny_sequenceKey IL.typeIs (by decide) ?_)
 refine wpAny_bind (wpAny_callSpecial?_slot (name:=Str.ofString "__setitem__") IL.typeIs slot_list_setitem
  (wpAny_call_entry slot_list_setitem IL.typeIs entry_list_setitem ?_ (args_list_setitem _ _ _)))
 show wpAny _ _ (Builtin.List.listSubscript? (.int k t) >>= _) _ _ s;refine wpAny_bind (wpAny_listSubscript_int (fitsIndex_of h0 (by omega)) ?_)
 obtain⟨j,rfl⟩:=Int.eq_ofNat_of_zero_le h0;have hj:j<ys.toArray.size:=by rw [List.size_toArray]; omega
 have hx':ys.toArray[j]? = some ys.toArray[j]:=Array.getElem?_eq_getElem hj;show wpAny _ _ ((seqItemAt l j >>= fun r=>pure (r.map (j,·))) >>= _) _ _ s
 refine wpAny_bind (wpAny_bind (wpAny_seqItemAt hl rfl (wpAny_pure ?_)));rw [hx'];show wpAny _ _ (setSeqItemAt l j v >>= _) _ _ s;obtain⟨ep',he⟩:∃ep',Obj.mapSeq (·.setIfInBounds j v) (ak ys ep)=ak (ys.set j v) ep':=by
  obtain⟨n',hd'⟩:=Obj.data_mapSeq (o:=ak ys ep) rfl (·.setIfInBounds j v);refine⟨n',?_⟩;revert hd';simp only [Obj.mapSeq];intro hd';simp only [ak,hd'];simp
 refine wpAny_bind (wpAny_setSeqItemAt hl rfl ?_);have fin:=q (s.heap.update l (Obj.mapSeq (·.setIfInBounds j v))) ep' (Heap.SameBut.update ..) (by rw [Heap.get?_update_self _ hl (by rw [he]; rfl),he]; rfl)
 first
  |exact wpAny_bind (wpAny_pure (wpAny_pure ⟨.none,rfl,wpAny_pure fin⟩))
  |exact wpAny_pure ⟨.none,rfl,wpAny_pure fin⟩
theorem wy {o i v:V}{o' i' v':Value}{Q:Unit→Shared→Prop}(S:St T W pr env ρ σ s) (ho:VR T.P W o o') (hi:VR T.P W i i') (hv:VR T.P W v v') (e:rz σ o i v σ')
  (q:∀W' s',W.le W'→St T W' pr env ρ σ' s'→Q () s'):wpAny T.M A (setItem o' i' v') Q E s:=by
 induction e with
 |list hr h0 h1 hz=>
  exact S.r.held ho hr fun l ys ep g1 g2 g3 g4=>hi.i fun t=>ub g2 h0 (g4▸h1) (g4▸hz) fun h' ep' hs hd=>q W _ (.refl W) (cA S g1 hs hd (g3.set hv _))
 |@dict r k es _ hr hz=>
  refine ho.r fun d h1=>hi.s fun t=>?_
  obtain⟨ds,ep,h2,h3,h4⟩:=cj S.r h1 hr;have D:=h3.dictOf (T:=T) h4 h2;refine wpAny_setItem_pairs (knd:=kS T) (k:=mk k) (strKind_is _ _ _ _) D (fun h' D' hs=>?_) (by rw [h3.kv.length,sizeLine_eq]; exact Nat.le_trans (Nat.le_of_lt hz) (by decide))
  obtain⟨ds',ep',h5,h6⟩:=jH D' (h3.kv.store hv h4);exact q W _ (.refl W) (S.store (s':={ s with heap:=h',toks:=s.toks+1 }) h1 hs h5 ⟨ds',ep',rfl,h6,bM h4⟩ rfl rfl (Nat.le_succ _))
end
end Mini
set_option maxRecDepth 100000
set_option autoImplicit false
namespace Mini
open PySem PySem.W PyProof.Rows
section
variable {T:TS}{W W':Wd}{pr:Kn}{env:Env}{ρ ρ':P}{σ σ':H}{s s':Shared}{A:Around}{E:Value→Shared→Prop}{n:Nat}{r:cT}{call:ad}{C:ce}{ws:Ws}
theorem eo (F:TF2 T) {c a:Addr}{nm:Str}(e:am T.C c nm=some a):∃ms,T.C.cls c=some ms∧mi T c ms∧findIn T.K (.ref c) nm=some (some (.ref a))∧typeIn T.K (.ref a)=some (.type "function")∧ck nm cI=false:=by
 unfold am at e;simp only [Option.bind_eq_some_iff,Option.map_eq_some_iff] at e;obtain⟨ms,h1,⟨m,a'⟩,h2,rfl⟩:=e;have CO:=F.cls c ms h1;have h3:=List.mem_of_find?_eq_some h2;have h4:cF m nm=true:=by simpa using List.find?_some h2
 rw [sEq_iff] at h4;subst h4;obtain⟨k1,k2,k3⟩:=CO.meth _ h3;exact⟨ms,h1,CO,k1,k2,k3⟩
theorem jY (R:aI T W pr σ s) {i:Nat}{c:Addr}{d:Nat}{v:Value}(h:VR T.P W (.ref i) v) (e:σ[i]? = some (.inst c d)):∃x ox od,v = .ref x∧PySem.W.InstAt s.heap x ox c (some od):=by
 obtain⟨a,dx,rfl,h1,h2,h3⟩:=hF R h e;have hd:d<σ.length:=R.len▸(List.getElem?_eq_some_iff.mp h2).1;obtain⟨o,h4,h5⟩:=R.objs d σ[d] dx (List.getElem?_eq_getElem hd) h2;exact⟨a,_,o,rfl,eI h3 h4⟩
theorem gF {K:Frag}{x C0:Addr}{ox:Obj}{od:Option Obj}{M:Model}{k:Value}{nm:Str}{Q:Value→Shared→Prop}(X:K.In s.heap) (I:PySem.W.InstAt s.heap x ox C0 od) (hq:noSeq K C0=true) (q:Q k s):wpAny M A (sequenceKey (.ref x) k nm) Q E s:=by
 unfold sequenceKey;refine wpAny_bind (I.type.here ?_);refine wpAny_bind ((anyM_none X hq).here ?_);rw [if_pos (show (!false)=true from rfl)]
 exact wpAny_pure q
theorem ld (F:TF2 T) (X:aG T n call) {ov iv v u:V}{c a:Addr}{o' i' v':Value}{Q:Unit→Shared→Prop}(hi:xw σ ov c) (hm:am T.C c "__setitem__" = some a) (e:call (.val (.ref a)) [ov,iv,v] [] σ u σ')
  (S:St T W pr env ρ σ s) (r2:an A n) (ho:VR T.P W ov o') (hiv:VR T.P W iv i') (hv:VR T.P W v v') (q:∀W' s',W.le W'→St T W' pr env ρ σ' s'→Q () s'):wpAny T.M A (setItem o' i' v') Q E s:=by
 induction hi with | mk hii=>
 obtain⟨ms,h1,CO,k1,k2,_⟩:=eo F hm;obtain⟨x,ox,od,rfl,I⟩:=jY S.r ho hii;unfold setItem;refine wpAny_holding (wpAny_bind (gF S.r.K I CO.notSeq (wpAny_bind (special_fn S.r.K I k1 k2 ?_))));exact X.ok e S.guard r2 .mkU (.cons ho (.cons hiv (.cons hv .nil))) .nil fun W' v' s' L h R=>wpAny_pure (q W' s' L (S.back L R))
theorem lf (F:TF2 T) (X:aG T n call) {ov iv u:V}{c a:Addr}{o' i':Value}{Q:Unit→Shared→Prop}(hi:xw σ ov c) (hm:am T.C c "__delitem__" = some a) (e:call (.val (.ref a)) [ov,iv] [] σ u σ')
  (S:St T W pr env ρ σ s) (r2:an A n) (ho:VR T.P W ov o') (hiv:VR T.P W iv i') (q:∀W' s',W.le W'→St T W' pr env ρ σ' s'→Q () s'):wpAny T.M A (delItem o' i') Q E s:=by
 induction hi with | mk hii=>
 obtain⟨ms,h1,CO,k1,k2,_⟩:=eo F hm;obtain⟨x,ox,od,rfl,I⟩:=jY S.r ho hii;unfold delItem;refine wpAny_holding (wpAny_bind (gF S.r.K I CO.notSeq (wpAny_bind (special_fn S.r.K I k1 k2 ?_))));exact X.ok e S.guard r2 .mkU (.cons ho (.cons hiv .nil)) .nil fun W' v' s' L h R=>wpAny_pure (q W' s' L (S.back L R))
variable {K:P→H→Ws→Prop}{Q:Unit→Shared→Prop}
theorem uc (F:TF2 T) (R:Snd T n r) {o:Expr}{name:Str}{pos:Pos}{v:V}{v':Value}(e:lI T.C call r (.Attribute o name pos) v ρ σ ws K) (S:St T W pr env ρ σ s) (r2:an A n) (h:VR T.P W v v') (q:GA T W pr env K Q):wpAny T.M A (assign (.Attribute o name pos) env v') Q E s:=by
 rw [arm_assign_Attribute];refine wpAny_bind (wpAny_holding (R.ev e S r2 fun W1 s1 ov o' σ1 ws1 L1 h1 S1 e1=>wpAny_bind (wpAny_standAt (wpAny_bind (wpAny_holding ?_)))))
 exact dA.out e1 fun σ2 ws2 e2=>y8 F S1 e2.1 h1 (h.mono L1) fun W2 s2 L2 S2=>wpAny_release (q W2 s2 ρ σ2 ws2 (L1.trans L2) S2 e2.2)
theorem ud {K:H→Ws→Prop}(F:TF2 T) (X:aG T n call) {ov iv v:V}{o' i' v':Value}(e:rN T.C call ov iv v σ ws K) (S:St T W pr env ρ σ s) (r2:an A n) (ho:VR T.P W ov o') (hi:VR T.P W iv i') (hv:VR T.P W v v')
  (q:∀W' s' σ' ws',W.le W'→St T W' pr env ρ σ' s'→K σ' ws'→Q () s'):wpAny T.M A (setItem o' i' v') Q E s:=by
 cases ws with
 |nil=>exact e.elim
 |cons w ws=>
  cases w with
  |inst a=>
   obtain⟨⟨c,h1,h2⟩,e4⟩:=e;exact dA.out e4 fun p ws3 e5=>ld F X h1 h2 e5.1 S r2 ho hi hv fun W3 s3 L3 S3=>q W3 s3 _ ws3 L3 S3 e5.2
  |h σ3=>exact wy S ho hi hv e.1 fun W3 s3 L3 S3=>q W3 s3 σ3 ws L3 S3 e.2
  |_=>exact e.elim
theorem ue {K:H→Ws→Prop}(F:TF2 T) (X:aG T n call) {ov iv:V}{o' i':Value}(e:rO T.C call ov iv σ ws K) (S:St T W pr env ρ σ s) (r2:an A n) (ho:VR T.P W ov o') (hi:VR T.P W iv i')
  (q:∀W' s' σ' ws',W.le W'→St T W' pr env ρ σ' s'→K σ' ws'→Q () s'):wpAny T.M A (delItem o' i') Q E s:=by
 cases ws with
 |nil=>exact e.elim
 |cons w ws=>
  cases w with
  |inst a=>
   obtain⟨⟨c,h1,h2⟩,e4⟩:=e;exact dA.out e4 fun p ws3 e5=>lf F X h1 h2 e5.1 S r2 ho hi fun W3 s3 L3 S3=>q W3 s3 _ ws3 L3 S3 e5.2
  |_=>exact e.elim
theorem uf {a b:Nat}(h:a=b) (k:a<af):b≤2 ^ 21:=Nat.le_of_lt (Nat.lt_of_lt_of_le (h▸k) (by decide))
theorem wz (F:TF2 T) (X:aG T n call) (R:Snd T n r) {o i:Expr}{pos:Pos}{v:V}{v':Value}(e:lI T.C call r (.Subscript o i pos) v ρ σ ws K) (S:St T W pr env ρ σ s) (r2:an A n) (h:VR T.P W v v') (q:GA T W pr env K Q):wpAny T.M A (assign (.Subscript o i pos) env v') Q E s:=by
 rw [arm_assign_Subscript];refine wpAny_bind (wpAny_holding (R.ev e S r2 fun W1 s1 ov o' σ1 ws1 L1 h1 S1 e1=>?_))
 have hv1:=h.mono L1;have q1:=q.mono L1;clear e q;have go:∀{i:Expr}{L:Value→List Value},(r.E i ρ σ1 ws1 fun iv σ ws=>rN T.C call ov iv v σ ws (K ρ))→wpAny T.M A (eval i env) (fun i' s2=>wpAny T.M A (do standAt pos; holding [v',o',i'] (setItem o' i' v'); release (L i') []) Q E s2) E s1:=fun e1=>R.ev e1 S1 r2 fun W2 s2 iv i' σ2 ws2 L2 h2 S2 e3=>wpAny_bind (wpAny_standAt (wpAny_bind (wpAny_holding (ud F X e3 S2 r2 (h1.mono L2) h2 (hv1.mono L2) fun W3 s3 σ3 ws3 L3 S3 k=>wpAny_release (q1 W3 s3 ρ σ3 ws3 (L2.trans L3) S3 k)))))
 revert e1;have x:=rs i;generalize bz i=w at x;refine fun e1=>wpAny_bind (wpAny_holding ?_)
 revert e1
 induction x with
 |slice=>
  intro e1;obtain⟨c,e2⟩:=bd.out e1;have c:=Bool.and_eq_true_iff.mp c;have c1:=Bool.and_eq_true_iff.mp c.1;obtain rfl:=Option.isNone_iff_eq_none.mp c1.1;obtain rfl:=Option.isNone_iff_eq_none.mp c1.2;obtain rfl:=Option.isNone_iff_eq_none.mp c.2;refine e2.out fun k hk e2=>?_
  subst hk;refine dA.out e2 fun zs ws2 e3=>dA.out e3 fun xs ws3 e4=>?_
  obtain⟨⟨hk,hz,l1,l2⟩,e5⟩:=e4;refine wpAny_Slice (evalPart_none_step (evalPart_none_step (evalPart_none_step ?_)));refine S1.r.held h1 hk fun l ys ep g1 g2 g3 g6=>S1.r.lst hv1 hz fun m us ep2 g4 g5 g7=>?_
  have G:=be.push s1 { cls:=.type "slice",data:=.fields #[.none,.none,.none] };have S2:=S1.grow G;refine wpAny_bind (wpAny_standAt (wpAny_bind (wpAny_holding ?_)));refine tL (T:=T) (s:={ s1 with heap:=s1.heap.push { cls:=.type "slice",data:=.fields #[.none,.none,.none] } }) (ep:=ep) (ep2:=ep2) (ys:=ys) (zs:=us) (G.keep _ _ g2) (Heap.get?_push_size _ rfl) (G.keep _ _ g4) (uf g6 l1) (uf g7 l2) fun h' ep' hs hd=>?_
  exact wpAny_release (q1 W1 _ ρ _ ws3 (.refl _) (cA S2 g1 hs hd g5) e5)
 |_=>exact fun e1=>go e1
theorem ug (F:TF2 T) (hC:T.C=C) (X:aG T n call) (R:Snd T n r) {t:Expr}{v:V}{v':Value}(e:lI C call r t v ρ σ ws K) (S:St T W pr env ρ σ s) (r2:an A n) (h:VR T.P W v v') (q:GA T W pr env K Q):wpAny T.M A (assign t env v') Q E s:=by
 subst hC;have x:=rs t;generalize hw:bz t=w at x;have no:(∀n,w≠.name n)→(∀ts,w≠.tuple ts)→(∀o n p,w≠.attr o n p)→(∀o i,w≠.sub o i)→False:=fun a b c d=>by
  unfold lI at e;rw [hw] at e;cases w <;> first | exact e.elim | exact a _ rfl | exact b _ rfl | exact c _ _ _ rfl | exact d _ _ rfl
 induction x with
 |name=>exact tV S h e q
 |tuple=>
  cases v with
  |tuple vs=>exact qV R e S r2 h q
  |_=>exact e.elim
 |attr=>exact uc F R e S r2 h q
 |sub=>exact wz F X R e S r2 h q
 |_=>exact (no nofun nofun nofun nofun).elim
end
end Mini
set_option maxRecDepth 100000
set_option autoImplicit false
namespace Mini
open PySem PySem.W PyProof.Rows
section
variable {T:TS}{W W':Wd}{pr:Kn}{env:Env}{ρ:P}{σ:H}{s:Shared}{A:Around}{E:Value→Shared→Prop}{n:Nat}{r:cT}{call:ad}{C:ce}{ws:Ws}{K:Fl→P→H→Ws→Prop}{Q:Flow→Shared→Prop}
theorem mF (F:TF2 T) (hC:T.C=C) (X:aG T n call) (R:Snd T n r) {ts:List Expr}{pos:Pos}(e:dU C call r (.Delete ts pos) ρ σ ws K) (S:St T W pr env ρ σ s) (r2:an A n) (q:GS T W pr env K Q) :
  wpAny T.M A (exec (.Delete ts pos) env) Q E s:=by
 subst hC
 match ts,e with
 |t::ts,e=>
  obtain⟨c,e⟩:=bd.out e;obtain rfl:=List.isEmpty_iff.mp c;have e0:(match bz t with | .sub o i=>r.E o ρ σ ws fun ov σ ws=>r.E i ρ σ ws fun iv σ ws=>rO T.C call ov iv σ ws fun σ' ws=>K .next ρ σ' ws | _=>False):=e
  clear e;have v:=rs t;generalize bz t=w at v e0
  induction v with
  |sub=>
   exact wpAny_Delete (wpAny_deleteEach_cons (delete_Subscript (R.ev e0 S r2 fun W1 s1 ov o' σ1 ws1 L1 h1 S1 e1=>R.ev e1 S1 r2 fun W2 s2 iv i' σ2 ws2 L2 h2 S2 e2=>
    ue F X e2 S2 r2 (h1.mono L2) h2 fun W3 s3 σ3 ws3 L3 S3 k=>wpAny_deleteEach_nil (q W3 s3 .next _ ρ σ3 ws3 (L1.trans (L2.trans L3)) rfl S3 k))))
  |_=>exact e0.elim
end
end Mini
set_option maxRecDepth 100000
set_option autoImplicit false
namespace Mini
open PySem PySem.W PyProof.Rows Builtin Builtin.Re
structure cQ (code:Array Nat) (good:Nat→Bool):Prop where
 info:Sre.ops[code.getD 0 0]? = some .INFO
 four:code.getD 2 0=4
 least:code.getD 3 0=1
 set:∀c,good c=true→∀seen,∃seen',Sre.inSet code c code.size 5 true seen = .ok (false,seen')
theorem eO {code:Array Nat}{good:Nat→Bool}(N:cQ code good) {m:Sre.M}(hc:m.code=code):∀(fuel s:Nat) (seen:Sre.Seen),(∀i,s≤i→i<m.lim→good (m.text.getD i 0)=true)→∃seen',m.admitted fuel s seen = .ok (none,seen')
 |0,s,seen,_=>⟨seen,rfl⟩
 |fuel+1,s,seen,h=>by
  unfold Sre.M.admitted
  by_cases hs:s≥m.lim
  ·rw [if_pos hs]; exact⟨seen,rfl⟩
  ·rw [if_neg hs,hc];obtain⟨seen1,e⟩:=N.set _ (h s (Nat.le_refl _) (by omega)) seen
   rw [e];exact eO N hc fuel (s+1) seen1 fun i h1 h2=>h i (by omega) h2
theorem q0 {code:Array Nat}{good:Nat→Bool}(N:cQ code good) (m:Sre.M) (hc:m.code=code) (h:∀i,i<m.lim→good (m.text.getD i 0)=true) (hf:m.frames=[]) (ho:m.outcome=none) :
  (m.attemptFrom 0 true).answer=some false∧(m.attemptFrom 0 true).frames=[]∧(m.attemptFrom 0 true).outcome=none:=by
 have h1:m.hasFirstSet=true:=by
  unfold Sre.M.hasFirstSet;rw [hc,N.info,N.four];decide
 unfold Sre.M.attemptFrom;rw [if_neg (by rw [h1]; decide)]
 obtain⟨seen',e⟩:=eO N hc (m.lim+1 - 0) 0 m.seen fun i _ hi=>h i hi
 rw [e];exact⟨rfl,hf,ho⟩
theorem lj {code text:Array Nat}{groups:Nat}{good:Nat→Bool}(N:cQ code good) (h:∀i,i<text.size→good (text.getD i 0)=true) :
  (Sre.forSearch code text groups 0 text.size false).answer=some false∧(Sre.forSearch code text groups 0 text.size false).frames=[]∧(Sre.forSearch code text groups 0 text.size false).outcome=none:=by
 unfold Sre.forSearch;have hh:(Sre.header code).1=1:=by unfold Sre.header; rw [N.info]; exact N.least
 simp only [hh];split
 ·exact⟨rfl,rfl,rfl⟩
 ·exact q0 N _ rfl h rfl rfl
theorem q4 {m:Sre.M}(h1:m.answer=some false) (h2:m.frames=[]) (h3:m.outcome=none):∃m',m.runFor 4=m'∧m'.outcome=some .failed:=by
 refine⟨_,rfl,?_⟩;have hs:m.step={ m with outcome:=some .failed }:=by
  unfold Sre.M.step;rw [if_neg (by rw [h3]; decide),h1,h2]
  rfl
 unfold Sre.M.runFor;rw [if_neg (by rw [h3]; decide),hs]
 rfl
section
variable {M:Model}{A:Around}{E:Value→Shared→Prop}{s:Shared}
theorem e7 {α:Type}(f:α→Bool) (g:α→String) {Q:Unit→Shared→Prop}(q:Q () s):∀(l:List α),wpAny M A (forIn l PUnit.unit fun i __s=>
   if f i=true then do
    rule (g i)
    pure (ForInStep.yield PUnit.unit)
   else pure (ForInStep.yield PUnit.unit)) (fun _=>Q ()) E s
 |[]=>wpAny_pure q
 |x::l=>by
  rw [List.forIn_cons]
  by_cases h:f x=true
  ·rw [if_pos h];exact wpAny_bind (wpAny_bind (wpAny_rule (wpAny_pure (e7 f g q l))))
  ·rw [if_neg h];exact wpAny_bind (wpAny_pure (e7 f g q l))
theorem jm {m:Sre.M}(h1:m.answer=some false) (h2:m.frames=[]) (h3:m.outcome=none) {Q:Option Sre.M→Shared→Prop}(q:Q none s):wpAny M A (reRunToEnd m) Q E s:=by
 obtain⟨m',e1,e2⟩:=q4 h1 h2 h3;unfold reRunToEnd;have hd:reDrive (2 ^ 64) m=pure m':=by
  have:(2 ^ 64:Nat)=(2 ^ 64 - 1)+1:=by decide
  rw [this];unfold reDrive;have e3:m.runFor reTurnSteps=m':=e1;simp only [e3];rw [e2]; rfl
 rw [hd];refine wpAny_bind (wpAny_pure (wpAny_bind ?_));refine wpAny_mono (e7 (fun i=>m'.seen.has i) (fun i=>Sre.names.getD i "") (Q:=fun _ s'=>s'=s) rfl _) (fun _ s' h=>?_) fun _ _ z=>z
 subst h;rw [e2];exact wpAny_pure q
theorem q5 (v:Value):reNamed "re.Pattern.search" "search" ["string","pos","endpos"] 1 [v] []=pure [some v,none,none]:=by rfl
end
structure uh (K:Frag) (a:Addr) (code:Array Nat) (good:Nat→Bool):Prop where
 obj:∃vs sl c items,K.lookup a=some ⟨.type "re.Pattern",none,.fields vs,sl⟩∧vs.getD 5 .none = .ref c∧(∃oc k,K.lookup c=some oc∧oc.data = .seq items k)∧(items.map reRawOf).map (·.toNat)=code∧reRawNat (vs.getD 6 .none)≠1
 no:cQ code good
section
variable {prog:Program}{w:World}{A:Around}{E:Value→Shared→Prop}{s:Shared}{K:Frag}
theorem oK {a:Addr}{code:Array Nat}{good:Nat→Bool}{x:List Nat}{t:Tok}(X:K.In s.heap) (R:uh K a code good) (hx:∀c∈x,good c=true) (hz:x.length<af) {P:Fin→Shared→Prop}(q:P (.done (.ret .none)) s) :
  wpAny (model prog w) A (Builtin.«re.Pattern.search» ⟨[.ref a,.str ⟨x.toArray⟩ t],[]⟩) P E s:=by
 obtain⟨⟨vs,sl,c,items,ho,h5,⟨oc,k,hc,hcd⟩,hcode,h6⟩,N⟩:=R;have ha:=X _ _ ho;have hcc:=X _ _ hc;unfold Builtin.«re.Pattern.search» reTarget;refine wpAny_bind (wpAny_bind (wpAny_of_eq (q5 _) (wpAny_bind (wpAny_pure (wpAny_bind (wpAny_pure (wpAny_bind (wpAny_fieldsOf ha rfl ?_))))))));refine wpAny_bind (wpAny_of_eq (show reTextOf (.str ⟨x.toArray⟩ t)=pure (x.toArray,0) from rfl) ?_)
 dsimp only;rw [if_neg (by simp),if_neg (by simpa using h6)]
 refine wpAny_bind (wpAny_of_eq (show reNoCollectionInside (.str ⟨x.toArray⟩ t) 0=pure () from rfl) ?_)
 rw [h5];unfold reRawItems;refine wpAny_bind (wpAny_bind (wpAny_seqItems hcc hcd (wpAny_pure (wpAny_pure ?_))));unfold reAnswer;dsimp only;have hcl:Min.min (Int.toNat (2 ^ 63 - 1)) x.toArray.size=x.toArray.size:=by
  have:af=2 ^ 20:=rfl;rw [List.size_toArray]; omega
 have h0:Min.min (Int.toNat 0) x.toArray.size=0:=by simp
 simp only [Option.getD_some,hcode,hcl,h0];have SF:=lj (text:=x.toArray) (groups:=reRawNat (vs.getD 2 .none)) N fun i hi=>hx _ (by
  rw [List.size_toArray] at hi;have:x.toArray.getD i 0=x[i]:=by simp [hi]
  rw [this]; exact List.getElem_mem hi)
 exact wpAny_bind (jm SF.1 SF.2.1 SF.2.2 (wpAny_pure q))
end
end Mini
set_option maxRecDepth 100000
set_option autoImplicit false
namespace Mini
open PySem PySem.W PyProof.Rows
noncomputable def mG (c:Nat):Bool:=Nat.ble 32 c&&Nat.ble c 126
structure TF3 (T:TS):Prop extends TF2 T where
 rex:∀a,T.C.rex a=true→∃code,uh T.K a code mG
namespace RP
theorem lk:typeLookup (.type "re.Pattern") "search" = pure (some (.builtin "re.Pattern.search")):=by rw [typeLookup_type,builtinLookup_eq_fast]; kernel_rfl
theorem slot:PySem.Slot "re.Pattern" "search" "re.Pattern.search" :=
 .of (owner:= "re.Pattern") (n:= "search") lk (by decide +kernel) (by decide +kernel) (by decide +kernel)
  (by first | exact .inl (by decide +kernel) | exact .inr (by decide +kernel)) (by rw [isSubtype_type]; kernel_rfl)
theorem plain:PlainAttrs "re.Pattern" :=
 ⟨⟨"object.__getattribute__",by rw [typeLookup_type,builtinLookup_eq_fast]; kernel_rfl,by decide +kernel⟩,by rw [typeLookup_type,builtinLookup_eq_fast]; kernel_rfl⟩
theorem ty:typeOf (.builtin "re.Pattern.search")=pure (.type "method_descriptor"):=by show builtinType _=_; rw [builtinType_eq_fast]; kernel_rfl
theorem entry:entryFor table "re.Pattern.search" = some Builtin.«re.Pattern.search» :=entryFor_of_tree (by kernel_rfl)
theorem args (a b:Value):argsOk "re.Pattern.search" ⟨[a,b],[]⟩:=by unfold argsOk; kernel_rfl
end RP
section
variable {T:TS}{W W':Wd}{pr:Kn}{env:Env}{ρ ρ':P}{σ σ':H}{s s':Shared}{A:Around}{E:Value→Shared→Prop}{n:Nat}{r:cT}{call:ad}{C:ce}{ws:Ws}{K:V→H→Ws→Prop}{Q:Value→Shared→Prop}
theorem wA {a:Addr}{id:String}{u:Value}(ho:s.heap.get? a=some (xk id u)):bW T A (.ref a) s:=fun Q E q=>by
 show wpAny T.M A (load a >>= _) Q E s;refine wpAny_bind (wpAny_load ho ?_);exact wpAny_pure (q _)
theorem ll {l:Addr}{x:Value}{ys:List Value}{ep:Nat}{Q:Unit→Shared→Prop}(hl:s.heap.get? l=some (ak ys ep)) (q:Q () s):wpAny T.M A (checkBoundCall "list.append" ⟨[.ref l,x],[]⟩) Q E s:=by
 obtain⟨hp,g,d,tk,os⟩:=s;dsimp only at hl;have hT:(⟨hp,g,d,tk,os⟩:Shared).TypeIs (.ref l) "list" :=⟨_,hl,rfl⟩;have f1:isSubtype (.type "list") (.type "module")=pure false:=by rw [isSubtype_type]; kernel_rfl
 have f2:isSubtype (.type "list") (.type "type")=pure false:=by rw [isSubtype_type]; kernel_rfl
 unfold checkBoundCall;repeat (any_goals (first | assumption | wp_step))
theorem q6 {a:Addr}{v v':Value}{i:Nat}{xs:List V}{u:V}(ho:s.heap.get? a=some (xk "list.append" v)) (S:St T W pr env ρ σ s) (h:VR T.P W (.ref i) v) (h':VR T.P W u v') (e:σ[i]? = some (.list xs)) (hz:xs.length<af)
  (k:K .none (σ.set i (.list (xs++[u]))) ws) (q:GE T W pr env ρ K Q):wpAny T.M A (PySem.call (.ref a) [v']) Q E s:=by
 revert ho;refine S.r.held h e fun l ys ep h1 h2 h4 h5 ho=>wpAny_call (codeAny_of_tree ?_)
 show wpAny _ A.in1 (callAny (.ref a) ⟨[v'],[]⟩) _ _ s;simp only [callAny];refine wpAny_bind (wpAny_load ho ?_);dsimp only;rw [if_pos (by decide)]
 refine wpAny_bind (ll h2 ?_);refine wpAny_bind (wpAny_pure (wpAny_pure ?_));refine⟨Code.quiet_builtin _ (by decide +kernel),codeAny_builtin entry_list_append ?_⟩
 show wpAny _ _ (updateSeq l (·.push v') >>= fun _=>ret .none) _ _ s
 have z1:ys.toArray.size≤sizeLine:=by rw [List.size_toArray]; exact dj h5 hz
 refine wpAny_bind (wpAny_updateSeq h2 rfl (wpAny_pure ?_) z1 (by rw [Array.size_push]; exact Nat.succ_le_succ z1))
 refine q W _ _ _ _ ws (.refl W) .mkN (cA S (ep:=ep+1) (ys:=ys++[v']) h1 (Heap.SameBut.update ..) ?_ (.append (.cons ‹_› .nil) h4)) k;rw [Heap.get?_update_self _ h2 (by rw [mapSeq_push]; rfl),mapSeq_push]
 simp [ak]
theorem mH (X:aG T n call) {f:V}{args:List V}{kw:List (Str×V)}{f':Value}{args':List Value}{kw':List (Str×Value)}(e:pi call f args kw σ ws K) (S:St T W pr env ρ σ s) (r2:an A n)
  (hf:VR T.P W f f') (ha:aB T.P W args args') (hk:cP T.P W kw kw') (q:GE T W pr env ρ K Q):bW T A f' s∧wpAny T.M A (PySem.call f' args' kw') Q E s:=by
 cases f with
 |val u=>
  cases u with
  |ref a=>exact dA.out e fun p ws2 e2=>hf.u (M:=fun f'=>bW T A f' s∧wpAny T.M A (PySem.call f' args' kw') Q E s) ⟨X.keep e2.1 (W:=W) S.r .mkU,X.from e2.1 S r2 .mkU ha hk e2.2 q⟩
  |_=>
   obtain⟨c,e0⟩:=bd.out e;obtain rfl:=hk.nil' c;exact dA.out e0 fun v ws2 e2=>hf.u (M:=fun f'=>bW T A f' s∧wpAny T.M A (PySem.call f' args' []) Q E s) ⟨bj nofun,y3 S r2 e2.1 ha e2.2 q⟩
 |bm id self=>
  obtain⟨c,e0⟩:=bd.out e;obtain⟨c1,c2⟩:=Bool.and_eq_true_iff.mp c;obtain rfl:=hk.nil' c2;rw [beq_iff_eq] at c1;subst c1;obtain⟨a,u,rfl,h1,h2⟩:=hf;have ho:=S.r.fzIn _ _ h1;refine⟨wA ho,?_⟩;refine e0.out fun i hi e1=>?_
  subst hi;exact e1.vr ha fun x y h3 e2=>dA.out e2 fun xs ws2 e3=>q6 ho S h2 h3 e3.1.1 e3.1.2 e3.2 q
 |clo d c self=>exact dA.out e fun p ws2 e2=>⟨X.keep e2.1 S.r hf,X.from e2.1 S r2 hf ha hk e2.2 q⟩
 |_=>exact e.elim
end
end Mini
set_option maxRecDepth 100000
set_option autoImplicit false
namespace Mini
open PySem PySem.W PyProof.Rows
section
variable {T:TS}{W W':Wd}{pr:Kn}{env:Env}{ρ:P}{σ σ':H}{s s':Shared}{A:Around}{E:Value→Shared→Prop}{n:Nat}{r:cT}{call:ad}{C:ce}{ws:Ws}{K:V→H→Ws→Prop}
theorem lm {f dx:Addr}{fd:FuncData}{name:Str}{pl:Sem Bool}{Q:Value×List Value→Shared→Prop}(hn:ck name aM=true) (hx:s.heap.get? f=some ⟨.type "function",some dx,.func fd,#[]⟩)
  (h:wpAny T.M A (getAttr (.ref f) name) (fun v=>Q (v,[])) E s):wpAny T.M A (getMethod (.ref f) name pl) Q E s:=by
 obtain⟨hp,g,d,tk,os⟩:=s;dsimp only at hx;have hT:(⟨hp,g,d,tk,os⟩:Shared).TypeIs (.ref f) "function" :=⟨_,hx,rfl⟩;have f0:=Fn.lk_ga;have f1:=Fn.lk_name hn;have f2:=Fn.lk_getattr;unfold getMethod;refine wpAny_bind (wpAny_specialOf hT f0 ?_);dsimp only;rw [if_neg (by rw [PySem.F.canon_object_ga]; decide)]
 refine wpAny_bind (wpAny_specialOf hT f2 ?_);rw [if_neg (by decide)]
 refine wpAny_bind (wpAny_specialOf hT f1 ?_);exact wpAny_bind (wpAny_mono h (fun v s' h'=>wpAny_pure h') fun _ _ e=>e)
theorem aO.miss {k:List Nat}:∀{es:List (List Nat×V)}{ds:List DictEntry},aO T.P W es ds→bP k es=none→ds.find? (·.key.isStr (mk k))=none
 |[],_,h,_=>h.nl rfl
 |(k',x')::es,_,h,e=>h.cs fun t y r h1 h=>by
  have e:(match i8 k' k with | true=>some x' | false=>bP k es)=none:=e
  show (match (Value.str (⟨k'.toArray⟩:Str) t).isStr (mk k) with | true=>some _ | false=>r.find? _)=none
  rw [show (Value.str (⟨k'.toArray⟩:Str) t).isStr (mk k)=i8 k' k from iF]
  cases q:i8 k' k with
  |true=>rw [q] at e; exact nomatch e
  |false=>rw [q] at e; exact aO.miss h e
theorem mI (F:TF2 T) {ov:V}{o':Value}{c a:Addr}{name:Str}{pl:Sem Bool}{Q:Value×List Value→Shared→Prop}(S:St T W pr env ρ σ s) (h:VR T.P W ov o') (hs:ly σ ov name c) (hm:am T.C c name=some a)
  (q:Q (.ref a,[o']) s):wpAny T.M A (getMethod o' name pl) Q E s:=by
 induction hs with | mk hii he hn=>
 obtain⟨ms,h1,CO,k1,k2,_⟩:=eo F hm;obtain⟨x,dx,rfl,g1,g2,g3⟩:=hF S.r h hii;obtain⟨ds,ep,h4,h5,h6⟩:=cj S.r g2 he;refine method_fn S.r.K (eI g3 h4) CO.ga CO.gt k1 k2 ?_ q;have hf:=h5.miss hn;rw [gp] at hf;unfold shadowIn lookIn;simp only [hf];rw [if_neg (by rw [h5.norefs]; decide)]
 rfl
theorem oL (F:TF3 T) {a:Addr}{pl:Sem Bool}{Q:Value×List Value→Shared→Prop}(R:aI T W pr σ s) (h:T.C.rex a=true) (q:Q (.builtin "re.Pattern.search",[.ref a]) s):wpAny T.M A (getMethod (.ref a) "search" pl) Q E s:=by
 obtain⟨code,⟨vs,sl,c,items,ho,_⟩,_⟩:=F.rex a h;have ha:=R.K _ _ ho;exact getMethod_builtin ⟨_,ha,rfl⟩ RP.plain RP.slot RP.ty (fun b e=>by cases e; exact⟨_,ha,rfl⟩) q
theorem ui (F:TF3 T) {a:Addr}{x:List Nat}{t:Tok}{Q:Value→Shared→Prop}(R:aI T W pr σ s) (h:T.C.rex a=true) (hx:bR x=true) (hz:x.length<af) (q:Q .none s):wpAny T.M A (PySem.call (.builtin "re.Pattern.search") [.ref a,.str ⟨x.toArray⟩ t]) Q E s:=by
 obtain⟨code,RO⟩:=F.rex a h;obtain⟨vs,sl,c,items,ho,_⟩:=RO.obj;have ha:=R.K _ _ ho;refine wpAny_call_entry RP.slot ⟨_,ha,rfl⟩ RP.entry (oK R.K RO (fun c hc=>?_) hz ⟨.none,rfl,q⟩) (RP.args _ _)
 exact List.all_eq_true.mp hx c hc
theorem oM (F:TF2 T) {ov v:V}{o':Value}{name:Str}{pl:Sem Bool}{Q:Value×List Value→Shared→Prop}(S:St T W pr env ρ σ s) (h:VR T.P W ov o') (e:Fo σ ov name v)
  (q:GE T W pr env ρ (fun v' σ' ws'=>v'=v∧σ'=σ∧ws'=ws) fun v' s'=>Q (v',[]) s'):wpAny T.M A (getMethod o' name pl) Q E s:=by
 have e0:=e
 induction e0 with
 |mk h1 h2=>
  obtain⟨a,dx,fd,rfl,_,_,h5⟩:=kY S.r h h1;exact lm h2 h5 (tI F S (.fobj e) h ⟨rfl,rfl,rfl⟩ q)
theorem zh {x p z:List Nat}{v:V}{t u w:Tok}{Q:Value→Shared→Prop}(e:xv x p z v) (S:St T W pr env ρ σ s) (hu:u≠0) (hw:w≠0) (huw:u≠w) (k:K v σ ws) (q:GE T W pr env ρ K Q) :
  wpAny T.M A (PySem.call (.builtin "str.replace") [.str ⟨x.toArray⟩ t,.str ⟨p.toArray⟩ u,.str ⟨z.toArray⟩ w]) Q E s:=by
 cases e with
 |mk hp hq hz=>
  refine wpAny_with_toks S.r.tk.2 (PySem.SC.replace hu hw huw ?_ ?_ fun t' m hk=>?_)
  ·rw [←gZ]; exact beq_eq_false_iff_ne.mpr hq
  ·rw [bV,bV]; exact Nat.le_trans (Nat.le_of_lt hz) (by decide)
  ·exact q.str S hk (oe x p z hp) k
theorem qp (z:Str):z=⟨z.cps.toList.toArray⟩:=by cases z; simp
theorem wB {b:Expr}{z:List Nat}{Q:Value→Shared→Prop}(h:xA b=some z) (q:Q (.str ⟨z.toArray⟩ s.toks) { s with toks:=s.toks+1 }):wpAny T.M A (eval b env) Q E s:=by
 unfold xA at h;have v:=rs b;generalize bz b=w at v h
 induction v with
 |str=>cases h; exact wpAny_Constant_str (by rw [←qp] at q; exact q)
 |_=>exact ac h
theorem zi {a:Expr}{p:List Nat}{Q:Value→Shared→Prop}(h:rI ρ a=some p) (S:St T W pr env ρ σ s) (q:∀s' u,St T W pr env ρ σ s'→u≠0→u<s'.toks→Q (.str ⟨p.toArray⟩ u) s'):wpAny T.M A (eval a env) Q E s:=by
 have tk:=S.r.tk;unfold rI at h;have v:=rs a;generalize bz a=w at v h
 induction v with
 |str=>cases h; exact wpAny_Constant_str (by have:=q _ _ S.tok (Nat.ne_of_gt (Nat.lt_of_lt_of_le tk.1 tk.2)) (Nat.lt_succ_self _); rw [←qp] at this; exact this)
 |@name n p'=>
  have h:(match cF n "__debug__" with | true=>none | false=>(lookup n ρ).bind rH)=some p:=h
  cases g:cF n "__debug__" with
  |true=>rw [g] at h; exact ac h
  |false=>
   rw [g] at h;refine ai h fun u hl hu=>?_
   cases u with
   |tstr x=>
    cases hu;exact kN S hl (jX (congrArg not g)) fun v' hv=>hv.ts fun t t1 t2=>q s t S (Nat.ne_of_gt t1) (Nat.lt_of_lt_of_le t2 tk.2)
   |_=>exact ac hu
 |_=>exact ac h
theorem q7 (R:Snd T n r) {o:Expr}{apos pos:Pos}{args:List Expr}{kws:List Keyword}{Q:Value→Shared→Prop}(e:nA r o args kws ρ σ ws K) (hm:uK o apos pos args kws=true) (hs:ar args=true) (S:St T W pr env ρ σ s) (r2:an A n) (q:GE T W pr env ρ K Q) :
  wpAny T.M A (eval (.Call (.Attribute o "replace" apos) args kws pos) env) Q E s:=by
 cases kws with
 |cons=>exact e.elim
 |nil=>
  cases args with
  |nil=>exact e.elim
  |cons a args=>
   cases args with
   |nil=>exact e.elim
   |cons b args=>
    cases args with
    |cons=>exact e.elim
    |nil=>
     refine bo.out e fun z hz e1=>?_
     obtain⟨g1,g2⟩:=aK hs;have hst:∀pos,backTo pos (starEach [a,b] env)=[(false,eval a env),(false,eval b env)]:=fun pos=>by rw [aP g1,aP (aK g2).1]; rfl
     refine gw hm (bQ hs).1 rfl (R.ev e1 S r2 fun W1 s1 ov o' σ1 ws1 L1 h1 S1 e2=>?_)
     refine e2.vr h1 fun x t e2=>bo.out e2 fun p hp e3=>dA.out e3 fun v ws2 e4=>GM.replace ?_
     rw [hst];refine aY rfl rfl (Calls.evalArgs_plain (Calls.spliced_cons (zi hp S1 fun s2 u S2 hu hlt=>Calls.spliced_cons (wB (T:=T) hz (Calls.spliced_nil ⟨bj nofun,?_⟩)))))
     exact zh e4.1 S2.tok hu (Nat.ne_of_gt (Nat.lt_of_le_of_lt (Nat.zero_le _) hlt)) (Nat.ne_of_lt hlt) e4.2 (q.mono L1)
section
variable {pos:Pos}{name:Str}{args:List Expr}{kws:List Keyword}{ov:V}{o':Value}{pl:Sem Bool}{Q:Value→Shared→Prop}
noncomputable abbrev A3 (T:TS) (A:Around) (E:Value→Shared→Prop) (env:Env) (pos:Pos) (name:Str) (args:List Expr) (kws:List Keyword) (pl:Sem Bool) (o':Value) (Q:Value→Shared→Prop) (s:Shared):Prop:=
 wpAny T.M A (getMethod o' name pl) (fun p s₂=>wpAny T.M A (callWith pos p.1 p.2 (backTo pos (starEach args env)) (backToKw pos (keywordEach kws env))) Q E s₂) E s
theorem uj (F:TF3 T) (X:aG T n call) (R:Snd T n r) (hs:ar args=true) (hk:bC kws=true) {a:Addr}(e:wX T.C call r a ov name args kws ρ σ ws K) (h:VR T.P W ov o') (S:St T W pr env ρ σ s) (r2:an A n) (q:GE T W pr env ρ K Q):A3 T A E env pos name args kws pl o' Q s:=by
 obtain⟨⟨c,hsh,ha⟩,e2⟩:=e;exact mI F.toTF2 S h hsh ha (ej R hs hk e2 S r2 fun W2 s2 vs kw a' σ2 ws2 L2 h2 h3 S2 e3=>dA.out e3 fun p ws3 e4=>⟨X.keep e4.1 (W:=W2) S2.r .mkU,X.from e4.1 S2 r2 .mkU (.cons (h.mono L2) h2) h3 e4.2 (q.mono L2)⟩)
theorem wC (F:TF3 T) (R:Snd T n r) (hs:ar args=true) (e:zP T.C r ov name args kws ρ σ ws K) (h:VR T.P W ov o') (S:St T W pr env ρ σ s) (r2:an A n) (q:GE T W pr env ρ K Q):A3 T A E env pos name args kws pl o' Q s:=by
 cases ov with
 |val u=>cases u with
  |ref a=>
   obtain⟨c,e2⟩:=bd.out e;simp only [Bool.and_eq_true,List.isEmpty_iff] at c;obtain⟨⟨g1,g2⟩,rfl⟩:=c;rw [sEq_iff] at g2;subst g2;exact h.u (oL F S.r g1 (fU R hs e2 S r2 fun W2 s2 vs vs' σ2 ws2 L2 h2 S2 e3=>⟨bj nofun,e3.vr h2 fun x y h4 e4=>e4.vr h4 fun z t e5=>ui F S2.r g1 e5.1.1 e5.1.2 (q W2 s2 _ _ σ2 ws2 L2 .mkN S2 e5.2)⟩))
  |_=>exact e.elim
 |_=>exact e.elim
theorem uk (R:Snd T n r) (hs:ar args=true) {id:String}(e:wY r id ov name args kws ρ σ ws K) (h:VR T.P W ov o') (S:St T W pr env ρ σ s) (r2:an A n) (q:GE T W pr env ρ K Q):A3 T A E env pos name args kws pl o' Q s:=by
 obtain⟨c,e2⟩:=bd.out e.2;rw [List.isEmpty_iff] at c;subst c;exact y4 S.r e.1 h (fU R hs e2 S r2 fun W2 s2 vs vs' σ2 ws2 L2 h2 S2 e3=>dA.out e3 fun p ws3 e4=>⟨bj nofun,wa S2 e4.1 (h.mono L2) h2 e4.2 (q.mono L2)⟩)
theorem wD (F:TF3 T) (X:aG T n call) (R:Snd T n r) (hs:ar args=true) (hk:bC kws=true) {fv:V}(e:zQ call r fv ov name args kws ρ σ ws K) (h:VR T.P W ov o') (S:St T W pr env ρ σ s) (r2:an A n) (q:GE T W pr env ρ K Q):A3 T A E env pos name args kws pl o' Q s:=
 oM (ws:=ws) F.toTF2 S h e.1 fun W2 s2 f f' σ2 ws2 L2 h2 S2 k=>by
  obtain⟨rfl,rfl,rfl⟩:=k;exact ej R hs hk e.2 S2 r2 fun W3 s3 vs kw a' σ3 ws3 L3 h3 h4 S3 e3=>mH X e3 S3 r2 (h2.mono L3) h3 h4 (q.mono (L2.trans L3))
end
theorem jn (F:TF3 T) (hC:T.C=C) (X:aG T n call) (R:Snd T n r) {o:Expr}{name:Str}{apos pos:Pos}{args:List Expr}{kws:List Keyword}{Q:Value→Shared→Prop}(e:bv C call r (.Call (.Attribute o name apos) args kws pos) ρ σ ws K)
  (S:St T W pr env ρ σ s) (r2:an A n) (q:GE T W pr env ρ K Q):wpAny T.M A (eval (.Call (.Attribute o name apos) args kws pos) env) Q E s:=by
 subst hC;obtain⟨c,e0⟩:=bd.out e;simp only [Bool.and_eq_true] at c;obtain⟨⟨hm,hs⟩,hk⟩:=c;cases hrep:cF name "replace" with
 |true=>
  rw [hrep] at e0;rw [sEq_iff] at hrep;subst hrep;exact q7 R e0 hm hs S r2 q
 |false=>
  rw [hrep] at e0;refine gw hm (bQ hs).1 (cO hk).1 (R.ev e0 S r2 fun W1 s1 ov o' σ1 ws1 L1 h1 S1 e1=>?_)
  cases ws1 with
  |nil=>exact e1.elim
  |cons w ws=>
   cases w with
   |inst a=>exact uj F X R hs hk e1 h1 S1 r2 (q.mono L1)
   |rex=>exact wC F R hs e1 h1 S1 r2 (q.mono L1)
   |meth id=>exact uk R hs e1 h1 S1 r2 (q.mono L1)
   |fld fv=>exact wD F X R hs hk e1 h1 S1 r2 (q.mono L1)
   |_=>exact e1.elim
end
end Mini
set_option maxRecDepth 100000
set_option autoImplicit false
namespace Mini
open PySem PySem.W PyProof.Rows
section
variable {prog:Program}{w:World}{A:Around}{E:Value→Shared→Prop}{s:Shared}
theorem ul {I l:Addr}{i:Int}{Q:Bool→Shared→Prop}(hI:s.heap.IsRevIter I l i) (q:Q false s):wpAny (model prog w) A (Builtin.List.listLengthHint (.ref I)) Q E s:=by
 have hT:=hI.typeIs;have n1:typeLookup (.type "list_reverseiterator") "__len__" = pure none:=by rw [typeLookup_type,builtinLookup_eq_fast]; kernel_rfl
 have n2:typeLookup (.type "list_reverseiterator") "__length_hint__" = pure (some (.builtin "list_reverseiterator.__length_hint__")):=by rw [typeLookup_type,builtinLookup_eq_fast]; kernel_rfl
 unfold Builtin.List.listLengthHint;refine wpAny_bind (wpAny_specialOf hT n1 ?_);refine wpAny_ite_split (fun hab=>absurd hab (by decide +kernel)) (fun _=>?_)
 refine wpAny_ite_split (fun hab=>absurd hab (by decide)) (fun _=>?_)
 refine wpAny_bind (wpAny_specialOf hT n2 ?_);generalize hid:("list_reverseiterator.__length_hint__" : String)=id0
 wp_delta
 rw [show splitId id0=some ("list_reverseiterator","__length_hint__") from by subst hid; decide +kernel]
 subst hid;refine wpAny_bind (wpAny_isInstance (T:= "list_reverseiterator") (b:=true) hT (by rw [isSubtype_type]; kernel_rfl) ?_)
 refine wpAny_ite_split (fun hab=>absurd hab (by decide)) (fun _=>?_)
 refine wpAny_ite_split (fun _=>?_) (fun hab=>absurd (by decide +kernel) hab)
 refine wpAny_ite_split (fun hab=>absurd hab (by decide)) (fun _=>?_)
 exact wpAny_pure q
theorem oN {R:Result→Shared→Prop}{I l:Addr}{items:Array Value}(hh:A.handled=none) (hl:s.heap.IsList l items) (hI:s.heap.IsRevIter I l ((items.size:Int) - 1)) (hIl:I≠l) (hsz:items.size≤2 ^ 21) (S:Addr) (xj:Value) (c₀:Nat) (hS:s.heap.get? S=some { cls:=.type "list",data:=.seq #[] c₀ }) (hSI:S≠I) (hSl:S≠l)
  (hR:∀h' tk acc' c',s.toks≤tk→(∀b o,b≠S→b≠I→s.heap.get? b=some o→h'.get? b=some o)→h'.get? S=some { cls:=.type "list",dict:=none,data:=.seq acc' c',slots:=#[] } →
   ItemsOf (fun j v=>items[items.size - 1 - j]? = some v) acc' items.size→R (.ok (.ret xj)) { s with heap:=h',toks:=tk }) :
  wpAny (model prog w) A.in1 (Builtin.List.listExtendWith (.ref S) (.ref I) xj)
   (fun fin s'=>match fin with | .done f=>R (.ok f) s' | .again c'=>c'.quiet=true∧codeAny (model prog w) A c' R s') (fun e s'=>R (.error e) s') s:=by
 have K:=(Walks.listRev (prog:=prog) (w:=w) (A:=A.in1) hh I l hIl.symm items).toS;unfold Builtin.List.listExtendWith;refine wpAny_bind (wpAny_typeOf hI.typeIs ?_);have h1:Builtin.List.listSameRef (.ref S) (.ref I)=false:=by simp [Builtin.List.listSameRef,hSI]
 have h2:(Value.type "list_reverseiterator" == Value.type "list")=false:=by decide
 have h3:(Value.type "list_reverseiterator" == Value.type "tuple")=false:=by decide
 simp only [h1,h2,h3,Bool.or_false,Bool.false_eq_true,if_false];refine wpAny_bind (wpAny_pyIter_revIter hI ?_);refine wpAny_bind (wpAny_holding (ul hI ?_));refine wpAny_ite_split (fun hab=>absurd hab (by decide +kernel)) (fun _=>?_)
 refine wpAny_pure ⟨plainId_quiet F.plain_extend_loop _,?_⟩;refine codeAny_extend_loopS K (by rw [sizeLine_eq]; omega) S (by simp [hSI,hSl]) xj items.size 0 _ #[] c₀ rfl (Nat.zero_le _) ⟨by omega,by simpa using hI,hl⟩ hS (ItemsOf.nil _) fun s' acc' c' hm hS' hacc=>?_
 rw [Moved.eq_with hm];exact hR s'.heap s'.toks acc' c' hm.toks (fun b o b1 b2 e=>hm.heap b o (by simp [b1,b2]) e) hS' hacc
theorem jo {I l:Addr}{items:Array Value}{Q:Value→Shared→Prop}(hh:A.handled=none) (hl:s.heap.IsList l items) (hI:s.heap.IsRevIter I l ((items.size:Int) - 1)) (hIl:I≠l) (hsz:items.size≤2 ^ 21)
  (hQ:∀h' tk acc' c',s.toks≤tk→(∀b o,b≠I→s.heap.get? b=some o→h'.get? b=some o)→h'.get? s.heap.objs.size=some { cls:=.type "list",dict:=none,data:=.seq acc' c',slots:=#[] } →
   ItemsOf (fun j v=>items[items.size - 1 - j]? = some v) acc' items.size→Q (.ref s.heap.objs.size) { s with heap:=h',toks:=tk }) :
  wpAny (model prog w) A (call (.type "list") [.ref I]) Q E s:=by
 refine callType_codes (Q₁:=fun obj s₁=>obj = .ref s.heap.objs.size∧s₁={ s with heap:=s.heap.push { cls:=.type "list",data:=.seq #[] } }) F.called_list (F.typeCall_list_1 _) F.entry_list_init
  (code_list_new _ ⟨rfl,rfl⟩) fun obj s₁ h₁=>?_
 obtain⟨rfl,rfl⟩:=h₁;have hS:(s.heap.push { cls:=.type "list",data:=.seq #[] }).get? s.heap.objs.size=some { cls:=.type "list",data:=.seq #[] }:=Heap.get?_push_size _ rfl;have ltI:I<s.heap.objs.size:=let ⟨o,ho,_⟩:=hI; Heap.lt_size ho
 have ltl:l<s.heap.objs.size:=let ⟨o,ho,_⟩:=hl; Heap.lt_size ho
 refine⟨⟨_,hS,rfl⟩,F.args_list_init_2 _ _,?_⟩;show wpAny _ _ (do let old ←Builtin.List.listItems (.ref s.heap.objs.size); Builtin.List.listUpdate (.ref s.heap.objs.size) (fun _=>#[]); letGo old.toList.reverse; Builtin.List.listExtendWith (.ref s.heap.objs.size) (.ref I) .none) _ _ _
 refine wpAny_bind ?_;unfold Builtin.List.listItems;refine wpAny_bind (wpAny_seqItems hS rfl (wpAny_pure ?_));show wpAny _ _ (updateSeq s.heap.objs.size (fun _=>#[]) >>= fun _=>letGo (#[]:Array Value).toList.reverse >>= fun _=>Builtin.List.listExtendWith (.ref s.heap.objs.size) (.ref I) .none) _ _ _
 refine wpAny_bind (wpAny_updateSeq hS rfl ?_);have hS₂:=Heap.get?_update_self (Obj.mapSeq (fun _=>(#[]:Array Value))) hS rfl
 have oth:∀b o,b≠s.heap.objs.size→s.heap.get? b=some o→((s.heap.push { cls:=.type "list",data:=.seq #[] }).update s.heap.objs.size (Obj.mapSeq (fun _=>(#[]:Array Value)))).get? b=some o:=
  fun b o hb e=>(Heap.get?_update_other _ _ (Ne.symm hb)).trans (Heap.get?_push_of_some _ e)
 refine wpAny_bind (wpAny_letGo ?_);have nI:=Nat.ne_of_lt ltI;have nl:=Nat.ne_of_lt ltl;refine oN (A:=A.in1) hh (hl.at fun o e=>oth l o nl e) (hI.at fun o e=>oth I o nI e) hIl hsz _ .none _ hS₂ nI.symm nl.symm fun h' tk acc' c' htk hk hS' hacc=>?_
 exact⟨rfl,hQ h' tk acc' c' htk (fun b o bI e=>hk b o (Nat.ne_of_lt (Heap.lt_size e)) bI (oth b o (Nat.ne_of_lt (Heap.lt_size e)) e)) hS' hacc⟩
end
section
variable {T:TS}{W W':Wd}{pr:Kn}{env:Env}{ρ ρ':P}{σ:H}{s:Shared}{A:Around}{E:Value→Shared→Prop}{n:Nat}{r:cT}{call:ad}{C:ce}
theorem q8 {xs:List V}{ys:List Value}{acc:Array Value}(h:aB T.P W xs ys) (ha:ItemsOf (fun j v=>ys.toArray[ys.toArray.size - 1 - j]? = some v) acc ys.toArray.size):aB T.P W xs.reverse acc.toList:=by
 have e:acc.toList=ys.reverse:=by
  refine List.ext_getElem? fun j=>?_
  by_cases hj:j<ys.length
  ·have hj':j<acc.size:=by rw [ha.1]; simpa using hj
   have h1:acc[j]? = some acc[j]:=Array.getElem?_eq_getElem hj';have h2:=ha.2 j _ h1;rw [Array.getElem?_toList,h1,List.getElem?_reverse hj,←h2];simp
  ·rw [List.getElem?_eq_none (by rw [Array.length_toList,ha.1]; simpa using hj),List.getElem?_eq_none (by simpa using hj)]
 rw [e];exact h.reverse
theorem jq {ws:Ws}{K:V→H→Ws→Prop}{xs:List V}{v:Value}{Q:Value→Shared→Prop}(S:St T W pr env ρ σ s) (r2:an A n) (h:VR T.P W (.list xs) v) (hz:xs.length<af)
  (k:K (.list xs.reverse) σ ws) (q:GE T W pr env ρ K Q):wpAny T.M A (PySem.call (.type "reversed") [v]) (fun x s₁=>wpAny T.M A (PySem.call (.type "list") [x]) Q E s₁) E s:=by
 refine h.l fun l ys ep h1 h2=>?_
 have hl:=S.r.fzIn _ _ h1;refine call_reversed_list (ao hl) ?_;obtain⟨S1,hH⟩:=S.hold (s':={ s with heap:=s.heap.push (revObj l ((ys.toArray.size:Int) - 1)) }) (be.push s _) (az _) (Heap.get?_push_size _ rfl)
 have hIl:s.heap.objs.size≠l:=Ne.symm (Nat.ne_of_lt (Heap.lt_size hl));refine jo (s:={ s with heap:=s.heap.push (revObj l ((ys.toArray.size:Int) - 1)) }) r2.handled ((ao hl).push _) ⟨_,Heap.get?_push_size _ rfl,rfl,rfl⟩ hIl (by rw [List.size_toArray]; exact uf h2.length hz) fun h' tk acc' c' ht hk hS' hacc=>?_
 have hn:=az (s.heap.push (revObj l ((ys.toArray.size:Int) - 1)));have S2:=S1.lose (s':={ s with heap:=h',toks:=tk }) hH.n hH.no (fun b hb p e=>hk b p hb e) rfl rfl ht
 have hN:bG T W pr env ρ { s with heap:=h',toks:=tk } (s.heap.push (revObj l ((ys.toArray.size:Int) - 1))).objs.size (ak acc'.toList c'):=
  ⟨S1.r.new hn,fT S1 hn,hS'⟩
 obtain⟨S3,L3⟩:=S2.still hN;exact q _ _ _ _ _ _ L3 (.mkL (Wd.add_at _ _ _) ((q8 h2 hacc).mono L3)) S3 k
end
end Mini
set_option maxRecDepth 100000
set_option autoImplicit false
namespace Mini
open PySem PySem.W PyProof.Rows
section
variable {T:TS}{W W':Wd}{pr:Kn}{env:Env}{ρ:P}{σ:H}{s:Shared}{A:Around}{E:Value→Shared→Prop}{n:Nat}{r:cT}{call:ad}{C:ce}{ws:Ws}{K:V→H→Ws→Prop}
theorem mJ {f:Expr}(h:nq f=false) (args:List Expr) (kws:List Keyword) (pos:Pos) (env:Env):eval (.Call f args kws pos) env=(do
  callWith pos (←eval f env) [] (backTo pos (starEach args env)) (backToKw pos (keywordEach kws env))):=by
 cases f <;> first | rfl | cases h
theorem zj {args:List Expr}{kws:List Keyword}{p:Expr×Expr}(h:pj args kws=some p):kws=[]∧∃n pn pc,p.1 = .Name n pn∧args=[.Call p.1 [p.2] [] pc]∧ar [p.2]=true:=by
 cases kws with
 |cons=>exact ac h
 |nil=>
  cases args with
  |nil=>exact ac h
  |cons a args=>cases args with
   |cons=>exact ac h
   |nil=>
    refine⟨rfl,?_⟩;have h1:nB a=some p:=h;clear h;unfold nB at h1;have v:=rs a;generalize bz a=w at v h1
    induction v with
    |@call g xs ks pc=>
     have v:=rs g;dsimp only at h1;generalize bz g=w at v h1
     induction v with
     |@name n pn=>
      dsimp only at h1;cases c:cF n "reversed" && ks.isEmpty&&ar xs with
      |false=>rw [c] at h1; exact ac h1
      |true=>
       rw [c] at h1;simp only [Bool.and_eq_true,List.isEmpty_iff] at c;obtain⟨⟨_,c2⟩,c3⟩:=c;subst c2;cases xs with
       |nil=>exact ac h1
       |cons x xs=>cases xs with
        |cons=>exact ac h1
        |nil=>cases h1; exact⟨n,pn,pc,rfl,rfl,c3⟩
     |_=>exact ac h1
    |_=>exact ac h1
theorem oO (R:Snd T n r) {f:Expr}{p:Expr×Expr}{nm:Str}{pn pc pos:Pos}(hg:p.1 = .Name nm pn) (hs:ar [p.2]=true) {Q:Value→Shared→Prop}(e:ki r f p ρ σ ws K) (S:St T W pr env ρ σ s) (r2:an A n) (q:GE T W pr env ρ K Q) :
  wpAny T.M A (do callWith pos (←eval f env) [] (backTo pos (starEach [.Call p.1 [p.2] [] pc] env)) (backToKw pos (keywordEach [] env))) Q E s:=by
 refine wpAny_bind (R.ev e S r2 fun W1 s1 fv f' σ1 ws1 L1 h1 S1 e1=>?_)
 have hst:backTo pos (starEach [.Call p.1 [p.2] [] pc] env)=[(false,eval (.Call p.1 [p.2] [] pc) env)]:=by rw [aP rfl]; rfl
 rw [hst];refine aY rfl rfl (Calls.evalArgs_plain (Calls.spliced_cons ?_));have e2:=e1;rw [hg] at e2 ⊢;rw [mJ (f:=.Name nm pn) rfl];refine wpAny_bind (R.ev e2 S1 r2 fun W2 s2 gv g' σ2 ws2 L2 h2 S2 e3=>?_)
 obtain⟨⟨rfl,rfl⟩,e4⟩:=e3;refine h2.u ?_;refine eJ R hs e4 S2 r2 fun W3 s3 v v' σ3 ws3 L3 h3 S3 e5=>?_
 cases v with
 |list xs=>
  refine wpAny_mono (jq (Q:=Q) (E:=E) S3 r2 h3 e5.1 e5.2 (q.mono (L1.trans (L2.trans L3)))) (fun y s4 h4=>Calls.spliced_nil ⟨bj fun _ e=>?_,?_⟩) fun _ _ z=>z
  ·exact h1.u (M:=fun z=>z = .ref _→False) nofun e
  ·exact h1.u h4
 |_=>exact e5.elim
theorem cE (X:aG T n call) (R:Snd T n r) {f:Expr}{args:List Expr}{kws:List Keyword}{pos:Pos}{Q:Value→Shared→Prop}(hf:nq f=false) (e:gd call r f args kws ρ σ ws K)
  (S:St T W pr env ρ σ s) (r2:an A n) (q:GE T W pr env ρ K Q):wpAny T.M A (eval (.Call f args kws pos) env) Q E s:=by
 rw [mJ hf];have e:(match pj args kws with | some p=>ki r f p ρ σ ws K | none=>bd (ar args&&bC kws) (r.E f ρ σ ws fun fv σ ws=>gc r ρ args σ ws fun vs σ ws=>lF r ρ kws σ ws fun kw σ ws=>pi call fv vs kw σ ws K)):=e
 cases hr:pj args kws with
 |some p=>
  rw [hr] at e;obtain⟨rfl,nm,pn,pc,h1,rfl,h3⟩:=zj hr;exact oO R h1 h3 e S r2 q
 |none=>
 rw [hr] at e;obtain⟨c,e0⟩:=bd.out e;obtain⟨c1,c2⟩:=Bool.and_eq_true_iff.mp c;exact wpAny_bind (R.ev e0 S r2 fun W1 s1 fv f' σ1 ws1 L1 h1 S1 e1=>ej R c1 c2 e1 S1 r2 fun W2 s2 vs kw a σ2 ws2 L2 h2 h3 S2 e2=>mH X e2 S2 r2 (h1.mono L2) h2 h3 (q.mono (L1.trans L2)))
end
end Mini
set_option maxRecDepth 100000
set_option autoImplicit false
namespace Mini
open PySem PySem.W PyProof.Rows Builtin Builtin.ObjectAttr
namespace Md
theorem slot_get:PySem.Slot "method_descriptor" "__get__" "method_descriptor.__get__" :=
 .of (owner:= "method_descriptor") (n:= "__get__") (by rw [typeLookup_type,builtinLookup_eq_fast]; kernel_rfl) (by decide +kernel) (by decide +kernel) (by decide +kernel)
  (by first | exact .inl (by decide +kernel) | exact .inr (by decide +kernel)) (by rw [isSubtype_type]; kernel_rfl)
theorem entry_get:entryFor table "method_descriptor.__get__" = some Builtin.«method_descriptor.__get__» :=entryFor_of_tree (by kernel_rfl)
theorem args_get (a b c:Value):argsOk "method_descriptor.__get__" ⟨[a,b,c],[]⟩:=by unfold argsOk; kernel_rfl
theorem type_app:typeOf (.builtin "list.append")=pure (.type "method_descriptor"):=F.type_list_append
theorem lk_set:typeLookup (.type "method_descriptor") "__set__" = pure none:=by rw [typeLookup_type,builtinLookup_eq_fast]; kernel_rfl
theorem lk_del:typeLookup (.type "method_descriptor") "__delete__" = pure none:=by rw [typeLookup_type,builtinLookup_eq_fast]; kernel_rfl
theorem q9:(".".intercalate ("list.append".cutAt '.').dropLast) = "list" :=by
 have e0 : "list.append".cutAt '.'=["list","append"]:=by first | rfl | decide +kernel
 rw [e0]; decide +kernel
theorem sub_app:isSubtype (.type "list") (.type (".".intercalate ("list.append".cutAt '.').dropLast))=pure true:=by rw [q9,isSubtype_type]; kernel_rfl
theorem slot_list_ga:PySem.Slot "list" "__getattribute__" "list.__getattribute__" :=F.slot_list_getattribute
end Md
section
variable {T:TS}{W W':Wd}{pr:Kn}{env:Env}{ρ:P}{σ:H}{s:Shared}{A:Around}{E:Value→Shared→Prop}{n:Nat}{r:cT}{call:ad}{C:ce}{ws:Ws}{K:V→H→Ws→Prop}
theorem wE {l:Addr}{ys:List Value}{ep:Nat}{P0:Fin→Shared→Prop}(hl:s.heap.get? l=some (ak ys ep)) (q:P0 (.done (.ret (.ref s.heap.objs.size))) { s with heap:=s.heap.push (xk "list.append" (.ref l)) }) :
  wpAny T.M A (Builtin.«method_descriptor.__get__» ⟨[.builtin "list.append",.ref l,.type "list"],[]⟩) P0 E s:=by
 obtain⟨hp,g,d,tk,os⟩:=s;dsimp only at hl q;have hT:(⟨hp,g,d,tk,os⟩:Shared).TypeIs (.ref l) "list" :=⟨_,hl,rfl⟩;unfold Builtin.«method_descriptor.__get__»;repeat (any_goals (first | assumption | wp_step))
 have f8:=Md.sub_app;repeat (any_goals (first | assumption | wp_step))
theorem wF {l:Addr}{ys:List Value}{ep:Nat}{tk0:Tok}{P0:Fin→Shared→Prop}(hl:s.heap.get? l=some (ak ys ep)) (q:P0 (.done (.ret (.ref s.heap.objs.size))) { s with heap:=s.heap.push (xk "list.append" (.ref l)) }) :
  wpAny T.M A (Builtin.«object.__getattribute__» ⟨[.ref l,.str "append" tk0],[]⟩) P0 E s:=by
 obtain⟨hp,g,d,tk,os⟩:=s;dsimp only at hl q;have hT:(⟨hp,g,d,tk,os⟩:Shared).TypeIs (.ref l) "list" :=⟨_,hl,rfl⟩;have f1:=F.slot_list_append.lookup;have f2:=Md.type_app;have f3:=Md.slot_get.lookup;have f4:=Md.lk_set;have f5:=Md.lk_del;unfold Builtin.«object.__getattribute__»;repeat (any_goals (first | assumption | wp_step))
 have hT5:(⟨hp,g,d,tk,os⟩:Shared).TypeIs (.builtin "list.append") "method_descriptor" :=Md.type_app;refine codeAny_call_builtin Md.slot_get.plain Md.entry_get (Md.slot_get.check _ _ _ _ _ _ _ _ hT5 (Md.args_get _ _ _) (wE (T:=T) hl ?_));exact wpAny_pure q
theorem oP {l:Addr}{ys:List Value}{ep:Nat}{ex:Bool}{Q:Value→Shared→Prop}(hl:s.heap.get? l=some (ak ys ep)) (q:Q (.ref s.heap.objs.size) { s with heap:=s.heap.push (xk "list.append" (.ref l)),toks:=s.toks+1 }) :
  wpAny T.M A (getAttr (.ref l) "append" ex) Q E s:=by
 obtain⟨hp,g,d,tk,os⟩:=s;dsimp only at hl q;have hT:(⟨hp,g,d,tk,os⟩:Shared).TypeIs (.ref l) "list" :=⟨_,hl,rfl⟩;have hT1:(⟨hp,g,d,tk+1,os⟩:Shared).TypeIs (.ref l) "list" :=⟨_,hl,rfl⟩;have f1:=Md.slot_list_ga.lookup;have f4:=Md.slot_list_ga.bind (.ref l);cases ex;all_goals (
  repeat (any_goals (first | assumption | (rw [if_neg (show ¬(true&&onTheHeap (Value.builtin "list.__getattribute__"))=true by decide)]) | wp_step))
  refine codeAny_call_builtin Md.slot_list_ga.plain am_entry_list_getattribute (Md.slot_list_ga.check _ _ _ _ _ _ _ _ hT1 (F.args_list_getattribute_2 _ _) (wF (T:=T) hl ?_));repeat (any_goals (first | assumption | wp_step)))
theorem VR.mkM {P:Params}{id:String}{self:V}{a:Addr}{u:Value}(h:W.fz a=some (xk id u)) (k:VR P W self u):VR P W (.bm id self) (.ref a):=by exact⟨a,u,rfl,h,k⟩
theorem rc (F:TF2 T) (hC:T.C=C) (R:Snd T n r) {o:Expr}{name:Str}{pos:Pos}{Q:Value→Shared→Prop}(e:bv C call r (.Attribute o name pos) ρ σ ws K) (S:St T W pr env ρ σ s) (r2:an A n) (q:GE T W pr env ρ K Q) :
  wpAny T.M A (eval (.Attribute o name pos) env) Q E s:=by
 subst hC;obtain⟨hb,e0⟩:=bd.out e;rw [Bool.not_eq_true'] at hb;rw [arm_eval_Attribute,iQ hb];refine wpAny_bind (R.ev e0 S r2 fun W1 s1 ov o' σ1 ws1 L1 h1 S1 e1=>wpAny_bind (wpAny_standAt (wpAny_bind (wpAny_holding ?_))))
 cases ws1 with
 |nil=>exact e1.elim
 |cons w ws=>
  cases w with
  |fld v=>exact tI F S1 e1.1 h1 e1.2 fun W2 s2 v v' σ2 ws2 L2 h2 S2 k=>wpAny_bind (wpAny_letTemporaryGo (wpAny_pure (q W2 s2 v v' σ2 ws2 (L1.trans L2) h2 S2 k)))
  |l xs=>
   obtain⟨hn,hl,k⟩:=bd.out e1;rw [sEq_iff] at hn;subst hn;have h2:=h1;revert h2;refine S1.r.lst h1 hl fun l ys ep h3 _ _ h2=>?_
   refine oP (T:=T) h3 (wpAny_bind (wpAny_letTemporaryGo (wpAny_pure ?_)));have g:be s1 { s1 with heap:=s1.heap.push (xk "list.append" (.ref l)),toks:=s1.toks+1 }:=⟨fun _ _ e=>Heap.get?_push_of_some _ e,rfl,rfl,Nat.le_succ _⟩
   obtain⟨S2,L2⟩:=S1.freeze g (az _) (Heap.get?_push_size _ rfl);exact q _ _ _ _ _ ws (L1.trans L2) (.mkM (Wd.add_at _ _ _) (h2.mono L2)) S2 k
  |_=>exact e1.elim
end
end Mini
set_option maxRecDepth 100000
set_option autoImplicit false
namespace Mini
open PySem PySem.W PyProof.Rows
theorem oQ (n:Str) (v:Value):Value.isStrOf n v=v.isStr n:=by cases v <;> rfl
theorem mK {n:Str}{e0:DictEntry}:∀{ds:List DictEntry},kW n e0 ds=match ds.findIdx? (fun e=>Value.isStrOf n e.key) with
  |some i=>ds.modify i fun e=>{ e with val:=e0.val }
  |none=>ds++[e0]
 |[]=>rfl
 |e::r=>by
  have ih:=mK (n:=n) (e0:=e0) (ds:=r);show (match e.key.isStr n with | true=>_ | false=>e::kW n e0 r)=_
  rw [List.findIdx?_cons,oQ];cases e.key.isStr n with
  |true=>rfl
  |false=>
   dsimp only;rw [ih];cases r.findIdx? (fun e=>Value.isStrOf n e.key) <;> rfl
section
variable {T:TS}{W W':Wd}{pr:Kn}{env:Env}{ρ:P}{σ:H}{s:Shared}{A:Around}{E:Value→Shared→Prop}{n:Nat}{r:cT}{call:ad}{C:ce}
theorem oR {d:Addr}{es:List (List Nat×V)}{ds:List DictEntry}{ep:Nat}{k:List Nat}{t:Tok}{y:Value}{Q:Unit→Shared→Prop}(hd:s.heap.get? d=some (ax ds ep)) (h:aO T.P W es ds) (hz:ds.length<2 ^ 20)
  (q:∀h' ep',Heap.SameBut d s.heap h'→h'.get? d=some (ax (kW (mk k) ⟨PyData.keyHash T.P (mk k),.str (mk k) t,y⟩ ds) ep')→Q () { s with heap:=h' }) :
  wpAny T.M A (dictPut d (PyData.keyHash T.P (mk k)) (.str (mk k) t) y) Q E s:=by
 unfold dictPut;refine wpAny_bind (wpAny_dictFind_of (knd:=kS T) (k:=mk k) (strKind_is _ _ _ _) hd rfl (fun e he=>h.keys.1 e (List.mem_toArray.mp he)) ?_)
 have hx:=mK (n:=mk k) (e0:=⟨PyData.keyHash T.P (mk k),.str (mk k) t,y⟩) (ds:=ds);have hi:(ds.toArray.findIdx? fun e=>(kS T).is (mk k) e.key)=ds.findIdx? (fun e=>Value.isStrOf (mk k) e.key):=by simp; rfl
 rw [hi];cases hf:ds.findIdx? (fun e=>Value.isStrOf (mk k) e.key) with
 |some i=>
  rw [hf] at hx;dsimp only at hx ⊢;refine wpAny_updateDict hd rfl ?_ (by simp)
  refine q _ ep (Heap.SameBut.update ..) ?_;rw [Heap.get?_update_self _ hd rfl];simp only [Obj.mapDict,hx];simp
 |none=>
  rw [hf] at hx;dsimp only at hx ⊢;refine wpAny_updateDictKeys hd rfl ?_ (by rw [List.size_toArray,sizeLine_eq]; omega) (by simp)
  refine q _ (ep+1) (Heap.SameBut.update ..) ?_;rw [Heap.get?_update_self _ hd rfl];simp only [Obj.mapDictKeys,hx];simp
theorem iS:∀(l acc:List (List Nat×V)),(aw acc l).length≤acc.length+l.length
 |[],acc=>by simp [aw]
 |e::l,acc=>by
  show (aw (aj e.1 e.2 acc) l).length≤_;have h1:=iS l (aj e.1 e.2 acc);have h2:=bw (k:=e.1) (x:=e.2) (es:=acc);simp only [List.length_cons]; omega
theorem b9:∀(l acc:List (List Nat×V)),(acc.map (·.1)).Nodup→((aw acc l).map (·.1)).Nodup
 |[],_,h=>h
 |e::l,acc,h=>b9 l (aj e.1 e.2 acc) (bM h)
theorem aO.strKey:∀{es:List (List Nat×V)}{ds:List DictEntry},aO T.P W es ds→∀e∈ds,∃k t,e.key = .str k t
 |[],_,h=>h.nl fun _ h=>nomatch h
 |(k,x)::es,_,h=>h.cs fun t y r _ h=>List.forall_mem_cons.mpr ⟨⟨_,_,rfl⟩,h.strKey⟩
theorem jZ {M:Model}{es:Array DictEntry}{Q:PUnit→Shared→Prop}(q:Q PUnit.unit s):∀(l:List DictEntry),(∀e∈l,∃k t,e.key = .str k t)→wpAny M A (forIn l PUnit.unit fun e __s=>
             match e.key with
             |Value.ref a=>do
              let __do_lift ←specialOf e.key (Str.ofString "__eq__")
              if (__do_lift != some (Value.builtin "object.__eq__"))=true then
                if (Array.filter (fun x=>x.hash==e.hash) es).size > 1 then do
                 unsupported "dict.merge-into-an-empty-dict:keys-of-equal-hash"
                 pure (ForInStep.yield PUnit.unit)
                else pure (ForInStep.yield PUnit.unit)
               else pure (ForInStep.yield PUnit.unit)
             |x=>pure (ForInStep.yield PUnit.unit)) Q E s
 |[],_=>wpAny_pure q
 |e::l,h=>by
  obtain⟨k,t,hk⟩:=h e List.mem_cons_self;rw [List.forIn_cons];obtain⟨eh,ek,ev⟩:=e;dsimp only at hk;subst hk;exact wpAny_bind (wpAny_pure (jZ q l fun e he=>h e (List.mem_cons_of_mem _ he)))
theorem rd {α:Type}{c:Prop} [Decidable c] {a b:Sem α}{Q:α→Shared→Prop}(h:wpAny T.M A b Q E s→wpAny T.M A a Q E s) (hb:wpAny T.M A b Q E s):wpAny T.M A (if c then a else b) Q E s:=by
 split
 ·exact h hb
 ·exact hb
theorem iT {f:Nat→PUnit→Sem (ForInStep PUnit)}{d a:Addr}{da:List DictEntry}{epa:Nat}{Q:Unit→Shared→Prop}(hne:a≠d) (ha:s.heap.get? a=some (ax da epa))
  (hf:∀i (e:DictEntry) (s1:Shared) (Q:ForInStep PUnit→Shared→Prop),s1.heap.get? a=some (ax da epa)→da[i]? = some e→wpAny T.M A (dictPut d e.hash e.key e.val) (fun _ s2=>s2.heap.get? a=some (ax da epa)∧Q (.yield ⟨⟩) s2) E s1→wpAny T.M A (f i ⟨⟩) Q E s1) :
  ∀{l:List (List Nat×V)}{dl:List DictEntry}{i:Nat}{acc:List (List Nat×V)}{dacc:List DictEntry}{epd:Nat}{h1:Heap},Heap.SameBut d s.heap h1→h1.get? d=some (ax dacc epd)→aO T.P W acc dacc→aO T.P W l dl →
   da.drop i=dl→acc.length+l.length<4000→(∀h' dacc' ep',Heap.SameBut d s.heap h'→h'.get? d=some (ax dacc' ep')→aO T.P W (aw acc l) dacc'→Q () { s with heap:=h' }) →
   wpAny T.M A (forIn (List.range' i l.length) PUnit.unit f) (fun _=>Q ()) E { s with heap:=h1 }
 |[],_,_,_,dacc,epd,_,sb,hd,h1,_,_,_,q=>wpAny_pure (q _ dacc epd sb hd h1)
 |(k,x)::l,_,i,acc,_,_,hp,sb,hd,h1,h2,hdr,hz,q=>by
  revert hdr;refine h2.cs fun t y r hx h3 hdr=>?_
  rw [List.length_cons,List.range'_succ,List.forIn_cons];have ha1:hp.get? a=some (ax da epa):=(sb.2 a hne).trans ha;have hget:da[i]? = some ⟨PyData.keyHash T.P ⟨k.toArray⟩,.str ⟨k.toArray⟩ t,y⟩:=by
   have:=List.getElem?_drop (xs:=da) (i:=i) (j:=0);rw [hdr] at this; exact this.symm
  have hla:acc.length+(l.length+1)<4000:=hz;refine wpAny_bind (hf i _ { s with heap:=hp } _ ha1 hget (oR (T:=T) (W:=W) (k:=k) hd h1 (by rw [←h1.length]; exact Nat.lt_of_le_of_lt (Nat.le_add_right _ _) (Nat.lt_trans hla (by decide))) fun h' ep' sb' hd'=>⟨(sb'.2 a hne).trans ha1,?_⟩))
  refine iT hne ha hf (sb.trans sb') hd' (h1.put (k:=k) (t:=t) hx) h3 ?_ (Nat.lt_of_le_of_lt (Nat.le_trans (Nat.add_le_add_right bw _) (by rw [Nat.add_assoc,Nat.add_comm 1]; exact Nat.le_refl _)) hla) q
  rw [←List.drop_drop,hdr]; rfl
theorem um {d a:Addr}{ea acc:List (List Nat×V)}{da dacc:List DictEntry}{epd epa:Nat}{Q:Unit→Shared→Prop}(hd:s.heap.get? d=some (ax dacc epd)) (ha:s.heap.get? a=some (ax da epa)) (hne:a≠d) (hs:(a==sysModules)=false)
  (h1:aO T.P W acc dacc) (h2:aO T.P W ea da) (z1:acc.length<2000) (z2:ea.length<2000)
  (q:∀h' dacc' ep',Heap.SameBut d s.heap h'→h'.get? d=some (ax dacc' ep')→aO T.P W (aw acc ea) dacc'→Q () { s with heap:=h' }) :
  wpAny T.M A (mergeMapping d (.ref a) false) Q E s:=by
 have hT:s.TypeIs (.ref a) "dict" :=⟨_,ha,rfl⟩;have hit:typeLookup (.type "dict") "__iter__" = pure (some (.builtin "dict.__iter__")):=by rw [typeLookup_type,builtinLookup_eq_fast]; kernel_rfl
 unfold mergeMapping;refine wpAny_bind (wpAny_isInstance (T:= "dict") (b:=true) hT (by rw [isSubtype_type]; kernel_rfl) (fI rfl ?_))
 refine wpAny_bind (wpAny_specialOf hT hit ?_);rw [show ((some (Value.builtin "dict.__iter__")==some (Value.builtin "dict.__iter__"))=true) from by decide]
 refine wpAny_bind (wpAny_pure ?_);dsimp only;refine aX (by rw [hs]; exact Bool.false_ne_true) ?_
 refine wpAny_bind (wpAny_dictEntries hd rfl (rd (fun jp=>?_) ?_))
 ·refine wpAny_bind (wpAny_dictEntries ha rfl ?_);rw [←Array.forIn_toList];exact wpAny_bind (jZ jp da h2.strKey)
 ·refine wpAny_bind (wpAny_dictEntries ha rfl (wpAny_bind (wpAny_dictEpoch ha rfl (wpAny_bind ?_))));rw [List.range_eq_range',List.size_toArray,←h2.length];refine wpAny_mono (iT (W:=W) hne ha (fun i e s1 Q1 ha1 hi hp=>?_) (Heap.SameBut.refl _ _) hd h1 h2 rfl (Nat.add_lt_add z1 z2) q) (fun _ _ h=>wpAny_pure h) fun _ _ z=>z
  refine wpAny_bind (wpAny_dictEntries ha1 rfl ?_);rw [show da.toArray[i]? = some e from (List.getElem?_toArray ..).trans hi]
  refine wpAny_bind (wpAny_holding (aX Bool.false_ne_true (wpAny_mono hp (fun _ s2 h3=>?_) fun _ _ z=>z)))
  exact wpAny_bind (wpAny_dictEpoch h3.1 rfl (aX (by simp) (wpAny_pure h3.2)))
end
end Mini
set_option maxRecDepth 100000
set_option autoImplicit false
namespace Mini
open PySem PySem.W PyProof.Rows
section
variable {T:TS}{W W':Wd}{pr:Kn}{env:Env}{ρ:P}{σ:H}{s:Shared}{A:Around}{E:Value→Shared→Prop}{n:Nat}{r:cT}{call:ad}{C:ce}{ws:Ws}
theorem gx {d:Addr}{es:List (List Nat×V)}{ds:List DictEntry}{ep:Nat}(b:Bool) (S:St T W pr env ρ σ s) (h:bG T W pr env ρ s d (ax ds ep)) (hv:aO T.P W es ds) (hn:(es.map (·.1)).Nodup) :
  ∃W',W.le W'∧VR T.P W' (aD b (.dict es) (.dict es) σ).1 (.ref d)∧St T W' pr env ρ (aD b (.dict es) (.dict es) σ).2 s:=by
 cases b with
 |false=>
  obtain⟨S1,L⟩:=S.still h;exact⟨_,L,by exact⟨d,ds,ep,rfl,Wd.add_at _ _ _,hv.mono L,hn⟩,S1⟩
 |true=>
  have L:W.le ⟨W.phi++[d],W.fz,W.tk⟩:=⟨⟨[_],rfl⟩,fun _ _ e=>e,Nat.le_refl _⟩
  obtain⟨S1,_⟩:=S.give h (x:=.dict es) ⟨ds,ep,rfl,hv.mono L,hn⟩;exact⟨_,L,.mkR (S.r.newAt _),S1⟩
theorem bA.merge:∀{l:List (List Nat×V)}{kvs:List (Str×Value)}{acc:List (List Nat×V)}{accl:List (Str×Value)},bA T W acc accl→(acc.map (·.1)).Nodup→bA T W l kvs→bA T W (aw acc l) (merged accl kvs)
 |[],_,_,_,h,_,e=>e.nl h
 |(k,x)::l,_,acc,accl,h,hn,e=>e.cs fun y r h1 h2=>bA.merge (l:=l) (kvs:=r) (acc:=aj k x acc) (accl:=stored accl (mk k) y) (bA.store h1 h hn) (bM hn) h2
noncomputable def hU (env:Env) (pos:Pos):List (Option Expr)→List Expr→List (Sem Value×Sem Value)
 |some k::ks,v::vs=>(eval k env,do let x ←eval v env; standAt pos; pure x)::hU env pos ks vs
 |_,_=>[]
theorem aO.nil {P:Params}:aO P W [] []:=rfl
theorem gG {pos:Pos}:∀{ks:List (Option Expr)}{vs:List Expr},ks.all (·.isSome)=true→ks.length=vs.length →
  (evalEachOpt ks env).zip ((evalEach vs env).map fun v=>do let x ←v; standAt pos; pure x)=(hU env pos ks vs).map (fun p=>(some p.1,p.2))∧(hU env pos ks vs).length=ks.length
 |[],[],_,_=>⟨rfl,rfl⟩
 |[],_::_,_,e=>nomatch e
 |_::_,[],_,e=>nomatch e
 |none::_,_::_,e,_=>nomatch e
 |some k::ks,v::vs,h,e=>by
  obtain⟨h1,h2⟩:=gG (pos:=pos) (ks:=ks) (vs:=vs) h (Nat.succ.inj e);exact⟨congrArg (List.cons _) h1,congrArg (· + 1) h2⟩
theorem mL (R:Snd T n r) {pos:Pos}:∀{ks:List (Option Expr)}{vs:List Expr}{W:Wd}{σ:H}{s:Shared}{ws:Ws}{K:List (List Nat×V)→H→Ws→Prop}{Q:List (Value×Value)→Shared→Prop},gM r ρ ks vs σ ws K→St T W pr env ρ σ s→an A n →
  (∀W' s' l us kvs σ' ws',W.le W'→Carries (kS T) us kvs→bA T W' l kvs→St T W' pr env ρ σ' s'→K l σ' ws'→Q us s')→wpAny T.M A (evalPairs (hU env pos ks vs)) Q E s
 |[],[],W,σ,s,ws,_,_,e,S,r2,q=>evalPairs_nil (q W s [] [] [] σ ws (.refl W) trivial rfl S e)
 |[],_::_,_,_,_,_,_,_,e,_,_,_=>e.elim
 |none::_,[],_,_,_,_,_,_,e,_,_,_=>e.elim
 |none::_,_::_,_,_,_,_,_,_,e,_,_,_=>e.elim
 |some _::_,[],_,_,_,_,_,_,e,_,_,_=>e.elim
 |some k::ks,v::vs,_,_,_,_,_,_,e,S,r2,q=>
  evalPairs_cons (R.ev e S r2 fun W1 s1 kv k' σ1 ws1 L1 h1 S1 e1=>e1.vr h1 fun x t e1=>
   wpAny_bind (R.ev e1 S1 r2 fun W2 s2 vv v' σ2 ws2 L2 h2 S2 e2=>wpAny_bind (wpAny_standAt (wpAny_pure (mL R e2 S2 r2 fun W3 s3 l us kvs σ3 ws3 L3 hc hk S3 e3=>
    q W3 s3 ((x,vv)::l) _ ((mk x,v')::kvs) σ3 ws3 (L1.trans (L2.trans L3)) ⟨strKind_is _ _ _ _,rfl,hc⟩ (.mkC (h2.mono L3) hk) S3 e3)))))
noncomputable abbrev GD (T:TS) (W:Wd) (pr:Kn) (env:Env) (ρ:P) (b:Bool) (K:List (List Nat×V)→H→Ws→Prop) (Q:Value→Shared→Prop):Prop:=
 ∀W' s' es v σ' ws',W.le W'→VR T.P W' (aD b (.dict es) (.dict es) σ').1 v→St T W' pr env ρ (aD b (.dict es) (.dict es) σ').2 s'→K es σ' ws'→Q v s'
variable {b:Bool}{K:List (List Nat×V)→H→Ws→Prop}{Q:Value→Shared→Prop}
theorem un {pos:Pos}(S:St T W pr env ρ σ s) (k:K [] σ ws) (q:GD T W pr env ρ b K Q):wpAny T.M A (eval (.Dict [] [] pos) env) Q E s:=by
 rw [arm_eval_Dict];refine wpAny_bind (wpAny_standAt ?_);show wpAny T.M A newDict Q E s;refine wpAny_newObj_type ?_;obtain⟨S1,hH⟩:=S.hold (s':={ s with heap:=s.heap.push { cls:=.type "dict",data:=.dict #[] } }) (o:=ax [] 0) (be.push s _) (az _) (Heap.get?_push_size _ rfl)
 obtain⟨W5,L5,h7,S5⟩:=gx (es:=[]) b S1 hH aO.nil List.nodup_nil;exact q W5 _ _ _ σ ws L5 h7 S5 k
theorem oS (R:Snd T n r) {ks:List (Option Expr)}{vs:List Expr}{pos:Pos}(h1:ks.all (·.isSome)=true) (h2:ks.length=vs.length) (hk:ks.length<15) (e:gM r ρ ks vs σ ws fun l σ ws=>K (aw [] l) σ ws) (S:St T W pr env ρ σ s) (r2:an A n)
  (q:GD T W pr env ρ b K Q):wpAny T.M A (eval (.Dict ks vs pos) env) Q E s:=by
 cases ks with
 |nil=>
  cases vs with
  |nil=>exact un S e q
  |cons=>cases h2
 |cons k0 ks=>
  obtain⟨h3,h4⟩:=gG (env:=env) (pos:=pos) h1 h2;refine wpAny_Dict_pairs (knd:=kS T) h3 (fun h=>by rw [h] at h4; cases h4) (h4▸Nat.le_of_lt hk) ?_
  obtain⟨S1,hH⟩:=S.hold (s':={ s with heap:=s.heap.push { cls:=.type "dict",data:=.dict #[] } }) (o:=ax [] 0) (be.push s _) (az _) (Heap.get?_push_size _ rfl)
  refine mL R e (S1.protect hH) r2 fun W2 s2 l us kvs σ2 ws2 L2 hc hv S2 k=>?_
  obtain⟨S3,h3⟩:=S2.unprotect hH.n.npr S.r.sys (fun v e=>nomatch e)
  refine⟨kvs,hc,aO.dictOf (T:=T) (aO.nil:aO T.P W2 [] []) List.nodup_nil h3.at_,fun h' D hs=>?_⟩
  have hm:bA T W2 (aw [] l) (merged [] kvs):=bA.merge (rfl:bA T W2 [] []) List.nodup_nil hv;obtain⟨ds,ep,h4,h5⟩:=jH D hm;obtain⟨S4,h6⟩:=S3.change (s':={ s2 with heap:=h',toks:=s2.toks+us.length }) h3 hs h4 rfl rfl (Nat.le_add_right _ _)
  obtain⟨W5,L5,h7,S5⟩:=gx b S4 h6 h5 (b9 l [] List.nodup_nil);exact q W5 _ _ _ σ2 ws2 (L2.trans L5) h7 S5 k
theorem iU {d:Addr}{x:V}{m:Value}{ea acc:List (List Nat×V)}{dacc:List DictEntry}{ep:Nat}{Q:Unit→Shared→Prop}(S:St T W pr env ρ σ s) (h:bG T W pr env ρ s d (ax dacc ep)) (hv:aO T.P W acc dacc) (hm:VR T.P W x m) (hx:DO σ x ea)
  (z1:acc.length<2000) (z2:ea.length<1000) (q:∀s' dacc' ep',St T W pr env ρ σ s'→bG T W pr env ρ s' d (ax dacc' ep')→aO T.P W (aw acc ea) dacc'→Q () s'):wpAny T.M A (mergeMapping d m false) Q E s:=by
 refine S.r.dct hm hx fun a da epa h1 h2 h3 hq=>?_
 have hne:a≠d:=hq.elim (fun m e=>h.n.nphi (e▸m)) fun⟨_,f⟩=>cy f h.n.nfz
 refine um (T:=T) (W:=W) h.at_ h1 hne (S.r.notSys hq) hv h2 z1 (by omega) fun h' dacc' ep' hs hd hv'=>?_
 obtain⟨S1,h5⟩:=S.change (s':={ s with heap:=h' }) h hs hd rfl rfl (Nat.le_refl _)
 exact q _ dacc' ep' S1 h5 hv'
theorem oT (R:Snd T n r) {a c:Expr}{pos:Pos}(e:r.E a ρ σ ws fun x σ ws=>uN ws fun ea ws=>(DO σ x ea∧ea.length<1000)∧r.E c ρ σ ws fun y σ ws=>uN ws fun eb ws=>(DO σ y eb∧eb.length<1000)∧K (aw (aw [] ea) eb) σ ws)
  (S:St T W pr env ρ σ s) (r2:an A n) (q:GD T W pr env ρ b K Q):wpAny T.M A (eval (.Dict [none,none] [a,c] pos) env) Q E s:=by
 rw [arm_eval_Dict];refine wpAny_bind (wpAny_standAt ?_);show wpAny T.M A (dictDisplay [(none,do let x ←eval a env; standAt pos; pure x),(none,do let x ←eval c env; standAt pos; pure x)]) Q E s
 unfold dictDisplay;simp only [List.forIn_cons,List.forIn_nil];refine wpAny_bind (wpAny_bind (wpAny_bind (wpAny_pure ?_)));dsimp only;refine wpAny_bind (wpAny_alloc ?_);obtain⟨S1,hH⟩:=S.hold (s':={ s with heap:=s.heap.push { cls:=.type "dict",data:=.dict #[] } }) (o:=ax [] 0) (be.push s _) (az _) (Heap.get?_push_size _ rfl)
 have hc:∀{ds:List DictEntry}{ep:Nat}(v:Value),(ax ds ep).data≠.cell (some v):=fun v e=>nomatch e
 refine wpAny_bind (wpAny_holding (wpAny_bind (R.ev e (S1.protect hH) r2 fun W1 s1 x m1 σ1 ws1 L1 h1 S2 e1=>dA.out e1 fun ea ws2 e2=>wpAny_bind (wpAny_standAt (wpAny_pure ?_)))))
 obtain⟨⟨g1,z1⟩,e3⟩:=e2;obtain⟨S3,h3⟩:=S2.unprotect hH.n.npr S.r.sys hc;refine wpAny_bind (wpAny_onRaise (wpAny_tryCatch (wpAny_onRaise (wpAny_holding (iU S3 h3 aO.nil h1 g1 (by decide) z1 fun s2 da ep S4 h4 hv4=>?_)))))
 refine wpAny_pure ?_;dsimp only;refine wpAny_bind (wpAny_bind (wpAny_pure ?_));dsimp only;refine wpAny_bind (wpAny_pure ?_);refine wpAny_bind (wpAny_holding (wpAny_bind (R.ev e3 (S4.protect h4) r2 fun W2 s3 y m2 σ2 ws3 L2 h5 S5 e4=>dA.out e4 fun eb ws4 e5=>wpAny_bind (wpAny_standAt (wpAny_pure ?_)))))
 obtain⟨⟨g2,z2⟩,k⟩:=e5;obtain⟨S6,h6⟩:=S5.unprotect h4.n.npr S4.r.sys hc;have hl:(aw [] ea).length<2000:=Nat.lt_of_le_of_lt (iS ea []) (by rw [List.length_nil,Nat.zero_add]; exact Nat.lt_trans z1 (by decide))
 refine wpAny_bind (wpAny_onRaise (wpAny_tryCatch (wpAny_onRaise (wpAny_holding (iU S6 h6 (hv4.mono L2) h5 g2 hl z2 fun s4 da' ep' S7 h7 hv7=>?_)))))
 refine wpAny_pure ?_;dsimp only;refine wpAny_pure ?_;refine wpAny_bind (wpAny_pure ?_);obtain⟨W5,L5,h8,S8⟩:=gx b S7 h7 hv7 (b9 _ _ (b9 _ _ List.nodup_nil));exact wpAny_pure (q W5 _ _ _ σ2 ws4 (L1.trans (L2.trans L5)) h8 S8 k)
theorem mM {ks:List (Option Expr)}{vs:List Expr}{p:Expr×Expr}(h:fk ks vs=some p):ks=[none,none]∧vs=[p.1,p.2]:=by
 unfold fk at h;split at h
 ·split at h
  ·split at h
   ·split at h
    ·cases h; exact⟨rfl,rfl⟩
    ·cases h
   ·cases h
  ·cases h
 ·cases h
theorem re (R:Snd T n r) {ks:List (Option Expr)}{vs:List Expr}{pos:Pos}{K:V→H→Ws→Prop}(e:bv C call r (.Dict ks vs pos) ρ σ ws K) (S:St T W pr env ρ σ s) (r2:an A n) (q:GE T W pr env ρ K Q) :
  wpAny T.M A (eval (.Dict ks vs pos) env) Q E s:=by
 have q':GD T W pr env ρ (C.hint pos) (fun es σ ws=>K (aD (C.hint pos) (.dict es) (.dict es) σ).1 (aD (C.hint pos) (.dict es) (.dict es) σ).2 ws) Q:=fun W' s' es v σ' ws' L h S' k=>q W' s' _ v _ ws' L h S' k
 change nv r ρ ks vs σ ws (fun es σ ws=>K (aD (C.hint pos) (.dict es) (.dict es) σ).1 (aD (C.hint pos) (.dict es) (.dict es) σ).2 ws) at e
 unfold nv at e;cases hp:fk ks vs with
 |some p=>
  rw [hp] at e;obtain⟨rfl,rfl⟩:=mM hp;exact oT R e S r2 q'
 |none=>
  rw [hp] at e;obtain⟨c,e0⟩:=bd.out e;simp only [Bool.and_eq_true] at c;exact oS R c.1.2 (Nat.eq_of_beq_eq_true c.2) (hJ c.1.1) e0 S r2 q'
end
end Mini
set_option maxRecDepth 100000
set_option autoImplicit false
namespace Mini
open PySem PySem.W PyProof.Rows
structure TF4 (T:TS):Prop extends TF3 T where
 tabs:∀c c' P,(c,P)∈T.tabs→(c',P)∈T.tabs→c=c'
 blt:∃bm ob,nsIn T.K mainGlobals "__builtins__" = some (some (.ref bm))∧bm≠builtinsNs∧T.K.lookup bm=some ob∧ob.cls = .type "module" ∧ ob.dict=some builtinsNs∧ob.data = .plain
 nm:∃v,nsIn T.K mainGlobals "__name__" = some (some v)
theorem jr {pos:Pos}{l1 c1:Int}{t1 t2:Tok}{c0:Value}{l:List Value}{c':Value}(h:TriplesOk l) (e:codeAmong pos (l++[.int l1 t1,.int c1 t2,c0])=some c'):codeAmong pos l=some c'∨c'=c0:=by
 fun_induction TriplesOk l with
 |case1=>
  simp only [List.nil_append,codeAmong] at e;split at e
  ·cases e; exact .inr rfl
  ·cases e
 |case2 a ta b tb c rest ih=>
  simp only [List.cons_append,codeAmong] at e ⊢;split at e
  ·rename_i hq; rw [if_pos hq]; exact .inl e
  ·rename_i hq; rw [if_neg hq]; exact ih h e
 |case3 l h1 h2=>exact h.elim
theorem wG {i j:Int}{t u:Tok}{c:Value}{l:List Value}(h:TriplesOk l):TriplesOk (l++[.int i t,.int j u,c]):=by
 fun_induction TriplesOk l with
 |case1=>trivial
 |case2 a ta b tb c rest ih=>exact ih h
 |case3 l h1 h2=>exact h.elim
section
variable {T:TS}{W W':Wd}{pr:Kn}{env:Env}{ρ:P}{σ:H}{s:Shared}{A:Around}{E:Value→Shared→Prop}{n:Nat}{r:cT}{call:ad}{C:ce}
theorem wH (F:TF4 T) (S:St T W pr env ρ σ s) (hl:ff ρ=true) {pos:Pos}{firstLine:Nat}{name qual:Str}{p:Arguments}{scope:Scope}{body:FuncBody}{Q:Value→Shared→Prop}
  (q:∀W' s' c',W.le W'→St T W' pr env ρ σ s'→cL W' c'→Q c' s'):wpAny T.M A (functionCode env pos firstLine name qual p scope body) Q E s:=by
 obtain⟨c,P,hc,hP⟩:=S.f.code hl;have R:=S.r;obtain⟨ps,r⟩:=R.tab c P hP;cases hf:codeAmong pos ps.toList with
 |some c'=>exact wpAny_functionCode_hit hc r.code hf (q W s c' (.refl W) S (r.all pos c' hf))
 |none=>
  have isP:fF T P:=⟨c,hP⟩;obtain⟨Pfz,Ppr⟩:=R.tabfz P isP;refine wpAny_with_toks R.tk.2 (wpAny_functionCodeX hc r.code r.tab hf fun c' h' tk hx hge hlt hok hrec htab _ htk=>?_)
  obtain⟨c2,o,vs,t,e2,ho,hd,hv⟩:=hrec;cases e2;have nw:=R.new (cD hge);have L:=W.le_add (a:=c') (o:=o) (.inl nw.nfz);have keep:∀b,b≠P→∀p,s.heap.get? b=some p→h'.get? b=some p:=fun b hb p e=>hx b p hb e
  have hc':cL (W.add c' o) (.ref c'):=⟨c',o,vs,qual,t,rfl,Wd.add_at _ _ _,hd,hv⟩;have no:∀{b},b∈aU env ρ→b≠P:=fun hb q=>(S.f.own _ hb).ntab (q▸isP)
  refine q (W.add c' o) { s with heap:=h',toks:=tk } _ L ⟨S.f.add (S.noOwn (cD hge)) (fun b hb=>keep b (no hb)) L,R.move L rfl (fun b p z=>if h:b=c' then .inr (h▸⟨nw,by rw [h,Wd.add_at] at z; exact ho.trans z⟩) else .inl ((if_neg h).symm.trans z)) (fun b=>if h:b=P then .inr (.inl (h▸isP)) else .inr (.inr (keep b h))) (fun cc PP h=>?_) rfl rfl htk⟩ hc'
  by_cases hPP:PP=P
  ·subst hPP;have:=F.tabs cc c PP h hP;subst this;obtain⟨m,hm⟩:=r.more;refine⟨_,hok,htab,by rw [Array.toList_append]; exact wG r.tri,⟨m ++ #[rawInt pos.line,rawInt pos.col,.ref c'],by rw [hm,Array.append_assoc]⟩,fun pos' d hd'=>?_⟩
   rw [Array.toList_append] at hd';exact (jr r.tri hd').elim (fun h1=>(r.all pos' d h1).mono L) fun h1=>h1▸hc'
  ·obtain⟨ps2,r2⟩:=R.tab cc PP h;obtain⟨o2,ho2⟩:=T.tabK _ _ h;exact⟨ps2,(r2.at2 (keep cc fun q=>b8 Pfz (q▸R.top _ _ ho2)) (keep PP hPP)).mono L.fz⟩
theorem mN (F:TF4 T) (R:aI T W pr σ s) {running:Addr}{Q:Addr→Shared→Prop}(q:Q builtinsNs s):wpAny T.M A (builtinsFor mainGlobals running) Q E s:=by
 obtain⟨bm,ob,h1,h2,h3,h4,h5,h6⟩:=F.blt;have ho:=R.K _ _ h3;unfold builtinsFor;refine wpAny_bind ((looks_nsIn R.K h1).here ?_);dsimp only;rw [if_neg (by simpa using h2)]
 refine wpAny_bind (wpAny_load ho ?_);rw [h6,h5,h4];dsimp only;rw [if_pos (by decide)]
 exact wpAny_pure q
noncomputable abbrev ln (name qual:Str) (params:Arguments) (body:FuncBody) (scope:Scope) (clos:List (Str×Addr)) (ctv cd pm doc:Value):FuncData:=
 { name,qualname:=qual,params,body,scope,globals:=mainGlobals,closure:=clos,closureTuple:=ctv,code:=cd,builtins:=builtinsNs,defaults:=.none,kwdefaults:=.none,annotations:=none,pyModule:=pm,doc }
theorem qr (F:TF4 T) (S:St T W pr env ρ σ s) (hl:ff ρ=true) {pos:Pos}{firstLine:Nat}{name qual:Str}{params:Arguments}{scope:Scope}{body:FuncBody}{clos:List (Str×Addr)}{Q:Value→Shared→Prop}(hcl:closureFor scope env=pure clos)
  (q:∀W' s' f cd ctv pm doc,W.le W'→St T W' pr env ρ σ s'→cL W' cd→bG T W' pr env ρ s' f ⟨.type "function",none,.func (ln name qual params body scope clos ctv cd pm doc),#[]⟩→Q (.ref f) s') :
  wpAny T.M A (makeFunction name qual params body scope env [] [] [] pos firstLine) Q E s:=by
 rw [makeFunction_eq];simp only [List.zip_nil_right,List.filterMap_nil,List.isEmpty_nil,if_true,pure_bind];unfold makeTail;rw [hcl,S.f.glb];refine wpAny_bind (wpAny_pure ?_);have tail:∀(ctv:Value) (s1:Shared),St T W pr env ρ σ s1→wpAny T.M A (do
   let cd ←functionCode env pos firstLine name qual params scope body
   let b ←builtinsFor mainGlobals env.builtins
   let pm ←nsGet mainGlobals "__name__"
   let doc ←match body with
    |.stmts b=>(match docOf b with | some s=>mkText s | none=>pure .none)
    |.expr _=>pure .none
   newObj (.type "function") (.func { name,qualname:=qual,params,body,scope,globals:=mainGlobals,closure:=clos,closureTuple:=ctv,code:=cd,builtins:=b,defaults:=.none,kwdefaults:=.none,annotations:=none,pyModule:=pm.getD .none,doc })) Q E s1:=by
  intro ctv s1 S1;refine wpAny_bind (wH F S1 hl fun W2 s2 cd L2 S2 hcd=>?_)
  refine wpAny_bind (mN F S2.r ?_);obtain⟨v,hv⟩:=F.nm;refine wpAny_bind ((looks_nsIn S2.r.K hv).here ?_);have fin:∀(doc:Value) (s3:Shared),St T W2 pr env ρ σ s3→wpAny T.M A (newObj (.type "function") (.func (ln name qual params body scope clos ctv cd ((some v).getD .none) doc))) Q E s3:=fun doc s3 S3=>by
   refine wpAny_newObj_type ?_ (by size_fits)
   obtain⟨S4,h4⟩:=S3.hold (s':={ s3 with heap:=s3.heap.push ⟨.type "function",none,.func (ln name qual params body scope clos ctv cd ((some v).getD .none) doc),#[]⟩ }) (o:=⟨.type "function",none,.func (ln name qual params body scope clos ctv cd ((some v).getD .none) doc),#[]⟩) (be.push s3 _) (az _) (Heap.get?_push_size _ rfl)
   exact q W2 _ _ cd ctv _ doc L2 S4 hcd h4
  cases body with
  |expr e=>exact wpAny_bind (wpAny_pure (fin .none s2 S2))
  |stmts b=>
   dsimp only;cases docOf b with
   |none=>exact wpAny_bind (wpAny_pure (fin .none s2 S2))
   |some t=>exact wpAny_bind (wpAny_mkText (fin _ _ S2.tok))
 cases clos with
 |nil=>
  simp only [List.isEmpty_nil,if_true];exact wpAny_bind (wpAny_pure (tail .none s S))
 |cons c r=>
  simp only [List.isEmpty_cons,Bool.false_eq_true,if_false];exact wpAny_bind (wpAny_newTextTuple (tail _ _ (S.grow (be.push s _))))
end
end Mini
set_option maxRecDepth 100000
set_option autoImplicit false
namespace Mini
open PySem PySem.W PyProof.Rows
section
variable {T:TS}{W W':Wd}{pr:Kn}{env:Env}{ρ:P}{σ:H}{s:Shared}{A:Around}{E:Value→Shared→Prop}{n:Nat}{r:cT}{call:ad}{C:ce}{ws:Ws}
theorem iV {nm:Str}{o:Option V}(h:cJ nm ρ=some o):∃sl∈ρ,sl.name=nm∧hZ sl.kind=true∧sl.val=o:=
 ai h fun sl h1 h2=>⟨sl,List.mem_of_find?_eq_some h1,sEq_iff.mp (List.find?_some (p:=fun s:Slot=>cF s.name nm) h1),by
  cases hk:hZ sl.kind with
  |true=>rw [hk] at h2; exact⟨rfl,Option.some.inj h2⟩
  |false=>rw [hk] at h2; exact ac h2⟩
theorem j0 (S:St T W pr env ρ σ s) {nm:Str}{v:V}(h:cJ nm ρ=some (some v)):∃c y,env.cells.lookup nm=some c∧cW W c y∧VR T.P W v y:=by
 obtain⟨m,hn,hs⟩:=S.f.fr;obtain⟨sl,hm,rfl,hk,hv⟩:=iV h;have xx:=hs sl hm
 induction xx with
 |once _ l e r=>exact⟨_,_,l,e,Option.some.inj hv▸r⟩
 |once0=>exact ac hv
 |_=>exact absurd hk Bool.false_ne_true
theorem oU (S:St T W pr env ρ σ s) {nm:Str}(h:lC nm ρ=true):(⟨nm,.once,none⟩:Slot)∈ρ∧∃c,env.cells.lookup nm=some c:=by
 obtain⟨m,hn,hs⟩:=S.f.fr;have h:(match cJ nm ρ with | some o=>o.isNone | none=>false)=true:=h
 cases q:cJ nm ρ with
 |none=>rw [q] at h; exact absurd h Bool.false_ne_true
 |some o=>
  rw [q] at h;obtain⟨sl,hm,rfl,hk,hv⟩:=iV (q.trans (congrArg some (Option.isNone_iff_eq_none.mp h)));have xx:=hs sl hm
  induction xx with
  |once0 _ l=>exact⟨hm,_,l⟩
  |once=>exact ac hv.symm
  |_=>exact absurd hk Bool.false_ne_true
theorem j1 {x:Str×NameKind}{rest:List (Str×NameKind)}{caps:List (Str×V)}{G:Prop}(e:co ρ (x::rest)=some caps) (h1:∀v cs,x.2 = .free→cJ x.1 ρ=some (some v)→co ρ rest=some cs→(x.1,v)::cs=caps→G) (h2:x.2≠.free→co ρ rest=some caps→G):G:=by
 have e:(match np x.2 with | true=>(cJ x.1 ρ).bind fun o=>o.bind fun v=>(co ρ rest).map ((x.1,v) :: ·) | false=>co ρ rest)=some caps:=e
 obtain⟨nm,k⟩:=x;cases k with
 |free=>exact ai e fun o h3 e=>ai e fun v h4 e=>let ⟨cs,e1,e2⟩:=Option.map_eq_some_iff.mp e; h1 v cs rfl (h3.trans (congrArg some h4)) e1 e2
 |_=>exact h2 nofun e
theorem dI (S:St T W pr env ρ σ s):∀{names:List (Str×NameKind)}{caps:List (Str×V)},co ρ names=some caps→∀x∈names,x.2 = .free→∃c,env.cells.lookup x.1=some c
 |_::_,_,e,x,hx,hf=>j1 e (fun _ _ _ h e1 _=>(List.mem_cons.mp hx).elim (fun q=>let ⟨c,_,l,_⟩:=j0 S h; ⟨c,q▸l⟩) fun hx=>dI S e1 x hx hf) fun n e1=>(List.mem_cons.mp hx).elim (fun q=>absurd (q▸hf) n) fun hx=>dI S e1 x hx hf
theorem fW (S:St T W pr env ρ σ s) {all:List (Str×NameKind)}(nd:(all.map (·.1)).Nodup):∀{names:List (Str×NameKind)}{caps:List (Str×V)},co ρ names=some caps→(∀x∈names,x∈all)→lA T.P W caps (bn env all [])
 |[],_,e,_=>Option.some.inj e▸trivial
 |x::rest,caps,e,hsub=>j1 e (fun v cs hf h e1 e2=>e2▸⟨let ⟨c,y,h1,h2,h3⟩:=j0 S h; ⟨c,y,dH h1 nd (hf▸hsub x List.mem_cons_self),h2,h3⟩,fW S nd e1 fun x hx=>hsub x (List.mem_cons_of_mem _ hx)⟩) fun _ e1=>fW S nd e1 fun x hx=>hsub x (List.mem_cons_of_mem _ hx)
theorem dL {a:Arguments}(h:f9 a=true):a.defaults=[]∧a.kw_defaults=[]∧a.posonlyargs=[]∧a.kwonlyargs=[]∧a.vararg=none∧a.kwarg=none∧∀x∈a.args,x.annotation=none:=by
 have h:=Bool.and_eq_true_iff.mp h;have h1:=Bool.and_eq_true_iff.mp h.1;have h2:=Bool.and_eq_true_iff.mp h1.1;have h3:=Bool.and_eq_true_iff.mp h2.1;have h4:=Bool.and_eq_true_iff.mp h3.1;have h5:=Bool.and_eq_true_iff.mp h4.1;exact⟨List.isEmpty_iff.mp h5.1,List.isEmpty_iff.mp h5.2,List.isEmpty_iff.mp h4.2,List.isEmpty_iff.mp h3.2,Option.isNone_iff_eq_none.mp h2.2,Option.isNone_iff_eq_none.mp h1.2,fun x hx=>Option.isNone_iff_eq_none.mp (List.all_eq_true.mp h.2 x hx)⟩
theorem mO {a:Arguments}(h1:a.defaults=[]) (h2:a.kw_defaults=[]):defaultsOf a env=([],[]):=by
 obtain⟨p1,p2,p3,p4,p5,p6,p7⟩:=a;dsimp only at h1 h2;subst h1 h2;rfl
theorem mP {K:V→H→Ws→Prop}(F:TF4 T) (hC:T.C=C) {args:Arguments}{body:Expr}{scope:Scope}{pos:Pos}{Q:Value→Shared→Prop}(e:bv C call r (.Lambda args body scope pos) ρ σ ws K) (S:St T W pr env ρ σ s) (q:GE T W pr env ρ K Q) :
  wpAny T.M A (eval (.Lambda args body scope pos) env) Q E s:=by
 subst hC;obtain⟨g,e0⟩:=bd.out e;obtain⟨g,g3⟩:=Bool.and_eq_true_iff.mp g;obtain⟨g1,g2⟩:=Bool.and_eq_true_iff.mp g;obtain⟨a1,a2,a3,a4,a5,a6,a7⟩:=dL g2;have nd:=bt g3;refine bo.out e0 fun caps e1 e2=>?_
 have hcl:closureFor scope env=pure (bn env scope.names []):=cX (dI S e1);have hcaps:=fW S nd e1 fun x hx=>hx
 have ev0:eval (.Lambda args body scope pos) env=(do
  let (d,kd):=defaultsOf args env
  let dv ←evalAll d
  let kdv ←holding dv (evalAllOpt kd)
  makeFunction "<lambda>" (env.qual ++ "<lambda>") args (.expr body) scope env dv kdv [] pos pos.line):=rfl
 rw [ev0,mO a1 a2];refine wpAny_bind (wpAny_pure (wpAny_bind (wpAny_holding (wpAny_pure ?_))));refine qr F S g1 hcl fun W1 s1 f cd ctv pm doc L1 S1 hcd hH=>?_
 cases hh:T.C.hint pos with
 |true=>
  rw [hh] at e2;have k:=(bd.out e2).2;have L:W1.le ⟨W1.phi++[f],W1.fz,W1.tk⟩:=⟨⟨[_],rfl⟩,fun _ _ e=>e,Nat.le_refl _⟩
  obtain⟨S2,_⟩:=S1.give hH (x:=.fobj none) ⟨_,rfl⟩;refine q _ _ _ _ _ ws (L1.trans L) (.mkR ?_) S2 k;rw [←S1.r.len,List.getElem?_append_right (Nat.le_refl _),Nat.sub_self]; rfl
 |false=>
  rw [hh] at e2;obtain⟨S2,L2⟩:=S1.still hH;refine q _ _ _ _ _ ws (L1.trans L2) ?_ S2 e2;exact⟨f,_,rfl,⟨⟨_,_,Wd.add_at _ _ _⟩,rfl,⟨a3,a5,a4,a6⟩,rfl,rfl,rfl,rfl,rfl,hcd.mono L2,fun x h=>by cases h⟩,lA.mono (L1.trans L2) _ _ hcaps⟩
end
end Mini
set_option maxRecDepth 100000
set_option autoImplicit false
namespace Mini
open PySem PySem.W PyProof.Rows
section
variable {T:TS}{W W':Wd}{pr:Kn}{env:Env}{ρ:P}{σ:H}{s:Shared}{A:Around}{E:Value→Shared→Prop}{n:Nat}{r:cT}{call:ad}{C:ce}{ws:Ws}
theorem uo {nm:Str}{names:List (Str×NameKind)}{caps:List (Str×V)}(e:pd nm ρ names=some caps) (S:St T W pr env ρ σ s) (nd:(names.map (·.1)).Nodup) :
  (∀x∈names,x.2 = .free→x.1≠nm→∃c,env.cells.lookup x.1=some c)∧lA T.P W caps (bn env names []):=by
 exact⟨fun x hx hf hne=>dI S e x (List.mem_filter.mpr ⟨hx,by
  cases h:cF x.1 nm with
  |false=>rfl
  |true=>exact absurd (sEq_iff.mp h) hne⟩) hf,fW S nd e fun x hx=>(List.mem_filter.mp hx).1⟩
theorem iW:∀{l:List Arg},(∀x∈l,x.annotation=none)→∀env,annotationsOf l env=[]
 |[],_,_=>rfl
 |⟨nm,a,p⟩::r,h,env=>by
  have:=h _ List.mem_cons_self;dsimp only at this;subst this;exact iW (fun x hx=>h x (List.mem_cons_of_mem _ hx)) env
theorem lq {name:Str}{names:List (Str×NameKind)}(h:lD name names=true):(name,NameKind.free)∈names:=by
 obtain⟨⟨x,k⟩,hx,h9⟩:=List.any_eq_true.mp h;obtain⟨h9,h10⟩:=Bool.and_eq_true_iff.mp h9;rw [sEq_iff] at h9;subst h9;cases k <;> first | exact hx | cases h10
theorem mQ {args:Arguments}(a3:args.posonlyargs=[]) (a4:args.kwonlyargs=[]) (a5:args.vararg=none) (a6:args.kwarg=none) (a7:∀x∈args.args,x.annotation=none):((match args with
    |⟨po,a,va,ko,_,kwa,_⟩=>annotationsOf (a++po++va.toList++ko++kwa.toList) env)++((evalOpt none env).map ((("return" : Str),·))).toList)=[]:=by
 obtain⟨p1,p2,p3,p4,p5,p6,p7⟩:=args;dsimp only at a3 a4 a5 a6 a7 ⊢;subst a3 a4 a5 a6;simp only [List.append_nil,Option.toList_none];rw [iW a7]; rfl
theorem uq {K:Fl→P→H→Ws→Prop}(F:TF4 T) {name bnd:Str}{args:Arguments}{body:List Stmt}{decos:List Expr}{rets:Option Expr}{tps:List TypeParam}{scope:Scope}{tsc:Option Scope}{pos:Pos}{Q:Flow→Shared→Prop}
  (e:dU C call r (.FunctionDef name args body decos rets tps scope tsc bnd pos) ρ σ ws K) (S:St T W pr env ρ σ s) (q:GS T W pr env K Q):wpAny T.M A (exec (.FunctionDef name args body decos rets tps scope tsc bnd pos) env) Q E s:=by
 obtain⟨g,e0⟩:=bd.out e;simp only [Bool.and_eq_true,List.isEmpty_iff,Option.isNone_iff_eq_none] at g;obtain⟨⟨⟨⟨⟨⟨⟨⟨g1,g2⟩,g3⟩,rfl⟩,rfl⟩,rfl⟩,g7⟩,g8⟩,g9⟩:=g;rw [sEq_iff] at g7;subst g7;obtain⟨a1,a2,a3,a4,a5,a6,a7⟩:=dL g2;have nd:=bt g3;refine bo.out e0 fun caps e1 e2=>?_
 obtain⟨hmem,cn,hcn⟩:=oU S g8;refine bo.out e2 fun ρ1 e3 kk=>?_
 obtain⟨rfl,_⟩:=mc S.f.names e3;obtain⟨hc1,hcaps⟩:=uo e1 S nd;have hcl:closureFor scope env=pure (bn env scope.names []):=cX fun x hx hf=>by
  by_cases hne:x.1=name
  ·exact⟨cn,by rw [hne]; exact hcn⟩
  ·exact hc1 x hx hf hne
 rw [arm_exec_FunctionDef];unfold defStmt;dsimp only;rw [if_neg (by simp)]
 refine wpAny_bind (wpAny_pure (wpAny_bind (wpAny_standAt (wpAny_bind (wpAny_holding ?_)))));rw [mO a1 a2];refine wpAny_bind (wpAny_pure (wpAny_bind (wpAny_holding (wpAny_pure (wpAny_holding ?_)))));have h0:wpAny T.M A (do
   let ann ←evalNamed ((match (generalizing:=false) args with
    |⟨po,a,va,ko,_,kwa,_⟩=>annotationsOf (a++po++va.toList++ko++kwa.toList) env)++((evalOpt none env).map ((("return" : Str),·))).toList)
   makeFunction name (qualnameIn env name name) args (.stmts body) scope env [] [] ann pos pos.line) (fun f s1=>wpAny T.M A (bindName env name f) (fun _ s2=>Q .next s2) E s1) E s:=by
  rw [mQ a3 a4 a5 a6 a7];refine wpAny_bind (wpAny_pure (qr F S g1 hcl fun W1 s1 f cd ctv pm doc L1 S1 hcd hH=>?_))
  obtain⟨S2,L2⟩:=S1.still hH;refine wpAny_bindName (jK S2 hmem (fun c oc hc hnew hoc=>?_) fun W3 s3 L3 S3=>q W3 s3 .next .next _ σ ws (L1.trans (L2.trans L3)) rfl S3 kk)
  have L3:=(W1.add f _).le_add (a:=c) (o:=oc) (.inl hnew.nfz);refine⟨f,_,rfl,⟨⟨_,_,L3.fz _ _ (Wd.add_at _ _ _)⟩,rfl,⟨a3,a5,a4,a6⟩,rfl,rfl,rfl,rfl,rfl,(hcd.mono L2).mono L3,fun x h=>?_⟩,lA.mono ((L1.trans L2).trans L3) _ _ hcaps⟩
  cases h;exact⟨c,dH hc nd (lq g9),oc,Wd.add_at _ _ _,hoc⟩
 refine wpAny_mono h0 (fun f s1 h1=>?_) fun _ _ z=>z
 refine wpAny_bind (wpAny_pure (wpAny_bind (wpAny_standAt (wpAny_bind (wpAny_mono h1 (fun _ s2 h2=>wpAny_pure h2) fun _ _ z=>z)))))
end
end Mini
set_option maxRecDepth 100000
set_option autoImplicit false
namespace Mini
open PySem PySem.W PyProof.Rows
section
variable {P0:Params}{W:Wd}
@[elab_as_elim] theorem cP.nl {M:List (Str×Value)→Prop}{ys:List (Str×Value)}(h:cP P0 W [] ys) (k:M []):M ys:=by cases h; exact k
@[elab_as_elim] theorem cP.cs {M:List (Str×Value)→Prop}{n:Str}{x:V}{xs:List (Str×V)}{ys:List (Str×Value)}(h:cP P0 W ((n,x)::xs) ys) (k:∀y r,VR P0 W x y→cP P0 W xs r→M ((n,y)::r)):M ys:=by
 cases h with
 |cons h1 h2=>exact k _ _ h1 h2
theorem cP.app {us:List (Str×V)}{vs:List (Str×Value)}(h':cP P0 W us vs) {xs:List (Str×V)}{ys:List (Str×Value)}(h:cP P0 W xs ys):cP P0 W (xs++us) (ys++vs):=by
 induction h with
 |nil=>exact h'
 |cons h1 _ ih=>exact .cons h1 ih
theorem cP.one {n:Str}{x:V}{y:Value}(h:VR P0 W x y):cP P0 W [(n,x)] [(n,y)]:=.cons h .nil
theorem cP.zip:∀{ns:List Str}{xs:List V}{ys:List Value},aB P0 W xs ys→cP P0 W (ns.zip xs) (ns.zip ys)
 |[],_,_,_=>.nil
 |_::_,[],_,h=>h.nl .nil
 |_::_,_::_,_,h=>h.cs fun _ _ h1 h2=>.cons h1 (cP.zip h2)
end
theorem e8 {α β:Type}{b:β}(f:α→β→Sem (ForInStep β)):∀(l:List α),(∀x∈l,f x b=pure (.yield b))→forIn l b f=pure b
 |[],_=>rfl
 |x::l,h=>by rw [List.forIn_cons,h x List.mem_cons_self,pure_bind]; exact e8 f l fun y hy=>h y (List.mem_cons_of_mem _ hy)
theorem e9 {α:Type}{k:Str}:∀{l:List (Str×α)},k∉l.map (·.1)→l.lookup k=none
 |[],_=>rfl
 |(n,v)::r,h=>have h:=not_or.mp fun q=>h (List.mem_cons.mpr q); List.lookup_cons.trans (by rw [beq_false_of_ne h.1]; exact e9 h.2)
theorem gy {α:Type}{k:Str}:∀{l:List (Str×α)},k∈l.map (·.1)→(l.lookup k).isNone=false
 |(n,v)::r,h=>by
  rw [List.lookup_cons];cases q:k==n with
  |true=>rfl
  |false=>exact gy ((List.mem_cons.mp h).resolve_left (ne_of_beq_false q))
theorem iX {α:Type}:∀(l:List (Str×α)),(l.map (·.1)).Nodup→((l.map (·.1)).filterMap fun n=>(l.lookup n).map (n,·))=l
 |[],_=>rfl
 |(k,v)::r,nd=>by
  have nd:=List.nodup_cons.mp nd;rw [List.map_cons,List.filterMap_cons,List.lookup_cons,beq_self_eq_true];refine congrArg ((k,v) :: ·) ((iG fun n hn=>?_).trans (iX r nd.2))
  rw [List.lookup_cons,beq_false_of_ne fun q:n=k=>nd.1 (q▸hn)]
inductive AR (normal:List Str) (rest:Bool):List Str→List (Str×V)→List (Str×V)→List (Str×V)→Prop
 |none:AR normal rest [] [] [] []
 |one {k:Str}{v:V}:AR normal rest [k] [(k,v)] [(k,v)] []
 |more {k:Str}{v:V}(hr:rest=true) (hn:k∉normal):AR normal rest [] [(k,v)] [] [(k,v)]
theorem zk {normal kwonly:List Str}{rest:Bool}{kw:List (Str×V)}{p:List (Str×V)×List (Str×V)}(e:A6 normal kwonly rest kw=some p):AR normal rest kwonly kw p.1 p.2:=by
 match kw,kwonly,e with
 |[],[],e=>exact Option.some.inj e▸.none
 |[(k,v)],[],e=>
  have e:(match rest && !ia k normal with | true=>some ([],[(k,v)]) | false=>none)=some p:=e
  cases q:rest && !ia k normal with
  |false=>rw [q] at e; exact ac e
  |true=>
   rw [q] at e;have q:=Bool.and_eq_true_iff.mp q;exact Option.some.inj e▸.more q.1 fun m=>Bool.false_ne_true ((congrArg not (memS_iff.mpr m)).symm.trans q.2)
 |[(k,v)],[n],e=>
  exact eg (k:=n) (n:=k) (M:=fun z=>z=some p→AR normal rest [n] [(k,v)] p.1 p.2) (fun h e1=>by cases h; exact Option.some.inj e1▸.one) (fun _ e=>ac e) e
section
variable {M:Model}{A:Around}{E:Value→Shared→Prop}{s:Shared}
theorem bc {α:Type}{m:Sem α}{x:α}{Q:α→Shared→Prop}(h:m=pure x) (q:Q x s):wpAny M A m Q E s:=h▸wpAny_pure q
noncomputable abbrev bB (fd:FuncData):List Str:=fd.params.posonlyargs.map (·.arg)++fd.params.args.map (·.arg)
noncomputable abbrev dM (fd:FuncData):List Str:=fd.params.kwonlyargs.map (·.arg)
theorem lr {fd:FuncData}{pos:List Value}{kw a b:List (Str×Value)}{Q:List (Str×Value)→Shared→Prop}
  (hD:∀(Q:Option (Array Value)→Shared→Prop),(∀d,Q d s)→wpAny M A (seqItems? fd.defaults) Q E s) (hv:fd.params.vararg=none)
  (hl:pos.length=(bB fd).length) (nd:(bB fd++dM fd).Nodup) (ha:a.map (·.1)=dM fd)
  (go:∀f:Str×Value→List (Str×Value)×List (Str×Value)→Sem (ForInStep (List (Str×Value)×List (Str×Value))),(∀k v,k∈dM fd→f (k,v) ((bB fd).zip pos,[])=pure (.yield ((bB fd).zip pos++[(k,v)],[]))) →
   (∀k v,k∉bB fd→k∉dM fd→fd.params.kwarg.isSome=true→f (k,v) ((bB fd).zip pos,[])=pure (.yield ((bB fd).zip pos,[(k,v)])))→forIn kw ((bB fd).zip pos,[]) f=pure ((bB fd).zip pos++a,b))
  (q:match fd.params.kwarg with
   |none=>Q ((bB fd).zip pos++a) s
   |some x=>b.length≤sizeLine∧wpAny M A (do
     let d ←alloc { cls:=.type "dict",data:=.dict #[] }
     for (k,v) in b do nsSet d k v
     pure (Value.ref d)) (fun d s'=>Q ((bB fd).zip pos++a++[(x.arg,d)]) s') E s) :
  wpAny M A (bindArgs fd ⟨pos,kw⟩) Q E s:=by
 have hS:((bB fd).zip pos).map (·.1)=bB fd:=List.map_fst_zip (Nat.le_of_eq hl.symm);have names:((bB fd).zip pos++a).map (·.1)=bB fd++dM fd:=by rw [List.map_append,hS,ha]
 have bound:∀n,n∈bB fd++dM fd→¬(((bB fd).zip pos++a).lookup n).isNone=true:=fun n h=>by rw [gy (names▸h)]; exact Bool.false_ne_true
 have told:=iX _ (names.symm▸nd);rw [names] at told;have off:∀k,k∈dM fd→¬(((bB fd).zip pos).lookup k).isSome=true:=fun k h=>by
  rw [e9 (hS.symm▸fun m=>(List.nodup_append.mp nd).2.2 _ m _ h rfl)]; exact Bool.false_ne_true
 unfold bindArgs;refine wpAny_bind (bc (go _ (fun k v hm=>(if_pos (Bool.or_eq_true_iff.mpr (.inr (List.contains_iff_mem.mpr hm)))).trans (if_neg (off k hm)))
  fun k v h1 h2 h3=>(if_neg fun h=>(Bool.or_eq_true_iff.mp h).elim (fun h=>h1 (List.mem_append_right _ (List.contains_iff_mem.mp h))) fun h=>h2 (List.contains_iff_mem.mp h)).trans (if_pos h3)) (wpAny_bind (hD _ fun d=>?_)))
 refine aX (fun h=>Nat.lt_irrefl _ (hl▸of_decide_eq_true (Bool.and_eq_true_iff.mp h).1)) (aX (fun h=>?_) ?_)
 ·rw [List.filter_eq_nil_iff.mpr fun n h=>bound n (List.mem_append_left _ (List.mem_of_mem_take h))] at h
  exact Bool.false_ne_true h
 refine wpAny_bind (bc (e8 _ _ fun x hx=>if_neg (bound x.1 (List.mem_append_left _ (List.mem_of_mem_drop (List.of_mem_zip hx).1)))) ?_)
 refine wpAny_bind (bc (e8 _ _ fun n h=>if_neg (bound n (List.mem_append_right _ h))) (aX Bool.false_ne_true ?_))
 dsimp only;rw [hv,told];cases hk:fd.params.kwarg with
 |none=>rw [hk] at q; exact wpAny_pure q
 |some x=>
  rw [hk] at q;refine aX (Nat.not_lt.mpr (Nat.le_succ_of_le q.1)) ?_;have:=wpAny_bind (f:=fun d=>pure (((bB fd).zip pos++a)++[(x.arg,d)])) (wpAny_mono q.2 (fun d s' h=>wpAny_pure h) fun _ _ z=>z)
  simpa only [bind_assoc,pure_bind] using this
end
noncomputable def zl (K:Frag) (v:Value):Prop:=∃t o ep,v = .ref t∧K.lookup t=some o∧o.data = .seq #[.none] ep
noncomputable def qu (K:Frag) (v:Value):Prop:=v = .none∨∃t o vs ep,v = .ref t∧K.lookup t=some o∧o.data = .seq vs ep
section
variable {T:TS}{W W':Wd}{pr:Kn}{env:Env}{ρ:P}{σ:H}{s:Shared}{A:Around}{E:Value→Shared→Prop}
theorem rg {es:List (List Nat×V)}{b:List (Str×V)}{b':List (Str×Value)}{Q:Value→Shared→Prop}(R:aI T W pr σ s) (hb:b=[]∧b'=[]∨∃k v y,b=[(k,v)]∧b'=[(k,y)]∧VR T.P W v y) (he:es=b.map fun e=>(e.1.cps.toList,e.2))
  (q:∀W' s' v',W.le W'→aI T W' pr σ s'→VR T.P W' (.dict es) v'→Q v' s'):wpAny T.M A (do
     let d ←alloc { cls:=.type "dict",data:=.dict #[] }
     for (k,v) in b' do nsSet d k v
     pure (Value.ref d)) Q E s:=by
 have N:=R.new (az s.heap);have R1:=R.grow (be.push s { cls:=.type "dict",data:=.dict #[] });have fin:∀(s':Shared) (ds:List DictEntry) (ep:Nat),aI T W pr σ s'→s'.heap.get? s.heap.objs.size=some (ax ds ep)→aO T.P W es ds→(es.map (·.1)).Nodup→Q (.ref s.heap.objs.size) s':=fun s' ds ep R2 hd hr hn=>
  let ⟨R3,L3⟩:=R2.freeze N hd
  q _ _ _ L3 R3 (by exact⟨_,ds,ep,rfl,Wd.add_at _ _ _,aO.mono L3 _ _ hr,hn⟩)
 refine wpAny_bind (wpAny_alloc ?_);rcases hb with ⟨rfl,rfl⟩ | ⟨k,v,y,rfl,rfl,h1⟩
 ·exact wpAny_bind (wpAny_pure (wpAny_pure (fin _ [] 0 R1 (Heap.get?_push_size _ rfl) (he▸rfl) (he▸List.nodup_nil))))
 ·rw [List.forIn_cons];refine wpAny_bind (wpAny_bind (wpAny_bind ?_));dsimp only;rw [←gp k];exact fO (ds:=[]) (Heap.get?_push_size _ rfl) aO.nil h1 fun h' ds' ep' hs' hd' hr'=>wpAny_pure (wpAny_pure (wpAny_pure (fin _ ds' ep' (R1.own (s':={ s with heap:=h',toks:=s.toks+1 }) N (fun b hb p e=>(hs'.2 b hb).trans e) rfl rfl (Nat.le_succ _)) hd' (he▸hr') (he▸List.pairwise_singleton _ _))))
theorem fX {fd:FuncData}{args:List V}{kw binds:List (Str×V)}{pos:List Value}{kw':List (Str×Value)}{Q:List (Str×Value)→Shared→Prop}(e:pb fd.params args kw=some binds) (D:qu T.K fd.defaults)
  (R:aI T W pr σ s) (h:aB T.P W args pos) (hk:cP T.P W kw kw') (q:∀W' s' bs,W.le W'→aI T W' pr σ s'→cP T.P W' binds bs→Q bs s'):wpAny T.M A (bindArgs fd ⟨pos,kw'⟩) Q E s:=by
 have e0:(match fd.params.posonlyargs.isEmpty&&fd.params.vararg.isNone&&Nat.beq (fd.params.args.map (·.arg)).length args.length&&br (fd.params.args.map (·.arg)++dM fd) with
  |false=>none | true=>(A6 (fd.params.args.map (·.arg)) (dM fd) fd.params.kwarg.isSome kw).map fun x=>(fd.params.args.map (·.arg)).zip args++x.1++nj fd.params.kwarg x.2)=some binds:=e
 cases g:fd.params.posonlyargs.isEmpty&&fd.params.vararg.isNone&&Nat.beq (fd.params.args.map (·.arg)).length args.length&&br (fd.params.args.map (·.arg)++dM fd) with
 |false=>rw [g] at e0; exact ac e0
 |true=>
 rw [g] at e0;have g:=Bool.and_eq_true_iff.mp g;have g2:=Bool.and_eq_true_iff.mp g.1;have g3:=Bool.and_eq_true_iff.mp g2.1;have hp:bB fd=fd.params.args.map (·.arg):=congrArg (fun l=>List.map (fun x:Arg=>x.arg) l++fd.params.args.map (·.arg)) (List.isEmpty_iff.mp g3.1)
 rw [←hp] at e0 g g2;obtain⟨⟨a,b⟩,e1,e2⟩:=Option.map_eq_some_iff.mp e0;have hz:=cP.zip (ns:=bB fd) h;have fin:∀a' b',cP T.P W a a'→(b=[]∧b'=[]∨∃k v y,b=[(k,v)]∧b'=[(k,y)]∧VR T.P W v y)→match fd.params.kwarg with
   |none=>Q ((bB fd).zip pos++a') s
   |some x=>b'.length≤sizeLine∧wpAny T.M A (do
     let d ←alloc { cls:=.type "dict",data:=.dict #[] }
     for (k,v) in b' do nsSet d k v
     pure (Value.ref d)) (fun d s'=>Q ((bB fd).zip pos++a'++[(x.arg,d)]) s') E s:=fun a' b' ka kb=>by
  have hz:=ka.app hz;have e2:(bB fd).zip args++a++nj fd.params.kwarg b=binds:=e2;cases hkw:fd.params.kwarg with
  |none=>rw [hkw] at e2; exact q W s _ (.refl W) R (e2▸(List.append_nil _).symm▸hz)
  |some x=>
   rw [hkw] at e2;exact⟨by rcases kb with ⟨_,rfl⟩ | ⟨_,_,_,_,rfl,_⟩; exact Nat.zero_le _; exact (by decide:1≤sizeLine),rg R kb rfl fun W' s' v' L R' hv=>q W' s' _ L R' (e2▸(cP.one hv).app (cP.mono L hz))⟩
 have hl:pos.length=(bB fd).length:=h.length.symm.trans (Nat.eq_of_beq_eq_true g2.2).symm;have go:=@lr T.M A E s fd pos kw' (Q:=Q) (hv:=Option.isNone_iff_eq_none.mp g3.2) (hl:=hl) (nd:=bt g.2)
  (hD:=D.elim (fun z _ q=>z▸wpAny_bind (wpAny_pure (wpAny_pure (q _)))) fun⟨t,o,vs,ep,z1,z2,z3⟩ _ q=>z1▸wpAny_seqItems (R.fzIn _ _ (R.top _ _ z2)) z3 (q _))
 generalize dM fd=ks at e1 go;generalize bB fd=ps at e1 go fin;clear e e0 e2 q g g2 hz hl;have kc:=zk e1;dsimp only at kc;clear e1;revert go
 induction kc with
 |none=>exact hk.nl fun go=>go (a:=[]) (b:=[]) rfl (fun f _ _=>by rw [List.append_nil]; rfl) (fin [] [] .nil (.inl ⟨rfl,rfl⟩))
 |one=>exact hk.cs fun y r h1 h2=>h2.nl fun go=>go (a:=[(_,y)]) (b:=[]) rfl (fun f g _=>by rw [List.forIn_cons,g _ _ List.mem_cons_self,pure_bind]; rfl) (fin _ [] (.one h1) (.inl ⟨rfl,rfl⟩))
 |more hr hn=>exact hk.cs fun y r h1 h2=>h2.nl fun go=>go (a:=[]) (b:=[(_,y)]) rfl (fun f _ g=>by rw [List.forIn_cons,g _ _ hn nofun hr,pure_bind,List.append_nil]; rfl) (fin [] _ .nil (.inr ⟨_,_,y,rfl,rfl,h1⟩))
theorem js {fd:FuncData}{ps:List Str}{x:Str}{pos:List Value}{Q:List (Str×Value)→Shared→Prop}(hD:∀(Q:Option (Array Value)→Shared→Prop),Q (some #[.none]) s→wpAny T.M A (seqItems? fd.defaults) Q E s)
  (hv:fd.params.vararg=none) (hk:fd.params.kwarg=none) (hko:dM fd=[]) (hp:bB fd=ps++[x]) (hl:ps.length=pos.length) (nd:(ps++[x]).Nodup) (q:Q ((ps++[x]).zip (pos++[.none])) s):wpAny T.M A (bindArgs fd ⟨pos,[]⟩) Q E s:=by
 have z:(ps++[x]).zip pos=ps.zip pos:=by
  have:=List.zip_append (l₁:=ps) (l₂:=pos) (r₁:=[x]) (r₂:=([]:List Value)) hl;rw [List.append_nil,List.zip_nil_right,List.append_nil] at this;exact this
 have z2:(ps++[x]).zip (pos++[.none])=ps.zip pos++[(x,.none)]:=List.zip_append hl;have n1:(ps.zip pos).map (·.1)=ps:=List.map_fst_zip (Nat.le_of_eq hl);have n2:(ps.zip pos++[(x,Value.none)]).map (·.1)=ps++[x]:=by rw [List.map_append,n1]; rfl
 have told:=iX (ps.zip pos++[(x,Value.none)]) (n2.symm▸nd);rw [n2] at told;have hnx:x∉(ps.zip pos).map (·.1):=fun h=>(List.nodup_append.mp nd).2.2 _ (n1▸h) _ (List.mem_singleton.mpr rfl) rfl
 have hlen:(ps++[x]).length=ps.length+1:=List.length_append;have hp:fd.params.posonlyargs.map (·.arg)++fd.params.args.map (·.arg)=ps++[x]:=hp;have hko:fd.params.kwonlyargs.map (·.arg)=[]:=hko;have z':(bB fd).zip pos=ps.zip pos:=(congrArg (fun l=>l.zip pos) hp).trans z
 unfold bindArgs;refine wpAny_bind (bc (x:=((bB fd).zip pos,[])) rfl (wpAny_bind (hD _ ?_)));dsimp only [Option.getD_some];have hd0:([Value.none]:List Value).length - (ps.length+1)=0:=Nat.sub_eq_zero_of_le (Nat.le_add_left 1 _);rw [hp,hko,z',hlen];refine aX (fun h=>?_) (aX (fun h=>?_) ?_)
 ·have h:=of_decide_eq_true (Bool.and_eq_true_iff.mp h).1;rw [hl] at h;exact Nat.lt_irrefl pos.length (Nat.lt_of_succ_lt h)
 ·rw [hd0] at h;have h:(!(List.filter (fun n=>(List.lookup n (ps.zip pos)).isNone) (List.take ps.length (ps++[x]))).isEmpty)=true:=h
  rw [List.take_left,List.filter_eq_nil_iff.mpr fun n h=>by rw [gy (n1.symm▸h)]; exact Bool.false_ne_true] at h
  exact Bool.false_ne_true h
 have e:(List.drop (ps.length+1 - (List.drop 0 [Value.none]).length) (ps++[x])).zip (List.drop 0 [Value.none])=[(x,Value.none)]:=by
  show (List.drop ps.length (ps++[x])).zip [Value.none]=_;rw [List.drop_left]; rfl
 rw [hd0,e];refine wpAny_bind (bc (x:=ps.zip pos++[(x,.none)]) ?_ ?_)
 ·rw [List.forIn_cons,e9 hnx]; rfl
 refine wpAny_bind (bc (x:=(ps.zip pos++[(x,.none)],[])) rfl (aX Bool.false_ne_true ?_));dsimp only;rw [List.append_nil,hv,told,hk];exact wpAny_pure (z2▸q)
theorem mR {fd:FuncData}{dn:Bool}{args:List V}{kw binds:List (Str×V)}{pos:List Value}{kw':List (Str×Value)}{Q:List (Str×Value)→Shared→Prop}(e:bind fd.params dn args kw=some binds) (D:qu T.K fd.defaults) (D1:dn=true→zl T.K fd.defaults)
  (R:aI T W pr σ s) (h:aB T.P W args pos) (hk:cP T.P W kw kw') (q:∀W' s' bs,W.le W'→aI T W' pr σ s'→cP T.P W' binds bs→Q bs s'):wpAny T.M A (bindArgs fd ⟨pos,kw'⟩) Q E s:=by
 unfold bind at e;cases g:dn&&rB fd.params args kw with
 |false=>rw [g] at e; exact fX e D R h hk q
 |true=>
  rw [g] at e;have g:=Bool.and_eq_true_iff.mp g;obtain⟨t,o,ep,z1,z2,z3⟩:=D1 g.1;have g:=g.2;unfold rB at g;simp only [Bool.and_eq_true,List.isEmpty_iff,Option.isNone_iff_eq_none] at g;obtain⟨⟨⟨⟨⟨⟨rfl,g2⟩,g3⟩,g4⟩,g5⟩,g6⟩,g7⟩:=g;have g6:=Nat.eq_of_beq_eq_true g6;refine hk.nl ?_;have hne:fd.params.args.map (·.arg)≠[]:=fun q=>by rw [q] at g6; exact Nat.noConfusion g6
  have hps:=(List.dropLast_concat_getLast hne).symm;have hpl:(fd.params.args.map (·.arg)).dropLast.length=pos.length:=by rw [List.length_dropLast,g6,←h.length]; rfl
  have hp:bB fd=(fd.params.args.map (·.arg)).dropLast++[(fd.params.args.map (·.arg)).getLast hne]:=by
   show fd.params.posonlyargs.map (·.arg)++fd.params.args.map (·.arg)=_;rw [g4]; exact hps
  refine js (fun _ q=>z1▸wpAny_seqItems (R.fzIn _ _ (R.top _ _ z2)) z3 q) g5 g3 (congrArg (List.map _) g2) hp hpl (hps▸bt g7) ?_
  rw [←hps];exact q W s _ (.refl W) R (Option.some.inj e▸cP.zip ((aB.cons .mkN .nil).append h))
end
end Mini
set_option maxRecDepth 100000
set_option autoImplicit false
namespace Mini
open PySem PySem.W PyProof.Rows
theorem cells_app:∀{names:List (Str×NameKind)}{n:Nat}{acc:List (Str×Addr)},cellsFrom n names acc=cellsFrom n names []++acc
 |[],_,_=>rfl
 |(nm,k)::r,n,acc=>by
  show (if (k == .cell)=true then cellsFrom (n+1) r ((nm,n)::acc) else cellsFrom n r acc)=(if (k == .cell)=true then cellsFrom (n+1) r [(nm,n)] else cellsFrom n r [])++acc
  cases k==NameKind.cell with
  |true=>exact cells_app.trans (List.append_cons ..|>.trans (congrArg (· ++ acc) cells_app.symm))
  |false=>exact cells_app
theorem cR {x:Str}:∀{names:List (Str×NameKind)}{n:Nat}{acc:List (Str×Addr)},(x,NameKind.cell)∉names→(cellsFrom n names acc).lookup x=acc.lookup x
 |[],_,_,_=>rfl
 |(nm,k)::r,n,acc,h=>by
  have h2:(x,NameKind.cell)∉r:=fun q=>h (List.mem_cons_of_mem _ q)
  show List.lookup x (if (k == .cell)=true then cellsFrom (n+1) r ((nm,n)::acc) else cellsFrom n r acc)=_
  cases hk:k==NameKind.cell with
  |true=>
   rw [if_pos rfl,cR h2,List.lookup_cons,beq_false_of_ne fun q:x=nm=>h (by rw [q,←eq_of_beq hk]; exact List.mem_cons_self)]
  |false=>exact cR h2
theorem gz {x:Str}:∀{names:List (Str×NameKind)}{n:Nat}{acc:List (Str×Addr)},(x,NameKind.cell)∈names→(names.map (·.1)).Nodup→∃c,(cellsFrom n names acc).lookup x=some c
 |(nm,k)::r,n,acc,h,nd=>by
  have nd:=List.nodup_cons.mp nd;show ∃c,List.lookup x (if (k == .cell)=true then cellsFrom (n+1) r ((nm,n)::acc) else cellsFrom n r acc)=some c
  rcases List.mem_cons.mp h with e | h
  ·cases e;exact⟨n,(cR fun q=>nd.1 (List.mem_map.mpr ⟨_,q,rfl⟩)).trans (List.lookup_cons.trans (by rw [beq_self_eq_true]))⟩
  ·cases k==NameKind.cell with
   |true=>exact gz h nd.2
   |false=>exact gz h nd.2
theorem mS {β:Type}{f:Slot→Option β}:∀{ρ:P},(ρ.map (·.name)).Nodup→(∀x∈ρ,∀y∈ρ,∀a,f x=some a→f y=some a→x.name=y.name)→(ρ.filterMap f).Nodup
 |[],_,_=>List.nodup_nil
 |x::r,nd,h=>by
  have nd:=List.nodup_cons.mp nd;have ih:=mS nd.2 fun y hy z hz=>h y (List.mem_cons_of_mem _ hy) z (List.mem_cons_of_mem _ hz)
  rw [List.filterMap_cons];cases hx:f x with
  |none=>exact ih
  |some a=>exact List.nodup_cons.mpr ⟨fun m=>let ⟨y,hy,e⟩:=List.mem_filterMap.mp m; nd.1 (List.mem_map.mpr ⟨y,hy,(h x List.mem_cons_self y (List.mem_cons_of_mem _ hy) a hx e).symm⟩),ih⟩
theorem lA.look {P0:Params}{W:Wd}{n:Str}{v:V}:∀{caps:List (Str×V)}{cl:List (Str×Addr)},lA P0 W caps cl→bZ n caps=some v→∃c y,cl.lookup n=some c∧cW W c y∧VR P0 W v y
 |[],_,_,e=>ac e
 |(k,x)::caps,cl,h,e=>eg (k:=k) (n:=n) (M:=fun z=>z=some v→∃c y,cl.lookup n=some c∧cW W c y∧VR P0 W v y) (fun q e=>Option.some.inj e▸q▸h.1) (fun _ e=>lA.look h.2 e) e
section
variable {T:TS}{W W':Wd}{pr:Kn}{env:Env}{ρ ρ':P}{σ:H}{s:Shared}{A:Around}{E:Value→Shared→Prop}{n:Nat}{r:cT}{call:ad}{C:ce}
theorem iY {f:Str×Value→PUnit→Sem (ForInStep PUnit)}(hf:∀n v u,f (n,v) u=(do storeName env n v; pure (.yield ⟨⟩))):∀{binds:List (Str×V)}{bs:List (Str×Value)}{W:Wd}{ρ:P}{s:Shared}{Q:PUnit→Shared→Prop},
  St T W pr env ρ σ s→cP T.P W binds bs→lB binds ρ=some ρ'→(∀W' s',W.le W'→St T W' pr env ρ' σ s'→Q ⟨⟩ s')→wpAny T.M A (forIn bs ⟨⟩ f) Q E s
 |[],_,W,_,s,_,S,h,e,q=>h.nl (wpAny_pure (q W s (.refl W) (Option.some.inj e▸S)))
 |(k,x)::binds,_,_,_,_,_,S,h,e,q=>h.cs fun y r h1 h2=>by
  obtain⟨ρ1,e1,e2⟩:=Option.bind_eq_some_iff.mp e;rw [List.forIn_cons,hf];exact wpAny_bind (wpAny_bind (mh S h1 e1 fun W1 s1 L1 S1=>wpAny_pure (iY hf S1 (cP.mono L1 h2) e2 fun W' s' L S'=>q W' s' (L1.trans L) S')))
theorem fb {scope:Scope}(ok:qA scope=true):scope.kind = .function∧scope.isGenerator=false∧scope.isCoroutine=false∧(scope.names.map (·.1)).Nodup∧∀x∈scope.names,qz true (fun _=>true) x=true:=
 have h:=Bool.and_eq_true_iff.mp ok;have h1:=Bool.and_eq_true_iff.mp h.1;have h2:=Bool.and_eq_true_iff.mp h1.1;have h3:=Bool.and_eq_true_iff.mp h2.1
 ⟨eq_of_beq h3.1,(Bool.not_eq_true' _).mp h3.2,(Bool.not_eq_true' _).mp h2.2,bt h1.2,List.all_eq_true.mp h.2⟩
theorem mT (F:TF T) (hC:T.C=C) {scope:Scope}{once:List Str}{binds caps:List (Str×V)}{bs:List (Str×Value)}{cl:List (Str×Addr)}{qual:Str}{func:Option Addr}{code:Value}{Q:Env→Shared→Prop}
  (e:b0 C scope once binds caps=some ρ) (R:aI T W pr σ s) (hb:cP T.P W binds bs) (hc:lA T.P W caps cl) (hcode:once=[]∨∃c P,code = .ref c∧(c,P)∈T.tabs)
  (q:∀W' env s',W.le W'→St T W' pr env ρ σ s'→Q env s'):wpAny T.M A (newFunctionEnv scope mainGlobals cl bs qual func code none builtinsNs) Q E s:=by
 have e:(match qA scope with | true=>lB binds (cm C scope once (bZ · caps)) | false=>none)=some ρ:=e
 cases hok:qA scope with
 |false=>rw [hok] at e; exact ac e
 |true=>
 rw [hok] at e;obtain⟨hkind,_,_,nd,k5⟩:=fb hok;unfold newFunctionEnv;simp only [Option.isSome_none,Bool.false_eq_true,if_false];refine wpAny_bind (wpAny_alloc (wpAny_bind (wpAny_layCells _ (fun _ _ _=>rfl) _ _ _ _ ?_)))
 dsimp only;generalize hH:s.heap.push { cls:=.type "frame",data:=.dict #[] } = H1;have hsz:H1.objs.size=s.heap.objs.size+1:=by rw [←hH,Heap.size_push]
 have keep:∀b o,s.heap.get? b=some o→(pushCells H1 scope.names).get? b=some o:=fun b o e=>pushCells_keeps _ _ _ _ (hH▸Heap.get?_push_of_some _ e)
 have R1:aI T W pr σ { s with heap:=pushCells H1 scope.names }:=R.grow ⟨keep,rfl,rfl,Nat.le_refl _⟩
 have CO:=cellsFrom_ok scope.names H1 H1.objs.size [] ⟨nofun,.nil⟩ (Nat.le_refl _);generalize henv:({ scope,locals:=s.heap.objs.size,globals:=mainGlobals,cells:=cellsFrom H1.objs.size scope.names cl,qual,func,code,frame:=some s.heap.objs.size,builtins:=builtinsNs }:Env)=env;have hcells:env.cells=cellsFrom H1.objs.size scope.names cl:=by rw [←henv]
 have hlocals:env.locals=s.heap.objs.size:=by rw [←henv]
 have hcell:∀x∈scope.names,x.2 = .cell→∃c,env.cells.lookup x.1=some c∧(x.1,c)∈cellsFrom H1.objs.size scope.names []:=fun x hx e=>by
  obtain⟨c,h⟩:=gz (n:=H1.objs.size) (acc:=[]) (show (x.1,NameKind.cell)∈scope.names from e▸hx) nd
  exact⟨c,by rw [hcells,cells_app,List.lookup_append,h]; rfl,mem_of_lookup h⟩
 have hown:∀sl∈cm C scope once (bZ · caps),∀a,cz env sl=some a→(sl.name,a)∈cellsFrom H1.objs.size scope.names []:=fun sl hsl a e=>by
  obtain⟨x,hx,rfl⟩:=List.mem_map.mp hsl;obtain⟨h1,h2⟩:=jT e;obtain⟨c,h3,h4⟩:=hcell x hx h1;exact Option.some.inj (h3.symm.trans h2)▸h4
 have hge:∀a∈(cm C scope once (bZ · caps)).filterMap (cz env),H1.objs.size≤a:=fun a h=>let ⟨sl,hsl,e⟩:=List.mem_filterMap.mp h; (CO.empty _ _ (hown sl hsl a e)).2
 have S1:St T W pr env (cm C scope once (bZ · caps)) σ { s with heap:=pushCells H1 scope.names }:=by
  refine⟨⟨by rw [←henv]; exact hkind,by rw [←henv],by rw [←henv],⟨fun _=>none,?_,fun sl hsl=>?_⟩,fun a ha=>R.new (cD ?_),?_,frame0_names.symm▸nd,fun hl=>?_⟩,R1⟩
  ·obtain⟨o,es,ep,ho,r⟩:=Heap.Ns.new s.heap (.type "frame");exact⟨o,es,ep,hlocals▸pushCells_keeps _ _ _ _ (hH▸ho),r⟩
  ·obtain⟨⟨nm,k⟩,hx,rfl⟩:=List.mem_map.mp hsl;refine mw F hC rfl (.inl (by rw [←henv]; exact ba nd hx)) (fun e=>let ⟨c,h1,h2⟩:=hcell _ hx e; ⟨c,h1,(CO.empty _ _ h2).1⟩) fun e v hv=>?_
   obtain⟨c,y,c1,c2,c3⟩:=hc.look hv;subst e;exact⟨c,y,(gr (k5 _ hx) rfl).2,by rw [hcells,cR fun q=>nomatch (ba nd q).symm.trans (ba nd hx)]; exact c1,.inl c2,c3⟩
  ·rcases List.mem_cons.mp ha with rfl | ha
   ·exact Nat.le_of_eq hlocals.symm
   ·exact Nat.le_of_succ_le (Nat.le_trans (Nat.le_of_eq hsz.symm) (hge a ha))
  ·exact List.nodup_cons.mpr ⟨fun h=>Nat.not_succ_le_self _ (hlocals▸hsz▸hge _ h),mS (frame0_names.symm▸nd) fun x hx y hy a e1 e2=>name_of_addr CO.apart (hown x hx a e1) (hown y hy a e2)⟩
  ·rcases hcode with rfl | ⟨c,P,h1,h2⟩
   ·exact absurd (lamOK_frame0.symm.trans hl) Bool.false_ne_true
   ·exact⟨c,P,by rw [←henv]; exact h1,h2⟩
 exact wpAny_bind (iY (fun _ _ _=>rfl) S1 hb e fun W' s' L S'=>wpAny_pure (q W' env s' L S'))
end
end Mini
set_option maxRecDepth 100000
set_option autoImplicit false
namespace Mini
open PySem PySem.W PyProof.Rows
section
variable {T:TS}{W:Wd}{pr:Kn}{env:Env}{ρ:P}{σ:H}{s:Shared}{A:Around}{E:Value→Shared→Prop}{n:Nat}{r:cT}{call:ad}{C:ce}{ws:Ws}
theorem ur (F:TF4 T) (hC:T.C=C) (X:aG T n call) (R:eZ T n r) {e:Expr}{K:V→H→Ws→Prop}{Q:Value→Shared→Prop}(h:bv C call r e ρ σ ws K) (S:St T W pr env ρ σ s) (r2:an A n) (q:GE T W pr env ρ K Q) :
  wpAny T.M A (eval e env) Q E s:=by
 have R':=R.toSnd;cases e with
 |Constant c k pos=>exact tN h S q
 |Name nm pos=>exact wg h S q
 |BoolOp op vs pos=>
  cases op with
  |And=>exact ml R' h S r2 q
  |Or=>exact qh R' h S r2 q
 |BinOp a op b pos=>exact om R' h S r2 q
 |UnaryOp op a pos=>exact qR R' h S r2 q
 |Lambda args body scope pos=>exact mP F hC h S q
 |IfExp t a b pos=>exact oq R' h S r2 q
 |Dict ks vs pos=>exact re R' h S r2 q
 |List es pos=>exact wf R' h S r2 q
 |Tuple es k pos=>exact tM R' h S r2 q
 |ListComp elt gens scope pos=>exact jl F.toTF R hC h S r2 q
 |Compare a ops bs pos=>exact k6 R' h S r2 q
 |Call f args kws pos=>
  have v:=rs f;have h:(match bz f with
   |.attr o name apos=>bd (uK o apos pos args kws&&ar args&&bC kws) (m9 (cF name "replace") (nA r o args kws ρ σ ws K) (r.E o ρ σ ws fun ov σ ws=>rJ C call r ov name args kws ρ σ ws K))
   |_=>gd call r f args kws ρ σ ws K):=h
  generalize hw:bz f=w at v h
  induction v with
  |attr=>exact jn F.toTF3 hC X R' h S r2 q
  |other=>exact cE X R' (by unfold nq; rw [hw]) h S r2 q
  |str=>exact cE X R' rfl h S r2 q
  |_=>exact cE X R' rfl h S r2 q
 |Attribute o name pos=>exact rc F.toTF2 hC R' h S r2 q
 |Subscript o i pos=>exact kZ R' h S r2 q
 |_=>exact h.elim
theorem zm (F:TF4 T) (hC:T.C=C) (X:aG T n call) (R:eZ T n r) {c:Stmt}{K:Fl→P→H→Ws→Prop}{Q:Flow→Shared→Prop}(h:dU C call r c ρ σ ws K) (S:St T W pr env ρ σ s) (r2:an A n) (q:GS T W pr env K Q) :
  wpAny T.M A (exec c env) Q E s:=by
 cases c with
 |Expr x pos=>exact qX R h S r2 q
 |Pass pos=>exact qW h S q
 |Return x pos=>exact my R h S r2 q
 |Assign ts x pos=>exact mz R h S r2 q
 |AugAssign t op x pos=>exact h.elim
 |Delete ts pos=>exact mF F.toTF2 hC X R.toSnd h S r2 q
 |If t a b pos=>exact wo R h S r2 q
 |For tgt iter body orelse pos=>exact tW R h S r2 q
 |Try body hs orelse final pos=>exact tY R h S r2 q
 |FunctionDef name args body decos rets tps scope tsc bnd pos=>exact uq F h S q
 |_=>exact h.elim
theorem wI (F:TF4 T) (hC:T.C=C) (X:aG T n call) (R:eZ T n r):eZ T n (step C call r) where
 ev h _ _ _ _ _ _ _ S r2 q:=ur F hC X R h S r2 q
 tst h _ _ _ _ _ _ _ S r2 q:=tO R.toSnd h S r2 (fun h q=>ur F hC X R h S r2 q) q
 asg h _ _ _ _ _ _ _ _ S r2 hv q:=ug F.toTF2 hC X R.toSnd h S r2 hv q
 st h _ _ _ _ _ _ _ S r2 q:=zm F hC X R h S r2 q
 itr h _ _ _ _ _ _ _ _ ht S r2 q:=ua R.toSnd h ht S r2 q
 cmp h _ _ _ _ _ _ _ _ _ S r2 q:=du (call:=call) F.toTF R hC h S r2 q
theorem zn:eZ T n Bz where
 ev h:=h.elim
 tst h:=h.elim
 asg h:=h.elim
 st h:=h.elim
 itr h:=h.elim
 cmp h:=h.elim
theorem xo (F:TF4 T) (hC:T.C=C) (X:aG T n call):∀k,eZ T n (ev C call k)
 |0=>zn
 |k+1=>wI F hC X (xo F hC X k)
end
end Mini
set_option maxRecDepth 100000
set_option autoImplicit false
namespace Mini
open PySem PySem.W PyProof.Rows
structure TF5 (T:TS):Prop extends TF4 T where
 lim:∀h:Heap,T.K.In h→h.NoLimit
noncomputable abbrev oV (fd:FuncData) (env:Env):Code:=match fd.body with
 |.stmts b=>.func b env
 |.expr e=>.expr e env
section
variable {T:TS}{W W':Wd}{pr:Kn}{env:Env}{ρ:P}{σ σ':H}{s:Shared}{A:Around}{E:Value→Shared→Prop}{n:Nat}{r:cT}{call:ad}{C:ce}{ws:Ws}
theorem j3 {a:Addr}{args:Args}{o:Obj}{fd:FuncData}{R:Result→Shared→Prop}(hroom:A.depth<recursionLimit) (ho:s.heap.get? a=some o) (hd':o.data = .func fd) (hco:fd.scope.isCoroutine=false) (hgen:fd.scope.isGenerator=false)
  (hcd:∃c oc vs q t,fd.code = .ref c∧s.heap.get? c=some oc∧oc.data = .fields vs∧vs[1]? = some (.str q t))
  (h:∀q,wpAny T.M A.in1 (bindArgs fd args) (fun binds s₁=>
   wpAny T.M A.in1 (newFunctionEnv fd.scope fd.globals fd.closure binds q (some a) fd.code none fd.builtins)
    (fun env s₂=>s₂.heap.NoLimit∧codeAny T.M A (oV fd env) R s₂) (fun e s'=>R (.error e) s') s₁) (fun e s'=>R (.error e) s') s) :
  codeAny T.M A (.call (.ref a) args) R s:=by
 refine codeAny_of_tree ?_;show wpAny _ A.in1 (callAny (.ref a) args) _ _ s;simp only [callAny];refine wpAny_bind (wpAny_load ho ?_);obtain⟨c,oc,vs,q,tq,hc,hoc,hdc,hq⟩:=hcd;have h:=h (q ++ ".<locals>.");simp only [hd',callFunction,hco,hgen,hc];rw [hc] at h;refine wpAny_bind (m:=PySem.field (.ref c) 1) (wpAny_field hoc hdc hq (wpAny_bind (wpAny_pure ?_)));refine wpAny_bind (wpAny_mono h (fun binds s₁ h₁=>wpAny_bind (wpAny_mono h₁ (fun env s₂ h₂=>wpAny_bind (wpAny_enterFrame h₂.1 hroom
  (wpAny_pure (And.intro ?_ h₂.2)))) fun _ _ h'=>h')) fun _ _ h'=>h')
 cases fd.body <;> rfl
theorem an.deeper {A:Around}{n:Nat}(r:an A (n+1)) (env:Env):an (A.deeper env) n:=⟨r.handled,by have:=r.depth; show A.depth+1+n≤690; omega,by have:=r.units; show A.units+3+40*n≤9000; omega⟩
noncomputable def wJ:Flow→Value
 |.next=>.none
 |.brk=>.none
 |.cont=>.none
 |.ret v=>v
theorem A2.ret {f:Fl}{f':Flow}(h:A2 T W f f'):VR T.P W (jv f) (wJ f'):=by
 cases f with
 |ret v=>obtain⟨v',rfl,h⟩:=h; exact h
 |_=>obtain rfl:=h; exact .mkN
noncomputable abbrev uJ (T:TS) (W:Wd) (pr:Kn) (v:V) (σ':H) (RR:Result→Shared→Prop):Prop:=∀W' v' s',W.le W'→VR T.P W' v v'→aI T W' pr σ' s'→RR (.ok (.ret v')) s'
theorem uJ.mono {v:V}{RR:Result→Shared→Prop}(q:uJ T W pr v σ' RR) (L:W.le W'):uJ T W' pr v σ' RR:=fun W2 v' s' L2=>q W2 v' s' (L.trans L2)
theorem iZ (R:Snd T n r) {body:List Stmt}{v:V}{RR:Result→Shared→Prop}(e:dT r body ρ σ ws fun f _ σ2 _=>jv f=v∧σ2=σ') (S:St T W pr env ρ σ s) (r2:an A (n+1)) (q:uJ T W pr v σ' RR) :
  codeAny T.M A (.func body env) RR s:=
 codeAny_func (dm R e S (r2.deeper env) fun W' s' f f' ρ' σ2 ws' L h S' k=>by
  obtain⟨rfl,rfl⟩:=k;have:=q W' _ s' L h.ret S'.r;cases f' <;> exact this)
theorem rh (R:Snd T n r) {x:Expr}{v:V}{RR:Result→Shared→Prop}(e:r.E x ρ σ ws fun v2 σ2 _=>v2=v∧σ2=σ') (S:St T W pr env ρ σ s) (r2:an A (n+1)) (q:uJ T W pr v σ' RR) :
  codeAny T.M A (.expr x env) RR s:=
 kla_codeExpr (R.ev e S (r2.deeper env) fun W' s' v2 v' σ2 ws' L h S' k=>by
  obtain⟨rfl,rfl⟩:=k;exact q W' _ s' L h S'.r)
structure ut (T:TS) (a:Addr) (fi:qy) (o:Obj) (fd:FuncData):Prop where
 at_:T.K.lookup a=some o
 data:o.data = .func fd
 params:fd.params=fi.params
 body:fd.body = .stmts fi.body
 scope:fd.scope=fi.scope
 glb:fd.globals=mainGlobals
 blt:fd.builtins=builtinsNs
 clo:fd.closure=[]
 dfl:qu T.K fd.defaults
 dn:fi.dn=true→zl T.K fd.defaults
 code:∃c oc vs q t,fd.code = .ref c∧T.K.lookup c=some oc∧oc.data = .fields vs∧vs[1]? = some (.str q t)∧(fi.once=[]∨∃P,(c,P)∈T.tabs)
theorem eP {scope:Scope}{once:List Str}{binds caps:List (Str×V)}(e:b0 C scope once binds caps=some ρ):scope.isGenerator=false∧scope.isCoroutine=false:=by
 have e:(match qA scope with | true=>lB binds (cm C scope once (bZ · caps)) | false=>none)=some ρ:=e
 cases h:qA scope with
 |true=>exact⟨(fb h).2.1,(fb h).2.2.1⟩
 |false=>rw [h] at e; exact ac e
theorem xp (F:TF5 T) (hC:T.C=C) (R:Snd T n (ev C call jb)) {a:Addr}{fi:qy}{o:Obj}{fd:FuncData}(X:ut T a fi o fd) {args:List V}{kw:List (Str×V)}{v:V}{args':List Value}{kw':List (Str×Value)}{RR:Result→Shared→Prop}
  (e:lJ C call fi args kw σ v σ') (R0:aI T W pr σ s) (r2:an A (n+1)) (ha:aB T.P W args args') (hk:cP T.P W kw kw') (q:uJ T W pr v σ' RR) :
  codeAny T.M A (.call (.ref a) ⟨args',kw'⟩) RR s:=by
 obtain⟨c,oc,vs,qn,t,x10,x11,x12,x13,x14⟩:=X.code;refine bo.out e fun binds e1 e2=>bo.out e2 fun ρ0 e3 e4=>?_
 obtain⟨ws,e4⟩:=e4;obtain⟨g1,g2⟩:=eP e3;refine j3 r2.lt (R0.fzIn _ _ (R0.top _ _ X.at_)) X.data (X.scope▸g2) (X.scope▸g1) ⟨c,oc,vs,qn,t,x10,R0.fzIn _ _ (R0.top _ _ x11),x12,x13⟩ fun qn=>mR (X.params▸e1) X.dfl X.dn R0 ha hk fun W1 s1 bs L1 R1 hb=>?_
 rw [X.scope,X.glb,X.blt,X.clo];refine mT (cl:=[]) F.toTF hC e3 R1 hb trivial (x14.imp id fun⟨P,h⟩=>⟨c,P,x10,h⟩) fun W2 env s2 L2 S2=>⟨F.lim _ S2.r.K,?_⟩
 unfold oV;rw [X.body];exact iZ R e4 S2 r2 (q.mono (L1.trans L2))
end
end Mini
set_option maxRecDepth 100000
set_option autoImplicit false
namespace Mini
open PySem PySem.W PyProof.Rows
structure Wd.low (n:Nat) (W W':Wd):Prop where
 phi:∀(i:Nat) (a:Addr),i<n→W.phi[i]? = some a→W'.phi[i]? = some a
 fz:∀a o,W.fz a=some o→W'.fz a=some o
 tk:W.tk≤W'.tk
section
variable {P:Params}{W W':Wd}{n:Nat}
mutual
theorem VR.low (h:Wd.low n W W'):∀(x:V) (v:Value),o7 n x=true→VR P W x v→VR P W' x v
 |.none,_,_,e=>e
 |.bool _,_,_,e=>e
 |.int _,_,_,e=>e
 |.str _,_,_,e=>e
 |.tstr _,_,_,e=>let ⟨t,a,b,c⟩:=e; ⟨t,a,b,Nat.lt_of_lt_of_le c h.tk⟩
 |.list xs,_,b,e=>by
  obtain⟨a,ys,ep,e1,e2,e3⟩:=e;exact⟨a,ys,ep,e1,h.fz _ _ e2,aB.low h xs ys b e3⟩
 |.tuple xs,_,b,e=>by
  obtain⟨a,ys,e1,e2,e3⟩:=e;exact⟨a,ys,e1,h.fz _ _ e2,aB.low h xs ys b e3⟩
 |.dict es,_,b,e=>by
  obtain⟨a,ds,ep,e1,e2,e3,e4⟩:=e;exact⟨a,ds,ep,e1,h.fz _ _ e2,aO.low h es ds b e3,e4⟩
 |.ref i,_,b,e=>by
  obtain⟨a,e1,e2⟩:=e;exact⟨a,e1,h.phi _ _ (Nat.le_of_ble_eq_true b) e2⟩
 |.val _,_,_,e=>e
 |.clo ..,_,b,_=>absurd b Bool.false_ne_true
 |.bm ..,_,b,_=>absurd b Bool.false_ne_true
theorem aB.low (h:Wd.low n W W'):∀(xs:List V) (ys:List Value),eU n xs=true→aB P W xs ys→aB P W' xs ys
 |[],_,_,e=>e
 |x::xs,_,b,e=>by
  have b:=Bool.and_eq_true_iff.mp b;obtain⟨y,r,e1,e2,e3⟩:=e;exact⟨y,r,e1,VR.low h x y b.1 e2,aB.low h xs r b.2 e3⟩
theorem aO.low (h:Wd.low n W W'):∀(xs:List (List Nat×V)) (ys:List DictEntry),nh n xs=true→aO P W xs ys→aO P W' xs ys
 |[],_,_,e=>e
 |(k,x)::xs,_,b,e=>by
  have b:=Bool.and_eq_true_iff.mp b;obtain⟨t,y,r,e1,e2,e3⟩:=e;exact⟨t,y,r,e1,VR.low h x y b.1 e2,aO.low h xs r b.2 e3⟩
end
end
section
variable {T:TS}{W W1 W':Wd}{pr:Kn}{env:Env}{ρ:P}{σ σ' σ1:H}{s s':Shared}{A:Around}{E:Value→Shared→Prop}{n:Nat}{r:cT}{call:ad}{C:ce}
noncomputable def j4 (W:Wd) (pr:Kn) (h:Heap):Kn:=fun a=>if a∈W.phi then h.get? a else pr a
theorem fY {h:Heap}{a:Addr}(e:a∈W.phi):j4 W pr h a=h.get? a:=if_pos e
theorem gA {h:Heap}{a:Addr}(e:a∉W.phi):j4 W pr h a=pr a:=if_neg e
noncomputable abbrev Wd.bare (W:Wd):Wd:=⟨[],W.fz,W.tk⟩
noncomputable abbrev Wd.back (W W1:Wd):Wd:=⟨W.phi,W1.fz,W1.tk⟩
theorem aI.phiAt (R:aI T W pr σ s) {a:Addr}(h:a∈W.phi):∃o,s.heap.get? a=some o:=
 let ⟨i,hi⟩:=List.mem_iff_getElem?.mp h
 have hl:i<σ.length:=R.len▸(List.getElem?_eq_some_iff.mp hi).1
 let ⟨o,ho,_⟩:=R.objs i σ[i] a (List.getElem?_eq_getElem hl) hi
 ⟨o,ho⟩
theorem aI.upP (R:aI T W pr σ s) {a:Addr}{o:Obj}(e:pr a=some o):j4 W pr s.heap a=some o:=(gA fun q=>b8 (R.phi a q).2.1 e).trans e
theorem aI.bare (R:aI T W pr σ s):aI T W.bare (j4 W pr s.heap) [] s:=
 have R0:aI T W.bare pr [] s:=⟨R.fzIn,R.prIn,rfl,fun _ _ _ h=>(nomatch h),List.nodup_nil,fun _ h=>(nomatch h),R.prfz,R.top,R.tabsK (fun _ _ e=>e) fun _=>.inr fun _ e=>e,R.tabfz,R.os,R.gens,R.sys,R.tk⟩
 R0.reguard (fun a o e=>if h:a∈W.phi then let ⟨x,y,z⟩:=R.phi a h; .inr ⟨⟨x,y,nofun,z⟩,(fY h).symm.trans e⟩ else .inl ((gA h).symm.trans e)) (R.sys.imp fun _=>R.upP)
theorem aI.unbare (R:aI T W pr σ s) (L:W.bare.le W1) (R1:aI T W1 (j4 W pr s.heap) σ1 s'):aI T (W.back W1) pr σ s'∧W.le (W.back W1):=
 have LL:W.le (W.back W1):=⟨⟨[],(List.append_nil _).symm⟩,L.fz,L.tk⟩;have R2:=R1.reguard (fun _ _ e=>.inl (R.upP e)) R.sys
 ⟨⟨R2.fzIn,R2.prIn,R.len,fun i x a h1 h2=>let ⟨o,h3,h4⟩:=R.objs i x a h1 h2; ⟨o,R1.prIn a o ((fY (List.mem_of_getElem? h2)).trans h3),h4.mono LL⟩,R.nodup,fun a h=>let ⟨o,h3⟩:=R.phiAt h; ⟨R1.prfz a o ((fY h).trans h3),(R.phi a h).2⟩,R2.prfz,R2.top,R2.tabsK (fun _ _ e=>e) fun _=>.inr fun _ e=>e,R2.tabfz,R2.os,R2.gens,R.sys,R2.tk⟩,LL⟩
theorem zo {W W':Wd}(h1:∀a o,W.fz a=some o→W'.fz a=some o) (h2:W.tk≤W'.tk):Wd.low 0 W W':=⟨fun i a h _=>absurd h (Nat.not_lt_zero i),h1,h2⟩
theorem ri (R:aI T W pr σ s) (L:W.bare.le W1) (R1:aI T W1 (j4 W pr s.heap) σ1 s') {v u:V}{v':Value}(h:VR T.P W1 v v') (e:zS σ1 v u):∃W2,W.le W2∧VR T.P W2 u v'∧aI T W2 pr σ s':=by
 obtain⟨R2,L2⟩:=R.unbare L R1
 induction e with
 |list hx hn=>
  refine R1.held h hx fun a ys ep ha hl hys _=>?_
  obtain⟨p1,p2,p3⟩:=R1.phi a (List.mem_of_getElem? ha);have hnphi:a∉W.phi:=fun q=>let ⟨_,h3⟩:=R.phiAt q; b8 p2 ((fY q).trans h3)
  have N:dO T (W.back W1) pr a:=⟨p1,(gA hnphi).symm.trans p2,hnphi,p3⟩;obtain⟨R3,L3⟩:=R2.freeze N hl;refine⟨_,L2.trans L3,.mkL (Wd.add_at _ _ _) ?_,R3⟩;exact (aB.low (zo (W:=W1) (fun b o q=>L3.fz b o q) L3.tk) _ _ hn hys)
 |val hn=>exact⟨_,L2,VR.low (zo (W:=W1) (W':=W.back W1) (fun _ _ q=>q) (Nat.le_refl _)) _ _ hn h,R2⟩
theorem wK (F:TF5 T) (hC:T.C=C) (R:Snd T n (ev C call jb)) {a:Addr}{fi:qy}{o:Obj}{fd:FuncData}(X:ut T a fi o fd) {args:List V}{kw:List (Str×V)}{v:V}{args':List Value}{kw':List (Str×Value)}{RR:Result→Shared→Prop}
  (e:bO C call fi args kw σ v σ') (R0:aI T W pr σ s) (r2:an A (n+1)) (ha:aB T.P W args args') (hk:cP T.P W kw kw') (q:uJ T W pr v σ' RR) :
  codeAny T.M A (.call (.ref a) ⟨args',kw'⟩) RR s:=by
 unfold bO at e;cases hm:fi.mode with
 |raw=>rw [hm] at e; exact xp F hC R X e R0 r2 ha hk q
 |pure=>
  rw [hm] at e;obtain⟨c,rfl,hn,v0,σ0,e1,e2⟩:=bd.out e;obtain rfl:=hk.nil' c;exact xp F hC R X e1 R0.bare r2 (aB.low (zo (W:=W) (W':=W.bare) (fun _ _ q=>q) (Nat.le_refl _)) _ _ hn ha) .nil fun W1 v' s1 L1 h1 R1=>let ⟨W2,L2,h2,R2⟩:=ri R0 L1 R1 h1 e2; q W2 v' s1 L2 h2 R2
end
end Mini
set_option maxRecDepth 100000
set_option autoImplicit false
namespace Mini
open PySem PySem.W PyProof.Rows
structure hV (T:TS) (n:Nat) (call:ad):Prop where
 ok:∀{f:V}{args:List V}{kw:List (Str×V)}{σ σ':H}{v:V},call f args kw σ v σ'→∀{W:Wd}{pr:Kn}{s:Shared}{A:Around}{RR:Result→Shared→Prop}{f':Value}{args':List Value}{kw':List (Str×Value)},
  aI T W pr σ s→an A n→VR T.P W f f'→aB T.P W args args'→cP T.P W kw kw'→uJ T W pr v σ' RR→codeAny T.M A (.call f' ⟨args',kw'⟩) RR s
 keep:∀{f:V}{args:List V}{kw:List (Str×V)}{σ σ':H}{v:V},call f args kw σ v σ'→∀{W:Wd}{pr:Kn}{s:Shared}{A:Around}{f':Value}{σ0:H},aI T W pr σ0 s→VR T.P W f f'→bW T A f' s
theorem hV.snd {T:TS}{n:Nat}{call:ad}(X:hV T n call):aG T n call:=
 ⟨fun {f args kw σ σ' v} e {W pr s A E Q f' args' kw'} R r2 hf ha hk q=>wpAny_call (X.ok e R r2 hf ha hk fun W' v' s' L h R'=>q W' v' s' L h R'),fun {f args kw σ σ' v} e=>X.keep e⟩
section
variable {T:TS}{W W':Wd}{pr:Kn}{env:Env}{ρ:P}{σ σ':H}{s:Shared}{A:Around}{E:Value→Shared→Prop}{n:Nat}{r:cT}{call:ad}{C:ce}
theorem fZ {c:Addr}{nm:Str}{m:Addr}(e:am C c nm=some m):∃ms,C.cls c=some ms∧(nm,m)∈ms:=by
 unfold am at e;simp only [Option.bind_eq_some_iff,Option.map_eq_some_iff] at e;obtain⟨ms,h1,⟨k,a⟩,h2,h3⟩:=e;cases h3;have:=List.find?_some h2;rw [sEq_iff] at this;dsimp only at this;subst this;exact⟨ms,h1,List.mem_of_find?_eq_some h2⟩
theorem uu {c:Addr}{ms:List (Str×Addr)}(K:mi T c ms) (R:aI T W pr σ s):bW T A (.ref c) s:=fun Q E q=>by
 obtain⟨⟨oc,od,cd,sl,hC,_⟩,_,_,_,_,call,_⟩:=makes_of (M:=T.M) R.K K.make;show wpAny T.M A (load c >>= _) Q E s;refine wpAny_bind (wpAny_load hC ?_);dsimp only;refine wpAny_bind (call.here ?_);exact wpAny_pure (q _)
theorem an.made {A:Around}{n:Nat}(r:an A (n+1)) {c:Addr}{rest:List Value}{kw:List (Str×Value)}:an (A.under (.builtin "type.__call__" ⟨.ref c::rest,kw⟩)) n:=by
 have h1:(Code.builtin "type.__call__" ⟨.ref c::rest,kw⟩).weight=1:=by kernel_rfl
 have h2:(Code.builtin "type.__call__" ⟨.ref c::rest,kw⟩).cUnits=1:=by kernel_rfl
 refine⟨r.handled,?_,?_⟩
 ·have:=r.depth; show A.depth+(Code.builtin "type.__call__" ⟨.ref c::rest,kw⟩).weight+n≤690; omega
 ·have:=r.units; show A.units+(Code.builtin "type.__call__" ⟨.ref c::rest,kw⟩).cUnits+40*n≤9000; omega
theorem zp (F:TF2 T) (hC:T.C=C) (X:hV T n call) {a:Addr}{args:List V}{kw:List (Str×V)}{v:V}{args':List Value}{kw':List (Str×Value)}{RR:Result→Shared→Prop}(e:ie C call a args kw σ v σ') (R0:aI T W pr σ s) (r2:an A (n+1))
  (ha:aB T.P W args args') (hk:cP T.P W kw kw') (q:uJ T W pr v σ' RR):codeAny T.M A (.call (.ref a) ⟨args',kw'⟩) RR s:=by
 subst hC;refine bo.out e fun m e1 e=>?_
 obtain⟨e2,rfl⟩:=e;obtain⟨ms,h1,h2⟩:=fZ e1;have K:=F.cls _ _ h1;obtain⟨g1,g2,_⟩:=K.meth _ h2;have S:=makes_of (M:=T.M) R0.K K.make;obtain⟨hh,g,d,t,os⟩:=s;refine make_core S (looks_findIn R0.K g1) (fun self=>bind_fn R0.K self g2) (.inl rfl) ?_
 have n1:=R0.new (az hh);obtain⟨R1,L1⟩:=(R0.grow (be.push ⟨hh,g,d,t,os⟩ emptyDict)).alloc (x:=.dict []) n1 (Heap.get?_push_size _ rfl) ⟨[],0,rfl,rfl,by simp⟩
 have n2:=R1.new (az (hh.push emptyDict));have hdx:(W.phi++[hh.objs.size])[σ.length]? = some hh.objs.size:=by rw [←R0.len,List.getElem?_append_right (Nat.le_refl _),Nat.sub_self]; rfl
 obtain⟨R2,L2⟩:=(R1.grow (be.push ⟨hh.push emptyDict,g,d,t,os⟩ (instObj a hh.objs.size))).alloc (x:=.inst a σ.length) n2 (Heap.get?_push_size _ rfl) ⟨hh.objs.size,by
  rw [List.getElem?_append_left (List.getElem?_eq_some_iff.mp hdx).1]; exact hdx,rfl⟩
 have L:=L1.trans L2;have hx:(W.phi++[hh.objs.size]++[(hh.push emptyDict).objs.size])[σ.length+1]? = some (hh.objs.size+1):=by
  have hl:(W.phi++[hh.objs.size]).length=σ.length+1:=by simp [R0.len]
  rw [←hl,List.getElem?_append_right (Nat.le_refl _),Nat.sub_self,Heap.size_push]; rfl
 rw [show σ++[aa.dict [],.inst a σ.length]=σ++[.dict []]++[.inst a σ.length] by simp] at e2
 refine X.ok e2 R2 r2.made .mkU (.cons (.mkR hx) (aB.mono L _ _ ha)) (cP.mono L hk) fun W3 v' s3 L3 h3 R3=>h3.n ⟨rfl,q _ _ s3 (L.trans L3) (.mkR (L3.at hx)) R3⟩
end
end Mini
set_option maxRecDepth 100000
set_option autoImplicit false
namespace Mini
open PySem PySem.W PyProof.Rows
structure Bu (T:TS):Prop extends TF5 T where
 fns:∀a fi,T.C.fns a=some fi→∃o fd,ut T a fi o fd
section
variable {T:TS}{W W':Wd}{pr:Kn}{env:Env}{ρ:P}{σ σ':H}{s:Shared}{A:Around}{E:Value→Shared→Prop}{n:Nat}{r:cT}{call:ad}{C:ce}
theorem oW {p:Arguments}{args:List V}{ns:List Str}(p1:p.posonlyargs=[]) (p2:p.vararg=none) (p3:p.kwonlyargs=[]) (p4:p.kwarg=none) (hp:p.args.map (·.arg)=ns) (hg:(Nat.beq ns.length args.length&&br ns)=true) :
  pb p args []=some (ns.zip args):=by
 unfold pb;rw [p1,p2,p3,p4,hp,List.map_nil,List.append_nil];show (match Nat.beq ns.length args.length&&br ns with | false=>none | true=>some (ns.zip args++[]++[]))=_
 rw [hg,List.append_nil,List.append_nil]
theorem zq (F:TF5 T) (hC:T.C=C) (R:Snd T n (ev C call jb)) {d:m8}{caps:List (Str×V)}{self:Option Str}{f':Value}{args:List V}{v:V}{args':List Value}{RR:Result→Shared→Prop}(e:ic C call d args (bq (.clo d caps self) self++caps) σ v σ') (R0:aI T W pr σ s) (r2:an A (n+1))
  (hf:VR T.P W (.clo d caps self) f') (ha:aB T.P W args args') (q:uJ T W pr v σ' RR):codeAny T.M A (.call f' ⟨args',[]⟩) RR s:=by
 have hf0:=hf;obtain⟨f,fd,rfl,X,hcaps⟩:=hf;obtain⟨c,e0⟩:=bd.out e;refine bo.out e0 fun ρ0 e2 e3=>?_
 obtain⟨g1,g2⟩:=eP e2;obtain⟨od,sl,hat⟩:=X.at_;obtain⟨c0,oc,vs,qn,t,x10,x11,x12,x13⟩:=X.code;obtain⟨p1,p2,p3,p4⟩:=X.plain;refine j3 r2.lt (R0.fzIn _ _ hat) rfl (by rw [X.scope]; exact g2) (by rw [X.scope]; exact g1) ⟨c0,oc,vs,qn,t,x10,R0.fzIn _ _ x11,x12,x13⟩ fun qn=>?_
 refine fX (kw:=[]) (oW p1 p2 p3 p4 X.params c) (.inl X.defaults) R0 ha .nil fun W1 s1 bs L1 R1 hb=>?_
 rw [X.scope,X.globals,X.builtins];have hcl:lA T.P W (bq (.clo d caps self) self++caps) fd.closure:=by
  cases self with
  |none=>exact hcaps
  |some nm=>
   obtain⟨cc,y1,y2⟩:=X.own nm rfl;show lA T.P W ((nm,.clo d caps (some nm))::caps) fd.closure;exact⟨⟨cc,.ref f,y1,y2,hf0⟩,hcaps⟩
 refine mT F.toTF hC e2 R1 hb (lA.mono L1 _ _ hcl) (.inl rfl) fun W2 env s2 L2 S2=>⟨F.lim _ S2.r.K,?_⟩
 unfold oV;rw [X.body];cases hbd:d.body with
 |stmts b=>rw [hbd] at e3; obtain⟨ws,e3⟩:=e3; exact iZ R e3 S2 r2 (q.mono (L1.trans L2))
 |expr x=>rw [hbd] at e3; obtain⟨ws,e3⟩:=e3; exact rh R e3 S2 r2 (q.mono (L1.trans L2))
theorem i0 {f:V}{args:List V}{kw:List (Str×V)}{v:V}(e:ab C (n+1) f args kw σ v σ'):(∃a fi,f = .val (.ref a)∧C.fns a=some fi∧bO C (ab C n) fi args kw σ v σ')∨(∃a,f = .val (.ref a)∧ie C (ab C n) a args kw σ v σ') ∨
  ∃d caps self,f = .clo d caps self∧kw.isEmpty=true∧ic C (ab C n) d args (bq f self++caps) σ v σ':=by
 cases f with
 |val u=>cases u with
  |ref a=>
   change (match C.fns a with
    |some fi=>bO C (ab C n) fi args kw σ v σ'
    |none=>ie C (ab C n) a args kw σ v σ') at e
   cases h:C.fns a with
   |some fi=>rw [h] at e; exact .inl ⟨a,fi,rfl,h,e⟩
   |none=>rw [h] at e; exact .inr (.inl ⟨a,rfl,e⟩)
  |_=>exact e.elim
 |clo d caps self=>exact .inr (.inr ⟨d,caps,self,rfl,bd.out e⟩)
 |_=>exact e.elim
theorem mU (F:Bu T) (hC:T.C=C):∀n,hV T n (ab C n)
 |0=>⟨fun e=>e.elim,fun e=>e.elim⟩
 |n+1=>by
  have ih:=mU F hC n;have RS:=(xo F.toTF4 hC ih.snd jb).toSnd;refine⟨fun {f args kw σ σ' v} e {W pr s A RR f' args' kw'} R r2 hf ha hk q=>?_,fun {f args kw σ σ' v} e {W pr s A f' σ0} R hf=>?_⟩
  ·rcases i0 e with ⟨a,fi,rfl,h,e0⟩ | ⟨a,rfl,e0⟩ | ⟨d,caps,self,rfl,c,e0⟩
   ·obtain⟨o,fd,X⟩:=F.fns _ _ (hC▸h);exact hf.u (wK F.toTF5 hC RS X e0 R r2 ha hk q)
   ·exact hf.u (zp F.toTF2 hC ih e0 R r2 ha hk q)
   ·obtain rfl:=hk.nil' c;exact zq F.toTF5 hC RS e0 R r2 hf ha q
  ·rcases i0 e with ⟨a,fi,rfl,h,e0⟩ | ⟨a,rfl,e0⟩ | ⟨d,caps,self,rfl,c,e0⟩
   ·obtain⟨o,fd,X⟩:=F.fns _ _ (hC▸h);exact hf.u (jU (R.fzIn _ _ (R.top _ _ X.at_)) X.data)
   ·refine bo.out e0 fun m e1 _=>?_
    obtain⟨ms,h1,h2⟩:=fZ e1;exact hf.u (uu (F.cls _ _ (by rw [hC]; exact h1)) R)
   ·obtain⟨f,fd,rfl,X,_⟩:=hf;obtain⟨od,sl,hat⟩:=X.at_;exact jU (R.fzIn _ _ hat) rfl
end
end Mini
set_option maxRecDepth 100000
set_option autoImplicit false
namespace Mini
open PySem PySem.W PyProof.Rows
structure wL where
 params:Arguments
 body:FuncBody
 scope:Scope
 globals:Addr
 builtins:Addr
 closure:List (Str×Addr)
 code:Addr
 dn:Bool
noncomputable def i3:Value→Option Addr
 |.ref a=>some a
 |_=>none
noncomputable def i4:Value→Option (Str×Tok)
 |.str x t=>some (x,t)
 |_=>none
noncomputable def mV:Value→Option (Int×Tok)
 |.int x t=>some (x,t)
 |_=>none
noncomputable def uv:Value→Option Bool
 |.bool b=>some b
 |_=>none
noncomputable def eq:Data→Option (Array Value)
 |.fields vs=>some vs
 |_=>none
noncomputable def uw:Data→Option FuncData
 |.func fd=>some fd
 |_=>none
noncomputable def mW:Data→Option (Array Value×Nat)
 |.seq xs k=>some (xs,k)
 |_=>none
theorem eu {v:Value}{a:Addr}(h:i3 v=some a):v = .ref a:=by cases v <;> first | exact congrArg _ (Option.some.inj h) | exact ac h
theorem i5 {v:Value}{p:Str×Tok}(h:i4 v=some p):v = .str p.1 p.2:=by cases v <;> first | exact Option.some.inj h▸rfl | exact ac h
theorem f6 {v:Value}{p:Int×Tok}(h:mV v=some p):v = .int p.1 p.2:=by cases v <;> first | exact Option.some.inj h▸rfl | exact ac h
theorem rj {v:Value}{b:Bool}(h:uv v=some b):v = .bool b:=by cases v <;> first | exact congrArg _ (Option.some.inj h) | exact ac h
theorem cS {d:Data}{vs:Array Value}(h:eq d=some vs):d = .fields vs:=by cases d <;> first | exact congrArg _ (Option.some.inj h) | exact ac h
theorem rk {d:Data}{fd:FuncData}(h:uw d=some fd):d = .func fd:=by cases d <;> first | exact congrArg _ (Option.some.inj h) | exact ac h
theorem i6 {d:Data}{p:Array Value×Nat}(h:mW d=some p):d = .seq p.1 p.2:=by cases d <;> first | exact Option.some.inj h▸rfl | exact ac h
noncomputable def zr (K:Frag) (v:Value):Bool:=match v == .none with
 |true=>true
 |false=>((i3 v).bind fun t=>(K.lookup t).bind fun o=>mW o.data).isSome
noncomputable def ls (a:Array Value):Bool:=match a.toList with
 |[]=>false
 |x::r=>match r with
  |[]=>x == .none
  |_::_=>false
theorem oX {a:Array Value}(h:ls a=true):a = #[.none]:=by
 unfold ls at h;apply Array.ext';revert h;generalize a.toList=l;cases l with
 |nil=>exact fun h=>nomatch h
 |cons x r=>cases r with
  |nil=>exact fun h=>congrArg (fun y=>[y]) (eq_of_beq h)
  |cons=>exact fun h=>nomatch h
noncomputable def zt (K:Frag) (v:Value):Bool:=((i3 v).bind fun t=>(K.lookup t).bind fun o=>mW o.data).any fun p=>ls p.1
theorem wM {K:Frag}{v:Value}(e:zt K v=true):zl K v:=by
 unfold zt at e;obtain⟨p,e,h⟩:=(Option.any_eq_true _ _).mp e;exact ai e fun t h1 e=>ai e fun o h2 h3=>⟨t,o,p.2,eu h1,h2,(i6 h3).trans (by rw [oX h])⟩
noncomputable def wN (K:Frag) (v:Value):Option Addr:=(i3 v).bind fun c=>(K.lookup c).bind fun o=>(eq o.data).bind fun vs=>(vs[1]?).bind fun x=>(i4 x).bind fun _=>some c
noncomputable def Bv (K:Frag) (a:Addr):Option wL:=(K.lookup a).bind fun o=>(uw o.data).bind fun fd=>(wN K fd.code).bind fun c=>match zr K fd.defaults with
 |true=>some ⟨fd.params,fd.body,fd.scope,fd.globals,fd.builtins,fd.closure,c,zt K fd.defaults⟩
 |false=>none
theorem wO {K:Frag}{v:Value}(e:zr K v=true):qu K v:=by
 have e:(match v == .none with | true=>true | false=>((i3 v).bind fun t=>(K.lookup t).bind fun o=>mW o.data).isSome)=true:=e
 cases h:v == .none with
 |true=>exact .inl (eq_of_beq h)
 |false=>
  rw [h] at e;obtain⟨p,e⟩:=Option.isSome_iff_exists.mp e;exact ai e fun t h1 e=>ai e fun o h2 h3=>.inr ⟨t,o,p.1,p.2,eu h1,h2,i6 h3⟩
theorem qv {K:Frag}{v:Value}{c:Addr}(e:wN K v=some c):∃oc vs q t,v = .ref c∧K.lookup c=some oc∧oc.data = .fields vs∧vs[1]? = some (.str q t):=
 ai e fun c2 h1 e=>ai e fun o h2 e=>ai e fun vs h3 e=>ai e fun x h4 e=>ai e fun p h5 e=>by
  cases e;exact⟨o,vs,p.1,p.2,eu h1,h2,cS h3,h4.trans (congrArg some (i5 h5))⟩
theorem wP {T:TS}{a:Addr}{fi:qy}{c:Addr}(e:Bv T.K a=some ⟨fi.params,.stmts fi.body,fi.scope,mainGlobals,builtinsNs,[],c,fi.dn⟩) (ho:fi.once=[]∨∃P,(c,P)∈T.tabs):∃o fd,ut T a fi o fd:=
 ai e fun o h e=>ai e fun fd h1 e=>ai e fun c' h2 e=>by
  cases hd:zr T.K fd.defaults with
  |false=>rw [hd] at e; exact ac e
  |true=>
   rw [hd] at e;obtain⟨oc,vs,q,t,g1,g2,g3,g4⟩:=qv h2;have e:=Option.some.inj e;obtain rfl:c'=c:=congrArg wL.code e;exact⟨o,fd,h,rk h1,congrArg wL.params e,congrArg wL.body e,congrArg wL.scope e,congrArg wL.globals e,congrArg wL.builtins e,congrArg wL.closure e,wO hd,fun h=>wM ((congrArg wL.dn e).trans h),c',oc,vs,q,t,g1,g2,g3,g4,ho⟩
noncomputable def zu (K:Frag) (c:Addr):Option (Addr×Value):=(K.lookup c).bind fun o=>(eq o.data).bind fun vs=>(i3 (vs.getD 11 .none)).bind fun P=>(i4 (vs.getD 18 .none)).bind fun _=>(mV (vs.getD 7 .none)).bind fun _=>(uv (vs.getD 9 .none)).bind fun _=>(mV (vs.getD 10 .none)).bind fun _=>some (P,o.cls)
theorem wQ {K:Frag}{c:Addr}{p:Addr×Value}(e:zu K c=some p):∃o,K.lookup c=some o:=ai e fun o h _=>⟨o,h⟩
theorem ux {vs:Array Value}{i:Nat}{a:Addr}(h:vs.getD i .none = .ref a):vs[i]? = some (.ref a):=by
 rw [Array.getD_eq_getD_getElem?] at h;cases q:vs[i]? with
 |none=>rw [q] at h; cases h
 |some v=>rw [q] at h; exact congrArg some h
theorem rl {K:Frag}{h:Heap}{c P:Addr}{ps:Array Value}(X:K.In h) (e:zu K c=some (P,.type "code")) (hP:h.get? P=some { cls:=.none,data:=.fields ps }) (t:TriplesOk ps.toList) (n:c≠P):h.IsCode c P ps∧h.TableAt c P ps:=
 ai e fun o h1 e=>ai e fun vs h2 e=>ai e fun P2 h3 e=>ai e fun f h4 e=>ai e fun g h5 e=>ai e fun b h6 e=>ai e fun x h7 e=>by
  have e:=Option.some.inj e;obtain rfl:P2=P:=congrArg Prod.fst e;have hc:o.cls = .type "code" :=congrArg Prod.snd e;have k:=eu h3;exact⟨⟨o,vs,f.1,f.2,g.1,g.2,b,x.1,x.2,_,X _ _ h1,cS h2,k,i5 h4,f6 h5,rj h6,f6 h7,hP,rfl,t,n⟩,⟨o,vs,X _ _ h1,hc,cS h2,ux k⟩,hP⟩
noncomputable def uy (K:Frag):List Value→Bool
 |[]=>true
 |a::l=>match l with
  |[]=>false
  |b::l=>match l with
   |[]=>false
   |c::l=>(mV a).isSome&&(mV b).isSome&&(wN K c).isSome&&uy K l
theorem j5 {K:Frag}:∀{l:List Value},uy K l=true→TriplesOk l∧∀pos c',codeAmong pos l=some c'→∃c,wN K c'=some c
 |[],_=>⟨trivial,nofun⟩
 |[_],h=>nomatch h
 |[_,_],h=>nomatch h
 |a::b::c::rest,h=>by
  have h:=Bool.and_eq_true_iff.mp h;have h1:=Bool.and_eq_true_iff.mp h.1;have h2:=Bool.and_eq_true_iff.mp h1.1;obtain⟨⟨i,t⟩,e1⟩:=Option.isSome_iff_exists.mp h2.1;obtain⟨⟨j,u⟩,e2⟩:=Option.isSome_iff_exists.mp h2.2;cases f6 e1;cases f6 e2;obtain⟨g1,g2⟩:=j5 h.2;refine⟨g1,fun pos c' e=>?_⟩
  have e:(if _ then some c else codeAmong pos rest)=some c':=e
  exact gX (fun q=>Option.some.inj ((if_pos q).symm.trans e)▸Option.isSome_iff_exists.mp h1.2) fun q=>g2 pos c' ((if_neg q).symm.trans e)
noncomputable def K1 (K0:Frag) (tabs:List (Addr×Addr)):Frag:=K0.filter fun p=>!(Nat.beq sysModules p.1||tabs.any fun q=>Nat.beq q.2 p.1)
theorem eQ {f:Addr→Bool}{a:Addr}:∀{K:Frag},(K.filter fun p=>f p.1).lookup a=match f a with | true=>K.lookup a | false=>none
 |[]=>by cases f a <;> rfl
 |(b,x)::K=>by
  have ih:=eQ (f:=f) (a:=a) (K:=K);rw [List.filter_cons,List.lookup_cons];cases h:a==b with
  |true=>
   cases eq_of_beq h;cases hf:f a with
   |true=>rw [if_pos rfl,List.lookup_cons,beq_self_eq_true]
   |false=>rw [hf] at ih; exact (if_neg Bool.false_ne_true).symm▸ih
  |false=>
   refine Eq.trans ?_ ih;cases f b with
   |true=>exact (congrArg (List.lookup a) (if_pos rfl)).trans (List.lookup_cons.trans (by rw [h]))
   |false=>rfl
theorem lu {K0:Frag}{tabs:List (Addr×Addr)}{a:Addr}:(K1 K0 tabs).lookup a=match !(Nat.beq sysModules a||tabs.any fun q=>Nat.beq q.2 a) with | true=>K0.lookup a | false=>none:=eQ (f:=fun x=>!(Nat.beq sysModules x||tabs.any fun q=>Nat.beq q.2 x))
theorem xq {K0:Frag}{tabs:List (Addr×Addr)}{a:Addr}{o:Obj}(e:(K1 K0 tabs).lookup a=some o):K0.lookup a=some o:=by
 rw [lu] at e;cases h:!(Nat.beq sysModules a||tabs.any fun q=>Nat.beq q.2 a) with
 |true=>rw [h] at e; exact e
 |false=>rw [h] at e; exact ac e
theorem zv {K0:Frag}{tabs:List (Addr×Addr)}{a:Addr}(h:∃c,(c,a)∈tabs):(K1 K0 tabs).lookup a=none:=by
 rw [lu,show (tabs.any fun q=>Nat.beq q.2 a)=true from h.elim fun c hc=>List.any_eq_true.mpr ⟨_,hc,Nat.beq_refl a⟩,Bool.or_true]; rfl
theorem zw {K0:Frag}{tabs:List (Addr×Addr)}:(K1 K0 tabs).lookup sysModules=none:=by
 rw [lu,Nat.beq_refl,Bool.true_or]; rfl
noncomputable def dictOf:Data→Option (Array DictEntry×Nat)
 |.dict es k=>some (es,k)
 |_=>none
theorem rm {d:Data}{p:Array DictEntry×Nat}(h:dictOf d=some p):d = .dict p.1 p.2:=by cases d <;> first | exact Option.some.inj h▸rfl | exact ac h
noncomputable def AS (K:Frag):Bool:=((K.lookup cStatics).bind fun o=>(dictOf o.data).bind fun p=>match (p.1.toList.all fun e=>(i4 e.key).isSome)&&(nsFind p.1 "sys.recursionlimit").isNone with
 |true=>some ()
 |false=>none).isSome
theorem wR {K:Frag}(e:AS K=true) (h:Heap) (X:K.In h):h.NoLimit:=by
 obtain⟨_,e⟩:=Option.isSome_iff_exists.mp e;refine ai e fun o h1 e=>ai e fun p h2 e=>?_
 cases g:(p.1.toList.all fun e=>(i4 e.key).isSome)&&(nsFind p.1 "sys.recursionlimit").isNone with
 |false=>rw [g] at e; exact ac e
 |true=>
  have g:=Bool.and_eq_true_iff.mp g;exact⟨fun n=>nsFind p.1 n,⟨_,p.1,p.2,X _ _ h1,rm h2,fun x hx=>let ⟨q,hq⟩:=Option.isSome_iff_exists.mp (List.all_eq_true.mp g.1 x (Array.mem_toList_iff.mpr hx)); ⟨q.1,q.2,i5 hq⟩,fun _=>rfl⟩,Option.isNone_iff_eq_none.mp g.2⟩
structure zx (K0:Frag) (tabs:List (Addr×Addr)) (tab0:Addr→Array Value):Prop where
 tab:∀q∈tabs,zu (K1 K0 tabs) q.1=some (q.2,.type "code")∧K0.lookup q.2=some { cls:=.none,data:=.fields (tab0 q.2) }∧uy (K1 K0 tabs) (tab0 q.2).toList=true∧q.1≠q.2∧sysModules≠q.2
 inj:∀q∈tabs,∀p∈tabs,q.2=p.2→q.1=p.1
 blt:∃bm ob,nsIn (K1 K0 tabs) mainGlobals "__builtins__" = some (some (.ref bm))∧bm≠builtinsNs∧(K1 K0 tabs).lookup bm=some ob∧ob.cls = .type "module" ∧ ob.dict=some builtinsNs∧ob.data = .plain
 nm:∃v,nsIn (K1 K0 tabs) mainGlobals "__name__" = some (some v)
 lim:AS (K1 K0 tabs)=true
 sys:∃o,K0.lookup sysModules=some o
end Mini
set_option maxRecDepth 100000
set_option autoImplicit false
namespace Mini
open PySem PySem.W PyProof.Rows
section
variable {K0:Frag}{tabs:List (Addr×Addr)}{tab0:Addr→Array Value}
noncomputable def mkT (prog:Program) (w:World) (C:ce) (K0:Frag) (tabs:List (Addr×Addr)) (tab0:Addr→Array Value) (B:zx K0 tabs tab0) (os:OsState) (gens:Array GenState):TS where
 prog:=prog
 w:=w
 C:=C
 K:=K1 K0 tabs
 tabs:=tabs
 tab0:=tab0
 os:=os
 gens:=gens
 tabK:=fun _ _ h=>wQ (B.tab _ h).1
noncomputable def W0 (K:Frag) (a:Addr) (o:Obj) (tk:Nat):Wd:=⟨[],fun b=>if b=a then some o else K.lookup b,tk⟩
theorem uz {K:Frag}{a:Addr}{o:Obj}{tk:Nat}:(W0 K a o tk).fz a=some o:=if_pos rfl
theorem j6 {K:Frag}{a b:Addr}{o:Obj}{tk:Nat}(h:b≠a):(W0 K a o tk).fz b=K.lookup b:=if_neg h
theorem uE {P:Params}{h:Heap}{W:Wd}{n:Int}{v:Value}(e:Well P h v (ofPy (.int n))):VR P W (.int n) v:=by
 cases e; exact .mkI
theorem mX {P:Params}{h:Heap}{W:Wd}:∀{ns:List Int}{vs:List Value},WellAll P h vs (ofPys (ns.map PyData.int))→aB P W (ns.map .int) vs
 |[],_,e=>by cases e; exact .nil
 |n::ns,_,e=>by
  cases e with
  |cons h1 h2=>exact .cons (uE h1) (mX h2)
noncomputable def mY (K:Frag) (tabs:List (Addr×Addr)) (a b:Addr):Prop:=b≠a∧K.lookup b=none∧¬∃c,(c,b)∈tabs
open Classical in
noncomputable def A4 (K:Frag) (tabs:List (Addr×Addr)) (a:Addr) (h:Heap):Kn:=fun b=>if mY K tabs a b then h.get? b else none
theorem oY {K:Frag}{tabs:List (Addr×Addr)}{a b:Addr}{h:Heap}(x:mY K tabs a b):A4 K tabs a h b=h.get? b:=if_pos x
theorem qw {K:Frag}{tabs:List (Addr×Addr)}{a b:Addr}{h:Heap}(x:¬mY K tabs a b):A4 K tabs a h b=none:=if_neg x
theorem mZ {K:Frag}{tabs:List (Addr×Addr)}{a b:Addr}{h:Heap}{p:Obj}(e:A4 K tabs a h b=some p):mY K tabs a b∧h.get? b=some p:=
 Classical.byCases (fun x=>⟨x,(oY x).symm.trans e⟩) fun x=>b8 (qw x) e
theorem i7 {f:Addr→Bool}{b:Addr}{o:Obj}:∀{K:Frag},K.all (fun p=>f p.1)=true→K.lookup b=some o→f b=true
 |[],_,e=>ac e
 |(c,x)::K,h,e=>by
  have h:=Bool.and_eq_true_iff.mp h;rw [List.lookup_cons] at e;cases q:b==c with
  |true=>exact eq_of_beq q▸h.1
  |false=>rw [q] at e; exact i7 h.2 e
theorem wS {prog:Program}{w:World}{C:ce}{s:Shared}{ns:List Int}{a f:Addr}{n:Nat}{σ':H}(B:zx K0 tabs tab0) (F:Bu (mkT prog w C K0 tabs tab0 B s.os s.gens)) (X:K0.In s.heap)
  (hw:Well w.params s.heap (.ref a) (ofPy (PyData.list (ns.map PyData.int)))) (hk:K0.all (fun p=>Nat.blt p.1 a)=true) (ht:tabs.all (fun q=>Nat.blt q.2 a)=true) (hys:sysModules<a) (htk:0<s.toks) (hn:n≤200)
  (e:ab C n (.val (.ref f)) [.list (ns.map .int)] [] [] (.bool true) σ') :
  codeAny (model prog w) callerA (.call (.ref f) ⟨[.ref a],[]⟩) (fun r s'=>r = .ok (.ret (.bool true))∧OldK s.heap s'.heap∧s'.os=s.os∧s'.gens=s.gens) s:=by
 have hta:∀{b c},(c,b)∈tabs→b≠a:=fun h=>Nat.ne_of_lt (Nat.le_of_ble_eq_true (List.all_eq_true.mp ht _ h))
 obtain⟨vs,hl,hvs⟩:∃vs,s.heap.get? a=some { cls:=.type "list",data:=.seq vs.toArray }∧WellAll w.params s.heap vs (ofPys (ns.map PyData.int)):=by
  cases hw with
  |list h1 h2=>exact⟨_,h1,h2⟩
 generalize hT:mkT prog w C K0 tabs tab0 B s.os s.gens=T at F;have hos:s.os=T.os:=hT▸rfl;have hge:s.gens=T.gens:=hT▸rfl;have tK:T.K=K1 K0 tabs:=hT▸rfl;have tt:T.tabs=tabs:=hT▸rfl;have t0:T.tab0=tab0:=hT▸rfl;have KI:T.K.In s.heap:=fun b p e=>X _ _ (xq (tK▸e))
 have Ka:∀{b p},T.K.lookup b=some p→b≠a:=fun e=>Nat.ne_of_lt (Nat.le_of_ble_eq_true (i7 (f:=fun b=>Nat.blt b a) hk (xq (tK▸e))))
 have fz:∀b p,(W0 T.K a (ak vs 0) s.toks).fz b=some p→s.heap.get? b=some p:=fun b p e=>gX (fun h:b=a=>by rw [h,uz] at e; rw [h,hl]; exact e) fun h=>KI _ _ ((j6 h).symm.trans e)
 have tabAt:∀c P,(c,P)∈T.tabs→jd T (W0 T.K a (ak vs 0) s.toks) s.heap c P (tab0 P):=fun c P h=>by
  obtain⟨h1,h2,h3,h4,h5⟩:=B.tab _ (tt▸h);rw [←tK] at h1 h3;obtain⟨t1,t2⟩:=j5 h3;obtain⟨g1,g2⟩:=rl KI h1 (X _ _ h2) t1 h4;refine⟨g1,g2,t1,⟨#[],by rw [t0,Array.append_empty]⟩,fun pos c' e=>?_⟩
  obtain⟨c2,e2⟩:=t2 _ _ e;obtain⟨oc2,vs2,q,t,k1,k2,k3,k4⟩:=qv e2;exact⟨c2,oc2,vs2,q,t,k1,(j6 (Ka k2)).trans k2,k3,k4⟩
 have tabF:∀{b},fF T b→(W0 T.K a (ak vs 0) s.toks).fz b=none:=fun⟨c,hb⟩=>(j6 (hta (tt▸hb))).trans (tK▸zv ⟨c,tt▸hb⟩)
 have al:∀{b},mY T.K T.tabs a b→(W0 T.K a (ak vs 0) s.toks).fz b=none:=fun x=>(j6 x.1).trans x.2.1
 have R:aI T (W0 T.K a (ak vs 0) s.toks) (A4 T.K T.tabs a s.heap) [] s:=by
  refine⟨fz,fun b p e=>(mZ e).2,rfl,fun i x b e=>(nomatch e),List.nodup_nil,fun b hb=>(nomatch hb),fun b p e=>al (mZ e).1,fun b p e=>(j6 (Ka e)).trans e,fun c P h=>⟨_,tabAt c P h⟩,fun b h=>⟨tabF h,qw fun x=>x.2.2 h⟩,hos,hge,?_,htk,Nat.le_refl _⟩
  obtain⟨p,hp⟩:=B.sys;exact⟨p,(oY ⟨Nat.ne_of_lt hys,tK▸zw,fun⟨c,h⟩=>(B.tab _ (tt▸h)).2.2.2.2 rfl⟩).trans (X _ _ hp)⟩
 have hv:VR T.P (W0 T.K a (ak vs 0) s.toks) (.list (ns.map .int)) (.ref a):=.mkL (ep:=0) uz (mX (by rw [←hT]; exact hvs))
 have r0:an callerA n:=⟨rfl,Nat.le_trans (Nat.add_le_add (show callerA.depth≤400 by decide +kernel) hn) (by decide),Nat.le_trans (Nat.add_le_add (show callerA.units≤4 by decide +kernel) (Nat.mul_le_mul_left 40 hn)) (by decide)⟩
 have go:=(mU F (by rw [←hT]; rfl) n).ok e R r0 (.mkU (u:=.ref f)) (.cons hv .nil) .nil (RR:=fun r s'=>r = .ok (.ret (.bool true))∧OldK s.heap s'.heap∧s'.os=s.os∧s'.gens=s.gens) fun W' v' s' L h1 R'=>by
  have kept:∀b p,s.heap.get? b=some p→fF T b∨s'.heap.get? b=some p:=fun b p e=>by
   refine gX (d:=Classical.propDecidable _) .inl fun hb:¬fF T b=>.inr ?_
   cases hz:(W0 T.K a (ak vs 0) s.toks).fz b with
   |none=>
    have ne:b≠a:=fun q=>b8 hz (by rw [q]; exact uz)
    exact R'.prIn b p ((oY ⟨ne,(j6 ne).symm.trans hz,hb⟩).trans e)
   |some p'=>exact R'.fzIn _ _ ((L.fz _ _ hz).trans ((fz _ _ hz).symm.trans e))
  refine h1.b ⟨rfl,⟨fun b p e=>?_,fun b p e=>?_⟩,R'.os.trans hos.symm,R'.gens.trans hge.symm⟩
  ·refine (kept b p e).elim (fun⟨c,hb⟩=>?_) .inl
   obtain⟨ps,r⟩:=R'.tab c b hb;obtain⟨m,hm⟩:=r.more;have t0':=tabAt c b hb;have:=t0'.tab.2;rw [e] at this;cases this;exact .inr (.inl ⟨t0'.tab.isCodeTable,rfl,tab0 b,m,rfl,by rw [r.tab.2,hm,t0]⟩)
  ·exact (kept b p e).elim (fun⟨c,hb⟩=>let ⟨ps,r⟩:=R'.tab c b hb; ⟨_,r.tab.2⟩) fun h=>⟨_,h⟩
 rw [←hT] at go;exact go
end
end Mini
set_option maxRecDepth 100000
set_option autoImplicit false
namespace Mini
open PySem PySem.W PyProof.Rows Builtin Builtin.Re
noncomputable def lx (K0:Frag) (P:Addr):Array Value:=((K0.lookup P).bind fun o=>eq o.data).getD #[]
noncomputable def xr:Array Nat:=#[14,10,4,1,1,22,0,31,16,127,0,13,7,22,0,31,16,127,0,1]
noncomputable def xt:Array Nat:=#[14,14,4,1,1,9,4294966783,0,0,2147483648,0,0,0,0,0,13,11,9,4294966783,0,0,2147483648,0,0,0,0,0,1]
noncomputable def zy (K:Frag) (a:Addr):Option (Array Nat):=(K.lookup a).bind fun o=>(eq o.data).bind fun vs=>(i3 (vs.getD 5 .none)).bind fun c=>(K.lookup c).bind fun p=>(mW p.data).bind fun q=>
 match o.cls == .type "re.Pattern" && o.dict.isNone && !Nat.beq (reRawNat (vs.getD 6 .none)) 1 with
 |true=>some ((q.1.map reRawOf).map (·.toNat))
 |false=>none
noncomputable def xu (r:Except String (Bool×Sre.Seen)):Bool:=match r with
 |.ok p=>!p.1
 |.error _=>false
theorem uF {r:Except String (Bool×Sre.Seen)}(h:xu r=true):∃seen,r = .ok (false,seen):=by
 match r,h with
 |.ok (false,seen),_=>exact⟨seen,rfl⟩
theorem uG {code:Array Nat}(h1:Sre.ops[code.getD 0 0]? = some .INFO) (h2:code.getD 2 0=4) (h3:code.getD 3 0=1) (h:∀seen,(List.range 127).all (fun c=>!mG c||xu (Sre.inSet code c code.size 5 true seen))=true):cQ code mG:=
 ⟨h1,h2,h3,fun c hc seen=>by
  have x:=List.all_eq_true.mp (h seen) c (List.mem_range.mpr (Nat.lt_succ_of_le (Nat.le_of_ble_eq_true (Bool.and_eq_true_iff.mp hc).2)));rw [hc] at x;exact uF x⟩
theorem Bw:cQ xr mG:=uG (by kernel_rfl) (by decide +kernel) (by decide +kernel) fun seen=>by kernel_rfl
theorem Bx:cQ xt mG:=uG (by kernel_rfl) (by decide +kernel) (by decide +kernel) fun seen=>by kernel_rfl
theorem oZ {α β:Type}{f g:α→β}{l:List α}(e:l.map f=l.map g):∀x∈l,f x=g x:=fun x h=>by
 exact List.map_inj_left.mp e x h
noncomputable def m0 (K:Frag) (n:Str):Option Value:=(nsIn K mainGlobals n).bind fun o=>match o with
 |some v=>some v
 |none=>(nsIn K builtinsNs n).bind fun o=>o
theorem m6 {T:TS}{n:Str}{v:Value}(e:m0 T.K n=some v):gj T n v:=ai e fun o h e=>by
 cases o with
 |some u=>exact .inl (h.trans (congrArg some e))
 |none=>exact ai e fun o h2 e=>.inr ⟨h,h2.trans (congrArg some e)⟩
theorem j7 {n:Str}{v:V}:∀{l:List (String×Value)},rQ n l=some v→∃p∈l,Str.ofString p.1=n∧V.val p.2=v
 |[],e=>ac e
 |(k,a)::r,e=>eg (k:=Str.ofString k) (n:=n) (M:=fun z=>z=some v→∃p∈(k,a)::r,Str.ofString p.1=n∧V.val p.2=v) (fun h e=>⟨_,List.mem_cons_self,h,Option.some.inj e⟩)
   (fun _ e=>let ⟨p,h1,h2⟩:=j7 e; ⟨p,List.mem_cons_of_mem _ h1,h2⟩) e
theorem wT {T:TS}{l:List (String×Value)}(h1:(l++lL++builtins).map (fun p=>m0 T.K (Str.ofString p.1))=(l++lL++builtins).map (fun p=>some p.2)) (h2:∃t,m0 T.K "_DIV_LIMIT" = some (.int 4000 t))
  (nm:Str) (v:V) (e:rR l nm=some v):∃v',gj T nm v'∧∀W,VR T.P W v v':=
 eg (k:= "_DIV_LIMIT") (n:=nm) (M:=fun z=>z=some v→∃v',gj T nm v'∧∀W,VR T.P W v v') (fun h e=>Option.some.inj e▸h▸let ⟨_,ht⟩:=h2; ⟨_,m6 ht,fun _=>.mkI⟩)
  (fun _ e=>by obtain⟨p,h5,rfl,rfl⟩:=j7 e; exact⟨_,m6 (oZ h1 p h5),fun _=>.mkU⟩) e
theorem qx {K:Frag}{a:Addr}{code:Array Nat}{good:Nat→Bool}(e:zy K a=some code) (N:cQ code good):uh K a code good:=
 ai e fun o h e=>ai e fun vs h1 e=>ai e fun c h2 e=>ai e fun p h3 e=>ai e fun q h4 e5=>by
  cases g:o.cls == .type "re.Pattern" && o.dict.isNone && !Nat.beq (reRawNat (vs.getD 6 .none)) 1 with
  |false=>rw [g] at e5; exact ac e5
  |true=>
   rw [g] at e5;have g:=Bool.and_eq_true_iff.mp g;have g1:=Bool.and_eq_true_iff.mp g.1;obtain⟨cl,d,da,sl⟩:=o;cases eq_of_beq g1.1;cases Option.isNone_iff_eq_none.mp g1.2;cases cS h1;exact⟨⟨vs,sl,c,q.1,h,eu h2,⟨_,_,h3,i6 h4⟩,Option.some.inj e5,fun z=>Bool.false_ne_true ((congrArg (fun n=>!Nat.beq n 1) z).symm.trans g.2)⟩,N⟩
noncomputable def By (tabs:List (Addr×Addr)) (r:zC):Bool:=r.o.isEmpty||tabs.any fun q=>Nat.beq q.1 (r.a - 1)
theorem m7 {top hb:List Stmt}{a:Addr}{fi:qy}:∀{l:List zC},rP top hb l a=some fi→∃r∈l,r.a=a∧lK top hb r=some fi
 |[],e=>ac e
 |r::l,e=>by
  have e:(match Nat.beq r.a a with | true=>lK top hb r | false=>rP top hb l a)=some fi:=e
  cases h:Nat.beq r.a a with
  |true=>rw [h] at e; exact⟨r,List.mem_cons_self,Nat.eq_of_beq_eq_true h,e⟩
  |false=>rw [h] at e; exact let ⟨x,h1,h2⟩:=m7 e; ⟨x,List.mem_cons_of_mem _ h1,h2⟩
theorem wU {T:TS}{top hb:List Stmt}{l:List zC}(hE:l.map (fun r=>Bv T.K r.a)=l.map fun r=>(lK top hb r).map fun fi=>⟨fi.params,.stmts fi.body,fi.scope,mainGlobals,builtinsNs,[],r.a - 1,fi.dn⟩) (hD:l.all (By T.tabs)=true)
  {a:Addr}{fi:qy}(e:rP top hb l a=some fi):∃o fd,ut T a fi o fd:=by
 obtain⟨r,hr,rfl,e1⟩:=m7 e;have h1:=oZ hE r hr;rw [e1] at h1;obtain⟨x,_,rfl⟩:=Option.map_eq_some_iff.mp e1;exact wP h1 ((Bool.or_eq_true_iff.mp (List.all_eq_true.mp hD r hr)).imp List.isEmpty_iff.mp fun h=>let ⟨q,h7,h8⟩:=List.any_eq_true.mp h; ⟨q.2,(Nat.eq_of_beq_eq_true h8:q.1=r.a - 1)▸h7⟩)
structure AT (K:Frag) (c:Addr) (ms:List (Str×Addr)):Prop where
 ga:findIn K (.ref c) "__getattribute__" = some (some (.builtin "object.__getattribute__"))
 gt:findIn K (.ref c) "__getattr__" = some none
 sa:findIn K (.ref c) "__setattr__" = some (some (.builtin "object.__setattr__"))
 po:plainOver K c=true
 cd:(clsIn K c).any (·.hasDict)=true
 own:findIn K (.ref c) "_headers" = some none
 ms:ms.map (fun p=>(findIn K (.ref c) p.1,typeIn K (.ref p.2),ck p.1 cI))=ms.map fun p=>(some (some (.ref p.2)),some (.type "function"),false)
 make:makesIn K c=true
 notSeq:noSeq K c=true
theorem zz {T:TS}{c:Addr}{ms:List (Str×Addr)}(X:AT T.K c ms):mi T c ms:=
 ⟨X.ga,X.gt,X.sa,X.po,X.cd,X.own,fun p hp=>let h:=oZ X.ms p hp; ⟨(Prod.mk.inj h).1,(Prod.mk.inj (Prod.mk.inj h).2).1,(Prod.mk.inj (Prod.mk.inj h).2).2⟩,X.make,X.notSeq⟩
end Mini
set_option maxRecDepth 100000
set_option autoImplicit false
namespace Mini
open PySem PySem.W PyProof.Rows Builtin Builtin.Re
noncomputable def tabs1:List (Addr×Addr):=[(208,204),(215,211),(294,290)]
noncomputable def BT:List (Str×Addr):=[("__init__",76),("_convert_string_type",83),("__setitem__",97),("__delitem__",102),("get",131),("items",148),("keys",136),("add_header",181)]
structure AU (K0:Frag):Prop where
 base:zx K0 tabs1 (lx K0)
 refs:(nF++lL++builtins).map (fun p=>m0 (K1 K0 tabs1) (Str.ofString p.1))=(nF++lL++builtins).map (fun p=>some p.2)
 lim:∃t,m0 (K1 K0 tabs1) "_DIV_LIMIT" = some (.int 4000 t)
 cls:AT (K1 K0 tabs1) 184 BT
 rx1:zy (K1 K0 tabs1) 48=some xr
 rx2:zy (K1 K0 tabs1) 53=some xt
 fnE:fnT1.map (fun r=>Bv (K1 K0 tabs1) r.a)=fnT1.map fun r=>(lK xD BA r).map fun fi=>⟨fi.params,.stmts fi.body,fi.scope,mainGlobals,builtinsNs,[],r.a - 1,fi.dn⟩
section
variable {K0:Frag}{prog:Program}{w:World}{os:OsState}{gens:Array GenState}
theorem B6 (X:AU K0):Bu (mkT prog w C1 K0 tabs1 (lx K0) X.base os gens) where
 glob:=fun nm v e=>wT (T:=mkT prog w C1 K0 tabs1 (lx K0) X.base os gens) X.refs X.lim nm v e
 cls:=fun c ms e=>by
  have e':(if c=184 then some BT else none)=some ms:=e
  by_cases h:c=184
  ·rw [if_pos h] at e'; exact h▸Option.some.inj e'▸zz X.cls
  ·rw [if_neg h] at e'; cases e'
 rex:=fun a e=>by
  have e':(a==48||a==53)=true:=e
  rcases Bool.or_eq_true_iff.mp e' with h | h
  ·exact⟨_,eq_of_beq h▸qx X.rx1 Bw⟩
  ·exact⟨_,eq_of_beq h▸qx X.rx2 Bx⟩
 tabs:=fun c c' P h h'=>X.base.inj _ h _ h' rfl
 blt:=X.base.blt
 nm:=X.base.nm
 lim:=fun h i=>wR X.base.lim h i
 fns:=fun a fi e=>wU (T:=mkT prog w C1 K0 tabs1 (lx K0) X.base os gens) X.fnE (by kernel_rfl) e
end
end Mini
set_option maxRecDepth 100000
set_option autoImplicit false
namespace Mini
open PySem PySem.W PyProof.Rows
theorem wV {M:Model}{c:ClaimW}{cl:Str→Option Addr}{mean:ExcName→Option Value}{args:List WData}{s:Shared}{f a:Addr}
  (h:codeAny M callerA (.call (.ref f) ⟨[.ref a],[]⟩) (fun r s'=>r = .ok (.ret (.bool true))∧OldK s.heap s'.heap∧s'.os=s.os∧s'.gens=s.gens) s)
  (hr:∀cls,c.raises args cls=false) (hp:c.post args (.bool true) args=true) (hg:s.gens = #[]) :
  wpAny M callerA ((fun f vs=>PySem.call f vs) (.ref f) [.ref a]) (fun v s'=>GoodWG c cl mean args s (.ok (.ret v)) s') (fun e s'=>GoodWG c cl mean args s (.error e) s') s:=by
 show wpAny M callerA (PySem.call (.ref f) [.ref a] []) _ _ s;refine enter_call (codeAny_mono h fun r s'=>?_)
 rintro⟨rfl,h1,h2,h3⟩;exact⟨.inl ⟨_,_,[],rfl,hr,.bool true,hp,unshared_nil⟩,h1,h2,.of_eq (h3.trans hg)⟩
end Mini
set_option autoImplicit false
namespace Mini
open PySem PySem.W PyProof.Rows PySem.W.X PySem.W.ZRun
theorem fin1 {K0:Frag}{w:World}{c:ClaimW}{cl:Str→Option Addr}{mean:ExcName→Option Value}{args:List WData}{s:Shared}{ns:List Int}(X:K0.In s.heap) (F:AU K0)
  (hw:Well w.params s.heap (.ref 332) (ofPy (PyData.list (ns.map PyData.int)))) (hl:ns.length≤63) (hk:K0.all (fun p=>Nat.blt p.1 332)=true) (htk:0<s.toks)
  (hr:∀cls,c.raises args cls=false) (hp:c.post args (.bool true) args=true) (hg:s.gens = #[]) :
  wpAny (model PySem.Challenge.pw_wb0097_02 w) callerA ((fun f vs=>PySem.call f vs) (.ref 331) [.ref 332]) (fun v s'=>GoodWG c cl mean args s (.ok (.ret v)) s') (fun e s'=>GoodWG c cl mean args s (.error e) s') s:=by
 obtain⟨n,σ',hn,e⟩:=AJ hl;exact wV (wS F.base (B6 F) X hw hk (by decide +kernel) (by decide +kernel) htk hn e) hr hp hg
noncomputable def whole.tw100525219987164433:Nat:=0
noncomputable def whole.tw10177745285917376119:Nat:=0
noncomputable def whole.tw10192662428023682922:Nat:=0
noncomputable def whole.tw10196896041362512634:Nat:=0
noncomputable def whole.tw10214031327628907337:Nat:=0
noncomputable def whole.tw10311187600901580620:Nat:=0
noncomputable def whole.tw10401725221589673216:Nat:=0
noncomputable def whole.tw1041451544320245145:Nat:=0
noncomputable def whole.tw10424345143041676027:Nat:=0
noncomputable def whole.tw10429975876215120363:Nat:=0
noncomputable def whole.tw10445885629933755956:Nat:=0
noncomputable def whole.tw10634039594144095230:Nat:=0
noncomputable def whole.tw10649478349833226621:Nat:=0
noncomputable def whole.tw10684244048356727779:Nat:=0
noncomputable def whole.tw10763709386788938123:Nat:=0
noncomputable def whole.tw10798050395950770195:Nat:=0
noncomputable def whole.tw10813552318987415155:Nat:=0
noncomputable def whole.tw10996982456572497432:Nat:=0
noncomputable def whole.tw11011884415460183599:Nat:=0
noncomputable def whole.tw11018921222539158444:Nat:=0
noncomputable def whole.tw11066077238675311559:Nat:=0
noncomputable def whole.tw11086174493179754596:Nat:=0
noncomputable def whole.tw11217229645058371298:Nat:=0
noncomputable def whole.tw11231758143160683121:Nat:=0
noncomputable def whole.tw11343417580900747263:Nat:=0
noncomputable def whole.tw11399933198798575664:Nat:=0
noncomputable def whole.tw11405285487273831121:Nat:=0
noncomputable def whole.tw11428120239660707178:Nat:=0
noncomputable def whole.tw11484467525873868595:Nat:=0
noncomputable def whole.tw11515457373158816396:Nat:=0
noncomputable def whole.tw11554279419129281194:Nat:=0
noncomputable def whole.tw1156092462857121744:Nat:=0
noncomputable def whole.tw11562739870694616872:Nat:=0
noncomputable def whole.tw11603116404829355739:Nat:=0
noncomputable def whole.tw11632851275228089179:Nat:=0
noncomputable def whole.tw11705411207370355087:Nat:=0
noncomputable def whole.tw1171657408870734396:Nat:=0
noncomputable def whole.tw11725404403919838460:Nat:=0
noncomputable def whole.tw11726214195217984283:Nat:=0
noncomputable def whole.tw11731806153776488833:Nat:=0
noncomputable def whole.tw11818903509139860317:Nat:=0
noncomputable def whole.tw11849786779990783241:Nat:=0
noncomputable def whole.tw11875402681645467634:Nat:=0
noncomputable def whole.tw11985404749125776491:Nat:=0
noncomputable def whole.tw12038195141505480908:Nat:=0
noncomputable def whole.tw12103831483701153971:Nat:=0
noncomputable def whole.tw12167971639432686135:Nat:=0
noncomputable def whole.tw12231772283784836440:Nat:=0
noncomputable def whole.tw12234559217156712520:Nat:=0
noncomputable def whole.tw12245998949284535792:Nat:=0
noncomputable def whole.tw12269209291074875931:Nat:=0
noncomputable def whole.tw12316050759449161222:Nat:=0
noncomputable def whole.tw12321606786598249389:Nat:=0
noncomputable def whole.tw12321967840488946581:Nat:=0
noncomputable def whole.tw12359774751255394506:Nat:=0
noncomputable def whole.tw12591391908687539537:Nat:=0
noncomputable def whole.tw12642685118927342365:Nat:=0
noncomputable def whole.tw12845980293275623359:Nat:=0
noncomputable def whole.tw12894273858882170918:Nat:=0
noncomputable def whole.tw12931566445766680164:Nat:=0
noncomputable def whole.tw12945640520981175259:Nat:=0
noncomputable def whole.tw13010960515977736215:Nat:=0
noncomputable def whole.tw1303832853461939220:Nat:=0
noncomputable def whole.tw1305168100686725875:Nat:=0
noncomputable def whole.tw13092292359349227919:Nat:=0
noncomputable def whole.tw13129823521452970459:Nat:=0
noncomputable def whole.tw13167434403993326456:Nat:=0
noncomputable def whole.tw13168046407698355445:Nat:=0
noncomputable def whole.tw13184522169148131606:Nat:=0
noncomputable def whole.tw13190925043749171044:Nat:=0
noncomputable def whole.tw13206288747280920272:Nat:=0
noncomputable def whole.tw13226897312429950469:Nat:=0
noncomputable def whole.tw1328326768641707829:Nat:=0
noncomputable def whole.tw1332962104856777419:Nat:=0
noncomputable def whole.tw13333698240246659760:Nat:=0
noncomputable def whole.tw13360546842762743987:Nat:=0
noncomputable def whole.tw13444388266476285636:Nat:=0
noncomputable def whole.tw13458068752891852606:Nat:=0
noncomputable def whole.tw13518535962045598924:Nat:=0
noncomputable def whole.tw13608577594518653761:Nat:=0
noncomputable def whole.tw13614538275330990383:Nat:=0
noncomputable def whole.tw13633556593791970380:Nat:=0
noncomputable def whole.tw13665724536932363898:Nat:=0
noncomputable def whole.tw13687742708228546840:Nat:=0
noncomputable def whole.tw13697293717464441264:Nat:=0
noncomputable def whole.tw13707510707454565933:Nat:=0
noncomputable def whole.tw13750162761745765947:Nat:=0
noncomputable def whole.tw13789339928808891705:Nat:=0
noncomputable def whole.tw13801282578196739702:Nat:=0
noncomputable def whole.tw13820554884416954159:Nat:=0
noncomputable def whole.tw13855502896133742890:Nat:=0
noncomputable def whole.tw13881504926584166998:Nat:=0
noncomputable def whole.tw1388244920352287226:Nat:=0
noncomputable def whole.tw13902070993329908100:Nat:=0
noncomputable def whole.tw13915858180349984236:Nat:=0
noncomputable def whole.tw13918213349677824864:Nat:=0
noncomputable def whole.tw1397139789774869507:Nat:=0
noncomputable def whole.tw14080482909387761973:Nat:=0
noncomputable def whole.tw14129026396418374350:Nat:=0
noncomputable def whole.tw14141445747875766885:Nat:=0
noncomputable def whole.tw14160060793677273743:Nat:=0
noncomputable def whole.tw14378630050563174675:Nat:=0
noncomputable def whole.tw14400628449037962974:Nat:=0
noncomputable def whole.tw14426558311996129366:Nat:=0
noncomputable def whole.tw14432453099118455737:Nat:=0
noncomputable def whole.tw14441349162432427441:Nat:=0
noncomputable def whole.tw14445781229263574522:Nat:=0
noncomputable def whole.tw14456578817721827722:Nat:=0
noncomputable def whole.tw14474067319533001942:Nat:=0
noncomputable def whole.tw14502431548546506201:Nat:=0
noncomputable def whole.tw14512545120795355369:Nat:=0
noncomputable def whole.tw14513623212045615672:Nat:=0
noncomputable def whole.tw14513709287655724470:Nat:=0
noncomputable def whole.tw14863403095815637549:Nat:=0
noncomputable def whole.tw14871349993631937127:Nat:=0
noncomputable def whole.tw14942465633942866278:Nat:=0
noncomputable def whole.tw14998842176355125157:Nat:=0
noncomputable def whole.tw15007828694655843425:Nat:=0
noncomputable def whole.tw15056729448559769171:Nat:=0
noncomputable def whole.tw15057780075226569320:Nat:=0
noncomputable def whole.tw1505879842715875574:Nat:=0
noncomputable def whole.tw15133951117829596103:Nat:=0
noncomputable def whole.tw15172655760067252398:Nat:=0
noncomputable def whole.tw15176102613010730504:Nat:=0
noncomputable def whole.tw15181568519516464131:Nat:=0
noncomputable def whole.tw15202159015085650436:Nat:=0
noncomputable def whole.tw15213908333408685120:Nat:=0
noncomputable def whole.tw15223483918221135208:Nat:=0
noncomputable def whole.tw152348523844520871:Nat:=0
noncomputable def whole.tw1528067338576848340:Nat:=0
noncomputable def whole.tw15297050514903694601:Nat:=0
noncomputable def whole.tw1532341921366063461:Nat:=0
noncomputable def whole.tw15328796767780680825:Nat:=0
noncomputable def whole.tw1540374786896679202:Nat:=0
noncomputable def whole.tw15405702105165648152:Nat:=0
noncomputable def whole.tw1541004787403289057:Nat:=0
noncomputable def whole.tw15486629969813964773:Nat:=0
noncomputable def whole.tw1549835570528545169:Nat:=0
noncomputable def whole.tw15592013384702229729:Nat:=0
noncomputable def whole.tw15622303315712921236:Nat:=0
noncomputable def whole.tw15628935133244036261:Nat:=0
noncomputable def whole.tw15631964256563843308:Nat:=0
noncomputable def whole.tw15672712342542000767:Nat:=0
noncomputable def whole.tw15708681855149302546:Nat:=0
noncomputable def whole.tw15721518231913134306:Nat:=0
noncomputable def whole.tw15742224459869401189:Nat:=0
noncomputable def whole.tw15778080789154159158:Nat:=0
noncomputable def whole.tw15921402551195144728:Nat:=0
noncomputable def whole.tw15969259215026082376:Nat:=0
noncomputable def whole.tw1602978203084067493:Nat:=0
noncomputable def whole.tw16031089159003458977:Nat:=0
noncomputable def whole.tw16050154154168481446:Nat:=0
noncomputable def whole.tw16136001716117694563:Nat:=0
noncomputable def whole.tw16165692344258876716:Nat:=0
noncomputable def whole.tw16188608536229922321:Nat:=0
noncomputable def whole.tw16212416724203608372:Nat:=0
noncomputable def whole.tw16255878642718303474:Nat:=0
noncomputable def whole.tw16328825189963547700:Nat:=0
noncomputable def whole.tw16378689791802660690:Nat:=0
noncomputable def whole.tw16395509675608965231:Nat:=0
noncomputable def whole.tw16401275031959007780:Nat:=0
noncomputable def whole.tw16447091294538837713:Nat:=0
noncomputable def whole.tw16458837496734658811:Nat:=0
noncomputable def whole.tw16482511494576163275:Nat:=0
noncomputable def whole.tw16513044306403880560:Nat:=0
noncomputable def whole.tw16583169859183439262:Nat:=0
noncomputable def whole.tw16592395276234805451:Nat:=0
noncomputable def whole.tw16626126215499473995:Nat:=0
noncomputable def whole.tw16706461628167485924:Nat:=0
noncomputable def whole.tw1671994054672079721:Nat:=0
noncomputable def whole.tw16765862526329735573:Nat:=0
noncomputable def whole.tw16794282373334157397:Nat:=0
noncomputable def whole.tw1679989347517795731:Nat:=0
noncomputable def whole.tw1681313773921011566:Nat:=0
noncomputable def whole.tw16872534231873959254:Nat:=0
noncomputable def whole.tw16948434976645708562:Nat:=0
noncomputable def whole.tw16956851444247250897:Nat:=0
noncomputable def whole.tw17111385332642685070:Nat:=0
noncomputable def whole.tw17134675828652839865:Nat:=0
noncomputable def whole.tw17153136065946284394:Nat:=0
noncomputable def whole.tw17215818801163974774:Nat:=0
noncomputable def whole.tw17218856696096999406:Nat:=0
noncomputable def whole.tw17255483837200743032:Nat:=0
noncomputable def whole.tw17273287534510640822:Nat:=0
noncomputable def whole.tw17275214567982475637:Nat:=0
noncomputable def whole.tw17302568582470885907:Nat:=0
noncomputable def whole.tw17303850531444302938:Nat:=0
noncomputable def whole.tw17307025279892804104:Nat:=0
noncomputable def whole.tw17313979553689277991:Nat:=0
noncomputable def whole.tw17370983674241059299:Nat:=0
noncomputable def whole.tw174268103762458515:Nat:=0
noncomputable def whole.tw17471828327580294996:Nat:=0
noncomputable def whole.tw17528586615240443123:Nat:=0
noncomputable def whole.tw17532668884886341597:Nat:=0
noncomputable def whole.tw17536659492447745650:Nat:=0
noncomputable def whole.tw17543424101326467166:Nat:=0
noncomputable def whole.tw17571310114122223562:Nat:=0
noncomputable def whole.tw17576196153655584966:Nat:=0
noncomputable def whole.tw17641323014368922606:Nat:=0
noncomputable def whole.tw1767943233802879250:Nat:=0
noncomputable def whole.tw17687907484126522108:Nat:=0
noncomputable def whole.tw17707386186679870327:Nat:=0
noncomputable def whole.tw17744771783109879542:Nat:=0
noncomputable def whole.tw17763556781464471818:Nat:=0
noncomputable def whole.tw17778602200627111945:Nat:=0
noncomputable def whole.tw17799598710126066863:Nat:=0
noncomputable def whole.tw17804991012869352702:Nat:=0
noncomputable def whole.tw17815186389027437854:Nat:=0
noncomputable def whole.tw17917015777542420231:Nat:=0
noncomputable def whole.tw18010671597440835551:Nat:=0
noncomputable def whole.tw18056415625495719187:Nat:=0
noncomputable def whole.tw18071250728544486461:Nat:=0
noncomputable def whole.tw18073946456978612728:Nat:=0
noncomputable def whole.tw18083915938077515974:Nat:=0
noncomputable def whole.tw18111085432357240570:Nat:=0
noncomputable def whole.tw1813885144667663716:Nat:=0
noncomputable def whole.tw18142456566925739729:Nat:=0
noncomputable def whole.tw1821372280900832760:Nat:=0
noncomputable def whole.tw18238888044761354685:Nat:=0
noncomputable def whole.tw182637261296805192:Nat:=0
noncomputable def whole.tw18353287583782274045:Nat:=0
noncomputable def whole.tw18381109432307448171:Nat:=0
noncomputable def whole.tw18391450353229900882:Nat:=0
noncomputable def whole.tw18400677526108204456:Nat:=0
noncomputable def whole.tw1851285406954816643:Nat:=0
noncomputable def whole.tw1903466576892677908:Nat:=0
noncomputable def whole.tw193193045041187027:Nat:=0
noncomputable def whole.tw1943502901707348638:Nat:=0
noncomputable def whole.tw2074515581456130965:Nat:=0
noncomputable def whole.tw2095732299457982097:Nat:=0
noncomputable def whole.tw2168910128219577252:Nat:=0
noncomputable def whole.tw2195429226207914377:Nat:=0
noncomputable def whole.tw2201449405158785614:Nat:=0
noncomputable def whole.tw224958294690757540:Nat:=0
noncomputable def whole.tw2347303062975841053:Nat:=0
noncomputable def whole.tw2354835681705408200:Nat:=0
noncomputable def whole.tw2457266497905906002:Nat:=0
noncomputable def whole.tw2481431778289826680:Nat:=0
noncomputable def whole.tw2503949156321187250:Nat:=0
noncomputable def whole.tw2622311806305098378:Nat:=0
noncomputable def whole.tw2655006945047202698:Nat:=0
noncomputable def whole.tw2663128692585028165:Nat:=0
noncomputable def whole.tw2669527330934943398:Nat:=0
noncomputable def whole.tw2718181598320162581:Nat:=0
noncomputable def whole.tw2725039042602596355:Nat:=0
noncomputable def whole.tw2753677962082796470:Nat:=0
noncomputable def whole.tw2785478593859396797:Nat:=0
noncomputable def whole.tw2803041097591430735:Nat:=0
noncomputable def whole.tw2804913002961594867:Nat:=0
noncomputable def whole.tw2809143149407844436:Nat:=0
noncomputable def whole.tw2834326551153514606:Nat:=0
noncomputable def whole.tw2872469549291975290:Nat:=0
noncomputable def whole.tw2875566880725855108:Nat:=0
noncomputable def whole.tw2884445637967556218:Nat:=0
noncomputable def whole.tw2889734802096430296:Nat:=0
noncomputable def whole.tw2930077493205774495:Nat:=0
noncomputable def whole.tw2951537893178167319:Nat:=0
noncomputable def whole.tw2963123752101556958:Nat:=0
noncomputable def whole.tw2989050167295909693:Nat:=0
noncomputable def whole.tw2990963737736358633:Nat:=0
noncomputable def whole.tw3002413185684233361:Nat:=0
noncomputable def whole.tw3013888144785306828:Nat:=0
noncomputable def whole.tw3019903438780982809:Nat:=0
noncomputable def whole.tw3147575978955280965:Nat:=0
noncomputable def whole.tw3147990178280057222:Nat:=0
noncomputable def whole.tw3196671771891004237:Nat:=0
noncomputable def whole.tw3206766129145410662:Nat:=0
noncomputable def whole.tw3234901083507134500:Nat:=0
noncomputable def whole.tw3261243628248877634:Nat:=0
noncomputable def whole.tw3285925799758492476:Nat:=0
noncomputable def whole.tw3288240815953750037:Nat:=0
noncomputable def whole.tw3339760696780586144:Nat:=0
noncomputable def whole.tw3344218789066220319:Nat:=0
noncomputable def whole.tw3374981997479133436:Nat:=0
noncomputable def whole.tw3386663740263117532:Nat:=0
noncomputable def whole.tw3482266855073886707:Nat:=0
noncomputable def whole.tw3498685741748189687:Nat:=0
noncomputable def whole.tw351323808410213101:Nat:=0
noncomputable def whole.tw3527138847087533242:Nat:=0
noncomputable def whole.tw3559398662778809387:Nat:=0
noncomputable def whole.tw362758154224434536:Nat:=0
noncomputable def whole.tw3657076849150176045:Nat:=0
noncomputable def whole.tw3765032386552320778:Nat:=0
noncomputable def whole.tw3767945768869244833:Nat:=0
noncomputable def whole.tw3836543943641115898:Nat:=0
noncomputable def whole.tw3848320096362563661:Nat:=0
noncomputable def whole.tw3873940248733101646:Nat:=0
noncomputable def whole.tw3876386946614790052:Nat:=0
noncomputable def whole.tw3885386845890396816:Nat:=0
noncomputable def whole.tw3904535683050800701:Nat:=0
noncomputable def whole.tw402740643927157278:Nat:=0
noncomputable def whole.tw4048460332823820039:Nat:=0
noncomputable def whole.tw4081939489006101842:Nat:=0
noncomputable def whole.tw409480937731793384:Nat:=0
noncomputable def whole.tw4172736159109033999:Nat:=0
noncomputable def whole.tw4212863917744370228:Nat:=0
noncomputable def whole.tw4313823872437594865:Nat:=0
noncomputable def whole.tw4522970931702408277:Nat:=0
noncomputable def whole.tw4637679874760369618:Nat:=0
noncomputable def whole.tw4667608047070731805:Nat:=0
noncomputable def whole.tw4689697299729229135:Nat:=0
noncomputable def whole.tw4713146897759135951:Nat:=0
noncomputable def whole.tw4718653370171006330:Nat:=0
noncomputable def whole.tw4803799187271953120:Nat:=0
noncomputable def whole.tw4811155974004378156:Nat:=0
noncomputable def whole.tw4884957220402807979:Nat:=0
noncomputable def whole.tw4886583513796760415:Nat:=0
noncomputable def whole.tw494942448052025777:Nat:=0
noncomputable def whole.tw4955780164535991892:Nat:=0
noncomputable def whole.tw498792302013318481:Nat:=0
noncomputable def whole.tw5012873394975296996:Nat:=0
noncomputable def whole.tw5045213970190049984:Nat:=0
noncomputable def whole.tw5072033344730212325:Nat:=0
noncomputable def whole.tw5134545748370076754:Nat:=0
noncomputable def whole.tw5144259086866281897:Nat:=0
noncomputable def whole.tw5215146443567630233:Nat:=0
noncomputable def whole.tw529588372269012608:Nat:=0
noncomputable def whole.tw5298195829987922856:Nat:=0
noncomputable def whole.tw5333889006766031734:Nat:=0
noncomputable def whole.tw5476280170902018826:Nat:=0
noncomputable def whole.tw5497084855254652206:Nat:=0
noncomputable def whole.tw5497241088419581619:Nat:=0
noncomputable def whole.tw5517436027866257300:Nat:=0
noncomputable def whole.tw553654905417335783:Nat:=0
noncomputable def whole.tw5563410228282843844:Nat:=0
noncomputable def whole.tw5565973446790711192:Nat:=0
noncomputable def whole.tw5593421063758109115:Nat:=0
noncomputable def whole.tw5621722726007522681:Nat:=0
noncomputable def whole.tw5626505670776258782:Nat:=0
noncomputable def whole.tw5638718523659967875:Nat:=0
noncomputable def whole.tw5641047448921990747:Nat:=0
noncomputable def whole.tw565633121077477423:Nat:=0
noncomputable def whole.tw5708060973328625810:Nat:=0
noncomputable def whole.tw5709974023998834027:Nat:=0
noncomputable def whole.tw5721724801031571967:Nat:=0
noncomputable def whole.tw5755786383539867934:Nat:=0
noncomputable def whole.tw5768793349894928788:Nat:=0
noncomputable def whole.tw5802481656712364009:Nat:=0
noncomputable def whole.tw5821931357261117254:Nat:=0
noncomputable def whole.tw5847811684443636796:Nat:=0
noncomputable def whole.tw5854131727638884618:Nat:=0
noncomputable def whole.tw5902571899878925433:Nat:=0
noncomputable def whole.tw5959399313520647359:Nat:=0
noncomputable def whole.tw6019969498457481257:Nat:=0
noncomputable def whole.tw6050223099385770433:Nat:=0
noncomputable def whole.tw6061168603072238951:Nat:=0
noncomputable def whole.tw6080529598078430431:Nat:=0
noncomputable def whole.tw6134780431617944737:Nat:=0
noncomputable def whole.tw6163785154223628829:Nat:=0
noncomputable def whole.tw6173361516446312118:Nat:=0
noncomputable def whole.tw6215101925146225703:Nat:=0
noncomputable def whole.tw6224805855293584515:Nat:=0
noncomputable def whole.tw6270224457261711193:Nat:=0
noncomputable def whole.tw627841364814389115:Nat:=0
noncomputable def whole.tw630263318613460568:Nat:=0
noncomputable def whole.tw632017713322672276:Nat:=0
noncomputable def whole.tw6353999017911662030:Nat:=0
noncomputable def whole.tw6421999868135784413:Nat:=0
noncomputable def whole.tw6434849377156387035:Nat:=0
noncomputable def whole.tw6540257914418537442:Nat:=0
noncomputable def whole.tw6546662522301642137:Nat:=0
noncomputable def whole.tw6556967715111240847:Nat:=0
noncomputable def whole.tw6755106331694674303:Nat:=0
noncomputable def whole.tw67683188304839202:Nat:=0
noncomputable def whole.tw6808770798545300526:Nat:=0
noncomputable def whole.tw6848534548184335358:Nat:=0
noncomputable def whole.tw6860638918701200824:Nat:=0
noncomputable def whole.tw6911986949838509541:Nat:=0
noncomputable def whole.tw6929938366351403482:Nat:=0
noncomputable def whole.tw6944739043696642824:Nat:=0
noncomputable def whole.tw694873837276953680:Nat:=0
noncomputable def whole.tw6950937315946604616:Nat:=0
noncomputable def whole.tw7022288318435921876:Nat:=0
noncomputable def whole.tw7032835102894440076:Nat:=0
noncomputable def whole.tw7102284640169366311:Nat:=0
noncomputable def whole.tw7102587482372306110:Nat:=0
noncomputable def whole.tw7167806640373413750:Nat:=0
noncomputable def whole.tw720173183094743738:Nat:=0
noncomputable def whole.tw7204221142874261851:Nat:=0
noncomputable def whole.tw7238557365526782058:Nat:=0
noncomputable def whole.tw7241075163182112207:Nat:=0
noncomputable def whole.tw7333804365152754512:Nat:=0
noncomputable def whole.tw7353142952154647367:Nat:=0
noncomputable def whole.tw752869395967332783:Nat:=0
noncomputable def whole.tw7552431189754611308:Nat:=0
noncomputable def whole.tw7634777559695217831:Nat:=0
noncomputable def whole.tw7686599284645694320:Nat:=0
noncomputable def whole.tw7742969713032264894:Nat:=0
noncomputable def whole.tw7818393451982430464:Nat:=0
noncomputable def whole.tw7875438677949268376:Nat:=0
noncomputable def whole.tw7892537644764069756:Nat:=0
noncomputable def whole.tw7925603226385293122:Nat:=0
noncomputable def whole.tw7963504061671648504:Nat:=0
noncomputable def whole.tw7990150090547112709:Nat:=0
noncomputable def whole.tw8052818867310236875:Nat:=0
noncomputable def whole.tw8097685679990947105:Nat:=0
noncomputable def whole.tw8131717198041371853:Nat:=0
noncomputable def whole.tw8135684074938309703:Nat:=0
noncomputable def whole.tw8148480431942046112:Nat:=0
noncomputable def whole.tw8151694173165419632:Nat:=0
noncomputable def whole.tw8171208514435802665:Nat:=0
noncomputable def whole.tw8353471669204435822:Nat:=0
noncomputable def whole.tw8387226841644724933:Nat:=0
noncomputable def whole.tw8397057220677292353:Nat:=0
noncomputable def whole.tw8648402067441723040:Nat:=0
noncomputable def whole.tw8677673129028627848:Nat:=0
noncomputable def whole.tw8712280017630742064:Nat:=0
noncomputable def whole.tw878976802618488633:Nat:=0
noncomputable def whole.tw8826487728598852491:Nat:=0
noncomputable def whole.tw8869418879443630253:Nat:=0
noncomputable def whole.tw8976960782372146928:Nat:=0
noncomputable def whole.tw8985045897598114076:Nat:=0
noncomputable def whole.tw9071653769434275959:Nat:=0
noncomputable def whole.tw9119226533294529627:Nat:=0
noncomputable def whole.tw9122293228540087049:Nat:=0
noncomputable def whole.tw9141237436037737479:Nat:=0
noncomputable def whole.tw9168966646010311907:Nat:=0
noncomputable def whole.tw917997167181264524:Nat:=0
noncomputable def whole.tw9223076359816823277:Nat:=0
noncomputable def whole.tw9255120594511817842:Nat:=0
noncomputable def whole.tw9386001231874928830:Nat:=0
noncomputable def whole.tw9442410265051744102:Nat:=0
noncomputable def whole.tw9449055867315329328:Nat:=0
noncomputable def whole.tw9458920617762628945:Nat:=0
noncomputable def whole.tw9465950582505599235:Nat:=0
noncomputable def whole.tw9529831987415502678:Nat:=0
noncomputable def whole.tw9559043279642324410:Nat:=0
noncomputable def whole.tw956119804369033606:Nat:=0
noncomputable def whole.tw9574405617391671336:Nat:=0
noncomputable def whole.tw9575923019856581800:Nat:=0
noncomputable def whole.tw9575934862217503573:Nat:=0
noncomputable def whole.tw9581638807590746087:Nat:=0
noncomputable def whole.tw9596325798274586741:Nat:=0
noncomputable def whole.tw9677389014570547866:Nat:=0
noncomputable def whole.tw974574843879565137:Nat:=0
noncomputable def whole.tw9762998114636121223:Nat:=0
noncomputable def whole.tw9807449193449688571:Nat:=0
noncomputable def whole.tw9840235908329836891:Nat:=0
noncomputable def whole.tw9855344041460490778:Nat:=0
noncomputable def whole.tw9871028174558719416:Nat:=0
noncomputable def whole.tw9884442733188929360:Nat:=0
set_option maxRecDepth 100000 in
set_option maxHeartbeats 0 in
theorem whole : PySem.Challenge.rw_wb0097_02.Holds := by
  w_on; o_law; z_head; (case hw => w_witness2)
  k_fill
  intro w s₀ s₁ mg mb G y fa o pm cd doc dV kV ho hd hcd hD hmg hg args vals as L hpre hlay hrd hwl hlo
  z_open y L KX ZH ZN ZT
  refine Ground.open G ?_
  intro T B D TE TW
  wrow_args hpre hlay hrd hwl hlo
  obtain ⟨hat, hsz⟩ := script_at L
  have htk := script_toks L ZT
  rw [ZN] at hat hsz
  subst hat
  x_fa T KX hmg
  clear G y hd hcd hD T B D TE TW hmg
  rename List Int => ns
  rename Well _ _ _ _ => hW
  have hlen : ns.length ≤ 63 := by omega
  refine fin1 KX ?fac hW hlen ?small (Nat.lt_of_lt_of_le (by decide) htk) ?raises ?post hg
  case fac =>
    refine ⟨⟨?tab, by decide, ⟨4, _, by kernel_rfl, by decide, rfl, rfl, rfl, rfl⟩, ⟨_, rfl⟩, by kernel_rfl, ⟨_, rfl⟩⟩, ?_, ⟨_, rfl⟩, ⟨?_, ?_, ?_, ?_, ?_, ?_, ?_, ?_, ?_⟩, ?_, ?_, ?_⟩
    case tab =>
      intro q hq
      simp only [tabs1, List.mem_cons, List.not_mem_nil, or_false] at hq
      rcases hq with rfl | rfl | rfl <;> exact ⟨by kernel_rfl, by kernel_rfl, by kernel_rfl, by decide, by decide⟩
    all_goals kernel_rfl
  case small => kernel_rfl
  case raises => exact raisesW_false (by wrow_none_raised)
  case post => exact postW_of (by wrow_shape) (by wtm_val) (by w_fin)
end Mini
theorem PySem.Challenge.cw_wb0097_02_holds : PySem.Challenge.rw_wb0097_02.Holds :=
  Mini.whole
