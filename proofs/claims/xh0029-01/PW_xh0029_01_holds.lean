import PyProof.Rows.All
import Wide.All
import OpenK.AllK
import Wide.FinOn
import Lean
import PySem.Challenge.RW_xh0029_01
set_option Elab.async false
set_option linter.unusedVariables false
set_option maxRecDepth 100000
set_option genInjectivity false
set_option genSizeOf false
section
namespace Mine
set_option genInjectivity true in
inductive V where
 |none
 |bool (b:Bool)
 |int (i:Int)
 |str (s:List Nat)
 |tup (xs:List V)
 |lst (xs:List V)
 |dict (ks:List Int) (vs:List V)
 |ref (i:Nat)
 |inst (v:V)
 |clo (k:Nat) (vs:List V)
 |exn (m:List Nat)
 deriving Inhabited
inductive MO where
 |dead
 |list (xs:List V)
 |dict (ks:List Int) (vs:List V)
 deriving Inhabited
noncomputable abbrev ah:=List MO
noncomputable abbrev Env:=List (String×V)
set_option genInjectivity true in
inductive ay (α:Type) where
 |ok (a:α)
 |exc (m:List Nat) (σ:ah)
 |stuck
namespace ay
noncomputable def bind{α β:Type}:ay α→(α→ay β)→ay β
 | .ok a,f=>f a
 | .exc m σ,_=> .exc m σ
 | .stuck,_=> .stuck
noncomputable def sat{α:Type}:ay α→(α→Prop)→(List Nat→ah→Prop)→Prop
 | .ok a,Q,_=>Q a
 | .exc m σ,_,X=>X m σ
 | .stuck,_,_=>False
theorem sat_bind{α β:Type}{o:ay α}{f:α→ay β}{Q:β→Prop}{X:List Nat→ah→Prop}:
  (o.bind f).sat Q X↔o.sat (fun a=>(f a).sat Q X) X:=by cases o<;>exact Iff.rfl
theorem sat_mono{α:Type}{o:ay α}{Q Q':α→Prop}{X X':List Nat→ah→Prop}(h:o.sat Q X)(hQ: ∀a,Q a→Q' a)(hX: ∀m σ,X m σ→X' m σ):o.sat Q' X':=by
 cases o
 ·exact hQ _ h
 ·exact hX _ _ h
 ·exact h
noncomputable def calm{α:Type}:ay α→ay α
 | .ok a=> .ok a
 |_=> .stuck
theorem sat_calm{α:Type}{o:ay α}{Q:α→Prop}{X:List Nat→ah→Prop}:o.calm.sat Q X↔o.sat Q (fun _ _=>False):=by cases o<;>exact Iff.rfl
noncomputable def ofOpt{α:Type}:Option α→ay α
 |some a=> .ok a
 | .none=> .stuck
end ay
noncomputable def cP:Nat:=2^20
noncomputable def qr:Nat:=2^63
inductive Op where|add|sub|mul|div|mod|shl|shr|and|or|xor
 deriving DecidableEq
inductive Cm where|lt|le|gt|ge|eq|ne|is|isNot|in_|notIn
 deriving DecidableEq
inductive T where
 |name (x:String)
 |tup (ts:List T)
 deriving Inhabited
inductive E where
 |no
 |var (x:String)
 |cst (v:V)
 |gint (x:String) (i:Int)
 |bin (op:Op) (a b:E)
 |catM (a b:E)
 |neg (a:E)
 |cmp (op:Cm) (a b:E)
 |band (a b:E)
 |bor (a b:E)
 |ite (t a b:E)
 |tup (es:List E)
 |lst (es:List E)
 |lstM (es:List E)
 |dictM
 |dict (es:List E)
 |inGlob (a:E)
 |subGlob (i:E)
 |sub (a i:E)
 |slice (a lo hi:E)
 |call (f:String) (args:List E) (key:E)
 |callv (x:String) (a:E)
 |meth (m:String) (o:E) (args:List E)
 |compare (o a b:E)
 |selfList (o:E)
 |bi (f:String) (args:List E)
 |isTup (a:E)
 |listM (a:E)
 |listZip (a b:E)
 |tupSum (a b:E)
 |sortKey (a l:E)
 |range (a:E)
 |zip (a b:E)
 |enum (a:E)
 |items (a:E)
 |lcomp (elt:E) (t:T) (it cond:E)
 |dcomp (k v:E) (t:T) (it:E)
 |lam (k:Nat)
 deriving Inhabited
inductive S where
 |asg (t:T) (e:E)
 |asgSub (o i e:E)
 |augSub (o i e:E)
 |ex (e:E)
 |iff (c:E) (a b:List S)
 |whl (c:E) (b:List S)
 |for_ (t:T) (it:E) (b:List S)
 |ret (e:E)
 |raise (m:List Nat)
 |tryIns (a x lo:E) (key s d:String)
 |frz (x:String)
 |seal (x:String)
 deriving Inhabited
set_option genInjectivity true in
inductive Fl where|next|ret (v:V)
 deriving Inhabited
noncomputable def bN:V→Option Int
 | .int i=>some i
 |_=> .none
noncomputable def qf:V→Option Bool
 | .bool b=>some b
 |_=> .none
noncomputable def iJ:V→Option (List Nat)
 | .str s=>some s
 |_=> .none
noncomputable def e9:V→Option (List V)
 | .tup xs=>some xs
 |_=> .none
noncomputable def zg:V→Option (List V)
 | .lst xs=>some xs
 |_=> .none
noncomputable def FQ:V→Option (List Int×List V)
 | .dict ks vs=>some (ks,vs)
 |_=> .none
noncomputable def g6:V→Option Nat
 | .ref i=>some i
 |_=> .none
noncomputable def wi:V→Option V
 | .inst v=>some v
 |_=> .none
noncomputable def uZ:V→Option (Nat×List V)
 | .clo k vs=>some (k,vs)
 |_=> .none
noncomputable def exnOf:V→Option (List Nat)
 | .exn m=>some m
 |_=> .none
noncomputable def uo:V→Option Unit
 | .none=>some ()
 |_=> .none
noncomputable def moL:MO→Option (List V)
 | .list xs=>some xs
 |_=> .none
noncomputable def moD:MO→Option (List Int×List V)
 | .dict ks vs=>some (ks,vs)
 |_=> .none
noncomputable def EN:MO→Option V
 | .list xs=>some (.lst xs)
 | .dict ks vs=>some (.dict ks vs)
 | .dead=> .none
noncomputable def qJ(σ:ah)(i:Nat):Option (List V):=(σ[i]?).bind moL
noncomputable def Bo(σ:ah)(i:Nat):Option (List Int×List V):=(σ[i]?).bind moD
noncomputable def seqV(v:V):Option (List V):=(e9 v).or (zg v)
noncomputable def dG(σ:ah)(v:V):Option (List V):=(zg v).or ((g6 v).bind (qJ σ))
noncomputable def jS(σ:ah)(v:V):Option (List V):=(e9 v).or (dG σ v)
noncomputable def dictOf(σ:ah)(v:V):Option (List Int×List V):=(FQ v).or ((g6 v).bind (Bo σ))
noncomputable def deref1(σ:ah)(v:V):V:=(((g6 v).bind fun i=>σ[i]?).bind EN).getD v
noncomputable def deref(σ:ah)(v:V):V:=((zg v).map fun xs=>V.lst (xs.map (deref1 σ))).getD (deref1 σ v)
noncomputable def EY(v:V):Option Bool:=((e9 v).bind fun _=>some true).or ((bN v).bind fun _=>some false)
noncomputable def iT:List V→Option V
 |[v]=>some v
 |_=> .none
noncomputable def mI(f:V→V→Option Bool):List V→List V→Option Bool
 |[],ys=>some ys.isEmpty
 |x::r,ys=>match ys with
  |[]=>some false
  |y::q=>(f x y).bind fun a=>(mI f r q).bind fun b=>some (a&&b)
noncomputable def qM(f:V→V→Option Bool)(kb:List (Int×V)):List (Int×V)→Option Bool
 |[]=>some true
 |p::r=>match kb.lookup p.1 with
  | .none=>some false
  |some u=>(f p.2 u).bind fun a=>(qM f kb r).bind fun b=>some (a&&b)
noncomputable def cT:Nat→V→V→Option Bool
 |0,_,_=> .none
 |n+1,x,y=>match x with
  | .none=>(uo y).bind fun _=>some true
  | .bool a=>(qf y).bind fun b=>some (a==b)
  | .int a=>(bN y).bind fun b=>some (a==b)
  | .str a=>(iJ y).bind fun b=>some (a==b)
  | .tup xs=>(e9 y).bind (mI (cT n) xs)
  | .lst xs=>(zg y).bind fun ys=>if xs.length=ys.length then mI (cT n) xs ys else some false
  | .dict ks xs=>(FQ y).bind fun d=>if ks.length=d.1.length then qM (cT n) (d.1.zip d.2) (ks.zip xs) else some false
  |_=> .none
noncomputable def wk(f:V→Option Bool):List V→Option Bool
 |[]=>some false
 |y::r=>(f y).bind fun a=>(wk f r).bind fun b=>some (a||b)
noncomputable def iop:Op→Int→Int→Option Int
 | .add,a,b=>some (a+b)
 | .sub,a,b=>some (a-b)
 | .mul,a,b=>if a.natAbs<qr∧b.natAbs<qr then some (a*b) else .none
 | .div,a,b=>if 0<b∧b<2^29 then some (a/b) else .none
 | .mod,a,b=>if 0<b then some (a %b) else .none
 | .shl,a,b=>if 0≤b∧b≤1000∧a.natAbs<qr then some (a*2^b.toNat) else .none
 | .shr,a,b=>if 0≤b then some (a/2^b.toNat) else .none
 | .and,a,b=>if 0≤a∧0≤b then some ((a.toNat&&&b.toNat:Nat):Int) else .none
 | .or,a,b=>if 0≤a∧0≤b then some ((a.toNat|||b.toNat:Nat):Int) else .none
 | .xor,a,b=>if 0≤a∧0≤b then some ((a.toNat^^^b.toNat:Nat):Int) else .none
noncomputable def zw(σ:ah)(x y:V):Option (List V):=(dG σ x).bind fun xs=>(dG σ y).bind fun ys=>if xs.length+ys.length≤cP then some (xs++ys) else .none
noncomputable def Fs(x y:V):Option V:=(iJ x).bind fun a=>(iJ y).bind fun b=>if a.length+b.length≤cP then some (.str (a++b)) else .none
noncomputable def Fq(x y:V):Option V:=(e9 x).bind fun a=>(e9 y).bind fun b=>if a.length+b.length≤cP∧0<a.length∧0<b.length then some (.tup (a++b)) else .none
noncomputable def intop(op:Op)(x y:V):Option V:=(bN x).bind fun a=>(bN y).bind fun b=>(iop op a b).bind fun i=>some (.int i)
noncomputable def cX(σ:ah)(op:Op)(x y:V):Option V:=(intop op x y).or (if op= .add then((Fs x y).or (Fq x y)).or ((zw σ x y).bind fun l=>some (.lst l)) else .none)
noncomputable def isV(x y:V):Option Bool:=match y with
 | .none=>match x with
  | .none=>some true
  | .int _=>some false
  | .clo _ _=>some false
  |_=> .none
 | .bool b=>(qf x).bind fun a=>some (a==b)
 |_=> .none
noncomputable def dn(σ:ah):Cm→V→V→Option Bool
 | .lt,x,y=>(bN x).bind fun a=>(bN y).bind fun b=>some (decide (a<b))
 | .le,x,y=>(bN x).bind fun a=>(bN y).bind fun b=>some (decide (a≤b))
 | .gt,x,y=>(bN x).bind fun a=>(bN y).bind fun b=>some (decide (b<a))
 | .ge,x,y=>(bN x).bind fun a=>(bN y).bind fun b=>some (decide (b≤a))
 | .eq,a,b=>cT 8 (deref σ a) (deref σ b)
 | .ne,a,b=>(cT 8 (deref σ a) (deref σ b)).bind fun b=>some (!b)
 | .is,a,b=>isV a b
 | .isNot,a,b=>(isV a b).bind fun b=>some (!b)
 | .in_,a,b=>((seqV b).bind (wk fun y=>cT 7 y a)).or ((bN a).bind fun i=>(dictOf σ b).bind fun p=>some (p.1.contains i))
 | .notIn,a,b=>((seqV b).bind (wk fun y=>cT 7 y a)).bind fun b=>some (!b)
noncomputable def nh(σ:ah)(v:V):Option Bool:=((qf v).or ((bN v).bind fun i=>some (i !=0))).or ((dG σ v).bind fun l=>some (!l.isEmpty))
noncomputable def idxOf(i:Int)(n:Nat):Option Nat:=
 if 0≤i then(if i<n then some i.toNat else .none) else if-(n:Int)≤i then some (i+n).toNat else .none
noncomputable def cO(i:Int)(n:Nat):Nat:=if i<0 then(i+n).toNat else min i.toNat n
noncomputable def cM(xs:List V)(lo hi:Option Int):List V:=
 let a:=match lo with|some i=>cO i xs.length| .none=>0
 let b:=match hi with|some i=>cO i xs.length| .none=>xs.length
 (xs.drop a).take (b-a)
noncomputable def kd(v:V):Option (Option Int):=((uo v).bind fun _=>some .none).or ((bN v).bind fun i=>if i.natAbs<qr then some (some i) else .none)
noncomputable def Ci(xs:List V)(i:Int):Option V:=if i.natAbs<qr then(idxOf i xs.length).bind fun j=>xs[j]? else .none
noncomputable def dE(σ:ah)(v iv:V):Option V:=(bN iv).bind fun i=>((jS σ v).bind (Ci · i)).or ((dictOf σ v).bind fun d=>(d.1.zip d.2).lookup i)
noncomputable def cR(σ:ah)(v:V)(lo hi:V):Option V:=(kd lo).bind fun l=>(kd hi).bind fun h=>
 ((e9 v).bind fun xs=>some (V.tup (cM xs l h))).or ((dG σ v).bind fun xs=>some (.lst (cM xs l h)))
noncomputable def dc:List V→Option (List Int)
 |[]=>some []
 |v::r=>(bN v).bind fun i=>(dc r).bind fun l=>some (i::l)
noncomputable def minI:List Int→Option Int
 |[]=> .none
 |x::r=>some (r.foldl min x)
noncomputable def bv:List Nat→List Nat→List (List Nat)
 |[],acc=>[acc.reverse]
 |c::r,acc=>if c=32 then acc.reverse::bv r [] else bv r (c::acc)
noncomputable def bP(ks:List Int)(vs:List V)(k:Int)(v:V):List Int×List V:=
 if ks.contains k then(ks,(ks.zip vs).map fun p=>if p.1=k then v else p.2) else(ks++[k],vs++[v])
noncomputable def DL:List Nat→Option V
 |[c]=>some (.int c)
 |_=> .none
noncomputable def D9(σ:ah)(f:String)(v:V):Option V:=
 if f= "len" then(jS σ v).bind fun xs=>some (.int xs.length)
 else if f= "sum" then((zg v).bind dc).bind fun l=>some (.int l.sum)
 else if f= "min" then(((zg v).bind dc).bind minI).bind fun i=>some (.int i)
 else if f= "ord" then(iJ v).bind DL
 else if f= "abs" then(bN v).bind fun i=>some (.int i.natAbs)
 else if f= "str" then(exnOf v).bind fun m=>some (.str m)
 else if f= "TupleComp" then some (.inst v)
 else if f= "list" then(jS σ v).bind fun xs=>some (.lst xs)
 else .none
noncomputable def wC(σ:ah)(f:String)(vs:List V):Option V:=(iT vs).bind (D9 σ f)
noncomputable def mApp(σ:ah)(r:Nat)(vs:List V):Option (V×ah):=(iT vs).bind fun x=>(qJ σ r).bind fun xs=>if xs.length<cP then some (.none,σ.set r (.list (xs++[x]))) else .none
noncomputable def mIns(σ:ah)(r:Nat):List V→Option (V×ah)
 |[a,x]=>(bN a).bind fun i=>(qJ σ r).bind fun xs=>if xs.length<cP∧0≤i∧i≤xs.length then some (.none,σ.set r (.list (xs.take i.toNat++x::xs.drop i.toNat))) else .none
 |_=> .none
noncomputable def mPop0(σ:ah)(r:Nat):Option (V×ah):=(qJ σ r).bind fun xs=>xs.getLast?.bind fun x=>some (x,σ.set r (.list xs.dropLast))
noncomputable def mPop1(σ:ah)(r:Nat)(v:V):Option (V×ah):=(bN v).bind fun i=>(qJ σ r).bind fun xs=>if i.natAbs<qr then(idxOf i xs.length).bind fun j=>(xs[j]?).bind fun x=>some (x,σ.set r (.list (xs.eraseIdx j))) else .none
noncomputable def mPop(σ:ah)(r:Nat):List V→Option (V×ah)
 |[]=>mPop0 σ r
 |v::q=>match q with
  |[]=>mPop1 σ r v
  |_::_=> .none
noncomputable def mIdx(σ:ah)(xs:List V)(vs:List V):Option (V×ah):=(iT vs).bind fun v=>(bN v).bind fun i=>(dc xs).bind fun l=>(l.findIdx? (· ==i)).bind fun j=>some (.int j,σ)
noncomputable def mSpl(σ:ah)(s:List Nat)(vs:List V):Option (V×ah):=(iT vs).bind fun v=>(iJ v).bind fun b=>if b=[32]∧s.length<cP∧s.contains 32=true then some (.lst ((bv s []).map .str),σ) else .none
noncomputable def ke(σ:ah)(m:String)(o:V)(vs:List V):Option (V×ah):=
 if m= "append" then(g6 o).bind fun r=>mApp σ r vs
 else if m= "insert" then(g6 o).bind fun r=>mIns σ r vs
 else if m= "pop" then(g6 o).bind fun r=>mPop σ r vs
 else if m= "index" then(e9 o).bind fun xs=>mIdx σ xs vs
 else if m= "split" then(iJ o).bind fun s=>mSpl σ s vs
 else .none
noncomputable def lh(σ:ah)(m:String)(o:V):Bool:=
 if m= "append" ∨m= "insert" ∨m= "pop" then((g6 o).bind (qJ σ)).isSome
 else if m= "index" then(e9 o).isSome
 else if m= "split" then(iJ o).isSome
 else false
noncomputable def aM:Env→String→Option V
 |[],_=> .none
 |(y,v)::r,x=>if y=x then some v else aM r x
noncomputable def put:Env→String→V→Env
 |[],x,v=>[(x,v)]
 |(y,w)::r,x,v=>if y=x then(x,v)::r else(y,w)::put r x v
mutual
noncomputable def dU:T→V→Option Env
 | .name x,v=>some [(x,v)]
 | .tup ts,v=>(seqV v).bind (mQ ts)
noncomputable def mQ:List T→List V→Option Env
 |[],vs=>if vs.isEmpty then some [] else .none
 |t::ts,vs=>match vs with
  |[]=> .none
  |v::vs=>(dU t v).bind fun a=>(mQ ts vs).bind fun b=>some (a++b)
end
noncomputable def dK(ρ:Env)(b:Env):Env:=b.foldl (fun ρ p=>put ρ p.1 p.2) ρ
structure Ctx where
 ext:List (List Nat×Int)
 lam:Nat→Option (String×E×List String)
inductive FK where|fn (f:String)|clo (k:Nat) (vs:List V)
noncomputable abbrev aw:=FK→List V→V→ah→ay (V×ah)
noncomputable def c9(b:V→Env→ah→ay (Fl×Env×ah)):List V→Env→ah→ay (Fl×Env×ah)
 |[],ρ,σ=> .ok (.next,ρ,σ)
 |v::r,ρ,σ=>(b v ρ σ).calm.bind fun q=>match q.1 with
  | .next=>c9 b r q.2.1 q.2.2
  | .ret w=> .ok (.ret w,q.2.1,q.2.2)
noncomputable def jY(c:Env→ah→ay (Bool×ah))(b:Env→ah→ay (Fl×Env×ah)):Nat→Env→ah→ay (Fl×Env×ah)
 |0,_,_=> .stuck
 |n+1,ρ,σ=>(c ρ σ).calm.bind fun t=>if t.1 then(b ρ t.2).calm.bind fun q=>match q.1 with
   | .next=>jY c b n q.2.1 q.2.2
   | .ret w=> .ok (.ret w,q.2.1,q.2.2)
  else .ok (.next,ρ,t.2)
noncomputable def fU(t:T)(cond:Env→ah→ay (Bool×ah))(elt:Env→ah→ay (List V×ah)):List V→Env→ah→ay (List (List V)×ah)
 |[],_,σ=> .ok ([],σ)
 |v::r,ρ,σ=>(ay.ofOpt (dU t v)).bind fun b=>(cond (b.reverse++ρ) σ).calm.bind fun c=>
   if c.1 then(elt (b.reverse++ρ) c.2).calm.bind fun x=>(fU t cond elt r ρ x.2).bind fun y=> .ok (x.1::y.1,y.2)
   else fU t cond elt r ρ c.2
noncomputable def fh(call:aw)(k:Nat)(ws:List V):List V→ah→ay (List V×ah)
 |[],σ=> .ok ([],σ)
 |v::r,σ=>(call (.clo k ws) [v] .none σ).calm.bind fun x=>(fh call k ws r x.2).bind fun y=> .ok (x.1::y.1,y.2)
noncomputable def cp:List Int→List Int→Bool
 |[],[]=>false
 |[],_::_=>true
 |_::_,[]=>false
 |a::r,b::q=>if a=b then cp r q else decide (a<b)
noncomputable def ja:List (List Int)→Bool
 |a::b::r=>cp a b&&ja (b::r)
 |_=>true
noncomputable def jh:List V→Option (List (List Int))
 |[]=>some []
 |v::r=>((zg v).bind dc).bind fun a=>(jh r).bind fun b=>some (a::b)
noncomputable def nm(x:String):List Nat:=x.toList.map Char.toNat
noncomputable def gR(x:String)(v:V):V:= .dict [] [.str (nm x),v]
noncomputable def eQ(x:String):String:= "#" ++x
noncomputable def wT(x:String)(v:Option V):Option V:=(v.bind FQ).bind fun d=>match d.2 with
 |[a,u]=>if d.1.isEmpty&&iJ a==some (nm x) then some u else .none
 |_=> .none
noncomputable def te(ρ:Env):List String→Option (List V)
 |[]=>some []
 |x::r=>(wT x (aM ρ (eQ x))).bind fun v=>(te ρ r).bind fun vs=>some (v::vs)
structure FH where
 e:Env→ah→ay (V×ah)
 t:Env→ah→ay (Bool×ah)
 i:Env→ah→ay (List V×ah)
noncomputable def wg(_σ:ah)(v:V):Option (List V):=(seqV v).or ((FQ v).bind fun d=>some (d.1.map .int))
noncomputable def FH.of(e:Env→ah→ay (V×ah)):FH where
 e:=e
 t:=fun ρ σ=>(e ρ σ).bind fun x=>(ay.ofOpt (nh x.2 x.1)).bind fun t=> .ok (t,x.2)
 i:=fun ρ σ=>(e ρ σ).bind fun x=>(ay.ofOpt (wg x.2 x.1)).bind fun l=> .ok (l,x.2)
noncomputable def FH.it(i:Env→ah→ay (List V×ah)):FH where
 e:=fun _ _=> .stuck
 t:=fun _ _=> .stuck
 i:=i
noncomputable def cg:List V→Option (List Int×List V)
 |[]=>some ([],[])
 |a::q=>match q with
  |[]=> .none
  |v::r=>(bN a).bind fun k=>(cg r).bind fun p=>some (k::p.1,v::p.2)
noncomputable def eS(ks:List Int)(vs:List V):V:=
 let p:=(ks.zip vs).foldl (fun(d:List Int×List V) q=>bP d.1 d.2 q.1 q.2) ([],[])
 .dict p.1 p.2
noncomputable def xz(v:V):Option (List V):=(bN v).bind fun n=>if 0≤n∧n≤cP then some ((List.range n.toNat).map fun(i:Nat)=>V.int i) else .none
noncomputable def iL(xs ys:List V):List V:=(xs.zip ys).map fun p=> .tup [p.1,p.2]
noncomputable def zJ(a b:V):Option (List V):=(seqV a).bind fun xs=>(e9 b).bind fun ys=>some (iL xs ys)
noncomputable def Bi(a:V):Option (List V):=(seqV a).bind fun xs=>some (xs.zipIdx.map fun p=> .tup [.int p.2,p.1])
noncomputable def sK(a:V):Option (List V):=(FQ a).bind fun d=>some ((d.1.zip d.2).map fun p=> .tup [.int p.1,p.2])
noncomputable def ze(σ:ah)(a b:V):Option V:=(dG σ a).bind fun xs=>(dG σ b).bind fun ys=>some (.lst (iL xs ys))
noncomputable def tK(a b:V):Option V:=((e9 a).bind dc).bind fun l=>((e9 b).bind dc).bind fun r=>some (.tup ((l.zip r).map fun p=> .int (p.1+p.2)))
mutual
noncomputable def den(C:Ctx)(call:aw):E→FH
 | .no=>{e:=fun _ σ=> .ok (.none,σ),t:=fun _ σ=> .ok (true,σ),i:=fun _ _=> .stuck}
 | .var x=> .of fun ρ σ=>(ay.ofOpt (aM ρ x)).bind fun v=> .ok (v,σ)
 | .cst v=> .of fun _ σ=> .ok (v,σ)
 | .gint _ i=> .of fun _ σ=> .ok (.int i,σ)
 | .bin op a b=> .of fun ρ σ=>((den C call a).e ρ σ).bind fun x=>((den C call b).e ρ x.2).bind fun y=>(ay.ofOpt (cX y.2 op x.1 y.1)).bind fun v=> .ok (v,y.2)
 | .catM a b=> .of fun ρ σ=>((den C call a).e ρ σ).bind fun x=>((den C call b).e ρ x.2).bind fun y=>(ay.ofOpt (zw y.2 x.1 y.1)).bind fun xs=> .ok (.ref y.2.length,y.2++[.list xs])
 | .neg a=> .of fun ρ σ=>((den C call a).e ρ σ).bind fun x=>(ay.ofOpt (bN x.1)).bind fun i=> .ok (.int (-i),x.2)
 | .inGlob a=> .of fun ρ σ=>((den C call a).e ρ σ).bind fun x=>(ay.ofOpt (iJ x.1)).bind fun s=> .ok (.bool (C.ext.lookup s).isSome,x.2)
 | .subGlob a=> .of fun ρ σ=>((den C call a).e ρ σ).bind fun x=>(ay.ofOpt (iJ x.1)).bind fun s=>(ay.ofOpt (C.ext.lookup s)).bind fun n=> .ok (.int n,x.2)
 | .cmp op a b=> .of fun ρ σ=>((den C call a).e ρ σ).bind fun x=>((den C call b).e ρ x.2).bind fun y=>(ay.ofOpt (dn y.2 op x.1 y.1)).bind fun v=> .ok (.bool v,y.2)
 | .band a b=>{FH.of (fun ρ σ=>((den C call a).e ρ σ).bind fun x=>(ay.ofOpt (nh x.2 x.1)).bind fun t=>if t then(den C call b).e ρ x.2 else .ok x) with
   t:=fun ρ σ=>((den C call a).t ρ σ).bind fun x=>if x.1 then(den C call b).t ρ x.2 else .ok (false,x.2)}
 | .bor a b=>{FH.of (fun ρ σ=>((den C call a).e ρ σ).bind fun x=>(ay.ofOpt (nh x.2 x.1)).bind fun t=>if t then .ok x else(den C call b).e ρ x.2) with
   t:=fun ρ σ=>((den C call a).t ρ σ).bind fun x=>if x.1 then .ok (true,x.2) else(den C call b).t ρ x.2}
 | .ite t a b=> .of fun ρ σ=>((den C call t).t ρ σ).bind fun x=>if x.1 then(den C call a).e ρ x.2 else(den C call b).e ρ x.2
 | .tup es=> .of fun ρ σ=>(dB C call es ρ σ).bind fun x=> .ok (.tup x.1,x.2)
 | .lst es=> .of fun ρ σ=>(dB C call es ρ σ).bind fun x=> .ok (.lst x.1,x.2)
 | .lstM es=> .of fun ρ σ=>(dB C call es ρ σ).bind fun x=> .ok (.ref x.2.length,x.2++[.list x.1])
 | .dictM=> .of fun _ σ=> .ok (.ref σ.length,σ++[.dict [] []])
 | .dict es=> .of fun ρ σ=>(dB C call es ρ σ).calm.bind fun x=>(ay.ofOpt (cg x.1)).bind fun p=> .ok (eS p.1 p.2,x.2)
 | .sub a i=> .of fun ρ σ=>((den C call a).e ρ σ).bind fun x=>((den C call i).e ρ x.2).bind fun y=>(ay.ofOpt (dE y.2 x.1 y.1)).bind fun v=> .ok (v,y.2)
 | .slice a lo hi=> .of fun ρ σ=>((den C call a).e ρ σ).bind fun x=>((den C call lo).e ρ x.2).bind fun y=>((den C call hi).e ρ y.2).bind fun z=>(ay.ofOpt (cR z.2 x.1 y.1 z.1)).bind fun v=> .ok (v,z.2)
 | .call f args key=> .of fun ρ σ=>(dB C call args ρ σ).bind fun x=>((den C call key).e ρ x.2).bind fun y=>call (.fn f) x.1 y.1 y.2
 | .callv x a=> .of fun ρ σ=>(ay.ofOpt ((aM ρ x).bind uZ)).bind fun c=>((den C call a).e ρ σ).bind fun y=>call (.clo c.1 c.2) [y.1] .none y.2
 | .compare o a b=> .of fun ρ σ=>((den C call o).e ρ σ).bind fun x=>(ay.ofOpt (wi x.1)).bind fun c=>((den C call a).e ρ x.2).bind fun y=>((den C call b).e ρ y.2).bind fun z=>call (.fn "TupleComp.compare") [.inst c,y.1,z.1] .none z.2
 | .meth m o args=> .of fun ρ σ=>((den C call o).e ρ σ).bind fun x=>if lh x.2 m x.1 then(dB C call args ρ x.2).bind fun y=>ay.ofOpt (ke y.2 m x.1 y.1) else .stuck
 | .selfList o=> .of fun ρ σ=>((den C call o).e ρ σ).bind fun x=>(ay.ofOpt (wi x.1)).bind fun v=> .ok (v,x.2)
 | .bi f args=> .of fun ρ σ=>(dB C call args ρ σ).bind fun x=>(ay.ofOpt (wC x.2 f x.1)).bind fun v=> .ok (v,x.2)
 | .isTup a=> .of fun ρ σ=>((den C call a).e ρ σ).bind fun x=>(ay.ofOpt (EY x.1)).bind fun b=> .ok (.bool b,x.2)
 | .listM a=> .of fun ρ σ=>((den C call a).e ρ σ).bind fun x=>(ay.ofOpt (jS x.2 x.1)).bind fun xs=> .ok (.ref x.2.length,x.2++[.list xs])
 | .listZip a b=> .of fun ρ σ=>((den C call a).e ρ σ).bind fun x=>((den C call b).e ρ x.2).bind fun y=>(ay.ofOpt (ze y.2 x.1 y.1)).bind fun v=> .ok (v,y.2)
 | .tupSum a b=> .of fun ρ σ=>((den C call a).e ρ σ).bind fun x=>((den C call b).e ρ x.2).bind fun y=>(ay.ofOpt (tK x.1 y.1)).bind fun v=> .ok (v,y.2)
 | .sortKey a l=> .of fun ρ σ=>((den C call a).e ρ σ).bind fun x=>((den C call l).e ρ x.2).bind fun y=>(ay.ofOpt (dG y.2 x.1)).bind fun xs=>(ay.ofOpt (uZ y.1)).bind fun c=>(fh call c.1 c.2 xs y.2).bind fun z=>(ay.ofOpt (jh z.1)).bind fun ks=>if ja ks∧2≤xs.length∧xs.length<64 then .ok (.lst xs,z.2) else .stuck
 | .range a=> .it fun ρ σ=>((den C call a).e ρ σ).bind fun x=>(ay.ofOpt (xz x.1)).bind fun l=> .ok (l,x.2)
 | .zip a b=> .it fun ρ σ=>((den C call a).e ρ σ).bind fun x=>((den C call b).e ρ x.2).bind fun y=>(ay.ofOpt (zJ x.1 y.1)).bind fun l=> .ok (l,y.2)
 | .enum a=> .it fun ρ σ=>((den C call a).e ρ σ).bind fun x=>(ay.ofOpt (Bi x.1)).bind fun l=> .ok (l,x.2)
 | .items a=> .it fun ρ σ=>((den C call a).e ρ σ).bind fun x=>(ay.ofOpt (sK x.1)).bind fun l=> .ok (l,x.2)
 | .lcomp elt t it cond=> .of fun ρ σ=>((den C call it).i ρ σ).bind fun x=>
   (fU t (den C call cond).t (fun ρ σ=>((den C call elt).e ρ σ).bind fun y=> .ok ([y.1],y.2)) x.1 ρ x.2).bind fun y=> .ok (.lst y.1.flatten,y.2)
 | .dcomp k v t it=> .of fun ρ σ=>((den C call it).i ρ σ).bind fun x=>
   (fU t (fun _ σ=> .ok (true,σ)) (fun ρ σ=>((den C call k).e ρ σ).bind fun y=>((den C call v).e ρ y.2).bind fun z=> .ok ([y.1,z.1],z.2)) x.1 ρ x.2).bind fun y=>
    (ay.ofOpt (cg y.1.flatten)).bind fun p=> .ok (eS p.1 p.2,y.2)
 | .lam k=> .of fun ρ σ=>(ay.ofOpt (C.lam k)).bind fun l=>(ay.ofOpt (te ρ l.2.2)).bind fun vs=> .ok (.clo k vs,σ)
noncomputable def dB(C:Ctx)(call:aw):List E→Env→ah→ay (List V×ah)
 |[],_,σ=> .ok ([],σ)
 |e::r,ρ,σ=>((den C call e).e ρ σ).bind fun x=>(dB C call r ρ x.2).bind fun y=> .ok (x.1::y.1,y.2)
end
noncomputable abbrev bp(C:Ctx)(call:aw)(e:E):Env→ah→ay (V×ah):=(den C call e).e
noncomputable abbrev eR(C:Ctx)(call:aw)(e:E):Env→ah→ay (Bool×ah):=(den C call e).t
noncomputable abbrev qu(C:Ctx)(call:aw)(e:E):Env→ah→ay (List V×ah):=(den C call e).i
mutual
noncomputable def vG(C:Ctx)(call:aw)(n:Nat):S→Env→ah→ay (Fl×Env×ah)
 | .asg t e,ρ,σ=>(bp C call e ρ σ).bind fun x=>(ay.ofOpt (dU t x.1)).bind fun b=> .ok (.next,dK ρ b,x.2)
 | .asgSub o i e,ρ,σ=>(bp C call e ρ σ).bind fun x=>(bp C call o ρ x.2).bind fun y=>(bp C call i ρ y.2).bind fun z=>(ay.ofOpt (g6 y.1)).bind fun r=>(ay.ofOpt (bN z.1)).bind fun k=>(ay.ofOpt (Bo z.2 r)).bind fun d=>
   if d.1.length<cP then .ok (.next,ρ,z.2.set r (.dict (bP d.1 d.2 k x.1).1 (bP d.1 d.2 k x.1).2)) else .stuck
 | .augSub o i e,ρ,σ=>(bp C call o ρ σ).bind fun y=>(bp C call i ρ y.2).bind fun z=>(ay.ofOpt (g6 y.1)).bind fun r=>(ay.ofOpt (bN z.1)).bind fun k=>(ay.ofOpt (Bo z.2 r)).bind fun d=>(ay.ofOpt (((d.1.zip d.2).lookup k).bind bN)).bind fun a=>
   (bp C call e ρ z.2).bind fun x=>(ay.ofOpt (bN x.1)).bind fun b=>(ay.ofOpt (Bo x.2 r)).bind fun d=>if d.1.length<cP then .ok (.next,ρ,x.2.set r (.dict (bP d.1 d.2 k (.int (a+b))).1 (bP d.1 d.2 k (.int (a+b))).2)) else .stuck
 | .ex e,ρ,σ=>(bp C call e ρ σ).bind fun x=>(ay.ofOpt (uo x.1)).bind fun _=> .ok (.next,ρ,x.2)
 | .iff c a b,ρ,σ=>(eR C call c ρ σ).bind fun x=>if x.1 then bk C call n a ρ x.2 else bk C call n b ρ x.2
 | .whl c b,ρ,σ=>jY (eR C call c) (bk C call n b) n ρ σ
 | .for_ t it b,ρ,σ=>(qu C call it ρ σ).bind fun x=>c9 (fun v ρ σ=>(ay.ofOpt (dU t v)).bind fun bs=>bk C call n b (dK ρ bs) σ) x.1 ρ x.2
 | .ret e,ρ,σ=>(bp C call e ρ σ).bind fun x=> .ok (.ret x.1,ρ,x.2)
 | .raise m,_,σ=> .exc m σ
 | .tryIns a x lo key s d,ρ,σ=>(bp C call a ρ σ).calm.bind fun u=>(bp C call x ρ u.2).calm.bind fun v=>(bp C call lo ρ v.2).calm.bind fun w=>(ay.ofOpt (bN w.1)).bind fun i=>(ay.ofOpt ((aM ρ key).bind uZ)).bind fun c=>
   if i<0 then(call (.clo c.1 c.2) [v.1] .none w.2).calm.bind fun z=>(ay.ofOpt (aM ρ s)).bind fun vs=>(ay.ofOpt (aM ρ d)).bind fun vd=>(ay.ofOpt (cT 8 (deref z.2 vs) (deref z.2 vd))).bind fun b=> .ok (.ret (.bool b),ρ,z.2) else .stuck
 | .seal x,ρ,σ=>(ay.ofOpt (aM ρ x)).bind fun v=> .ok (.next,put ρ (eQ x) (gR x v),σ)
 | .frz x,ρ,σ=>(ay.ofOpt ((aM ρ x).bind g6)).bind fun r=>(ay.ofOpt ((σ[r]?).bind EN)).bind fun v=> .ok (.next,put ρ x v,σ.set r .dead)
noncomputable def bk(C:Ctx)(call:aw)(n:Nat):List S→Env→ah→ay (Fl×Env×ah)
 |[],ρ,σ=> .ok (.next,ρ,σ)
 |s::r,ρ,σ=>(vG C call n s ρ σ).bind fun q=>match q.1 with
  | .next=>bk C call n r q.2.1 q.2.2
  | .ret v=> .ok (.ret v,q.2.1,q.2.2)
end
structure Fn where
 params:List String
 dflt:List (Option V)
 key:Bool
 body:List S
structure zC extends Ctx where
 fns:List (String×Fn)
noncomputable def fe:List String→List (Option V)→List V→Option Env
 |[],_,vs=>if vs.isEmpty then some [] else .none
 |x::r,d,vs=>match d with
  |[]=> .none
  |u::d=>match vs with
   |v::vs=>(fe r d vs).bind fun b=>some ((x,v)::b)
   |[]=>u.bind fun v=>(fe r d []).bind fun b=>some ((x,v)::b)
noncomputable def y5(C:Ctx)(call:aw)(n:Nat)(b:List S)(ρ:Env)(σ:ah):ay (V×ah):=(bk C call n b ρ σ).calm.bind fun q=>match q.1 with
 | .ret v=> .ok (v,q.2.2)
 | .next=> .ok (.none,q.2.2)
noncomputable def ak(P:zC):Nat→aw
 |0=>fun _ _ _ _=> .stuck
 |n+1=>fun c args key σ=>match c with
  | .clo k ws=>(ay.ofOpt (P.lam k)).bind fun l=>(ay.ofOpt (iT args)).bind fun v=>if l.2.2.length=ws.length then(bp P.toCtx (ak P n) l.2.1 ((l.1,v)::l.2.2.zip ws) σ).calm else .stuck
  | .fn f=>(ay.ofOpt (P.fns.lookup f)).bind fun fn=>(ay.ofOpt (fe fn.params fn.dflt args)).bind fun ρ=>
   if fn.key||(uo key).isSome then y5 P.toCtx (ak P n) n fn.body (if fn.key then ρ++[("key",key)] else ρ) σ else .stuck
end Mine
end
section
namespace Mine
theorem qH{A0:Prop}{A1:Prop}{P:Prop}(h:A0∧A1)(k:A0→A1→P):P:=k h.1 h.2
theorem FO{A0:Prop}{A1:Prop}{A2:Prop}{P:Prop}(h:A0∧A1∧A2)(k:A0→A1→A2→P):P:=k h.1 h.2.1 h.2.2
theorem vE{A0:Prop}{A1:Prop}{A2:Prop}{A3:Prop}{P:Prop}(h:A0∧A1∧A2∧A3)(k:A0→A1→A2→A3→P):P:=k h.1 h.2.1 h.2.2.1 h.2.2.2
theorem oA4{A0:Prop}{A1:Prop}{A2:Prop}{A3:Prop}{A4:Prop}{P:Prop}(h:A0∧A1∧A2∧A3∧A4)(k:A0→A1→A2→A3→A4→P):P:=k h.1 h.2.1 h.2.2.1 h.2.2.2.1 h.2.2.2.2
theorem oA6{A0:Prop}{A1:Prop}{A2:Prop}{A3:Prop}{A4:Prop}{A5:Prop}{A6:Prop}{P:Prop}(h:A0∧A1∧A2∧A3∧A4∧A5∧A6)(k:A0→A1→A2→A3→A4→A5→A6→P):P:=k h.1 h.2.1 h.2.2.1 h.2.2.2.1 h.2.2.2.2.1 h.2.2.2.2.2.1 h.2.2.2.2.2.2
theorem AI{α0:Sort _}{A0:Prop}{A1:Prop}{A2:Prop}{A3:α0→Prop}{P:Prop}(h:A0∧A1∧A2∧ ∃x0,A3 x0)(k:A0→A1→A2→ ∀x0,(A3 x0)→P):P:=(h.2.2.2).elim fun a0 h1=>k h.1 h.2.1 h.2.2.1 a0 h1
theorem sA{α0:Sort _}{α1:Sort _}{A0:Prop}{A1:Prop}{A2:α0→α1→Prop}{A3:α0→α1→Prop}{P:Prop}(h:A0∧A1∧ ∃x0,∃x1,A2 x0 x1∧A3 x0 x1)(k:A0→A1→ ∀x0,∀x1,(A2 x0 x1)→(A3 x0 x1)→P):P:=(h.2.2).elim fun a0 h1=>(h1).elim fun a1 h2=>k h.1 h.2.1 a0 a1 h2.1 h2.2
theorem oA1E1{α0:Sort _}{A0:Prop}{A1:α0→Prop}{P:Prop}(h:A0∧ ∃x0,A1 x0)(k:A0→ ∀x0,(A1 x0)→P):P:=(h.2).elim fun a0 h1=>k h.1 a0 h1
theorem ir{α0:Sort _}{α1:Sort _}{A0:Prop}{A1:α0→α1→Prop}{A2:α0→α1→Prop}{A3:α0→α1→Prop}{A4:α0→α1→Prop}{P:Prop}(h:A0∧ ∃x0,∃x1,A1 x0 x1∧A2 x0 x1∧A3 x0 x1∧A4 x0 x1)(k:A0→ ∀x0,∀x1,(A1 x0 x1)→(A2 x0 x1)→(A3 x0 x1)→(A4 x0 x1)→P):P:=(h.2).elim fun a0 h1=>(h1).elim fun a1 h2=>k h.1 a0 a1 h2.1 h2.2.1 h2.2.2.1 h2.2.2.2
theorem cN{α0:Sort _}{A0:α0→Prop}{P:Prop}(h: ∃x0,A0 x0)(k: ∀x0,(A0 x0)→P):P:=h.elim fun a0 h1=>k a0 h1
theorem aA{α0:Sort _}{A0:α0→Prop}{A1:α0→Prop}{P:Prop}(h: ∃x0,A0 x0∧A1 x0)(k: ∀x0,(A0 x0)→(A1 x0)→P):P:=h.elim fun a0 h1=>k a0 h1.1 h1.2
theorem cf{α0:Sort _}{A0:α0→Prop}{A1:α0→Prop}{A2:α0→Prop}{P:Prop}(h: ∃x0,A0 x0∧A1 x0∧A2 x0)(k: ∀x0,(A0 x0)→(A1 x0)→(A2 x0)→P):P:=h.elim fun a0 h1=>k a0 h1.1 h1.2.1 h1.2.2
theorem sw{α0:Sort _}{α1:Sort _}{A0:α0→Prop}{A1:α0→Prop}{A2:α0→α1→Prop}{P:Prop}(h: ∃x0,A0 x0∧A1 x0∧ ∃x1,A2 x0 x1)(k: ∀x0,(A0 x0)→(A1 x0)→ ∀x1,(A2 x0 x1)→P):P:=h.elim fun a0 h1=>(h1.2.2).elim fun a1 h2=>k a0 h1.1 h1.2.1 a1 h2
theorem CT{α0:Sort _}{α1:Sort _}{α2:Sort _}{α3:Sort _}{A0:α0→Prop}{A1:α0→α1→α2→α3→Prop}{P:Prop}(h: ∃x0,A0 x0∧ ∃x1,∃x2,∃x3,A1 x0 x1 x2 x3)(k: ∀x0,(A0 x0)→ ∀x1,∀x2,∀x3,(A1 x0 x1 x2 x3)→P):P:=h.elim fun a0 h1=>(h1.2).elim fun a1 h2=>(h2).elim fun a2 h3=>(h3).elim fun a3 h4=>k a0 h1.1 a1 a2 a3 h4
theorem qt{α0:Sort _}{α1:Sort _}{A0:α0→α1→Prop}{P:Prop}(h: ∃x0,∃x1,A0 x0 x1)(k: ∀x0,∀x1,(A0 x0 x1)→P):P:=h.elim fun a0 h1=>(h1).elim fun a1 h2=>k a0 a1 h2
theorem cz{α0:Sort _}{α1:Sort _}{A0:α0→α1→Prop}{A1:α0→α1→Prop}{P:Prop}(h: ∃x0,∃x1,A0 x0 x1∧A1 x0 x1)(k: ∀x0,∀x1,(A0 x0 x1)→(A1 x0 x1)→P):P:=h.elim fun a0 h1=>(h1).elim fun a1 h2=>k a0 a1 h2.1 h2.2
theorem cI{α0:Sort _}{α1:Sort _}{A0:α0→α1→Prop}{A1:α0→α1→Prop}{A2:α0→α1→Prop}{P:Prop}(h: ∃x0,∃x1,A0 x0 x1∧A1 x0 x1∧A2 x0 x1)(k: ∀x0,∀x1,(A0 x0 x1)→(A1 x0 x1)→(A2 x0 x1)→P):P:=h.elim fun a0 h1=>(h1).elim fun a1 h2=>k a0 a1 h2.1 h2.2.1 h2.2.2
theorem nz{α0:Sort _}{α1:Sort _}{A0:α0→α1→Prop}{A1:α0→α1→Prop}{A2:α0→α1→Prop}{A3:α0→α1→Prop}{P:Prop}(h: ∃x0,∃x1,A0 x0 x1∧A1 x0 x1∧A2 x0 x1∧A3 x0 x1)(k: ∀x0,∀x1,(A0 x0 x1)→(A1 x0 x1)→(A2 x0 x1)→(A3 x0 x1)→P):P:=h.elim fun a0 h1=>(h1).elim fun a1 h2=>k a0 a1 h2.1 h2.2.1 h2.2.2.1 h2.2.2.2
theorem DM{α0:Sort _}{α1:Sort _}{A0:α0→α1→Prop}{A1:α0→α1→Prop}{A2:α0→α1→Prop}{A3:α0→α1→Prop}{A4:α0→α1→Prop}{P:Prop}(h: ∃x0,∃x1,A0 x0 x1∧A1 x0 x1∧A2 x0 x1∧A3 x0 x1∧A4 x0 x1)(k: ∀x0,∀x1,(A0 x0 x1)→(A1 x0 x1)→(A2 x0 x1)→(A3 x0 x1)→(A4 x0 x1)→P):P:=h.elim fun a0 h1=>(h1).elim fun a1 h2=>k a0 a1 h2.1 h2.2.1 h2.2.2.1 h2.2.2.2.1 h2.2.2.2.2
theorem jC{α0:Sort _}{α1:Sort _}{α2:Sort _}{A0:α0→α1→α2→Prop}{P:Prop}(h: ∃x0,∃x1,∃x2,A0 x0 x1 x2)(k: ∀x0,∀x1,∀x2,(A0 x0 x1 x2)→P):P:=h.elim fun a0 h1=>(h1).elim fun a1 h2=>(h2).elim fun a2 h3=>k a0 a1 a2 h3
theorem je{α0:Sort _}{α1:Sort _}{α2:Sort _}{A0:α0→α1→α2→Prop}{A1:α0→α1→α2→Prop}{P:Prop}(h: ∃x0,∃x1,∃x2,A0 x0 x1 x2∧A1 x0 x1 x2)(k: ∀x0,∀x1,∀x2,(A0 x0 x1 x2)→(A1 x0 x1 x2)→P):P:=h.elim fun a0 h1=>(h1).elim fun a1 h2=>(h2).elim fun a2 h3=>k a0 a1 a2 h3.1 h3.2
theorem jV{α0:Sort _}{α1:Sort _}{α2:Sort _}{A0:α0→α1→α2→Prop}{A1:α0→α1→α2→Prop}{A2:α0→α1→α2→Prop}{P:Prop}(h: ∃x0,∃x1,∃x2,A0 x0 x1 x2∧A1 x0 x1 x2∧A2 x0 x1 x2)(k: ∀x0,∀x1,∀x2,(A0 x0 x1 x2)→(A1 x0 x1 x2)→(A2 x0 x1 x2)→P):P:=h.elim fun a0 h1=>(h1).elim fun a1 h2=>(h2).elim fun a2 h3=>k a0 a1 a2 h3.1 h3.2.1 h3.2.2
theorem gq{α0:Sort _}{α1:Sort _}{α2:Sort _}{A0:α0→α1→α2→Prop}{A1:α0→α1→α2→Prop}{A2:α0→α1→α2→Prop}{A3:α0→α1→α2→Prop}{P:Prop}(h: ∃x0,∃x1,∃x2,A0 x0 x1 x2∧A1 x0 x1 x2∧A2 x0 x1 x2∧A3 x0 x1 x2)(k: ∀x0,∀x1,∀x2,(A0 x0 x1 x2)→(A1 x0 x1 x2)→(A2 x0 x1 x2)→(A3 x0 x1 x2)→P):P:=h.elim fun a0 h1=>(h1).elim fun a1 h2=>(h2).elim fun a2 h3=>k a0 a1 a2 h3.1 h3.2.1 h3.2.2.1 h3.2.2.2
theorem un{α0:Sort _}{α1:Sort _}{α2:Sort _}{α3:Sort _}{A0:α0→α1→α2→α3→Prop}{P:Prop}(h: ∃x0,∃x1,∃x2,∃x3,A0 x0 x1 x2 x3)(k: ∀x0,∀x1,∀x2,∀x3,(A0 x0 x1 x2 x3)→P):P:=h.elim fun a0 h1=>(h1).elim fun a1 h2=>(h2).elim fun a2 h3=>(h3).elim fun a3 h4=>k a0 a1 a2 a3 h4
theorem AH{α0:Sort _}{α1:Sort _}{α2:Sort _}{α3:Sort _}{A0:α0→α1→α2→α3→Prop}{A1:α0→α1→α2→α3→Prop}{P:Prop}(h: ∃x0,∃x1,∃x2,∃x3,A0 x0 x1 x2 x3∧A1 x0 x1 x2 x3)(k: ∀x0,∀x1,∀x2,∀x3,(A0 x0 x1 x2 x3)→(A1 x0 x1 x2 x3)→P):P:=h.elim fun a0 h1=>(h1).elim fun a1 h2=>(h2).elim fun a2 h3=>(h3).elim fun a3 h4=>k a0 a1 a2 a3 h4.1 h4.2
theorem rg{α0:Sort _}{α1:Sort _}{α2:Sort _}{α3:Sort _}{A0:α0→α1→α2→α3→Prop}{A1:α0→α1→α2→α3→Prop}{A2:α0→α1→α2→α3→Prop}{P:Prop}(h: ∃x0,∃x1,∃x2,∃x3,A0 x0 x1 x2 x3∧A1 x0 x1 x2 x3∧A2 x0 x1 x2 x3)(k: ∀x0,∀x1,∀x2,∀x3,(A0 x0 x1 x2 x3)→(A1 x0 x1 x2 x3)→(A2 x0 x1 x2 x3)→P):P:=h.elim fun a0 h1=>(h1).elim fun a1 h2=>(h2).elim fun a2 h3=>(h3).elim fun a3 h4=>k a0 a1 a2 a3 h4.1 h4.2.1 h4.2.2
theorem oE5{α0:Sort _}{α1:Sort _}{α2:Sort _}{α3:Sort _}{α4:Sort _}{A0:α0→α1→α2→α3→α4→Prop}{P:Prop}(h: ∃x0,∃x1,∃x2,∃x3,∃x4,A0 x0 x1 x2 x3 x4)(k: ∀x0,∀x1,∀x2,∀x3,∀x4,(A0 x0 x1 x2 x3 x4)→P):P:=h.elim fun a0 h1=>(h1).elim fun a1 h2=>(h2).elim fun a2 h3=>(h3).elim fun a3 h4=>(h4).elim fun a4 h5=>k a0 a1 a2 a3 a4 h5
theorem oE6{α0:Sort _}{α1:Sort _}{α2:Sort _}{α3:Sort _}{α4:Sort _}{α5:Sort _}{A0:α0→α1→α2→α3→α4→α5→Prop}{P:Prop}(h: ∃x0,∃x1,∃x2,∃x3,∃x4,∃x5,A0 x0 x1 x2 x3 x4 x5)(k: ∀x0,∀x1,∀x2,∀x3,∀x4,∀x5,(A0 x0 x1 x2 x3 x4 x5)→P):P:=h.elim fun a0 h1=>(h1).elim fun a1 h2=>(h2).elim fun a2 h3=>(h3).elim fun a3 h4=>(h4).elim fun a4 h5=>(h5).elim fun a5 h6=>k a0 a1 a2 a3 a4 a5 h6
theorem iF{P:Prop}(h: ¬P→False):P:=Classical.byContradiction h
theorem EA{α0:Sort _}{β:Sort _}{f:α0→β}(v:β)(h: ∃x0,v=f x0){P:β→Prop}(k: ∀x0,P (f x0)):P v:=h.elim fun a0 h1=>Eq.subst (motive:=P) (h1).symm (k a0)
theorem Ag{α0:Sort _}{α1:Sort _}{β:Sort _}{A0:α0→α1→Prop}{A1:α0→α1→Prop}{f:α0→α1→β}(v:β)(h: ∃x0,∃x1,v=f x0 x1∧A0 x0 x1∧A1 x0 x1){P:β→Prop}(k: ∀x0,∀x1,(A0 x0 x1)→(A1 x0 x1)→P (f x0 x1)):P v:=h.elim fun a0 h1=>(h1).elim fun a1 h2=>Eq.subst (motive:=P) (h2.1).symm (k a0 a1 h2.2.1 h2.2.2)
theorem rh{α0:Sort _}{α1:Sort _}{A0:α0→α1→Prop}{A1:α0→α1→Prop}{A2:α0→α1→Prop}{A3:α0→α1→Prop}{A4:α0→α1→Prop}{A5:α0→α1→Prop}{P:Prop}(h: ∃x0,∃x1,A0 x0 x1∧A1 x0 x1∧A2 x0 x1∧A3 x0 x1∧A4 x0 x1∧A5 x0 x1)(k: ∀x0,∀x1,(A0 x0 x1)→(A1 x0 x1)→(A2 x0 x1)→(A3 x0 x1)→(A4 x0 x1)→(A5 x0 x1)→P):P:=h.elim fun a0 h1=>(h1).elim fun a1 h2=>k a0 a1 h2.1 h2.2.1 h2.2.2.1 h2.2.2.2.1 h2.2.2.2.2.1 h2.2.2.2.2.2
theorem oE3A5{α0:Sort _}{α1:Sort _}{α2:Sort _}{A0:α0→α1→α2→Prop}{A1:α0→α1→α2→Prop}{A2:α0→α1→α2→Prop}{A3:α0→α1→α2→Prop}{A4:α0→α1→α2→Prop}{A5:α0→α1→α2→Prop}{P:Prop}(h: ∃x0,∃x1,∃x2,A0 x0 x1 x2∧A1 x0 x1 x2∧A2 x0 x1 x2∧A3 x0 x1 x2∧A4 x0 x1 x2∧A5 x0 x1 x2)(k: ∀x0,∀x1,∀x2,(A0 x0 x1 x2)→(A1 x0 x1 x2)→(A2 x0 x1 x2)→(A3 x0 x1 x2)→(A4 x0 x1 x2)→(A5 x0 x1 x2)→P):P:=h.elim fun a0 h1=>(h1).elim fun a1 h2=>(h2).elim fun a2 h3=>k a0 a1 a2 h3.1 h3.2.1 h3.2.2.1 h3.2.2.2.1 h3.2.2.2.2.1 h3.2.2.2.2.2
end Mine
end
section
namespace Mine
noncomputable def eE:List S:=[
 .iff (.cmp .is (.var "key") (.cst .none)) [.asg (.name "lo") (.call "bisect_left" [.var "a",.var "x",.var "lo",.var "hi"] .no)] [.asg (.name "lo") (.call "bisect_left" [.var "a",.callv "key" (.var "x"),.var "lo",.var "hi"] (.var "key"))],
 .ex (.meth "insert" (.var "a") [.var "lo",.var "x"])]
noncomputable def eF:List S:=[
 .iff (.cmp .lt (.var "lo") (.cst (.int 0))) [.raise [108,111,32,109,117,115,116,32,98,101,32,110,111,110,45,110,101,103,97,116,105,118,101]] [],
 .iff (.cmp .is (.var "hi") (.cst .none)) [.asg (.name "hi") (.bi "len" [.var "a"])] [],
 .iff (.cmp .is (.var "key") (.cst .none)) [.whl (.cmp .lt (.var "lo") (.var "hi")) [.asg (.name "mid") (.bin .div (.bin .add (.var "lo") (.var "hi")) (.cst (.int 2))),.iff (.cmp .lt (.sub (.var "a") (.var "mid")) (.var "x")) [.asg (.name "lo") (.bin .add (.var "mid") (.cst (.int 1)))] [.asg (.name "hi") (.var "mid")]]] [.whl (.cmp .lt (.var "lo") (.var "hi")) [.asg (.name "mid") (.bin .div (.bin .add (.var "lo") (.var "hi")) (.cst (.int 2))),.iff (.cmp .lt (.callv "key" (.sub (.var "a") (.var "mid"))) (.var "x")) [.asg (.name "lo") (.bin .add (.var "mid") (.cst (.int 1)))] [.asg (.name "hi") (.var "mid")]]],
 .ret (.var "lo")]
noncomputable def cx:List S:=[
 .for_ (.tup [.name "index",.name "direction"]) (.selfList (.var "self")) [.asg (.name "l") (.sub (.var "left") (.var "index")),.asg (.name "r") (.sub (.var "right") (.var "index")),.iff (.cmp .lt (.var "l") (.var "r")) [.ret (.neg (.var "direction"))] [],.iff (.cmp .gt (.var "l") (.var "r")) [.ret (.var "direction")] []],
 .ret (.cst (.int 0))]
noncomputable def c6:List S:=[
 .asg (.tup [.name "cc",.name "nc",.name "tt",.name "ct",.name "callers"]) (.var "source"),
 .asg (.tup [.name "t_cc",.name "t_nc",.name "t_tt",.name "t_ct",.name "t_callers"]) (.var "target"),
 .ret (.tup [.bin .add (.var "cc") (.var "t_cc"),.bin .add (.var "nc") (.var "t_nc"),.bin .add (.var "tt") (.var "t_tt"),.bin .add (.var "ct") (.var "t_ct"),.call "add_callers" [.var "t_callers",.var "callers"] .no])]
noncomputable def eG:List S:=[
 .asg (.name "new_callers") (.dictM),
 .for_ (.tup [.name "func",.name "caller"]) (.items (.var "target")) [.asgSub (.var "new_callers") (.var "func") (.var "caller")],
 .for_ (.tup [.name "func",.name "caller"]) (.items (.var "source")) [.iff (.cmp .in_ (.var "func") (.var "new_callers")) [.iff (.isTup (.var "caller")) [.asgSub (.var "new_callers") (.var "func") (.tupSum (.var "caller") (.sub (.var "new_callers") (.var "func")))] [.augSub (.var "new_callers") (.var "func") (.var "caller")]] [.asgSub (.var "new_callers") (.var "func") (.var "caller")]],
 .frz "new_callers",
 .ret (.var "new_callers")]
noncomputable def iG:List S:=[
 .ret (.cmp .lt (.var "x") (.gint "NT_OFFSET" 256))]
noncomputable def eZ:List S:=[
 .ret (.cmp .ge (.var "x") (.gint "NT_OFFSET" 256))]
noncomputable def th:List S:=[
 .ret (.cmp .eq (.var "x") (.gint "ENDMARKER" 0))]
noncomputable def ju:List S:=[
 .ret (.lst [.tup [.cst (.str [38]),.cst (.int 19),.cst (.int 8)],.tup [.cst (.str [124]),.cst (.int 18),.cst (.int 14)],.tup [.cst (.str [94]),.cst (.int 32),.cst (.int 6)],.tup [.cst (.str [61,61]),.cst (.int 27),.cst (.int 9)],.tup [.cst (.str [33,61]),.cst (.int 28),.cst (.int 6)],.tup [.cst (.str [60]),.cst (.int 20),.cst (.int 2)],.tup [.cst (.str [62]),.cst (.int 21),.cst (.int 4)],.tup [.cst (.str [60,61]),.cst (.int 29),.cst (.int 11)],.tup [.cst (.str [62,61]),.cst (.int 30),.cst (.int 13)]])]
noncomputable def cL:List S:=[
 .asg (.tup [.name "letters",.name "parts"]) (.tup [.lst [.tup [.cst (.str [97]),.cst (.int 170)],.tup [.cst (.str [98]),.cst (.int 204)],.tup [.cst (.str [99]),.cst (.int 240)]],.lstM []]),
 .for_ (.tup [.name "letter",.name "bits"]) (.bin .add (.var "letters") (.lst [.sub (.var "letters") (.bin .mod (.bin .div (.var "shape") (.cst (.int 8))) (.cst (.int 3)))])) [.ex (.meth "append" (.var "parts") [.ite (.bin .mod (.var "shape") (.cst (.int 2))) (.tup [.bin .add (.cst (.str [126,32])) (.var "letter"),.bin .sub (.cst (.int 255)) (.var "bits")]) (.tup [.var "letter",.var "bits"])]),.asg (.name "shape") (.ite (.cmp .lt (.bi "len" [.var "parts"]) (.cst (.int 4))) (.bin .div (.var "shape") (.cst (.int 2))) (.bin .div (.var "shape") (.cst (.int 6))))],
 .for_ (.name "size") (.tup [.cst (.int 3),.cst (.int 2),.cst (.int 1)]) [.asg (.tup [.name "at",.tup [.name "sign",.name "number",.name "row"]]) (.tup [.bin .mod (.var "shape") (.var "size"),.sub (.call "_law_signs" [] .no) (.bin .mod (.bin .div (.var "shape") (.var "size")) (.cst (.int 9)))]),.asg (.tup [.tup [.name "left",.name "one"],.tup [.name "right",.name "other"]]) (.slice (.var "parts") (.var "at") (.bin .add (.var "at") (.cst (.int 2)))),.asg (.name "bits") (.bi "sum" [.lcomp (.bin .shl (.cst (.int 1)) (.var "mask")) (.name "mask") (.range (.cst (.int 8))) (.bin .and (.bin .shr (.var "row") (.bin .add (.bin .mul (.cst (.int 2)) (.bin .and (.bin .shr (.var "one") (.var "mask")) (.cst (.int 1)))) (.bin .and (.bin .shr (.var "other") (.var "mask")) (.cst (.int 1))))) (.cst (.int 1)))]),.asg (.name "parts") (.bin .add (.bin .add (.slice (.var "parts") .no (.var "at")) (.lst [.tup [.bin .add (.bin .add (.bin .add (.bin .add (.bin .add (.bin .add (.cst (.str [40,32])) (.var "left")) (.cst (.str [32]))) (.var "sign")) (.cst (.str [32]))) (.var "right")) (.cst (.str [32,41])),.var "bits"]])) (.slice (.var "parts") (.bin .add (.var "at") (.cst (.int 2))) .no)),.asg (.name "shape") (.bin .div (.bin .div (.var "shape") (.var "size")) (.cst (.int 9)))],
 .ret (.sub (.var "parts") (.cst (.int 0)))]
noncomputable def dC:List S:=[
 .asg (.tup [.name "nodes",.name "shelf",.name "comp"]) (.var "book"),
 .iff (.cmp .eq (.var "off") (.var "on")) [.ret (.var "off")] [],
 .asg (.name "new") (.tup [.var "place",.var "off",.var "on",.bin .add (.gint "NT_OFFSET" 256) (.bi "len" [.var "shelf"])]),
 .seal "comp",
 .seal "new",
 .asg (.name "at") (.call "bisect_left" [.var "shelf",.cst (.int 0)] (.lam 0)),
 .iff (.bor (.cmp .eq (.var "at") (.bi "len" [.var "shelf"])) (.compare (.var "comp") (.sub (.var "shelf") (.var "at")) (.var "new"))) [.ex (.call "insort_left" [.var "shelf",.var "new"] (.lam 1)),.asgSub (.var "nodes") (.sub (.var "new") (.cst (.int 3))) (.slice (.var "new") .no (.cst (.int 3)))] [],
 .ret (.sub (.sub (.var "shelf") (.var "at")) (.cst (.int 3)))]
noncomputable def gH:List S:=[
 .ret (.ite (.band (.call "ISNONTERMINAL" [.var "node"] .no) (.cmp .eq (.sub (.sub (.sub (.var "book") (.cst (.int 0))) (.var "node")) (.cst (.int 0))) (.var "place"))) (.slice (.sub (.sub (.var "book") (.cst (.int 0))) (.var "node")) (.cst (.int 1)) .no) (.tup [.var "node",.var "node"]))]
noncomputable def dR:List S:=[
 .iff (.band (.call "ISTERMINAL" [.var "one"] .no) (.call "ISTERMINAL" [.var "other"] .no)) [.ret (.bin .and (.bin .shr (.var "row") (.bin .add (.bin .mul (.cst (.int 2)) (.var "one")) (.var "other"))) (.cst (.int 1)))] [],
 .asg (.name "place") (.bi "min" [.lcomp (.sub (.sub (.sub (.var "book") (.cst (.int 0))) (.var "node")) (.cst (.int 0))) (.name "node") (.tup [.var "one",.var "other"]) (.call "ISNONTERMINAL" [.var "node"] .no)]),
 .asg (.tup [.tup [.name "off",.name "on"],.tup [.name "out",.name "up"]]) (.tup [.call "_law_parts" [.var "book",.var "one",.var "place"] .no,.call "_law_parts" [.var "book",.var "other",.var "place"] .no]),
 .ret (.call "_law_node" [.var "book",.var "place",.call "_law_joined" [.var "book",.var "row",.var "off",.var "out"] .no,.call "_law_joined" [.var "book",.var "row",.var "on",.var "up"] .no] .no)]
noncomputable def fH:List S:=[
 .asg (.tup [.name "rows",.name "pile",.name "waiting"]) (.tup [.dcomp (.var "number") (.var "row") (.tup [.name "sign",.name "number",.name "row"]) (.call "_law_signs" [] .no),.lstM [],.lstM []]),
 .for_ (.name "symbol") (.lcomp (.ite (.inGlob (.var "sign")) (.subGlob (.var "sign")) (.bin .sub (.bin .add (.gint "NT_OFFSET" 256) (.bi "ord" [.var "sign"])) (.cst (.int 97)))) (.name "sign") (.meth "split" (.var "text") [.cst (.str [32])]) .no) [.iff (.call "ISNONTERMINAL" [.var "symbol"] .no) [.ex (.meth "append" (.var "pile") [.call "_law_node" [.var "book",.meth "index" (.var "order") [.bin .sub (.var "symbol") (.gint "NT_OFFSET" 256)],.cst (.int 0),.cst (.int 1)] .no]),.iff (.cmp .eq (.slice (.var "waiting") (.neg (.cst (.int 1))) .no) (.lst [.cst (.int 31)])) [.ex (.meth "append" (.var "pile") [.call "_law_joined" [.var "book",.cst (.int 6),.meth "pop" (.var "pile") [],.bin .sub (.meth "pop" (.var "waiting") []) (.cst (.int 30))] .no])] []] [.iff (.cmp .eq (.var "symbol") (.cst (.int 8))) [.ex (.meth "append" (.var "pile") [.call "_law_joined" [.var "book",.sub (.var "rows") (.meth "pop" (.var "waiting") []),.meth "pop" (.var "pile") [.neg (.cst (.int 2))],.meth "pop" (.var "pile") []] .no])] [.iff (.cmp .ne (.var "symbol") (.cst (.int 7))) [.ex (.meth "append" (.var "waiting") [.var "symbol"])] []]]],
 .ret (.sub (.var "pile") (.cst (.int 0)))]
noncomputable def dq:List S:=[
 .iff (.cmp .eq (.var "place") (.cst (.int 3))) [.ret (.bin .and (.bin .shr (.var "bits") (.var "mask")) (.cst (.int 1)))] [],
 .ret (.call "_law_node" [.var "book",.var "place",.call "_law_drawing" [.var "book",.var "bits",.var "order",.bin .add (.var "place") (.cst (.int 1)),.var "mask"] .no,.call "_law_drawing" [.var "book",.var "bits",.var "order",.bin .add (.var "place") (.cst (.int 1)),.bin .or (.var "mask") (.bin .shl (.cst (.int 1)) (.sub (.var "order") (.var "place")))] .no] .no)]
noncomputable def fY:List S:=[
 .iff (.cmp .eq (.var "place") (.cst (.int 3))) [.ret (.tup [.var "node",.cst (.int 1),.cst (.int 0),.cst (.int 0),.dict []])] [],
 .asg (.tup [.tup [.name "off",.name "on"],.name "worth"]) (.tup [.call "_law_parts" [.var "book",.var "node",.var "place"] .no,.bin .shl (.cst (.int 1)) (.sub (.var "order") (.var "place"))]),
 .asg (.tup [.name "some",.name "every",.name "total",.name "squares",.name "table"]) (.call "_law_told" [.var "book",.var "on",.var "order",.bin .add (.var "place") (.cst (.int 1))] .no),
 .asg (.name "table") (.dcomp (.var "k") (.ite (.cmp .lt (.var "k") (.cst (.int 3))) (.sub (.var "table") (.var "k")) (.tup [.sub (.sub (.var "table") (.var "k")) (.cst (.int 0)),.bin .add (.sub (.sub (.var "table") (.var "k")) (.cst (.int 1))) (.bin .mul (.sub (.sub (.var "table") (.var "k")) (.cst (.int 0))) (.var "worth"))])) (.name "k") (.var "table")),
 .asg (.tup [.name "total",.name "squares"]) (.tup [.bin .add (.var "total") (.bin .mul (.var "some") (.var "worth")),.bin .add (.bin .add (.var "squares") (.bin .mul (.bin .mul (.cst (.int 2)) (.var "worth")) (.var "total"))) (.bin .mul (.bin .mul (.var "some") (.var "worth")) (.var "worth"))]),
 .asg (.name "changed") (.tup [.var "some",.var "every",.var "total",.var "squares",.call "add_callers" [.var "table",.dict [.sub (.var "order") (.var "place"),.var "some",.bin .add (.cst (.int 3)) (.sub (.var "order") (.var "place")),.tup [.var "some",.var "total"]]] .no]),
 .ret (.call "add_func_stats" [.call "_law_told" [.var "book",.var "off",.var "order",.bin .add (.var "place") (.cst (.int 1))] .no,.var "changed"] .no)]
noncomputable def gI:List S:=[
 .asg (.tup [.name "seen",.name "wait"]) (.tup [.lstM [],.lstM [.var "node"]]),
 .whl (.var "wait") [.asg (.name "one") (.meth "pop" (.var "wait") []),.asg (.name "at") (.call "bisect_left" [.var "seen",.var "one"] .no),.iff (.band (.call "ISNONTERMINAL" [.var "one"] .no) (.cmp .ne (.slice (.var "seen") (.var "at") (.bin .add (.var "at") (.cst (.int 1)))) (.lst [.var "one"]))) [.ex (.call "insort_left" [.var "seen",.var "one"] .no),.asg (.name "wait") (.catM (.var "wait") (.bi "list" [.slice (.sub (.sub (.var "book") (.cst (.int 0))) (.var "one")) (.cst (.int 1)) .no]))] []],
 .frz "seen",
 .ret (.lcomp (.bi "len" [.lcomp (.var "one") (.name "one") (.var "seen") (.cmp .eq (.sub (.sub (.sub (.var "book") (.cst (.int 0))) (.var "one")) (.cst (.int 0))) (.var "place"))]) (.name "place") (.range (.cst (.int 3))) .no)]
noncomputable def gG:List S:=[
 .asg (.name "fronts") (.lcomp (.var "mask") (.name "mask") (.range (.cst (.int 8))) (.cmp .eq (.lcomp (.var "k") (.name "k") (.slice (.var "order") (.var "place") .no) (.bin .and (.bin .shr (.var "mask") (.var "k")) (.cst (.int 1)))) (.lst []))),
 .asg (.name "tails") (.lcomp (.var "mask") (.name "mask") (.range (.cst (.int 8))) (.cmp .eq (.lcomp (.var "k") (.name "k") (.slice (.var "order") .no (.bin .add (.var "place") (.cst (.int 1)))) (.bin .and (.bin .shr (.var "mask") (.var "k")) (.cst (.int 1)))) (.lst []))),
 .asg (.name "rests") (.lcomp (.lcomp (.lcomp (.bin .and (.bin .shr (.var "bits") (.bin .or (.bin .or (.var "front") (.var "on")) (.var "tail"))) (.cst (.int 1))) (.name "tail") (.var "tails") .no) (.name "on") (.tup [.cst (.int 0),.bin .shl (.cst (.int 1)) (.sub (.var "order") (.var "place"))]) .no) (.name "front") (.var "fronts") .no),
 .ret (.bi "len" [.lcomp (.var "k") (.tup [.name "k",.name "rest"]) (.enum (.var "rests")) (.band (.cmp .ne (.sub (.var "rest") (.cst (.int 0))) (.sub (.var "rest") (.cst (.int 1)))) (.cmp .notIn (.var "rest") (.slice (.var "rests") .no (.var "k"))))])]
noncomputable def gJ:List S:=[
 .asg (.name "drawn") (.lcomp (.bin .add (.var "start") (.bi "sum" [.lcomp (.bin .mod (.var "number") (.cst (.int 1000000))) (.tup [.name "at",.name "number"]) (.enum (.slice (.var "script") .no (.cst (.int 60)))) (.cmp .eq (.bin .mod (.var "at") (.cst (.int 4))) (.var "place"))])) (.tup [.name "place",.name "start"]) (.enum (.tup [.cst (.int 37588),.cst (.int 69153),.cst (.int 344),.cst (.int 5)])) .no),
 .asg (.tup [.name "orders",.name "turns"]) (.tup [.lst [.tup [.cst (.int 0),.cst (.int 1),.cst (.int 2)],.tup [.cst (.int 0),.cst (.int 2),.cst (.int 1)],.tup [.cst (.int 1),.cst (.int 0),.cst (.int 2)],.tup [.cst (.int 1),.cst (.int 2),.cst (.int 0)],.tup [.cst (.int 2),.cst (.int 0),.cst (.int 1)],.tup [.cst (.int 2),.cst (.int 1),.cst (.int 0)]],.tup [.cst (.int 1),.neg (.cst (.int 1)),.cst (.int 2),.neg (.cst (.int 3))]]),
 .asg (.tup [.name "order",.name "point"]) (.tup [.sub (.var "orders") (.bin .mod (.sub (.var "drawn") (.cst (.int 2))) (.cst (.int 6))),.bin .shl (.cst (.int 1)) (.bin .mod (.sub (.var "drawn") (.cst (.int 3))) (.cst (.int 8)))]),
 .asg (.name "keys") (.lcomp (.tup [.var "column",.sub (.var "turns") (.bin .mod (.bin .div (.sub (.var "drawn") (.cst (.int 2))) (.var "size")) (.cst (.int 4)))]) (.tup [.name "column",.name "size"]) (.zip (.sub (.var "orders") (.bin .mod (.bin .div (.sub (.var "drawn") (.cst (.int 2))) (.cst (.int 384))) (.cst (.int 6)))) (.tup [.cst (.int 6),.cst (.int 24),.cst (.int 96)])) .no),
 .asg (.tup [.name "shelf",.name "comp"]) (.tup [.lstM [],.bi "TupleComp" [.var "keys"]]),
 .asg (.name "book") (.tup [.dictM,.var "shelf",.var "comp"]),
 .asg (.tup [.tup [.name "text",.name "bits"],.tup [.name "further",.name "meant"]]) (.tup [.call "_law_formula" [.sub (.var "drawn") (.cst (.int 0))] .no,.call "_law_formula" [.sub (.var "drawn") (.cst (.int 1))] .no]),
 .asg (.name "roots") (.lst [.call "_law_run" [.var "book",.var "text",.var "order"] .no,.call "_law_run" [.var "book",.var "further",.var "order"] .no]),
 .iff (.bor (.cmp .ne (.var "roots") (.lst [.call "_law_drawing" [.var "book",.var "bits",.var "order",.cst (.int 0),.cst (.int 0)] .no,.call "_law_drawing" [.var "book",.var "meant",.var "order",.cst (.int 0),.cst (.int 0)] .no])) (.cmp .isNot (.cmp .eq (.sub (.var "roots") (.cst (.int 0))) (.sub (.var "roots") (.cst (.int 1)))) (.cmp .eq (.var "bits") (.var "meant")))) [.ret (.cst (.bool false))] [],
 .for_ (.tup [.name "root",.name "truth"]) (.zip (.var "roots") (.tup [.var "bits",.var "meant"])) [.iff (.bor (.cmp .isNot (.call "ISEOF" [.var "root"] .no) (.cmp .eq (.var "truth") (.cst (.int 0)))) (.bor (.cmp .isNot (.call "ISTERMINAL" [.var "root"] .no) (.cmp .in_ (.var "truth") (.tup [.cst (.int 0),.cst (.int 255)]))) (.bor (.cmp .isNot (.call "ISNONTERMINAL" [.var "root"] .no) (.cmp .notIn (.var "truth") (.tup [.cst (.int 0),.cst (.int 255)]))) (.cmp .ne (.call "_law_below" [.var "book",.var "root"] .no) (.lcomp (.call "_law_rests" [.var "truth",.var "order",.var "place"] .no) (.name "place") (.range (.cst (.int 3))) .no))))) [.ret (.cst (.bool false))] [],.asg (.tup [.name "true",.name "told"]) (.tup [.lcomp (.var "mask") (.name "mask") (.range (.cst (.int 8))) (.bin .and (.bin .shr (.var "truth") (.var "mask")) (.cst (.int 1))),.call "_law_told" [.var "book",.var "root",.var "order",.cst (.int 0)] .no]),.asg (.name "on") (.lcomp (.lcomp (.var "mask") (.name "mask") (.var "true") (.bin .and (.bin .shr (.var "mask") (.var "k")) (.cst (.int 1)))) (.name "k") (.range (.cst (.int 3))) .no),.asg (.name "tables") (.lcomp (.dcomp (.var "k") (.ite (.cmp .lt (.var "k") (.cst (.int 3))) (.bin .mul (.var "times") (.bi "len" [.sub (.var "on") (.var "k")])) (.tup [.bin .mul (.var "times") (.bi "len" [.sub (.var "on") (.bin .sub (.var "k") (.cst (.int 3)))]),.bin .mul (.var "times") (.bi "sum" [.sub (.var "on") (.bin .sub (.var "k") (.cst (.int 3)))])])) (.name "k") (.range (.cst (.int 6)))) (.name "times") (.tup [.cst (.int 1),.cst (.int 2)]) .no),.iff (.bor (.cmp .ne (.call "add_callers" [.sub (.var "told") (.cst (.int 4)),.sub (.var "told") (.cst (.int 4))] .no) (.sub (.var "tables") (.cst (.int 1)))) (.cmp .ne (.var "told") (.tup [.bi "len" [.var "true"],.cst (.int 8),.bi "sum" [.var "true"],.bi "sum" [.lcomp (.bin .mul (.var "mask") (.var "mask")) (.name "mask") (.var "true") .no],.sub (.var "tables") (.cst (.int 0))]))) [.ret (.cst (.bool false))] []],
 .asg (.name "alone") (.call "_law_drawing" [.var "book",.var "point",.var "order",.cst (.int 0),.cst (.int 0)] .no),
 .asg (.name "changed") (.call "_law_joined" [.var "book",.cst (.int 6),.sub (.var "roots") (.cst (.int 0)),.var "alone"] .no),
 .iff (.bor (.cmp .eq (.var "changed") (.sub (.var "roots") (.cst (.int 0)))) (.bor (.cmp .ne (.var "changed") (.call "_law_drawing" [.var "book",.bin .xor (.var "bits") (.var "point"),.var "order",.cst (.int 0),.cst (.int 0)] .no)) (.cmp .ne (.call "_law_joined" [.var "book",.cst (.int 6),.var "alone",.var "changed"] .no) (.sub (.var "roots") (.cst (.int 0)))))) [.ret (.cst (.bool false))] [],
 .iff (.lcomp (.var "number") (.name "number") (.tup [.bin .sub (.neg (.cst (.int 1))) (.sub (.var "drawn") (.cst (.int 3))),.cst (.int 0),.bin .mod (.sub (.var "drawn") (.cst (.int 3))) (.cst (.int 256)),.cst (.int 255),.cst (.int 256),.bin .add (.cst (.int 256)) (.sub (.var "drawn") (.cst (.int 2)))]) (.bor (.cmp .isNot (.call "ISTERMINAL" [.var "number"] .no) (.cmp .lt (.var "number") (.cst (.int 256)))) (.bor (.cmp .isNot (.call "ISNONTERMINAL" [.var "number"] .no) (.cmp .gt (.var "number") (.cst (.int 255)))) (.cmp .isNot (.call "ISEOF" [.var "number"] .no) (.cmp .eq (.var "number") (.cst (.int 0))))))) [.ret (.cst (.bool false))] [],
 .seal "keys",
 .asg (.tup [.name "due",.name "pairs"]) (.tup [.sortKey (.var "shelf") (.lam 2),.listZip (.var "shelf") (.slice (.var "shelf") (.cst (.int 1)) .no)]),
 .asg (.name "apart") (.lcomp (.sub (.bin .add (.lcomp (.bi "abs" [.var "way"]) (.tup [.name "column",.name "way"]) (.var "keys") (.cmp .ne (.sub (.var "one") (.var "column")) (.sub (.var "two") (.var "column")))) (.lst [.cst (.int 0)])) (.cst (.int 0))) (.tup [.name "one",.name "two"]) (.var "pairs") .no),
 .iff (.bor (.cmp .ne (.var "shelf") (.var "due")) (.bor (.cmp .in_ (.cst (.int 0)) (.var "apart")) (.cmp .ne (.lcomp (.tup [.compare (.var "comp") (.var "one") (.var "two"),.compare (.var "comp") (.var "two") (.var "one")]) (.tup [.name "one",.name "two"]) (.var "pairs") .no) (.lcomp (.tup [.neg (.var "way"),.var "way"]) (.name "way") (.var "apart") .no)))) [.ret (.cst (.bool false))] [],
 .asg (.name "k") (.bin .mod (.sub (.var "drawn") (.cst (.int 3))) (.bi "len" [.var "shelf"])),
 .asg (.tup [.name "twin",.name "laid"]) (.tup [.bin .add (.slice (.sub (.var "shelf") (.var "k")) .no (.cst (.int 3))) (.tup [.cst (.int 0)]),.lst [.listM (.var "shelf"),.listM (.var "shelf"),.listM (.var "shelf")]]),
 .seal "comp",
 .seal "twin",
 .asg (.name "key") (.lam 3),
 .asg (.name "places") (.tup [.call "bisect_left" [.var "shelf",.cst (.int 0),.bin .add (.var "k") (.cst (.int 1))] (.var "key"),.call "bisect_left" [.var "shelf",.cst (.int 0),.cst (.int 0),.bin .div (.var "k") (.cst (.int 2))] (.var "key")]),
 .asg (.name "told") (.tup [.call "insort_left" [.sub (.var "laid") (.cst (.int 0)),.var "twin"] (.var "key"),.call "insort_left" [.sub (.var "laid") (.cst (.int 1)),.var "twin",.bin .add (.var "k") (.cst (.int 1))] (.var "key"),.call "insort_left" [.sub (.var "laid") (.cst (.int 2)),.var "twin",.cst (.int 0),.bin .div (.var "k") (.cst (.int 2))] (.var "key")]),
 .iff (.bor (.cmp .ne (.var "places") (.tup [.bin .add (.var "k") (.cst (.int 1)),.bin .div (.var "k") (.cst (.int 2))])) (.bor (.cmp .ne (.var "told") (.tup [.cst .none,.cst .none,.cst .none])) (.cmp .ne (.var "laid") (.lcomp (.bin .add (.bin .add (.slice (.var "shelf") .no (.var "at")) (.lst [.var "twin"])) (.slice (.var "shelf") (.var "at") .no)) (.name "at") (.tup [.var "k",.bin .add (.var "k") (.cst (.int 1)),.bin .div (.var "k") (.cst (.int 2))]) .no)))) [.ret (.cst (.bool false))] [],
 .tryIns (.var "shelf") (.var "twin") (.bin .sub (.neg (.cst (.int 1))) (.bin .mod (.sub (.var "drawn") (.cst (.int 3))) (.cst (.int 3)))) "key" "shelf" "due",
 .ret (.cst (.bool false))]
noncomputable def l_0:E:= .compare (.var "comp") (.var "row") (.var "new")
noncomputable def l_1:E:= .compare (.var "comp") (.var "row") (.var "new")
noncomputable def l_2:E:= .lcomp (.bin .mul (.ite (.cmp .gt (.var "way") (.cst (.int 0))) (.cst (.int 1)) (.neg (.cst (.int 1)))) (.sub (.var "row") (.var "column"))) (.tup [.name "column",.name "way"]) (.var "keys") .no
noncomputable def l_3:E:= .compare (.var "comp") (.var "row") (.var "twin")
noncomputable def wq:List (List Nat×Int):=[([33],54),([33,61],28),([37],24),([37,61],40),([38],19),([38,61],41),([40],7),([41],8),([42],16),([42,42],35),([42,42,61],46),([42,61],38),([43],14),([43,61],36),([44],12),([45],15),([45,61],37),([45,62],51),([46],23),([46,46,46],52),([47],17),([47,47],47),([47,47,61],48),([47,61],39),([58],11),([58,61],53),([59],13),([60],20),([60,60],33),([60,60,61],44),([60,61],29),([61],22),([61,61],27),([62],21),([62,61],30),([62,62],34),([62,62,61],45),([64],49),([64,61],50),([91],9),([93],10),([94],32),([94,61],43),([123],25),([124],18),([124,61],42),([125],26),([126],31)]
noncomputable def lam0:Nat→Option (String×E×List String)
 |0=>some ("row",l_0,["comp", "new"])
 |1=>some ("row",l_1,["comp", "new"])
 |2=>some ("row",l_2,["keys"])
 |3=>some ("row",l_3,["comp", "twin"])
 |_=> .none
noncomputable def prog:zC where
 ext:=wq
 lam:=lam0
 fns:=[
  ("insort_left",{params:=["a", "x", "lo", "hi"],dflt:=[.none,.none,some (.int 0),some .none],key:=true,body:=eE}),
  ("bisect_left",{params:=["a", "x", "lo", "hi"],dflt:=[.none,.none,some (.int 0),some .none],key:=true,body:=eF}),
  ("TupleComp.compare",{params:=["self", "left", "right"],dflt:=[.none,.none,.none],key:=false,body:=cx}),
  ("add_func_stats",{params:=["target", "source"],dflt:=[.none,.none],key:=false,body:=c6}),
  ("add_callers",{params:=["target", "source"],dflt:=[.none,.none],key:=false,body:=eG}),
  ("ISTERMINAL",{params:=["x"],dflt:=[.none],key:=false,body:=iG}),
  ("ISNONTERMINAL",{params:=["x"],dflt:=[.none],key:=false,body:=eZ}),
  ("ISEOF",{params:=["x"],dflt:=[.none],key:=false,body:=th}),
  ("_law_signs",{params:=[],dflt:=[],key:=false,body:=ju}),
  ("_law_formula",{params:=["shape"],dflt:=[.none],key:=false,body:=cL}),
  ("_law_node",{params:=["book", "place", "off", "on"],dflt:=[.none,.none,.none,.none],key:=false,body:=dC}),
  ("_law_parts",{params:=["book", "node", "place"],dflt:=[.none,.none,.none],key:=false,body:=gH}),
  ("_law_joined",{params:=["book", "row", "one", "other"],dflt:=[.none,.none,.none,.none],key:=false,body:=dR}),
  ("_law_run",{params:=["book", "text", "order"],dflt:=[.none,.none,.none],key:=false,body:=fH}),
  ("_law_drawing",{params:=["book", "bits", "order", "place", "mask"],dflt:=[.none,.none,.none,.none,.none],key:=false,body:=dq}),
  ("_law_told",{params:=["book", "node", "order", "place"],dflt:=[.none,.none,.none,.none],key:=false,body:=fY}),
  ("_law_below",{params:=["book", "node"],dflt:=[.none,.none],key:=false,body:=gI}),
  ("_law_rests",{params:=["bits", "order", "place"],dflt:=[.none,.none,.none],key:=false,body:=gG}),
  ("law",{params:=["script"],dflt:=[.none],key:=false,body:=gJ})]
end Mine
end
section
namespace Mine.P
theorem cU{α β:Type}{o:ay α}{a:α}{f:α→ay β}{r:ay β}(h:o= .ok a)(k:f a=r):o.bind f=r:=by rw[h];exact k
theorem jN{α β:Type}{o:ay α}{a:α}{f:α→ay β}{r:ay β}(h:o= .ok a)(k:f a=r):o.calm.bind f=r:=by rw[h];exact k
theorem bY{α β:Type}{o:Option α}{a:α}{f:α→ay β}{r:ay β}(h:o=some a)(k:f a=r):(ay.ofOpt o).bind f=r:=by rw[h];exact k
theorem cG{α β:Type}{o:Option α}{a:α}{f:α→Option β}{z:Option β}(h:o=some a)(k:f a=z):o.bind f=z:=by rw[h];exact k
theorem FM{α:Type}{a b:Option α}{v:α}(h:a=some v):a.or b=some v:=by rw[h];rfl
theorem d9{σ:ah}{i:Nat}{xs:List V}(h:σ[i]? =some (.list xs)):qJ σ i=some xs:=cG h rfl
theorem km{σ:ah}{i:Nat}{ks:List Int}{vs:List V}(h:σ[i]? =some (.dict ks vs)):Bo σ i=some (ks,vs):=cG h rfl
theorem sI{σ:ah}{a:V}{xs:List V}(h:jS σ a=some xs):wC σ "len" [a]=some (.int xs.length):=by show(jS σ a).bind _=_;exact cG h rfl
theorem gS{σ:ah}{op:Op}{a b i:Int}(h:iop op a b=some i):cX σ op (.int a) (.int b)=some (.int i):=FM (cG rfl (cG rfl (cG h rfl)))
theorem xG{σ:ah}{i:Nat}{m:String}{xs:List V}(h:σ[i]? =some (.list xs))(hm:m= "append" ∨m= "insert" ∨m= "pop"):lh σ m (.ref i)=true:=by
 refine(if_pos hm).trans ?_
 show(qJ σ i).isSome=_
 rw[d9 h];rfl
theorem ibnd{β:Type}{c:Bool}{x y:β}{r:β}(t:c=true→x=r)(e:c=false→y=r):(if c then x else y)=r:=by
 cases c
 ·exact e rfl
 ·exact t rfl
section
variable{C:Ctx}{call:aw}{n:Nat}{ρ:Env}{σ σ1 σ2 σ3:ah}{a b c e:E}{x y z v:V}{es:List E}{vs:List V}{s t:Bool}{st:S}{r:List S}{f:String}{l:List V}
theorem af{m:String}(h:aM ρ m=some v):bp C call (.var m) ρ σ= .ok (v,σ):=by show(ay.ofOpt _).bind _=_;exact bY h rfl
theorem aj:bp C call (.cst v) ρ σ= .ok (v,σ):=rfl
theorem lJ:bp C call .no ρ σ= .ok (.none,σ):=rfl
theorem pL{i:Int}(h:bp C call a ρ σ= .ok (.int i,σ1)):bp C call (.neg a) ρ σ= .ok (.int (-i),σ1):=by show ay.bind _ _=_;exact cU h rfl
theorem aC{op:Op}(h1:bp C call a ρ σ= .ok (x,σ1))(h2:bp C call b ρ σ1= .ok (y,σ2))(h:cX σ2 op x y=some v):bp C call (.bin op a b) ρ σ= .ok (v,σ2):=by show ay.bind _ _=_;exact cU h1 (cU h2 (bY h rfl))
theorem lK{op:Cm}(h1:bp C call a ρ σ= .ok (x,σ1))(h2:bp C call b ρ σ1= .ok (y,σ2))(h:dn σ2 op x y=some s):bp C call (.cmp op a b) ρ σ= .ok (.bool s,σ2):=by show ay.bind _ _=_;exact cU h1 (cU h2 (bY h rfl))
theorem zS{g:Env→ah→ay (V×ah)}(he:den C call e= .of g)(h:bp C call e ρ σ= .ok (v,σ1))(ht:nh σ1 v=some t):eR C call e ρ σ= .ok (t,σ1):=by
 have h':(den C call e).e ρ σ=_:=h
 rw[he] at h'
 rw[eR,he]
 exact cU h' (bY ht rfl)
theorem xZ{g:Env→ah→ay (V×ah)}(he:den C call e= .of g)(h:bp C call e ρ σ= .ok (v,σ1))(ht:wg σ1 v=some l):qu C call e ρ σ= .ok (l,σ1):=by
 have h':(den C call e).e ρ σ=_:=h
 rw[he] at h'
 rw[qu,he]
 exact cU h' (bY ht rfl)
theorem aX{op:Cm}(h1:bp C call a ρ σ= .ok (x,σ1))(h2:bp C call b ρ σ1= .ok (y,σ2))(h:dn σ2 op x y=some s):eR C call (.cmp op a b) ρ σ= .ok (s,σ2):=zS rfl (lK h1 h2 h) rfl
theorem gb(h1:eR C call a ρ σ= .ok (false,σ1))(h2:eR C call b ρ σ1= .ok (t,σ2)):eR C call (.bor a b) ρ σ= .ok (t,σ2):=by show ay.bind _ _=_;exact cU h1 h2
theorem En(h1:eR C call a ρ σ= .ok (true,σ1)):eR C call (.bor a b) ρ σ= .ok (true,σ1):=by show ay.bind _ _=_;exact cU h1 rfl
theorem mj(h1:eR C call a ρ σ= .ok (true,σ1))(h2:eR C call b ρ σ1= .ok (t,σ2)):eR C call (.band a b) ρ σ= .ok (t,σ2):=by show ay.bind _ _=_;exact cU h1 h2
theorem nW(h1:eR C call a ρ σ= .ok (false,σ1)):eR C call (.band a b) ρ σ= .ok (false,σ1):=by show ay.bind _ _=_;exact cU h1 rfl
theorem aN(h1:bp C call a ρ σ= .ok (x,σ1))(h2:bp C call b ρ σ1= .ok (y,σ2))(h:dE σ2 x y=some v):bp C call (.sub a b) ρ σ= .ok (v,σ2):=by show ay.bind _ _=_;exact cU h1 (cU h2 (bY h rfl))
theorem cw(h1:bp C call a ρ σ= .ok (x,σ1))(h2:bp C call b ρ σ1= .ok (y,σ2))(h3:bp C call c ρ σ2= .ok (z,σ3))(h:cR σ3 x y z=some v):bp C call (.slice a b c) ρ σ= .ok (v,σ3):=by show ay.bind _ _=_;exact cU h1 (cU h2 (cU h3 (bY h rfl)))
theorem aq:dB C call [] ρ σ= .ok ([],σ):=rfl
theorem aa(h1:bp C call a ρ σ= .ok (x,σ1))(h2:dB C call es ρ σ1= .ok (vs,σ2)):dB C call (a::es) ρ σ= .ok (x::vs,σ2):=by show ay.bind _ _=_;exact cU h1 (cU h2 rfl)
theorem au(h1:bp C call a ρ σ= .ok (x,σ1)):dB C call [a] ρ σ= .ok ([x],σ1):=aa h1 aq
theorem bF(h:dB C call es ρ σ= .ok (vs,σ1)):bp C call (.tup es) ρ σ= .ok (.tup vs,σ1):=by show ay.bind _ _=_;exact cU h rfl
theorem jZ(h:dB C call es ρ σ= .ok (vs,σ1)):bp C call (.lst es) ρ σ= .ok (.lst vs,σ1):=by show ay.bind _ _=_;exact cU h rfl
theorem sU(h:dB C call es ρ σ= .ok (vs,σ1)):bp C call (.lstM es) ρ σ= .ok (.ref σ1.length,σ1++[.list vs]):=by show ay.bind _ _=_;exact cU h rfl
theorem jo(h:dB C call es ρ σ= .ok (vs,σ1))(hb:wC σ1 f vs=some v):bp C call (.bi f es) ρ σ= .ok (v,σ1):=by show ay.bind _ _=_;exact cU h (bY hb rfl)
theorem bf{o:ay (V×ah)}(h:dB C call es ρ σ= .ok (vs,σ1))(hc:call (.fn f) vs .none σ1=o):bp C call (.call f es .no) ρ σ=o:=by show ay.bind _ _=_;exact cU h hc
theorem gD{o:ay (V×ah)}{k:E}(h:dB C call es ρ σ= .ok (vs,σ1))(hk:bp C call k ρ σ1= .ok (x,σ2))(hc:call (.fn f) vs x σ2=o):bp C call (.call f es k) ρ σ=o:=by show ay.bind _ _=_;exact cU h (cU hk hc)
theorem yf{m:String}{o:ay (V×ah)}{k:Nat}{ws:List V}(h:aM ρ m=some (.clo k ws))(ha:bp C call a ρ σ= .ok (x,σ1))(hc:call (.clo k ws) [x] .none σ1=o):bp C call (.callv m a) ρ σ=o:=by
 show(ay.ofOpt ((aM ρ m).bind uZ)).bind _=_
 rw[h]
 exact cU rfl (cU ha hc)
theorem dW(h:dB C call es ρ σ= .ok (vs,σ1))(hc:call (.fn f) vs .none σ1= .ok (.bool t,σ2)):eR C call (.call f es .no) ρ σ= .ok (t,σ2):=zS rfl (bf h hc) rfl
theorem iC{m:String}{o:ay (V×ah)}(h:bp C call a ρ σ= .ok (x,σ1))(hm:lh σ1 m x=true)(hl:dB C call es ρ σ1= .ok (vs,σ2))(hc:ay.ofOpt (ke σ2 m x vs)=o):bp C call (.meth m a es) ρ σ=o:=by
 show ay.bind _ _=_
 refine cU h ?_
 show(if lh σ1 m x then _ else _)=_
 rw[hm]
 exact cU hl hc
theorem nH{o:ay (V×ah)}(h1:eR C call c ρ σ= .ok (s,σ1))(h2:s=true→bp C call a ρ σ1=o)(h3:s=false→bp C call b ρ σ1=o):bp C call (.ite c a b) ρ σ=o:=by show ay.bind _ _=_;exact cU h1 (ibnd h2 h3)
theorem fG{o:ay (V×ah)}(h:bp C call c ρ σ= .ok (.inst z,σ1))(ha:bp C call a ρ σ1= .ok (x,σ2))(hb:bp C call b ρ σ2= .ok (y,σ3))(hc:call (.fn "TupleComp.compare") [.inst z,x,y] .none σ3=o):bp C call (.compare c a b) ρ σ=o:=by show ay.bind _ _=_;exact cU h (cU rfl (cU ha (cU hb hc)))
theorem sV{xs:List V}(h:bp C call a ρ σ= .ok (v,σ1))(hs:jS σ1 v=some xs):bp C call (.listM a) ρ σ= .ok (.ref σ1.length,σ1++[.list xs]):=by show ay.bind _ _=_;exact cU h (bY hs rfl)
theorem DQ(h1:bp C call a ρ σ= .ok (x,σ1))(h2:bp C call b ρ σ1= .ok (y,σ2))(h:zJ x y=some l):qu C call (.zip a b) ρ σ= .ok (l,σ2):=by show ay.bind _ _=_;exact cU h1 (cU h2 (bY h rfl))
theorem wl(h1:bp C call a ρ σ= .ok (x,σ1))(h:Bi x=some l):qu C call (.enum a) ρ σ= .ok (l,σ1):=by show ay.bind _ _=_;exact cU h1 (bY h rfl)
theorem oj(h1:bp C call a ρ σ= .ok (x,σ1))(h:xz x=some l):qu C call (.range a) ρ σ= .ok (l,σ1):=by show ay.bind _ _=_;exact cU h1 (bY h rfl)
theorem xY(h1:bp C call a ρ σ= .ok (x,σ1))(h:sK x=some l):qu C call (.items a) ρ σ= .ok (l,σ1):=by show ay.bind _ _=_;exact cU h1 (bY h rfl)
theorem nE{m:String}(h:aM ρ m=some (.lst l)):qu C call (.var m) ρ σ= .ok (l,σ):=xZ rfl (af h) rfl
theorem eH{ρ':Env}{o:ay (Fl×Env×ah)}(h:vG C call n st ρ σ= .ok (.next,ρ',σ1))(hr:bk C call n r ρ' σ1=o):bk C call n (st::r) ρ σ=o:=by show ay.bind _ _=_;exact cU h hr
theorem wP{ρ':Env}(h:vG C call n st ρ σ= .ok (.ret v,ρ',σ1)):bk C call n (st::r) ρ σ= .ok (.ret v,ρ',σ1):=by show ay.bind _ _=_;exact cU h rfl
theorem c8{t:T}{b:Env}{o:ay (Fl×Env×ah)}(h:bp C call e ρ σ= .ok (v,σ1))(hb:dU t v=some b)(hr:bk C call n r (dK ρ b) σ1=o):bk C call n (.asg t e::r) ρ σ=o:=
 eH (by
  show ay.bind _ _=_
  exact cU h (bY hb rfl)) hr
theorem bD{m:String}{o:ay (Fl×Env×ah)}(h:bp C call e ρ σ= .ok (v,σ1))(hr:bk C call n r (put ρ m v) σ1=o):bk C call n (.asg (.name m) e::r) ρ σ=o:=c8 (b:=[(m,v)]) h rfl hr
theorem dD(h:bp C call e ρ σ= .ok (v,σ1)):bk C call n (.ret e::r) ρ σ= .ok (.ret v,ρ,σ1):=wP (by show ay.bind _ _=_;exact cU h rfl)
theorem BZ{o:ay (Fl×Env×ah)}(h:bp C call e ρ σ= .ok (.none,σ1))(hr:bk C call n r ρ σ1=o):bk C call n (.ex e::r) ρ σ=o:=eH (by show ay.bind _ _=_;exact cU h rfl) hr
theorem xi{p q:List S}{o:ay (Fl×Env×ah)}(h:eR C call c ρ σ= .ok (s,σ1))(h1:s=true→bk C call n p ρ σ1=o)(h2:s=false→bk C call n q ρ σ1=o):vG C call n (.iff c p q) ρ σ=o:=by show ay.bind _ _=_;exact cU h (ibnd h1 h2)
theorem gN{p:List S}{o:ay (Fl×Env×ah)}(h:eR C call c ρ σ= .ok (false,σ1))(hr:bk C call n r ρ σ1=o):bk C call n (.iff c p []::r) ρ σ=o:=eH (xi h (fun q=>nomatch q) fun _=>rfl) hr
theorem gX{p q:List S}{ρ':Env}{o:ay (Fl×Env×ah)}(h:eR C call c ρ σ= .ok (true,σ1))(hp:bk C call n p ρ σ1= .ok (.next,ρ',σ2))(hr:bk C call n r ρ' σ2=o):bk C call n (.iff c p q::r) ρ σ=o:=eH (xi h (fun _=>hp) fun q=>nomatch q) hr
theorem ma{p q:List S}{ρ':Env}(h:eR C call c ρ σ= .ok (true,σ1))(hp:bk C call n p ρ σ1= .ok (.ret v,ρ',σ2)):bk C call n (.iff c p q::r) ρ σ= .ok (.ret v,ρ',σ2):=wP (xi h (fun _=>hp) fun q=>nomatch q)
theorem gO{p q:List S}{ρ':Env}{o:ay (Fl×Env×ah)}(h:eR C call c ρ σ= .ok (false,σ1))(hp:bk C call n q ρ σ1= .ok (.next,ρ',σ2))(hr:bk C call n r ρ' σ2=o):bk C call n (.iff c p q::r) ρ σ=o:=eH (xi h (fun q=>nomatch q) fun _=>hp) hr
noncomputable def lF(C:Ctx)(call:aw)(n:Nat)(t:T)(b:List S)(v:V)(ρ:Env)(σ:ah):ay (Fl×Env×ah):=(ay.ofOpt (dU t v)).bind fun bs=>bk C call n b (dK ρ bs) σ
theorem i8{t:T}{it:E}{b:List S}{o:ay (Fl×Env×ah)}(h:qu C call it ρ σ= .ok (l,σ1))(hl:c9 (lF C call n t b) l ρ σ1=o):vG C call n (.for_ t it b) ρ σ=o:=by show ay.bind _ _=_;exact cU h hl
theorem qV{t:T}{it:E}{b:List S}{ρ':Env}{o:ay (Fl×Env×ah)}(h:qu C call it ρ σ= .ok (l,σ1))(hl:c9 (lF C call n t b) l ρ σ1= .ok (.next,ρ',σ2))(hr:bk C call n r ρ' σ2=o):bk C call n (.for_ t it b::r) ρ σ=o:=eH (i8 h hl) hr
theorem eY{b:V→Env→ah→ay (Fl×Env×ah)}{ρ':Env}{o:ay (Fl×Env×ah)}(h:b v ρ σ= .ok (.next,ρ',σ1))(hr:c9 b l ρ' σ1=o):c9 b (v::l) ρ σ=o:=by show ay.bind _ _=_;exact jN h hr
theorem DX{b:V→Env→ah→ay (Fl×Env×ah)}{ρ':Env}(h:b v ρ σ= .ok (.ret x,ρ',σ1)):c9 b (v::l) ρ σ= .ok (.ret x,ρ',σ1):=by show ay.bind _ _=_;exact jN h rfl
theorem rx{b:V→Env→ah→ay (Fl×Env×ah)}{ρ':Env}(h:b v ρ σ= .ok (.next,ρ',σ1)):c9 b [v] ρ σ= .ok (.next,ρ',σ1):=eY h rfl
theorem lC{t:T}{b:List S}{bs:Env}(h:dU t v=some bs):lF C call n t b v ρ σ=bk C call n b (dK ρ bs) σ:=by
 exact bY h rfl
end
end Mine.P
end
section
namespace Mine.P
theorem fW{f:String}{fn:Fn}{args:List V}{ρ ρ':Env}{σ σ':ah}{v:V}{m:Nat}(hf:prog.fns.lookup f=some fn)(hk:fn.key=false)(hb:fe fn.params fn.dflt args=some ρ)(h:bk prog.toCtx (ak prog m) m fn.body ρ σ= .ok (.ret v,ρ',σ')):ak prog (m+1) (.fn f) args .none σ= .ok (v,σ'):=by
 show(ay.ofOpt (prog.fns.lookup f)).bind _=_
 refine bY hf (bY hb ?_)
 show(if fn.key||true then y5 prog.toCtx (ak prog m) m fn.body (if fn.key then ρ++[("key",V.none)] else ρ) σ else .stuck)=_
 rw[hk]
 exact jN h rfl
section
variable{C:Ctx}{call:aw}{n:Nat}{ρ:Env}{σ σ1 σ2:ah}
theorem xI{c:Env→ah→ay (Bool×ah)}{b:Env→ah→ay (Fl×Env×ah)}{m:Nat}{ρ':Env}{o:ay (Fl×Env×ah)}(h:c ρ σ= .ok (true,σ1))(hb:b ρ σ1= .ok (.next,ρ',σ2))(hr:jY c b m ρ' σ2=o):jY c b (m+1) ρ σ=o:=by show ay.bind _ _=_;exact jN h (jN hb hr)
theorem AQ{c:Env→ah→ay (Bool×ah)}{b:Env→ah→ay (Fl×Env×ah)}{m:Nat}(h:c ρ σ= .ok (false,σ1)):jY c b (m+1) ρ σ= .ok (.next,ρ,σ1):=by show ay.bind _ _=_;exact jN h rfl
noncomputable abbrev ic:=Int×Int×Int
noncomputable def bT(r:ic)(i:Int):V:= .tup [.int r.1,.int r.2.1,.int r.2.2,.int i]
noncomputable def ub(r:ic):V:= .tup [.int r.1,.int r.2.1,.int r.2.2]
noncomputable def col(r:ic)(c:Int):Int:=if c=0 then r.1 else if c=1 then r.2.1 else r.2.2
noncomputable abbrev bx:=List (Int×Int)
noncomputable def dM(K:bx):V:= .lst (K.map fun p=> .tup [.int p.1,.int p.2])
noncomputable def bW:bx→ic→ic→Int
 |[],_,_=>0
 |(c,w)::K,a,b=>if col a c<col b c then-w else if col b c<col a c then w else bW K a b
noncomputable def cA(K:bx):Prop:= ∀p∈K,(p.1=0∨p.1=1∨p.1=2)∧p.2≠0
theorem il{r:ic}{i c:Int}(h:c=0∨c=1∨c=2):dE σ (bT r i) (.int c)=some (.int (col r c)):=by
 rcases h with rfl|rfl|rfl<;>rfl
noncomputable def cpB:List S:=[.asg (.name "l") (.sub (.var "left") (.var "index")),.asg (.name "r") (.sub (.var "right") (.var "index")),.iff (.cmp .lt (.var "l") (.var "r")) [.ret (.neg (.var "direction"))] [],.iff (.cmp .gt (.var "l") (.var "r")) [.ret (.var "direction")] []]
noncomputable def BS(K:bx)(a b:ic)(i j:Int)(t:Env):Env:=("self",.inst (dM K))::("left",bT a i)::("right",bT b j)::t
noncomputable def Fg(c w x y:V):Env:=[("index",c),("direction",w),("l",x),("r",y)]
theorem Dp{K:bx}{a b:ic}{i j c w:Int}{t:Env}(ht:t=[]∨ ∃p q x y,t=Fg p q x y)(hc:c=0∨c=1∨c=2):
  lF C call n (.tup [.name "index",.name "direction"]) cpB (.tup [.int c,.int w]) (BS K a b i j t) σ= .ok (if col a c<col b c then .ret (.int (-w)) else if col b c<col a c then .ret (.int w) else .next,BS K a b i j (Fg (.int c) (.int w) (.int (col a c)) (.int (col b c))),σ):=by
 have fin:bk C call n (cpB.drop 2) (BS K a b i j (Fg (.int c) (.int w) (.int (col a c)) (.int (col b c)))) σ= .ok (if col a c<col b c then .ret (.int (-w)) else if col b c<col a c then .ret (.int w) else .next,BS K a b i j (Fg (.int c) (.int w) (.int (col a c)) (.int (col b c))),σ):=by
  have c1:=aX (C:=C) (call:=call) (op:= .lt) (s:=decide (col a c<col b c)) (af (ρ:=BS K a b i j (Fg (.int c) (.int w) (.int (col a c)) (.int (col b c)))) (σ:=σ) (m:= "l") rfl) (af (m:= "r") rfl) rfl
  have c2:=aX (C:=C) (call:=call) (op:= .gt) (s:=decide (col b c<col a c)) (af (ρ:=BS K a b i j (Fg (.int c) (.int w) (.int (col a c)) (.int (col b c)))) (σ:=σ) (m:= "l") rfl) (af (m:= "r") rfl) rfl
  by_cases h1:col a c<col b c
  ·rw[if_pos h1]
   rw[decide_eq_true h1] at c1
   exact ma c1 (dD (pL (af rfl)))
  ·rw[if_neg h1]
   rw[decide_eq_false h1] at c1
   by_cases h2:col b c<col a c
   ·rw[if_pos h2]
    rw[decide_eq_true h2] at c2
    exact gN c1 (ma c2 (dD (af rfl)))
   ·rw[if_neg h2]
    rw[decide_eq_false h2] at c2
    exact gN c1 (gN c2 rfl)
 rw[lC (bs:=[("index",.int c),("direction",.int w)]) rfl]
 rcases ht with rfl|⟨_,_,_,_,rfl⟩
 ·exact bD (aN (af rfl) (af rfl) (il hc)) (bD (aN (af rfl) (af rfl) (il hc)) fin)
 ·exact bD (aN (af rfl) (af rfl) (il hc)) (bD (aN (af rfl) (af rfl) (il hc)) fin)
theorem yl{K0:bx}{a b:ic}{i j:Int}: ∀{K:bx} {t:Env},(t=[]∨ ∃p q x y,t=Fg p q x y)→cA K→
  ∃t',c9 (lF C call n (.tup [.name "index",.name "direction"]) cpB) (K.map fun p=> .tup [.int p.1,.int p.2]) (BS K0 a b i j t) σ= .ok (if bW K a b=0 then .next else .ret (.int (bW K a b)),BS K0 a b i j t',σ)
 |[],t,_,_=>⟨t,rfl⟩
 |(c,w)::K,t,ht,h=>by
  obtain⟨hc,hw⟩:=h (c,w) (List.mem_cons_self ..)
  have s:=Dp (C:=C) (call:=call) (n:=n) (σ:=σ) (K:=K0) (a:=a) (b:=b) (i:=i) (j:=j) (w:=w) ht hc
  show∃t',c9 _ (_::_) _ _= .ok (if(if col a c<col b c then-w else if col b c<col a c then w else bW K a b)=0 then .next else .ret (.int (if col a c<col b c then-w else if col b c<col a c then w else bW K a b)),_,_)
  by_cases h1:col a c<col b c
  ·rw[if_pos h1] at s⊢
   exact⟨_,(DX s).trans (by rw[if_neg fun e=>hw (Int.neg_eq_zero.mp e)])⟩
  ·rw[if_neg h1] at s⊢
   by_cases h2:col b c<col a c
   ·rw[if_pos h2] at s⊢
    exact⟨_,(DX s).trans (by rw[if_neg hw])⟩
   ·rw[if_neg h2] at s⊢
    obtain⟨t',e⟩:=yl (K:=K) (.inr ⟨_,_,_,_,rfl⟩) fun p hp=>h p (List.mem_cons_of_mem _ hp)
    exact⟨t',eY s e⟩
theorem gg{m:Nat}{K:bx}{a b:ic}{i j:Int}(hK:cA K):ak prog (m+1) (.fn "TupleComp.compare") [.inst (dM K),bT a i,bT b j] .none σ= .ok (.int (bW K a b),σ):=by
 obtain⟨t,e⟩:=yl (C:=prog.toCtx) (call:=ak prog m) (n:=m) (σ:=σ) (K0:=K) (a:=a) (b:=b) (i:=i) (j:=j) (t:=[]) (.inl rfl) hK
 have hs:qu prog.toCtx (ak prog m) (.selfList (.var "self")) (BS K a b i j []) σ= .ok (K.map fun p=> .tup [.int p.1,.int p.2],σ):=rfl
 refine fW (fn:={params:=["self", "left", "right"],dflt:=[.none,.none,.none],key:=false,body:=cx}) (ρ':=BS K a b i j t) rfl rfl rfl ?_
 by_cases h:bW K a b=0
 ·rw[if_pos h] at e
  rw[h]
  exact qV hs e rfl
 ·rw[if_neg h] at e
  exact wP (i8 hs e)
end
end Mine.P
end
section
namespace Mine.P
noncomputable def bE(a x:V)(lo hi:Nat)(key:V)(t:Env):Env:=("a",a)::("x",x)::("lo",.int lo)::("hi",.int hi)::("key",key)::t
noncomputable def Fv(ce:E):List S:=[.asg (.name "mid") (.bin .div (.bin .add (.var "lo") (.var "hi")) (.cst (.int 2))),.iff ce [.asg (.name "lo") (.bin .add (.var "mid") (.cst (.int 1)))] [.asg (.name "hi") (.var "mid")]]
section
variable{C:Ctx}{call:aw}{n:Nat}{σ:ah}
theorem half{lo hi:Nat}:cX σ .div (.int ((lo:Int)+hi)) (.int 2)=some (.int ((lo+hi)/2:Nat)):=by kernel_rfl
theorem qh{ce:E}{a x key:V}{c l0 h0:Nat}(hc: ∀(lo hi mid:Nat),l0≤mid→mid<h0→eR C call ce (bE a x lo hi key [("mid",.int mid)]) σ= .ok (decide (mid<c),σ)):
  ∀(m lo hi:Nat) (t:Env),(t=[]∨ ∃v,t=[("mid",v)])→hi<lo+m→l0≤lo→lo≤c→c≤hi→hi≤h0→
   ∃hi' t',jY (eR C call (.cmp .lt (.var "lo") (.var "hi"))) (bk C call n (Fv ce)) m (bE a x lo hi key t) σ= .ok (.next,bE a x c hi' key t',σ)
 |0,lo,hi,t,_,h,_,h2,h3,_=>absurd (Nat.le_trans h2 h3) (Nat.not_le_of_lt h)
 |m+1,lo,hi,t,ht,hm,h1,h2,h3,h4=>by
  have c0:=aX (C:=C) (call:=call) (op:= .lt) (af (ρ:=bE a x lo hi key t) (σ:=σ) (m:= "lo") rfl) (af (m:= "hi") rfl) rfl
  by_cases hlt:lo<hi
  ·rw[decide_eq_true (Int.ofNat_lt.mpr hlt)] at c0
   obtain⟨mid,hmid,hl,hh⟩: ∃mid,(lo+hi)/2=mid∧lo≤mid∧mid<hi:=⟨_,rfl,by omega,by omega⟩
   have s1: ∀{r o},bk C call n r (bE a x lo hi key [("mid",.int mid)]) σ=o→bk C call n (.asg (.name "mid") (.bin .div (.bin .add (.var "lo") (.var "hi")) (.cst (.int 2)))::r) (bE a x lo hi key t) σ=o:=by
    intro r o h
    rw[←hmid] at h
    rcases ht with rfl|⟨v,rfl⟩<;>exact bD (aC (aC (af rfl) (af rfl) rfl) aj half) h
   have hcm:=hc lo hi mid (Nat.le_trans h1 hl) (Nat.lt_of_lt_of_le hh h4)
   by_cases hcut:mid<c
   ·rw[decide_eq_true hcut] at hcm
    obtain⟨hi',t',e⟩:=qh hc m (mid+1) hi [("mid",.int mid)] (.inr ⟨_,rfl⟩) (by omega) (Nat.le_succ_of_le (Nat.le_trans h1 hl)) hcut h3 h4
    exact⟨hi',t',xI c0 (s1 (gX hcm (bD (v:= .int (mid+1:Nat)) (aC (af rfl) aj rfl) rfl) rfl)) e⟩
   ·rw[decide_eq_false hcut] at hcm
    obtain⟨hi',t',e⟩:=qh hc m lo mid [("mid",.int mid)] (.inr ⟨_,rfl⟩) (by omega) h1 h2 (Nat.le_of_not_lt hcut) (Nat.le_trans (Nat.le_of_lt hh) h4)
    exact⟨hi',t',xI c0 (s1 (gO hcm (bD (af rfl) rfl) rfl)) e⟩
  ·rw[decide_eq_false fun e=>hlt (Int.ofNat_lt.mp e)] at c0
   obtain rfl:c=lo:=Nat.le_antisymm (Nat.le_trans h3 (Nat.le_of_not_lt hlt)) h2
   exact⟨hi,t,AQ c0⟩
noncomputable def bisK:E:= .cmp .lt (.callv "key" (.sub (.var "a") (.var "mid"))) (.var "x")
noncomputable def bisN:E:= .cmp .lt (.sub (.var "a") (.var "mid")) (.var "x")
theorem xt{n:Nat}{args:List V}{a x key hiV:V}{c lo hi:Nat}{σ:ah}{ce:E}{xs:List V}(hb:fe ["a", "x", "lo", "hi"] [.none,.none,some (.int 0),some .none] args=some [("a",a),("x",x),("lo",.int lo),("hi",hiV)])
  (hs:jS σ a=some xs)(hh:hiV= .int hi∨(hiV= .none∧hi=xs.length))(h1:lo≤c)(h2:c≤hi)(hn:hi<n)
  (hk:(key= .none∧ce=bisN)∨((∃k ws,key= .clo k ws)∧ce=bisK))(hc: ∀(lo' hi' mid:Nat),lo≤mid→mid<hi→eR prog.toCtx (ak prog n) ce (bE a x lo' hi' key [("mid",.int mid)]) σ= .ok (decide (mid<c),σ)):
  ak prog (n+1) (.fn "bisect_left") args key σ= .ok (.int (c:Nat),σ):=by
 obtain⟨hi',t',e⟩:=qh (C:=prog.toCtx) (call:=ak prog n) (n:=n) hc n lo hi [] (.inl rfl) (Nat.lt_of_lt_of_le hn (Nat.le_add_left ..)) (Nat.le_refl _) h1 h2 (Nat.le_refl _)
 have fin:bk prog.toCtx (ak prog n) n [.iff (.cmp .is (.var "key") (.cst .none)) [.whl (.cmp .lt (.var "lo") (.var "hi")) (Fv bisN)] [.whl (.cmp .lt (.var "lo") (.var "hi")) (Fv bisK)],.ret (.var "lo")] (bE a x lo hi key []) σ= .ok (.ret (.int (c:Nat)),bE a x c hi' key t',σ):=by
  rcases hk with⟨rfl,rfl⟩|⟨⟨k,ws,rfl⟩,rfl⟩
  ·exact gX (aX (af rfl) aj rfl) (eH e rfl) (dD (af rfl))
  ·exact gO (aX (af rfl) aj rfl) (eH e rfl) (dD (af rfl))
 have body:bk prog.toCtx (ak prog n) n eF [("a",a),("x",x),("lo",.int lo),("hi",hiV),("key",key)] σ= .ok (.ret (.int (c:Nat)),bE a x c hi' key t',σ):=by
  refine gN (aX (af rfl) aj (congrArg some (decide_eq_false (Int.not_lt.mpr (Int.natCast_nonneg lo))))) ?_
  rcases hh with rfl|⟨rfl,rfl⟩
  ·exact gN (aX (af rfl) aj rfl) fin
  ·exact gX (aX (af rfl) aj rfl) (bD (jo (au (af rfl)) (sI hs)) rfl) fin
 refine bY (o:=fe ["a", "x", "lo", "hi"] [.none,.none,some (.int 0),some .none] args) hb ?_
 rcases hk with⟨rfl,_⟩|⟨⟨_,_,rfl⟩,_⟩<;>exact jN body rfl
end
theorem nZ{K:bx}{r a:ic}{i j:Int}{n k:Nat}{σ:ah}(hK:cA K)(hk:k=0∨k=1∨k=3):ak prog (n+2) (.clo k [.inst (dM K),bT r j]) [bT a i] .none σ= .ok (.int (bW K a r),σ):=by
 have h:=gg (m:=n) (a:=a) (b:=r) (i:=i) (j:=j) (σ:=σ) hK
 have u: ∀{o:ay (V×ah)} {v:V×ah},o= .ok v→o.calm= .ok v:=fun e=>by rw[e];rfl
 rcases hk with rfl|rfl|rfl
 ·exact u (fG (c:= .var "comp") (af rfl) (af rfl) (af rfl) h)
 ·exact u (fG (c:= .var "comp") (af rfl) (af rfl) (af rfl) h)
 ·exact u (fG (c:= .var "comp") (af rfl) (af rfl) (af rfl) h)
noncomputable abbrev cj:=List (ic×Int)
noncomputable def aG(L:cj):List V:=L.map fun q=>bT q.1 q.2
theorem jy{σ:ah}{i m:Nat}{xs:List V}{v:V}(h:σ[i]? =some (.list xs))(hv:xs[m]? =some v)(hl:xs.length<1000):dE σ (.ref i) (.int m)=some v:=by
 have hm:=(List.getElem?_eq_some_iff.mp hv).1
 have hb:((m:Int)).natAbs<qr:=Nat.lt_trans hm (Nat.lt_trans hl (by decide))
 refine FM (cG (d9 h) ((if_pos hb).trans ?_))
 show(if 0≤(m:Int) then(if(m:Int)<xs.length then some (m:Int).toNat else none) else _).bind _=_
 rw[if_pos (Int.natCast_nonneg m),if_pos (Int.ofNat_lt.mpr hm)]
 exact hv
theorem gf{σ:ah}{i:Nat}{xs:List V}(h:σ[i]? =some (.list xs)):jS σ (.ref i)=some xs:=by
 exact d9 h
theorem kU{n i:Nat}{K:bx}{L:cj}{r:ic}{j:Int}{k:Nat}{args:List V}{hiV:V}{c lo hi:Nat}{σ:ah}(hK:cA K)(hk:k=0∨k=1∨k=3)(ha:σ[i]? =some (.list (aG L)))(hl:L.length<64)
  (hb:fe ["a", "x", "lo", "hi"] [.none,.none,some (.int 0),some .none] args=some [("a",.ref i),("x",.int 0),("lo",.int lo),("hi",hiV)])(hh:hiV= .int hi∨(hiV= .none∧hi=L.length))(h1:lo≤c)(h2:c≤hi)(h3:hi≤L.length)(hn:64≤n)
  (hc: ∀i x,lo≤i→i<hi→L[i]? =some x→(bW K x.1 r<0↔i<c)):
  ak prog (n+3) (.fn "bisect_left") args (.clo k [.inst (dM K),bT r j]) σ= .ok (.int (c:Nat),σ):=by
 have hlen:(aG L).length=L.length:=List.length_map ..
 refine xt hb (gf ha) (by rw[hlen];exact hh) h1 h2 (Nat.lt_of_le_of_lt h3 (Nat.lt_of_lt_of_le hl (Nat.le_add_right_of_le hn))) (.inr ⟨⟨_,_,rfl⟩,rfl⟩) fun lo' hi' mid g1 g2=>?_
 have hm:=Nat.lt_of_lt_of_le g2 h3
 have hq:L[mid]? =some L[mid]:=List.getElem?_eq_getElem hm
 have hs:dE σ (.ref i) (.int mid)=some (bT L[mid].1 L[mid].2):=jy ha (by rw[aG,List.getElem?_map,hq];rfl) (by rw[hlen];omega)
 exact aX (yf rfl (aN (af rfl) (af rfl) hs) (nZ hK hk)) (af rfl) (congrArg some (Bool.eq_iff_iff.mpr (by rw[decide_eq_true_iff,decide_eq_true_iff];exact hc mid _ g1 g2 hq)))
end Mine.P
end
section
namespace Mine.P
noncomputable def kk(K:bx)(a:ic):List Int:=K.map fun p=>(if 0<p.2 then 1 else-1)*col a p.1
theorem oo: ∀{K:bx} {a b:ic},bW K b a= -bW K a b
 |[],_,_=>rfl
 |(c,w)::K,a,b=>by
  show(if col b c<col a c then-w else if col a c<col b c then w else bW K b a)= -(if col a c<col b c then-w else if col b c<col a c then w else bW K a b)
  by_cases h1:col a c<col b c
  ·rw[if_neg (Int.not_lt.mpr (Int.le_of_lt h1)),if_pos h1,if_pos h1,Int.neg_neg]
  ·by_cases h2:col b c<col a c
   ·rw[if_pos h2,if_neg h1,if_pos h2]
   ·rw[if_neg h2,if_neg h1,if_neg h1,if_neg h2];exact oo
theorem qb: ∀{K:bx} {a b:ic},cA K→(bW K a b<0↔cp (kk K a) (kk K b)=true)
 |[],_,_,_=>⟨fun h=>absurd h (Int.lt_irrefl 0),fun h=>nomatch h⟩
 |(c,w)::K,a,b,h=>by
  obtain⟨_,hw⟩:=h (c,w) (List.mem_cons_self ..)
  have ih:=qb (a:=a) (b:=b) (fun p hp=>h p (List.mem_cons_of_mem _ hp))
  simp only [kk] at ih
  show(if col a c<col b c then-w else if col b c<col a c then w else bW K a b)<0↔(if(if 0<w then 1 else-1)*col a c=(if 0<w then 1 else-1)*col b c then cp (K.map fun p=>(if 0<p.2 then 1 else-1)*col a p.1) (K.map fun p=>(if 0<p.2 then 1 else-1)*col b p.1) else decide ((if 0<w then 1 else-1)*col a c<(if 0<w then 1 else-1)*col b c))=true
  dsimp only at hw
  by_cases hs:0<w
  ·simp only [hs,if_true,Int.one_mul]
   by_cases h1:col a c<col b c
   ·simp only [h1,if_true,if_neg (show¬col a c=col b c by omega),decide_true,iff_true];omega
   ·by_cases h2:col b c<col a c
    ·simp only [h1,h2,if_true,if_false,if_neg (show¬col a c=col b c by omega),decide_false,Bool.false_eq_true,iff_false];omega
    ·simp only [h1,h2,if_false,if_pos (show col a c=col b c by omega)];exact ih
  ·simp only [hs,if_false]
   by_cases h1:col a c<col b c
   ·simp only [h1,if_true,if_neg (show¬ -1*col a c= -1*col b c by omega),decide_eq_true_eq];omega
   ·by_cases h2:col b c<col a c
    ·simp only [h1,h2,if_true,if_false,if_neg (show¬ -1*col a c= -1*col b c by omega),decide_eq_true_eq];omega
    ·simp only [h1,h2,if_false,if_pos (show-1*col a c= -1*col b c by omega)];exact ih
theorem fV: ∀{K:bx} {a:ic},bW K a a=0
 |[],_=>rfl
 |(c,w)::K,a=>(if_neg (Int.lt_irrefl _)).trans ((if_neg (Int.lt_irrefl _)).trans fV)
theorem uY: ∀{K:bx} {a b:ic},cA K→bW K a b=0→ ∀p∈K,col a p.1=col b p.1
 |[],_,_,_,_,p,hp=>by simp at hp
 |(c,w)::K,a,b,h,e,p,hp=>by
  obtain⟨_,hw⟩:=h (c,w) (List.mem_cons_self ..)
  have e:(if col a c<col b c then-w else if col b c<col a c then w else bW K a b)=0:=e
  dsimp only at hw
  by_cases h1:col a c<col b c
  ·rw[if_pos h1] at e;omega
  ·by_cases h2:col b c<col a c
   ·rw[if_neg h1,if_pos h2] at e;omega
   ·rw[if_neg h1,if_neg h2] at e
    rcases List.mem_cons.mp hp with rfl|hp
    ·show col a c=col b c;omega
    ·exact uY (fun q hq=>h q (List.mem_cons_of_mem _ hq)) e p hp
structure wH(K:bx):Prop where
 ok:cA K
 all: ∀c:Int,c=0∨c=1∨c=2→ ∃w,(c,w)∈K
theorem Fi{K:bx}{a b:ic}(h:wH K)(e:bW K a b=0):a=b:=by
 have g: ∀c:Int,c=0∨c=1∨c=2→col a c=col b c:=fun c hc=>by
  obtain⟨w,hw⟩:=h.all c hc
  exact uY h.ok e _ hw
 obtain⟨a0,a1,a2⟩:=a
 obtain⟨b0,b1,b2⟩:=b
 have e0:=g 0 (.inl rfl)
 have e1:=g 1 (.inr (.inl rfl))
 have e2:=g 2 (.inr (.inr rfl))
 simp [col] at e0 e1 e2
 simp [e0,e1,e2]
theorem jX: ∀{a b c:List Int},a.length=b.length→b.length=c.length→cp a b=true→cp b c=true→cp a c=true
 |[],[],_,_,_,h,_=>nomatch h
 |[],_::_,_,h,_,_,_=>by simp at h
 |_::_,[],_,h,_,_,_=>by simp at h
 |_::_,_::_,[],_,h,_,_=>by simp at h
 |x::a,y::b,z::c,h1,h2,g1,g2=>by
  have g1:(if x=y then cp a b else decide (x<y))=true:=g1
  have g2:(if y=z then cp b c else decide (y<z))=true:=g2
  show(if x=z then cp a c else decide (x<z))=true
  by_cases e1:x=y
  ·subst e1
   rw[if_pos rfl] at g1
   by_cases e2:x=z
   ·subst e2
    rw[if_pos rfl] at g2⊢
    exact jX (by simpa using h1) (by simpa using h2) g1 g2
   ·rw[if_neg e2] at g2⊢;exact g2
  ·rw[if_neg e1,decide_eq_true_eq] at g1
   by_cases e2:y=z
   ·subst e2;rw[if_neg e1,decide_eq_true_eq];exact g1
   ·rw[if_neg e2,decide_eq_true_eq] at g2
    rw[if_neg (by omega),decide_eq_true_eq];omega
theorem mN{K:bx}{a b c:ic}(h:cA K)(h1:bW K a b<0)(h2:bW K b c<0):bW K a c<0:=
 (qb h).mpr (jX (by simp [kk]) (by simp [kk]) ((qb h).mp h1) ((qb h).mp h2))
noncomputable def gV(K:bx)(L:cj):Prop:=L.Pairwise fun a b=>bW K a.1 b.1<0
theorem Ff{K:bx}{L:cj}(h:wH K)(hs:gV K L)(r:ic): ∃c,c≤L.length∧(∀i x,L[i]? =some x→(bW K x.1 r<0↔i<c))∧
  ((∀x,L[c]? =some x→bW K x.1 r≠0)→(∀x∈L,x.1≠r)∧ ∀j,gV K (L.take c++(r,j)::L.drop c)):=by
 induction L with
 |nil=>exact⟨0,Nat.le_refl _,fun i x e=>by simp at e,fun _=>⟨fun x hx=>by simp at hx,fun j=>by simp [gV]⟩⟩
 |cons q L ih=>
  obtain⟨hq,hL⟩:=List.pairwise_cons.mp hs
  by_cases hlt:bW K q.1 r<0
  ·obtain⟨c,h1,h2,h3⟩:=ih hL
   refine⟨c+1,by simpa using h1,fun i x e=>?_,fun hx=>?_⟩
   ·cases i with
    |zero=>simp at e;subst e;simp [hlt]
    |succ i=>simp at e;rw[h2 i x e];omega
   ·obtain⟨g1,g2⟩:=h3 (by simpa using hx)
    refine⟨fun x hm=>?_,fun j=>?_⟩
    ·rcases List.mem_cons.mp hm with rfl|hm
     ·intro e;rw[e,fV] at hlt;omega
     ·exact g1 x hm
    ·simp only [List.take_succ_cons,List.drop_succ_cons,List.cons_append]
     refine List.pairwise_cons.mpr ⟨fun x hm=>?_,g2 j⟩
     rcases List.mem_append.mp hm with hm|hm
     ·exact hq x (List.mem_of_mem_take hm)
     ·rcases List.mem_cons.mp hm with rfl|hm
      ·exact hlt
      ·exact hq x (List.mem_of_mem_drop hm)
  ·have hge: ∀x∈L,¬bW K x.1 r<0:=fun x hx hh=>hlt (mN h.ok (hq x hx) hh)
   refine⟨0,Nat.zero_le _,fun i x e=>?_,fun hx=>?_⟩
   ·have hm:x∈q::L:=List.mem_of_getElem? e
    rcases List.mem_cons.mp hm with rfl|hm
    ·simp [hlt]
    ·simp [hge x hm]
   ·have h0:=hx q (by simp)
    have hpos:bW K r q.1<0:=by rw[oo];omega
    refine⟨fun x hm e=>?_,fun j=>?_⟩
    ·rcases List.mem_cons.mp hm with rfl|hm
     ·rw[e,fV] at h0;exact h0 rfl
     ·have:=mN h.ok hpos (hq x hm)
      rw[e,fV] at this;omega
    ·simp only [List.take_zero,List.drop_zero,List.nil_append]
     refine List.pairwise_cons.mpr ⟨fun x hm=>?_,hs⟩
     rcases List.mem_cons.mp hm with rfl|hm
     ·exact hpos
     ·exact mN h.ok hpos (hq x hm)
theorem C8{σ:ah}{i c:Nat}{xs:List V}{x:V}(h:σ[i]? =some (.list xs))(hc:c≤xs.length)(hl:xs.length<1000):ke σ "insert" (.ref i) [.int c,x]=some (.none,σ.set i (.list (xs.take c++x::xs.drop c))):=by
 show(qJ σ i).bind _=_
 exact cG (d9 h) (if_pos ⟨Nat.lt_trans hl (by decide),Int.natCast_nonneg c,Int.ofNat_le.mpr hc⟩)
theorem wa{σ:ah}{i:Nat}{m:String}{xs:List V}(h:σ[i]? =some (.list xs))(hm:m= "append" ∨m= "insert" ∨m= "pop"):lh σ m (.ref i)=true:=xG h hm
theorem j9{n i c:Nat}{args:List V}{x key y hiV:V}{lo:Nat}{xs:List V}{σ:ah}(hi:σ[i]? =some (.list xs))(hc:c≤xs.length)(hl:xs.length<1000)
  (hb:fe ["a", "x", "lo", "hi"] [.none,.none,some (.int 0),some .none] args=some [("a",.ref i),("x",x),("lo",.int lo),("hi",hiV)])
  (hk:(key= .none∧y=x)∨ ∃k ws,key= .clo k ws∧ak prog n (.clo k ws) [x] .none σ= .ok (y,σ))(hf:ak prog n (.fn "bisect_left") [.ref i,y,.int lo,hiV] key σ= .ok (.int c,σ)):
  ak prog (n+1) (.fn "insort_left") args key σ= .ok (.none,σ.set i (.list (xs.take c++x::xs.drop c))):=by
 have fin:bk prog.toCtx (ak prog n) n [.ex (.meth "insert" (.var "a") [.var "lo",.var "x"])] [("a",.ref i),("x",x),("lo",.int c),("hi",hiV),("key",key)] σ= .ok (.next,[("a",.ref i),("x",x),("lo",.int c),("hi",hiV),("key",key)],σ.set i (.list (xs.take c++x::xs.drop c))):=
  BZ (iC (af rfl) (wa hi (.inr (.inl rfl))) (aa (af rfl) (au (af rfl))) (congrArg ay.ofOpt (C8 hi hc hl))) rfl
 have body:bk prog.toCtx (ak prog n) n eE [("a",.ref i),("x",x),("lo",.int lo),("hi",hiV),("key",key)] σ= .ok (.next,[("a",.ref i),("x",x),("lo",.int c),("hi",hiV),("key",key)],σ.set i (.list (xs.take c++x::xs.drop c))):=by
  rcases hk with⟨rfl,rfl⟩|⟨k,ws,rfl,h⟩
  ·exact gX (aX (af rfl) aj rfl) (bD (bf (aa (af rfl) (aa (af rfl) (aa (af rfl) (au (af rfl))))) hf) rfl) fin
  ·exact gO (aX (af rfl) aj rfl) (bD (gD (aa (af rfl) (aa (yf rfl (af rfl) h) (aa (af rfl) (au (af rfl))))) (af rfl) hf) rfl) fin
 refine bY (o:=fe ["a", "x", "lo", "hi"] [.none,.none,some (.int 0),some .none] args) hb ?_
 rcases hk with⟨rfl,_⟩|⟨_,_,rfl,_⟩<;>exact jN body rfl
inductive Tr where
 |leaf (b:Bool)
 |node (p:Nat) (a b:Tr)
noncomputable def Tr.dec:(s t:Tr)→Decidable (s=t)
 | .leaf x,t=>match t with
  | .leaf y=>@decidable_of_decidable_of_iff (x=y) _ (instDecidableEqBool x y) ⟨fun h=>h▸rfl,fun e=>by injection e⟩
  | .node .. =>isFalse fun e=>nomatch e
 | .node p a b,t=>match t with
  | .leaf _=>isFalse fun e=>nomatch e
  | .node q c d=>@decidable_of_decidable_of_iff (p=q∧a=c∧b=d) _ (@instDecidableAnd _ _ (Nat.decEq p q) (@instDecidableAnd _ _ (Tr.dec a c) (Tr.dec b d))) ⟨fun h=>by rw[h.1,h.2.1,h.2.2],fun e=>by injection e with h1 h2 h3;exact⟨h1,h2,h3⟩⟩
noncomputable instance:DecidableEq Tr:=Tr.dec
noncomputable def Tr.pl:Tr→Nat
 | .leaf _=>3
 | .node p _ _=>p
noncomputable def aO(T:List Tr)(t:Tr):Int:=match t with
 | .leaf b=>if b then 1 else 0
 | .node p a b=>256+(T.idxOf (.node p a b):Nat)
noncomputable def d6(T:List Tr):Tr→ic
 | .leaf _=>(3,0,0)
 | .node p a b=>(p,aO T a,aO T b)
noncomputable def dr(T:List Tr)(t:Tr):Prop:=(∃b,t= .leaf b)∨t∈T
noncomputable def tz(T:List Tr)(t:Tr):Prop:= ∃p a b,t= .node p a b∧p<3∧a≠b∧p<a.pl∧p<b.pl∧dr T a∧dr T b
structure BU(T:List Tr):Prop where
 nd:T.Nodup
 good: ∀t∈T,tz T t
theorem iw{T:List Tr}{s t:Tr}(hs:dr T s)(ht:dr T t)(e:aO T s=aO T t):s=t:=by
 have mem: ∀{u:Tr},dr T u→ ∀p a b,u= .node p a b→u∈T:=fun{u} h p a b q=>by
  rcases h with⟨c,rfl⟩|h
  ·cases q
  ·exact h
 cases s with
 |leaf b=>cases t with
  |leaf c=>simp only [aO] at e;cases b<;>cases c<;>simp_all
  |node p x y=>simp only [aO] at e;split at e<;>omega
 |node p x y=>cases t with
  |leaf c=>simp only [aO] at e;split at e<;>omega
  |node q z w=>
   simp only [aO] at e
   have e':T.idxOf (.node p x y)=T.idxOf (.node q z w):=by omega
   have h1:=List.idxOf_lt_length_of_mem (mem hs _ _ _ rfl)
   have h2:=List.idxOf_lt_length_of_mem (mem ht _ _ _ rfl)
   have g1:=List.getElem_idxOf h1
   have g2:=List.getElem_idxOf h2
   rw[←g1,←g2]
   simp only [e']
theorem bR{T U:List Tr}{t:Tr}(h:dr T t):aO (T++U) t=aO T t:=by
 cases t with
 |leaf b=>rfl
 |node p a b=>
  have hm:Tr.node p a b∈T:=by
   rcases h with⟨c,e⟩|h
   ·cases e
   ·exact h
  simp only [aO,List.idxOf_append,if_pos hm]
theorem dr.app{T U:List Tr}{t:Tr}(h:dr T t):dr (T++U) t:=h.imp id fun h=>List.mem_append_left _ h
theorem oQ{T U:List Tr}(w:BU T){t:Tr}(h:t∈T):d6 (T++U) t=d6 T t:=by
 obtain⟨p,a,b,rfl,_,_,_,_,ha,hb⟩:=w.good t h
 simp only [d6,bR ha,bR hb]
theorem Av{T:List Tr}{s t:Tr}(hs:tz T s)(ht:tz T t)(e:d6 T s=d6 T t):s=t:=by
 obtain⟨p,a,b,rfl,_,_,_,_,ha,hb⟩:=hs
 obtain⟨q,c,d,rfl,_,_,_,_,hc,hd⟩:=ht
 simp only [d6,Prod.mk.injEq] at e
 obtain⟨e1,e2,e3⟩:=e
 rw[iw ha hc e2,iw hb hd e3,show p=q by omega]
structure Bk(K:bx)(σ:ah)(iN iS:Nat)(T:List Tr):Prop where
 ne:iN≠iS
 wf:BU T
 small:T.length<64
 nodes:σ[iN]? =some (.dict ((List.range T.length).map fun i:Nat=>(256+i:Int)) (T.map fun t=>ub (d6 T t)))
 shelf: ∃L:cj,σ[iS]? =some (.list (aG L))∧gV K L∧L.length=T.length∧ ∀q,q∈L↔ ∃(i:Nat) (t:Tr),T[i]? =some t∧q=(d6 T t,(256+i:Int))
structure lV(σ σ':ah)(iN iS:Nat):Prop where
 len:σ.length≤σ'.length
 get: ∀i,i<σ.length→i≠iN→i≠iS→σ'[i]? =σ[i]?
theorem lV.refl(σ:ah)(iN iS:Nat):lV σ σ iN iS:=⟨Nat.le_refl _,fun _ _ _ _=>rfl⟩
theorem lV.trans{σ σ' σ'':ah}{iN iS:Nat}(a:lV σ σ' iN iS)(b:lV σ' σ'' iN iS):lV σ σ'' iN iS:=
 ⟨Nat.le_trans a.len b.len,fun i h1 h2 h3=>(b.get i (Nat.lt_of_lt_of_le h1 a.len) h2 h3).trans (a.get i h1 h2 h3)⟩
noncomputable def bO(K:bx)(iN iS:Nat):V:= .tup [.ref iN,.ref iS,.inst (dM K)]
noncomputable def mk(p:Nat)(a b:Tr):Tr:=if a=b then a else .node p a b
noncomputable def jO(T:List Tr)(t:Tr):List Tr:=match t with
 | .leaf _=>T
 | .node p a b=>if .node p a b∈T then T else T++[.node p a b]
theorem ou: ∀{vs:List V} {m k:Nat},k<vs.length→(((List.range' m vs.length).map fun i:Nat=>(256+i:Int)).zip vs).lookup ((256+(m+k):Nat):Int)=vs[k]?
 |[],_,k,h=>by simp at h
 |v::vs,m,0,h=>by simp [List.range'_succ,List.lookup_cons]
 |v::vs,m,k+1,h=>by
  have ih:=ou (vs:=vs) (m:=m+1) (k:=k) (by simpa using h)
  simp only [List.length_cons,List.range'_succ,List.map_cons,List.zip_cons_cons,List.lookup_cons,List.getElem?_cons_succ]
  have:(((256+(m+(k+1)):Nat):Int)==(256+m:Int))=false:=by simp only [beq_eq_false_iff_ne];omega
  rw[this,←ih,show 256+(m+(k+1))=256+(m+1+k) by omega]
theorem Bk.row{K:bx}{σ:ah}{iN iS:Nat}{T:List Tr}(B:Bk K σ iN iS T){p:Nat}{a b:Tr}(h:Tr.node p a b∈T):dE σ (.ref iN) (.int (aO T (.node p a b)))=some (ub (p,aO T a,aO T b)):=by
 have hl:=List.idxOf_lt_length_of_mem h
 have e:=ou (vs:=T.map fun t=>ub (d6 T t)) (m:=0) (k:=T.idxOf (.node p a b)) (by simpa using hl)
 simp only [List.length_map,Nat.zero_add,←List.range_eq_range'] at e
 have hi:aO T (.node p a b)=((256+T.idxOf (.node p a b):Nat):Int):=by simp only [aO];omega
 show((qJ σ iN).bind (Ci · (aO T (.node p a b)))).or ((Bo σ iN).bind fun d=>(d.1.zip d.2).lookup (aO T (.node p a b)))=_
 rw[show qJ σ iN=none from cG B.nodes rfl,km B.nodes]
 show((((List.range T.length).map fun i:Nat=>(256+i:Int)).zip (T.map fun t=>ub (d6 T t))).lookup (aO T (.node p a b)))=_
 rw[hi,e]
 simp only [List.getElem?_map,List.getElem?_eq_getElem hl,List.getElem_idxOf hl,Option.map_some,d6]
end Mine.P
end
section
namespace Mine.P
theorem Bk.rows{K:bx}{σ:ah}{iN iS:Nat}{T:List Tr}(B:Bk K σ iN iS T){L:cj}(h: ∀q,q∈L↔ ∃(i:Nat) (t:Tr),T[i]? =some t∧q=(d6 T t,(256+i:Int))){p:Nat}{a b:Tr}(g:tz T (.node p a b)):
  (∀x∈L,x.1=d6 T (.node p a b)→ .node p a b∈T∧x.2=aO T (.node p a b))∧(.node p a b∈T→(d6 T (.node p a b),aO T (.node p a b))∈L):=by
 refine⟨fun x hx e=>?_,fun hm=>?_⟩
 ·obtain⟨i,t,ht,rfl⟩:=(h x).mp hx
  have hm:t∈T:=List.mem_of_getElem? ht
  have:=Av (B.wf.good t hm) g e
  subst this
  refine⟨hm,?_⟩
  obtain⟨hi,hv⟩:=List.getElem?_eq_some_iff.mp ht
  have:T.idxOf (.node p a b)=i:=by
   rw[←hv];exact B.wf.nd.idxOf_getElem i hi
  simp only [aO,this]
 ·have hl:=List.idxOf_lt_length_of_mem hm
  exact(h _).mpr ⟨T.idxOf (.node p a b),.node p a b,by rw[List.getElem?_eq_getElem hl,List.getElem_idxOf hl],by simp only [aO]⟩
theorem Bk.more{K:bx}{σ:ah}{iN iS:Nat}{T:List Tr}(B:Bk K σ iN iS T){p:Nat}{a b:Tr}(g:tz T (.node p a b))(hn: .node p a b∉T)(hl:T.length<63){L:cj}(hL:σ[iS]? =some (.list (aG L))){c:Nat}
  (hm: ∀q,q∈L↔ ∃(i:Nat) (t:Tr),T[i]? =some t∧q=(d6 T t,(256+i:Int)))(hlen:L.length=T.length)
  (hs:gV K (L.take c++(d6 T (.node p a b),(256+T.length:Int))::L.drop c)):
  Bk K ((σ.set iS (.list (aG (L.take c++(d6 T (.node p a b),(256+T.length:Int))::L.drop c)))).set iN (.dict (((List.range T.length).map fun i:Nat=>(256+i:Int))++[(256+T.length:Int)]) ((T.map fun t=>ub (d6 T t))++[ub (d6 T (.node p a b))]))) iN iS (T++[.node p a b]):=by
 obtain⟨_,_,_,e,h3,hab,ha,hb,hha,hhb⟩:=g
 cases e
 have hiS:iS<σ.length:=(List.getElem?_eq_some_iff.mp hL).1
 have hiN:iN<σ.length:=(List.getElem?_eq_some_iff.mp B.nodes).1
 have gn:tz T (.node p a b):=⟨p,a,b,rfl,h3,hab,ha,hb,hha,hhb⟩
 have er:d6 (T++[.node p a b]) (.node p a b)=d6 T (.node p a b):=by simp only [d6,bR hha,bR hhb]
 have up: ∀{t},tz T t→tz (T++[.node p a b]) t:=fun⟨q,x,y,e,q3,q4,q5,q6,q7,q8⟩=>⟨q,x,y,e,q3,q4,q5,q6,q7.app,q8.app⟩
 refine⟨B.ne,⟨?_,fun t ht=>?_⟩,by simp;omega,?_,⟨_,?_,hs,?_,fun q=>?_⟩⟩
 ·rw[List.nodup_append]
  exact⟨B.wf.nd,by simp,fun x hx y hy e=>by simp at hy;subst hy;exact hn (e▸hx)⟩
 ·rcases List.mem_append.mp ht with ht|ht
  ·exact up (B.wf.good t ht)
  ·simp at ht;subst ht;exact up gn
 ·rw[List.getElem?_set_self (by simpa using hiN)]
  simp only [List.length_append,List.length_cons,List.length_nil,Nat.zero_add,List.range_succ,List.map_append,List.map_cons,List.map_nil,er]
  congr 3
  exact List.map_congr_left fun t ht=>by rw[oQ B.wf ht]
 ·rw[List.getElem?_set_ne B.ne,List.getElem?_set_self hiS]
 ·simp [hlen,List.length_take,List.length_drop];omega
 ·have hq:q∈L.take c++(d6 T (.node p a b),(256+T.length:Int))::L.drop c↔q∈L∨q=(d6 T (.node p a b),(256+T.length:Int)):=by
   constructor
   ·intro h
    rcases List.mem_append.mp h with h|h
    ·exact .inl (List.mem_of_mem_take h)
    ·rcases List.mem_cons.mp h with h|h
     ·exact .inr h
     ·exact .inl (List.mem_of_mem_drop h)
   ·rintro(h|h)
    ·rw[←List.take_append_drop c L] at h
     rcases List.mem_append.mp h with h|h
     ·exact List.mem_append_left _ h
     ·exact List.mem_append_right _ (List.mem_cons_of_mem _ h)
    ·exact List.mem_append_right _ (h▸List.mem_cons_self ..)
  rw[hq,hm]
  constructor
  ·rintro(⟨i,t,h1,h2⟩|h)
   ·exact⟨i,t,by rw[List.getElem?_append_left (List.getElem?_eq_some_iff.mp h1).1];exact h1,by rw[oQ B.wf (List.mem_of_getElem? h1)];exact h2⟩
   ·exact⟨T.length,.node p a b,by simp,by rw[er];exact h⟩
  ·rintro⟨i,t,h1,h2⟩
   by_cases hi:i<T.length
   ·rw[List.getElem?_append_left hi] at h1
    rw[oQ B.wf (List.mem_of_getElem? h1)] at h2
    exact .inl ⟨i,t,h1,h2⟩
   ·rw[List.getElem?_append_right (by omega)] at h1
    have:i=T.length:=by
     have:=(List.getElem?_eq_some_iff.mp h1).1
     simp at this;omega
    subst this
    simp at h1
    subst h1
    rw[er] at h2
    exact .inr h2
theorem vr{T:List Tr}{t:Tr}(h:dr T t):jO T t=T:=by
 cases t with
 |leaf b=>rfl
 |node p a b=>
  rcases h with⟨c,e⟩|h
  ·cases e
  ·exact if_pos h
theorem xg{C:Ctx}{call:aw}{n:Nat}{ρ:Env}{σ:ah}{o i e:E}{r:Nat}{k:Int}{v:V}{ks:List Int}{vs:List V}(he:bp C call e ρ σ= .ok (v,σ))(ho:bp C call o ρ σ= .ok (.ref r,σ))(hi:bp C call i ρ σ= .ok (.int k,σ))(h:σ[r]? =some (.dict ks vs))(hl:ks.length<cP):
  vG C call n (.asgSub o i e) ρ σ= .ok (.next,ρ,σ.set r (.dict (bP ks vs k v).1 (bP ks vs k v).2)):=by
 show ay.bind _ _=_
 exact cU he (cU ho (cU hi (bY rfl (bY rfl (bY (km h) (if_pos hl))))))
theorem yH{ks:List Int}{vs:List V}{k:Int}{v:V}(h:ks.contains k=false):bP ks vs k v=(ks++[k],vs++[v]):=by
 show(if ks.contains k then _ else _)=_
 rw[h];rfl
theorem Ak{n:Nat}{K:bx}{σ:ah}{iN iS:Nat}{T:List Tr}{p:Nat}{a b:Tr}(hK:wH K)(B:Bk K σ iN iS T)(hp:p<3)(ha:dr T a)(hb:dr T b)(pa:p<a.pl)(pb:p<b.pl)(hsm:T.length<63)(hn:64≤n):
  ∃σ',ak prog (n+5) (.fn "_law_node") [bO K iN iS,.int p,.int (aO T a),.int (aO T b)] .none σ= .ok (.int (aO (jO T (mk p a b)) (mk p a b)),σ')∧Bk K σ' iN iS (jO T (mk p a b))∧lV σ σ' iN iS:=by
 have fn: ∀{v σ'},(∃ρ',bk prog.toCtx (ak prog (n+4)) (n+4) dC [("book",bO K iN iS),("place",.int p),("off",.int (aO T a)),("on",.int (aO T b))] σ= .ok (.ret v,ρ',σ'))→ak prog (n+5) (.fn "_law_node") [bO K iN iS,.int p,.int (aO T a),.int (aO T b)] .none σ= .ok (v,σ'):=
  fun⟨_,h⟩=>fW (fn:={params:=["book", "place", "off", "on"],dflt:=[.none,.none,.none,.none],key:=false,body:=dC}) rfl rfl rfl h
 have zn: ∀{x y:Int} {s:Bool},(x==y)=s→dn σ .eq (.int x) (.int y)=some s:=fun e=>congrArg some e
 by_cases hab:a=b
 ·subst hab
  rw[show mk p a a=a from if_pos rfl,vr ha]
  exact⟨σ,fn ⟨_,c8 (b:=[("nodes",.ref iN),("shelf",.ref iS),("comp",.inst (dM K))]) (af rfl) rfl (ma (aX (af rfl) (af rfl) (zn (beq_self_eq_true _))) (dD (af rfl)))⟩,B,.refl _ _ _⟩
 have g:tz T (.node p a b):=⟨p,a,b,rfl,hp,hab,pa,pb,ha,hb⟩
 rw[show mk p a b= .node p a b from if_neg hab]
 obtain⟨L,hL,hsort,hlen,hmem⟩:=B.shelf
 have hB:=B.rows hmem g
 obtain⟨c,hc1,hc2,hc3⟩:=Ff hK hsort (d6 T (.node p a b))
 have hLl:(aG L).length=L.length:=List.length_map ..
 have h64:L.length<64:=by rw[hlen];exact B.small
 generalize hr:d6 T (.node p a b)=r at*
 have hr':r=((p:Int),aO T a,aO T b):=hr.symm
 generalize hj:(256+(L.length:Int))=j
 have fnd:=kU (n:=n+1) (k:=0) (j:=j) (args:=[.ref iS,.int 0]) (hiV:= .none) (c:=c) (lo:=0) (hi:=L.length) hK.ok (.inl rfl) hL h64 rfl (.inr ⟨rfl,rfl⟩) (Nat.zero_le _) hc1 (Nat.le_refl _) (Nat.le_succ_of_le hn) fun i x _ _=>hc2 i x
 generalize hρ:([("book",bO K iN iS),("place",.int p),("off",.int (aO T a)),("on",.int (aO T b)),("nodes",.ref iN),("shelf",.ref iS),("comp",.inst (dM K)),("new",bT r j),(eQ "comp",gR "comp" (.inst (dM K))),(eQ "new",gR "new" (bT r j)),("at",.int c)]:Env)=ρ
 have pre: ∀{o},bk prog.toCtx (ak prog (n+4)) (n+4) (dC.drop 6) ρ σ=o→bk prog.toCtx (ak prog (n+4)) (n+4) dC [("book",bO K iN iS),("place",.int p),("off",.int (aO T a)),("on",.int (aO T b))] σ=o:=by
  intro o h
  subst hr' hρ hj
  refine c8 (b:=[("nodes",.ref iN),("shelf",.ref iS),("comp",.inst (dM K))]) (af rfl) rfl (gN (aX (af rfl) (af rfl) (zn (beq_eq_false_iff_ne.mpr fun q=>hab (iw ha hb q)))) ?_)
  refine bD (bF (aa (af rfl) (aa (af rfl) (aa (af rfl) (au (aC (x:= .int 256) rfl (jo (v:= .int L.length) (au (af rfl)) ((sI (gf hL)).trans (congrArg (fun k:Nat=>some (V.int k)) hLl))) rfl)))))) ?_
  refine eH rfl (eH rfl (bD (gD (aa (af rfl) (au aj)) rfl fnd) h))
 have lenE: ∀{call:aw},bp prog.toCtx call (.bi "len" [.var "shelf"]) ρ σ= .ok (.int L.length,σ):=by
  intro call
  subst hρ
  exact jo (au (af rfl)) ((sI (gf hL)).trans (congrArg (fun k:Nat=>some (V.int k)) hLl))
 have sb: ∀x:ic×Int,L[c]? =some x→dE σ (.ref iS) (.int c)=some (bT x.1 x.2):=fun x hx=>jy hL (by rw[aG,List.getElem?_map,hx];rfl) (by rw[hLl];omega)
 have hT:jO T (.node p a b)=if Tr.node p a b∈T then T else T++[.node p a b]:=rfl
 have cnd: ∀{s:Bool},(match L[c]? with|none=>true|some x=>bW K x.1 r !=0)=s→eR prog.toCtx (ak prog (n+4)) (.bor (.cmp .eq (.var "at") (.bi "len" [.var "shelf"])) (.compare (.var "comp") (.sub (.var "shelf") (.var "at")) (.var "new"))) ρ σ= .ok (s,σ):=by
  intro s hs
  cases hx:L[c]? with
  |none=>
   rw[hx] at hs
   subst hs
   have:c=L.length:=Nat.le_antisymm hc1 (List.getElem?_eq_none_iff.mp hx)
   exact En (aX (x:= .int c) (by subst hρ;exact af rfl) lenE (zn (by rw[this];exact beq_self_eq_true _)))
  |some x=>
   rw[hx] at hs
   have hlt:=(List.getElem?_eq_some_iff.mp hx).1
   refine gb (aX (x:= .int c) (by subst hρ;exact af rfl) lenE (zn (beq_eq_false_iff_ne.mpr fun e=>Nat.ne_of_lt hlt (Int.ofNat.inj e)))) ?_
   subst hρ
   exact zS rfl (fG (af rfl) (aN (af rfl) (af rfl) (sb x hx)) (af rfl) (gg (m:=n+3) hK.ok)) (congrArg some hs)
 have found: ∀x:ic×Int,L[c]? =some x→bW K x.1 r=0→ ∃σ',ak prog (n+5) (.fn "_law_node") [bO K iN iS,.int p,.int (aO T a),.int (aO T b)] .none σ= .ok (.int (aO (jO T (.node p a b)) (.node p a b)),σ')∧Bk K σ' iN iS (jO T (.node p a b))∧lV σ σ' iN iS:=by
  intro x hx h0
  obtain⟨hm,hid⟩:=hB.1 x (List.mem_of_getElem? hx) (Fi hK h0)
  rw[hT,if_pos hm,←hid]
  have cc:=cnd (s:=false) (by rw[hx];show(bW K x.1 r !=0)=false;rw[h0];rfl)
  refine⟨σ,fn ⟨ρ,pre (gN cc ?_)⟩,B,.refl _ _ _⟩
  subst hρ
  exact dD (aN (aN (af rfl) (af rfl) (sb x hx)) aj rfl)
 have made:(∀x,L[c]? =some x→bW K x.1 r≠0)→ ∃σ',ak prog (n+5) (.fn "_law_node") [bO K iN iS,.int p,.int (aO T a),.int (aO T b)] .none σ= .ok (.int (aO (jO T (.node p a b)) (.node p a b)),σ')∧Bk K σ' iN iS (jO T (.node p a b))∧lV σ σ' iN iS:=by
  intro hx
  obtain⟨hno,hs⟩:=hc3 hx
  have hnot:Tr.node p a b∉T:=fun hm=>hno _ (hB.2 hm) rfl
  have ct:(match L[c]? with|none=>true|some x=>bW K x.1 r !=0)=true:=by
   cases hcx:L[c]? with
   |none=>rfl
   |some x=>exact bne_iff_ne.mpr (hx x hcx)
  have cc:=cnd ct
  rw[hT,if_neg hnot]
  have hjT:(256+(T.length:Int))=j:=by rw[←hlen,hj]
  have ins:=j9 (n:=n+3) (args:=[.ref iS,bT r j]) (key:= .clo 1 [.inst (dM K),bT r j]) (lo:=0) (hiV:= .none) (x:=bT r j) (y:= .int 0) hL (by rw[hLl];exact hc1) (by rw[hLl];omega) rfl (.inr ⟨_,_,rfl,by have:=nZ (n:=n+1) (k:=1) (r:=r) (a:=r) (i:=j) (j:=j) (σ:=σ) hK.ok (.inr (.inl rfl));rwa[fV] at this⟩)
   (kU (n:=n) (k:=1) (j:=j) (args:=[.ref iS,.int 0,.int (0:Nat),.none]) (hiV:= .none) (c:=c) (lo:=0) (hi:=L.length) hK.ok (.inr (.inl rfl)) hL h64 rfl (.inr ⟨rfl,rfl⟩) (Nat.zero_le _) hc1 (Nat.le_refl _) hn fun i x _ _=>hc2 i x)
  have eL:(aG L).take c++bT r j::(aG L).drop c=aG (L.take c++(r,j)::L.drop c):=by
   rw[aG,aG,List.map_append,List.map_cons,List.map_take,List.map_drop]
  rw[eL] at ins
  have hiS:=(List.getElem?_eq_some_iff.mp hL).1
  have hnd:(σ.set iS (.list (aG (L.take c++(r,j)::L.drop c))))[iN]? =some (.dict ((List.range T.length).map fun i:Nat=>(256+i:Int)) (T.map fun t=>ub (d6 T t))):=by rw[List.getElem?_set_ne (Ne.symm B.ne)];exact B.nodes
  have hfr:((List.range T.length).map fun i:Nat=>(256+i:Int)).contains j=false:=by
   rw[←Bool.not_eq_true,List.contains_iff_mem,List.mem_map]
   rintro⟨i,hi,e⟩
   have:=List.mem_range.mp hi
   omega
  have hks:((List.range T.length).map fun i:Nat=>(256+i:Int)).length<cP:=by rw[List.length_map,List.length_range];exact Nat.lt_trans B.small (by decide)
  have BM:=B.more g hnot hsm (c:=c) hL hmem hlen (by rw[hr,hjT];exact hs _)
  rw[hr,hjT] at BM
  have st:=xg (C:=prog.toCtx) (call:=ak prog (n+4)) (n:=n+4) (ρ:=ρ) (σ:=σ.set iS (.list (aG (L.take c++(r,j)::L.drop c)))) (e:= .slice (.var "new") .no (.cst (.int 3))) (o:= .var "nodes") (i:= .sub (.var "new") (.cst (.int 3))) (v:=ub r) (k:=j) (by subst hρ;exact cw (af rfl) lJ aj rfl) (by subst hρ;exact af rfl) (by subst hρ;exact aN (af rfl) aj rfl) hnd hks
  rw[yH hfr] at st
  have hid:aO (T++[.node p a b]) (.node p a b)=j:=by
   show(256+((T++[Tr.node p a b]).idxOf (Tr.node p a b):Int))=j
   rw[List.idxOf_append,if_neg hnot,←hjT,List.idxOf_cons_self,Nat.zero_add]
  have hlast: ∀d,dE ((σ.set iS (.list (aG (L.take c++(r,j)::L.drop c)))).set iN d) (.ref iS) (.int c)=some (bT r j):=fun d=>
   jy (xs:=aG (L.take c++(r,j)::L.drop c)) (by rw[List.getElem?_set_ne B.ne,List.getElem?_set_self hiS]) (by rw[aG,List.getElem?_map,List.getElem?_append_right (by rw[List.length_take];exact Nat.min_le_left ..),List.length_take,Nat.min_eq_left hc1,Nat.sub_self];rfl) (by rw[aG,List.length_map,List.length_append,List.length_cons,List.length_take,List.length_drop];omega)
  refine⟨_,fn ⟨ρ,pre (gX cc (BZ (gD (f:= "insort_left") (σ1:=σ) (vs:=[.ref iS,bT r j]) (x:= .clo 1 [.inst (dM K),bT r j]) ?_ ?_ ins) (eH st rfl)) ?_)⟩,BM,⟨by rw[List.length_set,List.length_set];exact Nat.le_refl _,fun i h1 h2 h3=>by rw[List.getElem?_set_ne (Ne.symm h2),List.getElem?_set_ne (Ne.symm h3)]⟩⟩
  ·subst hρ;exact aa (af rfl) (au (af rfl))
  ·subst hρ;rfl
  ·rw[hid];subst hρ;exact dD (aN (aN (af rfl) (af rfl) (hlast _)) aj rfl)
 cases hx:L[c]? with
 |none=>exact made fun x hx'=>by rw[hx] at hx';cases hx'
 |some x=>
  by_cases h0:bW K x.1 r=0
  ·exact found x hx h0
  ·exact made fun y hy=>by rw[hx] at hy;cases hy;exact h0
end Mine.P
end
section
namespace Mine.P
theorem sj{n:Nat}{x:Int}{σ:ah}:ak prog (n+1) (.fn "ISTERMINAL") [.int x] .none σ= .ok (.bool (decide (x<256)),σ):=rfl
theorem gh{n:Nat}{x:Int}{σ:ah}:ak prog (n+1) (.fn "ISNONTERMINAL") [.int x] .none σ= .ok (.bool (decide (256≤x)),σ):=rfl
theorem xu{n:Nat}{x:Int}{σ:ah}:ak prog (n+1) (.fn "ISEOF") [.int x] .none σ= .ok (.bool (x==0),σ):=rfl
theorem lA{T:List Tr}{b:Bool}:aO T (.leaf b)<256:=match b with
 |false=>show(0:Int)<256 by decide
 |true=>show(1:Int)<256 by decide
theorem ly{T:List Tr}{p:Nat}{a b:Tr}:256≤aO T (.node p a b):=Int.le_add_of_nonneg_right (Int.natCast_nonneg _)
noncomputable def aF(p:Nat):Tr→Tr×Tr
 | .leaf b=>(.leaf b,.leaf b)
 | .node q a b=>if q=p then(a,b) else(.node q a b,.node q a b)
theorem dr.mem{T:List Tr}{p:Nat}{a b:Tr}(h:dr T (.node p a b)):Tr.node p a b∈T:=h.elim (fun⟨_,e⟩=>nomatch e) id
theorem zn{σ:ah}{x y:Int}{s:Bool}(e:(x==y)=s):dn σ .eq (.int x) (.int y)=some s:=congrArg some e
theorem n9{a b:Nat}:((a:Int)==(b:Int))=decide (a=b):=by
 by_cases h:a=b
 ·rw[h,decide_eq_true rfl];exact beq_self_eq_true _
 ·rw[decide_eq_false h];exact beq_eq_false_iff_ne.mpr fun e=>h (Int.ofNat.inj e)
theorem mu{n:Nat}{K:bx}{σ:ah}{iN iS:Nat}{T:List Tr}{p:Nat}{t:Tr}(B:Bk K σ iN iS T)(h:dr T t):
  ak prog (n+2) (.fn "_law_parts") [bO K iN iS,.int (aO T t),.int p] .none σ= .ok (.tup [.int (aO T (aF p t).1),.int (aO T (aF p t).2)],σ):=by
 refine fW (fn:={params:=["book", "node", "place"],dflt:=[.none,.none,.none],key:=false,body:=gH}) rfl rfl rfl (dD ?_)
 cases t with
 |leaf b=>exact nH (nW (dW (au (af rfl)) (gh.trans (by rw[decide_eq_false (Int.not_le.mpr lA)])))) (fun q=>nomatch q) fun _=>bF (aa (af rfl) (au (af rfl)))
 |node q a b=>
  have row:=B.row h.mem
  refine nH (mj (dW (au (af rfl)) (gh.trans (by rw[decide_eq_true ly]))) (aX (aN (aN (aN (af rfl) aj rfl) (af rfl) row) aj rfl) (af rfl) (zn n9))) (fun e=>?_) fun e=>?_
  ·rw[show aF p (.node q a b)=(a,b) from if_pos (of_decide_eq_true e)]
   exact cw (aN (aN (af rfl) aj rfl) (af rfl) row) aj lJ rfl
  ·rw[show aF p (.node q a b)=_ from if_neg (of_decide_eq_false e)]
   exact bF (aa (af rfl) (au (af rfl)))
noncomputable def zT(T:List Tr):Nat:=(T.filter fun t=>t.pl==0).length
noncomputable def ET:List Tr:=
 let l0:=Tr.leaf false;let l1:=Tr.leaf true;let m:=Tr.node 2 l0 l1;let w:=Tr.node 2 l1 l0
 [m,w,.node 1 l0 l1,.node 1 l0 m,.node 1 l0 w,.node 1 l1 l0,.node 1 l1 m,.node 1 l1 w,.node 1 m l0,.node 1 m l1,.node 1 m w,.node 1 w l0,.node 1 w l1,.node 1 w m]
theorem oZ{α:Type} [DecidableEq α]: ∀{l m:List α},l.Nodup→(∀x∈l,x∈m)→l.length≤m.length
 |[],m,_,_=>Nat.zero_le _
 |x::l,m,h,hs=>by
  obtain⟨h1,h2⟩:=List.nodup_cons.mp h
  have hx:=hs x (List.mem_cons_self ..)
  have:=oZ (l:=l) (m:=m.erase x) h2 fun y hy=>(List.mem_erase_of_ne (fun e:y=x=>h1 (by rw[←e];exact hy))).mpr (hs y (List.mem_cons_of_mem _ hy))
  rw[List.length_erase_of_mem hx] at this
  have hpos:0<m.length:=List.length_pos_of_mem hx
  simp only [List.length_cons];omega
noncomputable def lo4:List Tr:=[Tr.leaf false,.leaf true,.node 2 (.leaf false) (.leaf true),.node 2 (.leaf true) (.leaf false)]
theorem low3{T:List Tr}(w:BU T){t:Tr}(h:dr T t)(hp:2<t.pl):t= .leaf false∨t= .leaf true:=by
 cases t with
 |leaf b=>cases b<;>first|exact .inl rfl|exact .inr rfl
 |node p a b=>
  obtain⟨_,_,_,e,h3,_⟩:=w.good _ h.mem
  cases e
  exact absurd hp (Nat.not_lt.mpr (Nat.le_of_lt_succ h3))
theorem EU{T:List Tr}(w:BU T){t:Tr}(h:dr T t)(hp:1<t.pl):t∈lo4:=by
 have k: ∀a b:Tr,(a= .leaf false∨a= .leaf true)→(b= .leaf false∨b= .leaf true)→a≠b→Tr.node 2 a b∈lo4:=by
  rintro a b (rfl|rfl) (rfl|rfl)<;>decide
 cases t with
 |leaf b=>cases b<;>decide
 |node p a b=>
  obtain⟨_,_,_,e,h3,hab,ha,hb,hha,hhb⟩:=w.good _ h.mem
  cases e
  obtain rfl:p=2:=Nat.le_antisymm (Nat.le_of_lt_succ h3) hp
  exact k a b (low3 w hha ha) (low3 w hhb hb) hab
theorem Co{T:List Tr}(w:BU T):T.length≤14+zT T:=by
 have g: ∀l:List Tr,l.length=(l.filter fun t=>t.pl==0).length+(l.filter fun t=>!(t.pl==0)).length:=fun l=>by
  induction l with
  |nil=>rfl
  |cons x r ih=>
   rw[List.filter_cons,List.filter_cons]
   cases(x.pl==0)
   ·exact congrArg (· +1) ih
   ·exact(congrArg (· +1) ih).trans (Nat.succ_add _ _).symm
 have k1: ∀a∈lo4,∀b∈lo4,a≠b→Tr.node 1 a b∈ET:=by decide
 have k2: ∀a∈lo4,a.pl=2→a∈ET:=by decide
 have h2:(T.filter fun t=>!(t.pl==0)).length≤ET.length:=by
  refine oZ (w.nd.sublist List.filter_sublist) fun t ht=>?_
  obtain⟨hm,hp⟩:=List.mem_filter.mp ht
  obtain⟨p,a,b,rfl,h3,hab,ha,hb,hha,hhb⟩:=w.good t hm
  match p,h3 with
  |0,_=>cases hp
  |1,_=>exact k1 a (EU w hha ha) b (EU w hhb hb) hab
  |2,_=>exact k2 _ (EU w (.inr hm) (by decide+kernel:1<2)) rfl
 rw[g T,Nat.add_comm]
 exact Nat.add_le_add_right h2 _
noncomputable def Dx(K:bx)(σ:ah)(iN iS:Nat)(T:List Tr)(r:Tr)(d:Nat)(o:ay (V×ah)):Prop:=
 ∃σ' T',o= .ok (.int (aO T' r),σ')∧Bk K σ' iN iS T'∧lV σ σ' iN iS∧dr T' r∧(∃U,T'=T++U)∧zT T'≤zT T+d
theorem BG{T:List Tr}{t:Tr}: ∃U,jO T t=T++U:=by
 cases t with
 |leaf b=>exact⟨[],by simp [jO]⟩
 |node p a b=>
  by_cases h:Tr.node p a b∈T
  ·exact⟨[],by simp [jO,h]⟩
  ·exact⟨[.node p a b],by simp [jO,h]⟩
theorem BF{T:List Tr}{t:Tr}:dr (jO T t) t:=by
 cases t with
 |leaf b=>exact .inl ⟨b,rfl⟩
 |node p a b=>by_cases h:Tr.node p a b∈T<;>simp [jO,h,dr]
theorem FC{T:List Tr}{p:Nat}{a b:Tr}(ha:dr T a):zT (jO T (mk p a b))≤zT T+(if p=0 then 1 else 0):=by
 unfold mk
 split
 ·rw[vr ha];omega
 ·simp only [jO]
  split
  ·omega
  ·unfold zT
   by_cases h:p=0<;>simp [Tr.pl,h,List.filter_append]
theorem xF{p:Nat}{a b:Tr}(ha:p<a.pl):p≤(mk p a b).pl:=by
 unfold mk;split
 ·omega
 ·exact Nat.le_refl _
theorem oR{n:Nat}{K:bx}{σ:ah}{iN iS:Nat}{T:List Tr}{p:Nat}{a b:Tr}(hK:wH K)(B:Bk K σ iN iS T)(hp:p<3)(ha:dr T a)(hb:dr T b)(pa:p<a.pl)(pb:p<b.pl)(hz:zT T≤40)(hn:64≤n):
  Dx K σ iN iS T (mk p a b) (if p=0 then 1 else 0) (ak prog (n+5) (.fn "_law_node") [bO K iN iS,.int p,.int (aO T a),.int (aO T b)] .none σ):=by
 have:=Co B.wf
 obtain⟨σ',h1,h2,h3⟩:=Ak hK B hp ha hb pa pb (by omega) hn
 exact⟨σ',_,h1,h2,h3,BF,BG,FC ha⟩
theorem fB{T:List Tr}(w:BU T){p:Nat}{s:Tr}(h:dr T s)(hp:p≤s.pl)(h3:p<3):dr T (aF p s).1∧dr T (aF p s).2∧p<(aF p s).1.pl∧p<(aF p s).2.pl:=by
 cases s with
 |leaf b=>exact⟨h,h,h3,h3⟩
 |node q a b=>
  obtain⟨_,_,_,e,_,_,ha,hb,hha,hhb⟩:=w.good _ h.mem
  cases e
  simp only [aF]
  by_cases hq:q=p
  ·subst hq;simp only [if_true];exact⟨hha,hhb,ha,hb⟩
  ·simp only [if_neg hq,Tr.pl] at hp⊢
   exact⟨h,h,by omega,by omega⟩
noncomputable def de(op:Bool→Bool→Bool):Nat→Tr→Tr→Tr
 |0,s,_=>s
 |_+1,.leaf x,.leaf y=> .leaf (op x y)
 |n+1,s,t=>mk (min s.pl t.pl) (de op n (aF (min s.pl t.pl) s).1 (aF (min s.pl t.pl) t).1) (de op n (aF (min s.pl t.pl) s).2 (aF (min s.pl t.pl) t).2)
noncomputable def nw(row:Nat)(x y:Bool):Bool:=row/2^(2*x.toNat+y.toNat) %2==1
theorem ti{op:Bool→Bool→Bool}: ∀{n:Nat} {T:List Tr} {s t:Tr},BU T→dr T s→dr T t→4≤n+min s.pl t.pl→min s.pl t.pl≤(de op n s t).pl
 |0,T,s,t,w,hs,ht,h=>by
  have:s.pl≤3:=by cases s with
   |leaf b=>exact Nat.le_refl _
   |node p a b=>obtain⟨_,_,_,e,h3,_⟩:=w.good _ hs.mem;cases e;simp only [Tr.pl];omega
  omega
 |n+1,T,s,t,w,hs,ht,h=>by
  have main:s.pl<3∨t.pl<3→min s.pl t.pl≤(mk (min s.pl t.pl) (de op n (aF (min s.pl t.pl) s).1 (aF (min s.pl t.pl) t).1) (de op n (aF (min s.pl t.pl) s).2 (aF (min s.pl t.pl) t).2)).pl:=by
   intro h3
   obtain⟨a1,a2,a3,a4⟩:=fB w hs (p:=min s.pl t.pl) (by omega) (by omega)
   obtain⟨b1,b2,b3,b4⟩:=fB w ht (p:=min s.pl t.pl) (by omega) (by omega)
   have:=ti (op:=op) (n:=n) w a1 b1 (by omega)
   exact xF (by omega)
  cases s with
  |leaf x=>cases t with
   |leaf y=>exact Nat.min_le_left 3 3
   |node q c d=>exact main (.inr (by obtain⟨_,_,_,e,h3,_⟩:=w.good _ ht.mem;cases e;exact h3))
  |node p a b=>exact main (.inl (by obtain⟨_,_,_,e,h3,_⟩:=w.good _ hs.mem;cases e;exact h3))
end Mine.P
end
section
namespace Mine.P
section
variable{C:Ctx}{call:aw}{n:Nat}{ρ:Env}{σ σ1:ah}
theorem Bv{t:T}{cond:Env→ah→ay (Bool×ah)}{elt:Env→ah→ay (List V×ah)}{v:V}{l:List V}{b:Env}{s:Bool}{x:List V}{r:List (List V)}(hb:dU t v=some b)(hc:cond (b.reverse++ρ) σ= .ok (s,σ))(h1:s=true→elt (b.reverse++ρ) σ= .ok (x,σ))(hr:fU t cond elt l ρ σ= .ok (r,σ)):fU t cond elt (v::l) ρ σ= .ok (if s then x::r else r,σ):=by
 refine bY hb (jN hc ?_)
 cases s
 ·exact hr
 ·exact jN (h1 rfl) (cU hr rfl)
theorem DW: ∀m:List V,(m.map fun v=>[v]).flatten=m
 |[]=>rfl
 |x::m=>congrArg (x:: ·) (DW m)
theorem nS{α:Type}{elt it cond:E}{t:T}{l:List α}{g e:α→V}{c:α→Bool}{b:α→Env}(hi:qu C call it ρ σ= .ok (l.map g,σ))(hb: ∀a∈l,dU t (g a)=some (b a))(hc: ∀a∈l,eR C call cond ((b a).reverse++ρ) σ= .ok (c a,σ))(he: ∀a∈l,c a=true→bp C call elt ((b a).reverse++ρ) σ= .ok (e a,σ)):
  bp C call (.lcomp elt t it cond) ρ σ= .ok (.lst ((l.filter c).map e),σ):=by
 have k: ∀l:List α,(∀a∈l,dU t (g a)=some (b a))→(∀a∈l,eR C call cond ((b a).reverse++ρ) σ= .ok (c a,σ))→(∀a∈l,c a=true→bp C call elt ((b a).reverse++ρ) σ= .ok (e a,σ))→
   fU t (den C call cond).t (fun ρ σ=>((den C call elt).e ρ σ).bind fun y=> .ok ([y.1],y.2)) (l.map g) ρ σ= .ok (((l.filter c).map e).map fun v=>[v],σ):=by
  intro l
  induction l with
  |nil=>intros;rfl
  |cons a l ih=>
   intro hb hc he
   refine(Bv (hb a (List.mem_cons_self ..)) (hc a (List.mem_cons_self ..)) (fun q=>cU (he a (List.mem_cons_self ..) q) rfl) (ih (fun x hx=>hb x (List.mem_cons_of_mem _ hx)) (fun x hx=>hc x (List.mem_cons_of_mem _ hx)) fun x hx=>he x (List.mem_cons_of_mem _ hx))).trans ?_
   rw[List.filter_cons]
   cases c a<;>rfl
 show ay.bind _ _=_
 exact cU hi (cU (k l hb hc he) (by rw[DW]))
theorem fb{α:Type}{elt it:E}{t:T}{l:List α}{g e:α→V}{b:α→Env}(hi:qu C call it ρ σ= .ok (l.map g,σ))(hb: ∀a∈l,dU t (g a)=some (b a))(he: ∀a∈l,bp C call elt ((b a).reverse++ρ) σ= .ok (e a,σ)):
  bp C call (.lcomp elt t it .no) ρ σ= .ok (.lst (l.map e),σ):=by
 have:=nS (cond:= .no) (c:=fun _=>true) hi hb (fun _ _=>rfl) fun a h _=>he a h
 rwa[List.filter_eq_self.mpr fun _ _=>rfl] at this
theorem EG{α:Type}{ek ev it:E}{t:T}{l:List α}{g v:α→V}{k:α→Int}{b:α→Env}(hi:qu C call it ρ σ= .ok (l.map g,σ))(hb: ∀a∈l,dU t (g a)=some (b a))(hk: ∀a∈l,bp C call ek ((b a).reverse++ρ) σ= .ok (.int (k a),σ))(hv: ∀a∈l,bp C call ev ((b a).reverse++ρ) σ= .ok (v a,σ)):
  bp C call (.dcomp ek ev t it) ρ σ= .ok (eS (l.map k) (l.map v),σ):=by
 have q: ∀l:List α,(∀a∈l,dU t (g a)=some (b a))→(∀a∈l,bp C call ek ((b a).reverse++ρ) σ= .ok (.int (k a),σ))→(∀a∈l,bp C call ev ((b a).reverse++ρ) σ= .ok (v a,σ))→
   fU t (fun _ σ=> .ok (true,σ)) (fun ρ σ=>((den C call ek).e ρ σ).bind fun y=>((den C call ev).e ρ y.2).bind fun z=> .ok ([y.1,z.1],z.2)) (l.map g) ρ σ= .ok (l.map fun a=>[.int (k a),v a],σ):=by
  intro l
  induction l with
  |nil=>intros;rfl
  |cons a l ih=>
   intro hb hk hv
   exact Bv (s:=true) (hb a (List.mem_cons_self ..)) rfl (fun _=>cU (hk a (List.mem_cons_self ..)) (cU (hv a (List.mem_cons_self ..)) rfl)) (ih (fun x hx=>hb x (List.mem_cons_of_mem _ hx)) (fun x hx=>hk x (List.mem_cons_of_mem _ hx)) fun x hx=>hv x (List.mem_cons_of_mem _ hx))
 have po: ∀m:List α,cg (m.map fun a=>[V.int (k a),v a]).flatten=some (m.map k,m.map v):=fun m=>by
  induction m with
  |nil=>rfl
  |cons x m ih=>exact cG rfl (cG ih rfl)
 show ay.bind _ _=_
 exact cU hi (cU (q l hb hk hv) (bY (po l) rfl))
end
end Mine.P
end
section
namespace Mine.P
noncomputable def zG:Tr→Bool
 | .leaf _=>false
 | .node .. =>true
theorem A7{T:List Tr}{t:Tr}:decide (256≤aO T t)=zG t:=match t with
 | .leaf _=>decide_eq_false (Int.not_le.mpr lA)
 | .node .. =>decide_eq_true ly
theorem pC{T:List Tr}{t:Tr}:decide (aO T t<256)=!zG t:=match t with
 | .leaf _=>decide_eq_true lA
 | .node .. =>decide_eq_false (Int.not_lt.mpr ly)
section
variable{σ:ah}{a b k:Nat}
theorem gd:cX σ .shr (.int (a:Int)) (.int (k:Int))=some (.int ((a/2^k:Nat):Int)):=by
 refine gS (i:=((a/2^k:Nat):Int)) ((show(if 0≤(k:Int) then some ((a:Int)/2^(k:Int).toNat) else none)=_ from if_pos (Int.natCast_nonneg k)).trans ?_)
 rw[Int.natCast_ediv,Int.natCast_pow];rfl
theorem gM:cX σ .and (.int (a:Int)) (.int 1)=some (.int ((a %2:Nat):Int)):=by
 refine gS (op:= .and) (i:=((a %2:Nat):Int)) ((show(if 0≤(a:Int)∧(0:Int)≤1 then some ((a&&&1:Nat):Int) else none)=_ from if_pos ⟨Int.natCast_nonneg a,by decide⟩).trans ?_)
 rw[Nat.and_one_is_mod]
theorem v7:cX σ .or (.int (a:Int)) (.int (b:Int))=some (.int ((a|||b:Nat):Int)):=by
 exact gS (op:= .or) (show(if 0≤(a:Int)∧0≤(b:Int) then some ((a|||b:Nat):Int) else none)=_ from if_pos ⟨Int.natCast_nonneg a,Int.natCast_nonneg b⟩)
theorem kR(h:k≤1000):cX σ .shl (.int 1) (.int (k:Int))=some (.int ((2^k:Nat):Int)):=gS (op:= .shl) ((show(if 0≤(k:Int)∧(k:Int)≤1000∧(1:Int).natAbs<qr then some ((1:Int)*2^(k:Int).toNat) else none)=_ from if_pos ⟨Int.natCast_nonneg k,Int.ofNat_le.mpr h,by decide⟩).trans (congrArg some ((Int.one_mul _).trans (Int.natCast_pow 2 k).symm)))
theorem mul_int{a b:Int}(ha:0≤a)(ha':a≤100000)(hb:0≤b)(hb':b≤100000):cX σ .mul (.int a) (.int b)=some (.int (a*b)):=gS (op:= .mul) (show(if a.natAbs<qr∧b.natAbs<qr then some (a*b) else none)=_ from if_pos ⟨by unfold qr;omega,by unfold qr;omega⟩)
end
noncomputable def bz(bits mask:Nat):Bool:=bits/2^mask %2==1
theorem uy{T:List Tr}{bits mask:Nat}:aO T (.leaf (bz bits mask))=((bits/2^mask %2:Nat):Int):=by
 show(if bits/2^mask %2==1 then(1:Int) else 0)=_
 rcases Nat.mod_two_eq_zero_or_one (bits/2^mask) with e|e<;>rw[e]<;>rfl
section
variable{n row:Nat}{K:bx}{iN iS:Nat}{σ:ah}{T:List Tr}{s t:Tr}
noncomputable def minE:E:= .bi "min" [.lcomp (.sub (.sub (.sub (.var "book") (.cst (.int 0))) (.var "node")) (.cst (.int 0))) (.name "node") (.tup [.var "one",.var "other"]) (.call "ISNONTERMINAL" [.var "node"] .no)]
theorem Az(B:Bk K σ iN iS T)(h:dr T s):s.pl≤3:=match s,h with
 | .leaf _,_=>Nat.le_refl 3
 | .node p a b,h=>by obtain⟨_,_,_,e,h3,_⟩:=B.wf.good _ h.mem;cases e;exact Nat.le_of_lt h3
noncomputable def jE(K:bx)(iN iS row:Nat)(x y:Int):Env:=[("book",bO K iN iS),("row",.int row),("one",.int x),("other",.int y)]
theorem CD(B:Bk K σ iN iS T)(hs:dr T s)(ht:dr T t)(h:zG s=true∨zG t=true):
  bp prog.toCtx (ak prog (n+1)) minE (jE K iN iS row (aO T s) (aO T t)) σ= .ok (.int (min s.pl t.pl:Nat),σ):=by
 have lc:bp prog.toCtx (ak prog (n+1)) (.lcomp (.sub (.sub (.sub (.var "book") (.cst (.int 0))) (.var "node")) (.cst (.int 0))) (.name "node") (.tup [.var "one",.var "other"]) (.call "ISNONTERMINAL" [.var "node"] .no)) (jE K iN iS row (aO T s) (aO T t)) σ= .ok (.lst (([s,t].filter zG).map fun x=> .int (x.pl:Nat)),σ):=by
  refine nS (l:=[s,t]) (g:=fun x=> .int (aO T x)) (b:=fun x=>[("node",.int (aO T x))]) (xZ rfl (bF (aa (af rfl) (au (af rfl)))) rfl) (fun _ _=>rfl) (fun x _=>dW (au (af rfl)) (gh.trans (by rw[A7]))) fun x hx q=>?_
  have hh:dr T x:=by
   rcases List.mem_cons.mp hx with rfl|hx
   ·exact hs
   ·rcases List.mem_cons.mp hx with rfl|hx
    ·exact ht
    ·cases hx
  cases x with
  |leaf b=>cases q
  |node p a b=>exact aN (aN (aN (af rfl) aj rfl) (af rfl) (B.row hh.mem)) aj rfl
 refine jo (au lc) ?_
 have h3:=Az B hs;have h4:=Az B ht
 cases s with
 |leaf x=>cases t with
  |leaf y=>rcases h with h|h<;>cases h
  |node q c d=>exact congrArg (fun k:Nat=>some (V.int k)) (Nat.min_eq_right h4).symm
 |node p a b=>cases t with
  |leaf y=>exact congrArg (fun k:Nat=>some (V.int k)) (Nat.min_eq_left h3).symm
  |node q c d=>
   show some (V.int (min (p:Int) (q:Int)))=some (V.int ((min p q:Nat):Int))
   congr 2;omega
theorem iq(hK:wH K)(hn:64≤n): ∀(f:Nat) {σ:ah} {T:List Tr} {s t:Tr},Bk K σ iN iS T→dr T s→dr T t→4≤f+min s.pl t.pl→zT T+(if min s.pl t.pl=0 then 1 else 0)≤40→
  Dx K σ iN iS T (de (nw row) f s t) (if min s.pl t.pl=0 then 1 else 0) (ak prog (n+6+f) (.fn "_law_joined") [bO K iN iS,.int row,.int (aO T s),.int (aO T t)] .none σ)
 |0,σ,T,s,t,B,hs,ht,h,_=>by have:=Az B hs;omega
 |f+1,σ,T,s,t,B,hs,ht,h,hz=>by
  have fn: ∀{v τ},(∃ρ',bk prog.toCtx (ak prog (n+6+f)) (n+6+f) dR (jE K iN iS row (aO T s) (aO T t)) σ= .ok (.ret v,ρ',τ))→ak prog (n+6+(f+1)) (.fn "_law_joined") [bO K iN iS,.int row,.int (aO T s),.int (aO T t)] .none σ= .ok (v,τ):=
   fun⟨_,h⟩=>fW (fn:={params:=["book", "row", "one", "other"],dflt:=[.none,.none,.none,.none],key:=false,body:=dR}) rfl rfl rfl h
  have ef:n+6+f=n+5+f+1:=by omega
  have ist: ∀x τ,ak prog (n+6+f) (.fn "ISTERMINAL") [.int x] .none τ= .ok (.bool (decide (x<256)),τ):=fun x τ=>by rw[ef];exact sj
  have main:zG s=true∨zG t=true→Dx K σ iN iS T (mk (min s.pl t.pl) (de (nw row) f (aF (min s.pl t.pl) s).1 (aF (min s.pl t.pl) t).1) (de (nw row) f (aF (min s.pl t.pl) s).2 (aF (min s.pl t.pl) t).2)) (if min s.pl t.pl=0 then 1 else 0) (ak prog (n+6+(f+1)) (.fn "_law_joined") [bO K iN iS,.int row,.int (aO T s),.int (aO T t)] .none σ):=by
   intro hh
   have hp3:min s.pl t.pl<3:=by
    rcases hh with hh|hh
    ·cases s with
     |leaf=>cases hh
     |node p a b=>obtain⟨_,_,_,e,h3,_⟩:=B.wf.good _ hs.mem;cases e;exact Nat.lt_of_le_of_lt (Nat.min_le_left ..) h3
    ·cases t with
     |leaf=>cases hh
     |node p a b=>obtain⟨_,_,_,e,h3,_⟩:=B.wf.good _ ht.mem;cases e;exact Nat.lt_of_le_of_lt (Nat.min_le_right ..) h3
   have hmin:=CD (n:=n+5+f) (row:=row) B hs ht hh
   rw[←ef] at hmin
   have test:eR prog.toCtx (ak prog (n+6+f)) (.band (.call "ISTERMINAL" [.var "one"] .no) (.call "ISTERMINAL" [.var "other"] .no)) (jE K iN iS row (aO T s) (aO T t)) σ= .ok (false,σ):=by
    cases e:zG s with
    |true=>exact nW (dW (au (af rfl)) ((ist _ _).trans (by rw[pC,e];rfl)))
    |false=>
     have e2:zG t=true:=hh.resolve_left fun q=>by rw[e] at q;cases q
     exact mj (dW (au (af rfl)) ((ist _ _).trans (by rw[pC,e];rfl))) (dW (au (af rfl)) ((ist _ _).trans (by rw[pC,e2];rfl)))
   have l1:min s.pl t.pl≤s.pl:=Nat.min_le_left ..
   have l2:min s.pl t.pl≤t.pl:=Nat.min_le_right ..
   generalize min s.pl t.pl=p at hp3 hmin l1 l2 h hz⊢
   obtain⟨a1,a2,a3,a4⟩:=fB B.wf hs l1 hp3
   obtain⟨b1,b2,b3,b4⟩:=fB B.wf ht l2 hp3
   have m1:p+1≤min (aF p s).1.pl (aF p t).1.pl:=Nat.le_min.mpr ⟨a3,b3⟩
   have m2:p+1≤min (aF p s).2.pl (aF p t).2.pl:=Nat.le_min.mpr ⟨a4,b4⟩
   have pa:=mu (n:=n+4+f) (p:=p) B hs
   have pb:=mu (n:=n+4+f) (p:=p) B ht
   rw[show n+4+f+2=n+6+f by omega] at pa pb
   have n1:4≤f+min (aF p s).1.pl (aF p t).1.pl:=by omega
   have n2:4≤f+min (aF p s).2.pl (aF p t).2.pl:=by omega
   obtain⟨σ1,T1,r1,B1,k1,h1,⟨U1,e1⟩,zz1⟩:=iq hK hn f B a1 b1 n1 (by rw[if_neg (by omega)];omega)
   rw[if_neg (by omega)] at zz1
   obtain⟨σ2,T2,r2,B2,k2,h2,⟨U2,e2⟩,zz2⟩:=iq hK hn f B1 (e1▸a2.app) (e1▸b2.app) n2 (by rw[if_neg (by omega)];omega)
   rw[if_neg (by omega)] at zz2
   obtain⟨σ3,T3,r3,B3,k3,h3,⟨U3,e3⟩,zz3⟩:=oR (n:=n+1+f) hK B2 hp3 (a:=de (nw row) f (aF p s).1 (aF p t).1) (b:=de (nw row) f (aF p s).2 (aF p t).2) (e2▸h1.app) h2 (Nat.lt_of_lt_of_le m1 (ti B.wf a1 b1 n1)) (Nat.lt_of_lt_of_le m2 (ti B.wf a2 b2 n2)) (by omega) (by omega)
   rw[show n+1+f+5=n+6+f by omega,show aO T2 (de (nw row) f (aF p s).1 (aF p t).1)=aO T1 (de (nw row) f (aF p s).1 (aF p t).1) by rw[e2];exact bR h1] at r3
   rw[show aO T1 (aF p s).2=aO T (aF p s).2 by rw[e1];exact bR a2,show aO T1 (aF p t).2=aO T (aF p t).2 by rw[e1];exact bR b2] at r2
   exact⟨σ3,T3,fn ⟨_,gN test (bD hmin (c8 (bF (aa (bf (aa (af rfl) (aa (af rfl) (au (af rfl)))) pa) (au (bf (aa (af rfl) (aa (af rfl) (au (af rfl)))) pb)))) rfl
    (dD (bf (aa (af rfl) (aa (af rfl) (aa (bf (aa (af rfl) (aa (af rfl) (aa (af rfl) (au (af rfl))))) r1) (au (bf (aa (af rfl) (aa (af rfl) (aa (af rfl) (au (af rfl))))) r2))))) r3))))⟩,B3,(k1.trans k2).trans k3,h3,⟨U1++(U2++U3),by rw[e3,e2,e1,List.append_assoc,List.append_assoc]⟩,by omega⟩
  cases s with
  |leaf x=>cases t with
   |leaf y=>
    refine⟨σ,T,fn ⟨_,ma (mj (dW (au (af rfl)) ((ist _ _).trans (by rw[pC];rfl))) (dW (au (af rfl)) ((ist _ _).trans (by rw[pC];rfl)))) (dD (v:= .int (aO T (.leaf (nw row x y)))) ?_)⟩,B,.refl _ _ _,.inl ⟨_,rfl⟩,⟨[],(List.append_nil T).symm⟩,Nat.le_add_right ..⟩
    have e:=uy (T:=T) (bits:=row) (mask:=2*x.toNat+y.toNat)
    rw[show nw row x y=bz row (2*x.toNat+y.toNat) from rfl,e]
    have q0:0≤aO T (.leaf x):=match x with
     |false=>Int.le_refl 0
     |true=>(by decide:(0:Int)≤1)
    refine aC (aC (af rfl) (aC (aC aj (af rfl) (mul_int (by decide) (by decide) q0 (Int.le_trans (Int.le_of_lt lA) (by decide)))) (af rfl) (v:= .int (2*x.toNat+y.toNat:Nat)) ?_) gd) aj gM
    cases x<;>cases y<;>rfl
   |node q c d=>exact main (.inr rfl)
  |node p a b=>
   have am:de (nw row) (f+1) (.node p a b) t=mk (min (Tr.node p a b).pl t.pl) (de (nw row) f (aF (min (Tr.node p a b).pl t.pl) (.node p a b)).1 (aF (min (Tr.node p a b).pl t.pl) t).1) (de (nw row) f (aF (min (Tr.node p a b).pl t.pl) (.node p a b)).2 (aF (min (Tr.node p a b).pl t.pl) t).2):=by cases t<;>rfl
   rw[am]
   exact main (.inl rfl)
end
end Mine.P
end
section
namespace Mine.P
structure bw where
 a:Nat
 b:Nat
 c:Nat
noncomputable def bw.at(o:bw)(p:Nat):Nat:=if p=0 then o.a else if p=1 then o.b else o.c
noncomputable def dT(o:bw):V:= .tup [.int o.a,.int o.b,.int o.c]
noncomputable def iM(bits:Nat)(o:bw):Nat→Nat→Tr
 |0,mask=> .leaf (bz bits mask)
 |k+1,mask=>mk (2-k) (iM bits o k mask) (iM bits o k (mask|||2^o.at (2-k)))
theorem uT{bits:Nat}{o:bw}: ∀{k mask:Nat},k≤3→3-k≤(iM bits o k mask).pl
 |0,_,_=>Nat.le_refl _
 |k+1,mask,h=>by
  have:=uT (bits:=bits) (o:=o) (k:=k) (mask:=mask) (Nat.le_of_succ_le h)
  have h2:2-k≤(iM bits o (k+1) mask).pl:=xF (p:=2-k) (a:=iM bits o k mask) (b:=iM bits o k (mask|||2^o.at (2-k))) (by omega)
  exact Nat.le_trans (by omega) h2
theorem rX{σ:ah}{o:bw}{p:Nat}(h:p<3):dE σ (dT o) (.int (p:Int))=some (.int (o.at p)):=match p,h with
 |0,_=>rfl
 |1,_=>rfl
 |2,_=>rfl
theorem i9{n bits:Nat}{K:bx}{iN iS:Nat}{o:bw}(hK:wH K)(hn:64≤n)(ho: ∀p,o.at p≤1000): ∀(k:Nat) {σ:ah} {T:List Tr} {mask:Nat},k≤3→Bk K σ iN iS T→zT T+(if k=3 then 1 else 0)≤40→
  Dx K σ iN iS T (iM bits o k mask) (if k=3 then 1 else 0) (ak prog (n+6+k) (.fn "_law_drawing") [bO K iN iS,.int bits,dT o,.int ((3-k:Nat):Int),.int mask] .none σ)
 |0,σ,T,mask,_,B,hz=>by
  refine⟨σ,T,fW (fn:={params:=["book", "bits", "order", "place", "mask"],dflt:=[.none,.none,.none,.none,.none],key:=false,body:=dq}) rfl rfl rfl (ma (aX (af rfl) aj rfl) (dD (v:= .int (aO T (.leaf (bz bits mask)))) ?_)),B,.refl _ _ _,.inl ⟨_,rfl⟩,⟨[],(List.append_nil T).symm⟩,Nat.le_add_right ..⟩
  rw[uy]
  exact aC (aC (af rfl) (af rfl) gd) aj gM
 |k+1,σ,T,mask,hk,B,hz=>by
  have z0: ¬k=3:=by omega
  obtain⟨σ1,T1,r1,B1,k1,h1,⟨U1,e1⟩,zz1⟩:=i9 hK hn ho k (mask:=mask) (Nat.le_of_succ_le hk) B (by rw[if_neg z0];split at hz<;>omega)
  rw[if_neg z0] at zz1
  obtain⟨σ2,T2,r2,B2,k2,h2,⟨U2,e2⟩,zz2⟩:=i9 hK hn ho k (mask:=mask|||2^o.at (2-k)) (Nat.le_of_succ_le hk) B1 (by rw[if_neg z0];split at hz<;>omega)
  rw[if_neg z0] at zz2
  have pd: ∀{m},2-k<(iM bits o k m).pl:=fun{m}=>Nat.lt_of_lt_of_le (by omega) (uT (bits:=bits) (o:=o) (k:=k) (mask:=m) (Nat.le_of_succ_le hk))
  obtain⟨σ3,T3,r3,B3,k3,h3,⟨U3,e3⟩,zz3⟩:=oR (n:=n+1+k) (p:=2-k) hK B2 (by omega) (a:=iM bits o k mask) (b:=iM bits o k (mask|||2^o.at (2-k))) (e2▸h1.app) h2 pd pd (by split at hz<;>omega) (by omega)
  rw[show n+1+k+5=n+6+k by omega,show aO T2 (iM bits o k mask)=aO T1 (iM bits o k mask) by rw[e2];exact bR h1] at r3
  have pl:(3-(k+1):Nat)=2-k:=by omega
  have pl2:((2-k:Nat):Int)+1=((3-k:Nat):Int):=by omega
  rw[pl]
  have ad: ∀τ:ah,cX τ .add (.int ((2-k:Nat):Int)) (.int 1)=some (.int ((3-k:Nat):Int)):=fun _=>congrArg (fun z=>some (V.int z)) pl2
  refine⟨σ3,T3,fW (fn:={params:=["book", "bits", "order", "place", "mask"],dflt:=[.none,.none,.none,.none,.none],key:=false,body:=dq}) rfl rfl rfl (gN (aX (af rfl) aj (zn (beq_eq_false_iff_ne.mpr (by omega)))) (dD (bf (aa (af rfl) (aa (af rfl) (aa (bf (aa (af rfl) (aa (af rfl) (aa (af rfl) (aa (aC (af rfl) aj (ad _)) (au (af rfl)))))) r1)
   (au (bf (aa (af rfl) (aa (af rfl) (aa (af rfl) (aa (aC (af rfl) aj (ad _)) (au (aC (af rfl) (aC aj (aN (af rfl) (af rfl) (rX (by omega))) (kR (ho _))) v7)))))) r2))))) r3))),B3,(k1.trans k2).trans k3,h3,⟨U1++(U2++U3),by rw[e3,e2,e1,List.append_assoc,List.append_assoc]⟩,?_⟩
  by_cases h0:2-k=0
  ·rw[if_pos h0] at zz3;rw[if_pos (show k+1=3 by omega)];omega
  ·rw[if_neg h0] at zz3;omega
noncomputable def Od:Tr→Bool
 | .leaf _=>true
 | .node p a b=>decide (p<3)&&(decide (p<a.pl)&&(decide (p<b.pl)&&(Od a&&Od b)))
theorem ss{p:Nat}{a b:Tr}(h:Od (.node p a b)=true):p<3∧p<a.pl∧p<b.pl∧Od a=true∧Od b=true:=by
 have h:(decide (p<3)&&(decide (p<a.pl)&&(decide (p<b.pl)&&(Od a&&Od b))))=true:=h
 simpa only [Bool.and_eq_true,decide_eq_true_eq] using h
theorem od_pl: ∀{t:Tr},Od t=true→t.pl≤3
 | .leaf _,_=>Nat.le_refl _
 | .node p a b,h=>Nat.le_of_lt (ss h).1
theorem AG{p:Nat}{a b:Tr}(hp:p<3)(ha:p<a.pl)(hb:p<b.pl)(oa:Od a=true)(ob:Od b=true):Od (mk p a b)=true:=by
 unfold mk;split
 ·exact oa
 ·show(decide (p<3)&&(decide (p<a.pl)&&(decide (p<b.pl)&&(Od a&&Od b))))=true
  simp only [hp,ha,hb,oa,ob,decide_true,Bool.and_self]
theorem uj{p:Nat}: ∀{s:Tr},Od s=true→p≤s.pl→p<3→Od (aF p s).1=true∧Od (aF p s).2=true∧p<(aF p s).1.pl∧p<(aF p s).2.pl
 | .leaf b,h,_,h3=>⟨rfl,rfl,h3,h3⟩
 | .node q a b,h,hp,h3=>by
  obtain⟨_,ha,hb,oa,ob⟩:=ss h
  simp only [aF]
  by_cases hq:q=p
  ·subst hq;simp only [if_true];exact⟨oa,ob,ha,hb⟩
  ·simp only [Tr.pl] at hp
   simp only [if_neg hq,Tr.pl]
   exact⟨h,h,by omega,by omega⟩
theorem jc{p:Nat}: ∀{s:Tr},p<s.pl→aF p s=(s,s)
 | .leaf _,_=>rfl
 | .node q a b,h=>by simp only [Tr.pl] at h;simp only [aF,if_neg (show¬q=p by omega)]
theorem mS{op:Bool→Bool→Bool}{n:Nat}{s t:Tr}(h:s.pl<3∨t.pl<3):de op (n+1) s t=mk (min s.pl t.pl) (de op n (aF (min s.pl t.pl) s).1 (aF (min s.pl t.pl) t).1) (de op n (aF (min s.pl t.pl) s).2 (aF (min s.pl t.pl) t).2):=by
 cases s with
 |leaf x=>cases t with
  |leaf y=>simp [Tr.pl] at h
  |node q c d=>rfl
 |node p a b=>cases t<;>rfl
theorem pA{s:Tr}(o:Od s=true)(h: ¬s.pl<3): ∃b,s= .leaf b:=by
 cases s with
 |leaf b=>exact⟨b,rfl⟩
 |node p a b=>exact absurd (ss o).1 h
theorem mT{op:Bool→Bool→Bool}: ∀{n:Nat} {s t:Tr},Od s=true→Od t=true→4≤n+min s.pl t.pl→de op (n+1) s t=de op n s t
 |0,s,t,os,ot,h=>by have:=od_pl os;omega
 |n+1,s,t,os,ot,h=>by
  by_cases h3:s.pl<3∨t.pl<3
  ·obtain⟨a1,a2,a3,a4⟩:=uj os (p:=min s.pl t.pl) (by omega) (by omega)
   obtain⟨b1,b2,b3,b4⟩:=uj ot (p:=min s.pl t.pl) (by omega) (by omega)
   rw[mS h3,mS h3,mT a1 b1 (by omega),mT a2 b2 (by omega)]
  ·obtain⟨x,rfl⟩:=pA os (fun q=>h3 (.inl q))
   obtain⟨y,rfl⟩:=pA ot (fun q=>h3 (.inr q))
   rfl
theorem tj{op:Bool→Bool→Bool}{n p:Nat}{s t:Tr}(os:Od s=true)(ot:Od t=true)(hp:p≤min s.pl t.pl)(h3:p<3)(hn:3≤n+p):
  de op (n+1) s t=mk p (de op n (aF p s).1 (aF p t).1) (de op n (aF p s).2 (aF p t).2):=by
 by_cases he:p=min s.pl t.pl
 ·rw[mS (by omega),←he]
 ·rw[jc (by omega),jc (by omega)]
  simp only [mk,if_true]
  exact mT os ot (by omega)
noncomputable def kt(h:Bool→Bool):Tr:=mk 2 (.leaf (h false)) (.leaf (h true))
noncomputable def kr(g:Bool→Bool→Bool):Tr:=mk 1 (kt (g false)) (kt (g true))
noncomputable def qd(f:Bool→Bool→Bool→Bool):Tr:=mk 0 (kr (f false)) (kr (f true))
theorem iD(h:Bool→Bool):Od (kt h)=true∧2≤(kt h).pl:=⟨AG (by decide) (show 2<3 by decide) (show 2<3 by decide) rfl rfl,xF (show 2<3 by decide)⟩
theorem gF(g:Bool→Bool→Bool):Od (kr g)=true∧1≤(kr g).pl:=by
 have a:=iD (g false);have b:=iD (g true)
 exact⟨AG (by decide) (by omega) (by omega) a.1 b.1,xF (by omega)⟩
theorem yo(f:Bool→Bool→Bool→Bool):Od (qd f)=true:=by
 have a:=gF (f false);have b:=gF (f true)
 exact AG (by decide) (by omega) (by omega) a.1 b.1
theorem dL{p:Nat}{a b:Tr}(ha:p<a.pl):aF p (mk p a b)=(a,b):=by
 unfold mk;split
 ·rename_i e;subst e;exact jc ha
 ·simp only [aF,if_true]
theorem app1{op:Bool→Bool→Bool}{n:Nat}(g h:Bool→Bool):de op (n+2) (kt g) (kt h)=kt fun x=>op (g x) (h x):=by
 have a:=iD g;have b:=iD h
 rw[tj (p:=2) a.1 b.1 (by omega) (by decide) (by omega)]
 simp only [kt,dL (p:=2) (a:= .leaf (g false)) (show 2<3 by decide),dL (p:=2) (a:= .leaf (h false)) (show 2<3 by decide),de]
theorem app2{op:Bool→Bool→Bool}{n:Nat}(g h:Bool→Bool→Bool):de op (n+3) (kr g) (kr h)=kr fun x y=>op (g x y) (h x y):=by
 have a:=gF g;have b:=gF h
 rw[tj (p:=1) a.1 b.1 (by omega) (by decide) (by omega)]
 have g1:=(iD (g false)).2;have h1:=(iD (h false)).2
 simp only [kr,dL (p:=1) (show 1<(kt (g false)).pl by omega),dL (p:=1) (show 1<(kt (h false)).pl by omega),app1]
theorem appF{op:Bool→Bool→Bool}{n:Nat}(f g:Bool→Bool→Bool→Bool):de op (n+4) (qd f) (qd g)=qd fun x y z=>op (f x y z) (g x y z):=by
 have a:=yo f;have b:=yo g
 rw[tj (p:=0) a b (by omega) (by decide) (by omega)]
 have g1:=(gF (f false)).2;have h1:=(gF (g false)).2
 simp only [qd,dL (p:=0) (show 0<(kr (f false)).pl by omega),dL (p:=0) (show 0<(kr (g false)).pl by omega),app2]
noncomputable def E3:Tr→Bool→Bool→Bool→Bool
 | .leaf b,_,_,_=>b
 | .node p a b,x,y,z=>if(if p=0 then x else if p=1 then y else z) then E3 b x y z else E3 a x y z
noncomputable def ut(o:bw)(x y z:Bool):Nat:=
 let m:=if x then 0|||2^o.a else 0
 let m:=if y then m|||2^o.b else m
 if z then m|||2^o.c else m
end Mine.P
end
section
namespace Mine.P
noncomputable def gc:List (List Nat×Nat×Nat):=[([38],19,8),([124],18,14),([94],32,6),([61,61],27,9),([33,61],28,6),([60],20,2),([62],21,4),([60,61],29,11),([62,61],30,13)]
noncomputable def eN(k:Nat):Nat:=if k=0 then 170 else if k=1 then 204 else 240
noncomputable def fO(row a b:Nat):Nat:=(((List.range 8).filter fun m=>nw row (bz a m) (bz b m)).map fun m=>2^m).sum
inductive Fm:List Nat→List Int→Nat→Nat→Prop
 |lett (k:Nat) (h:k<3):Fm [97+k] [256+k] (eN k) 1
 |neg (k:Nat) (h:k<3):Fm [126,32,97+k] [31,256+k] (255-eN k) 2
 |bin {l r:List Nat} {sl sr:List Int} {a b c d:Nat} {sg:List Nat} {num row:Nat}:Fm l sl a c→Fm r sr b d→(sg,num,row)∈gc→
   Fm ([40,32]++l++[32]++sg++[32]++r++[32,41]) ([7]++sl++[(num:Int)]++sr++[8]) (fO row a b) (c+d+1)
theorem dX: ∀{u v acc:List Nat},bv (u++32::v) acc=bv u acc++bv v []
 |[],v,acc=>by simp [bv]
 |c::u,v,acc=>by
  by_cases h:c=32
  ·subst h;simp only [List.cons_append,bv,if_true,dX (u:=u)]
  ·simp only [List.cons_append,bv,if_neg h,dX (u:=u)]
noncomputable def oE(w:List Nat):Int:=match wq.lookup w with
 |some i=>i
 |none=>match w with
  |[c]=>256+c-97
  |_=>0
noncomputable def tv(w:List Nat):Prop:=(wq.lookup w).isSome=true∨ ∃k,k<3∧w=[97+k]
theorem iZ{sg:List Nat}{num row:Nat}(h:(sg,num,row)∈gc):bv sg []=[sg]∧oE sg=num∧tv sg∧sg.length≤2∧8<num∧num≠31∧num<256:=by
 simp only [gc,List.mem_cons,List.not_mem_nil,or_false,Prod.mk.injEq] at h
 rcases h with⟨rfl,rfl,rfl⟩|⟨rfl,rfl,rfl⟩|⟨rfl,rfl,rfl⟩|⟨rfl,rfl,rfl⟩|⟨rfl,rfl,rfl⟩|⟨rfl,rfl,rfl⟩|⟨rfl,rfl,rfl⟩|⟨rfl,rfl,rfl⟩|⟨rfl,rfl,rfl⟩<;>exact⟨rfl,rfl,.inl rfl,by decide,by decide,by decide,by decide⟩
theorem jD{k:Nat}(h:k<3):oE [97+k]=256+k∧tv [97+k]:=by
 refine⟨?_,.inr ⟨k,h,rfl⟩⟩
 match k,h with
 |0,_=>rfl
 |1,_=>rfl
 |2,_=>rfl
theorem Fm.words{l:List Nat}{s:List Int}{a c:Nat}(f:Fm l s a c):(bv l []).map oE=s∧(∀w∈bv l [],tv w):=by
 induction f with
 |lett k h=>
  have e:bv [97+k] []=[[97+k]]:=by simp only [bv,if_neg (show¬97+k=32 by omega)];rfl
  rw[e]
  exact⟨by simp [(jD h).1],fun w hw=>by simp at hw;subst hw;exact(jD h).2⟩
 |neg k h=>
  have e:bv [126,32,97+k] []=[[126],[97+k]]:=by
   simp only [bv,if_neg (show¬97+k=32 by omega),if_neg (show¬126=32 by decide),if_true];rfl
  rw[e]
  refine⟨by simp only [List.map_cons,List.map_nil,(jD h).1];rfl,fun w hw=>?_⟩
  simp at hw
  rcases hw with rfl|rfl
  ·exact .inl rfl
  ·exact(jD h).2
 | @bin l r sl sr a b c d sg num row f g hs ih1 ih2=>
  obtain⟨w1,w2,w3,_⟩:=iZ hs
  have e:bv ([40,32]++l++[32]++sg++[32]++r++[32,41]) []=[[40]]++(bv l []++([sg]++(bv r []++[[41]]))):=by
   have:([40,32]++l++[32]++sg++[32]++r++[32,41]:List Nat)=[40]++32::(l++32::(sg++32::(r++32::[41]))):=by simp
   rw[this,dX,dX,dX,dX,w1]
   rfl
  rw[e]
  refine⟨?_,fun w hw=>?_⟩
  ·simp only [List.map_append,List.map_cons,List.map_nil,ih1.1,ih2.1,w2,show oE [40]=7 from rfl,show oE [41]=8 from rfl]
   simp
  ·simp only [List.mem_append,List.mem_singleton] at hw
   rcases hw with rfl|hw|rfl|hw|rfl
   ·exact .inl rfl
   ·exact ih1.2 w hw
   ·exact w3
   ·exact ih2.2 w hw
   ·exact .inl rfl
theorem Fm.blank{l:List Nat}{s:List Int}{a c:Nat}(f:Fm l s a c):a<256:=by
 cases f with
 |lett k h=>match k,h with
  |0,_=>decide
  |1,_=>decide
  |2,_=>decide
 |neg k h=>omega
 |bin f g hs=>
  have: ∀l:List Nat,l.Sublist (List.range 8)→(l.map fun m=>2^m).sum≤255:=by
   intro l hl
   have:=List.Sublist.map (fun m=>2^m) hl
   have h2: ∀{u v:List Nat},u.Sublist v→u.sum≤v.sum:=fun{u v} h=>by
    induction h with
    |slnil=>exact Nat.le_refl _
    |cons _ _ ih=>simp only [List.sum_cons];omega
    |cons_cons _ _ ih=>simp only [List.sum_cons];omega
   exact h2 this
  exact Nat.lt_succ_of_le (this _ List.filter_sublist)
noncomputable def qE(a b c d e f g h:Bool):Nat:=(if a then 1 else 0)+((if b then 2 else 0)+((if c then 4 else 0)+((if d then 8 else 0)+((if e then 16 else 0)+((if f then 32 else 0)+((if g then 64 else 0)+(if h then 128 else 0)))))))
theorem bit8(c:Nat→Bool){m:Nat}(hm:m<8):bz (((List.range 8).filter c).map fun m=>2^m).sum m=c m:=by
 have e:(((List.range 8).filter c).map fun m=>2^m).sum=qE (c 0) (c 1) (c 2) (c 3) (c 4) (c 5) (c 6) (c 7):=by
  have r:List.range 8=[0,1,2,3,4,5,6,7]:=rfl
  rw[r]
  simp only [qE]
  have st: ∀(x:Nat) (l:List Nat),(((x::l).filter c).map fun m=>2^m).sum=(if c x then 2^x else 0)+((l.filter c).map fun m=>2^m).sum:=fun x l=>by
   rw[List.filter_cons];split<;>simp
  rw[st,st,st,st,st,st,st,st]
  rfl
 have k: ∀a b c d e f g h:Bool,bz (qE a b c d e f g h) 0=a∧bz (qE a b c d e f g h) 1=b∧bz (qE a b c d e f g h) 2=c∧bz (qE a b c d e f g h) 3=d∧
   bz (qE a b c d e f g h) 4=e∧bz (qE a b c d e f g h) 5=f∧bz (qE a b c d e f g h) 6=g∧bz (qE a b c d e f g h) 7=h:=by decide+kernel
 obtain⟨k0,k1,k2,k3,k4,k5,k6,k7⟩:=k (c 0) (c 1) (c 2) (c 3) (c 4) (c 5) (c 6) (c 7)
 rw[e]
 match m,hm with
 |0,_=>exact k0
 |1,_=>exact k1
 |2,_=>exact k2
 |3,_=>exact k3
 |4,_=>exact k4
 |5,_=>exact k5
 |6,_=>exact k6
 |7,_=>exact k7
theorem Bw{row a b m:Nat}(hm:m<8):bz (fO row a b) m=nw row (bz a m) (bz b m):=bit8 _ hm
theorem Du: ∀k<3,∀m<8,bz (255-eN k) m=!bz (eN k) m:=by decide+kernel
noncomputable def bw.ok(o:bw):Prop:=(o.a,o.b,o.c)∈[(0,1,2),(0,2,1),(1,0,2),(1,2,0),(2,0,1),(2,1,0)]
theorem sE{o:bw}(h:o.ok)(x y z:Bool):ut o x y z<8:=by
 obtain⟨a,b,c⟩:=o
 simp only [bw.ok,List.mem_cons,List.not_mem_nil,or_false,Prod.mk.injEq] at h
 rcases h with⟨rfl,rfl,rfl⟩|⟨rfl,rfl,rfl⟩|⟨rfl,rfl,rfl⟩|⟨rfl,rfl,rfl⟩|⟨rfl,rfl,rfl⟩|⟨rfl,rfl,rfl⟩<;>cases x<;>cases y<;>cases z<;>decide
noncomputable def aW(o:bw)(bits:Nat):Tr:=qd fun x y z=>bz bits (ut o x y z)
theorem vQ{o:bw}(h:o.ok){row a b n:Nat}:de (nw row) (n+4) (aW o a) (aW o b)=aW o (fO row a b):=by
 simp only [aW,appF]
 congr 1
 funext x y z
 exact(Bw (sE h x y z)).symm
theorem Cd{o:bw}(h:o.ok){k n:Nat}(hk:k<3):de (nw 6) (n+4) (aW o (eN k)) (.leaf true)=aW o (255-eN k):=by
 have e:Tr.leaf true=qd fun _ _ _=>true:=rfl
 rw[e]
 simp only [aW,appF]
 congr 1
 funext x y z
 rw[Du k hk _ (sE h x y z)]
 cases bz (eN k) (ut o x y z)<;>rfl
end Mine.P
end
section
namespace Mine.P
theorem rb{n:Nat}{σ:ah}:ak prog (n+1) (.fn "_law_signs") [] .none σ= .ok (.lst (gc.map fun s=> .tup [.str s.1,.int s.2.1,.int s.2.2]),σ):=rfl
section
variable{σ:ah}{a b:Nat}
theorem eD(h:0<b)(h2:b<2^29):cX σ .div (.int (a:Int)) (.int (b:Int))=some (.int ((a/b:Nat):Int)):=by
 exact gS (op:= .div) (show(if 0<(b:Int)∧(b:Int)<2^29 then some ((a:Int)/(b:Int)) else none)=_ from if_pos ⟨Int.ofNat_lt.mpr h,Int.ofNat_lt.mpr h2⟩)
theorem dw(h:0<b):cX σ .mod (.int (a:Int)) (.int (b:Int))=some (.int ((a %b:Nat):Int)):=by
 exact gS (op:= .mod) (show(if 0<(b:Int) then some ((a:Int) %(b:Int)) else none)=_ from if_pos (show(0:Int)<b from Int.ofNat_lt.mpr h))
theorem add_str{x y:List Nat}(h:x.length+y.length≤1000):cX σ .add (.str x) (.str y)=some (.str (x++y)):=by
 show((Fs (.str x) (.str y)).or (Fq (.str x) (.str y))).or _=_
 exact FM (FM (show(if x.length+y.length≤cP then some (V.str (x++y)) else none)=_ from if_pos (Nat.le_trans h (by decide))))
theorem jJ{x y:List V}(h:x.length+y.length≤1000):cX σ .add (.lst x) (.lst y)=some (.lst (x++y)):=by
 show(zw σ (.lst x) (.lst y)).bind _=_
 exact cG (show(if x.length+y.length≤cP then some (x++y) else none)=_ from if_pos (Nat.le_trans h (by decide))) rfl
theorem rY{xs:List V}{i:Nat}{v:V}(h:xs[i]? =some v)(hl:xs.length<1000):dE σ (.lst xs) (.int (i:Int))=some v:=by
 have hm:=(List.getElem?_eq_some_iff.mp h).1
 have hb:((i:Int)).natAbs<qr:=Nat.lt_trans hm (Nat.lt_trans hl (by decide))
 refine FM ((if_pos hb).trans ?_)
 show(if 0≤(i:Int) then(if(i:Int)<xs.length then some (i:Int).toNat else none) else _).bind _=_
 rw[if_pos (Int.natCast_nonneg i),if_pos (Int.ofNat_lt.mpr hm)]
 exact h
theorem cK{v lo hi:V}{xs:List V}{l h:Option Int}(e:dG σ v=some xs)(h1:kd lo=some l)(h2:kd hi=some h):cR σ v lo hi=some (.lst (cM xs l h)):=by
 refine cG h1 (cG h2 ?_)
 have ht:e9 v=none:=by cases v<;>first|rfl|cases e
 rw[ht,e];rfl
theorem cn(h:a<1000):kd (.int (a:Int))=some (some (a:Int)):=if_pos (Nat.lt_trans h (by decide))
theorem hY{n:Nat}(h:a≤n):cO (a:Int) n=a:=(if_neg (Int.not_lt.mpr (Int.natCast_nonneg a))).trans (Nat.min_eq_left h)
theorem oJ{xs:List V}(ha:a≤xs.length)(hb:b≤xs.length):cM xs (some a) (some b)=(xs.drop a).take (b-a):=by
 show(xs.drop (cO a xs.length)).take (cO b xs.length-cO a xs.length)=_
 rw[hY ha,hY hb]
theorem mq{xs:List V}(hb:b≤xs.length):cM xs none (some b)=xs.take b:=by
 show(xs.drop 0).take (cO b xs.length-0)=_
 rw[hY hb];rfl
theorem iY{xs:List V}(ha:a≤xs.length):cM xs (some a) none=xs.drop a:=by
 show(xs.drop (cO a xs.length)).take (xs.length-cO a xs.length)=_
 rw[hY ha,←List.length_drop,List.take_length]
end
theorem ki: ∀{l:List Int},dc (l.map V.int)=some l
 |[]=>rfl
 |i::l=>cG rfl (cG ki rfl)
theorem Dv{row iT other m:Nat}:(((row/2^(2*(iT/2^m %2)+other/2^m %2) %2:Nat):Int) !=0)=nw row (bz iT m) (bz other m):=by
 have h: ∀x,x/2^m %2=(bz x m).toNat:=fun x=>by
  unfold bz
  rcases Nat.mod_two_eq_zero_or_one (x/2^m) with e|e<;>rw[e]<;>rfl
 rw[h,h]
 unfold nw
 rcases Nat.mod_two_eq_zero_or_one (row/2^(2*(bz iT m).toNat+(bz other m).toNat)) with e|e<;>rw[e]<;>rfl
noncomputable def D8:E:= .bi "sum" [.lcomp (.bin .shl (.cst (.int 1)) (.var "mask")) (.name "mask") (.range (.cst (.int 8))) (.bin .and (.bin .shr (.var "row") (.bin .add (.bin .mul (.cst (.int 2)) (.bin .and (.bin .shr (.var "one") (.var "mask")) (.cst (.int 1)))) (.bin .and (.bin .shr (.var "other") (.var "mask")) (.cst (.int 1))))) (.cst (.int 1)))]
theorem tQ: ∀l:List Nat,(l.map fun m:Nat=>((2^m:Nat):Int)).sum=(((l.map fun m=>2^m).sum:Nat):Int)
 |[]=>rfl
 |x::l=>by rw[List.map_cons,List.sum_cons,tQ l,List.map_cons,List.sum_cons];rfl
theorem Ar{n row iT other:Nat}{ρ:Env}{σ:ah}(h1:aM ρ "row" =some (.int row))(h2:aM ρ "one" =some (.int iT))(h3:aM ρ "other" =some (.int other)):bp prog.toCtx (ak prog n) D8 ρ σ= .ok (.int (fO row iT other:Nat),σ):=by
 have lc:=nS (C:=prog.toCtx) (call:=ak prog n) (ρ:=ρ) (σ:=σ) (l:=List.range 8) (g:=fun m:Nat=> .int m) (b:=fun m=>[("mask",.int m)]) (c:=fun m=>nw row (bz iT m) (bz other m)) (e:=fun m=> .int ((2^m:Nat):Int)) (t:= .name "mask") (it:= .range (.cst (.int 8))) (elt:= .bin .shl (.cst (.int 1)) (.var "mask"))
  (cond:= .bin .and (.bin .shr (.var "row") (.bin .add (.bin .mul (.cst (.int 2)) (.bin .and (.bin .shr (.var "one") (.var "mask")) (.cst (.int 1)))) (.bin .and (.bin .shr (.var "other") (.var "mask")) (.cst (.int 1))))) (.cst (.int 1)))
  (oj aj rfl) (fun _ _=>rfl) (fun m _=>zS rfl (aC (aC (af h1) (aC (aC aj (aC (aC (af h2) (af rfl) gd) aj gM) (mul_int (by decide) (by decide) (Int.natCast_nonneg _) (Int.ofNat_le.mpr (Nat.le_of_lt (Nat.lt_trans (Nat.mod_lt _ (by decide)) (by decide)))))) (aC (aC (af h3) (af rfl) gd) aj gM) (v:= .int (2*(iT/2^m %2)+other/2^m %2:Nat)) rfl) gd) aj gM) (congrArg some Dv))
  (fun m hm _=>aC aj (af rfl) (kR (Nat.le_trans (Nat.le_of_lt (List.mem_range.mp hm)) (by decide))))
 refine jo (au lc) ?_
 show(dc (((List.range 8).filter fun m=>nw row (bz iT m) (bz other m)).map fun m:Nat=>V.int ((2^m:Nat):Int))).bind (fun l=>some (V.int l.sum))=_
 rw[show(((List.range 8).filter fun m=>nw row (bz iT m) (bz other m)).map fun m:Nat=>V.int ((2^m:Nat):Int))=(((List.range 8).filter fun m=>nw row (bz iT m) (bz other m)).map fun m:Nat=>((2^m:Nat):Int)).map V.int from(List.map_map ..).symm,ki]
 exact congrArg (fun z=>some (V.int z)) (tQ _)
noncomputable def aU(q:List Nat×Nat):V:= .tup [.str q.1,.int q.2]
noncomputable def lett(k:Nat):List Nat×Nat:=([97+k],eN k)
noncomputable def bB(s:Nat)(q:List Nat×Nat):List Nat×Nat:=if s %2=0 then q else([126,32]++q.1,255-q.2)
inductive vH:List (List Nat×Nat)→Nat→Nat→Prop
 |nil (B:Nat):vH [] B 0
 |cons {q:List Nat×Nat} {Q:List (List Nat×Nat)} {s:List Int} {B c d:Nat}:Fm q.1 s q.2 c→q.1.length≤B→vH Q B d→vH (q::Q) B (c+d)
theorem vH.up: ∀{Q:List (List Nat×Nat)} {B B' d:Nat},vH Q B d→B≤B'→vH Q B' d
 |_,_,_,_,.nil _,_=> .nil _
 |_,_,_,_,.cons f h g,l=> .cons f (Nat.le_trans h l) (g.up l)
theorem vH.split: ∀{xs ys:List (List Nat×Nat)} {a b:List Nat×Nat} {B d:Nat},vH (xs++a::b::ys) B d→
  ∃s1 c1 s2 c2,Fm a.1 s1 a.2 c1∧Fm b.1 s2 b.2 c2∧a.1.length≤B∧b.1.length≤B∧ ∀(q:List Nat×Nat) (s:List Int) (B':Nat),Fm q.1 s q.2 (c1+c2+1)→q.1.length≤B'→B≤B'→vH (xs++q::ys) B' (d+1)
 |[],ys,a,b,B,d,h=>by
  cases h with
  |cons f1 l1 g=>cases g with
   | @cons _ _ _ _ c2 d2 f2 l2 g=>
    rename_i s1 c1 s2
    exact⟨_,_,_,_,f1,f2,l1,l2,fun q s B' fq lq hB=>by
     have:=vH.cons fq lq (g.up hB)
     rw[show c1+(c2+d2)+1=c1+c2+1+d2 by omega];exact this⟩
 |x::xs,ys,a,b,B,d,h=>by
  cases h with
  | @cons _ _ _ _ c0 d0 f0 l0 g=>
   obtain⟨s1,c1,s2,c2,h1,h2,h3,h4,h5⟩:=g.split
   exact⟨s1,c1,s2,c2,h1,h2,h3,h4,fun q s B' fq lq hB=>by
    have:=vH.cons f0 (Nat.le_trans l0 hB) (h5 q s B' fq lq hB)
    rw[show c0+d0+1=c0+(d0+1) by omega];exact this⟩
theorem n3{s k:Nat}(h:k<3): ∃sy c,Fm (bB s (lett k)).1 sy (bB s (lett k)).2 c∧c≤2∧(bB s (lett k)).1.length≤3:=by
 unfold bB
 split
 ·exact⟨_,_,Fm.lett k h,by decide,by decide+revert⟩
 ·exact⟨_,_,Fm.neg k h,by decide,by decide+revert⟩
theorem zX{Q:List (List Nat×Nat)}{z a:Nat}(h:Q.length=z+1)(ha:a<z): ∃xs p q ys,Q=xs++p::q::ys∧xs.length=a∧ys.length=z-1-a:=by
 have h1:a<Q.length:=by omega
 have h2:a+1<Q.length:=by omega
 refine⟨Q.take a,Q[a],Q[a+1],Q.drop (a+2),?_,by simp;omega,by simp;omega⟩
 rw[←List.drop_eq_getElem_cons h2,←List.drop_eq_getElem_cons h1,List.take_append_drop]
end Mine.P
end
section
namespace Mine.P
section
variable{n s:Nat}{σ:ah}{pv:V}
noncomputable def ltV:V:= .lst [aU (lett 0),aU (lett 1),aU (lett 2)]
noncomputable def fE(sh:Nat)(pv:V)(t:Env):Env:=("shape",.int sh)::("letters",ltV)::("parts",pv)::t
noncomputable def f1B:List S:=[.ex (.meth "append" (.var "parts") [.ite (.bin .mod (.var "shape") (.cst (.int 2))) (.tup [.bin .add (.cst (.str [126,32])) (.var "letter"),.bin .sub (.cst (.int 255)) (.var "bits")]) (.tup [.var "letter",.var "bits"])]),.asg (.name "shape") (.ite (.cmp .lt (.bi "len" [.var "parts"]) (.cst (.int 4))) (.bin .div (.var "shape") (.cst (.int 2))) (.bin .div (.var "shape") (.cst (.int 6))))]
noncomputable def f2B:List S:=[.asg (.tup [.name "at",.tup [.name "sign",.name "number",.name "row"]]) (.tup [.bin .mod (.var "shape") (.var "size"),.sub (.call "_law_signs" [] .no) (.bin .mod (.bin .div (.var "shape") (.var "size")) (.cst (.int 9)))]),.asg (.tup [.tup [.name "left",.name "one"],.tup [.name "right",.name "other"]]) (.slice (.var "parts") (.var "at") (.bin .add (.var "at") (.cst (.int 2)))),.asg (.name "bits") D8,
 .asg (.name "parts") (.bin .add (.bin .add (.slice (.var "parts") .no (.var "at")) (.lst [.tup [.bin .add (.bin .add (.bin .add (.bin .add (.bin .add (.bin .add (.cst (.str [40,32])) (.var "left")) (.cst (.str [32]))) (.var "sign")) (.cst (.str [32]))) (.var "right")) (.cst (.str [32,41])),.var "bits"]])) (.slice (.var "parts") (.bin .add (.var "at") (.cst (.int 2))) .no)),.asg (.name "shape") (.bin .div (.bin .div (.var "shape") (.var "size")) (.cst (.int 9)))]
theorem yr{i:Nat}{xs:List V}{x:V}(h:σ[i]? =some (.list xs))(hl:xs.length<1000):ke σ "append" (.ref i) [x]=some (.none,σ.set i (.list (xs++[x]))):=by
 show(qJ σ i).bind _=_
 exact cG (d9 h) (if_pos (Nat.lt_trans hl (by decide)))
theorem xL{i:Nat}{xs:List V}(h:σ[i]? =some (.list xs)):wC σ "len" [.ref i]=some (.int xs.length):=sI (gf h)
theorem De{i k:Nat}{P:List V}{t:Env}(ht:t=[]∨ ∃x y,t=[("letter",x),("bits",y)])(hk:eN k≤255)(h:σ[i]? =some (.list P))(hl:P.length<4):
  lF prog.toCtx (ak prog n) n (.tup [.name "letter",.name "bits"]) f1B (aU (lett k)) (fE s (.ref i) t) σ= .ok (.next,fE (if P.length+1<4 then s/2 else s/6) (.ref i) [("letter",.str [97+k]),("bits",.int (eN k:Nat))],σ.set i (.list (P++[aU (bB s (lett k))]))):=by
 have hi:=(List.getElem?_eq_some_iff.mp h).1
 have h2:(σ.set i (.list (P++[aU (bB s (lett k))])))[i]? =some (.list (P++[aU (bB s (lett k))])):=List.getElem?_set_self hi
 have go: ∀{ρ},ρ=fE s (.ref i) [("letter",.str [97+k]),("bits",.int (eN k:Nat))]→bk prog.toCtx (ak prog n) n f1B ρ σ= .ok (.next,fE (if P.length+1<4 then s/2 else s/6) (.ref i) [("letter",.str [97+k]),("bits",.int (eN k:Nat))],σ.set i (.list (P++[aU (bB s (lett k))]))):=by
  rintro ρ rfl
  refine BZ (iC (af rfl) (wa h (.inl rfl)) (au (x:=aU (bB s (lett k))) (nH (s:=s %2 !=0) (zS rfl (aC (af rfl) aj (dw (b:=2) (by decide))) ?_) (fun q=>?_) fun q=>?_)) (congrArg ay.ofOpt (yr h (Nat.lt_trans hl (by decide))))) (bD (v:= .int (if P.length+1<4 then s/2 else s/6:Nat)) (nH (s:=decide (P.length+1<4)) (aX (jo (au (af rfl)) (xL h2)) aj ?_) (fun q=>?_) fun q=>?_) rfl)
  ·exact congrArg some (by cases hh:s %2<;>rfl)
  ·rw[bB,if_neg (bne_iff_ne.mp q)]
   exact bF (aa (aC aj (af rfl) (add_str (show 2+1≤1000 by decide))) (au (aC aj (af rfl) (congrArg (fun z=>some (V.int z)) (Int.ofNat_sub hk).symm))))
  ·rw[bB,if_pos (by simpa using q)]
   exact bF (aa (af rfl) (au (af rfl)))
  ·rw[List.length_append];exact congrArg some (decide_eq_decide.mpr Int.ofNat_lt)
  ·rw[if_pos (of_decide_eq_true q)];exact aC (af rfl) aj (eD (b:=2) (by decide) (by decide))
  ·rw[if_neg (of_decide_eq_false q)];exact aC (af rfl) aj (eD (b:=6) (by decide) (by decide))
 rw[lC (bs:=[("letter",.str [97+k]),("bits",.int (eN k:Nat))]) rfl]
 rcases ht with rfl|⟨x,y,rfl⟩<;>exact go rfl
noncomputable def lO(l sg r:List Nat):List Nat:=[40,32]++l++[32]++sg++[32]++r++[32,41]
noncomputable def fT(le bi sz a sg nu ro l o r ot:V):Env:=[("letter",le),("bits",bi),("size",sz),("at",a),("sign",sg),("number",nu),("row",ro),("left",l),("one",o),("right",r),("other",ot)]
theorem Dd{z a:Nat}{xs ys:List (List Nat×Nat)}{l r sg:List Nat}{iT other num row:Nat}{t:Env}(ht:(∃x y,t=[("letter",x),("bits",y)])∨ ∃p0 p1 p2 p3 p4 p5 p6 p7 p8 p9 pa,t=fT p0 p1 p2 p3 p4 p5 p6 p7 p8 p9 pa)(hz:0<z)(hz3:z≤3)(h3:dG σ pv=some ((xs++(l,iT)::(r,other)::ys).map aU))
  (hat:s %z=a)(hx:xs.length=a)(hy:ys.length≤3)(hsg:gc[s/z %9]? =some (sg,num,row))(hll:l.length≤100)(hrl:r.length≤100)(hsl:sg.length≤2):
  ∃t',lF prog.toCtx (ak prog (n+1)) (n+1) (.name "size") f2B (.int z) (fE s pv t) σ= .ok (.next,fE (s/z/9) (.lst ((xs++(lO l sg r,fO row iT other)::ys).map aU)) t',σ)∧ ∃p0 p1 p2 p3 p4 p5 p6 p7 p8 p9 pa,t'=fT p0 p1 p2 p3 p4 p5 p6 p7 p8 p9 pa:=by
 have a3:a<3:=hat▸Nat.lt_of_lt_of_le (Nat.mod_lt s hz) hz3
 have hlen:((xs++(l,iT)::(r,other)::ys).map aU).length=a+2+ys.length:=by rw[List.length_map,List.length_append,hx,List.length_cons,List.length_cons];omega
 have q1:a≤((xs++(l,iT)::(r,other)::ys).map aU).length:=by rw[hlen];omega
 have q2:a+2≤((xs++(l,iT)::(r,other)::ys).map aU).length:=by rw[hlen];omega
 have sl1:cR σ pv (.int (a:Nat)) (.int ((a+2:Nat):Int))=some (.lst [aU (l,iT),aU (r,other)]):=by
  rw[cK h3 (cn (by omega)) (cn (by omega)),oJ q1 q2,←hx,←List.map_drop,List.drop_left,Nat.add_sub_cancel_left];rfl
 have sl2:cR σ pv .none (.int (a:Nat))=some (.lst (xs.map aU)):=by
  rw[cK h3 rfl (cn (by omega)),mq q1,←hx,←List.map_take,List.take_left]
 have sl3:cR σ pv (.int ((a+2:Nat):Int)) .none=some (.lst (ys.map aU)):=by
  rw[cK h3 (cn (by omega)) rfl,iY q2,←hx,←List.map_drop,←List.drop_drop,List.drop_left];rfl
 have sgs:dE σ (.lst (gc.map fun s=> .tup [.str s.1,.int s.2.1,.int s.2.2])) (.int ((s/z %9:Nat):Int))=some (.tup [.str sg,.int num,.int row]):=rY (by rw[List.getElem?_map,hsg];rfl) (by decide)
 have ad2:cX σ .add (.int (a:Int)) (.int 2)=some (.int ((a+2:Nat):Int)):=rfl
 have fin: ∀{x y},bk prog.toCtx (ak prog (n+1)) (n+1) (f2B.drop 2) (fE s pv (fT x y (.int z) (.int a) (.str sg) (.int num) (.int row) (.str l) (.int iT) (.str r) (.int other))) σ= .ok (.next,fE (s/z/9) (.lst ((xs++(lO l sg r,fO row iT other)::ys).map aU)) (fT x (.int (fO row iT other:Nat)) (.int z) (.int a) (.str sg) (.int num) (.int row) (.str l) (.int iT) (.str r) (.int other)),σ):=fun{x y}=>by
  have e:(xs++(lO l sg r,fO row iT other)::ys).map aU=xs.map aU++[aU (lO l sg r,fO row iT other)]++ys.map aU:=by rw[List.map_append,List.map_cons,List.append_assoc];rfl
  rw[e]
  have l1: ∀u v:List Nat,(u++v).length=u.length+v.length:=fun _ _=>List.length_append
  refine bD (Ar rfl rfl rfl) (bD (aC (aC (cw (af rfl) lJ (af rfl) sl2) (jZ (au (bF (aa (aC (aC (aC (aC (aC (aC aj (af rfl) (add_str ?_)) aj (add_str ?_)) (af rfl) (add_str ?_)) aj (add_str ?_)) (af rfl) (add_str ?_)) aj (add_str ?_)) (au (af rfl)))))) (jJ ?_)) (cw (af rfl) (aC (af rfl) aj ad2) lJ sl3) (jJ ?_)) (bD (aC (aC (af rfl) (af rfl) (eD hz (Nat.lt_of_le_of_lt hz3 (by decide)))) aj (eD (b:=9) (by decide) (by decide))) rfl))
  all_goals simp only [l1,List.length_map,List.length_cons,List.length_nil,List.length_append,hx]
  all_goals omega
 rw[lC (bs:=[("size",.int z)]) rfl]
 rcases ht with⟨x,y,rfl⟩|⟨x,y,_,_,_,_,_,_,_,_,_,rfl⟩<;>
 ·refine⟨fT x (.int (fO row iT other:Nat)) (.int z) (.int a) (.str sg) (.int num) (.int row) (.str l) (.int iT) (.str r) (.int other),?_,_,_,_,_,_,_,_,_,_,_,_,rfl⟩
  refine c8 (bF (aa (aC (af rfl) (af rfl) (dw hz)) (au (aN (bf aq rb) (aC (aC (af rfl) (af rfl) (eD hz (Nat.lt_of_le_of_lt hz3 (by decide)))) aj (dw (b:=9) (by decide))) sgs)))) rfl ?_
  rw[hat]
  exact c8 (cw (af rfl) (af rfl) (aC (af rfl) aj ad2) sl1) rfl (fin (x:=x) (y:=y))
noncomputable abbrev TT(t:Env):Prop:=(∃x y,t=[("letter",x),("bits",y)])∨ ∃p0 p1 p2 p3 p4 p5 p6 p7 p8 p9 pa,t=fT p0 p1 p2 p3 p4 p5 p6 p7 p8 p9 pa
theorem pH{z B d:Nat}{Q:List (List Nat×Nat)}{t:Env}(ht:TT t)(hz:0<z)(hz3:z≤3)(h3:dG σ pv=some (Q.map aU))(hQ:Q.length=z+1)(F:vH Q B d)(hB:B≤100):
  ∃t' Q',lF prog.toCtx (ak prog (n+1)) (n+1) (.name "size") f2B (.int z) (fE s pv t) σ= .ok (.next,fE (s/z/9) (.lst (Q'.map aU)) t',σ)∧TT t'∧Q'.length=z∧vH Q' (2*B+8) (d+1)∧ ∀q∈Q',z=1→q.1.contains 32=true:=by
 obtain⟨xs,⟨l,iT⟩,⟨r,other⟩,ys,rfl,hx,hy⟩:=zX hQ (Nat.mod_lt s hz)
 obtain⟨⟨sg,num,row⟩,hsg⟩: ∃q,gc[s/z %9]? =some q:=⟨_,List.getElem?_eq_getElem (Nat.mod_lt _ (by decide))⟩
 have hm:(sg,num,row)∈gc:=List.mem_of_getElem? hsg
 obtain⟨_,_,_,hsl,_⟩:=iZ hm
 obtain⟨s1,c1,s2,c2,f1,f2,l1,l2,mk'⟩:=F.split
 dsimp only at f1 f2 l1 l2
 obtain⟨t',e,ht'⟩:=Dd (n:=n) (σ:=σ) ht hz hz3 h3 rfl hx (by omega) hsg (Nat.le_trans l1 hB) (Nat.le_trans l2 hB) hsl
 have hlt:=Nat.mod_lt s hz
 refine⟨t',_,e,.inr ht',by rw[List.length_append,hx,List.length_cons,hy];omega,mk' _ _ _ (Fm.bin f1 f2 hm) ?_ (by omega),fun q hq h=>?_⟩
 ·simp only [lO,List.length_append,List.length_cons,List.length_nil];omega
 ·subst h
  obtain rfl:xs=[]:=List.length_eq_zero_iff.mp (by rw[hx];exact Nat.mod_one s)
  obtain rfl:ys=[]:=List.length_eq_zero_iff.mp (by rw[hy];omega)
  obtain rfl:=List.mem_singleton.mp hq
  exact List.contains_iff_mem.mpr (List.mem_append_right _ (List.mem_cons_self ..))
theorem vH.inv{q:List Nat×Nat}{Q:List (List Nat×Nat)}{B d:Nat}(h:vH (q::Q) B d): ∃s c d',Fm q.1 s q.2 c∧q.1.length≤B∧d=c+d':=by
 cases h with
 |cons f l g=>exact⟨_,_,_,f,l,rfl⟩
theorem C2(k:Nat):eN k≤255:=by unfold eN;split<;>(try split)<;>decide
theorem lt_at{k:Nat}(h:k<3):[aU (lett 0),aU (lett 1),aU (lett 2)][k]? =some (aU (lett k)):=match k,h with
 |0,_=>rfl
 |1,_=>rfl
 |2,_=>rfl
theorem fo_eq:cL=[.asg (.tup [.name "letters",.name "parts"]) (.tup [.lst [.tup [.cst (.str [97]),.cst (.int 170)],.tup [.cst (.str [98]),.cst (.int 204)],.tup [.cst (.str [99]),.cst (.int 240)]],.lstM []]),.for_ (.tup [.name "letter",.name "bits"]) (.bin .add (.var "letters") (.lst [.sub (.var "letters") (.bin .mod (.bin .div (.var "shape") (.cst (.int 8))) (.cst (.int 3)))])) f1B,.for_ (.name "size") (.tup [.cst (.int 3),.cst (.int 2),.cst (.int 1)]) f2B,.ret (.sub (.var "parts") (.cst (.int 0)))]:=by kernel_rfl
theorem nt: ∃text syms bits cost σ',ak prog (n+2) (.fn "_law_formula") [.int s] .none σ= .ok (.tup [.str text,.int (bits:Nat)],σ++[σ'])∧Fm text syms bits cost∧cost≤11∧text.length≤100∧text.contains 32=true:=by
 have k3:s/8 %3<3:=Nat.mod_lt _ (by decide)
 generalize hk:s/8 %3=k at k3
 have gt: ∀m:MO,(σ++[m])[σ.length]? =some m:=fun m=>by rw[List.getElem?_append_right (Nat.le_refl _),Nat.sub_self];rfl
 have st: ∀m m':MO,(σ++[m]).set σ.length m'=σ++[m']:=fun m m'=>by rw[List.set_append_right _ _ (Nat.le_refl _),Nat.sub_self];rfl
 have f1:=fun(s k:Nat) (P:List V) (t:Env) (ht:t=[]∨ ∃x y,t=[("letter",x),("bits",y)]) (hl:P.length<4)=>De (n:=n+1) (s:=s) (k:=k) (σ:=σ++[.list P]) (P:=P) ht (C2 k) (gt _) hl
 simp only [st] at f1
 have e1:=f1 s 0 [] [] (.inl rfl) (by decide)
 have e2:=f1 (s/2) 1 [aU (bB s (lett 0))] [("letter",.str [97+0]),("bits",.int (eN 0:Nat))] (.inr ⟨_,_,rfl⟩) (by decide:1<4)
 have e3:=f1 (s/2/2) 2 [aU (bB s (lett 0)),aU (bB (s/2) (lett 1))] [("letter",.str [97+1]),("bits",.int (eN 1:Nat))] (.inr ⟨_,_,rfl⟩) (by decide:2<4)
 have e4:=f1 (s/2/2/2) k [aU (bB s (lett 0)),aU (bB (s/2) (lett 1)),aU (bB (s/2/2) (lett 2))] [("letter",.str [97+2]),("bits",.int (eN 2:Nat))] (.inr ⟨_,_,rfl⟩) (by decide:3<4)
 obtain⟨y0,c0,g0,cc0,l0⟩:=n3 (s:=s) (k:=0) (by decide)
 obtain⟨y1,c1,g1,cc1,l1⟩:=n3 (s:=s/2) (k:=1) (by decide)
 obtain⟨y2,c2,g2,cc2,l2⟩:=n3 (s:=s/2/2) (k:=2) (by decide)
 obtain⟨y3,c3,g3,cc3,l3⟩:=n3 (s:=s/2/2/2) (k:=k) k3
 have F0:vH [bB s (lett 0),bB (s/2) (lett 1),bB (s/2/2) (lett 2),bB (s/2/2/2) (lett k)] 3 (c0+(c1+(c2+(c3+0)))):= .cons g0 l0 (.cons g1 l1 (.cons g2 l2 (.cons g3 l3 (.nil 3))))
 have L1:c9 (lF prog.toCtx (ak prog (n+1)) (n+1) (.tup [.name "letter",.name "bits"]) f1B) [aU (lett 0),aU (lett 1),aU (lett 2),aU (lett k)] (fE s (.ref σ.length) []) (σ++[.list []])=_:=eY e1 (eY e2 (eY e3 (rx e4)))
 have L1:c9 (lF prog.toCtx (ak prog (n+1)) (n+1) (.tup [.name "letter",.name "bits"]) f1B) [aU (lett 0),aU (lett 1),aU (lett 2),aU (lett k)] (fE s (.ref σ.length) []) (σ++[.list []])= .ok (.next,fE (s/2/2/2/6) (.ref σ.length) [("letter",.str [97+k]),("bits",.int (eN k:Nat))],σ++[.list ([bB s (lett 0),bB (s/2) (lett 1),bB (s/2/2) (lett 2),bB (s/2/2/2) (lett k)].map aU)]):=L1
 generalize s/2/2/2/6=s5 at L1
 have Q4:[bB s (lett 0),bB (s/2) (lett 1),bB (s/2/2) (lett 2),bB (s/2/2/2) (lett k)].length=3+1:=rfl
 generalize [bB s (lett 0),bB (s/2) (lett 1),bB (s/2/2) (lett 2),bB (s/2/2/2) (lett k)]=Q0 at F0 L1 Q4
 have h0:dG (σ++[.list (Q0.map aU)]) (.ref σ.length)=some (Q0.map aU):=by
  exact d9 (gt _)
 obtain⟨t5,Q5,r5,h5,n5,F5,_⟩:=pH (n:=n) (z:=3) (s:=s5) (.inl ⟨.str [97+k],.int (eN k:Nat),rfl⟩) (by decide) (by decide) h0 Q4 F0 (by decide)
 obtain⟨t6,Q6,r6,h6,n6,F6,_⟩:=pH (n:=n) (z:=2) (s:=s5/3/9) (pv:= .lst (Q5.map aU)) (σ:=σ++[.list (Q0.map aU)]) h5 (by decide) (by decide) rfl n5 F5 (by decide)
 obtain⟨t7,Q7,r7,h7,n7,F7,bl⟩:=pH (n:=n) (z:=1) (s:=s5/3/9/2/9) (pv:= .lst (Q6.map aU)) (σ:=σ++[.list (Q0.map aU)]) h6 (by decide) (by decide) rfl n6 F6 (by decide)
 obtain⟨⟨text,bits⟩,rfl⟩:=List.length_eq_one_iff.mp n7
 obtain⟨sy,c,d,fm,ln,hd⟩:=F7.inv
 have ls:dE (σ++[.list []]) (.lst [aU (lett 0),aU (lett 1),aU (lett 2)]) (.int ((s/8 %3:Nat):Int))=some (aU (lett k)):=by
  rw[hk]
  exact rY (lt_at k3) (show 3<1000 by decide)
 have it1:qu prog.toCtx (ak prog (n+1)) (.bin .add (.var "letters") (.lst [.sub (.var "letters") (.bin .mod (.bin .div (.var "shape") (.cst (.int 8))) (.cst (.int 3)))])) (fE s (.ref σ.length) []) (σ++[.list []])= .ok ([aU (lett 0),aU (lett 1),aU (lett 2),aU (lett k)],σ++[.list []]):=
  xZ rfl (aC (af rfl) (jZ (au (aN (af rfl) (aC (aC (af rfl) aj (eD (b:=8) (by decide) (by decide))) aj (dw (b:=3) (by decide))) ls))) (jJ (x:=[aU (lett 0),aU (lett 1),aU (lett 2)]) (y:=[aU (lett k)]) (show 3+1≤1000 by decide))) rfl
 have body:bk prog.toCtx (ak prog (n+1)) (n+1) cL [("shape",.int s)] σ= .ok (.ret (.tup [.str text,.int (bits:Nat)]),fE (s5/3/9/2/9/1/9) (.lst ([(text,bits)].map aU)) t7,σ++[.list (Q0.map aU)]):=by
  rw[fo_eq]
  refine c8 (b:=[("letters",ltV),("parts",.ref σ.length)]) (σ1:=σ++[.list []]) (v:= .tup [ltV,.ref σ.length]) (by kernel_rfl) (by kernel_rfl) ?_
  show bk _ _ _ _ (fE s (.ref σ.length) []) _=_
  refine qV it1 L1 ?_
  refine qV (l:=[.int (3:Nat),.int (2:Nat),.int (1:Nat)]) (by kernel_rfl) (eY r5 (eY r6 (rx r7))) ?_
  exact dD (aN (af (v:= .lst ([(text,bits)].map aU)) (by kernel_rfl)) aj (by kernel_rfl))
 exact⟨text,sy,bits,c,_,fW (fn:={params:=["shape"],dflt:=[.none],key:=false,body:=cL}) rfl rfl rfl body,fm,by omega,Nat.le_trans ln (by decide),bl _ (List.mem_singleton.mpr rfl) rfl⟩
end
end Mine.P
end
section
namespace Mine.P
noncomputable abbrev TV:=Int×Option Int
noncomputable def oy:TV→V
 |(a,.none)=> .int a
 |(a,some b)=> .tup [.int a,.int b]
noncomputable abbrev KQ:=List (Int×TV)
noncomputable def eO(q:KQ):List Int:=q.map (·.1)
noncomputable def jL(q:KQ):List V:=q.map fun p=>oy p.2
noncomputable def bt(q:KQ):V:= .dict (eO q) (jL q)
noncomputable def bL(q:KQ):MO:= .dict (eO q) (jL q)
noncomputable def sto(q:KQ)(k:Int)(v:TV):KQ:=if(eO q).contains k then q.map fun p=>(p.1,if p.1=k then v else p.2) else q++[(k,v)]
noncomputable def vD(q:KQ)(p:Int×TV):Option KQ:=if q.length<100 then some (sto q p.1 p.2) else .none
noncomputable def adV:TV→TV→Option TV
 |(a,some b),(c,some e)=>some (a+c,some (b+e))
 |(a,.none),(c,.none)=>some (c+a,.none)
 |_,_=> .none
noncomputable def adQ(d:KQ)(p:Int×TV):Option KQ:=
 if(eO d).contains p.1 then((d.lookup p.1).bind (adV p.2)).bind fun v=>vD d (p.1,v) else vD d p
noncomputable def jn(g:KQ→Int×TV→Option KQ):KQ→KQ→Option KQ
 |d,[]=>some d
 |d,p::r=>(g d p).bind fun d=>jn g d r
noncomputable def nN(t s:KQ):Option KQ:=(jn vD [] t).bind fun d=>jn adQ d s
theorem rK: ∀q:KQ,(eO q).zip (jL q)=q.map fun p=>(p.1,oy p.2)
 |[]=>rfl
 |p::q=>congrArg ((p.1,oy p.2):: ·) (rK q)
theorem lu{k:Int}: ∀q:KQ,((eO q).zip (jL q)).lookup k=(q.lookup k).map oy
 |[]=>rfl
 |p::q=>by
  show(match k==p.1 with|true=>some (oy p.2)|false=>((eO q).zip (jL q)).lookup k)=Option.map oy (match k==p.1 with|true=>some p.2|false=>q.lookup k)
  cases k==p.1
  ·exact lu q
  ·rfl
theorem zV{q:KQ}{k:Int}{v:TV}:bP (eO q) (jL q) k (oy v)=(eO (sto q k v),jL (sto q k v)):=by
 show(if(eO q).contains k then _ else _)=(eO (if(eO q).contains k then _ else _),jL (if(eO q).contains k then _ else _))
 cases(eO q).contains k
 ·show(eO q++[k],jL q++[oy v])=(eO (q++[(k,v)]),jL (q++[(k,v)]))
  rw[eO,jL,eO,jL,List.map_append,List.map_append];rfl
 ·show(eO q,((eO q).zip (jL q)).map fun p=>if p.1=k then oy v else p.2)=(eO (q.map fun p=>(p.1,if p.1=k then v else p.2)),jL (q.map fun p=>(p.1,if p.1=k then v else p.2)))
  rw[rK,List.map_map,eO,eO,jL,List.map_map,List.map_map]
  exact congrArg (Prod.mk _) (List.map_congr_left fun p _=>(apply_ite oy ..).symm)
theorem yi: ∀{l d e:KQ},jn vD d l=some e→(l.map fun p=>(p.1,oy p.2)).foldl (fun(d:List Int×List V) q=>bP d.1 d.2 q.1 q.2) (eO d,jL d)=(eO e,jL e)
 |[],d,e,h=>by cases h;rfl
 |p::l,d,e,h=>by
  obtain⟨c,h1,h2⟩:=Option.bind_eq_some_iff.mp h
  have e1:sto d p.1 p.2=c:=by
   by_cases hl:d.length<100
   ·exact Option.some.inj ((if_pos hl).symm.trans h1)
   ·exact absurd ((if_neg hl).symm.trans h1) (by simp)
  show List.foldl _ (bP (eO d) (jL d) p.1 (oy p.2)) _=_
  rw[zV,e1]
  exact yi h2
theorem sP{l e:KQ}(h:jn vD [] l=some e):eS (eO l) (jL l)=bt e:=by
 have:=yi h
 rw[←rK] at this
 exact congrArg (fun p:List Int×List V=>V.dict p.1 p.2) this
section
variable{C:Ctx}{call:aw}{n:Nat}{σ:ah}{x y:V}{d d':KQ}{r:Nat}
theorem fZ{m:MO}:(σ++[m])[σ.length]? =some m:=List.getElem?_concat_length ..
theorem xc{m m':MO}:(σ++[m]).set σ.length m'=σ++[m']:=by rw[List.set_append_right _ _ (Nat.le_refl _),Nat.sub_self];rfl
theorem Ax{ρ:Env}{o i e:E}{k:Int}{v:TV}(he:bp C call e ρ (σ++[bL d])= .ok (oy v,σ++[bL d]))(ho:bp C call o ρ (σ++[bL d])= .ok (.ref σ.length,σ++[bL d]))(hi:bp C call i ρ (σ++[bL d])= .ok (.int k,σ++[bL d]))(h:vD d (k,v)=some d'):
  vG C call n (.asgSub o i e) ρ (σ++[bL d])= .ok (.next,ρ,σ++[bL d']):=by
 by_cases hl:d.length<100
 ·have e1:sto d k v=d':=Option.some.inj ((if_pos hl).symm.trans h)
  have hk:(eO d).length<cP:=by rw[eO,List.length_map];exact Nat.lt_trans hl (by decide)
  rw[xg he ho hi (ks:=eO d) (vs:=jL d) fZ hk,zV,e1]
  exact congrArg (fun s=>ay.ok (Fl.next,ρ,s)) xc
 ·exact absurd ((if_neg hl).symm.trans h) (by simp)
theorem Bm{a b:E}{ρ:Env}{τ1 τ2 τ:ah}{u w v:V}(h1:bp C call a ρ τ= .ok (u,τ1))(h2:bp C call b ρ τ1= .ok (w,τ2))(h:tK u w=some v):bp C call (.tupSum a b) ρ τ= .ok (v,τ2):=by show ay.bind _ _=_;exact cU h1 (cU h2 (bY h rfl))
theorem Bn{es:List E}{ρ:Env}{τ1 τ:ah}{vs ws:List V}{ks:List Int}{v:V}(h:dB C call es ρ τ= .ok (vs,τ1))(hp:cg vs=some (ks,ws))(hd:eS ks ws=v):bp C call (.dict es) ρ τ= .ok (v,τ1):=by show ay.bind _ _=_;exact jN h (bY hp (by rw[hd]))
noncomputable def aE(x y:V)(r:Nat)(t:Env):Env:=("target",x)::("source",y)::("new_callers",.ref r)::t
noncomputable def aT(k:Int)(v:TV):Env:=[("func",.int k),("caller",oy v)]
noncomputable def tgt:T:= .tup [.name "func",.name "caller"]
noncomputable def itV(p:Int×TV):V:= .tup [.int p.1,oy p.2]
theorem wc{b:List S}{g:KQ→Int×TV→Option KQ}(hs: ∀{d p d1},g d p=some d1→bk C call n b (aE x y σ.length (aT p.1 p.2)) (σ++[bL d])= .ok (.next,aE x y σ.length (aT p.1 p.2),σ++[bL d1])):
  ∀{l:KQ} {t:Env} {d d':KQ},(t=[]∨ ∃k v,t=aT k v)→jn g d l=some d'→ ∃t',(t'=[]∨ ∃k v,t'=aT k v)∧c9 (lF C call n tgt b) (l.map itV) (aE x y σ.length t) (σ++[bL d])= .ok (.next,aE x y σ.length t',σ++[bL d'])
 |[],t,d,d',ht,h=>⟨t,ht,by cases h;rfl⟩
 |p::l,t,d,d',ht,h=>by
  obtain⟨c,h1,h2⟩:=Option.bind_eq_some_iff.mp h
  obtain⟨t',ht',e⟩:=wc hs (t:=aT p.1 p.2) (.inr ⟨_,_,rfl⟩) h2
  have s:lF C call n tgt b (itV p) (aE x y σ.length t) (σ++[bL d])= .ok (.next,aE x y σ.length (aT p.1 p.2),σ++[bL c]):=by
   rw[lC (bs:=aT p.1 p.2) rfl]
   rcases ht with rfl|⟨_,_,rfl⟩
   ·exact hs h1
   ·exact hs h1
  exact⟨t',ht',eY s e⟩
noncomputable def ac1:List S:=[.asgSub (.var "new_callers") (.var "func") (.var "caller")]
noncomputable def ac2:List S:=[.iff (.cmp .in_ (.var "func") (.var "new_callers")) [.iff (.isTup (.var "caller")) [.asgSub (.var "new_callers") (.var "func") (.tupSum (.var "caller") (.sub (.var "new_callers") (.var "func")))] [.augSub (.var "new_callers") (.var "func") (.var "caller")]] [.asgSub (.var "new_callers") (.var "func") (.var "caller")]]
theorem BH{p:Int×TV}(h:vD d p=some d'):bk C call n ac1 (aE x y σ.length (aT p.1 p.2)) (σ++[bL d])= .ok (.next,aE x y σ.length (aT p.1 p.2),σ++[bL d']):=
 eH (Ax (af rfl) (af rfl) (af rfl) h) rfl
theorem in_kq{k:Int}:dn (σ++[bL d]) .in_ (.int k) (.ref σ.length)=some ((eO d).contains k):=by
 show(Bo (σ++[bL d]) σ.length).bind _=_
 exact cG (km fZ) rfl
theorem Ep{k:Int}{v:TV}(h:d.lookup k=some v):dE (σ++[bL d]) (.ref σ.length) (.int k)=some (oy v):=by
 show((qJ (σ++[bL d]) σ.length).bind (Ci · k)).or ((Bo (σ++[bL d]) σ.length).bind fun d=>(d.1.zip d.2).lookup k)=_
 rw[show qJ (σ++[bL d]) σ.length=none from cG fZ rfl,show Bo (σ++[bL d]) σ.length=some (eO d,jL d) from km fZ]
 exact(lu d).trans (by rw[h];rfl)
theorem Fy{ρ:Env}{o i e:E}{k a b:Int}(ho:bp C call o ρ (σ++[bL d])= .ok (.ref σ.length,σ++[bL d]))(hi:bp C call i ρ (σ++[bL d])= .ok (.int k,σ++[bL d]))(he:bp C call e ρ (σ++[bL d])= .ok (.int b,σ++[bL d]))(ha:d.lookup k=some (a,.none))(h:vD d (k,(a+b,.none))=some d'):
  vG C call n (.augSub o i e) ρ (σ++[bL d])= .ok (.next,ρ,σ++[bL d']):=by
 have hst:=Ax (C:=C) (call:=call) (n:=n) (ρ:=ρ) (o:=o) (i:=i) (e:= .cst (.int (a+b))) (v:=(a+b,.none)) rfl ho hi h
 show ay.bind _ _=_
 have lk:((((eO d).zip (jL d)).lookup k).bind bN)=some a:=by rw[lu,ha];rfl
 refine cU ho (cU hi (bY rfl (bY rfl (bY (km fZ) (bY lk (cU he (bY rfl (bY (km fZ) ?_))))))))
 have q:vG C call n (.asgSub o i (.cst (.int (a+b)))) ρ (σ++[bL d])=if(eO d).length<cP then .ok (.next,ρ,(σ++[bL d]).set σ.length (.dict (bP (eO d) (jL d) k (.int (a+b))).1 (bP (eO d) (jL d) k (.int (a+b))).2)) else .stuck:=by
  show ay.bind _ _=_
  exact cU ho (cU hi (bY rfl (bY rfl (bY (km fZ) rfl))))
 exact q.symm.trans hst
theorem FD{p:Int×TV}(h:adQ d p=some d'):bk C call n ac2 (aE x y σ.length (aT p.1 p.2)) (σ++[bL d])= .ok (.next,aE x y σ.length (aT p.1 p.2),σ++[bL d']):=by
 have c1:=aX (C:=C) (call:=call) (op:= .in_) (af (ρ:=aE x y σ.length (aT p.1 p.2)) (σ:=σ++[bL d]) (m:= "func") rfl) (af (m:= "new_callers") rfl) in_kq
 cases hc:(eO d).contains p.1 with
 |false=>
  rw[hc] at c1
  have h':vD d p=some d':=by rw[adQ,hc] at h;exact h
  exact gO c1 (BH h') rfl
 |true=>
  rw[hc] at c1
  have h':((d.lookup p.1).bind (adV p.2)).bind (fun v=>vD d (p.1,v))=some d':=by rw[adQ,hc] at h;exact h
  obtain⟨v,h1,h2⟩:=Option.bind_eq_some_iff.mp h'
  obtain⟨u,h3,h4⟩:=Option.bind_eq_some_iff.mp h1
  refine gX c1 ?_ rfl
  obtain⟨k,a,b⟩:=p
  obtain⟨c,e⟩:=u
  cases b with
  |none=>cases e with
   |none=>
    cases h4
    exact gO (zS rfl (v:= .bool false) rfl rfl) (eH (Fy (af rfl) (af rfl) (af rfl) h3 h2) rfl) rfl
   |some e=>cases h4
  |some b=>cases e with
   |none=>cases h4
   |some e=>
    cases h4
    exact gX (zS rfl (v:= .bool true) rfl rfl) (eH (Ax (v:=(a+c,some (b+e))) (Bm (af rfl) (aN (af rfl) (af rfl) (Ep h3)) rfl) (af rfl) (af rfl) h2) rfl) rfl
theorem uA{q:KQ}:sK (bt q)=some (q.map itV):=by
 show some (((eO q).zip (jL q)).map fun p=>V.tup [.int p.1,p.2])=_
 rw[rK,List.map_map];rfl
end
theorem oP{n:Nat}{t s e:KQ}{σ:ah}(h:nN t s=some e):ak prog (n+1) (.fn "add_callers") [bt t,bt s] .none σ= .ok (bt e,σ++[.dead]):=by
 obtain⟨d,h1,h2⟩:=Option.bind_eq_some_iff.mp h
 obtain⟨t1,k1,e1⟩:=wc (C:=prog.toCtx) (call:=ak prog n) (n:=n) (x:=bt t) (y:=bt s) (σ:=σ) (g:=vD) BH (t:=[]) (.inl rfl) h1
 obtain⟨t2,k2,e2⟩:=wc (C:=prog.toCtx) (call:=ak prog n) (n:=n) (x:=bt t) (y:=bt s) (σ:=σ) (g:=adQ) FD k1 h2
 have fin:bk prog.toCtx (ak prog n) n [.frz "new_callers",.ret (.var "new_callers")] (aE (bt t) (bt s) σ.length t2) (σ++[bL e])= .ok (.ret (bt e),("target",bt t)::("source",bt s)::("new_callers",bt e)::t2,σ++[.dead]):=by
  refine eH (ρ':=("target",bt t)::("source",bt s)::("new_callers",bt e)::t2) (σ1:=σ++[.dead]) ?_ (dD (af rfl))
  refine bY (a:=bt e) (cG fZ rfl) ?_
  show ay.ok (Fl.next,put (aE (bt t) (bt s) σ.length t2) "new_callers" (bt e),(σ++[bL e]).set σ.length .dead)=_
  rw[xc];rfl
 exact fW (fn:={params:=["target", "source"],dflt:=[.none,.none],key:=false,body:=eG}) rfl rfl rfl
  (bD (v:= .ref σ.length) (σ1:=σ++[bL []]) rfl (qV (xY (af rfl) uA) e1 (qV (xY (af rfl) uA) e2 fin)))
structure To where
 s:Int
 e:Int
 t:Int
 q:Int
 T:KQ
noncomputable def To.v(a:To):V:= .tup [.int a.s,.int a.e,.int a.t,.int a.q,bt a.T]
theorem CJ{n:Nat}{a b:To}{e:KQ}{σ:ah}(h:nN a.T b.T=some e):
  ak prog (n+2) (.fn "add_func_stats") [a.v,b.v] .none σ= .ok (To.v ⟨b.s+a.s,b.e+a.e,b.t+a.t,b.q+a.q,e⟩,σ++[.dead]):=
 fW (ρ:=[("target",a.v),("source",b.v)]) (fn:={params:=["target", "source"],dflt:=[.none,.none],key:=false,body:=c6}) rfl rfl rfl (by
  refine c8 (b:=[("cc",.int b.s),("nc",.int b.e),("tt",.int b.t),("ct",.int b.q),("callers",bt b.T)]) (v:=b.v) rfl rfl ?_
  rw[show dK [("target",a.v),("source",b.v)] [("cc",.int b.s),("nc",.int b.e),("tt",.int b.t),("ct",.int b.q),("callers",bt b.T)]=[("target",a.v),("source",b.v),("cc",.int b.s),("nc",.int b.e),("tt",.int b.t),("ct",.int b.q),("callers",bt b.T)] by kernel_rfl]
  refine c8 (b:=[("t_cc",.int a.s),("t_nc",.int a.e),("t_tt",.int a.t),("t_ct",.int a.q),("t_callers",bt a.T)]) (v:=a.v) rfl rfl ?_
  rw[show dK [("target",a.v),("source",b.v),("cc",.int b.s),("nc",.int b.e),("tt",.int b.t),("ct",.int b.q),("callers",bt b.T)] [("t_cc",.int a.s),("t_nc",.int a.e),("t_tt",.int a.t),("t_ct",.int a.q),("t_callers",bt a.T)]=[("target",a.v),("source",b.v),("cc",.int b.s),("nc",.int b.e),("tt",.int b.t),("ct",.int b.q),("callers",bt b.T),("t_cc",.int a.s),("t_nc",.int a.e),("t_tt",.int a.t),("t_ct",.int a.q),("t_callers",bt a.T)] by kernel_rfl]
  exact dD (bF (aa (aC (af rfl) (af rfl) rfl) (aa (aC (af rfl) (af rfl) rfl) (aa (aC (af rfl) (af rfl) rfl) (aa (aC (af rfl) (af rfl) rfl) (au (bf (aa (af rfl) (au (af rfl))) (oP h)))))))))
end Mine.P
end
section
namespace Mine.P
structure bZ(σ σ':ah):Prop where
 len:σ.length≤σ'.length
 get: ∀i,i<σ.length→σ'[i]? =σ[i]?
theorem bZ.refl(σ:ah):bZ σ σ:=⟨Nat.le_refl _,fun _ _=>rfl⟩
theorem bZ.app(σ τ:ah):bZ σ (σ++τ):=⟨by rw[List.length_append];exact Nat.le_add_right ..,fun i hi=>List.getElem?_append_left hi⟩
theorem bZ.trans{σ σ' σ'':ah}(a:bZ σ σ')(b:bZ σ' σ''):bZ σ σ'':=⟨Nat.le_trans a.len b.len,fun i h=>(b.get i (Nat.lt_of_lt_of_le h a.len)).trans (a.get i h)⟩
theorem Bk.up{K:bx}{σ σ':ah}{iN iS:Nat}{T:List Tr}(B:Bk K σ iN iS T)(k:bZ σ σ'):Bk K σ' iN iS T:=
 ⟨B.ne,B.wf,B.small,(k.get _ (List.getElem?_eq_some_iff.mp B.nodes).1).trans B.nodes,match B.shelf with
  |⟨L,a,b⟩=>⟨L,(k.get _ (List.getElem?_eq_some_iff.mp a).1).trans a,b⟩⟩
noncomputable def tA(a b:Int):Bool:=decide (a.natAbs<qr∧b.natAbs<qr)
theorem iu{σ:ah}{a b:Int}(h:tA a b=true):cX σ .mul (.int a) (.int b)=some (.int (a*b)):=gS (op:= .mul) (show(if a.natAbs<qr∧b.natAbs<qr then some (a*b) else none)=_ from if_pos (of_decide_eq_true h))
noncomputable def chg1(w:Int)(q:KQ)(k:Int):Option TV:=if k<3 then q.lookup k else match q.lookup k with
 |some (a,some b)=>some (a,some (b+a*w))
 |_=> .none
noncomputable def Bs(w:Int)(q:KQ):List Int→Option KQ
 |[]=>some []
 |k::r=>(chg1 w q k).bind fun v=>(Bs w q r).map ((k,v):: ·)
theorem yn{w:Int}{q:KQ}: ∀{ks:List Int} {l:KQ},Bs w q ks=some l→l.map (·.1)=ks∧ ∀p∈l,chg1 w q p.1=some p.2
 |[],l,h=>by cases h;exact⟨rfl,fun p hp=>nomatch hp⟩
 |k::ks,l,h=>by
  obtain⟨v,h1,h2⟩:=Option.bind_eq_some_iff.mp h
  obtain⟨m,h3,rfl⟩:=Option.map_eq_some_iff.mp h2
  have g:=yn h3
  refine⟨congrArg (k:: ·) g.1,fun p hp=>?_⟩
  rcases List.mem_cons.mp hp with rfl|hp
  ·exact h1
  ·exact g.2 p hp
theorem uv{k:Int}{v:TV}: ∀{q:KQ},q.lookup k=some v→ ∃p∈q,p.2=v
 |[],h=>nomatch h
 |p::q,h=>by
  have h':(match k==p.1 with|true=>some p.2|false=>q.lookup k)=some v:=h
  cases hk:k==p.1 with
  |true=>rw[hk] at h';exact⟨p,List.mem_cons_self ..,Option.some.inj h'⟩
  |false=>
   rw[hk] at h'
   obtain⟨x,hx,e⟩:=uv h'
   exact⟨x,List.mem_cons_of_mem _ hx,e⟩
noncomputable def chE:E:= .dcomp (.var "k") (.ite (.cmp .lt (.var "k") (.cst (.int 3))) (.sub (.var "table") (.var "k")) (.tup [.sub (.sub (.var "table") (.var "k")) (.cst (.int 0)),.bin .add (.sub (.sub (.var "table") (.var "k")) (.cst (.int 1))) (.bin .mul (.sub (.sub (.var "table") (.var "k")) (.cst (.int 0))) (.var "worth"))])) (.name "k") (.var "table")
theorem CH{call:aw}{ρ:Env}{σ:ah}{q l d:KQ}{w:Int}(hm:(q.all fun p=>tA p.2.1 w)=true)(h:Bs w q (eO q)=some l)(hd:jn vD [] l=some d)(h1:aM ρ "table" =some (bt q))(h2:aM ρ "worth" =some (.int w)):
  bp prog.toCtx call chE ρ σ= .ok (bt d,σ):=by
 have g:=yn h
 rw[←sP hd]
 refine EG (l:=l) (b:=fun p=>[("k",.int p.1)]) (g:=fun p=> .int p.1) (xZ rfl (af h1) (congrArg some ?_)) (fun _ _=>rfl) (fun a _=>af rfl) fun p hp=>?_
 ·rw[←g.1,List.map_map];rfl
 ·have c:=g.2 p hp
  have gt:bp prog.toCtx call (.var "table") (([("k",V.int p.1)]:Env).reverse++ρ) σ= .ok (bt q,σ):=af h1
  have gw:bp prog.toCtx call (.var "worth") (([("k",V.int p.1)]:Env).reverse++ρ) σ= .ok (.int w,σ):=af h2
  have sb: ∀{v:TV},q.lookup p.1=some v→bp prog.toCtx call (.sub (.var "table") (.var "k")) (([("k",V.int p.1)]:Env).reverse++ρ) σ= .ok (oy v,σ):=fun e=>aN gt (af rfl) ((lu q).trans (by rw[e];rfl))
  refine nH (aX (af rfl) aj rfl) (fun e=>?_) fun e=>?_
  ·exact sb ((if_pos (of_decide_eq_true e)).symm.trans c)
  ·have c':(match q.lookup p.1 with|some (a,some b)=>some (a,some (b+a*w))|_=> .none)=some p.2:=(if_neg (of_decide_eq_false e)).symm.trans c
   cases hq:q.lookup p.1 with
   |none=>rw[hq] at c';cases c'
   |some v=>
    obtain⟨a,b⟩:=v
    rw[hq] at c'
    cases b with
    |none=>cases c'
    |some b=>
     obtain⟨x,hx,ex⟩:=uv hq
     have ho:tA a w=true:=by have:=List.all_eq_true.mp hm x hx;rwa[ex] at this
     rw[←Option.some.inj c']
     exact bF (aa (aN (sb hq) aj rfl) (au (aC (aN (sb hq) aj rfl) (aC (aN (sb hq) aj rfl) gw (iu ho)) rfl)))
noncomputable def oG(k:Nat)(b a:To):Option To:=
 (Bs ((2^k:Nat):Int) a.T (eO a.T)).bind fun l=>(jn vD [] l).bind fun d=>
 (jn vD [] [((k:Int),a.s,.none),(3+(k:Int),a.s,some (a.t+a.s*(2^k:Nat)))]).bind fun e=>(nN d e).bind fun f=>(nN b.T f).bind fun g=>
 some ⟨a.s+b.s,a.e+b.e,a.t+a.s*(2^k:Nat)+b.t,a.q+2*(2^k:Nat)*a.t+a.s*(2^k:Nat)*(2^k:Nat)+b.q,g⟩
noncomputable def gQ(k:Nat)(a:To):Bool:=tA a.s (2^k:Nat)&&(tA (a.s*(2^k:Nat)) (2^k:Nat)&&(tA 2 (2^k:Nat)&&(tA (2*(2^k:Nat)) a.t&&(decide (k≤1000)&&a.T.all fun p=>tA p.2.1 (2^k:Nat)))))
noncomputable def qS(K:bx)(iN iS:Nat)(T:List Tr)(o:bw)(m p:Nat)(x:Tr)(v:To):Prop:=
 ∀σ:ah,Bk K σ iN iS T→ ∃σ',ak prog m (.fn "_law_told") [bO K iN iS,.int (aO T x),dT o,.int p] .none σ= .ok (v.v,σ')∧bZ σ σ'
section
variable{K:bx}{iN iS:Nat}{T:List Tr}{o:bw}{m:Nat}
noncomputable def vC(b:Bool):To:=⟨if b then 1 else 0,1,0,0,[]⟩
theorem qW{b:Bool}:qS K iN iS T o (m+1) 3 (.leaf b) (vC b):=fun σ B=>
 ⟨σ,fW (ρ:=[("book",bO K iN iS),("node",.int (aO T (.leaf b))),("order",dT o),("place",.int (3:Nat))]) (fn:={params:=["book", "node", "order", "place"],dflt:=[.none,.none,.none,.none],key:=false,body:=fY}) rfl rfl rfl
  (ma (aX (af rfl) aj (zn rfl)) (dD (bF (aa (af rfl) (aa aj (aa aj (aa aj (au (Bn aq rfl rfl))))))))),.refl _⟩
theorem yE{p k:Nat}{w:Int}{x:Tr}{a b:To}{l d e f g:KQ}(hx:dr T x)(hp:p<3)(hk:o.at p=k)(hw:((2^k:Nat):Int)=w)
  (h1:qS K iN iS T o (m+2) (p+1) (aF p x).2 a)(h0:qS K iN iS T o (m+2) (p+1) (aF p x).1 b)
  (g1:Bs w a.T (eO a.T)=some l)(g2:jn vD [] l=some d)(g3:jn vD [] [((k:Int),a.s,.none),(3+(k:Int),a.s,some (a.t+a.s*w))]=some e)(g4:nN d e=some f)(g5:nN b.T f=some g)
  (m1:tA a.s w=true)(m2:tA (a.s*w) w=true)(m3:tA 2 w=true)(m4:tA (2*w) a.t=true)(hk3:k≤1000)(m5:(a.T.all fun p=>tA p.2.1 w)=true):
  qS K iN iS T o (m+3) p x ⟨a.s+b.s,a.e+b.e,a.t+a.s*w+b.t,a.q+2*w*a.t+a.s*w*w+b.q,g⟩:=fun σ B=>by
 obtain⟨σ1,r1,k1⟩:=h1 _ B
 have k2:bZ σ (σ1++[.dead]):=k1.trans (.app _ _)
 obtain⟨σ2,r0,k3⟩:=h0 _ (B.up k2)
 refine⟨σ2++[.dead],?_,(k2.trans k3).trans (.app _ _)⟩
 generalize hρ:([("book",bO K iN iS),("node",.int (aO T x)),("order",dT o),("place",.int p),("off",.int (aO T (aF p x).1)),("on",.int (aO T (aF p x).2)),("worth",.int w)]:Env)=ρ
 have so: ∀{τ:ah} {ρ':Env} {call:aw},aM ρ' "order" =some (dT o)→aM ρ' "place" =some (.int p)→bp prog.toCtx call (.sub (.var "order") (.var "place")) ρ' τ= .ok (.int k,τ):=fun a b=>aN (af a) (af b) (by rw[rX hp,hk])
 refine fW (ρ:=[("book",bO K iN iS),("node",.int (aO T x)),("order",dT o),("place",.int p)]) (fn:={params:=["book", "node", "order", "place"],dflt:=[.none,.none,.none,.none],key:=false,body:=fY}) rfl rfl rfl (ρ':=ρ++[("some",.int a.s),("every",.int a.e),("total",.int (a.t+a.s*w)),("squares",.int (a.q+2*w*a.t+a.s*w*w)),("table",bt d),("changed",To.v ⟨a.s,a.e,a.t+a.s*w,a.q+2*w*a.t+a.s*w*w,f⟩)]) ?_
 refine gN (aX (af rfl) aj (zn (beq_eq_false_iff_ne.mpr fun q=>Nat.ne_of_lt hp (Int.ofNat.inj q)))) ?_
 refine c8 (b:=[("off",.int (aO T (aF p x).1)),("on",.int (aO T (aF p x).2)),("worth",.int w)]) (bF (aa (bf (aa (af rfl) (aa (af rfl) (au (af rfl)))) (mu B hx)) (au (aC aj (so rfl rfl) ((kR hk3).trans (by rw[hw])))))) rfl ?_
 refine c8 (b:=[("some",.int a.s),("every",.int a.e),("total",.int a.t),("squares",.int a.q),("table",bt a.T)]) (v:=a.v) (bf (aa (af rfl) (aa (af rfl) (aa (af rfl) (au (aC (af rfl) aj rfl))))) r1) rfl ?_
 subst hρ
 rw[show dK (dK [("book",bO K iN iS),("node",.int (aO T x)),("order",dT o),("place",.int p)] [("off",.int (aO T (aF p x).1)),("on",.int (aO T (aF p x).2)),("worth",.int w)]) [("some",.int a.s),("every",.int a.e),("total",.int a.t),("squares",.int a.q),("table",bt a.T)]=[("book",bO K iN iS),("node",.int (aO T x)),("order",dT o),("place",.int p),("off",.int (aO T (aF p x).1)),("on",.int (aO T (aF p x).2)),("worth",.int w),("some",.int a.s),("every",.int a.e),("total",.int a.t),("squares",.int a.q),("table",bt a.T)] by kernel_rfl]
 refine bD (CH m5 g1 g2 rfl rfl) ?_
 refine c8 (b:=[("total",.int (a.t+a.s*w)),("squares",.int (a.q+2*w*a.t+a.s*w*w))]) (bF (aa (aC (af rfl) (aC (af rfl) (af rfl) (iu m1)) rfl) (au (aC (aC (af rfl) (aC (aC aj (af rfl) (iu m3)) (af rfl) (iu m4)) rfl) (aC (aC (af rfl) (af rfl) (iu m1)) (af rfl) (iu m2)) rfl)))) rfl ?_
 rw[show dK (put [("book",bO K iN iS),("node",.int (aO T x)),("order",dT o),("place",.int p),("off",.int (aO T (aF p x).1)),("on",.int (aO T (aF p x).2)),("worth",.int w),("some",.int a.s),("every",.int a.e),("total",.int a.t),("squares",.int a.q),("table",bt a.T)] "table" (bt d)) [("total",.int (a.t+a.s*w)),("squares",.int (a.q+2*w*a.t+a.s*w*w))]=[("book",bO K iN iS),("node",.int (aO T x)),("order",dT o),("place",.int p),("off",.int (aO T (aF p x).1)),("on",.int (aO T (aF p x).2)),("worth",.int w),("some",.int a.s),("every",.int a.e),("total",.int (a.t+a.s*w)),("squares",.int (a.q+2*w*a.t+a.s*w*w)),("table",bt d)] by kernel_rfl]
 refine bD (v:=To.v ⟨a.s,a.e,a.t+a.s*w,a.q+2*w*a.t+a.s*w*w,f⟩) (σ1:=σ1++[.dead]) (bF (aa (af rfl) (aa (af rfl) (aa (af rfl) (aa (af rfl) (au (bf (aa (af rfl) (au (Bn (aa (so rfl rfl) (aa (af rfl) (aa (aC aj (so rfl rfl) rfl) (au (bF (aa (af rfl) (au (af rfl)))))))) rfl (sP g3)))) (oP g4)))))))) ?_
 exact dD (bf (aa (bf (aa (af rfl) (aa (af rfl) (aa (af rfl) (au (aC (af rfl) aj rfl))))) r0) (au (af rfl))) (CJ g5))
theorem mh{p:Nat}{x:Tr}{a b c:To}(hx:dr T x)(hp:p<3)(h1:qS K iN iS T o (m+2) (p+1) (aF p x).2 a)(h0:qS K iN iS T o (m+2) (p+1) (aF p x).1 b)(hs:gQ (o.at p) a=true)(h:oG (o.at p) b a=some c):qS K iN iS T o (m+3) p x c:=by
 obtain⟨l,g1,h⟩:=Option.bind_eq_some_iff.mp h
 obtain⟨d,g2,h⟩:=Option.bind_eq_some_iff.mp h
 obtain⟨e,g3,h⟩:=Option.bind_eq_some_iff.mp h
 obtain⟨f,g4,h⟩:=Option.bind_eq_some_iff.mp h
 obtain⟨g,g5,h⟩:=Option.bind_eq_some_iff.mp h
 obtain⟨m1,hs⟩:=Bool.and_eq_true_iff.mp hs
 obtain⟨m2,hs⟩:=Bool.and_eq_true_iff.mp hs
 obtain⟨m3,hs⟩:=Bool.and_eq_true_iff.mp hs
 obtain⟨m4,hs⟩:=Bool.and_eq_true_iff.mp hs
 obtain⟨m5,m6⟩:=Bool.and_eq_true_iff.mp hs
 exact Option.some.inj h▸yE hx hp rfl rfl h1 h0 g1 g2 g3 g4 g5 m1 m2 m3 m4 (of_decide_eq_true m5) m6
end
noncomputable def chX(w:Int)(q:KQ):KQ:=q.map fun p=>(p.1,p.2.1,p.2.2.map (· +p.2.1*w))
noncomputable def vq:KQ→KQ→KQ
 |(k,c,.none)::r,(_,a,_)::s=>(k,c+a,.none)::vq r s
 |(k,c,some e)::r,(_,a,some b)::s=>(k,a+c,some (b+e))::vq r s
 |_,s=>s
noncomputable def iV(k:Nat)(b a:To):To:=⟨a.s+b.s,a.e+b.e,a.t+a.s*(2^k:Nat)+b.t,a.q+2*(2^k:Nat)*a.t+a.s*(2^k:Nat)*(2^k:Nat)+b.q,vq b.T (chX (2^k:Nat) a.T++[((k:Int),a.s,.none),(3+(k:Int),a.s,some (a.t+a.s*(2^k:Nat)))])⟩
noncomputable def zD(o:bw)(h:Bool→Bool):To:=iV o.c (vC (h false)) (vC (h true))
noncomputable def zE(o:bw)(g:Bool→Bool→Bool):To:=iV o.b (zD o (g false)) (zD o (g true))
noncomputable def qC(o:bw)(f:Bool→Bool→Bool→Bool):To:=iV o.a (zE o (f false)) (zE o (f true))
theorem cY{P:bw→Prop}{o:bw}(h:o.ok)(h1:P ⟨0,1,2⟩)(h2:P ⟨0,2,1⟩)(h3:P ⟨1,0,2⟩)(h4:P ⟨1,2,0⟩)(h5:P ⟨2,0,1⟩)(h6:P ⟨2,1,0⟩):P o:=by
 obtain⟨a,b,c⟩:=o
 simp only [bw.ok,List.mem_cons,List.not_mem_nil,or_false,Prod.mk.injEq] at h
 rcases h with⟨rfl,rfl,rfl⟩|⟨rfl,rfl,rfl⟩|⟨rfl,rfl,rfl⟩|⟨rfl,rfl,rfl⟩|⟨rfl,rfl,rfl⟩|⟨rfl,rfl,rfl⟩<;>assumption
theorem st_2{o:bw}(ho:o.ok)(x y:Bool):oG o.c (vC x) (vC y)=some (iV o.c (vC x) (vC y)):=
 cY (P:=fun o=>oG o.c (vC x) (vC y)=some (iV o.c (vC x) (vC y))) ho (by kernel_rfl) (by kernel_rfl) (by kernel_rfl) (by kernel_rfl) (by kernel_rfl) (by kernel_rfl)
theorem st_1{o:bw}(ho:o.ok)(f g:Bool→Bool):oG o.b (zD o f) (zD o g)=some (iV o.b (zD o f) (zD o g)):=
 cY (P:=fun o=>oG o.b (zD o f) (zD o g)=some (iV o.b (zD o f) (zD o g))) ho (by kernel_rfl) (by kernel_rfl) (by kernel_rfl) (by kernel_rfl) (by kernel_rfl) (by kernel_rfl)
theorem st_0{o:bw}(ho:o.ok)(f g:Bool→Bool→Bool):oG o.a (zE o f) (zE o g)=some (iV o.a (zE o f) (zE o g)):=
 cY (P:=fun o=>oG o.a (zE o f) (zE o g)=some (iV o.a (zE o f) (zE o g))) ho (by kernel_rfl) (by kernel_rfl) (by kernel_rfl) (by kernel_rfl) (by kernel_rfl) (by kernel_rfl)
theorem dbl{o:bw}(ho:o.ok)(f:Bool→Bool→Bool→Bool):nN (qC o f).T (qC o f).T=some (vq (qC o f).T (qC o f).T):=
 cY (P:=fun o=>nN (qC o f).T (qC o f).T=some (vq (qC o f).T (qC o f).T)) ho (by kernel_rfl) (by kernel_rfl) (by kernel_rfl) (by kernel_rfl) (by kernel_rfl) (by kernel_rfl)
noncomputable def vU(o:bw)(h:Bool→Bool):Bool:=gQ o.c (vC (h true))
noncomputable def rZ(o:bw)(g:Bool→Bool→Bool):Bool:=gQ o.b (zD o (g true))&&(vU o (g false)&&vU o (g true))
noncomputable def zZ(o:bw)(f:Bool→Bool→Bool→Bool):Bool:=gQ o.a (zE o (f true))&&(rZ o (f false)&&rZ o (f true))
section
variable{K:bx}{iN iS:Nat}{T:List Tr}{o:bw}{m:Nat}
theorem zN(ho:o.ok){h:Bool→Bool}(hx:dr T (kt h))(e:vU o h=true):qS K iN iS T o (m+3) 2 (kt h) (zD o h):=by
 have pe:aF 2 (kt h)=(.leaf (h false),.leaf (h true)):=dL (show 2<3 by decide)
 exact mh hx (by decide) (by rw[pe];exact qW) (by rw[pe];exact qW) e (st_2 ho _ _)
theorem zO(ho:o.ok)(w:BU T){g:Bool→Bool→Bool}(hx:dr T (kr g))(e:rZ o g=true):qS K iN iS T o (m+4) 1 (kr g) (zE o g):=by
 obtain⟨e0,e1⟩:=Bool.and_eq_true_iff.mp e
 obtain⟨e1,e2⟩:=Bool.and_eq_true_iff.mp e1
 have pe:aF 1 (kr g)=(kt (g false),kt (g true)):=dL (iD (g false)).2
 have p:=fB w hx (gF g).2 (by decide)
 rw[pe] at p
 exact mh hx (by decide) (by rw[pe];exact zN ho p.2.1 e2) (by rw[pe];exact zN ho p.1 e1) e0 (st_1 ho _ _)
theorem Ek(ho:o.ok)(w:BU T){f:Bool→Bool→Bool→Bool}(hx:dr T (qd f))(e:zZ o f=true):qS K iN iS T o (m+5) 0 (qd f) (qC o f):=by
 obtain⟨e0,e1⟩:=Bool.and_eq_true_iff.mp e
 obtain⟨e1,e2⟩:=Bool.and_eq_true_iff.mp e1
 have pe:aF 0 (qd f)=(kr (f false),kr (f true)):=dL (gF (f false)).2
 have p:=fB w hx (Nat.zero_le _) (by decide)
 rw[pe] at p
 exact mh hx (by decide) (by rw[pe];exact zO ho w p.2.1 e2) (by rw[pe];exact zO ho w p.1 e1) e0 (st_0 ho _ _)
end
end Mine.P
end
section
namespace Mine.P
noncomputable def bw.l(o:bw):List Nat:=[o.a,o.b,o.c]
noncomputable def bc(k:Nat):V:= .int k
noncomputable def sB(l:List Nat)(m:Nat):Bool:=((l.filter fun k=>bz m k).map bc).isEmpty
noncomputable def wn(o:bw)(p:Nat):List Nat:=(List.range 8).filter (sB (o.l.drop p))
noncomputable def tN(o:bw)(p:Nat):List Nat:=(List.range 8).filter (sB (o.l.take (p+1)))
noncomputable abbrev RR:=List Nat×List Nat
noncomputable def bV(l:List Nat):V:= .lst (l.map bc)
noncomputable def rV(r:RR):V:= .lst [bV r.1,bV r.2]
noncomputable def dz(bits:Nat)(o:bw)(p:Nat):List RR:=(wn o p).map fun fr=>((tN o p).map fun t=>bits/2^(fr|||0|||t) %2,(tN o p).map fun t=>bits/2^(fr|||2^o.at p|||t) %2)
noncomputable def enR(R:List RR):List (Nat×RR):=R.zipIdx.map fun q=>(q.2,q.1)
noncomputable def pW(R:List RR)(q:Nat×RR):Option Bool:=match cT 8 (bV q.2.1) (bV q.2.2),wk (fun y=>cT 7 y (rV q.2)) ((R.take q.1).map rV) with
 |some a,some b=>some (!a&&!b)
 |_,_=> .none
noncomputable def okR(R:List RR):Bool:=R.length<900&&(enR R).all fun q=>(pW R q).isSome&&decide (q.1≤R.length)
noncomputable def wx(R:List RR):Nat:=((enR R).filter fun q=>pW R q==some true).length
theorem yq{σ:ah}{m k:Nat}:nh σ (.int ((m/2^k %2:Nat):Int))=some (bz m k):=by
 show some (((m/2^k %2:Nat):Int) !=0)=some (m/2^k %2==1)
 rcases Nat.mod_two_eq_zero_or_one (m/2^k) with e|e<;>rw[e]<;>rfl
theorem xH{σ:ah}{l:List Nat}:(l.map bc).map (deref1 σ)=l.map bc:=by rw[List.map_map];rfl
theorem Dg{n:Nat}: ∀{l:List V},cT (n+1) (.lst l) (.lst [])=some l.isEmpty
 |[]=>rfl
 |_::_=>rfl
theorem DR{C:Ctx}{call:aw}{ρ:Env}{σ:ah}{m:String}{l:List Nat}(h:aM ρ m=some (.lst (l.map bc))):qu C call (.var m) ρ σ= .ok (l.map bc,σ):=nE h
section
variable{call:aw}{ρ:Env}{σ:ah}{o:bw}{p bits:Nat}
theorem Aj{sl:E}{l:List Nat}{m:Nat}(h:qu prog.toCtx call sl ρ σ= .ok (l.map bc,σ))(hm:aM ρ "mask" =some (bc m)):
  eR prog.toCtx call (.cmp .eq (.lcomp (.var "k") (.name "k") sl (.bin .and (.bin .shr (.var "mask") (.var "k")) (.cst (.int 1)))) (.lst [])) ρ σ= .ok (sB l m,σ):=by
 refine aX (nS (l:=l) (g:=bc) (e:=bc) (c:=fun k=>bz m k) (b:=fun k=>[("k",bc k)]) h (fun _ _=>rfl) (fun k _=>zS rfl (aC (aC (af hm) (af rfl) gd) aj gM) yq) fun k _ _=>af rfl) (jZ aq) ?_
 show cT 8 (V.lst (List.map (deref1 σ) _)) (.lst [])=_
 rw[xH];exact Dg
theorem i_8:qu prog.toCtx call (.range (.cst (.int 8))) ρ σ= .ok ((List.range 8).map bc,σ):=rfl
noncomputable def frE(sl:E):E:= .lcomp (.var "mask") (.name "mask") (.range (.cst (.int 8))) (.cmp .eq (.lcomp (.var "k") (.name "k") sl (.bin .and (.bin .shr (.var "mask") (.var "k")) (.cst (.int 1)))) (.lst []))
theorem xq{sl:E}{l:List Nat}(h: ∀m:Nat,qu prog.toCtx call sl (("mask",bc m)::ρ) σ= .ok (l.map bc,σ)):bp prog.toCtx call (frE sl) ρ σ= .ok (.lst (((List.range 8).filter (sB l)).map bc),σ):=
 nS (b:=fun m:Nat=>[("mask",bc m)]) i_8 (fun _ _=>rfl) (fun m _=>Aj (ρ:=("mask",bc m)::ρ) (h m) rfl) fun m _ _=>af rfl
noncomputable def reE:E:= .lcomp (.lcomp (.lcomp (.bin .and (.bin .shr (.var "bits") (.bin .or (.bin .or (.var "front") (.var "on")) (.var "tail"))) (.cst (.int 1))) (.name "tail") (.var "tails") .no) (.name "on") (.tup [.cst (.int 0),.bin .shl (.cst (.int 1)) (.sub (.var "order") (.var "place"))]) .no) (.name "front") (.var "fronts") .no
theorem CC(hs:o.at p≤1000)(hp:p<3)(h1:aM ρ "order" =some (dT o))(h2:aM ρ "place" =some (.int p))(h3:aM ρ "bits" =some (.int bits))(h4:aM ρ "fronts" =some (.lst ((wn o p).map bc)))(h5:aM ρ "tails" =some (.lst ((tN o p).map bc))):
  bp prog.toCtx call reE ρ σ= .ok (.lst ((dz bits o p).map rV),σ):=by
 rw[dz,List.map_map]
 refine fb (l:=wn o p) (b:=fun m:Nat=>[("front",bc m)]) (DR h4) (fun _ _=>rfl) fun fr _=>?_
 refine fb (l:=[0,2^o.at p]) (g:=bc) (e:=fun on:Nat=>bV ((tN o p).map fun t=>bits/2^(fr|||on|||t) %2)) (b:=fun m:Nat=>[("on",bc m)]) (xZ rfl (bF (aa aj (au (aC aj (aN (af h1) (af h2) (rX hp)) (kR hs))))) rfl) (fun _ _=>rfl) fun on _=>?_
 rw[bV,List.map_map]
 exact fb (l:=tN o p) (b:=fun m:Nat=>[("tail",bc m)]) (DR h5) (fun _ _=>rfl) fun t _=>aC (aC (af h3) (aC (aC (af rfl) (af rfl) v7) (af rfl) v7) gd) aj gM
noncomputable def cndE:E:= .band (.cmp .ne (.sub (.var "rest") (.cst (.int 0))) (.sub (.var "rest") (.cst (.int 1)))) (.cmp .notIn (.var "rest") (.slice (.var "rests") .no (.var "k")))
theorem Ap{R:List RR}{q:Nat×RR}(h:aM ρ "rests" =some (.lst (R.map rV)))(hR:R.length<900)(hk:q.1≤R.length)(hc:(pW R q).isSome=true):eR prog.toCtx call cndE (("rest",rV q.2)::("k",bc q.1)::ρ) σ= .ok (pW R q==some true,σ):=by
 have s0:bp prog.toCtx call (.sub (.var "rest") (.cst (.int 0))) (("rest",rV q.2)::("k",bc q.1)::ρ) σ= .ok (bV q.2.1,σ):=aN (af rfl) aj rfl
 have s1:bp prog.toCtx call (.sub (.var "rest") (.cst (.int 1))) (("rest",rV q.2)::("k",bc q.1)::ρ) σ= .ok (bV q.2.2,σ):=aN (af rfl) aj rfl
 have s2:cR σ (.lst (R.map rV)) .none (bc q.1)=some (.lst ((R.take q.1).map rV)):=by
  rw[bc,cK (xs:=R.map rV) rfl rfl (cn (Nat.lt_of_le_of_lt hk (Nat.lt_trans hR (by decide)))),mq (by rw[List.length_map];exact hk),List.map_take]
 have d: ∀l:List Nat,deref σ (bV l)=bV l:=fun l=>congrArg V.lst xH
 have ne:dn σ .ne (bV q.2.1) (bV q.2.2)=(cT 8 (bV q.2.1) (bV q.2.2)).bind (fun b=>some (!b)):=by
  show(cT 8 (deref σ (bV q.2.1)) (deref σ (bV q.2.2))).bind (fun b=>some (!b))=_
  rw[d,d]
 have ni:dn σ .notIn (rV q.2) (.lst ((R.take q.1).map rV))=(wk (fun y=>cT 7 y (rV q.2)) ((R.take q.1).map rV)).bind (fun b=>some (!b)):=rfl
 have i2:=cw (C:=prog.toCtx) (call:=call) (af (ρ:=("rest",rV q.2)::("k",bc q.1)::ρ) (σ:=σ) (m:= "rests") h) lJ (af (m:= "k") rfl) s2
 rw[pW] at hc⊢
 cases e1:cT 8 (bV q.2.1) (bV q.2.2) with
 |none=>rw[e1] at hc;cases hc
 |some x=>
  cases e2:wk (fun y=>cT 7 y (rV q.2)) ((R.take q.1).map rV) with
  |none=>rw[e1,e2] at hc;cases hc
  |some y=>
   rw[e1] at ne
   rw[e2] at ni
   cases x with
   |true=>exact nW (aX s0 s1 ne)
   |false=>
    have c:=aX (C:=prog.toCtx) (call:=call) (af (ρ:=("rest",rV q.2)::("k",bc q.1)::ρ) (σ:=σ) (m:= "rest") rfl) i2 ni
    cases y
    ·exact mj (aX s0 s1 ne) c
    ·exact mj (aX s0 s1 ne) c
theorem yd: ∀(R:List RR) (n:Nat),((R.map rV).zipIdx n).map (fun p=>V.tup [.int p.2,p.1])=((R.zipIdx n).map fun q=>(q.2,q.1)).map fun q=> .tup [bc q.1,rV q.2]
 |[],_=>rfl
 |r::R,n=>congrArg (V.tup [bc n,rV r]:: ·) (yd R (n+1))
theorem yX{n:Nat}(hs:o.at p≤1000)(hp:p<3)(hR:okR (dz bits o p)=true):ak prog (n+1) (.fn "_law_rests") [.int bits,dT o,.int p] .none σ= .ok (.int (wx (dz bits o p):Nat),σ):=by
 have s1:cR σ (dT o) (.int p) .none=some (.tup ((o.l.drop p).map bc)):=match p,hp with
  |0,_=>rfl
  |1,_=>rfl
  |2,_=>rfl
 have s2:cR σ (dT o) .none (.int ((p:Int)+1))=some (.tup ((o.l.take (p+1)).map bc)):=match p,hp with
  |0,_=>rfl
  |1,_=>rfl
  |2,_=>rfl
 have fr:=fun(call:aw) (t:Env)=>xq (call:=call) (σ:=σ) (ρ:=("bits",.int bits)::("order",dT o)::("place",.int p)::t) (sl:= .slice (.var "order") (.var "place") .no) (l:=o.l.drop p) fun m=>xZ rfl (cw (af rfl) (af rfl) lJ s1) rfl
 have ta:=fun(call:aw) (t:Env)=>xq (call:=call) (σ:=σ) (ρ:=("bits",.int bits)::("order",dT o)::("place",.int p)::t) (sl:= .slice (.var "order") .no (.bin .add (.var "place") (.cst (.int 1)))) (l:=o.l.take (p+1)) fun m=>xZ rfl (cw (af rfl) lJ (aC (af rfl) aj rfl) s2) rfl
 rw[okR,Bool.and_eq_true] at hR
 refine fW (ρ:=[("bits",.int bits),("order",dT o),("place",.int p)]) (fn:={params:=["bits", "order", "place"],dflt:=[.none,.none,.none],key:=false,body:=gG}) rfl rfl rfl (bD (fr _ []) (bD (ta _ [("fronts",_)]) (bD (CC (o:=o) (p:=p) (bits:=bits) hs hp rfl rfl rfl rfl rfl) (dD (jo (au (nS (l:=enR (dz bits o p)) (c:=fun q=>pW (dz bits o p) q==some true) (e:=fun q=>bc q.1) (g:=fun q=> .tup [bc q.1,rV q.2]) (b:=fun q=>[("k",bc q.1),("rest",rV q.2)]) (wl (x:= .lst ((dz bits o p).map rV)) (af rfl) (congrArg some (yd _ 0))) (fun _ _=>rfl) (fun q hq=>?_) fun q _ _=>af rfl)) ?_)))))
 ·have h:=List.all_eq_true.mp hR.2 q hq
  rw[Bool.and_eq_true] at h
  exact Ap (q:=q) rfl (of_decide_eq_true hR.1) (of_decide_eq_true h.2) h.1
 ·exact congrArg (fun k:Nat=>some (V.int k)) (List.length_map ..)
end
end Mine.P
end
section
namespace Mine.P
structure BP(x:Int)(xs:List Int)(c:Nat):Prop where
 le:c≤xs.length
 lt: ∀i y,xs[i]? =some y→(y<x↔i<c)
 at_:xs[c]? =some x↔x∈xs
 put:x∉xs→(xs.take c++x::xs.drop c).Pairwise (· < ·)
theorem yk(x:Int): ∀{xs:List Int},xs.Pairwise (· < ·)→ ∃c,BP x xs c
 |[],_=>⟨0,Nat.le_refl _,(fun i y e=>nomatch e),⟨(fun e=>nomatch e),(fun e=>nomatch e)⟩,fun _=>List.pairwise_singleton ..⟩
 |q::xs,h=>by
  have hq:=(List.pairwise_cons.mp h).1
  by_cases hlt:q<x
  ·obtain⟨c,C⟩:=yk x (List.pairwise_cons.mp h).2
   refine⟨c+1,Nat.succ_le_succ C.le,fun i y e=>?_,C.at_.trans ⟨List.mem_cons_of_mem _,fun e=>(List.mem_cons.mp e).resolve_left fun e=>Int.lt_irrefl _ (e▸hlt)⟩,fun hn=>?_⟩
   ·cases i with
    |zero=>exact⟨fun _=>Nat.succ_pos _,fun _=>Option.some.inj e▸hlt⟩
    |succ i=>exact(C.lt i y e).trans ⟨Nat.succ_lt_succ,Nat.lt_of_succ_lt_succ⟩
   ·refine List.pairwise_cons.mpr ⟨fun y hm=>?_,C.put fun e=>hn (List.mem_cons_of_mem _ e)⟩
    rcases List.mem_append.mp hm with hm|hm
    ·exact hq y (List.mem_of_mem_take hm)
    ·rcases List.mem_cons.mp hm with rfl|hm
     ·exact hlt
     ·exact hq y (List.mem_of_mem_drop hm)
  ·have ge: ∀y∈q::xs,¬y<x:=fun y hm=>by
    rcases List.mem_cons.mp hm with rfl|hm
    ·exact hlt
    ·exact fun e=>hlt (Int.lt_trans (hq y hm) e)
   refine⟨0,Nat.zero_le _,fun i y e=>⟨fun e'=>absurd e' (ge y (List.mem_of_getElem? e)),fun e'=>absurd e' (Nat.not_lt_zero _)⟩,⟨fun e=>Option.some.inj e▸List.mem_cons_self ..,fun e=>?_⟩,fun hn=>List.pairwise_cons.mpr ⟨fun y hm=>Int.lt_iff_le_and_ne.mpr ⟨Int.not_lt.mp (ge y hm),fun e=>hn (e▸hm)⟩,h⟩⟩
   rcases List.mem_cons.mp e with e|e
   ·exact congrArg some e.symm
   ·exact absurd (hq x e) hlt
section
variable{n i c:Nat}{x:Int}{xs:List Int}{σ:ah}
theorem t9(h:σ[i]? =some (.list (xs.map V.int)))(hl:xs.length<64)(hn:64≤n)(C:BP x xs c){args:List V}(hb:fe ["a", "x", "lo", "hi"] [.none,.none,some (.int 0),some .none] args=some [("a",.ref i),("x",.int x),("lo",.int (0:Nat)),("hi",.none)]):
  ak prog (n+1) (.fn "bisect_left") args .none σ= .ok (.int (c:Nat),σ):=
 xt hb (gf h) (.inr ⟨rfl,(List.length_map ..).symm⟩) (Nat.zero_le _) C.le (Nat.lt_of_lt_of_le hl hn) (.inl ⟨rfl,rfl⟩) fun lo' hi' mid _ g=>by
  have e:xs[mid]? =some xs[mid]:=List.getElem?_eq_getElem g
  exact aX (aN (af rfl) (af rfl) (jy h (v:= .int xs[mid]) (by rw[List.getElem?_map,e];rfl) (by rw[List.length_map];exact Nat.lt_trans hl (by decide)))) (af rfl) (congrArg some (Bool.eq_iff_iff.mpr (by rw[decide_eq_true_iff,decide_eq_true_iff];exact C.lt mid _ e)))
theorem Ao(h:σ[i]? =some (.list (xs.map V.int)))(hl:xs.length<64)(hn:64≤n)(C:BP x xs c):
  ak prog (n+2) (.fn "insort_left") [.ref i,.int x] .none σ= .ok (.none,σ.set i (.list ((xs.take c++x::xs.drop c).map V.int))):=by
 rw[List.map_append,List.map_cons,List.map_take,List.map_drop]
 exact j9 (lo:=0) (hiV:= .none) (y:= .int x) h (by rw[List.length_map];exact C.le) (by rw[List.length_map];exact Nat.lt_trans hl (by decide)) rfl (.inl ⟨rfl,rfl⟩) (t9 h hl hn C rfl)
theorem yL(h:σ[i]? =some (.list (xs.map V.int)))(hl:xs.length<64)(hc:c≤xs.length):cR σ (.ref i) (.int (c:Nat)) (.int ((c:Int)+1))=some (.lst ((xs[c]?).toList.map V.int)):=by
 have e:dG σ (.ref i)=some (xs.map V.int):=by
  exact d9 h
 refine(cK (h:=some ((c+1:Nat):Int)) e (cn (by omega)) (cn (a:=c+1) (by omega))).trans ?_
 refine congrArg (fun l=>some (V.lst l)) ?_
 rcases Nat.lt_or_ge c xs.length with hh|hh
 ·rw[oJ (by rw[List.length_map];exact hc) (by rw[List.length_map];exact hh),Nat.add_sub_cancel_left,List.getElem?_eq_getElem hh,←List.map_drop,←List.map_take,List.drop_eq_getElem_cons hh];rfl
 ·rw[List.getElem?_eq_none hh]
  show((xs.map V.int).drop (cO c (xs.map V.int).length)).take _=[]
  rw[hY (by rw[List.length_map];exact hc),List.drop_eq_nil_of_le (by rw[List.length_map];exact hh),List.take_nil]
theorem EX{o:Option Int}:dn σ .ne (.lst (o.toList.map V.int)) (.lst [.int x])=some (!decide (o=some x)):=by
 cases o with
 |none=>rfl
 |some y=>
  rw[show decide (some y=some x)=(y==x) by rw[Bool.eq_iff_iff,decide_eq_true_iff,beq_iff_eq,Option.some.injEq]]
  show some (!((y==x)&&true))=_
  rw[Bool.and_true]
theorem sn{j:Nat}{l:List V}{v:V}(h:σ[j]? =some (.list (l++[v]))):ke σ "pop" (.ref j) []=some (v,σ.set j (.list l)):=by
 show(qJ σ j).bind _=_
 refine cG (d9 h) (cG List.getLast?_concat ?_)
 rw[List.dropLast_concat]
end
noncomputable def dfs:Nat→List Tr→List Tr→Option (List Tr)
 |_,S,[]=>some S
 |0,_,_::_=>none
 |n+1,S,.leaf _::W=>dfs n S W
 |n+1,S,.node p a b::W=>if S.contains (.node p a b) then dfs n S W else dfs n (.node p a b::S) (b::a::W)
noncomputable def blC:E:= .band (.call "ISNONTERMINAL" [.var "one"] .no) (.cmp .ne (.slice (.var "seen") (.var "at") (.bin .add (.var "at") (.cst (.int 1)))) (.lst [.var "one"]))
noncomputable def blD:List S:=[.ex (.call "insort_left" [.var "seen",.var "one"] .no),.asg (.name "wait") (.catM (.var "wait") (.bi "list" [.slice (.sub (.sub (.var "book") (.cst (.int 0))) (.var "one")) (.cst (.int 1)) .no]))]
noncomputable def blB:List S:=[.asg (.name "one") (.meth "pop" (.var "wait") []),.asg (.name "at") (.call "bisect_left" [.var "seen",.var "one"] .no),.iff blC blD []]
structure Dn(i j:Nat)(T:List Tr)(σ0 σ:ah)(S W Z:List Tr):Prop where
 s:σ[i]? =some (.list ((Z.map (aO T)).map V.int))
 w:σ[j]? =some (.list (W.reverse.map fun t=> .int (aO T t)))
 ne:i≠j
 li:σ0.length≤i
 lj:σ0.length≤j
 kp:bZ σ0 σ
 so:(Z.map (aO T)).Pairwise (· < ·)
 pe:Z.Perm S
 nd:S.Nodup
 mem: ∀t∈S,t∈T
 has: ∀t∈W,dr T t
 len:W.length≤S.length+1
theorem bZ.set{σ0 σ:ah}{i:Nat}{m:MO}(k:bZ σ0 σ)(h:σ0.length≤i):bZ σ0 (σ.set i m):=⟨by rw[List.length_set];exact k.len,fun a ha=>by rw[List.getElem?_set_ne (Nat.ne_of_gt (Nat.lt_of_lt_of_le ha h))];exact k.get a ha⟩
section
variable{K:bx}{iN iS i j n:Nat}{T:List Tr}{σ0 σ:ah}
noncomputable def BT(K:bx)(iN iS:Nat)(v:V)(i j:Nat)(t:Env):Env:=("book",bO K iN iS)::("node",v)::("seen",.ref i)::("wait",.ref j)::t
noncomputable def FR(iT at_:V):Env:=[("one",iT),("at",at_)]
noncomputable def tl2(t:Env):Prop:=t=[]∨ ∃x y,t=FR x y
theorem Dn.sl{S W Z:List Tr}(D:Dn i j T σ0 σ S W Z):(Z.map (aO T)).length=S.length∧S.length≤T.length:=⟨by rw[List.length_map,D.pe.length_eq],oZ D.nd D.mem⟩
theorem Fu{S W Z:List Tr}{t:Tr}{c:Nat}{e:Env}{v:V}(hn:64≤n)(hT:T.length<64)(D:Dn i j T σ0 σ S (t::W) Z)(C:BP (aO T t) (Z.map (aO T)) c)(ht:tl2 e):
  Dn i j T σ0 (σ.set j (.list (W.reverse.map fun t=> .int (aO T t)))) S W Z∧(∀{o:ay (Fl×Env×ah)},bk prog.toCtx (ak prog (n+2)) (n+2) (blB.drop 2) (BT K iN iS v i j (FR (.int (aO T t)) (.int c))) (σ.set j (.list (W.reverse.map fun t=> .int (aO T t))))=o→bk prog.toCtx (ak prog (n+2)) (n+2) blB (BT K iN iS v i j e) σ=o)∧
  eR prog.toCtx (ak prog (n+2)) blC (BT K iN iS v i j (FR (.int (aO T t)) (.int c))) (σ.set j (.list (W.reverse.map fun t=> .int (aO T t))))= .ok (zG t&&!decide ((Z.map (aO T))[c]? =some (aO T t)),σ.set j (.list (W.reverse.map fun t=> .int (aO T t)))):=by
 have hw:σ[j]? =some (.list ((W.reverse.map fun t=>V.int (aO T t))++[.int (aO T t)])):=D.w.trans (by rw[List.reverse_cons,List.map_append];rfl)
 have hj:=(List.getElem?_eq_some_iff.mp hw).1
 have hx:(Z.map (aO T)).length<64:=by rw[D.sl.1];exact Nat.lt_of_le_of_lt D.sl.2 hT
 have D1:Dn i j T σ0 (σ.set j (.list (W.reverse.map fun t=> .int (aO T t)))) S W Z:=⟨by rw[List.getElem?_set_ne (Ne.symm D.ne)];exact D.s,List.getElem?_set_self hj,D.ne,D.li,D.lj,D.kp.set D.lj,D.so,D.pe,D.nd,D.mem,fun x hx=>D.has x (List.mem_cons_of_mem _ hx),Nat.le_of_succ_le D.len⟩
 have b:=t9 (n:=n+1) D1.s hx (Nat.le_succ_of_le hn) C (args:=[.ref i,.int (aO T t)]) rfl
 refine⟨D1,fun h=>?_,?_⟩
 ·have p:lh σ "pop" (.ref j)=true:=wa hw (.inr (.inr rfl))
  rcases ht with rfl|⟨_,_,rfl⟩
  ·exact bD (iC (af rfl) p aq (congrArg ay.ofOpt (sn hw))) (bD (bf (aa (af rfl) (au (af rfl))) b) h)
  ·exact bD (iC (af rfl) p aq (congrArg ay.ofOpt (sn hw))) (bD (bf (aa (af rfl) (au (af rfl))) b) h)
 ·have q:=dW (C:=prog.toCtx) (call:=ak prog (n+2)) (f:= "ISNONTERMINAL") (au (af (ρ:=BT K iN iS v i j (FR (.int (aO T t)) (.int c))) (σ:=σ.set j (.list (W.reverse.map fun t=> .int (aO T t)))) (m:= "one") rfl)) (gh (n:=n+1))
  rw[A7] at q
  cases hN:zG t with
  |false=>rw[hN] at q;exact nW q
  |true=>rw[hN] at q;exact mj q (aX (cw (af rfl) (af rfl) (aC (af rfl) aj rfl) (yL D1.s hx C.le)) (jZ (au (af rfl))) EX)
end
end Mine.P
end
section
namespace Mine.P
section
variable{C:Ctx}{call:aw}{ρ:Env}{σ σ1 σ2:ah}{a b:E}{x y:V}{xs:List V}
theorem E9(h1:bp C call a ρ σ= .ok (x,σ1))(h2:bp C call b ρ σ1= .ok (y,σ2))(h:zw σ2 x y=some xs):bp C call (.catM a b) ρ σ= .ok (.ref σ2.length,σ2++[.list xs]):=by show ay.bind _ _=_;exact cU h1 (cU h2 (bY h rfl))
theorem Dw{j:Nat}{l m:List V}(h:σ[j]? =some (.list l))(hl:l.length+m.length<1000):zw σ (.ref j) (.lst m)=some (l++m):=cG (d9 h) (if_pos (Nat.le_of_lt (Nat.lt_trans hl (by decide))))
theorem DH{m:String}{j:Nat}{l:List V}(g:aM ρ m=some (.ref j))(h:σ[j]? =some (.list l)):eR C call (.var m) ρ σ= .ok (!l.isEmpty,σ):=zS rfl (af g) (by
 show(qJ σ j).bind _=_
 exact cG (d9 h) rfl)
end
section
variable{K:bx}{iN iS i j n:Nat}{T:List Tr}{σ0 σ:ah}{v:V}
theorem Dt{S W Z:List Tr}{c p:Nat}{a b:Tr}{z:V}(B:Bk K σ0 iN iS T)(hn:64≤n)(hm:Tr.node p a b∈T)(hs:Tr.node p a b∉S)(hW:W.length≤S.length)(D:Dn i j T σ0 σ S W Z)(C:BP (aO T (.node p a b)) (Z.map (aO T)) c):
  ∃σ',bk prog.toCtx (ak prog (n+2)) (n+2) blD (BT K iN iS v i j (FR (.int (aO T (.node p a b))) z)) σ= .ok (.next,BT K iN iS v i σ.length (FR (.int (aO T (.node p a b))) z),σ')∧Dn i σ.length T σ0 σ' (.node p a b::S) (b::a::W) (Z.take c++ .node p a b::Z.drop c):=by
 have hi:=(List.getElem?_eq_some_iff.mp D.s).1
 have hx:(Z.map (aO T)).length<64:=by rw[D.sl.1];exact Nat.lt_of_le_of_lt D.sl.2 B.small
 have ez:(Z.take c++Tr.node p a b::Z.drop c).map (aO T)=(Z.map (aO T)).take c++aO T (.node p a b)::(Z.map (aO T)).drop c:=by rw[List.map_append,List.map_cons,List.map_take,List.map_drop]
 have ins:=Ao D.s hx hn C
 rw[←ez] at ins
 have w2:(σ.set i (.list (((Z.take c++Tr.node p a b::Z.drop c).map (aO T)).map V.int)))[j]? =_:=(List.getElem?_set_ne D.ne).trans D.w
 have k2:=D.kp.set D.li (m:= .list (((Z.take c++Tr.node p a b::Z.drop c).map (aO T)).map V.int))
 have row:=(B.up k2).row hm
 have ad:=Dw (m:=[.int (aO T a),.int (aO T b)]) w2 (by
  have:=D.len;have:=D.sl.2;have:=B.small
  rw[List.length_map,List.length_reverse]
  show W.length+2<1000
  omega)
 have hl:(σ.set i (.list (((Z.take c++Tr.node p a b::Z.drop c).map (aO T)).map V.int))).length=σ.length:=List.length_set ..
 have eW:(W.reverse.map fun t=>V.int (aO T t))++[.int (aO T a),.int (aO T b)]=(b::a::W).reverse.map fun t=>V.int (aO T t):=by
  rw[List.reverse_cons,List.reverse_cons,List.append_assoc,List.map_append];rfl
 rw[eW] at ad
 have g:=B.wf.good _ hm
 have st:(σ.set i (.list (((Z.take c++Tr.node p a b::Z.drop c).map (aO T)).map V.int)))[i]? =some (.list (((Z.take c++Tr.node p a b::Z.drop c).map (aO T)).map V.int)):=List.getElem?_set_self hi
 have nx:aO T (.node p a b)∉Z.map (aO T):=fun h=>by
  obtain⟨u,hu,e⟩:=List.mem_map.mp h
  have hu':=D.pe.mem_iff.mp hu
  exact hs (iw (.inr (D.mem u hu')) (.inr hm) e▸hu')
 refine⟨_,BZ (bf (aa (af rfl) (au (af rfl))) ins) (bD (v:= .ref σ.length) (by rw[←hl];exact E9 (af rfl) (jo (au (cw (aN (aN (af rfl) aj rfl) (af rfl) row) aj lJ rfl)) rfl) ad) rfl),?_⟩
 refine⟨(List.getElem?_append_left (by rw[hl];exact hi)).trans st,?_,Nat.ne_of_lt hi,D.li,D.kp.len,k2.trans (.app _ _),by rw[ez];exact C.put nx,?_,List.nodup_cons.mpr ⟨hs,D.nd⟩,fun x hx=>?_,fun x hx=>?_,Nat.succ_le_succ (Nat.succ_le_succ hW)⟩
 ·rw[←hl];exact fZ
 ·refine List.perm_middle.trans ?_
  rw[List.take_append_drop]
  exact D.pe.cons _
 ·rcases List.mem_cons.mp hx with rfl|hx
  ·exact hm
  ·exact D.mem x hx
 ·obtain⟨_,_,_,e,_,_,_,_,hA,hB⟩:=g
  cases e
  rcases List.mem_cons.mp hx with rfl|hx
  ·exact hB
  ·rcases List.mem_cons.mp hx with rfl|hx
   ·exact hA
   ·exact D.has x hx
theorem Dk{f:Nat}{S:List Tr}:dfs f S []=some S:=by cases f<;>rfl
theorem ku(B:Bk K σ0 iN iS T)(hn:64≤n): ∀(N f:Nat) {σ:ah} {S W S' Z:List Tr} {j:Nat} {e:Env},Dn i j T σ0 σ S W Z→tl2 e→dfs f S W=some S'→f<N→
  ∃σ' Z' j' e',jY (eR prog.toCtx (ak prog (n+2)) (.var "wait")) (bk prog.toCtx (ak prog (n+2)) (n+2) blB) N (BT K iN iS v i j e) σ= .ok (.next,BT K iN iS v i j' e',σ')∧Dn i j' T σ0 σ' S' [] Z'
 |0,f,_,_,_,_,_,_,_,_,_,_,h=>absurd h (Nat.not_lt_zero f)
 |N+1,f,σ,S,[],S',Z,j,e,D,_,hd,_=>by
  rw[Dk] at hd
  cases hd
  exact⟨σ,Z,j,e,AQ (DH rfl D.w),D⟩
 |N+1,0,σ,S,t::W,S',Z,j,e,D,_,hd,_=>nomatch hd
 |N+1,f+1,σ,S,t::W,S',Z,j,e,D,ht,hd,hf=>by
  refine Classical.byContradiction fun hno=>?_
  obtain⟨c,C⟩:=yk (aO T t) D.so
  obtain⟨D1,pre,ask⟩:=Fu (K:=K) (iN:=iN) (iS:=iS) (v:=v) hn B.small D C ht
  have w:=DH (C:=prog.toCtx) (call:=ak prog (n+2)) (ρ:=BT K iN iS v i j e) (m:= "wait") rfl D.w
  rw[show(!((t::W).reverse.map fun t=>V.int (aO T t)).isEmpty)=true by rw[List.reverse_cons,List.map_append];cases(W.reverse.map fun t=>V.int (aO T t))<;>rfl] at w
  have skip:(zG t&&!decide ((Z.map (aO T))[c]? =some (aO T t)))=false→dfs f S W=some S'→False:=fun h0 hd'=>by
   rw[h0] at ask
   obtain⟨σ',Z',j',e',r,D'⟩:=ku B hn N f D1 (.inr ⟨_,_,rfl⟩) hd' (Nat.lt_of_succ_lt_succ hf)
   exact hno ⟨σ',Z',j',e',xI w (pre (gN ask rfl)) r,D'⟩
  cases t with
  |leaf b=>exact skip rfl hd
  |node p a b=>
   have hm:Tr.node p a b∈T:=(D.has _ (List.mem_cons_self ..)).mem
   have inS:(Z.map (aO T))[c]? =some (aO T (.node p a b))↔Tr.node p a b∈S:=C.at_.trans (List.mem_map.trans ⟨fun⟨u,hu,e⟩=>by
    have hu':=D.pe.mem_iff.mp hu
    exact iw (.inr (D.mem u hu')) (.inr hm) e▸hu',fun h=>⟨_,D.pe.mem_iff.mpr h,rfl⟩⟩)
   have hd2:(if S.contains (.node p a b) then dfs f S W else dfs f (.node p a b::S) (b::a::W))=some S':=hd
   by_cases hs:Tr.node p a b∈S
   ·rw[if_pos (List.contains_iff_mem.mpr hs)] at hd2
    exact skip (by rw[decide_eq_true (inS.mpr hs)];rfl) hd2
   ·rw[if_neg fun q=>hs (List.contains_iff_mem.mp q)] at hd2
    rw[decide_eq_false fun q=>hs (inS.mp q)] at ask
    obtain⟨σ2,r2,D2⟩:=Dt (K:=K) (v:=v) (z:= .int c) B hn hm hs (Nat.le_of_succ_le_succ D.len) D1 C
    obtain⟨σ',Z',j',e',r,D'⟩:=ku B hn N f D2 (.inr ⟨_,_,rfl⟩) hd2 (Nat.lt_of_succ_lt_succ hf)
    exact hno ⟨σ',Z',j',e',xI w (pre (gX ask r2 rfl)) r,D'⟩
noncomputable def zv(S:List Tr)(p:Nat):Nat:=(S.filter fun t=>t.pl==p).length
theorem y4{f:Nat}{t:Tr}{S:List Tr}(B:Bk K σ iN iS T)(hn:64≤n)(ht:dr T t)(hd:dfs f [] [t]=some S)(hf:f<n):
  ∃σ',ak prog (n+3) (.fn "_law_below") [bO K iN iS,.int (aO T t)] .none σ= .ok (.lst ([0,1,2].map fun p=>bc (zv S p)),σ')∧bZ σ σ':=by
 have D0:Dn σ.length (σ++[MO.list []]).length T σ (σ++[.list []]++[.list [.int (aO T t)]]) [] [t] []:=
  ⟨(List.getElem?_append_left (by rw[List.length_append];exact Nat.lt_succ_self _)).trans fZ,fZ,by rw[List.length_append];exact Nat.ne_of_lt (Nat.lt_succ_self _),Nat.le_refl _,by rw[List.length_append];exact Nat.le_add_right ..,(bZ.app _ _).trans (.app _ _),.nil,.refl _,List.nodup_nil,(fun x hx=>nomatch hx),fun x hx=>(List.mem_singleton.mp hx)▸ht,Nat.le_refl _⟩
 obtain⟨σ1,Z,j,e,r,D⟩:=ku (K:=K) (v:= .int (aO T t)) B hn (n+2) f D0 (.inl rfl) hd (Nat.lt_add_right 2 hf)
 have k2:bZ σ (σ1.set σ.length .dead):=D.kp.set (Nat.le_refl _)
 have B2:=B.up k2
 have fz:vG prog.toCtx (ak prog (n+2)) (n+2) (.frz "seen") (BT K iN iS (.int (aO T t)) σ.length j e) σ1= .ok (.next,("book",bO K iN iS)::("node",.int (aO T t))::("seen",.lst ((Z.map (aO T)).map V.int))::("wait",.ref j)::e,σ1.set σ.length .dead):=by
  exact bY (cG D.s rfl) rfl
 refine⟨_,fW (ρ:=[("book",bO K iN iS),("node",.int (aO T t))]) (fn:={params:=["book", "node"],dflt:=[.none,.none],key:=false,body:=gI}) rfl rfl rfl (c8 (b:=[("seen",.ref σ.length),("wait",V.ref (σ++[MO.list []]).length)]) (bF (aa (sU aq) (au (sU (au (af rfl)))))) rfl (eH r (eH fz (dD ?_)))),k2⟩
 refine fb (l:=[0,1,2]) (g:=bc) (b:=fun p:Nat=>[("place",bc p)]) rfl (fun _ _=>rfl) fun p _=>?_
 refine jo (au (nS (l:=Z) (g:=fun t=> .int (aO T t)) (c:=fun t=>t.pl==p) (e:=fun t=> .int (aO T t)) (b:=fun t=>[("one",.int (aO T t))]) (xZ rfl (af rfl) (congrArg some List.map_map)) (fun _ _=>rfl) (fun x hx=>?_) fun _ _ _=>af rfl)) ?_
 ·have hm:=D.mem x (D.pe.mem_iff.mp hx)
  obtain⟨q,a,b,rfl,_⟩:=B.wf.good x hm
  refine aX (aN (aN (aN (af rfl) aj rfl) (af rfl) (B2.row hm)) aj rfl) (af rfl) (zn ?_)
  exact n9
 ·exact congrArg (fun k:Nat=>some (V.int k)) ((List.length_map ..).trans (D.pe.filter _).length_eq)
end
end Mine.P
end
section
namespace Mine.P
noncomputable def ga(a:Nat):List Nat:=(List.range 8).filter (bz a)
noncomputable def zF(a k:Nat):List Nat:=(ga a).filter fun m=>bz m k
noncomputable def sJ(l:List Nat):Int:=l.length
noncomputable def vT(l:List Nat):Int:=(l.map fun m:Nat=>(m:Int)).sum
noncomputable def sqI(l:List Nat):Int:=(l.map fun m:Nat=>(m:Int)*m).sum
noncomputable def BQ(z:Int)(a k:Nat):TV:=if k<3 then(z*sJ (zF a k),.none) else(z*sJ (zF a (k-3)),some (z*vT (zF a (k-3))))
noncomputable def tq(z:Int)(a:Nat):KQ:=[0,1,2,3,4,5].map fun k:Nat=>((k:Int),BQ z a k)
noncomputable def qD(z:Int)(a:Nat):V:=eS (eO (tq z a)) (jL (tq z a))
noncomputable def okT(z:Int)(a:Nat):Bool:=[0,1,2,3,4,5].all fun k=>tA z (sJ (zF a k))&&tA z (vT (zF a k))
theorem tO{z:Int}{a:Nat}:qD z a=bt (tq z a):=sP (by kernel_rfl)
theorem E4{n:Nat}: ∀v:TV,cT (n+2) (oy v) (oy v)=some true
 |(a,none)=>by show some (a==a)=_;rw[beq_self_eq_true]
 |(a,some b)=>by
  show some ((a==a)&&((b==b)&&true))=_
  rw[beq_self_eq_true,beq_self_eq_true];rfl
noncomputable def xC(T U:KQ):Bool:=T.length==U.length&&T.all fun p=>U.lookup p.1==some p.2
theorem yc{n:Nat}{T U:KQ}(h:xC T U=true):cT (n+3) (bt T) (bt U)=some true:=by
 obtain⟨h1,h2⟩:=Bool.and_eq_true_iff.mp h
 have e: ∀T:KQ,(T.all fun p=>U.lookup p.1==some p.2)=true→qM (cT (n+2)) ((eO U).zip (jL U)) ((eO T).zip (jL T))=some true:=fun T=>by
  induction T with
  |nil=>intro _;rfl
  |cons p r ih=>
   intro h
   obtain⟨h3,h4⟩:=Bool.and_eq_true_iff.mp h
   show(match((eO U).zip (jL U)).lookup p.1 with|none=>some false|some u=>(cT (n+2) (oy p.2) u).bind fun a=>(qM (cT (n+2)) ((eO U).zip (jL U)) ((eO r).zip (jL r))).bind fun b=>some (a&&b))=_
   rw[lu,eq_of_beq h3]
   show(cT (n+2) (oy p.2) (oy p.2)).bind _=_
   rw[E4,ih h4];rfl
 show(if(eO T).length=(eO U).length then qM (cT (n+2)) ((eO U).zip (jL U)) ((eO T).zip (jL T)) else some false)=_
 rw[if_pos (by rw[eO,eO,List.length_map,List.length_map];exact eq_of_beq h1),e T h2]
noncomputable def DZ(v:TV):TV:=(v.1+v.1,v.2.map fun b=>b+b)
noncomputable def Dm(T:KQ):KQ:=T.map fun p=>(p.1,DZ p.2)
theorem tp: ∀T:KQ,vq T T=Dm T
 |[]=>rfl
 |(k,c,none)::r=>congrArg ((k,c+c,none):: ·) (tp r)
 |(k,c,some e)::r=>congrArg ((k,c+c,some (e+e)):: ·) (tp r)
theorem uw{k:Int}: ∀U:KQ,(Dm U).lookup k=(U.lookup k).map DZ
 |[]=>rfl
 |p::U=>by
  show(match k==p.1 with|true=>some (DZ p.2)|false=>(Dm U).lookup k)=(match k==p.1 with|true=>some p.2|false=>U.lookup k).map DZ
  cases k==p.1 with
  |true=>rfl
  |false=>exact uw U
theorem Cg{T U:KQ}(h:xC T U=true):xC (Dm T) (Dm U)=true:=by
 obtain⟨h1,h2⟩:=Bool.and_eq_true_iff.mp h
 refine Bool.and_eq_true_iff.mpr ⟨beq_iff_eq.mpr (by rw[Dm,Dm,List.length_map,List.length_map];exact eq_of_beq h1),List.all_eq_true.mpr fun p hp=>?_⟩
 obtain⟨q,hq,e⟩:=List.mem_map.mp hp
 rw[←e,uw]
 exact beq_iff_eq.mpr (congrArg (Option.map DZ) (eq_of_beq (List.all_eq_true.mp h2 q hq)))
theorem Ej{a:Nat}:tq 2 a=Dm (tq 1 a):=by
 have e: ∀k,BQ 2 a k=DZ (BQ 1 a k):=fun k=>by
  by_cases h:k<3
  ·rw[BQ,BQ,if_pos h,if_pos h,DZ,Int.one_mul,Int.two_mul];rfl
  ·rw[BQ,BQ,if_neg h,if_neg h,DZ,Int.one_mul,Int.one_mul,Int.two_mul,Int.two_mul];rfl
 rw[Dm,tq,tq,List.map_map]
 exact List.map_congr_left fun k _=>congrArg (Prod.mk (k:Int)) (e k)
noncomputable def cntV(a:Nat):V:= .tup [.int (sJ (ga a)),.int 8,.int (vT (ga a)),.int (sqI (ga a)),qD 1 a]
noncomputable def Dq(a:Nat)(t:To):Bool:=t.s==sJ (ga a)&&(t.e==8&&(t.t==vT (ga a)&&(t.q==sqI (ga a)&&xC t.T (tq 1 a))))
theorem hO{f:V→V→Option Bool}{x y:V}{r q:List V}(h:f x y=some true)(k:mI f r q=some true):mI f (x::r) (y::q)=some true:=by
 show(f x y).bind _=_
 rw[h]
 show(mI f r q).bind _=_
 rw[k];rfl
theorem Cb{a:Nat}{t:To}(h:Dq a t=true):cT 8 t.v (cntV a)=some true:=by
 obtain⟨h1,h⟩:=Bool.and_eq_true_iff.mp h
 obtain⟨h2,h⟩:=Bool.and_eq_true_iff.mp h
 obtain⟨h3,h⟩:=Bool.and_eq_true_iff.mp h
 obtain⟨h4,h5⟩:=Bool.and_eq_true_iff.mp h
 have e:cT 7 (bt t.T) (qD 1 a)=some true:=by rw[tO];exact yc h5
 show mI (cT 7) [.int t.s,.int t.e,.int t.t,.int t.q,bt t.T] [.int (sJ (ga a)),.int 8,.int (vT (ga a)),.int (sqI (ga a)),qD 1 a]=_
 exact hO (congrArg some h1) (hO (congrArg some h2) (hO (congrArg some h3) (hO (congrArg some h4) (hO e (by rfl)))))
theorem Fd{a:Nat}{t:To}(h:Dq a t=true):cT 8 (bt (vq t.T t.T)) (qD 2 a)=some true:=by
 have h5:=(Bool.and_eq_true_iff.mp (Bool.and_eq_true_iff.mp (Bool.and_eq_true_iff.mp (Bool.and_eq_true_iff.mp h).2).2).2).2
 rw[tO,Ej,tp]
 exact yc (Cg h5)
noncomputable def BB:List Bool:=[false,true]
theorem bb{p:Bool→Bool}(h:BB.all p=true): ∀b,p b=true
 |false=>List.all_eq_true.mp h _ (.head _)
 |true=>List.all_eq_true.mp h _ (.tail _ (.head _))
noncomputable def Cc(o:bw)(x y:Bool):To:=iV o.c (vC x) (vC y)
noncomputable def to1B(o:bw)(x y z u:Bool):To:=iV o.b (Cc o x y) (Cc o z u)
noncomputable def smB(o:bw):Bool:=BB.all fun x=>gQ o.c (vC x)&&BB.all fun y=>gQ o.b (Cc o x y)&&BB.all fun z=>BB.all fun u=>gQ o.a (to1B o x y z u)
theorem sm_ok{o:bw}(h:o.ok):smB o=true:=cY (P:=fun o=>smB o=true) h (by kernel_rfl) (by kernel_rfl) (by kernel_rfl) (by kernel_rfl) (by kernel_rfl) (by kernel_rfl)
theorem yK{o:bw}(h:o.ok)(f:Bool→Bool→Bool→Bool):zZ o f=true:=by
 have s:=bb (sm_ok h)
 have s3: ∀x,gQ o.c (vC x)=true:=fun x=>(Bool.and_eq_true_iff.mp (s x)).1
 have s2: ∀x y,gQ o.b (Cc o x y)=true∧ ∀z u,gQ o.a (to1B o x y z u)=true:=fun x y=>(Bool.and_eq_true_iff.mp (bb (Bool.and_eq_true_iff.mp (s x)).2 y)).imp id fun q z u=>bb (bb q z) u
 have s1: ∀g:Bool→Bool→Bool,rZ o g=true:=fun g=>Bool.and_eq_true_iff.mpr ⟨(s2 _ _).1,Bool.and_eq_true_iff.mpr ⟨s3 _,s3 _⟩⟩
 exact Bool.and_eq_true_iff.mpr ⟨(s2 _ _).2 _ _,Bool.and_eq_true_iff.mpr ⟨s1 _,s1 _⟩⟩
theorem CR:(List.range 256).all (fun a=>okT 1 a&&okT 2 a)=true:=by decide+kernel
theorem Di{x y:Nat}:((x:Int)==(y:Int))=(x==y):=by
 by_cases h:x=y
 ·rw[h,beq_self_eq_true,beq_self_eq_true]
 ·rw[beq_eq_false_iff_ne.mpr h,beq_eq_false_iff_ne.mpr fun q:(x:Int)=(y:Int)=>h (Int.ofNat.inj q)]
theorem uR{n:Nat}: ∀l m:List Nat,mI (cT (n+1)) (l.map bc) (m.map bc)=some (l==m)
 |[],[]=>rfl
 |[],_::_=>rfl
 |_::_,[]=>rfl
 |x::r,y::q=>by
  show(mI (cT (n+1)) (r.map bc) (q.map bc)).bind (fun b=>some (((x:Int)==(y:Int))&&b))=some ((x==y)&&(r==q))
  rw[uR r q,Di];rfl
theorem wt{n:Nat}{l m:List Nat}:cT (n+2) (bV l) (bV m)=some (l==m):=by
 show(if(l.map bc).length=(m.map bc).length then mI (cT (n+1)) (l.map bc) (m.map bc) else some false)=_
 by_cases h:l.length=m.length
 ·rw[if_pos (by rwa[List.length_map,List.length_map])];exact uR l m
 ·rw[if_neg (by rwa[List.length_map,List.length_map])]
  exact congrArg some (beq_eq_false_iff_ne.mpr fun q=>h (congrArg _ q)).symm
theorem E5{r s:RR}:cT 7 (rV r) (rV s)=some (r==s):=by
 show(cT 6 (bV r.1) (bV s.1)).bind (fun a=>((cT 6 (bV r.2) (bV s.2)).bind fun b=>some (b&&true)).bind fun b=>some (a&&b))=some (r.1==s.1&&r.2==s.2)
 rw[wt,wt]
 show some ((r.1==s.1)&&((r.2==s.2)&&true))=_
 rw[Bool.and_true]
theorem A9{r:RR}: ∀R:List RR,wk (fun y=>cT 7 y (rV r)) (R.map rV)=some (R.any (· ==r))
 |[]=>rfl
 |x::R=>by
  show(cT 7 (rV x) (rV r)).bind (fun a=>(wk (fun y=>cT 7 y (rV r)) (R.map rV)).bind fun b=>some (a||b))=_
  rw[E5,A9 R];rfl
noncomputable def Bq(R:List RR)(q:Nat×RR):Bool:=!(q.2.1==q.2.2)&&!((R.take q.1).any (· ==q.2))
theorem ym{R:List RR}{q:Nat×RR}:pW R q=some (Bq R q):=by
 show(match cT 8 (bV q.2.1) (bV q.2.2),wk (fun y=>cT 7 y (rV q.2)) ((R.take q.1).map rV) with|some a,some b=>some (!a&&!b)|_,_=> .none)=_
 rw[wt,A9];rfl
theorem CS{R:List RR}(h:R.length<900):okR R=true:=by
 refine Bool.and_eq_true_iff.mpr ⟨decide_eq_true h,List.all_eq_true.mpr fun q hq=>Bool.and_eq_true_iff.mpr ⟨by rw[ym];rfl,decide_eq_true ?_⟩⟩
 obtain⟨x,hx,e⟩:=List.mem_map.mp hq
 rw[←e]
 exact Nat.le_of_lt (List.snd_lt_of_mem_zipIdx hx)
noncomputable def cntF(R:List RR):Nat:=((enR R).filter (Bq R)).length
theorem Fh{R:List RR}:wx R=cntF R:=congrArg List.length (List.filter_congr fun q _=>by
 rw[ym]
 cases Bq R q<;>rfl)
noncomputable def Fo(a:Nat):Tr→Bool
 | .leaf b=>a==if b then 255 else 0
 | .node .. =>decide (0<a∧a<255)
noncomputable def mi(o:bw)(a:Nat)(x y z:Bool):Bool:=bz a (ut o x y z)
noncomputable def Dr(o:bw)(a p:Nat)(S:List Tr):Bool:=zv S p==cntF (dz a o p)
noncomputable def D5(o:bw)(a:Nat):Bool:=Dq a (qC o (mi o a))&&(Fo a (aW o a)&&match dfs 16 [] [aW o a] with
 |some S=>Dr o a 0 S&&(Dr o a 1 S&&Dr o a 2 S)
 | .none=>false)
theorem chk1:(List.range 256).all (D5 ⟨0,1,2⟩)=true:=by decide+kernel
theorem chk2:(List.range 256).all (D5 ⟨0,2,1⟩)=true:=by decide+kernel
theorem chk3:(List.range 256).all (D5 ⟨1,0,2⟩)=true:=by decide+kernel
theorem chk4:(List.range 256).all (D5 ⟨1,2,0⟩)=true:=by decide+kernel
theorem chk5:(List.range 256).all (D5 ⟨2,0,1⟩)=true:=by decide+kernel
theorem chk6:(List.range 256).all (D5 ⟨2,1,0⟩)=true:=by decide+kernel
structure BJ(o:bw)(a:Nat)(S:List Tr):Prop where
 dfs:dfs 16 [] [aW o a]=some S
 told:Dq a (qC o (mi o a))=true
 leaf:Fo a (aW o a)=true
 rests: ∀p,p<3→Dr o a p S=true
theorem Cq{o:bw}{a:Nat}(h:D5 o a=true): ∃S,BJ o a S:=by
 obtain⟨h2,h⟩:=Bool.and_eq_true_iff.mp h
 obtain⟨h3,h⟩:=Bool.and_eq_true_iff.mp h
 cases e:dfs 16 [] [aW o a] with
 |none=>rw[e] at h;cases h
 |some S=>
  rw[e] at h
  obtain⟨b0,h⟩:=Bool.and_eq_true_iff.mp h
  obtain⟨b1,b2⟩:=Bool.and_eq_true_iff.mp h
  exact⟨S,e,h2,h3,fun p hp=>match p,hp with
   |0,_=>b0
   |1,_=>b1
   |2,_=>b2⟩
theorem seen{o:bw}(ho:o.ok){a:Nat}(ha:a<256): ∃S,BJ o a S:=by
 have m:=List.mem_range.mpr ha
 exact Cq (cY (P:=fun o=>D5 o a=true) ho (List.all_eq_true.mp chk1 _ m) (List.all_eq_true.mp chk2 _ m) (List.all_eq_true.mp chk3 _ m) (List.all_eq_true.mp chk4 _ m) (List.all_eq_true.mp chk5 _ m) (List.all_eq_true.mp chk6 _ m))
end Mine.P
end
section
namespace Mine.P
noncomputable def zk(o:bw)(k:Nat):Nat:=if o.a=k then 0 else if o.b=k then 1 else 2
theorem zR: ∀o∈[(0,1,2),(0,2,1),(1,0,2),(1,2,0),(2,0,1),(2,1,0)],∀k<3,aW ⟨o.1,o.2.1,o.2.2⟩ (eN k)=mk (zk ⟨o.1,o.2.1,o.2.2⟩ k) (.leaf false) (.leaf true)∧zk ⟨o.1,o.2.1,o.2.2⟩ k<3:=by decide+kernel
theorem Ce{o:bw}(h:o.ok){k:Nat}(hk:k<3):aW o (eN k)=mk (zk o k) (.leaf false) (.leaf true)∧zk o k<3:=zR _ h k hk
theorem zj: ∀o∈[(0,1,2),(0,2,1),(1,0,2),(1,2,0),(2,0,1),(2,1,0)],∀k:Nat,k<3→([((o.1:Nat):Int),(o.2.1:Nat),(o.2.2:Nat)].findIdx? (· ==(k:Int)))=some (zk ⟨o.1,o.2.1,o.2.2⟩ k):=by decide+kernel
theorem zi{o:bw}(h:o.ok){k:Nat}(hk:k<3){σ:ah}:ke σ "index" (dT o) [.int (k:Int)]=some (.int (zk o k),σ):=by
 show([((o.a:Nat):Int),(o.b:Nat),(o.c:Nat)].findIdx? (· ==(k:Int))).bind _=_
 exact cG (zj _ h k hk) rfl
noncomputable def sgE:E:= .ite (.inGlob (.var "sign")) (.subGlob (.var "sign")) (.bin .sub (.bin .add (.gint "NT_OFFSET" 256) (.bi "ord" [.var "sign"])) (.cst (.int 97)))
noncomputable def symE:E:= .lcomp sgE (.name "sign") (.meth "split" (.var "text") [.cst (.str [32])]) .no
section
variable{call:aw}{ρ:Env}{σ:ah}
theorem CB{w:List Nat}(hw:tv w):bp prog.toCtx call sgE (("sign",.str w)::ρ) σ= .ok (.int (oE w),σ):=by
 have hc:eR prog.toCtx call (.inGlob (.var "sign")) (("sign",.str w)::ρ) σ= .ok ((wq.lookup w).isSome,σ):=rfl
 refine nH hc (fun h=>?_) fun h=>?_
 ·obtain⟨i,e⟩:=Option.isSome_iff_exists.mp h
  have e':prog.ext.lookup w=some i:=e
  show(ay.ofOpt (prog.ext.lookup w)).bind _=ay.ok (V.int (match wq.lookup w with|some i=>i|none=>_),σ)
  rw[e,e']
  rfl
 ·rcases hw with q|⟨k,hk,rfl⟩
  ·rw[h] at q;cases q
  ·show _=ay.ok (V.int (match wq.lookup [97+k] with|some i=>i|none=>_),σ)
   have e:wq.lookup [97+k]=none:=Option.isSome_eq_false_iff.mp h|>Option.isNone_iff_eq_none.mp
   rw[e]
   rfl
theorem E0{text:List Nat}{syms:List Int}{bits cost:Nat}(h:aM ρ "text" =some (.str text))(f:Fm text syms bits cost)(hl:text.length≤100)(hb:text.contains 32=true):qu prog.toCtx call symE ρ σ= .ok (syms.map V.int,σ):=by
 obtain⟨w1,w2⟩:=f.words
 refine xZ rfl (fb (l:=bv text []) (g:= .str) (e:=fun w=> .int (oE w)) (b:=fun w=>[("sign",.str w)]) (xZ rfl (iC (af h) rfl (au aj) (congrArg ay.ofOpt (show(if([32]:List Nat)=[32]∧text.length<cP∧text.contains 32=true then some (V.lst ((bv text []).map .str),σ) else none)=_ from if_pos ⟨rfl,Nat.lt_of_le_of_lt hl (by decide),hb⟩))) rfl) (fun _ _=>rfl) fun w hw=>CB (w2 w hw)) ?_
 rw[←w1,List.map_map];rfl
end
noncomputable def Au:V:=eS (gc.map fun s=>(s.2.1:Int)) (gc.map fun s=>V.int s.2.2)
section
variable{C:Ctx}{call:aw}{n j:Nat}{ρ:Env}{σ σ1:ah}{m:String}{P:List Int}{a b x:Int}
theorem vY{e:E}{l:List V}(g:aM ρ m=some (.ref j))(h0:σ[j]? =some (.list l))(he:bp C call e ρ σ= .ok (.int x,σ1))(h:σ1[j]? =some (.list (P.map V.int)))(hl:P.length<1000):vG C call n (.ex (.meth "append" (.var m) [e])) ρ σ= .ok (.next,ρ,σ1.set j (.list ((P++[x]).map V.int))):=by
 show ay.bind _ _=_
 refine cU (iC (af g) (xG h0 (.inl rfl)) (au he) (congrArg ay.ofOpt (?_:_=some (V.none,σ1.set j (.list ((P++[x]).map V.int)))))) rfl
 rw[List.map_append]
 exact yr h (by rw[List.length_map];exact hl)
theorem ye(g:aM ρ m=some (.ref j))(h:σ[j]? =some (.list ((P++[a]).map V.int))):bp C call (.meth "pop" (.var m) []) ρ σ= .ok (.int a,σ.set j (.list (P.map V.int))):=by
 rw[List.map_append] at h
 exact iC (af g) (xG h (.inr (.inr rfl))) aq (congrArg ay.ofOpt (sn h))
theorem E7(g:aM ρ m=some (.ref j))(h:σ[j]? =some (.list ((P++[a,b]).map V.int))):bp C call (.meth "pop" (.var m) [.neg (.cst (.int 2))]) ρ σ= .ok (.int a,σ.set j (.list ((P++[b]).map V.int))):=by
 have hi:idxOf (-2) ((P++[a,b]).map V.int).length=some P.length:=by
  rw[List.length_map,List.length_append]
  refine(if_neg (by decide)).trans ((if_pos (by show-((P.length+2:Nat):Int)≤ -2;omega)).trans (congrArg some ?_))
  show((-2:Int)+((P.length+2:Nat):Int)).toNat=_
  omega
 have hg:((P++[a,b]).map V.int)[P.length]? =some (.int a):=by rw[List.getElem?_map,List.getElem?_append_right (Nat.le_refl _),Nat.sub_self];rfl
 have he:((P++[a,b]).map V.int).eraseIdx P.length=(P++[b]).map V.int:=by
  rw[List.map_append,List.map_append,List.eraseIdx_append_of_length_le (Nat.le_of_eq (List.length_map _)),List.length_map,Nat.sub_self];rfl
 refine iC (af g) (xG h (.inr (.inr rfl))) (au (pL aj)) (congrArg ay.ofOpt (?_:_=some (V.int a,σ.set j (.list ((P++[b]).map V.int)))))
 show(qJ σ j).bind _=_
 refine cG (d9 h) ((if_pos (by decide)).trans (cG hi (cG hg ?_)))
 rw[he]
theorem CK{s:List Nat×Nat×Nat}(h:s∈gc):dE σ Au (.int (s.2.1:Int))=some (.int (s.2.2:Int)):=by
 simp only [gc,List.mem_cons,List.not_mem_nil,or_false] at h
 rcases h with rfl|rfl|rfl|rfl|rfl|rfl|rfl|rfl|rfl<;>rfl
theorem mC{b:V→Env→ah→ay (Fl×Env×ah)}{o:ay (Fl×Env×ah)}{m:List V}{ρ':Env}{σ':ah}(hm:c9 b m ρ' σ'=o): ∀{l:List V} {ρ:Env} {σ:ah},c9 b l ρ σ= .ok (.next,ρ',σ')→c9 b (l++m) ρ σ=o
 |[],ρ,σ,h=>by cases h;exact hm
 |v::l,ρ,σ,h=>by
  have h':(b v ρ σ).calm.bind (fun q=>match q.1 with| .next=>c9 b l q.2.1 q.2.2| .ret w=> .ok (.ret w,q.2.1,q.2.2))=_:=h
  show(b v ρ σ).calm.bind (fun q=>match q.1 with| .next=>c9 b (l++m) q.2.1 q.2.2| .ret w=> .ok (.ret w,q.2.1,q.2.2))=_
  cases e:b v ρ σ with
  |exc a c=>rw[e] at h';cases h'
  |stuck=>rw[e] at h';cases h'
  |ok q=>
   obtain⟨f,ρ1,σ1⟩:=q
   rw[e] at h'
   cases f with
   |next=>exact mC hm (l:=l) h'
   |ret w=>cases h'
end
end Mine.P
end
section
namespace Mine.P
structure Cx where
 K:bx
 o:bw
 iN:Nat
 iS:Nat
 iP:Nat
 iW:Nat
 l:List Nat
structure Cx.ok(c:Cx):Prop where
 K:wH c.K
 o:c.o.ok
 n:c.iP≠c.iW
 pN:c.iP≠c.iN
 pS:c.iP≠c.iS
 wN:c.iW≠c.iN
 wS:c.iW≠c.iS
noncomputable def rE(c:Cx)(t:Env):Env:=("book",bO c.K c.iN c.iS)::("text",.str c.l)::("order",dT c.o)::("rows",Au)::("pile",.ref c.iP)::("waiting",.ref c.iW)::t
noncomputable def tS(x:Int):Env:=[("symbol",.int x)]
noncomputable def Tl(t:Env):Prop:=t=[]∨ ∃x,t=tS x
structure Rn(c:Cx)(σ:ah)(P W:List Int)(T:List Tr):Prop where
 p:σ[c.iP]? =some (.list (P.map V.int))
 w:σ[c.iW]? =some (.list (W.map V.int))
 b:Bk c.K σ c.iN c.iS T
structure dI(c:Cx)(σ σ':ah):Prop where
 len:σ.length≤σ'.length
 get: ∀i,i<σ.length→i≠c.iN→i≠c.iS→i≠c.iP→i≠c.iW→σ'[i]? =σ[i]?
section
variable{c:Cx}{σ σ' σ'':ah}{P W P' W':List Int}{T T':List Tr}{m:MO}
theorem dI.refl:dI c σ σ:=⟨Nat.le_refl _,fun _ _ _ _ _ _=>rfl⟩
theorem dI.trans(a:dI c σ σ')(b:dI c σ' σ''):dI c σ σ'':=⟨Nat.le_trans a.len b.len,fun i h p q r s=>(b.get i (Nat.lt_of_lt_of_le h a.len) p q r s).trans (a.get i h p q r s)⟩
theorem lV.to4(a:lV σ σ' c.iN c.iS):dI c σ σ':=⟨a.len,fun i h p q _ _=>a.get i h p q⟩
theorem dI.setP(a:dI c σ σ'):dI c σ (σ'.set c.iP m):=⟨by rw[List.length_set];exact a.len,fun i h p q r s=>(List.getElem?_set_ne (Ne.symm r)).trans (a.get i h p q r s)⟩
theorem dI.setW(a:dI c σ σ'):dI c σ (σ'.set c.iW m):=⟨by rw[List.length_set];exact a.len,fun i h p q r s=>(List.getElem?_set_ne (Ne.symm s)).trans (a.get i h p q r s)⟩
theorem Bk.set{K:bx}{iN iS i:Nat}(B:Bk K σ iN iS T)(h1:i≠iN)(h2:i≠iS):Bk K (σ.set i m) iN iS T:=⟨B.ne,B.wf,B.small,(List.getElem?_set_ne h1).trans B.nodes,match B.shelf with
 |⟨L,a,b⟩=>⟨L,(List.getElem?_set_ne h2).trans a,b⟩⟩
theorem Rn.setP(H:c.ok)(R:Rn c σ P W T):Rn c (σ.set c.iP (.list (P'.map V.int))) P' W T:=⟨List.getElem?_set_self (List.getElem?_eq_some_iff.mp R.p).1,(List.getElem?_set_ne H.n).trans R.w,R.b.set H.pN H.pS⟩
theorem Rn.setW(H:c.ok)(R:Rn c σ P W T):Rn c (σ.set c.iW (.list (W'.map V.int))) P W' T:=⟨(List.getElem?_set_ne (Ne.symm H.n)).trans R.p,List.getElem?_set_self (List.getElem?_eq_some_iff.mp R.w).1,R.b.set H.wN H.wS⟩
theorem Rn.book(H:c.ok)(R:Rn c σ P W T)(B:Bk c.K σ' c.iN c.iS T')(k:lV σ σ' c.iN c.iS):Rn c σ' P W T':=
 ⟨(k.get _ (List.getElem?_eq_some_iff.mp R.p).1 H.pN H.pS).trans R.p,(k.get _ (List.getElem?_eq_some_iff.mp R.w).1 H.wN H.wS).trans R.w,B⟩
end
noncomputable def jnE(r p q:E):E:= .call "_law_joined" [.var "book",r,p,q] .no
noncomputable def CO:E:= .meth "pop" (.var "pile") []
noncomputable def CN:E:= .meth "pop" (.var "waiting") []
noncomputable def ndE:E:= .call "_law_node" [.var "book",.meth "index" (.var "order") [.bin .sub (.var "symbol") (.gint "NT_OFFSET" 256)],.cst (.int 0),.cst (.int 1)] .no
noncomputable def notE:E:=jnE (.cst (.int 6)) CO (.bin .sub CN (.cst (.int 30)))
noncomputable def lasE:E:= .cmp .eq (.slice (.var "waiting") (.neg (.cst (.int 1))) .no) (.lst [.cst (.int 31)])
noncomputable def letS:List S:=[.ex (.meth "append" (.var "pile") [ndE]),.iff lasE [.ex (.meth "append" (.var "pile") [notE])] []]
noncomputable def Fk:List S:=[.ex (.meth "append" (.var "pile") [jnE (.sub (.var "rows") CN) (.meth "pop" (.var "pile") [.neg (.cst (.int 2))]) CO])]
noncomputable def rB:List S:=[.iff (.call "ISNONTERMINAL" [.var "symbol"] .no) letS [.iff (.cmp .eq (.var "symbol") (.cst (.int 8))) Fk [.iff (.cmp .ne (.var "symbol") (.cst (.int 7))) [.ex (.meth "append" (.var "waiting") [.var "symbol"])] []]]]
theorem Aq:fH= .asg (.tup [.name "rows",.name "pile",.name "waiting"]) (.tup [.dcomp (.var "number") (.var "row") (.tup [.name "sign",.name "number",.name "row"]) (.call "_law_signs" [] .no),.lstM [],.lstM []])::[.for_ (.name "symbol") symE rB,.ret (.sub (.var "pile") (.cst (.int 0)))]:=rfl
noncomputable def Fb(n:Nat):V→Env→ah→ay (Fl×Env×ah):=lF prog.toCtx (ak prog (n+10)) (n+10) (.name "symbol") rB
section
variable{c:Cx}{n:Nat}{σ:ah}{P W:List Int}{T:List Tr}{t:Env}
theorem uP{x:Int}{o:ay (Fl×Env×ah)}(ht:Tl t)(h:bk prog.toCtx (ak prog (n+10)) (n+10) rB (rE c (tS x)) σ=o):Fb n (.int x) (rE c t) σ=o:=by
 rcases ht with rfl|⟨y,rfl⟩
 ·exact h
 ·exact h
theorem Ck(ht:Tl t):Fb n (.int 7) (rE c t) σ= .ok (.next,rE c (tS 7),σ):=uP ht (gO (dW (au (af rfl)) rfl) (gO (aX (af rfl) aj rfl) (gN (aX (af rfl) aj rfl) rfl) rfl) rfl)
theorem w4{x:Int}(ht:Tl t)(R:Rn c σ P W T)(hx:x<256)(h7:x≠7)(h8:x≠8)(hl:W.length<1000):Fb n (.int x) (rE c t) σ= .ok (.next,rE c (tS x),σ.set c.iW (.list ((W++[x]).map V.int))):=by
 refine uP ht (gO (dW (au (af rfl)) (gh.trans (by rw[decide_eq_false (Int.not_le.mpr hx)]))) (gO (aX (af rfl) aj (zn (beq_eq_false_iff_ne.mpr h8))) (gX (aX (af rfl) aj (?_:_=some true)) (eH (vY rfl R.w (af rfl) R.w hl) rfl) rfl) rfl) rfl)
 show some (!(x==7))=some true
 rw[beq_eq_false_iff_ne.mpr h7];rfl
structure Rr(c:Cx)(n:Nat)(x:List Int)(t:Env)(σ:ah)(P W:List Int)(T:List Tr)(r:Tr)(d:Nat)(t':Env)(σ':ah)(T':List Tr):Prop where
 tl:Tl t'
 e:c9 (Fb n) (x.map V.int) (rE c t) σ= .ok (.next,rE c t',σ')
 R:Rn c σ' (P++[aO T' r]) W T'
 h:dr T' r
 x: ∃U,T'=T++U
 z:zT T'≤zT T+d
 k:dI c σ σ'
theorem w6{r p q:E}{row:Nat}{s u:Tr}{σ1:ah}{x:Int}(H:c.ok)(hn:64≤n)(R0:Rn c σ P W T)(he:dB prog.toCtx (ak prog (n+10)) [.var "book",r,p,q] (rE c (tS x)) σ= .ok ([bO c.K c.iN c.iS,.int row,.int (aO T s),.int (aO T u)],σ1)){P1 W1:List Int}(R:Rn c σ1 P1 W1 T)(hs:dr T s)(hu:dr T u)(hz:zT T+1≤40)(hl:P1.length<1000):
  ∃σ' T',vG prog.toCtx (ak prog (n+10)) (n+10) (.ex (.meth "append" (.var "pile") [jnE r p q])) (rE c (tS x)) σ= .ok (.next,rE c (tS x),σ')∧Rn c σ' (P1++[aO T' (de (nw row) 4 s u)]) W1 T'∧dr T' (de (nw row) 4 s u)∧(∃U,T'=T++U)∧zT T'≤zT T+1∧dI c σ1 σ':=by
 have z1:(if min s.pl u.pl=0 then 1 else 0)≤1:=by split<;>decide
 obtain⟨σ4,T',e,B',k,h,ext,z⟩:=iq (n:=n) (row:=row) H.K hn 4 R.b hs hu (Nat.le_add_right ..) (Nat.le_trans (Nat.add_le_add_left z1 _) hz)
 have R4:=R.book H B' k
 exact⟨_,T',vY rfl R0.p (bf he e) R4.p hl,R4.setP H,h,ext,Nat.le_trans z (Nat.add_le_add_left z1 _),k.to4.setP⟩
theorem zW{s u:Tr}{g:List Nat×Nat×Nat}(H:c.ok)(hn:64≤n)(ht:Tl t)(R:Rn c σ (P++[aO T s,aO T u]) (W++[(g.2.1:Int)]) T)(hs:dr T s)(hu:dr T u)(hg:g∈gc)(hz:zT T+1≤40)(hl:P.length<1000): ∃σ' T',Rr c n [8] t σ P W T (de (nw g.2.2) 4 s u) 1 (tS 8) σ' T':=by
 have R1:=R.setW (W':=W) H
 have R2:=R1.setP (P':=P++[aO T u]) H
 have R3:=R2.setP (P':=P) H
 obtain⟨σ',T',e,R',h,x,z,k⟩:=w6 (x:=8) (r:= .sub (.var "rows") CN) (p:= .meth "pop" (.var "pile") [.neg (.cst (.int 2))]) (q:=CO) H hn R (aa (af rfl) (aa (aN (af rfl) (ye rfl R.w) (CK hg)) (aa (E7 rfl R1.p) (au (ye rfl R2.p))))) R3 hs hu hz hl
 exact⟨σ',T',.inr ⟨8,rfl⟩,rx (uP ht (gO (dW (au (af rfl)) rfl) (gX (aX (af rfl) aj rfl) (eH e rfl) rfl) rfl)),R',h,x,z,(dI.refl.setW.setP.setP).trans k⟩
end
end Mine.P
end
section
namespace Mine.P
noncomputable def Okw(W:List Int):Prop:=W=[]∨ ∃W0 x,W=W0++[x]∧x≠31
section
variable{c:Cx}{n:Nat}{σ:ah}{P W:List Int}{T:List Tr}{t:Env}
theorem DI{x:Int}{s:Bool}(R:Rn c σ P W T)(h:dn σ .eq (.lst (cM (W.map V.int) (some (-1)) .none)) (.lst [.int 31])=some s):eR prog.toCtx (ak prog (n+10)) lasE (rE c (tS x)) σ= .ok (s,σ):=
 aX (cw (af rfl) (pL aj) lJ (cK (xs:=W.map V.int) (lo:= .int (-1)) (hi:= .none) (d9 R.w) rfl rfl)) (jZ (au aj)) h
theorem w9{V0:List V}{x:V}:cM (V0++[x]) (some (-1)) .none=[x]:=by
 have e:cO (-1) (V0++[x]).length=V0.length:=by
  rw[List.length_append]
  refine(if_pos (by decide)).trans ?_
  show((-1:Int)+((V0.length+1:Nat):Int)).toNat=_
  omega
 show((V0++[x]).drop (cO (-1) (V0++[x]).length)).take ((V0++[x]).length-cO (-1) (V0++[x]).length)=_
 rw[e,List.drop_left,List.length_append,Nat.add_sub_cancel_left];rfl
theorem C4(h:Okw W):dn σ .eq (.lst (cM (W.map V.int) (some (-1)) .none)) (.lst [.int 31])=some false:=by
 rcases h with rfl|⟨W0,x,rfl,hx⟩
 ·rfl
 ·rw[List.map_append]
  show dn σ .eq (.lst (cM (W0.map V.int++[V.int x]) (some (-1)) .none)) (.lst [.int 31])=_
  rw[w9]
  show some ((x==31)&&true)=_
  rw[beq_eq_false_iff_ne.mpr hx];rfl
theorem C3:dn σ .eq (.lst (cM ((W++[31]).map V.int) (some (-1)) .none)) (.lst [.int 31])=some true:=by
 rw[List.map_append]
 show dn σ .eq (.lst (cM (W.map V.int++[V.int 31]) (some (-1)) .none)) (.lst [.int 31])=_
 rw[w9];rfl
theorem w5{k:Nat}(H:c.ok)(hk:k<3)(hn:64≤n)(R:Rn c σ P W T)(hP:P.length<1000)(hz:zT T≤40):
  ∃σ' T',vG prog.toCtx (ak prog (n+10)) (n+10) (.ex (.meth "append" (.var "pile") [ndE])) (rE c (tS (256+k:Nat))) σ= .ok (.next,rE c (tS (256+k:Nat)),σ')∧Rn c σ' (P++[aO T' (aW c.o (eN k))]) W T'∧dr T' (aW c.o (eN k))∧(∃U,T'=T++U)∧zT T'≤zT T+1∧dI c σ σ':=by
 have tl:=Ce H.o hk
 obtain⟨σ1,T',r,B',kk,h,ext,z⟩:=oR (n:=n+5) (a:= .leaf false) (b:= .leaf true) H.K R.b tl.2 (.inl ⟨_,rfl⟩) (.inl ⟨_,rfl⟩) tl.2 tl.2 hz (Nat.le_trans hn (Nat.le_add_right ..))
 rw[←tl.1] at r h
 have R1:=R.book H B' kk
 have sb:cX σ .sub (.int (256+k:Nat)) (.int 256)=some (.int (k:Int)):=congrArg (fun i=>some (V.int i)) (by omega)
 exact⟨_,T',vY rfl R.p (bf (aa (af rfl) (aa (iC (af rfl) rfl (au (aC (af rfl) rfl sb)) (congrArg ay.ofOpt (zi H.o hk))) (aa aj (au aj)))) r) R1.p hP,R1.setP H,h,ext,Nat.le_trans z (Nat.add_le_add_left (by split<;>decide) _),kk.to4.setP⟩
theorem w7{k:Nat}:eR prog.toCtx (ak prog (n+10)) (.call "ISNONTERMINAL" [.var "symbol"] .no) (rE c (tS (256+k:Nat))) σ= .ok (true,σ):=dW (au (af rfl)) (gh.trans (by rw[decide_eq_true (show(256:Int)≤((256+k:Nat):Int) from Int.ofNat_le.mpr (Nat.le_add_right 256 k))]))
theorem Cl{k:Nat}(H:c.ok)(hk:k<3)(hn:64≤n)(ht:Tl t)(R:Rn c σ P W T)(hP:P.length<1000)(hz:zT T+1≤40)(hw:Okw W): ∃σ' T',Rr c n [(256+k:Nat)] t σ P W T (aW c.o (eN k)) 1 (tS (256+k:Nat)) σ' T':=by
 obtain⟨σ',T',e,R',h,x,z,kp⟩:=w5 H hk hn R hP (Nat.le_of_succ_le hz)
 exact⟨σ',T',.inr ⟨_,rfl⟩,rx (uP ht (gX w7 (eH e (gN (DI R' (C4 hw)) rfl)) rfl)),R',h,x,z,kp⟩
theorem Er{k:Nat}(H:c.ok)(hk:k<3)(hn:64≤n)(ht:Tl t)(R:Rn c σ P (W++[31]) T)(hP:P.length<1000)(hz:zT T+2≤40): ∃σ' T',Rr c n [(256+k:Nat)] t σ P W T (aW c.o (255-eN k)) 2 (tS (256+k:Nat)) σ' T':=by
 obtain⟨σ1,T1,e1,R1,h1,⟨U1,x1⟩,z1,k1⟩:=w5 H hk hn R hP (Nat.le_trans (Nat.le_add_right ..) hz)
 have R2:=R1.setP (P':=P) H
 have R3:=R2.setW (W':=W) H
 obtain⟨σ',T',e,R',h,⟨U,x⟩,z,kp⟩:=w6 (x:=(256+k:Nat)) (row:=6) (u:= .leaf true) (r:= .cst (.int 6)) (p:=CO) (q:= .bin .sub CN (.cst (.int 30))) H hn R1 (aa (af rfl) (aa aj (aa (ye rfl R1.p) (au (aC (ye rfl R2.w) aj rfl))))) R3 h1 (.inl ⟨true,rfl⟩) (Nat.le_trans (Nat.add_le_add_right z1 1) hz) hP
 rw[Cd (n:=0) H.o hk] at R' h
 exact⟨σ',T',.inr ⟨_,rfl⟩,rx (uP ht (gX w7 (eH e1 (gX (DI R1 C3) (eH e rfl) rfl)) rfl)),R',h,⟨U1++U,by rw[x,x1,List.append_assoc]⟩,Nat.le_trans z (Nat.add_le_add_right z1 1),(k1.trans dI.refl.setP.setW).trans kp⟩
theorem len1{l:List Int}{x:Int}{d m k:Nat}(h:l.length+d≤k)(hm:m+1≤d):(l++[x]).length+m≤k:=by rw[List.length_append];exact Nat.le_trans (by show l.length+1+m≤_;rw[Nat.add_assoc,Nat.add_comm 1 m];exact Nat.add_le_add_left hm _) h
theorem ED(H:c.ok)(hn:64≤n){l:List Nat}{s:List Int}{a d:Nat}(f:Fm l s a d): ∀{t:Env} {σ:ah} {P W:List Int} {T:List Tr},Tl t→Rn c σ P W T→Okw W→P.length+d≤999→W.length+d≤999→zT T+d≤40→ ∃t' σ' T',Rr c n s t σ P W T (aW c.o a) d t' σ' T':=by
 induction f with
 |lett k hk=>
  intro t σ P W T ht R hw hP hW hz
  exact⟨_,Cl H hk hn ht R (Nat.lt_succ_of_le (Nat.le_of_succ_le hP)) hz hw⟩
 |neg k hk=>
  intro t σ P W T ht R hw hP hW hz
  have e1:=w4 (n:=n) (x:=31) ht R (by decide) (by decide) (by decide) (Nat.lt_succ_of_le (Nat.le_trans (Nat.le_add_right ..) hW))
  obtain⟨σ',T',Q⟩:=Er (t:=tS 31) H hk hn (.inr ⟨_,rfl⟩) (R.setW H) (Nat.lt_succ_of_le (Nat.le_trans (Nat.le_add_right ..) hP)) hz
  exact⟨_,σ',T',Q.tl,eY e1 Q.e,Q.R,Q.h,Q.x,Q.z,dI.refl.setW.trans Q.k⟩
 | @bin l r sl sr a b c1 d1 sg num row f g hs ih1 ih2=>
  intro t σ P W T ht R hw hP hW hz
  obtain⟨_,_,_,_,n8,n31,n256⟩:=iZ hs
  obtain⟨t1,σ1,T1,Q1⟩:=ih1 (t:=tS 7) (.inr ⟨_,rfl⟩) R hw (by omega) (by omega) (by omega)
  have e2:=w4 (n:=n) (x:=(num:Int)) Q1.tl Q1.R (by omega) (by omega) (by omega) (by omega)
  have z1:=Q1.z
  obtain⟨t3,σ3,T3,Q3⟩:=ih2 (t:=tS num) (.inr ⟨_,rfl⟩) (Q1.R.setW (W':=W++[(num:Int)]) H) (.inr ⟨W,num,rfl,by omega⟩) (len1 (d:=d1+1) (by omega) (Nat.le_refl _)) (len1 (d:=d1+1) (by omega) (Nat.le_refl _)) (by omega)
  obtain⟨U1,x1⟩:=Q1.x
  obtain⟨U3,x3⟩:=Q3.x
  have R3:=Q3.R
  rw[show aO T1 (aW c.o a)=aO T3 (aW c.o a) by rw[x3];exact(bR Q1.h).symm,List.append_assoc] at R3
  have z3:=Q3.z
  obtain⟨σ4,T4,Q4⟩:=zW H hn Q3.tl R3 (x3▸Q1.h.app) Q3.h hs (by omega) (by omega)
  obtain⟨U4,x4⟩:=Q4.x
  have R4:=Q4.R
  have h4:=Q4.h
  rw[vQ (n:=0) H.o] at R4 h4
  refine⟨_,σ4,T4,Q4.tl,?_,R4,h4,⟨U1++(U3++U4),by rw[x4,x3,x1,List.append_assoc,List.append_assoc]⟩,by have:=Q4.z;omega,Q1.k.trans (dI.refl.setW.trans (Q3.k.trans Q4.k))⟩
  rw[List.map_append,List.map_append,List.map_append,List.map_append]
  simp only [List.append_assoc]
  exact eY (Ck ht) (mC (eY e2 (mC Q4.e Q3.e)) Q1.e)
end
theorem xn{K:bx}{o:bw}{iN iS n:Nat}(hK:wH K)(ho:o.ok)(hn:64≤n){l:List Nat}{s:List Int}{a d:Nat}(f:Fm l s a d)(hc:d≤11)(hl:l.length≤100)(hb:l.contains 32=true){σ:ah}{T:List Tr}(B:Bk K σ iN iS T)(hz:zT T+d≤40):
  Dx K σ iN iS T (aW o a) d (ak prog (n+11) (.fn "_law_run") [bO K iN iS,.str l,dT o] .none σ):=by
 have hN:iN<σ.length:=(List.getElem?_eq_some_iff.mp B.nodes).1
 have hS:iS<σ.length:=match B.shelf with|⟨_,e,_⟩=>(List.getElem?_eq_some_iff.mp e).1
 have k0:=(bZ.app σ [MO.list []]).trans (bZ.app _ [MO.list []])
 have l1:(σ++[MO.list []]).length=σ.length+1:=List.length_append
 have H:Cx.ok ⟨K,o,iN,iS,σ.length,σ.length+1,l⟩:=⟨hK,ho,Nat.ne_of_lt (Nat.lt_succ_self _),Nat.ne_of_gt hN,Nat.ne_of_gt hS,Nat.ne_of_gt (Nat.lt_succ_of_lt hN),Nat.ne_of_gt (Nat.lt_succ_of_lt hS)⟩
 have gt: ∀(τ:ah) (m:MO),(τ++[m])[τ.length]? =some m:=fun τ m=>by rw[List.getElem?_append_right (Nat.le_refl _),Nat.sub_self];rfl
 have R:Rn ⟨K,o,iN,iS,σ.length,σ.length+1,l⟩ (σ++[MO.list []]++[MO.list []]) [] [] T:=⟨((bZ.app _ [MO.list []]).get _ (by rw[l1];exact Nat.lt_succ_self _)).trans (gt _ _),l1▸gt _ _,B.up k0⟩
 obtain⟨t',σ',T',Q⟩:=ED (t:=[]) H hn f (.inl rfl) R (.inl rfl) (by show 0+d≤_;omega) (by show 0+d≤_;omega) hz
 refine⟨σ',T',?_,Q.R.b,⟨Nat.le_trans k0.len Q.k.len,fun i h p q=>(Q.k.get i (Nat.lt_of_lt_of_le h k0.len) p q (Nat.ne_of_lt h) (Nat.ne_of_lt (Nat.lt_succ_of_lt h))).trans (k0.get i h)⟩,Q.h,Q.x,Q.z⟩
 refine fW (fn:={params:=["book", "text", "order"],dflt:=[.none,.none,.none],key:=false,body:=fH}) (ρ':=rE ⟨K,o,iN,iS,σ.length,σ.length+1,l⟩ t') rfl rfl rfl (m:=n+10) ?_
 show bk _ _ _ fH _ _=_
 rw[Aq]
 refine c8 (b:=[("rows",Au),("pile",.ref σ.length),("waiting",.ref (σ.length+1))]) (bF (aa (EG (l:=gc) (g:=fun s=> .tup [.str s.1,.int s.2.1,.int s.2.2]) (b:=fun s=>[("sign",.str s.1),("number",.int s.2.1),("row",.int s.2.2)]) (xZ rfl (bf aq rb) rfl) (fun a _=>rfl) (fun a _=>rfl) (fun a _=>rfl)) (aa (sU aq) (au (sU aq))))) ?_ ?_
 ·rw[l1];rfl
 ·exact qV (E0 rfl f hl hb) Q.e (dD (aN (af rfl) aj (jy (m:=0) Q.R.p rfl (Nat.lt_of_le_of_lt (Nat.le_refl 1) (by decide)))))
end Mine.P
end
section
namespace Mine.P
structure Lc where
 s:V
 d0:Nat
 d1:Nat
 d2:Nat
 d3:Nat
 o:bw
 K:bx
 x:List Nat
 y:List Nat
 a:Nat
 b:Nat
 r:Int
 u:Int
noncomputable def drV(c:Lc):V:= .lst [.int c.d0,.int c.d1,.int c.d2,.int c.d3]
noncomputable def re:V:= .lst [.tup [.int 0,.int 1,.int 2],.tup [.int 0,.int 2,.int 1],.tup [.int 1,.int 0,.int 2],.tup [.int 1,.int 2,.int 0],.tup [.int 2,.int 0,.int 1],.tup [.int 2,.int 1,.int 0]]
noncomputable def mf:V:= .tup [.int 1,.int (-1),.int 2,.int (-3)]
noncomputable def lE(c:Lc)(t:Env):Env:=("script",c.s)::("drawn",drV c)::("orders",re)::("turns",mf)::("order",dT c.o)::("point",.int (2^(c.d3 %8):Nat))::("keys",dM c.K)::("shelf",.ref 0)::("comp",.inst (dM c.K))::("book",bO c.K 1 0)::("text",.str c.x)::("bits",.int c.a)::("further",.str c.y)::("meant",.int c.b)::("roots",.lst [.int c.r,.int c.u])::t
noncomputable def rt(c:Lc)(x:Int)(a:Nat)(t:Env):Env:=lE c (("root",.int x)::("truth",.int a)::t)
noncomputable def inQ(a:Nat):Bool:=((0:Int)==(a:Int))||(((255:Int)==(a:Int))||false)
structure Lf(x:Int)(a:Nat):Prop where
 e:(x==0)=((a:Int)==0)
 t:decide (x<256)=inQ a
 n:decide (256≤x)=!inQ a
theorem lf_of{T:List Tr}{a:Nat}: ∀{t:Tr},Fo a t=true→Lf (aO T t) a
 | .leaf false,h=>by rw[eq_of_beq h];exact⟨rfl,rfl,rfl⟩
 | .leaf true,h=>by rw[eq_of_beq h];exact⟨rfl,rfl,rfl⟩
 | .node p x y,h=>by
  have h':=of_decide_eq_true h
  have g:=ly (T:=T) (p:=p) (a:=x) (b:=y)
  have q:inQ a=false:=by
   show(((0:Int)==(a:Int))||(((255:Int)==(a:Int))||false))=false
   rw[beq_eq_false_iff_ne.mpr (fun e:(0:Int)=(a:Int)=>Nat.ne_of_lt h'.1 (Int.ofNat.inj e)),beq_eq_false_iff_ne.mpr (fun e:(255:Int)=(a:Int)=>Nat.ne_of_gt h'.2 (Int.ofNat.inj e))];rfl
  refine⟨?_,?_,?_⟩
  ·rw[beq_eq_false_iff_ne.mpr (fun e:(a:Int)=0=>Nat.ne_of_gt h'.1 (Int.ofNat.inj e))]
   exact beq_eq_false_iff_ne.mpr fun e=>by rw[e] at g;exact absurd g (by decide)
  ·rw[q];exact decide_eq_false (Int.not_lt.mpr g)
  ·rw[q];exact decide_eq_true g
theorem kh{σ:ah}{a b:Bool}(h:a=b):dn σ .isNot (.bool a) (.bool b)=some false:=by
 rw[h]
 show some (!(b==b))=_
 rw[beq_self_eq_true];rfl
theorem CV{σ:ah}{x y z:Nat}:dn σ .ne (.lst [bc x,bc y,bc z]) (.lst [bc x,bc y,bc z])=some false:=by
 show some (!(((x:Int)==(x:Int))&&(((y:Int)==(y:Int))&&(((z:Int)==(z:Int))&&true))))=_
 rw[beq_self_eq_true,beq_self_eq_true,beq_self_eq_true];rfl
noncomputable def lpC:E:= .bor (.cmp .isNot (.call "ISEOF" [.var "root"] .no) (.cmp .eq (.var "truth") (.cst (.int 0)))) (.bor (.cmp .isNot (.call "ISTERMINAL" [.var "root"] .no) (.cmp .in_ (.var "truth") (.tup [.cst (.int 0),.cst (.int 255)]))) (.bor (.cmp .isNot (.call "ISNONTERMINAL" [.var "root"] .no) (.cmp .notIn (.var "truth") (.tup [.cst (.int 0),.cst (.int 255)]))) (.cmp .ne (.call "_law_below" [.var "book",.var "root"] .no) (.lcomp (.call "_law_rests" [.var "truth",.var "order",.var "place"] .no) (.name "place") (.range (.cst (.int 3))) .no))))
section
variable{n a:Nat}{c:Lc}{σ:ah}{T L:List Tr}{t:Env}
theorem kY(S:BJ c.o a L){p:Nat}(hp:p<3):okR (dz a c.o p)=true∧zv L p=wx (dz a c.o p):=
 ⟨CS (Nat.lt_of_le_of_lt (by rw[dz,List.length_map];exact List.length_filter_le ..) (by decide:(List.range 8).length<900)),(eq_of_beq (S.rests p hp)).trans Fh.symm⟩
theorem AZ{c:Prop} [Decidable c]{x y k:Nat}(hx:x≤k)(hy:y≤k):(if c then x else y)≤k:=by split<;>assumption
theorem rf{o:bw}(h:o.ok)(p:Nat):o.at p≤1000:=
 have e:o.a≤1000∧o.b≤1000∧o.c≤1000:=cY (P:=fun o=>o.a≤1000∧o.b≤1000∧o.c≤1000) h (by decide) (by decide) (by decide) (by decide) (by decide) (by decide)
 AZ e.1 (AZ e.2.1 e.2.2)
theorem CE(hn:66≤n)(ho:c.o.ok)(B:Bk c.K σ 1 0 T)(S:BJ c.o a L)(h:dr T (aW c.o a)):
  ∃σ',eR prog.toCtx (ak prog (n+20)) lpC (rt c (aO T (aW c.o a)) a t) σ= .ok (false,σ')∧bZ σ σ':=by
 obtain⟨σ',r,k⟩:=y4 (n:=n+17) B (Nat.le_trans (by decide) (Nat.le_trans hn (Nat.le_add_right ..))) h S.dfs (Nat.lt_of_lt_of_le (by decide) (Nat.le_trans hn (Nat.le_add_right ..)))
 have q:=lf_of (T:=T) S.leaf
 refine⟨σ',gb (aX (bf (au (af rfl)) (xu (n:=n+19))) (lK (af rfl) aj rfl) (kh q.e)) (gb (aX (bf (au (af rfl)) (sj (n:=n+19))) (lK (af rfl) (bF (aa aj (au aj))) rfl) (kh q.t))
  (gb (aX (bf (au (af rfl)) (gh (n:=n+19))) (lK (af rfl) (bF (aa aj (au aj))) rfl) (kh q.n))
   (aX (bf (aa (af rfl) (au (af rfl))) r) (fb (l:=[0,1,2]) (g:=bc) (b:=fun p:Nat=>[("place",bc p)]) (e:=fun p=>bc (wx (dz a c.o p))) (oj aj rfl) (fun _ _=>rfl) fun p hp=>?_) ?_))),k⟩
 ·have hp3:p<3:=List.mem_range.mp hp
  exact bf (aa (af rfl) (aa (af rfl) (au (af rfl)))) (yX (n:=n+19) (rf ho p) hp3 (kY S hp3).1)
 ·show dn _ .ne (.lst [bc (zv L 0),bc (zv L 1),bc (zv L 2)]) (.lst [bc (wx (dz a c.o 0)),bc (wx (dz a c.o 1)),bc (wx (dz a c.o 2))])=_
  rw[(kY S (by decide)).2,(kY S (by decide)).2,(kY S (by decide)).2]
  exact CV
end
end Mine.P
end
section
namespace Mine.P
theorem uC{α:Type}{g:α→Int}: ∀l:List α,dc (l.map fun a=> .int (g a))=some (l.map g)
 |[]=>rfl
 |a::l=>cG rfl (cG (uC l) rfl)
section
variable{call:aw}{ρ:Env}{σ:ah}{a:Nat}{c:Lc}{t:Env}
theorem AU{l:List Nat}:wC σ "len" [.lst (l.map bc)]=some (.int (sJ l)):=congrArg (fun k:Nat=>some (V.int k)) (List.length_map bc)
theorem rW{α:Type}{l:List α}{g:α→Int}:wC σ "sum" [.lst (l.map fun m=> .int (g m))]=some (.int (l.map g).sum):=congrArg (Option.bind · fun l=>some (V.int (List.sum l))) (uC l)
theorem yp{m:Nat}{x y:String}(hx:aM ρ x=some (.int (a:Nat)))(hy:aM ρ y=some (.int (m:Nat))):eR prog.toCtx call (.bin .and (.bin .shr (.var x) (.var y)) (.cst (.int 1))) ρ σ= .ok (bz a m,σ):=zS rfl (aC (aC (af hx) (af hy) gd) aj gM) yq
noncomputable def EJ(a:Nat):V:= .lst ([0,1,2].map fun k=> .lst ((zF a k).map bc))
noncomputable def taV(a:Nat):V:= .lst [qD 1 a,qD 2 a]
noncomputable def Ca(a:Nat):V:= .lst ((ga a).map bc)
noncomputable def trE:E:= .lcomp (.var "mask") (.name "mask") (.range (.cst (.int 8))) (.bin .and (.bin .shr (.var "truth") (.var "mask")) (.cst (.int 1)))
noncomputable def onE:E:= .lcomp (.lcomp (.var "mask") (.name "mask") (.var "true") (.bin .and (.bin .shr (.var "mask") (.var "k")) (.cst (.int 1)))) (.name "k") (.range (.cst (.int 3))) .no
noncomputable def onk(e:E):E:= .sub (.var "on") e
noncomputable def tmE(f:String)(e:E):E:= .bin .mul (.var "times") (.bi f [onk e])
noncomputable def taD:E:= .dcomp (.var "k") (.ite (.cmp .lt (.var "k") (.cst (.int 3))) (tmE "len" (.var "k")) (.tup [tmE "len" (.bin .sub (.var "k") (.cst (.int 3))),tmE "sum" (.bin .sub (.var "k") (.cst (.int 3)))])) (.name "k") (.range (.cst (.int 6)))
noncomputable def taE:E:= .lcomp taD (.name "times") (.tup [.cst (.int 1),.cst (.int 2)]) .no
theorem Cy{x:Int}:bp prog.toCtx call trE (rt c x a t) σ= .ok (Ca a,σ):=
 nS (l:=List.range 8) (g:=bc) (b:=fun m:Nat=>[("mask",bc m)]) i_8 (fun _ _=>rfl) (fun m _=>yp (a:=a) (m:=m) rfl rfl) fun _ _ _=>af rfl
theorem xo(h:aM ρ "true" =some (Ca a)):bp prog.toCtx call onE ρ σ= .ok (EJ a,σ):=by
 refine fb (l:=[0,1,2]) (g:=bc) (b:=fun m:Nat=>[("k",bc m)]) (e:=fun k=> .lst ((zF a k).map bc)) (oj aj rfl) (fun _ _=>rfl) fun k _=>?_
 exact nS (l:=ga a) (g:=bc) (b:=fun m:Nat=>[("mask",bc m)]) (nE h) (fun _ _=>rfl) (fun m _=>yp (a:=m) (m:=k) rfl rfl) fun _ _ _=>af rfl
theorem AE: ∀{k:Nat},k<3→dE σ (EJ a) (bc k)=some (.lst ((zF a k).map bc))
 |0,_=>rfl
 |1,_=>rfl
 |2,_=>rfl
theorem Cz{z:Int}(h:aM ρ "on" =some (EJ a))(ht:aM ρ "times" =some (.int z))(hz:okT z a=true):bp prog.toCtx call taD ρ σ= .ok (qD z a,σ):=by
 refine EG (l:=[0,1,2,3,4,5]) (g:=bc) (b:=fun m:Nat=>[("k",bc m)]) (k:=fun k=>(k:Int)) (v:=fun k=>oy (BQ z a k)) (oj aj rfl) (fun _ _=>rfl) (fun k _=>af rfl) fun k hk=>?_
 have ok: ∀j,j<3→tA z (sJ (zF a j))=true∧tA z (vT (zF a j))=true:=fun j hj=>Bool.and_eq_true_iff.mp (List.all_eq_true.mp hz j (List.mem_range (n:=6).mpr (Nat.lt_trans hj (by decide))))
 have tm: ∀{e:E} {j:Nat},j<3→bp prog.toCtx call e ([("k",bc k)].reverse++ρ) σ= .ok (bc j,σ)→bp prog.toCtx call (tmE "len" e) ([("k",bc k)].reverse++ρ) σ= .ok (.int (z*sJ (zF a j)),σ)∧bp prog.toCtx call (tmE "sum" e) ([("k",bc k)].reverse++ρ) σ= .ok (.int (z*vT (zF a j)),σ):=
  fun hj he=>⟨aC (af ht) (jo (au (aN (af h) he (AE hj))) AU) (iu (ok _ hj).1),aC (af ht) (jo (au (aN (af h) he (AE hj))) rW) (iu (ok _ hj).2)⟩
 refine nH (s:=decide ((k:Int)<3)) (aX (af rfl) aj rfl) (fun hs=>?_) fun hs=>?_
 ·have h3:k<3:=Int.ofNat_lt.mp (of_decide_eq_true hs)
  rw[show BQ z a k=_ from if_pos h3]
  exact(tm (e:= .var "k") h3 (af rfl)).1
 ·have h3: ¬k<3:=fun q=>of_decide_eq_false hs (Int.ofNat_lt.mpr q)
  have h6:k<6:=List.mem_range.mp hk
  have su:cX σ .sub (bc k) (.int 3)=some (bc (k-3)):=congrArg (fun i=>some (V.int i)) (Int.ofNat_sub (Nat.not_lt.mp h3)).symm
  have q:=tm (e:= .bin .sub (.var "k") (.cst (.int 3))) (j:=k-3) (Nat.sub_lt_left_of_lt_add (Nat.not_lt.mp h3) h6) (aC (af rfl) aj su)
  rw[show BQ z a k=_ from if_neg h3]
  exact bF (aa q.1 (au q.2))
end
noncomputable def taC:E:= .bor (.cmp .ne (.call "add_callers" [.sub (.var "told") (.cst (.int 4)),.sub (.var "told") (.cst (.int 4))] .no) (.sub (.var "tables") (.cst (.int 1)))) (.cmp .ne (.var "told") (.tup [.bi "len" [.var "true"],.cst (.int 8),.bi "sum" [.var "true"],.bi "sum" [.lcomp (.bin .mul (.var "mask") (.var "mask")) (.name "mask") (.var "true") .no],.sub (.var "tables") (.cst (.int 0))]))
theorem okM8: ∀m∈List.range 8,tA (m:Int) (m:Int)=true:=by decide
section
variable{n a:Nat}{c:Lc}{σ:ah}{T L:List Tr}{t:Env}{ρ:Env}{o:bw}
theorem CA(ho:o.ok)(S:BJ o a L)(g1:aM ρ "told" =some (qC o (mi o a)).v)(g2:aM ρ "tables" =some (taV a))(g3:aM ρ "true" =some (Ca a)):eR prog.toCtx (ak prog (n+1)) taC ρ σ= .ok (false,σ++[.dead]):=by
 have sq: ∀τ,bp prog.toCtx (ak prog (n+1)) (.lcomp (.bin .mul (.var "mask") (.var "mask")) (.name "mask") (.var "true") .no) ρ τ= .ok (.lst ((ga a).map fun m:Nat=>V.int ((m:Int)*m)),τ):=fun τ=>
  fb (l:=ga a) (g:=bc) (b:=fun m:Nat=>[("mask",bc m)]) (nE g3) (fun _ _=>rfl) fun m hm=>aC (af rfl) (af rfl) (iu (okM8 m (List.mem_filter.mp hm).1))
 refine gb (aX (bf (aa (aN (af g1) aj rfl) (au (aN (af g1) aj rfl))) (oP (dbl ho _))) (aN (af g2) aj rfl) ?_)
  (aX (af g1) (bF (aa (jo (au (af g3)) AU) (aa aj (aa (jo (au (af g3)) rW) (aa (jo (au (sq _)) rW) (au (aN (af g2) aj rfl))))))) ?_)
 ·show(cT 8 (bt (vq (qC o (mi o a)).T (qC o (mi o a)).T)) (qD 2 a)).bind (fun b=>some (!b))=_
  rw[Fd S.told];rfl
 ·show(cT 8 (qC o (mi o a)).v (cntV a)).bind (fun b=>some (!b))=_
  rw[Cb S.told];rfl
theorem AF(ha:a<256):okT 1 a=true∧okT 2 a=true:=Bool.and_eq_true_iff.mp (List.all_eq_true.mp CR a (List.mem_range.mpr ha))
theorem xm(ha:a<256)(h:aM ρ "on" =some (EJ a)){call:aw}:bp prog.toCtx call taE ρ σ= .ok (taV a,σ):=
 fb (l:=[1,2]) (g:=V.int) (b:=fun z=>[("times",V.int z)]) (e:=fun z=>qD z a) (xZ rfl (bF (aa aj (au aj))) rfl) (fun _ _=>rfl) fun z hz=>Cz h rfl (by
  rcases List.mem_cons.mp hz with rfl|hz
  ·exact(AF ha).1
  ·rw[List.mem_singleton.mp hz];exact(AF ha).2)
noncomputable def DE:E:= .call "_law_told" [.var "book",.var "root",.var "order",.cst (.int 0)] .no
noncomputable def lpB:List S:=[.iff lpC [.ret (.cst (.bool false))] [],.asg (.tup [.name "true",.name "told"]) (.tup [trE,DE]),.asg (.name "on") onE,.asg (.name "tables") taE,.iff taC [.ret (.cst (.bool false))] []]
noncomputable def lpT(x y z w:V):Env:=[("true",x),("told",y),("on",z),("tables",w)]
structure Sx where
 u:V
 v:V
 x:V
 y:V
 z:V
 w:V
noncomputable def tx(p:Sx)(t:Env):Env:=("root",p.u)::("truth",p.v)::("true",p.x)::("told",p.y)::("on",p.z)::("tables",p.w)::t
noncomputable def Lt(t:Env):Prop:=t=[]∨ ∃p,t=tx p []
theorem xJ(hn:66≤n)(ho:c.o.ok)(B:Bk c.K σ 1 0 T)(ha:a<256)(h:dr T (aW c.o a))(ht:Lt t):
  ∃p σ',lF prog.toCtx (ak prog (n+20)) (n+20) (.tup [.name "root",.name "truth"]) lpB (.tup [.int (aO T (aW c.o a)),.int a]) (lE c t) σ= .ok (.next,lE c (tx p []),σ')∧bZ σ σ':=by
 obtain⟨L,S⟩:=seen ho ha
 obtain⟨σ1,e1,k1⟩:=CE (t:=t.drop 2) hn ho B S h
 obtain⟨σ2,e2,k2⟩:=Ek (m:=n+15) ho B.wf (f:=mi c.o a) h (yK ho _) σ1 (B.up k1)
 have e3:dB prog.toCtx (ak prog (n+20)) [trE,DE] (rt c (aO T (aW c.o a)) a (t.drop 2)) σ1= .ok ([Ca a,(qC c.o (mi c.o a)).v],σ2):=aa Cy (au (bf (aa (af rfl) (aa (af rfl) (aa (af rfl) (au aj)))) e2))
 have fin:bk prog.toCtx (ak prog (n+20)) (n+20) (lpB.drop 4) (rt c (aO T (aW c.o a)) a (lpT (Ca a) (qC c.o (mi c.o a)).v (EJ a) (taV a))) σ2= .ok (.next,rt c (aO T (aW c.o a)) a (lpT (Ca a) (qC c.o (mi c.o a)).v (EJ a) (taV a)),σ2++[.dead]):=gN (CA (n:=n+19) ho S rfl rfl rfl) rfl
 refine⟨⟨.int (aO T (aW c.o a)),.int a,Ca a,(qC c.o (mi c.o a)).v,EJ a,taV a⟩,σ2++[.dead],?_,(k1.trans k2).trans (.app σ2 [.dead])⟩
 rw[lC (bs:=[("root",.int (aO T (aW c.o a))),("truth",.int a)]) rfl]
 rcases ht with rfl|⟨_,rfl⟩
 ·exact gN e1 (c8 (b:=[("true",Ca a),("told",(qC c.o (mi c.o a)).v)]) (bF e3) rfl (bD (xo (a:=a) rfl) (bD (xm ha rfl) fin)))
 ·exact gN e1 (c8 (b:=[("true",Ca a),("told",(qC c.o (mi c.o a)).v)]) (bF e3) rfl (bD (xo (a:=a) rfl) (bD (xm ha rfl) fin)))
theorem C1(hn:66≤n)(ho:c.o.ok)(B:Bk c.K σ 1 0 T)(ha:c.a<256)(hb:c.b<256)(h1:dr T (aW c.o c.a))(h2:dr T (aW c.o c.b))(e1:c.r=aO T (aW c.o c.a))(e2:c.u=aO T (aW c.o c.b)):
  ∃p σ',vG prog.toCtx (ak prog (n+20)) (n+20) (.for_ (.tup [.name "root",.name "truth"]) (.zip (.var "roots") (.tup [.var "bits",.var "meant"])) lpB) (lE c []) σ= .ok (.next,lE c (tx p []),σ')∧bZ σ σ':=by
 obtain⟨p,σ1,f1,k1⟩:=xJ (t:=[]) hn ho B ha h1 (.inl rfl)
 obtain⟨q,σ2,f2,k2⟩:=xJ hn ho (B.up k1) hb h2 (.inr ⟨p,rfl⟩)
 rw[←e1] at f1
 rw[←e2] at f2
 exact⟨q,σ2,i8 (DQ (af rfl) (bF (aa (af rfl) (au (af rfl)))) rfl) (eY f1 (rx f2)),k1.trans k2⟩
end
end Mine.P
end
section
namespace Mine.P
noncomputable def dS(s:List Int)(i:Nat):Int:=(((s.take 60).zipIdx.filter fun q=>q.2 %4==i).map fun q=>q.1 %1000000).sum
theorem w0{α:Type}{g:α→Int}(h: ∀a,0≤g a): ∀l:List α,0≤(l.map g).sum
 |[]=>Int.le_refl 0
 |a::l=>by rw[List.map_cons,List.sum_cons];exact Int.add_nonneg (h a) (w0 h l)
noncomputable def dN(s:List Int)(i st:Nat):Nat:=((st:Int)+dS s i).toNat
theorem dN_at(s:List Int)(i st:Nat):((dN s i st:Nat):Int)=st+dS s i:=Int.toNat_of_nonneg (Int.add_nonneg (Int.natCast_nonneg st) (w0 (fun q:Int×Nat=>Int.emod_nonneg q.1 (by decide)) _))
noncomputable def sumE:E:= .lcomp (.bin .mod (.var "number") (.cst (.int 1000000))) (.tup [.name "at",.name "number"]) (.enum (.slice (.var "script") .no (.cst (.int 60)))) (.cmp .eq (.bin .mod (.var "at") (.cst (.int 4))) (.var "place"))
noncomputable def Fa:E:= .lcomp (.bin .add (.var "start") (.bi "sum" [sumE])) (.tup [.name "place",.name "start"]) (.enum (.tup [.cst (.int 37588),.cst (.int 69153),.cst (.int 344),.cst (.int 5)])) .no
section
variable{call:aw}{σ:ah}{s:List Int}{t:Env}{n:Nat}
theorem wL: ∀(l:List Int) (n:Nat),((l.map V.int).zipIdx n).map (fun p=>V.tup [.int p.2,p.1])=(l.zipIdx n).map fun q=> .tup [.int q.2,.int q.1]
 |[],_=>rfl
 |x::l,n=>congrArg (V.tup [.int (n:Nat),.int x]:: ·) (wL l (n+1))
theorem Em{α:Type}(l:List α):l.take (min 60 l.length)=l.take 60:=by
 by_cases h:l.length≤60
 ·rw[Nat.min_eq_right h,List.take_of_length_le h,List.take_of_length_le (Nat.le_refl _)]
 ·rw[Nat.min_eq_left (Nat.le_of_not_le h)]
theorem Ah{i:Nat}{u:V}:bp prog.toCtx call (.bi "sum" [sumE]) [("start",u),("place",.int i),("script",.lst (s.map V.int))] σ= .ok (.int (dS s i),σ):=by
 refine jo (au (nS (l:=(s.take 60).zipIdx) (g:=fun q=> .tup [.int q.2,.int q.1]) (b:=fun q=>[("at",.int q.2),("number",.int q.1)]) (c:=fun q=>q.2 %4==i) (e:=fun q=> .int (q.1 %1000000)) (wl (x:= .lst ((s.take 60).map V.int)) (cw (af rfl) lJ aj ?_) ?_) (fun _ _=>rfl) (fun q _=>?_) (fun q _ _=>aC (af rfl) aj rfl))) rW
 ·rw[cK (xs:=s.map V.int) rfl rfl (show kd (.int 60)=some (some 60) from rfl),List.map_take,←Em (s.map V.int)]
  rfl
 ·exact congrArg some (wL _ 0)
 ·refine aX (aC (af rfl) aj (dw (b:=4) (by decide))) (af rfl) (zn ?_)
  rw[n9];rfl
noncomputable def FP(s:List Int):List V:=[.int (dN s 0 37588),.int (dN s 1 69153),.int (dN s 2 344),.int (dN s 3 5)]
theorem yZ:bp prog.toCtx call Fa [("script",.lst (s.map V.int))] σ= .ok (.lst (FP s),σ):=
 fb (α:=Nat×Nat) (l:=[(0,37588),(1,69153),(2,344),(3,5)]) (g:=fun q=> .tup [.int q.1,.int q.2]) (b:=fun q=>[("place",.int q.1),("start",.int q.2)]) (e:=fun q=> .int (dN s q.1 q.2)) (wl (bF (aa aj (aa aj (aa aj (au aj))))) rfl) (fun _ _=>rfl) fun q _=>by
  rw[dN_at]
  exact aC (af rfl) Ah rfl
theorem FN{a b c:Nat}(h:(a,b,c)∈[(0,1,2),(0,2,1),(1,0,2),(1,2,0),(2,0,1),(2,1,0)]):bw.ok ⟨a,b,c⟩:=h
theorem ue(i:Nat): ∃o:bw,o.ok∧ ∀σ:ah,dE σ re (.int ((i %6:Nat):Int))=some (dT o):=by
 have h:i %6<6:=Nat.mod_lt _ (by decide)
 generalize i %6=j at h
 match j,h with
 |0,_=>exact⟨⟨0,1,2⟩,FN (by decide),fun _=>rfl⟩
 |1,_=>exact⟨⟨0,2,1⟩,FN (by decide),fun _=>rfl⟩
 |2,_=>exact⟨⟨1,0,2⟩,FN (by decide),fun _=>rfl⟩
 |3,_=>exact⟨⟨1,2,0⟩,FN (by decide),fun _=>rfl⟩
 |4,_=>exact⟨⟨2,0,1⟩,FN (by decide),fun _=>rfl⟩
 |5,_=>exact⟨⟨2,1,0⟩,FN (by decide),fun _=>rfl⟩
theorem mv(i:Nat): ∃w:Int,w≠0∧ ∀σ:ah,dE σ mf (.int ((i %4:Nat):Int))=some (.int w):=by
 have h:i %4<4:=Nat.mod_lt _ (by decide)
 generalize i %4=j at h
 match j,h with
 |0,_=>exact⟨1,by decide,fun _=>rfl⟩
 |1,_=>exact⟨-1,by decide,fun _=>rfl⟩
 |2,_=>exact⟨2,by decide,fun _=>rfl⟩
 |3,_=>exact⟨-3,by decide,fun _=>rfl⟩
noncomputable def k3(o:bw)(x y z:Int):bx:=[((o.a:Int),x),((o.b:Int),y),((o.c:Int),z)]
theorem C6: ∀o∈[(0,1,2),(0,2,1),(1,0,2),(1,2,0),(2,0,1),(2,1,0)],(∀c∈[(o.1:Nat),o.2.1,o.2.2],(c:Int)=0∨(c:Int)=1∨(c:Int)=2)∧ ∀c∈[(0:Int),1,2],c=(o.1:Nat)∨c=(o.2.1:Nat)∨c=(o.2.2:Nat):=by decide
theorem EW{o:bw}(ho:o.ok){x y z:Int}(h0:x≠0)(h1:y≠0)(h2:z≠0):wH (k3 o x y z):=by
 have k:=C6 _ ho
 refine⟨fun p hp=>?_,fun c hc=>?_⟩
 ·rcases List.mem_cons.mp hp with rfl|hp
  ·exact⟨k.1 o.a (List.mem_cons_self ..),h0⟩
  ·rcases List.mem_cons.mp hp with rfl|hp
   ·exact⟨k.1 o.b (List.mem_cons_of_mem _ (List.mem_cons_self ..)),h1⟩
   ·rw[List.mem_singleton.mp hp]
    exact⟨k.1 o.c (List.mem_cons_of_mem _ (List.mem_cons_of_mem _ (List.mem_cons_self ..))),h2⟩
 ·have m:c∈[(0:Int),1,2]:=by rcases hc with rfl|rfl|rfl<;>decide
  rcases k.2 c m with e|e|e
  ·exact⟨x,e▸List.mem_cons_self ..⟩
  ·exact⟨y,e▸List.mem_cons_of_mem _ (List.mem_cons_self ..)⟩
  ·exact⟨z,e▸List.mem_cons_of_mem _ (List.mem_cons_of_mem _ (List.mem_cons_self ..))⟩
noncomputable def keysE:E:= .lcomp (.tup [.var "column",.sub (.var "turns") (.bin .mod (.bin .div (.sub (.var "drawn") (.cst (.int 2))) (.var "size")) (.cst (.int 4)))]) (.tup [.name "column",.name "size"]) (.zip (.sub (.var "orders") (.bin .mod (.bin .div (.sub (.var "drawn") (.cst (.int 2))) (.cst (.int 384))) (.cst (.int 6)))) (.tup [.cst (.int 6),.cst (.int 24),.cst (.int 96)])) .no
noncomputable def e4(s:List Int)(t:Env):Env:=("script",.lst (s.map V.int))::("drawn",.lst (FP s))::("orders",re)::("turns",mf)::t
theorem Am: ∃K,(wH K∧K.length=3)∧ ∀t σ call,bp prog.toCtx call keysE (e4 s t) σ= .ok (dM K,σ):=by
 obtain⟨o,ho,eo⟩:=ue (dN s 2 344/384)
 obtain⟨x,n0,t0⟩:=mv (dN s 2 344/6)
 obtain⟨y,n1,t1⟩:=mv (dN s 2 344/24)
 obtain⟨z,n2,t2⟩:=mv (dN s 2 344/96)
 refine⟨k3 o x y z,⟨EW ho n0 n1 n2,rfl⟩,fun t σ call=>?_⟩
 refine fb (α:=Nat×Nat×Int) (l:=[(o.a,6,x),(o.b,24,y),(o.c,96,z)]) (g:=fun q=> .tup [.int q.1,.int q.2.1]) (e:=fun q=> .tup [.int q.1,.int q.2.2]) (b:=fun q=>[("column",.int q.1),("size",.int q.2.1)])
  (DQ (aN (af rfl) (aC (aC (aN (af rfl) aj rfl) aj (eD (b:=384) (by decide) (by decide))) aj (dw (b:=6) (by decide))) (eo _)) (bF (aa aj (aa aj (au aj)))) rfl) (fun _ _=>rfl) fun q hq=>?_
 have hz:(0<q.2.1∧q.2.1<2^29)∧dE σ mf (.int ((dN s 2 344/q.2.1 %4:Nat):Int))=some (.int q.2.2):=by
  rcases List.mem_cons.mp hq with rfl|hq
  ·exact⟨(by decide:0<6∧6<2^29),t0 _⟩
  ·rcases List.mem_cons.mp hq with rfl|hq
   ·exact⟨(by decide:0<24∧24<2^29),t1 _⟩
   ·rw[List.mem_singleton.mp hq]
    exact⟨(by decide:0<96∧96<2^29),t2 _⟩
 exact bF (aa (af rfl) (au (aN (af rfl) (aC (aC (aN (af rfl) aj rfl) (af rfl) (eD hz.1.1 hz.1.2)) aj (dw (b:=4) (by decide))) hz.2)))
theorem bk0{K:bx}:Bk K [.list [],.dict [] []] 1 0 []:=⟨by decide,⟨List.nodup_nil,(fun t h=>nomatch h)⟩,by decide,rfl,⟨[],rfl,.nil,rfl,fun q=>⟨(fun h=>nomatch h),fun h=>h.elim fun _ h=>h.elim fun _ h=>nomatch h.1⟩⟩⟩
noncomputable def l6(s:List Int)(o:bw)(K:bx):Env:=e4 s [("order",dT o),("point",.int (2^(dN s 3 5 %8):Nat)),("keys",dM K),("shelf",.ref 0),("comp",.inst (dM K)),("book",bO K 1 0)]
theorem law_1(s:List Int): ∃o K,o.ok∧(wH K∧K.length=3)∧ ∀n u,bk prog.toCtx (ak prog n) n (gJ.drop 6) (l6 s o K) [.list [],.dict [] []]=u→bk prog.toCtx (ak prog n) n gJ [("script",.lst (s.map V.int))] []=u:=by
 obtain⟨o,ho,eo⟩:=ue (dN s 2 344)
 obtain⟨K,hK,eK⟩:=Am (s:=s)
 refine⟨o,K,ho,hK,fun n u h=>?_⟩
 refine bD yZ (c8 (b:=[("orders",re),("turns",mf)]) (v:= .tup [re,mf]) (σ1:=[]) rfl rfl ?_)
 refine c8 (b:=[("order",dT o),("point",.int (2^(dN s 3 5 %8):Nat))]) (bF (aa (aN (af (v:=re) rfl) (aC (aN (af (v:= .lst (FP s)) rfl) aj rfl) aj (dw (b:=6) (by decide))) (eo _)) (au (aC aj (aC (aN (af (v:= .lst (FP s)) rfl) aj rfl) aj (dw (b:=8) (by decide))) (kR (Nat.le_trans (Nat.le_of_lt (Nat.mod_lt _ (by decide:8>0))) (by decide))))))) rfl ?_
 refine bD (eK [("order",dT o),("point",.int (2^(dN s 3 5 %8):Nat))] [] _) ?_
 refine c8 (b:=[("shelf",.ref 0),("comp",.inst (dM K))]) (v:= .tup [.ref 0,.inst (dM K)]) (σ1:=[.list []]) rfl rfl ?_
 exact bD (v:=bO K 1 0) (σ1:=[.list [],.dict [] []]) rfl h
end
end Mine.P
end
section
namespace Mine.P
noncomputable def uU(o:bw)(t:Tr):Nat:=([(false,false,false),(false,false,true),(false,true,false),(false,true,true),(true,false,false),(true,false,true),(true,true,false),(true,true,true)].map fun q=>if E3 t q.1 q.2.1 q.2.2 then 2^ut o q.1 q.2.1 q.2.2 else 0).sum
theorem dec1:(List.range 256).all (fun a=>uU ⟨0,1,2⟩ (aW ⟨0,1,2⟩ a)==a)=true:=by decide+kernel
theorem dec2:(List.range 256).all (fun a=>uU ⟨0,2,1⟩ (aW ⟨0,2,1⟩ a)==a)=true:=by decide+kernel
theorem dec3:(List.range 256).all (fun a=>uU ⟨1,0,2⟩ (aW ⟨1,0,2⟩ a)==a)=true:=by decide+kernel
theorem dec4:(List.range 256).all (fun a=>uU ⟨1,2,0⟩ (aW ⟨1,2,0⟩ a)==a)=true:=by decide+kernel
theorem dec5:(List.range 256).all (fun a=>uU ⟨2,0,1⟩ (aW ⟨2,0,1⟩ a)==a)=true:=by decide+kernel
theorem dec6:(List.range 256).all (fun a=>uU ⟨2,1,0⟩ (aW ⟨2,1,0⟩ a)==a)=true:=by decide+kernel
theorem yj{o:bw}(ho:o.ok){a:Nat}(ha:a<256):uU o (aW o a)=a:=
 eq_of_beq (List.all_eq_true.mp (cY (P:=fun o=>(List.range 256).all (fun a=>uU o (aW o a)==a)=true) ho dec1 dec2 dec3 dec4 dec5 dec6) a (List.mem_range.mpr ha))
theorem wX{o:bw}(ho:o.ok){a b:Nat}(ha:a<256)(hb:b<256)(h:aW o a=aW o b):a=b:=by
 rw[←yj ho ha,h,yj ho hb]
theorem Dx.go{K:bx}{σ:ah}{iN iS d:Nat}{T:List Tr}{r:Tr}{o:ay (V×ah)}{P:Prop}(h:Dx K σ iN iS T r d o)(k: ∀σ' T' U,o= .ok (.int (aO T' r),σ')→Bk K σ' iN iS T'→lV σ σ' iN iS→dr T' r→T'=T++U→zT T'≤zT T+d→P):P:=
 h.elim fun σ' h=>h.elim fun T' h=>h.2.2.2.2.1.elim fun U e=>k σ' T' U h.1 h.2.1 h.2.2.1 h.2.2.2.1 e h.2.2.2.2.2
theorem kW{n bits:Nat}{K:bx}{o:bw}(hK:wH K)(ho:o.ok)(hn:64≤n){σ:ah}{T:List Tr}(B:Bk K σ 1 0 T)(hz:zT T+1≤40):Dx K σ 1 0 T (aW o bits) 1 (ak prog (n+9) (.fn "_law_drawing") [bO K 1 0,.int bits,dT o,.int 0,.int 0] .none σ):=
 i9 (n:=n) (bits:=bits) hK hn (rf ho) 3 (mask:=0) (Nat.le_refl 3) B hz
theorem EM{σ:ah}{a b:Int}:dn σ .ne (.lst [.int a,.int b]) (.lst [.int a,.int b])=some false:=by
 show some (!((a==a)&&((b==b)&&true)))=_
 rw[beq_self_eq_true,beq_self_eq_true];rfl
noncomputable def lc(s:List Int)(o:bw)(K:bx)(x y:List Nat)(a b:Nat)(r u:Int):Lc:=⟨.lst (s.map V.int),dN s 0 37588,dN s 1 69153,dN s 2 344,dN s 3 5,o,K,x,y,a,b,r,u⟩
structure Rts(n:Nat)(s:List Int)(o:bw)(K:bx)(x y:List Nat)(a b:Nat)(r u:Int)(σ:ah)(T:List Tr):Prop where
 a8:a<256
 b8:b<256
 B:Bk K σ 1 0 T
 ha:dr T (aW o a)
 hb:dr T (aW o b)
 z:zT T≤24
 er:r=aO T (aW o a)
 eu:u=aO T (aW o b)
 go: ∀w,bk prog.toCtx (ak prog (n+20)) (n+20) (gJ.drop 9) (lE (lc s o K x y a b r u) []) σ=w→bk prog.toCtx (ak prog (n+20)) (n+20) (gJ.drop 6) (l6 s o K) [.list [],.dict [] []]=w
theorem law_2{n:Nat}{s:List Int}{o:bw}{K:bx}(hn:64≤n)(ho:o.ok)(hK:wH K): ∃x y a b r u σ T,Rts n s o K x y a b r u σ T:=by
 refine iF fun nG=>?_
 refine(nt (n:=n+18) (s:=dN s 0 37588) (σ:=[.list [],.dict [] []])).elim fun tx h=>h.elim fun sx h=>h.elim fun a h=>h.elim fun ca h=>h.elim fun m1 f1=>?_
 refine(nt (n:=n+18) (s:=dN s 1 69153) (σ:=[.list [],.dict [] []]++[m1])).elim fun ty h=>h.elim fun sy h=>h.elim fun b h=>h.elim fun cb h=>h.elim fun m2 f2=>?_
 have c1:=f1.2.2.1
 have c2:=f2.2.2.1
 have hn9:64≤n+9:=Nat.le_trans hn (Nat.le_add_right ..)
 have hn11:64≤n+11:=Nat.le_trans hn (Nat.le_add_right ..)
 have z0:zT []=0:=rfl
 refine(xn hK ho hn9 f1.2.1 c1 f1.2.2.2.1 f1.2.2.2.2 (bk0.up ((bZ.app _ [m1]).trans (bZ.app _ [m2]))) (by omega)).go fun σ3 T3 U3 r3 B3 _ h3 _ z3=>?_
 refine(xn hK ho hn9 f2.2.1 c2 f2.2.2.2.1 f2.2.2.2.2 B3 (by omega)).go fun σ4 T4 U4 r4 B4 _ h4 x4 z4=>?_
 have h3':dr T4 (aW o a):=x4▸h3.app
 have i3:aO T3 (aW o a)=aO T4 (aW o a):=by rw[x4,bR h3]
 refine(kW (n:=n+11) (bits:=a) hK ho hn11 B4 (by omega)).go fun σ5 T5 U5 r5 B5 _ h5 x5 z5=>?_
 refine(kW (n:=n+11) (bits:=b) hK ho hn11 B5 (by omega)).go fun σ6 T6 U6 r6 B6 _ h6 x6 z6=>?_
 have h4':dr T5 (aW o b):=x5▸h4.app
 have i5:aO T5 (aW o a)=aO T4 (aW o a):=by rw[x5,bR h3']
 have i6:aO T6 (aW o b)=aO T4 (aW o b):=by rw[x6,bR h4',x5,bR h4]
 have i7:aO T6 (aW o a)=aO T4 (aW o a):=by rw[x6,bR h5,i5]
 have a8:=f1.2.1.blank
 have b8:=f2.2.1.blank
 refine nG ⟨tx,ty,a,b,aO T4 (aW o a),aO T4 (aW o b),σ6,T6,a8,b8,B6,x6▸h5.app,h6,by omega,i7.symm,i6.symm,fun w hw=>?_⟩
 refine c8 (b:=[("text",.str tx),("bits",.int (a:Nat)),("further",.str ty),("meant",.int (b:Nat))]) (v:= .tup [.tup [.str tx,.int (a:Nat)],.tup [.str ty,.int (b:Nat)]]) (bF (aa (bf (au (aN (af (v:= .lst (FP s)) rfl) aj rfl)) f1.1) (au (bf (au (aN (af (v:= .lst (FP s)) rfl) aj rfl)) f2.1)))) rfl ?_
 rw[i3] at r3
 rw[i5] at r5
 rw[i6] at r6
 refine bD (v:= .lst [.int (aO T4 (aW o a)),.int (aO T4 (aW o b))]) (jZ (aa (bf (aa (af rfl) (aa (af rfl) (au (af rfl)))) r3) (au (bf (aa (af rfl) (aa (af rfl) (au (af rfl)))) r4)))) ?_
 have e:(aO T4 (aW o a)==aO T4 (aW o b))=((a:Int)==(b:Int)):=by
  rw[n9]
  by_cases q:a=b
  ·rw[decide_eq_true q,q];exact beq_self_eq_true _
  ·rw[decide_eq_false q];exact beq_eq_false_iff_ne.mpr fun e=>q (wX ho a8 b8 (iw h3' h4 e))
 refine gN (ρ:=lE (lc s o K tx ty a b (aO T4 (aW o a)) (aO T4 (aW o b))) []) (gb (aX (af rfl) (jZ (aa (bf (aa (af rfl) (aa (af rfl) (aa (af rfl) (aa aj (au aj))))) r5) (au (bf (aa (af rfl) (aa (af rfl) (aa (af rfl) (aa aj (au aj))))) r6)))) EM)
  (aX (lK (aN (af rfl) aj rfl) (aN (af rfl) aj rfl) rfl) (lK (af rfl) (af rfl) rfl) (kh e))) hw
end Mine.P
end
section
namespace Mine.P
theorem qg{a m:Nat}:bz a m=a.testBit m:=by
 rw[Nat.testBit_eq_decide_div_mod_eq];rfl
theorem Cf{o:bw}(ho:o.ok){a b:Nat}(h: ∀m,m<8→bz a m=bz b m):aW o a=aW o b:=
 congrArg qd (funext fun x=>funext fun y=>funext fun z=>h _ (sE ho x y z))
theorem wW{o:bw}(ho:o.ok){a b:Nat}:aW o (fO 6 a b)=aW o (a^^^b):=Cf ho fun m hm=>by
 rw[Bw hm,qg,qg,qg,Nat.testBit_xor]
 cases a.testBit m<;>cases b.testBit m<;>rfl
noncomputable def two:Tr→Bool
 | .node _ (.node _ _ _) _=>true
 | .node _ _ (.node _ _ _)=>true
 |_=>false
theorem y7{o:bw}(ho:o.ok): ∀k,k<8→two (aW o (2^k))=true:=
 cY (P:=fun o=> ∀k,k<8→two (aW o (2^k))=true) ho (by decide+kernel) (by decide+kernel) (by decide+kernel) (by decide+kernel) (by decide+kernel) (by decide+kernel)
theorem xK{α:Type}{l:List α}{u v:α}(hu:u∈l)(hv:v∈l)(e:u≠v):2≤l.length:=match l,hu,hv with
 |[_],hu,hv=>absurd ((List.mem_singleton.mp hu).trans (List.mem_singleton.mp hv).symm) e
 |_::_::l,_,_=>Nat.le_add_left 2 l.length
theorem B8{T:List Tr}(w:BU T){t:Tr}(h:dr T t)(h2:two t=true):2≤T.length:=by
 cases t with
 |leaf b=>cases h2
 |node p a b=>
  obtain⟨_,_,_,e,_,_,pa,pb,ha,hb⟩:=w.good _ h.mem
  cases e
  cases a with
  |node q x y=>exact xK h.mem ha.mem fun e=>Nat.ne_of_lt pa (congrArg Tr.pl e)
  |leaf c=>cases b with
   |node q x y=>exact xK h.mem hb.mem fun e=>Nat.ne_of_lt pb (congrArg Tr.pl e)
   |leaf d=>cases h2
theorem AM{σ:ah}{a:Int}:dn σ .ne (.int a) (.int a)=some false:=by
 show some (!(a==a))=_
 rw[beq_self_eq_true];rfl
theorem BX{σ:ah}{a b:Nat}:cX σ .xor (.int (a:Int)) (.int (b:Int))=some (.int ((a^^^b:Nat):Int)):=by
 exact gS (op:= .xor) (show(if 0≤(a:Int)∧0≤(b:Int) then some ((a^^^b:Nat):Int) else none)=_ from if_pos ⟨Int.natCast_nonneg a,Int.natCast_nonneg b⟩)
noncomputable def numC:E:= .bor (.cmp .isNot (.call "ISTERMINAL" [.var "number"] .no) (.cmp .lt (.var "number") (.cst (.int 256)))) (.bor (.cmp .isNot (.call "ISNONTERMINAL" [.var "number"] .no) (.cmp .gt (.var "number") (.cst (.int 255)))) (.cmp .isNot (.call "ISEOF" [.var "number"] .no) (.cmp .eq (.var "number") (.cst (.int 0)))))
theorem EL{n:Nat}{ρ:Env}{σ:ah}{x:Int}:eR prog.toCtx (ak prog (n+1)) numC (("number",.int x)::ρ) σ= .ok (false,σ):=
 gb (aX (bf (au (af rfl)) sj) (lK (af rfl) aj rfl) (kh rfl))
  (gb (aX (bf (au (af rfl)) gh) (lK (af rfl) aj rfl) (kh (decide_eq_decide.mpr Iff.rfl)))
   (aX (bf (au (af rfl)) xu) (lK (af rfl) aj rfl) (kh rfl)))
theorem An{n row:Nat}{K:bx}{σ:ah}{T:List Tr}{s t:Tr}(hK:wH K)(hn:64≤n)(B:Bk K σ 1 0 T)(hs:dr T s)(ht:dr T t)(hz:zT T+1≤40):Dx K σ 1 0 T (de (nw row) 4 s t) 1 (ak prog (n+10) (.fn "_law_joined") [bO K 1 0,.int row,.int (aO T s),.int (aO T t)] .none σ):=by
 have z1:(if min s.pl t.pl=0 then 1 else 0)≤1:=by split<;>decide
 exact(iq (n:=n) (row:=row) hK hn 4 B hs ht (Nat.le_add_right ..) (Nat.le_trans (Nat.add_le_add_left z1 _) hz)).go fun σ' T' U e B' k h x z=>⟨σ',T',e,B',k,h,⟨U,x⟩,Nat.le_trans z (Nat.add_le_add_left z1 _)⟩
structure Pts(n:Nat)(c:Lc)(p:Sx)(σ:ah)(A C:V)(σ':ah)(T':List Tr):Prop where
 B:Bk c.K σ' 1 0 T'
 two:2≤T'.length
 go: ∀w,bk prog.toCtx (ak prog (n+20)) (n+20) (gJ.drop 14) (lE c (tx p [("alone",A),("changed",C)])) σ'=w→bk prog.toCtx (ak prog (n+20)) (n+20) (gJ.drop 10) (lE c (tx p [])) σ=w
theorem Ai{n:Nat}{c:Lc}{t:Env}{σ:ah}:eR prog.toCtx (ak prog (n+20)) (.lcomp (.var "number") (.name "number") (.tup [.bin .sub (.neg (.cst (.int 1))) (.sub (.var "drawn") (.cst (.int 3))),.cst (.int 0),.bin .mod (.sub (.var "drawn") (.cst (.int 3))) (.cst (.int 256)),.cst (.int 255),.cst (.int 256),.bin .add (.cst (.int 256)) (.sub (.var "drawn") (.cst (.int 2)))]) numC) (lE c t) σ= .ok (false,σ):=by
 refine zS rfl (nS (α:=Int) (l:=[-1-(c.d3:Int),0,((c.d3 %256:Nat):Int),255,256,256+(c.d2:Int)]) (g:=V.int) (e:=V.int) (c:=fun _=>false) (b:=fun z=>[("number",V.int z)])
  (xZ rfl (bF (aa (aC (pL aj) (aN (af rfl) aj rfl) rfl) (aa aj (aa (aC (aN (af (v:=drV c) rfl) aj rfl) aj (dw (b:=256) (by decide))) (aa aj (aa aj (au (aC aj (aN (af rfl) aj rfl) rfl)))))))) rfl)
  (fun _ _=>rfl) (fun z _=>EL (n:=n+19)) (fun _ _ h=>nomatch h)) rfl
theorem law_4{n:Nat}{c:Lc}{p:Sx}{σ:ah}{T:List Tr}(hn:66≤n)(ho:c.o.ok)(hK:wH c.K)(B:Bk c.K σ 1 0 T)(hz:zT T≤24)(ha:c.a<256)(h1:dr T (aW c.o c.a))(er:c.r=aO T (aW c.o c.a)): ∃A C σ' T',Pts n c p σ A C σ' T':=by
 refine iF fun nG=>?_
 have k8:c.d3 %8<8:=Nat.mod_lt _ (by decide)
 have p2:=y7 ho _ k8
 have pb:2^(c.d3 %8)<256:=Nat.lt_of_lt_of_le (Nat.pow_lt_pow_right (by decide) k8) (by decide)
 have p0:2^(c.d3 %8)≠0:=Nat.ne_of_gt (Nat.pow_pos (by decide))
 have xb:c.a^^^2^(c.d3 %8)<256:=Nat.xor_lt_two_pow (n:=8) ha pb
 have xp:2^(c.d3 %8)^^^(c.a^^^2^(c.d3 %8))=c.a:=by rw[Nat.xor_comm c.a,←Nat.xor_assoc,Nat.xor_self,Nat.zero_xor]
 have xa:c.a^^^2^(c.d3 %8)≠c.a:=fun e=>p0 (by
  have q:c.a^^^(c.a^^^2^(c.d3 %8))=2^(c.d3 %8):=by rw[←Nat.xor_assoc,Nat.xor_self,Nat.zero_xor]
  rw[e,Nat.xor_self] at q
  exact q.symm)
 have hn11:64≤n+11:=by omega
 have hn10:64≤n+10:=by omega
 refine(kW (n:=n+11) (bits:=2^(c.d3 %8)) hK ho hn11 B (by omega)).go fun σ1 T1 U1 r1 B1 _ h2 x1 z1=>?_
 have h1':dr T1 (aW c.o c.a):=x1▸h1.app
 have ia:aO T1 (aW c.o c.a)=c.r:=by rw[er,x1,bR h1]
 refine(An (n:=n+10) (row:=6) hK hn10 B1 h1' h2 (by omega)).go fun σ2 T2 U2 r2 B2 _ h3 x2 z2=>?_
 rw[vQ ho (n:=0),wW ho] at h3 r2
 refine(kW (n:=n+11) (bits:=c.a^^^2^(c.d3 %8)) hK ho hn11 B2 (by omega)).go fun σ3 T3 U3 r3 B3 _ h4 x3 z3=>?_
 have hp2:dr T2 (aW c.o (2^(c.d3 %8))):=x2▸h2.app
 have hp3:dr T3 (aW c.o (2^(c.d3 %8))):=x3▸hp2.app
 have i3:aO T3 (aW c.o (2^(c.d3 %8)))=aO T1 (aW c.o (2^(c.d3 %8))):=by rw[x3,bR hp2,x2,bR h2]
 have i4:aO T3 (aW c.o (c.a^^^2^(c.d3 %8)))=aO T2 (aW c.o (c.a^^^2^(c.d3 %8))):=by rw[x3,bR h3]
 refine(An (n:=n+10) (row:=6) hK hn10 B3 hp3 h4 (by omega)).go fun σ4 T4 U4 r4 B4 _ h5 x4 z4=>?_
 rw[vQ ho (n:=0),wW ho,xp] at h5 r4
 have ha2:dr T2 (aW c.o c.a):=x2▸h1'.app
 have ia2:aO T2 (aW c.o c.a)=c.r:=by rw[x2,bR h1',ia]
 have ia4:aO T4 (aW c.o c.a)=c.r:=by rw[x4,x3,List.append_assoc,bR ha2,ia2]
 rw[ia] at r2
 rw[i3,i4] at r4
 rw[i4] at r3
 rw[ia4] at r4
 refine nG ⟨.int (aO T1 (aW c.o (2^(c.d3 %8)))),.int (aO T2 (aW c.o (c.a^^^2^(c.d3 %8)))),σ4,T4,B4,B8 B4.wf (x4▸hp3.app) p2,fun w hw=>?_⟩
 refine bD (bf (aa (af (v:=bO c.K 1 0) rfl) (aa (af (v:= .int (2^(c.d3 %8):Nat)) rfl) (aa (af (v:=dT c.o) rfl) (aa aj (au aj))))) r1) ?_
 refine bD (bf (aa (af (v:=bO c.K 1 0) rfl) (aa aj (aa (aN (af (v:= .lst [.int c.r,.int c.u]) rfl) aj rfl) (au (af (v:= .int (aO T1 (aW c.o (2^(c.d3 %8))))) rfl))))) r2) ?_
 refine gN (ρ:=lE c (tx p [("alone",.int (aO T1 (aW c.o (2^(c.d3 %8))))),("changed",.int (aO T2 (aW c.o (c.a^^^2^(c.d3 %8)))))])) (gb (aX (af rfl) (aN (af rfl) aj rfl) (zn ?_)) (gb (aX (af rfl) (bf (aa (af rfl) (aa (aC (af rfl) (af rfl) BX) (aa (af rfl) (aa aj (au aj))))) r3) AM)
  (aX (bf (aa (af rfl) (aa aj (aa (af rfl) (au (af rfl))))) r4) (aN (af rfl) aj rfl) AM))) (gN (Ai (t:=tx p [("alone",.int (aO T1 (aW c.o (2^(c.d3 %8))))),("changed",.int (aO T2 (aW c.o (c.a^^^2^(c.d3 %8)))))])) hw)
 ·rw[←ia2]
  exact beq_eq_false_iff_ne.mpr fun e=>xa (wX ho xb ha (iw h3 ha2 e))
end Mine.P
end
section
namespace Mine.P
structure Sh(K:bx)(σ:ah)(S:cj):Prop where
 at_:σ[0]? =some (.list (aG S))
 so:gV K S
 two:2≤S.length
 sm:S.length<64
 bd: ∀q∈S,∀c,(col q.1 c).natAbs≤1000
theorem uG{T:List Tr}(h:T.length<64): ∀z,(aO T z).natAbs≤1000
 | .leaf true=>(by decide:(1:Nat)≤1000)
 | .leaf false=>Nat.zero_le _
 | .node q u v=>by
  have:=List.idxOf_le_length (l:=T) (a:=Tr.node q u v)
  show(256+(T.idxOf (.node q u v):Nat):Int).natAbs≤1000
  omega
theorem sh_of{K:bx}{σ:ah}{T:List Tr}(B:Bk K σ 1 0 T)(h:2≤T.length): ∃S,Sh K σ S:=
 B.shelf.elim fun S e=>⟨S,e.1,e.2.1,by rw[e.2.2.1];exact h,by rw[e.2.2.1];exact B.small,fun q hq cc=>by
  refine((e.2.2.2 q).mp hq).elim fun i h=>h.elim fun t ht=>?_
  refine(B.wf.good t (List.mem_of_getElem? ht.1)).elim fun p g=>g.elim fun x g=>g.elim fun y g=>?_
  rw[ht.2,g.1]
  show(if cc=0 then(p:Int) else if cc=1 then aO T x else aO T y).natAbs≤1000
  by_cases h0:cc=0
  ·rw[if_pos h0];exact Nat.le_trans (Nat.le_of_lt g.2.1) (by decide)
  ·rw[if_neg h0]
   by_cases h1:cc=1
   ·rw[if_pos h1];exact uG B.small x
   ·rw[if_neg h1];exact uG B.small y⟩
theorem mH{f:V→V→Option Bool}: ∀{l:List V},(∀v∈l,f v v=some true)→mI f l l=some true
 |[],_=>rfl
 |v::l,h=>by
  exact cG (h v (List.mem_cons_self ..)) (cG (mH fun x hx=>h x (List.mem_cons_of_mem _ hx)) rfl)
theorem sS{n:Nat}{l:List V}(h: ∀v∈l,cT n v v=some true):cT (n+1) (.lst l) (.lst l)=some true:=(if_pos rfl).trans (mH h)
theorem Dh{n:Nat}{a:Int}:cT (n+1) (.int a) (.int a)=some true:=congrArg some (beq_self_eq_true a)
theorem pJ{n:Nat}{l:List Int}:cT (n+2) (.tup (l.map V.int)) (.tup (l.map V.int))=some true:=mH fun v hv=>by
 obtain⟨a,_,rfl⟩:=List.mem_map.mp hv
 exact Dh
theorem Df{n:Nat}{r:ic}{i:Int}:cT (n+2) (bT r i) (bT r i)=some true:=pJ (l:=[r.1,r.2.1,r.2.2,i])
theorem pI{n:Nat}{S:cj}:cT (n+3) (.lst (aG S)) (.lst (aG S))=some true:=sS fun v hv=>by
 obtain⟨q,_,rfl⟩:=List.mem_map.mp hv
 exact Df
theorem hU{α:Type}{g:α→V}{σ:ah}{l:List α}(h: ∀a,deref1 σ (g a)=g a):deref σ (.lst (l.map g))= .lst (l.map g):=congrArg V.lst ((List.map_map ..).trans (congrArg (fun f=>List.map f l) (funext h)))
theorem xE{σ:ah}{x y v:V}(hx:deref σ x=v)(hy:deref σ y=v)(h:cT 8 v v=some true):dn σ .ne x y=some false:=by
 show(cT 8 (deref σ x) (deref σ y)).bind (fun b=>some (!b))=_
 rw[hx,hy,h];rfl
theorem Dl{K:bx}{σ:ah}{S:cj}(H:Sh K σ S):deref σ (.ref 0)= .lst (aG S):=by
 show((σ[0]?).bind EN).getD (.ref 0)=_
 rw[H.at_];rfl
theorem rc{K:bx}(h:cA K): ∀{S:cj},gV K S→ja (S.map fun q=>kk K q.1)=true
 |[],_=>rfl
 |[_],_=>rfl
 |a::b::S,hs=>Bool.and_eq_true_iff.mpr ⟨(qb h).mp ((List.pairwise_cons.mp hs).1 b (List.mem_cons_self ..)),rc h (S:=b::S) (List.pairwise_cons.mp hs).2⟩
theorem pB{K:bx}: ∀{S:cj},jh (S.map fun q=> .lst ((kk K q.1).map V.int))=some (S.map fun q=>kk K q.1)
 |[]=>rfl
 |b::S=>by
  exact cG ki (cG pB rfl)
section
variable{C:Ctx}{call:aw}{ρ:Env}{σ σ1 σ2 σ3:ah}{a b:E}{x y:V}{xs zs ys:List V}
theorem E6{l:E}{k:Nat}{ws:List V}{ks:List (List Int)}(h1:bp C call a ρ σ= .ok (x,σ1))(h2:bp C call l ρ σ1= .ok (.clo k ws,σ2))(hl:dG σ2 x=some xs)(hm:fh call k ws xs σ2= .ok (zs,σ3))(hk:jh zs=some ks)(hr:ja ks=true∧2≤xs.length∧xs.length<64):bp C call (.sortKey a l) ρ σ= .ok (.lst xs,σ3):=by
 show ay.bind _ _=_
 exact cU h1 (cU h2 (bY hl (bY rfl (cU hm (bY hk (if_pos hr))))))
theorem E8(h1:bp C call a ρ σ= .ok (x,σ1))(h2:bp C call b ρ σ1= .ok (y,σ2))(hx:dG σ2 x=some xs)(hy:dG σ2 y=some ys):bp C call (.listZip a b) ρ σ= .ok (.lst ((xs.zip ys).map fun p=> .tup [p.1,p.2]),σ2):=by
 show ay.bind _ _=_
 refine cU h1 (cU h2 (bY (?_:_=some (V.lst ((xs.zip ys).map fun p:V×V=>V.tup [p.1,p.2]))) rfl))
 exact cG hx (cG hy rfl)
theorem lr{i:Nat}(h:σ[i]? =some (.list xs)):dG σ (.ref i)=some xs:=by
 exact d9 h
end
noncomputable def wayE:E:= .ite (.cmp .gt (.var "way") (.cst (.int 0))) (.cst (.int 1)) (.neg (.cst (.int 1)))
theorem l2_eq:l_2= .lcomp (.bin .mul wayE (.sub (.var "row") (.var "column"))) (.tup [.name "column",.name "way"]) (.var "keys") .no:=rfl
theorem Ds{α:Type}{o:ay α}{v:α}(e:o= .ok v):o.calm= .ok v:=by rw[e];rfl
section
variable{n:Nat}{K:bx}{σ:ah}
theorem Al{r:ic}{i:Int}(hK:cA K)(hb: ∀c,(col r c).natAbs≤1000):ak prog (n+1) (.clo 2 [dM K]) [bT r i] .none σ= .ok (.lst ((kk K r).map V.int),σ):=by
 refine Ds (o:=bp prog.toCtx (ak prog n) l_2 [("row",bT r i),("keys",dM K)] σ) ?_
 rw[kk,List.map_map,l2_eq]
 refine fb (l:=K) (g:=fun p=> .tup [.int p.1,.int p.2]) (b:=fun p=>[("column",.int p.1),("way",.int p.2)]) (nE rfl) (fun _ _=>rfl) fun p hp=>?_
 refine aC (x:= .int (if 0<p.2 then 1 else-1)) (nH (s:=decide (0<p.2)) (aX (af rfl) aj rfl) (fun h=>?_) (fun h=>?_)) (aN (af rfl) (af rfl) (il (hK p hp).1)) ?_
 ·rw[if_pos (of_decide_eq_true h)];exact aj
 ·rw[if_neg (of_decide_eq_false h)];exact pL aj
 ·exact gS (op:= .mul) (if_pos ⟨by split<;>decide,Nat.lt_of_le_of_lt (hb p.1) (by decide)⟩)
theorem uu(hK:cA K): ∀{S:cj},(∀q∈S,∀c,(col q.1 c).natAbs≤1000)→fh (ak prog (n+1)) 2 [dM K] (aG S) σ= .ok (S.map fun q=> .lst ((kk K q.1).map V.int),σ)
 |[],_=>rfl
 |q::S,h=>by
  show ay.bind _ _=_
  exact jN (Al hK (h q (List.mem_cons_self ..))) (cU (uu hK (S:=S) fun x hx=>h x (List.mem_cons_of_mem _ hx)) rfl)
noncomputable def Eb:bx→ic→ic→Int
 |[],_,_=>0
 |(c,w)::K,a,b=>if col a c=col b c then Eb K a b else(w.natAbs:Int)
theorem wF: ∀{K:bx} {a b:ic},bW K a b<0→Eb K a b= -bW K a b
 |[],a,b,h=>absurd h (Int.lt_irrefl 0)
 |(c,w)::K,a,b,h=>by
  show(if col a c=col b c then Eb K a b else(w.natAbs:Int))= -(if col a c<col b c then-w else if col b c<col a c then w else bW K a b)
  have h:(if col a c<col b c then-w else if col b c<col a c then w else bW K a b)<0:=h
  by_cases h1:col a c<col b c
  ·rw[if_pos h1] at h
   rw[if_pos h1,if_neg (Int.ne_of_lt h1),Int.neg_neg,Int.natAbs_of_nonneg (Int.le_of_lt (Int.neg_neg_iff_pos.mp h))]
  ·rw[if_neg h1] at h
   rw[if_neg h1]
   by_cases h2:col b c<col a c
   ·rw[if_pos h2] at h
    rw[if_pos h2,if_neg (Int.ne_of_gt h2),Int.ofNat_natAbs_of_nonpos (Int.le_of_lt h)]
   ·rw[if_neg h2] at h
    rw[if_neg h2,if_pos (Int.le_antisymm (Int.not_lt.mp h2) (Int.not_lt.mp h1))]
    exact wF h
noncomputable abbrev Pr:=(ic×Int)×(ic×Int)
noncomputable def DK(q:Pr):V:= .tup [bT q.1.1 q.1.2,bT q.2.1 q.2.2]
noncomputable def BR(S:cj):List Pr:=S.zip (S.drop 1)
theorem tC: ∀(A B:cj),((aG A).zip (aG B)).map (fun p=>V.tup [p.1,p.2])=(A.zip B).map DK
 |[],_=>rfl
 |_::_,[]=>rfl
 |a::A,b::B=>congrArg (DK (a,b):: ·) (tC A B)
theorem xA: ∀{S:cj},gV K S→ ∀q∈BR S,bW K q.1.1 q.2.1<0
 |[],_,_,h=>nomatch h
 |[_],_,_,h=>nomatch h
 |a::b::S,hs,q,h=>match List.mem_cons.mp (show q∈(a,b)::BR (b::S) from h) with
  | .inl e=>e▸(List.pairwise_cons.mp hs).1 b (List.mem_cons_self ..)
  | .inr h=>xA (List.pairwise_cons.mp hs).2 q h
end
end Mine.P
end
section
namespace Mine.P
noncomputable def apI:E:= .lcomp (.bi "abs" [.var "way"]) (.tup [.name "column",.name "way"]) (.var "keys") (.cmp .ne (.sub (.var "one") (.var "column")) (.sub (.var "two") (.var "column")))
noncomputable def apE:E:= .lcomp (.sub (.bin .add apI (.lst [.cst (.int 0)])) (.cst (.int 0))) (.tup [.name "one",.name "two"]) (.var "pairs") .no
noncomputable def Ec(K:bx)(S:cj):List Int:=(BR S).map fun q=>Eb K q.1.1 q.2.1
section
variable{n:Nat}{K:bx}{σ:ah}{call:aw}{ρ:Env}{S:cj}
theorem BE{a b:ic}: ∀K:bx,(((K.filter fun p=>!(col a p.1==col b p.1)).map fun p=>V.int (p.2.natAbs:Int))++[V.int 0])[0]? =some (.int (Eb K a b))
 |[]=>rfl
 |(c,w)::K=>by
  show _=some (V.int (if col a c=col b c then Eb K a b else(w.natAbs:Int)))
  by_cases h:col a c=col b c
  ·rw[if_pos h,List.filter_cons_of_neg (by rw[h,beq_self_eq_true];decide)];exact BE K
  ·rw[if_neg h,List.filter_cons_of_pos (by rw[beq_eq_false_iff_ne.mpr h];rfl)];rfl
theorem CI(hK:cA K)(hl:K.length≤900)(g1:aM ρ "keys" =some (dM K))(g2:aM ρ "pairs" =some (.lst ((BR S).map DK))):bp prog.toCtx call apE ρ σ= .ok (.lst ((Ec K S).map V.int),σ):=by
 rw[Ec,List.map_map]
 refine fb (l:=BR S) (g:=DK) (b:=fun q=>[("one",bT q.1.1 q.1.2),("two",bT q.2.1 q.2.2)]) (nE g2) (fun _ _=>rfl) fun q _=>?_
 have lf:(((K.filter fun p=>!(col q.1.1 p.1==col q.2.1 p.1)).map fun p=>V.int (p.2.natAbs:Int))++[V.int 0]).length≤901:=by
  rw[List.length_append,List.length_map]
  exact Nat.add_le_add_right (Nat.le_trans (List.length_filter_le _ _) hl) 1
 refine aN (aC (x:= .lst ((K.filter fun p=>!(col q.1.1 p.1==col q.2.1 p.1)).map fun p=>V.int (p.2.natAbs:Int))) (nS (l:=K) (g:=fun p=> .tup [.int p.1,.int p.2]) (b:=fun p=>[("column",.int p.1),("way",.int p.2)]) (nE (ρ:=[("one",bT q.1.1 q.1.2),("two",bT q.2.1 q.2.2)].reverse++ρ) g1) (fun _ _=>rfl) (fun p hp=>aX (aN (af rfl) (af rfl) (il (hK p hp).1)) (aN (af rfl) (af rfl) (il (hK p hp).1)) rfl) (fun p _ _=>jo (au (af rfl)) rfl)) (jZ (au aj)) (jJ (by rw[←List.length_append];exact Nat.le_trans lf (by decide)))) aj ?_
 exact rY (i:=0) (BE K) (Nat.lt_of_le_of_lt lf (by decide))
theorem xU: ∀{l:List Int},(∀z∈l,z≠0)→wk (fun y=>cT 7 y (.int 0)) (l.map V.int)=some false
 |[],_=>rfl
 |z::l,h=>by
  refine(cG (xU fun x hx=>h x (List.mem_cons_of_mem _ hx)) rfl:(wk (fun y=>cT 7 y (.int 0)) (l.map V.int)).bind _=some ((z==0)||false)).trans ?_
  rw[beq_eq_false_iff_ne.mpr (h z (List.mem_cons_self ..))];rfl
noncomputable def waL(K:bx)(S:cj):V:= .lst ((BR S).map fun q=> .tup [.int (bW K q.1.1 q.2.1),.int (bW K q.2.1 q.1.1)])
noncomputable def gs(m:String)(v:V):String×V:=(eQ m,gR m v)
noncomputable def aP(c:Lc)(p:Sx)(A C:V)(t:Env):Env:=lE c (tx p (("alone",A)::("changed",C)::t))
noncomputable def Eu(c:Lc)(p:Sx)(A C:V)(S:cj)(t:Env):Env:=aP c p A C (gs "keys" (dM c.K)::("due",.lst (aG S))::("pairs",.lst ((BR S).map DK))::("apart",.lst ((Ec c.K S).map V.int))::t)
variable{c:Lc}{p:Sx}{A D:V}{t:Env}
theorem CG(hK:cA c.K)(H:Sh c.K σ S):bp prog.toCtx (ak prog (n+1)) (.sortKey (.var "shelf") (.lam 2)) (aP c p A D [gs "keys" (dM c.K)]) σ= .ok (.lst (aG S),σ):=
 E6 (ks:=S.map fun q=>kk c.K q.1) (af rfl) rfl (lr H.at_) (uu (n:=n) hK H.bd) pB ⟨rc hK H.so,by rw[aG,List.length_map];exact⟨H.two,H.sm⟩⟩
theorem yY(H:Sh c.K σ S):bp prog.toCtx (ak prog (n+1)) (.listZip (.var "shelf") (.slice (.var "shelf") (.cst (.int 1)) .no)) (aP c p A D [gs "keys" (dM c.K)]) σ= .ok (.lst ((BR S).map DK),σ):=by
 have sl:cR σ (.ref 0) (.int 1) .none=some (.lst (aG (S.drop 1))):=by
  have e:=cK (σ:=σ) (v:= .ref 0) (lo:= .int 1) (hi:= .none) (l:=some ((1:Nat):Int)) (h:=none) (xs:=aG S) (lr H.at_) (cn (a:=1) (by decide)) rfl
  rw[iY (by rw[aG,List.length_map];exact Nat.le_of_succ_le H.two)] at e
  rw[e,aG,aG,List.map_drop]
 have e:=E8 (C:=prog.toCtx) (call:=ak prog (n+1)) (ρ:=aP c p A D [gs "keys" (dM c.K)]) (σ:=σ) (a:= .var "shelf") (b:= .slice (.var "shelf") (.cst (.int 1)) .no) (af rfl) (cw (af rfl) aj lJ sl) (lr H.at_) rfl
 rwa[tC] at e
theorem wa_eq(H:gV K S):waL K S= .lst ((Ec K S).map fun z=> .tup [.int (-z),.int z]):=by
 rw[Ec,List.map_map]
 refine congrArg V.lst (List.map_congr_left fun q hq=>?_)
 have h:=xA H q hq
 show _=V.tup [.int (-Eb K q.1.1 q.2.1),.int (Eb K q.1.1 q.2.1)]
 rw[wF h,Int.neg_neg,oo (K:=K) (a:=q.1.1) (b:=q.2.1)]
theorem EB(hK:cA c.K):bp prog.toCtx (ak prog (n+1)) (.lcomp (.tup [.compare (.var "comp") (.var "one") (.var "two"),.compare (.var "comp") (.var "two") (.var "one")]) (.tup [.name "one",.name "two"]) (.var "pairs") .no) (Eu c p A D S t) σ= .ok (waL c.K S,σ):=
 fb (l:=BR S) (g:=DK) (b:=fun q=>[("one",bT q.1.1 q.1.2),("two",bT q.2.1 q.2.2)]) (nE rfl) (fun _ _=>rfl) fun q _=>bF (aa (fG (af rfl) (af rfl) (af rfl) (gg hK)) (au (fG (af rfl) (af rfl) (af rfl) (gg hK))))
theorem Cw:bp prog.toCtx (ak prog (n+1)) (.lcomp (.tup [.neg (.var "way"),.var "way"]) (.name "way") (.var "apart") .no) (Eu c p A D S t) σ= .ok (.lst ((Ec c.K S).map fun z=> .tup [.int (-z),.int z]),σ):=
 fb (l:=Ec c.K S) (g:=V.int) (b:=fun z=>[("way",.int z)]) (nE rfl) (fun _ _=>rfl) fun z _=>bF (aa (pL (af rfl)) (au (af rfl)))
theorem law_5{w:ay (Fl×Env×ah)}(hK:cA c.K)(hl:c.K.length≤900)(H:Sh c.K σ S)(h:bk prog.toCtx (ak prog (n+20)) (n+20) (gJ.drop 18) (Eu c p A D S []) σ=w):bk prog.toCtx (ak prog (n+20)) (n+20) (gJ.drop 14) (aP c p A D []) σ=w:=by
 refine eH rfl (c8 (b:=[("due",.lst (aG S)),("pairs",.lst ((BR S).map DK))]) (bF (aa (CG (n:=n+19) hK H) (au (yY (n:=n+19) H)))) rfl (bD (CI (K:=c.K) (S:=S) hK hl rfl rfl) ?_))
 refine gN (ρ:=Eu c p A D S []) (gb (aX (af rfl) (af rfl) (xE (Dl H) (hU fun _=>rfl) pI)) (gb (aX aj (af rfl) (show(wk (fun y=>cT 7 y (.int 0)) ((Ec c.K S).map V.int)).or _=_ from FM (xU fun z hz=>?_))) (aX (EB (n:=n+19) hK) (Cw (n:=n+19)) ?_))) h
 ·refine(List.mem_map.mp hz).elim fun q hq=>?_
  rw[←hq.2,wF (xA H.so q hq.1)]
  exact Int.ne_of_gt (Int.neg_pos_of_neg (xA H.so q hq.1))
 ·rw[←wa_eq H.so]
  exact xE (hU fun _=>rfl) (hU fun _=>rfl) (sS fun v hv=>(List.mem_map.mp hv).elim fun q hq=>hq.2▸pJ (l:=[bW c.K q.1.1 q.2.1,bW c.K q.2.1 q.1.1]))
end
end Mine.P
end
section
namespace Mine.P
theorem Fe{K:bx}{S:cj}(hs:gV K S){k:Nat}{q:ic×Int}(h:S[k]? =some q): ∀i x,S[i]? =some x→(bW K x.1 q.1<0↔i<k):=by
 intro i x hx
 have hp:=List.pairwise_iff_getElem.mp hs
 have hk:=List.getElem?_eq_some_iff.mp h
 have hi:=List.getElem?_eq_some_iff.mp hx
 refine⟨fun hl=>Nat.lt_of_not_le fun h1=>?_,fun hl=>?_⟩
 ·rcases Nat.eq_or_lt_of_le h1 with e|h2
  ·rw[e,hx] at h
   rw[Option.some.inj h,fV] at hl
   exact Int.lt_irrefl 0 hl
  ·have:=hp k i hk.1 hi.1 h2
   rw[hk.2,hi.2,oo] at this
   exact Int.lt_irrefl 0 (Int.lt_trans (Int.neg_neg_iff_pos.mp this) hl)
 ·have:=hp i k hi.1 hk.1 hl
  rwa[hk.2,hi.2] at this
noncomputable def nU(S:cj)(r:ic)(k:Nat):cj:=S.take k++[(r,0)]++S.drop k
theorem uE{S:cj}{r:ic}{k:Nat}:aG (nU S r k)=(aG S).take k++[bT r 0]++(aG S).drop k:=by
 rw[nU,aG,List.map_append,List.map_append,aG,List.map_take,List.map_drop];rfl
section
variable{C:Ctx}{call:aw}{n:Nat}{ρ:Env}{σ σ1 σ2 σ3 σ4:ah}{a x lo:E}{u v z vs vd:V}{K:bx}{S:cj}{r:ic}
theorem s_try{key s d:String}{k:Nat}{ws:List V}{i:Int}{t:Bool}(h1:bp C call a ρ σ= .ok (u,σ1))(h2:bp C call x ρ σ1= .ok (v,σ2))(h3:bp C call lo ρ σ2= .ok (.int i,σ3))(hk:aM ρ key=some (.clo k ws))(hi:i<0)(hc:call (.clo k ws) [v] .none σ3= .ok (z,σ4))(hs:aM ρ s=some vs)(hd:aM ρ d=some vd)(he:cT 8 (deref σ4 vs) (deref σ4 vd)=some t):
  vG C call n (.tryIns a x lo key s d) ρ σ= .ok (.ret (.bool t),ρ,σ4):=by
 show ay.bind _ _=_
 exact jN h1 (jN h2 (jN h3 (bY rfl (bY (cG hk rfl) ((if_pos hi).trans (jN hc (bY hs (bY hd (bY he rfl)))))))))
theorem sX{i:Nat}{xs:List V}(h:σ[i]? =some (.list xs)):deref1 σ (.ref i)= .lst xs:=by
 show((σ[i]?).bind EN).getD (.ref i)=_
 rw[h];rfl
noncomputable def ky(K:bx)(r:ic):V:= .clo 3 [.inst (dM K),bT r 0]
theorem fnd{c lo hi:Nat}{hiV:V}{args:List V}(hK:cA K)(hn:66≤n)(h0:σ[0]? =some (.list (aG S)))(sm:S.length<64)(hb:fe ["a", "x", "lo", "hi"] [.none,.none,some (.int 0),some .none] args=some [("a",.ref 0),("x",.int 0),("lo",.int lo),("hi",hiV)])(hh:hiV= .int hi∨(hiV= .none∧hi=S.length))(h1:lo≤c)(h2:c≤hi)(h3:hi≤S.length)(hc: ∀i x,lo≤i→i<hi→S[i]? =some x→(bW K x.1 r<0↔i<c)):
  ak prog (n+20) (.fn "bisect_left") args (ky K r) σ= .ok (.int (c:Nat),σ):=kU (n:=n+17) (k:=3) hK (.inr (.inr rfl)) h0 sm hb hh h1 h2 h3 (Nat.le_trans (by decide) (Nat.le_trans hn (Nat.le_add_right ..))) hc
theorem v5{c i lo hi:Nat}{hiV:V}{args:List V}(hK:cA K)(hn:66≤n)(h0:σ[i]? =some (.list (aG S)))(sm:S.length<64)(hb:fe ["a", "x", "lo", "hi"] [.none,.none,some (.int 0),some .none] args=some [("a",.ref i),("x",bT r 0),("lo",.int lo),("hi",hiV)])(hh:hiV= .int hi∨(hiV= .none∧hi=S.length))(h1:lo≤c)(h2:c≤hi)(h3:hi≤S.length)(hc: ∀i x,lo≤i→i<hi→S[i]? =some x→(bW K x.1 r<0↔i<c)):
  ak prog (n+20) (.fn "insort_left") args (ky K r) σ= .ok (.none,σ.set i (.list (aG (nU S r c)))):=by
 have hl:(aG S).length=S.length:=List.length_map ..
 have e:=nZ (n:=n+17) (k:=3) (r:=r) (a:=r) (i:=0) (j:=0) (σ:=σ) hK (.inr (.inr rfl))
 rw[fV] at e
 rw[uE,List.append_assoc]
 exact j9 (n:=n+19) (key:=ky K r) (x:=bT r 0) (y:= .int 0) h0 (by rw[hl];exact Nat.le_trans h2 h3) (by rw[hl];exact Nat.lt_trans sm (by decide)) hb (.inr ⟨_,_,rfl,e⟩)
  (kU (n:=n+16) (k:=3) (j:=0) (args:=[.ref i,.int 0,.int lo,hiV]) hK (.inr (.inr rfl)) h0 sm rfl hh h1 h2 h3 (Nat.le_trans (by decide) (Nat.le_trans hn (Nat.le_add_right ..))) hc)
theorem sl_to{a:Nat}(h:σ[0]? =some (.list (aG S)))(ha:a≤S.length)(hl:S.length<64):cR σ (.ref 0) .none (.int (a:Nat))=some (.lst ((aG S).take a)):=by
 rw[cK (lr h) rfl (cn (Nat.lt_of_le_of_lt ha (Nat.lt_trans hl (by decide)))),mq (by rw[aG,List.length_map];exact ha)]
theorem Cn{a:Nat}(h:σ[0]? =some (.list (aG S)))(ha:a≤S.length)(hl:S.length<64):cR σ (.ref 0) (.int (a:Nat)) .none=some (.lst ((aG S).drop a)):=by
 rw[cK (lr h) (cn (Nat.lt_of_le_of_lt ha (Nat.lt_trans hl (by decide)))) rfl,iY (by rw[aG,List.length_map];exact ha)]
noncomputable def laE:E:= .bin .add (.bin .add (.slice (.var "shelf") .no (.var "at")) (.lst [.var "twin"])) (.slice (.var "shelf") (.var "at") .no)
theorem EC{a:Nat}(g1:aM ρ "shelf" =some (.ref 0))(g2:aM ρ "twin" =some (bT r 0))(g3:aM ρ "at" =some (.int a))(h:σ[0]? =some (.list (aG S)))(ha:a≤S.length)(hl:S.length<64):bp C call laE ρ σ= .ok (.lst (aG (nU S r a)),σ):=by
 have h1:((aG S).take a).length≤64:=by rw[List.length_take,aG,List.length_map];exact Nat.le_trans (Nat.min_le_right ..) (Nat.le_of_lt hl)
 have h2:((aG S).drop a).length≤64:=by rw[List.length_drop,aG,List.length_map];exact Nat.le_trans (Nat.sub_le ..) (Nat.le_of_lt hl)
 rw[uE]
 exact aC (aC (cw (af g1) lJ (af g3) (sl_to h ha hl)) (jZ (au (af g2))) (jJ (Nat.le_trans (Nat.add_le_add_right h1 1) (by decide)))) (cw (af g1) (af g3) lJ (Cn h ha hl)) (jJ (by rw[List.length_append];exact Nat.le_trans (Nat.add_le_add (Nat.add_le_add_right h1 1) h2) (by decide)))
end
end Mine.P
end
section
namespace Mine.P
noncomputable def u4(K:bx)(k:Nat)(r:ic)(l:V)(t:Env):Env:=("k",.int k)::("twin",bT r 0)::("laid",l)::gs "comp" (.inst (dM K))::gs "twin" (bT r 0)::("key",ky K r)::t
noncomputable def plV(k:Nat):V:= .tup [.int ((k+1:Nat):Int),.int ((k/2:Nat):Int)]
structure Ld(σ:ah)(S:cj)(i j k:Nat):Prop where
 z:σ[0]? =some (.list (aG S))
 fi:σ[i]? =some (.list (aG S))
 fj:σ[j]? =some (.list (aG S))
 fk:σ[k]? =some (.list (aG S))
 i0:0<i
 ij:i<j
 jk:j<k
section
variable{n k:Nat}{σ:ah}{K:bx}{S:cj}{r:ic}{c:Lc}{p:Sx}{A D:V}{w:ay (Fl×Env×ah)}
theorem ld_of(h:σ[0]? =some (.list (aG S))):Ld (σ++[.list (aG S)]++[.list (aG S)]++[.list (aG S)]) S σ.length (σ.length+1) (σ.length+2):=by
 have gt: ∀(τ:ah) (m:MO),(τ++[m])[τ.length]? =some m:=fun τ m=>by rw[List.getElem?_append_right (Nat.le_refl _),Nat.sub_self];rfl
 have l1: ∀(τ:ah) (m:MO),(τ++[m]).length=τ.length+1:=fun τ m=>List.length_append
 have k1:=bZ.app σ [MO.list (aG S)]
 have k2:=bZ.app (σ++[MO.list (aG S)]) [MO.list (aG S)]
 have k3:=bZ.app (σ++[MO.list (aG S)]++[MO.list (aG S)]) [MO.list (aG S)]
 have g1:=gt (σ++[MO.list (aG S)]) (MO.list (aG S))
 have g2:=gt (σ++[MO.list (aG S)]++[MO.list (aG S)]) (MO.list (aG S))
 have h0:=(List.getElem?_eq_some_iff.mp h).1
 rw[l1] at g1
 rw[l1,l1] at g2
 exact⟨(((k1.trans k2).trans k3).get 0 h0).trans h,((k2.trans k3).get _ (by rw[l1];exact Nat.lt_succ_self _)).trans (gt _ _),(k3.get _ (by rw[l1,l1];exact Nat.lt_succ_self _)).trans g1,g2,h0,Nat.lt_succ_self _,Nat.lt_succ_self _⟩
theorem law_7{i j m:Nat}(hK:cA c.K)(hS:S.length<64)(hk:k<S.length)(hp:p.y= .tup [.none,.none,.none])(z0:σ[0]? =some (.list (aG S)))(z1:σ[i]? =some (.list (aG (nU S r k))))(z2:σ[j]? =some (.list (aG (nU S r (k+1)))))(z3:σ[m]? =some (.list (aG (nU S r (k/2))))):
  ∃ρ',bk prog.toCtx (ak prog (n+20)) (n+20) (gJ.drop 25) (Eu c p A D S (u4 c.K k r (.lst [.ref i,.ref j,.ref m]) [("places",plV k)])) σ= .ok (.ret (.bool true),ρ',σ):=by
 have dv: ∀τ:ah,cX τ .div (.int (k:Nat)) (.int 2)=some (.int ((k/2:Nat):Int)):=fun _=>eD (b:=2) (by decide) (by decide)
 have k2:k/2≤S.length:=Nat.le_trans (Nat.div_le_self ..) (Nat.le_of_lt hk)
 have lz: ∀z∈[k,k+1,k/2],z≤S.length:=fun z hz=>by
  rcases List.mem_cons.mp hz with rfl|hz
  ·exact Nat.le_of_lt hk
  ·rcases List.mem_cons.mp hz with rfl|hz
   ·exact hk
   ·rw[List.mem_singleton.mp hz];exact k2
 have d0:deref σ (.ref 0)= .lst (aG S):=sX z0
 refine⟨_,gN (gb (aX (af (v:=plV k) rfl) (bF (aa (aC (af (v:= .int k) rfl) aj rfl) (au (aC (af (v:= .int k) rfl) aj (dv _))))) (xE (v:=plV k) rfl rfl (pJ (l:=[((k+1:Nat):Int),((k/2:Nat):Int)])))) (gb (aX (af (v:=p.y) rfl) (bF (aa aj (aa aj (au aj)))) (by rw[hp];rfl))
  (aX (af (v:= .lst [.ref i,.ref j,.ref m]) rfl) (fb (elt:=laE) (l:=[k,k+1,k/2]) (g:=bc) (b:=fun z=>[("at",bc z)]) (e:=fun z=> .lst (aG (nU S r z))) (xZ rfl (bF (aa (af (v:= .int k) rfl) (aa (aC (af (v:= .int k) rfl) aj rfl) (au (aC (af (v:= .int k) rfl) aj (dv _)))))) rfl) (fun _ _=>rfl) (fun z hz=>EC rfl rfl rfl z0 (lz z hz) hS)) (xE (v:= .lst ([k,k+1,k/2].map fun z=> .lst (aG (nU S r z)))) ?_ (hU fun _=>rfl) (sS fun v hv=>?_)))))
  (wP (s_try (af (v:= .ref 0) rfl) (af (v:=bT r 0) rfl) (aC (pL aj) (aC (aN (af (v:=drV c) rfl) aj rfl) aj (dw (b:=3) (by decide))) rfl) (k:=3) (ws:=[.inst (dM c.K),bT r 0]) rfl (Int.lt_of_le_of_lt (Int.sub_le_self _ (Int.natCast_nonneg _)) (by decide)) (nZ (n:=n+18) hK (.inr (.inr rfl))) (vs:= .ref 0) (vd:= .lst (aG S)) rfl rfl (by rw[d0,show deref σ (.lst (aG S))=_ from hU fun _=>rfl];exact pI)))⟩
 ·show V.lst [deref1 σ (.ref i),deref1 σ (.ref j),deref1 σ (.ref m)]=_
  rw[sX z1,sX z2,sX z3];rfl
 ·exact(List.mem_map.mp hv).elim fun z hz=>hz.2▸pI
structure Th(n:Nat)(K:bx)(S:cj)(r:ic)(k i j m:Nat)(σ τ1 τ2 τ:ah):Prop where
 e1:ak prog (n+20) (.fn "insort_left") [.ref i,bT r 0] (ky K r) σ= .ok (.none,τ1)
 e2:ak prog (n+20) (.fn "insort_left") [.ref j,bT r 0,.int ((k+1:Nat):Int)] (ky K r) τ1= .ok (.none,τ2)
 e3:ak prog (n+20) (.fn "insort_left") [.ref m,bT r 0,.int (0:Nat),.int ((k/2:Nat):Int)] (ky K r) τ2= .ok (.none,τ)
 z0:τ[0]? =some (.list (aG S))
 z1:τ[i]? =some (.list (aG (nU S r k)))
 z2:τ[j]? =some (.list (aG (nU S r (k+1))))
 z3:τ[m]? =some (.list (aG (nU S r (k/2))))
structure FS(K:bx)(S:cj)(r:ic)(k:Nat):Prop where
 hk:k<S.length
 sm:S.length<64
 cut: ∀i x,S[i]? =some x→(bW K x.1 r<0↔i<k)
theorem FS.c1(H:FS K S r k): ∀i x,k+1≤i→i<S.length→S[i]? =some x→(bW K x.1 r<0↔i<k+1):=fun i x h1 _ h=>⟨fun h2=>absurd ((H.cut i x h).mp h2) (Nat.not_lt.mpr (Nat.le_of_succ_le h1)),fun h2=>absurd h2 (Nat.not_lt.mpr h1)⟩
theorem FS.c2(H:FS K S r k): ∀i x,0≤i→i<k/2→S[i]? =some x→(bW K x.1 r<0↔i<k/2):=fun i x _ h1 h=>⟨fun _=>h1,fun _=>(H.cut i x h).mpr (Nat.lt_of_lt_of_le h1 (Nat.div_le_self ..))⟩
theorem th_of{i j m:Nat}(hn:66≤n)(hK:cA K)(H:FS K S r k)(L:Ld σ S i j m): ∃τ1 τ2 τ,Th n K S r k i j m σ τ1 τ2 τ:=by
 have kl:=Nat.le_of_lt H.hk
 have ij:=Nat.ne_of_lt L.ij
 have jm:=Nat.ne_of_lt L.jk
 have im:=Nat.ne_of_lt (Nat.lt_trans L.ij L.jk)
 have i0:=Nat.ne_of_gt L.i0
 have j0:=Nat.ne_of_gt (Nat.lt_trans L.i0 L.ij)
 have m0:=Nat.ne_of_gt (Nat.lt_trans L.i0 (Nat.lt_trans L.ij L.jk))
 have li:=(List.getElem?_eq_some_iff.mp L.fi).1
 have lj:=(List.getElem?_eq_some_iff.mp L.fj).1
 have lk:=(List.getElem?_eq_some_iff.mp L.fk).1
 refine⟨_,_,_,v5 (lo:=0) (hiV:= .none) hK hn L.fi H.sm rfl (.inr ⟨rfl,rfl⟩) (Nat.zero_le _) kl (Nat.le_refl _) fun i x _ _ h=>H.cut i x h,
  v5 (hiV:= .none) hK hn ((List.getElem?_set_ne ij).trans L.fj) H.sm rfl (.inr ⟨rfl,rfl⟩) (Nat.le_refl _) H.hk (Nat.le_refl _) H.c1,
  v5 (hiV:= .int ((k/2:Nat):Int)) hK hn ((List.getElem?_set_ne jm).trans ((List.getElem?_set_ne im).trans L.fk)) H.sm rfl (.inl rfl) (Nat.zero_le _) (Nat.le_refl _) (Nat.le_trans (Nat.div_le_self ..) kl) H.c2,?_,?_,?_,?_⟩
 ·exact(List.getElem?_set_ne m0).trans ((List.getElem?_set_ne j0).trans ((List.getElem?_set_ne i0).trans L.z))
 ·exact(List.getElem?_set_ne im.symm).trans ((List.getElem?_set_ne ij.symm).trans (List.getElem?_set_self li))
 ·exact(List.getElem?_set_ne jm.symm).trans (List.getElem?_set_self (by rw[List.length_set];exact lj))
 ·exact List.getElem?_set_self (by rw[List.length_set,List.length_set];exact lk)
set_option maxHeartbeats 8000000 in
theorem law_6(hn:66≤n)(hK:cA c.K)(H:Sh c.K σ S): ∃ρ' σ',bk prog.toCtx (ak prog (n+20)) (n+20) (gJ.drop 18) (Eu c p A D S []) σ= .ok (.ret (.bool true),ρ',σ'):=by
 refine iF fun nG=>?_
 have hS:=H.sm
 have hk:c.d3 %S.length<S.length:=Nat.mod_lt _ (Nat.lt_of_lt_of_le (by decide) H.two)
 have hm:cX σ .mod (.int c.d3) (.int (aG S).length)=some (.int (c.d3 %S.length:Nat)):=by rw[aG,List.length_map];exact dw (Nat.lt_of_lt_of_le (by decide) H.two)
 generalize c.d3 %S.length=k at hk hm
 refine(show∃q,S[k]? =some q from⟨S[k],List.getElem?_eq_getElem hk⟩).elim fun q hq=>?_
 have Q:FS c.K S q.1 k:=⟨hk,hS,Fe H.so hq⟩
 have sk:dE σ (.ref 0) (.int (k:Nat))=some (bT q.1 q.2):=jy H.at_ (by rw[aG,List.getElem?_map,hq];rfl) (by rw[aG,List.length_map];exact Nat.lt_trans hS (by decide))
 have dv: ∀τ:ah,cX τ .div (.int (k:Nat)) (.int 2)=some (.int ((k/2:Nat):Int)):=fun _=>eD (b:=2) (by decide) (by decide)
 have lE:bp prog.toCtx (ak prog (n+20)) (.lst [.listM (.var "shelf"),.listM (.var "shelf"),.listM (.var "shelf")]) (Eu c p A D S [("k",.int k)]) σ= .ok (.lst [.ref σ.length,.ref (σ.length+1),.ref (σ.length+2)],σ++[MO.list (aG S)]++[MO.list (aG S)]++[MO.list (aG S)]):=by
  have l1:(σ++[MO.list (aG S)]).length=σ.length+1:=List.length_append
  have l2:(σ++[MO.list (aG S)]++[MO.list (aG S)]).length=σ.length+2:=by rw[List.length_append,l1];rfl
  rw[←l1,←l2]
  have h1:=((bZ.app σ [MO.list (aG S)]).get 0 (List.getElem?_eq_some_iff.mp H.at_).1).trans H.at_
  exact jZ (aa (sV (af rfl) (gf H.at_)) (aa (sV (af rfl) (gf h1)) (au (sV (af rfl) (gf (((bZ.app _ [MO.list (aG S)]).get 0 (List.getElem?_eq_some_iff.mp h1).1).trans h1))))))
 have L:=ld_of H.at_
 generalize σ++[MO.list (aG S)]++[MO.list (aG S)]++[MO.list (aG S)]=σ1 at lE L
 generalize σ.length=i at lE L
 have f1:=fnd (args:=[.ref 0,.int 0,.int ((k+1:Nat):Int)]) (hiV:= .none) hK hn L.z hS rfl (.inr ⟨rfl,rfl⟩) (Nat.le_refl _) hk (Nat.le_refl _) Q.c1
 have f2:=fnd (args:=[.ref 0,.int 0,.int (0:Nat),.int ((k/2:Nat):Int)]) (hiV:= .int ((k/2:Nat):Int)) hK hn L.z hS rfl (.inl rfl) (Nat.zero_le _) (Nat.le_refl _) (Nat.le_trans (Nat.div_le_self ..) (Nat.le_of_lt hk)) Q.c2
 refine(th_of (n:=n) hn hK Q L).elim fun τ1 g=>g.elim fun τ2 g=>g.elim fun τ T=>?_
 refine(law_7 (n:=n) (p:={p with y:= .tup [.none,.none,.none]}) (A:=A) (D:=D) hK hS hk rfl T.z0 T.z1 T.z2 T.z3).elim fun ρ' e=>nG ⟨ρ',τ,?_⟩
 refine bD (aC (aN (af (v:=drV c) rfl) aj rfl) (jo (au (af (v:= .ref 0) rfl)) (xL H.at_)) hm) ?_
 refine c8 (b:=[("twin",bT q.1 0),("laid",.lst [.ref i,.ref (i+1),.ref (i+2)])]) (v:= .tup [bT q.1 0,.lst [.ref i,.ref (i+1),.ref (i+2)]]) (bF (aa (aC (cw (aN (af (v:= .ref 0) rfl) (af (v:= .int k) rfl) sk) lJ aj rfl) (bF (au aj)) rfl) (au lE))) rfl ?_
 refine eH rfl (eH rfl (bD (v:=ky c.K q.1) (σ1:=σ1) rfl ?_))
 refine bD (v:=plV k) (bF (aa (gD (aa (af (v:= .ref 0) rfl) (aa aj (au (aC (af (v:= .int k) rfl) aj rfl)))) (af (v:=ky c.K q.1) rfl) f1) (au (gD (aa (af (v:= .ref 0) rfl) (aa aj (aa aj (au (aC (af (v:= .int k) rfl) aj (dv _)))))) (af (v:=ky c.K q.1) rfl) f2)))) ?_
 exact bD (v:= .tup [.none,.none,.none]) (bF (aa (gD (aa (aN (af (v:= .lst [.ref i,.ref (i+1),.ref (i+2)]) rfl) aj rfl) (au (af (v:=bT q.1 0) rfl))) (af (v:=ky c.K q.1) rfl) T.e1) (aa (gD (aa (aN (af (v:= .lst [.ref i,.ref (i+1),.ref (i+2)]) rfl) aj rfl) (aa (af (v:=bT q.1 0) rfl) (au (aC (af (v:= .int k) rfl) aj rfl)))) (af (v:=ky c.K q.1) rfl) T.e2) (au (gD (aa (aN (af (v:= .lst [.ref i,.ref (i+1),.ref (i+2)]) rfl) aj rfl) (aa (af (v:=bT q.1 0) rfl) (aa aj (au (aC (af (v:= .int k) rfl) aj (dv _)))))) (af (v:=ky c.K q.1) rfl) T.e3))))) e
end
theorem plain(s:List Int): ∃N σ',2≤N∧N≤90∧ak prog (N+1) (.fn "law") [.lst (s.map V.int)] .none []= .ok (.bool true,σ'):=by
 refine iF fun nG=>?_
 refine(law_1 s).elim fun o h=>h.elim fun K h=>?_
 refine(show∃n:Nat,n=66 from⟨66,rfl⟩).elim fun n hh=>?_
 have hn:66≤n:=Nat.le_of_eq hh.symm
 refine(law_2 (n:=n) (s:=s) (Nat.le_trans (by decide) hn) h.1 h.2.1.1).elim fun x g=>g.elim fun y g=>g.elim fun a g=>g.elim fun b g=>g.elim fun r g=>g.elim fun u g=>g.elim fun σ2 g=>g.elim fun T R=>?_
 refine(C1 (n:=n) (c:=lc s o K x y a b r u) hn h.1 R.B R.a8 R.b8 R.ha R.hb R.er R.eu).elim fun p g=>g.elim fun σ3 L=>?_
 refine(law_4 (n:=n) (c:=lc s o K x y a b r u) (p:=p) hn h.1 h.2.1.1 (R.B.up L.2) R.z R.a8 R.ha R.er).elim fun A g=>g.elim fun D g=>g.elim fun σ4 g=>g.elim fun T' P=>?_
 refine(sh_of P.B P.two).elim fun S H=>?_
 refine(law_6 (n:=n) (p:=p) (A:=A) (D:=D) hn h.2.1.1.ok H).elim fun ρ' g=>g.elim fun σ' e=>?_
 refine nG ⟨n+20,σ',by omega,by omega,fW (ρ:=[("script",.lst (s.map V.int))]) (ρ':=ρ') (fn:={params:=["script"],dflt:=[.none],key:=false,body:=gJ}) rfl rfl rfl ?_⟩
 exact h.2.2 _ _ (R.go _ (eH L.1 (P.go _ (law_5 h.2.1.1.ok (by rw[show(lc s o K x y a b r u).K=K from rfl,h.2.1.2];decide) H e))))
end Mine.P
end
section
namespace Mine
open PySem PySem.Builtin PySem.Builtin.Str PySem.StrLaws
noncomputable def cW:Nat→List Nat→List Nat
 |_,[]=>[]
 |i,c::r=>if c=32 then i::cW (i+1) r else cW (i+1) r
theorem vn{s r:List Nat}{i c:Nat}(h:s.drop i=c::r):(subAt ⟨s.toArray⟩ ⟨#[32]⟩ i=true)↔c=32:=by
 unfold subAt
 have e:(s.toArray.extract i (i+1))=#[c]:=by
  rw[List.extract_toArray,List.extract_eq_take_drop,h]
  simp
 show(s.toArray.extract i (i+1)==#[32])=true↔_
 rw[e]
 simp
theorem v8(s:List Nat): ∀(rest:List Nat) (i:Nat) (st:Array Nat×Nat),s.drop i=rest→i≤s.length→st.1.size≤i→st.2≤i→
  (forIn (List.range' i (rest.length+1)) st (occBody ⟨s.toArray⟩ ⟨#[32]⟩ s.length (s.length+1))).run.fst.toList=st.1.toList++cW i rest
 |[],i,st,h,hi,h1,h2=>by
  have hn:s.length≤i:=by have:=congrArg List.length h;simp at this;omega
  have er:List.range' i (([]:List Nat).length+1)=[i]:=rfl
  rw[er,List.forIn_cons]
  unfold occBody
  rw[if_neg (fun hc=>by have:i+1≤s.length:=hc.1.2;omega)]
  simp [cW]
 |c::r,i,st,h,hi,h1,h2=>by
  have hlt:i<s.length:=by
   have:=congrArg List.length h
   simp at this;omega
  have hd:s.drop (i+1)=r:=by
   have:=congrArg List.tail h
   simpa using this
  have er:List.range' i ((c::r).length+1)=i::List.range' (i+1) (r.length+1):=rfl
  rw[er,List.forIn_cons]
  unfold cW
  by_cases hc:c=32
  ·rw[if_pos hc]
   have hb:((st.fst.size<s.length+1∧st.snd≤i)∧i+(⟨#[32]⟩:PySem.Str).length≤s.length)∧subAt ⟨s.toArray⟩ ⟨#[32]⟩ i=true:=⟨⟨⟨by omega,h2⟩,by show i+1≤_;omega⟩,(vn h).mpr hc⟩
   have e:occBody ⟨s.toArray⟩ ⟨#[32]⟩ s.length (s.length+1) i st=pure (ForInStep.yield (st.fst.push i,i+1)):=by
    unfold occBody
    rw[if_pos hb];rfl
   rw[e]
   have:=v8 s r (i+1) (st.fst.push i,i+1) hd (by omega) (by simp;omega) (Nat.le_refl _)
   simp only [Array.toList_push,List.append_assoc,List.singleton_append] at this
   exact this
  ·rw[if_neg hc]
   have e:occBody ⟨s.toArray⟩ ⟨#[32]⟩ s.length (s.length+1) i st=pure (ForInStep.yield (st.fst,st.snd)):=by
    unfold occBody
    rw[if_neg (fun hb=>hc ((vn h).mp hb.2))]
   rw[e]
   exact v8 s r (i+1) (st.fst,st.snd) hd (by omega) (by show st.fst.size≤_;omega) (by show st.snd≤_;omega)
theorem um(s:List Nat):occurrences ⟨s.toArray⟩ ⟨#[32]⟩ 0 s.length (s.length+1)=cW 0 s:=by
 rw[occ_eq]
 have:=v8 s s 0 (#[],0) rfl (Nat.zero_le _) (Nat.le_refl _) (Nat.le_refl _)
 simpa using this
theorem oW(s:List Nat): ∀(rest:List Nat) (i a:Nat) (acc:List Nat),s.drop i=rest→i≤s.length→a≤i→acc.reverse=(s.drop a).take (i-a)→
  partsFrom ⟨s.toArray⟩ 1 a (cW i rest)=(bv rest acc).map fun l=>(⟨l.toArray⟩:PySem.Str)
 |[],i,a,acc,h,hi,ha,hacc=>by
  have hn:s.length≤i:=by have:=congrArg List.length h;simp at this;omega
  have e:i=s.length:=by omega
  subst e
  show [strSub ⟨s.toArray⟩ a s.length]=_
  simp only [bv,List.map_cons,List.map_nil,hacc,strSub]
  rw[List.extract_toArray,List.extract_eq_take_drop]
 |c::r,i,a,acc,h,hi,ha,hacc=>by
  have hlt:i<s.length:=by
   have:=congrArg List.length h
   simp at this;omega
  have hd:s.drop (i+1)=r:=by
   have:=congrArg List.tail h
   simpa using this
  unfold cW bv
  by_cases hc:c=32
  ·rw[if_pos hc,if_pos hc]
   show strSub ⟨s.toArray⟩ a i::partsFrom ⟨s.toArray⟩ 1 (i+1) (cW (i+1) r)=_
   rw[oW s r (i+1) (i+1) [] hd (by omega) (Nat.le_refl _) (by simp)]
   simp only [List.map_cons,hacc,strSub]
   rw[List.extract_toArray,List.extract_eq_take_drop]
  ·rw[if_neg hc,if_neg hc]
   refine oW s r (i+1) a (c::acc) hd (by omega) (by omega) ?_
   rw[List.reverse_cons,hacc,show i+1-a=(i-a)+1 by omega,List.take_add_one]
   congr 1
   have:(s.drop a)[i-a]? =some c:=by
    rw[List.getElem?_drop,show a+(i-a)=i by omega]
    have:=congrArg (·[0]?) h
    simpa using this
   rw[this];rfl
theorem tT(s:List Nat):partsBetween ⟨s.toArray⟩ (occurrences ⟨s.toArray⟩ ⟨#[32]⟩ 0 s.length (s.length+1)) 1=(bv s []).map fun l=>(⟨l.toArray⟩:PySem.Str):=by
 rw[partsBetween_eq,um]
 exact oW s s 0 0 [] rfl (Nat.zero_le _) (Nat.le_refl _) (by simp)
theorem rC: ∀{s:List Nat} {i:Nat},32∈s→(cW i s).isEmpty=false
 |c::r,i,h=>by
  unfold cW
  by_cases hc:c=32
  ·rw[if_pos hc];rfl
  ·rw[if_neg hc]
   exact rC ((List.mem_cons.mp h).resolve_left fun e=>hc e.symm)
theorem gP: ∀(s acc:List Nat),(bv s acc).length≤s.length+1
 |[],_=>by simp [bv]
 |c::r,acc=>by
  unfold bv
  split
  ·simp only [List.length_cons];have:=gP r [];omega
  ·have:=gP r (c::acc);simp only [List.length_cons];omega
theorem io: ∀(s acc:List Nat) (x:List Nat),x∈bv s acc→x.length≤s.length+acc.length
 |[],acc,x,h=>by simp [bv] at h;subst h;simp
 |c::r,acc,x,h=>by
  unfold bv at h
  split at h
  ·rcases List.mem_cons.mp h with rfl|h
   ·simp
   ·have:=io r [] x h;simp at this⊢;omega
  ·have:=io r (c::acc) x h;simp at this⊢;omega
end Mine
end
section
namespace Mine
open PySem PySem.W PyProof.Rows
noncomputable abbrev Fz:=Addr→Option Obj
noncomputable def Fz.le(P P':Fz):Prop:= ∀a o,P a=some o→P' a=some o
noncomputable def Fz.on(P:Fz)(h:Heap):Prop:= ∀a o,P a=some o→h.get? a=some o
noncomputable def Fz.add(P:Fz)(a:Addr)(o:Obj):Fz:=fun b=>if b=a then some o else P b
structure Wd where
 P:Fz
 ads:List Addr
structure Wd.le(W W':Wd):Prop where
 P:W.P.le W'.P
 ads: ∀(i:Nat) (a:Addr),W.ads[i]? =some a→W'.ads[i]? =some a
theorem Fz.le.trans{P P' P'':Fz}(x:P.le P')(y:P'.le P''):P.le P'':=fun a o e=>y a o (x a o e)
theorem Wd.le.refl(W:Wd):W.le W:=⟨fun _ _ e=>e,fun _ _ e=>e⟩
theorem Wd.le.trans{W W' W'':Wd}(x:W.le W')(y:W'.le W''):W.le W'':=⟨fun a o e=>y.P a o (x.P a o e),fun i a e=>y.ads i a (x.ads i a e)⟩
noncomputable def br(cls:String)(o:Obj)(vs:List Value):Prop:=o.cls= .type cls∧o.dict=none∧o.slots=#[]∧ ∃n,o.data= .seq vs.toArray n
structure bg where
 base:Fz
 inst:Fz→Value→Value→Prop
 inst_le: ∀{P P':Fz},P.le P'→ ∀{a v},inst P a v→inst P' a v
 inst_ref: ∀{P:Fz} {a v},inst P a v→ ∃x,a= .ref x
 clo:Fz→Nat→Value→List Value→Prop
 clo_le: ∀{P P':Fz},P.le P'→ ∀{k a vs},clo P k a vs→clo P' k a vs
 clo_ref: ∀{P:Fz} {k a vs},clo P k a vs→ ∃x,a= .ref x
 exn:Fz→Value→List Nat→Prop
 exn_le: ∀{P P':Fz},P.le P'→ ∀{a m},exn P a m→exn P' a m
 tabs:List (Addr×Str)
section
variable(prog:Program)(w:World)(H:bg)
noncomputable def ck(o:Obj)(kvs:List (Int×Value)):Prop:=
 o.ExactDict∧ ∃es ep,o.data= .dict es ep∧KeysOf (intKind prog w) es∧Pairs (intKind prog w) es.toList kvs∧(kvs.map (·.1)).Nodup
structure tw(W:Wd)(c:String)(n:Nat)(R:List Value→Prop)(v:Value)(a:Addr)(o:Obj)(vs:List Value):Prop where
 e:v= .ref a
 p:W.P a=some o
 q:br c o vs
 r:R vs
 n:n≤cP
structure vA(W:Wd)(ks:List Int)(n:Nat)(R:List Value→Prop)(v:Value)(a:Addr)(o:Obj)(vs:List Value):Prop where
 e:v= .ref a
 p:W.P a=some o
 q:ck prog w o (ks.zip vs)
 r:R vs
 l:ks.length=n
 n:n≤cP
 m:(a==sysModules)=false
mutual
noncomputable def bj(W:Wd):V→Value→Prop
 | .none,v=>v= .none
 | .bool b,v=>v= .bool b
 | .int i,v=> ∃t,v= .int i t
 | .str s,v=> ∃t,v= .str ⟨s.toArray⟩ t∧s.length≤cP
 | .tup xs,v=> ∃a o vs,tw W "tuple" xs.length (ar W xs) v a o vs
 | .lst xs,v=> ∃a o vs,tw W "list" xs.length (ar W xs) v a o vs
 | .dict ks xs,v=> ∃a o vs,vA prog w W ks xs.length (ar W xs) v a o vs
 | .ref i,v=> ∃a,v= .ref a∧W.ads[i]? =some a
 | .inst x,v=> ∃y,H.inst W.P v y∧bj W x y
 | .clo k xs,v=> ∃vs,H.clo W.P k v vs∧ar W xs vs
 | .exn m,v=>H.exn W.P v m
noncomputable def ar(W:Wd):List V→List Value→Prop
 |[],vs=>vs=[]
 |x::r,vs=> ∃v q,vs=v::q∧bj W x v∧ar W r q
end
end
section
variable{prog:Program}{w:World}{H:bg}{W W':Wd}
theorem tw.le{c:String}{n:Nat}{R R':List Value→Prop}{v:Value}(l:W.le W')(f: ∀vs,R vs→R' vs)(h: ∃a o vs,tw W c n R v a o vs): ∃a o vs,tw W' c n R' v a o vs:=
 jC h fun a o vs x=>⟨a,o,vs,x.e,l.P _ _ x.p,x.q,f _ x.r,x.n⟩
theorem vA.le{ks:List Int}{n:Nat}{R R':List Value→Prop}{v:Value}(l:W.le W')(f: ∀vs,R vs→R' vs)(h: ∃a o vs,vA prog w W ks n R v a o vs): ∃a o vs,vA prog w W' ks n R' v a o vs:=
 jC h fun a o vs x=>⟨a,o,vs,x.e,l.P _ _ x.p,x.q,f _ x.r,x.l,x.n,x.m⟩
mutual
theorem bj.le(l:W.le W'): ∀{x:V} {v:Value},bj prog w H W x v→bj prog w H W' x v
 | .none,_,h=>h
 | .bool _,_,h=>h
 | .int _,_,h=>h
 | .str _,_,h=>h
 | .tup _,_,h=>tw.le l (fun _=>ar.le l) h
 | .lst _,_,h=>tw.le l (fun _=>ar.le l) h
 | .dict _ _,_,h=>vA.le l (fun _=>ar.le l) h
 | .ref _,_,h=>aA h fun a e p=>Exists.intro a ⟨e,l.ads _ _ p⟩
 | .inst _,_,h=>aA h fun y p q=>Exists.intro y ⟨H.inst_le l.P p,bj.le l q⟩
 | .clo _ _,_,h=>aA h fun vs p q=>Exists.intro vs ⟨H.clo_le l.P p,ar.le l q⟩
 | .exn _,_,h=>H.exn_le l.P h
theorem ar.le(l:W.le W'): ∀{x:List V} {v:List Value},ar prog w H W x v→ar prog w H W' x v
 |[],_,h=>h
 |_::_,_,h=>cI h fun v q e p t=>Exists.intro v (Exists.intro q ⟨e,bj.le l p,ar.le l t⟩)
end
theorem ar.nil:ar prog w H W [] []:=rfl
theorem ar.cons{x:V}{r:List V}{v:Value}{q:List Value}(h:bj prog w H W x v)(t:ar prog w H W r q):ar prog w H W (x::r) (v::q):=Exists.intro v (Exists.intro q ⟨rfl,h,t⟩)
theorem cy{x:V}{r:List V}(vs:List Value)(h:ar prog w H W (x::r) vs){P:List Value→Prop}(k: ∀v q,bj prog w H W x v→ar prog w H W r q→P (v::q)):P vs:=cI h fun v q e p t=>Eq.subst (motive:=P) e.symm (k v q p t)
theorem qF(vs:List Value)(h:ar prog w H W [] vs){P:List Value→Prop}(k:P []):P vs:=Eq.subst (motive:=P) (Eq.symm h) k
theorem ar.uncons{x:V}{r:List V}{v:Value}{q:List Value}(h:ar prog w H W (x::r) (v::q)):bj prog w H W x v∧ar prog w H W r q:=cI h fun v' q' e p t=>⟨(List.cons.inj e).1▸p,(List.cons.inj e).2▸t⟩
theorem ar.length: ∀{x:List V} {v:List Value},ar prog w H W x v→v.length=x.length
 |[],v,h=>by
  apply qF v h;rfl
 |_::_,v,h=>by
  apply cy v h;intro _ _ _ t
  exact congrArg (· +1) (ar.length t)
theorem ar.get: ∀{x:List V} {v:List Value} {i:Nat} {y:V},ar prog w H W x v→x[i]? =some y→ ∃u,v[i]? =some u∧bj prog w H W y u
 |[],_,_,_,_,e=>nomatch e
 |_::_,v,0,_,h,e=>by
  apply cy v h;intro u _ p _
  exact⟨u,rfl,Option.some.inj e▸p⟩
 |_::_,v,i+1,_,h,e=>by
  apply cy v h;intro _ _ _ t
  exact ar.get (i:=i) t e
theorem ar.get': ∀{x:List V} {v:List Value} {i:Nat} {u:Value},ar prog w H W x v→v[i]? =some u→ ∃y,x[i]? =some y∧bj prog w H W y u:=fun{x v i u} h e=>by
 cases q:x[i]? with
 |none=>
  rw[List.getElem?_eq_none (by rw[h.length];exact List.getElem?_eq_none_iff.mp q)] at e
  cases e
 |some y=>exact aA (h.get q) fun u' e' R=>⟨y,rfl,Option.some.inj (e'.symm.trans e)▸R⟩
theorem ar.append: ∀{x y:List V} {v u:List Value},ar prog w H W x v→ar prog w H W y u→ar prog w H W (x++y) (v++u)
 |[],_,v,_,h,k=>by
  apply qF v h;exact k
 |_::_,_,v,_,h,k=>by
  apply cy v h;intro _ _ p t
  exact ar.cons p (ar.append t k)
theorem ar.take: ∀{x:List V} {v:List Value} (n:Nat),ar prog w H W x v→ar prog w H W (x.take n) (v.take n)
 |_,_,0,_=>ar.nil
 |[],v,_+1,h=>by
  apply qF v h;exact ar.nil
 |_::_,v,n+1,h=>by
  apply cy v h;intro _ _ p t
  exact ar.cons p (ar.take n t)
theorem ar.drop: ∀{x:List V} {v:List Value} (n:Nat),ar prog w H W x v→ar prog w H W (x.drop n) (v.drop n)
 |_,_,0,h=>h
 |[],v,_+1,h=>by
  apply qF v h;exact ar.nil
 |_::_,v,n+1,h=>by
  apply cy v h;intro _ _ _ t
  exact ar.drop n t
theorem ar.of_forall: ∀{x:List V} {v:List Value},v.length=x.length→(∀(i:Nat) (y:V) (u:Value),x[i]? =some y→v[i]? =some u→bj prog w H W y u)→ar prog w H W x v
 |[],v,e,_=>by
  have:v=[]:=List.eq_nil_of_length_eq_zero e
  rw[this];exact ar.nil
 |x::r,[],e,_=>by simp at e
 |x::r,u::q,e,h=>ar.cons (h 0 x u rfl rfl) (ar.of_forall (by simpa using e) fun i y u' a b=>h (i+1) y u' (by simpa using a) (by simpa using b))
end
section
variable(prog:Program)(w:World)(H:bg)
noncomputable def BV(W:Wd)(mo:MO)(a:Addr)(h:Heap):Prop:=match mo with
 | .dead=>True
 | .list xs=> ∃o vs,h.get? a=some o∧br "list" o vs∧ar prog w H W xs vs∧xs.length≤cP
 | .dict ks xs=> ∃o vs,h.get? a=some o∧ck prog w o (ks.zip vs)∧ar prog w H W xs vs∧ks.length=xs.length∧xs.length≤cP∧(a==sysModules)=false
noncomputable def nO(W:Wd)(t:Addr×Str)(h:Heap):Prop:=
 ∃ps,h.get? t.1=some {cls:= .none,data:= .fields ps}∧TriplesOk ps.toList∧
  ∀pos cv,codeAmong pos ps.toList=some cv→ ∃c oc vs u,cv= .ref c∧W.P c=some oc∧oc.data= .fields vs∧vs[1]? =some (.str t.2 u)
noncomputable def MO.alive:MO→Bool
 | .dead=>false
 |_=>true
structure St(W:Wd)(fx:Fz)(σ:ah)(os:OsState)(s:Shared):Prop where
 base:H.base.le W.P
 keepP:W.P.on s.heap
 keepF:fx.on s.heap
 pf: ∀a o,fx a=some o→W.P a=none
 len:W.ads.length=σ.length
 there: ∀(i:Nat) (a:Addr),W.ads[i]? =some a→ ∃o,s.heap.get? a=some o
 inj: ∀(i j:Nat) (a:Addr),W.ads[i]? =some a→W.ads[j]? =some a→i=j
 mo: ∀(i:Nat) (a:Addr) (m:MO),W.ads[i]? =some a→σ[i]? =some m→BV prog w H W m a s.heap
 pa: ∀(i:Nat) (a:Addr) (m:MO),W.ads[i]? =some a→σ[i]? =some m→m.alive=true→W.P a=none
 fa: ∀(i:Nat) (a:Addr),W.ads[i]? =some a→fx a=none
 tab: ∀t∈H.tabs,nO W t s.heap∧W.P t.1=none∧fx t.1=none∧ ∀i:Nat,W.ads[i]? ≠some t.1
 os:s.os=os
 gens:AllBare s.gens
end
section
variable{prog:Program}{w:World}{H:bg}{W W':Wd}{fx fx':Fz}{σ:ah}{os:OsState}{s s':Shared}
theorem BV.le(l:W.le W'){m:MO}{a:Addr}{h:Heap}(x:BV prog w H W m a h):BV prog w H W' m a h:=by
 cases m with
 |dead=>trivial
 |list xs=>refine nz x fun o vs p q r n=>?_;exact⟨o,vs,p,q,r.le l,n⟩
 |dict ks xs=>refine nz x fun o vs p q r n=>?_;exact⟨o,vs,p,q,r.le l,n⟩
theorem BV.keep{m:MO}{a:Addr}{h h':Heap}(x:BV prog w H W m a h)(k: ∀o,h.get? a=some o→h'.get? a=some o):BV prog w H W m a h':=by
 cases m with
 |dead=>trivial
 |list xs=>refine cz x fun o vs p q=>?_;exact⟨o,vs,k _ p,q⟩
 |dict ks xs=>refine cz x fun o vs p q=>?_;exact⟨o,vs,k _ p,q⟩
theorem nO.le(l:W.le W'){t:Addr×Str}{h:Heap}(x:nO W t h):nO W' t h:=by
 refine cf x fun ps a b c=>?_
 exact⟨ps,a,b,fun pos cv e=>let⟨c',oc,vs,u,e1,e2,e3⟩:=c pos cv e;⟨c',oc,vs,u,e1,l.P _ _ e2,e3⟩⟩
theorem nO.keep{t:Addr×Str}{h h':Heap}(x:nO W t h)(k: ∀o,h.get? t.1=some o→h'.get? t.1=some o):nO W t h':=by
 refine cf x fun ps a b c=>?_
 exact⟨ps,k _ a,b,c⟩
structure cC(H:bg)(W:Wd)(fx:Fz)(a:Addr):Prop where
 P:W.P a=none
 fx:fx a=none
 ads: ∀i:Nat,W.ads[i]? ≠some a
 tab: ∀t∈H.tabs,t.1≠a
theorem St.held(S:St prog w H W fx σ os s){a:Addr}(h:s.heap.get? a=none):cC H W fx a:=by
 refine⟨?_,?_,fun i e=>?_,fun t ht e=>?_⟩
 ·cases e:W.P a with
  |none=>rfl
  |some o=>have:=S.keepP _ _ e;rw[h] at this;cases this
 ·cases e:fx a with
  |none=>rfl
  |some o=>have:=S.keepF _ _ e;rw[h] at this;cases this
 ·refine cN (S.there i a e) fun o e'=>?_
  rw[h] at e';cases e'
 ·refine qH (S.tab t ht) fun z1 _=>?_;refine aA z1 fun ps p _=>?_
  rw[e,h] at p;cases p
theorem St.fresh(S:St prog w H W fx σ os s){a:Addr}(h:s.heap.objs.size≤a):cC H W fx a:=S.held (Heap.get?_none_of_le h)
theorem St.step(S:St prog w H W fx σ os s){h':Heap}{tk:Nat}(k: ∀b o,¬cC H W fx b→s.heap.get? b=some o→h'.get? b=some o):St prog w H W fx σ os {s with heap:=h',toks:=tk}:=by
 have kP: ∀a o,W.P a=some o→h'.get? a=some o:=fun a o e=>k a o (fun f=>by rw[f.P] at e;cases e) (S.keepP _ _ e)
 have kF: ∀a o,fx a=some o→h'.get? a=some o:=fun a o e=>k a o (fun f=>by rw[f.fx] at e;cases e) (S.keepF _ _ e)
 have kA: ∀i a,W.ads[i]? =some a→ ∀o,s.heap.get? a=some o→h'.get? a=some o:=fun i a e o e'=>k a o (fun f=>f.ads i e) e'
 refine⟨S.base,kP,kF,S.pf,S.len,fun i a e=>?_,S.inj,fun i a m e q=>(S.mo i a m e q).keep (kA i a e),S.pa,S.fa,fun t ht=>?_,S.os,S.gens⟩
 ·refine cN (S.there i a e) fun o e'=>?_
  exact⟨o,kA i a e o e'⟩
 ·refine qH (S.tab t ht) fun p q=>?_
  exact⟨p.keep fun o e=>k _ o (fun f=>f.tab t ht rfl) e,q⟩
theorem St.ext(S:St prog w H W fx σ os s){h':Heap}{tk:Nat}(k: ∀b o,s.heap.get? b=some o→h'.get? b=some o):St prog w H W fx σ os {s with heap:=h',toks:=tk}:=S.step fun b o _ e=>k b o e
theorem St.tok(S:St prog w H W fx σ os s){tk:Nat}:St prog w H W fx σ os {s with toks:=tk}:=S.ext fun _ _ e=>e
theorem St.push(S:St prog w H W fx σ os s)(o:Obj):St prog w H W fx σ os {s with heap:=s.heap.push o}:=S.ext (tk:=s.toks) fun _ _ e=>Heap.get?_push_of_some o e
theorem Fz.le_add{P:Fz}{a:Addr}{o:Obj}(h:P a=none):P.le (P.add a o):=fun b x e=>by
 unfold Fz.add
 split
 ·rename_i q;rw[q,h] at e;cases e
 ·exact e
theorem Fz.add_self(P:Fz)(a:Addr)(o:Obj):P.add a o a=some o:=by simp [Fz.add]
theorem Fz.add_ne(P:Fz){a b:Addr}(o:Obj)(h:b≠a):P.add a o b=P b:=by simp [Fz.add,h]
noncomputable def Wd.fix(W:Wd)(a:Addr)(o:Obj):Wd:=⟨W.P.add a o,W.ads⟩
theorem Wd.le_fix{W:Wd}{a:Addr}{o:Obj}(h:W.P a=none):W.le (W.fix a o):=⟨Fz.le_add h,fun _ _ e=>e⟩
theorem St.fix(S:St prog w H W fx σ os s){a:Addr}{o:Obj}(f:cC H W fx a)(h:s.heap.get? a=some o):St prog w H (W.fix a o) fx σ os s:=by
 have l:W.le (W.fix a o):=Wd.le_fix f.P
 refine⟨S.base.trans l.P,fun b x e=>?_,S.keepF,fun b x e=>?_,S.len,S.there,S.inj,fun i b m e q=>(S.mo i b m e q).le l,fun i b m e q al=>?_,S.fa,fun t ht=>?_,S.os,S.gens⟩
 ·simp only [Wd.fix,Fz.add] at e
  split at e
  ·rename_i q;cases e;rw[q];exact h
  ·exact S.keepP _ _ e
 ·have:b≠a:=fun q=>by rw[q,f.fx] at e;cases e
  exact(Fz.add_ne _ _ this).trans (S.pf _ _ e)
 ·have:b≠a:=fun q=>f.ads i (q▸e)
  exact(Fz.add_ne _ _ this).trans (S.pa _ _ _ e q al)
 ·refine FO (S.tab t ht) fun p q r=>?_
  exact⟨p.le l,(Fz.add_ne _ _ (f.tab t ht)).trans q,r⟩
theorem St.hold(S:St prog w H W fx σ os s){a:Addr}{o:Obj}(f:cC H W fx a)(h:s.heap.get? a=some o):St prog w H W (fx.add a o) σ os s:=by
 refine⟨S.base,S.keepP,fun b x e=>?_,fun b x e=>?_,S.len,S.there,S.inj,S.mo,S.pa,fun i b e=>?_,fun t ht=>?_,S.os,S.gens⟩
 ·simp only [Fz.add] at e
  split at e
  ·rename_i q;cases e;rw[q];exact h
  ·exact S.keepF _ _ e
 ·simp only [Fz.add] at e
  split at e
  ·rename_i q;rw[q];exact f.P
  ·exact S.pf _ _ e
 ·have:b≠a:=fun q=>f.ads i (q▸e)
  exact(Fz.add_ne _ _ this).trans (S.fa _ _ e)
 ·refine vE (S.tab t ht) fun p q r u=>?_
  exact⟨p,q,(Fz.add_ne _ _ (f.tab t ht)).trans r,u⟩
theorem St.less(S:St prog w H W fx σ os s)(l:fx'.le fx):St prog w H W fx' σ os s:=by
 have none': ∀a,fx a=none→fx' a=none:=fun a h=>by
  cases e:fx' a with
  |none=>rfl
  |some o=>rw[l _ _ e] at h;cases h
 refine⟨S.base,S.keepP,fun a o e=>S.keepF _ _ (l _ _ e),fun a o e=>S.pf _ _ (l _ _ e),S.len,S.there,S.inj,S.mo,S.pa,fun i a e=>none' a (S.fa _ _ e),fun t ht=>?_,S.os,S.gens⟩
 refine vE (S.tab t ht) fun p q r u=>?_
 exact⟨p,q,none' _ r,u⟩
noncomputable def Wd.more(W:Wd)(a:Addr):Wd:=⟨W.P,W.ads++[a]⟩
theorem Wd.le_more{W:Wd}{a:Addr}:W.le (W.more a):=⟨fun _ _ e=>e,fun i b e=>by
 have hi:i<W.ads.length:=(List.getElem?_eq_some_iff.mp e).1
 show(W.ads++[a])[i]? =some b
 rw[List.getElem?_append_left hi];exact e⟩
theorem Wd.more_at{W:Wd}{a:Addr}{n:Nat}(h:W.ads.length=n):(W.more a).ads[n]? =some a:=by
 subst h;simp [Wd.more]
theorem Wd.more_inv{W:Wd}{a b:Addr}{i:Nat}(h:(W.more a).ads[i]? =some b):(W.ads[i]? =some b)∨(i=W.ads.length∧b=a):=by
 simp only [Wd.more] at h
 by_cases hi:i<W.ads.length
 ·rw[List.getElem?_append_left hi] at h;exact .inl h
 ·rw[List.getElem?_append_right (by omega)] at h
  have:i-W.ads.length=0:=by
   by_cases z:i-W.ads.length=0
   ·exact z
   ·have:([a]:List Addr)[i-W.ads.length]? =none:=List.getElem?_eq_none (by simp;omega)
    rw[this] at h;cases h
  rw[this] at h
  simp at h
  exact .inr ⟨by omega,h.symm⟩
theorem St.more(S:St prog w H W fx σ os s){a:Addr}{m:MO}(f:cC H W fx a)(h: ∃o,s.heap.get? a=some o)(hm:BV prog w H (W.more a) m a s.heap):St prog w H (W.more a) fx (σ++[m]) os s:=by
 have l:W.le (W.more a):=Wd.le_more
 have hl:=S.len
 refine⟨S.base,S.keepP,S.keepF,S.pf,by simp [Wd.more,hl],fun i b e=>?_,fun i j b e q=>?_,fun i b n e q=>?_,fun i b n e q al=>?_,fun i b e=>?_,fun t ht=>?_,S.os,S.gens⟩
 ·rcases Wd.more_inv e with e|⟨_,rfl⟩
  ·exact S.there i b e
  ·exact h
 ·rcases Wd.more_inv e with e1|⟨e1,e2⟩<;>rcases Wd.more_inv q with q1|⟨q1,q2⟩
  ·exact S.inj i j b e1 q1
  ·exact absurd (q2▸e1) (f.ads i)
  ·exact absurd (e2▸q1) (f.ads j)
  ·rw[e1,q1]
 ·rcases Wd.more_inv e with e1|⟨e1,e2⟩
  ·have hi:i<σ.length:=by have:=(List.getElem?_eq_some_iff.mp e1).1;omega
   rw[List.getElem?_append_left hi] at q
   exact(S.mo i b n e1 q).le l
  ·rw[e1,hl,List.getElem?_append_right (Nat.le_refl _)] at q
   simp at q
   subst q
   rw[e2]
   exact hm
 ·rcases Wd.more_inv e with e|⟨e,rfl⟩
  ·have hi:i<σ.length:=by have:=(List.getElem?_eq_some_iff.mp e).1;omega
   rw[List.getElem?_append_left hi] at q
   exact S.pa i b n e q al
  ·exact f.P
 ·rcases Wd.more_inv e with e|⟨e,rfl⟩
  ·exact S.fa i b e
  ·exact f.fx
 ·refine vE (S.tab t ht) fun p q r u=>?_
  refine⟨p.le l,q,r,fun i e=>?_⟩
  rcases Wd.more_inv e with e|⟨e,e'⟩
  ·exact u i e
  ·exact f.tab t ht e'
theorem jf{a:Addr}{i:Nat}(h:W.ads[i]? =some a): ¬cC H W fx a:=fun f=>f.ads i h
theorem St.upd(S:St prog w H W fx σ os s){i:Nat}{a:Addr}{m m₀:MO}{h':Heap}{tk:Nat}(ha:W.ads[i]? =some a)(hm₀:σ[i]? =some m₀)(al:m₀.alive=true)
  (k: ∀b o,b≠a→s.heap.get? b=some o→h'.get? b=some o)(h: ∃o,h'.get? a=some o)(hm:BV prog w H W m a h'):St prog w H W fx (σ.set i m) os {s with heap:=h',toks:=tk}:=by
 have neP: ∀b o,W.P b=some o→b≠a:=fun b o e q=>by rw[q,S.pa i a m₀ ha hm₀ al] at e;cases e
 have neF: ∀b o,fx b=some o→b≠a:=fun b o e q=>by rw[q,S.fa i a ha] at e;cases e
 refine⟨S.base,fun b o e=>k b o (neP b o e) (S.keepP _ _ e),fun b o e=>k b o (neF b o e) (S.keepF _ _ e),S.pf,by simp [S.len],fun j b e=>?_,S.inj,fun j b n e q=>?_,fun j b n e q al'=>?_,S.fa,fun t ht=>?_,S.os,S.gens⟩
 ·by_cases hb:b=a
  ·subst hb;exact h
  ·refine cN (S.there j b e) fun o e'=>?_
   exact⟨o,k b o hb e'⟩
 ·by_cases hj:j=i
  ·subst hj
   rw[ha] at e;cases e
   have hi:j<σ.length:=(List.getElem?_eq_some_iff.mp hm₀).1
   rw[List.getElem?_set_self hi] at q
   cases q
   exact hm
  ·rw[List.getElem?_set_ne (Ne.symm hj)] at q
   exact(S.mo j b n e q).keep fun o e'=>k b o (fun x=>hj (S.inj j i a (x▸e) ha)) e'
 ·by_cases hj:j=i
  ·subst hj
   rw[ha] at e;cases e
   exact S.pa j a m₀ ha hm₀ al
  ·rw[List.getElem?_set_ne (Ne.symm hj)] at q
   exact S.pa j b n e q al'
 ·refine vE (S.tab t ht) fun p q r u=>?_
  exact⟨p.keep fun o e=>k _ o (fun x=>u i (by rw[x];exact ha)) e,q,r,u⟩
theorem St.freeze(S:St prog w H W fx σ os s){i:Nat}{a:Addr}{m₀:MO}{o:Obj}(ha:W.ads[i]? =some a)(hm₀:σ[i]? =some m₀)(al:m₀.alive=true)(ho:s.heap.get? a=some o):
  St prog w H (W.fix a o) fx (σ.set i .dead) os s:=by
 have hP:=S.pa i a m₀ ha hm₀ al
 have l:W.le (W.fix a o):=Wd.le_fix hP
 refine⟨S.base.trans l.P,fun b x e=>?_,S.keepF,fun b x e=>?_,by simp [Wd.fix,S.len],S.there,S.inj,fun j b n e q=>?_,fun j b n e q al'=>?_,S.fa,fun t ht=>?_,S.os,S.gens⟩
 ·simp only [Wd.fix,Fz.add] at e
  split at e
  ·rename_i q;cases e;rw[q];exact ho
  ·exact S.keepP _ _ e
 ·have:b≠a:=fun q=>by rw[q,S.fa i a ha] at e;cases e
  exact(Fz.add_ne _ _ this).trans (S.pf _ _ e)
 ·by_cases hj:j=i
  ·subst hj
   have hi:j<σ.length:=(List.getElem?_eq_some_iff.mp hm₀).1
   rw[List.getElem?_set_self hi] at q
   cases q
   trivial
  ·rw[List.getElem?_set_ne (Ne.symm hj)] at q
   exact(S.mo j b n e q).le l
 ·by_cases hj:j=i
  ·subst hj
   have hi:j<σ.length:=(List.getElem?_eq_some_iff.mp hm₀).1
   rw[List.getElem?_set_self hi] at q
   cases q
   cases al'
  ·rw[List.getElem?_set_ne (Ne.symm hj)] at q
   have:b≠a:=fun x=>hj (S.inj j i a (x▸e) ha)
   exact(Fz.add_ne _ _ this).trans (S.pa j b n e q al')
 ·refine vE (S.tab t ht) fun p q r u=>?_
  exact⟨p.le l,(Fz.add_ne _ _ (fun x=>u i (by rw[x];exact ha))).trans q,r,u⟩
theorem St.swap(S:St prog w H W fx σ os s){a:Addr}{o o':Obj}{h':Heap}{tk:Nat}(ha:fx a=some o)(k: ∀b x,b≠a→s.heap.get? b=some x→h'.get? b=some x)(h:h'.get? a=some o'):
  St prog w H W (fx.add a o') σ os {s with heap:=h',toks:=tk}:=by
 have hP:=S.pf a o ha
 refine⟨S.base,fun b x e=>k b x (fun q=>by rw[q,hP] at e;cases e) (S.keepP _ _ e),fun b x e=>?_,fun b x e=>?_,S.len,fun i b e=>?_,S.inj,fun i b n e q=>?_,S.pa,fun i b e=>?_,fun t ht=>?_,S.os,S.gens⟩
 ·simp only [Fz.add] at e
  split at e
  ·rename_i q;cases e;rw[q];exact h
  ·rename_i q;exact k b x q (S.keepF _ _ e)
 ·simp only [Fz.add] at e
  split at e
  ·rename_i q;rw[q];exact hP
  ·exact S.pf _ _ e
 ·have hb:b≠a:=fun q=>by rw[q] at e;rw[S.fa i a e] at ha;cases ha
  refine cN (S.there i b e) fun x e'=>?_
  exact⟨x,k b x hb e'⟩
 ·have hb:b≠a:=fun q=>by rw[q] at e;rw[S.fa i a e] at ha;cases ha
  exact(S.mo i b n e q).keep fun x e'=>k b x hb e'
 ·have hb:b≠a:=fun q=>by rw[q] at e;rw[S.fa i a e] at ha;cases ha
  exact(Fz.add_ne _ _ hb).trans (S.fa i b e)
 ·refine vE (S.tab t ht) fun p q r u=>?_
  have hb:t.1≠a:=fun x=>by rw[x,ha] at r;cases r
  exact⟨p.keep fun x e=>k _ x hb e,q,(Fz.add_ne _ _ hb).trans r,u⟩
theorem St.settle(S:St prog w H W fx σ os s){a:Addr}{o:Obj}(ha:fx a=some o):St prog w H (W.fix a o) (fun b=>if b=a then none else fx b) σ os s:=by
 refine St.fix (S.less (fx':=fun b=>if b=a then none else fx b) fun b x e=>?_) ⟨S.pf a o ha,by simp,fun i e=>?_,fun t ht e=>?_⟩ (S.keepF _ _ ha)
 ·dsimp only at e
  split at e
  ·cases e
  ·exact e
 ·rw[S.fa i a e] at ha;cases ha
 ·refine vE (S.tab t ht) fun _ _ r _=>?_
  rw[e,ha] at r;cases r
end
end Mine
end
section
namespace Mine
open PySem PySem.W PyProof.Rows
noncomputable def db(o:Obj)(m:PySem.Str→Option Value):Prop:= ∃es ep,o.data= .dict es ep∧StrKeys es∧ ∀name,nsFind es name=m name
theorem db.ns{o:Obj}{m:PySem.Str→Option Value}{h:Heap}{a:Addr}(x:db o m)(e:h.get? a=some o):h.Ns a m:=
 let⟨es,ep,p,q,r⟩:=x;⟨o,es,ep,e,p,q,r⟩
theorem db.of_ns{m:PySem.Str→Option Value}{h:Heap}{a:Addr}(x:h.Ns a m): ∃o,h.get? a=some o∧db o m:=
 let⟨o,es,ep,e,p,q,r⟩:=x;⟨o,e,es,ep,p,q,r⟩
structure aK(H:bg)(mg mb:PySem.Str→Option Value):Prop where
 g: ∃o,H.base mainGlobals=some o∧db o mg
 b: ∃o,H.base builtinsNs=some o∧db o mb
 bi: ∀x:PySem.Str,x≠ "__name__" →mb x=bootBuiltins x
 lim: ∃o mc,H.base cStatics=some o∧db o mc∧mc "sys.recursionlimit" =none
noncomputable def mark(c:Nat×PySem.Str):List (PySem.Str×Const):=[("#",.int c.1),("#",.str c.2)]
noncomputable def bU:List (PySem.Str×Const)→Option (Nat×PySem.Str)
 |[(x,.int c),(_,.str q)]=>if x= "#" then some (c.toNat,q) else none
 |_=>none
structure bX(A:Around)(n:Nat):Prop where
 h:A.handled=none
 d:A.depth+4*n+8<recursionLimit
 u:A.units+100*n+300<cLine
theorem bX.less{A:Around}{n:Nat}(r:bX A (n+1)):bX A n:=⟨r.h,by have:=r.d;omega,by have:=r.u;omega⟩
theorem bX.deeper{A:Around}{n:Nat}{env:PySem.Env}(r:bX A (n+1)):bX (A.deeper env) n:=⟨r.h,by have:=r.d;show A.depth+1+4*n+8<_;omega,by have:=r.u;show A.units+3+100*n+300<_;omega⟩
structure aH where
 p:Around→Wd→Fz→Wd→List Nat→ah→Value→Shared→Prop
 le: ∀{A W W' W'' fx m σ e s},W.le W'→p A W' fx W'' m σ e s→p A W fx W'' m σ e s
 less: ∀{A W W'' fx fx' m σ e s},Fz.le fx' fx→p A W fx W'' m σ e s→p A W fx' W'' m σ e s
structure EnvW(sc:Scope)(env:PySem.Env):Prop where
 kind:env.scope.kind= .function
 glob:env.globals=mainGlobals
 bi:env.builtins=builtinsNs
 kinds: ∀x k,sc.names.lookup x=some k→k≠ .free→env.kindOf x=some k
 free: ∀x,sc.names.lookup x=some .free→env.kindOf x=some .free∨env.kindOf x=some .cell
 code: ∀c,bU sc.more=some c→env.code= .ref c.1∧env.qual=c.2
section
variable(prog:Program)(w:World)(H:bg)
structure bo(W:Wd)(fx:Fz)(sc:Scope)(env:PySem.Env)(ρ:Env):Prop where
 loc: ∃o m,fx env.locals=some o∧db o m∧ ∀x v,aM ρ x=some v→sc.names.lookup (Str.ofString x)=some .local→ ∃val,m (Str.ofString x)=some val∧bj prog w H W v val
 cel: ∀x v,aM ρ x=some v→(sc.names.lookup (Str.ofString x)=some .cell∨sc.names.lookup (Str.ofString x)=some .free)→
  ∃c o val,env.cells.lookup (Str.ofString x)=some c∧(fx c=some o∨W.P c=some o)∧o.data= .cell (some val)∧bj prog w H W v val
 cin: ∀x,(sc.names.lookup x=some .cell∨sc.names.lookup x=some .free)→ ∃c o cv,env.cells.lookup x=some c∧(fx c=some o∨W.P c=some o)∧o.data= .cell cv
 sld:bU sc.more≠none→ ∀y v,aM ρ (eQ y)=some (gR y v)→sc.names.lookup (Str.ofString y)=some .free→
  ∃c o val,env.cells.lookup (Str.ofString y)=some c∧W.P c=some o∧o.data= .cell (some val)∧bj prog w H W v val
end
section
variable{prog:Program}{w:World}{H:bg}{W W':Wd}{fx fx':Fz}{sc:Scope}{env:PySem.Env}{ρ:Env}
theorem bo.le(x:bo prog w H W fx sc env ρ)(l:W.le W')(k:fx.le fx'):bo prog w H W' fx' sc env ρ:=by
 obtain⟨z1,d,f,sl⟩:=x;refine cI z1 fun o m a b c=>?_
 refine⟨⟨o,m,k _ _ a,b,fun x v e q=>?_⟩,fun x v e q=>?_,fun x q=>let⟨c,o,cv,e1,e2,e3⟩:=f x q;⟨c,o,cv,e1,e2.imp (k _ _) (l.P _ _),e3⟩,fun hm y v e q=>let⟨c,o,val,e1,e2,e3,e4⟩:=sl hm y v e q;⟨c,o,val,e1,l.P _ _ e2,e3,e4.le l⟩⟩
 ·refine aA (c x v e q) fun val e1 e2=>?_
  exact⟨val,e1,e2.le l⟩
 ·refine gq (d x v e q) fun c o val e1 e2 e3 e4=>?_
  exact⟨c,o,val,e1,e2.imp (k _ _) (l.P _ _),e3,e4.le l⟩
end
section
variable(prog:Program)(w:World)(H:bg)(os:OsState)(C:Ctx)(call:aw)(n:Nat)(X:aH)
noncomputable def nV(A:Around)(W:Wd)(fx:Fz)(Q:Value→Shared→Prop)(q:V×ah):Prop:=
 ∀W' val s',W.le W'→St prog w H W' fx q.2 os s'→bj prog w H W' q.1 val→Q val s'
noncomputable def cF(A:Around)(W:Wd)(fx:Fz)(E:Value→Shared→Prop)(m:List Nat)(σ:ah):Prop:=
 ∀W' e s',X.p A W fx W' m σ e s'→E e s'
noncomputable def yu(A:Around)(W:Wd)(fx:Fz)(Q:Bool→Shared→Prop)(q:Bool×ah):Prop:=
 ∀W' s',W.le W'→St prog w H W' fx q.2 os s'→Q q.1 s'
noncomputable def Eh(A:Around)(W:Wd)(fx:Fz)(Q:List Value→Shared→Prop)(q:List V×ah):Prop:=
 ∀W' vals s',W.le W'→St prog w H W' fx q.2 os s'→ar prog w H W' q.1 vals→Q vals s'
noncomputable def SE(sc:Scope)(e:E)(x:Expr):Prop:=
 ∀(A:Around) (env:PySem.Env) (ρ:Env) (W:Wd) (fx:Fz) (σ:ah) (s:Shared) (Q:Value→Shared→Prop) (E:Value→Shared→Prop),
  bX A n→EnvW sc env→bo prog w H W fx sc env ρ→St prog w H W fx σ os s→
  (bp C call e ρ σ).sat (nV prog w H os A W fx Q) (cF X A W fx E)→wpAny (model prog w) A (eval x env) Q E s
noncomputable def ST(sc:Scope)(e:E)(x:Expr):Prop:=
 ∀(A:Around) (env:PySem.Env) (ρ:Env) (W:Wd) (fx:Fz) (σ:ah) (s:Shared) (Q:Bool→Shared→Prop) (E:Value→Shared→Prop),
  bX A n→EnvW sc env→bo prog w H W fx sc env ρ→St prog w H W fx σ os s→
  (eR C call e ρ σ).sat (yu prog w H os A W fx Q) (cF X A W fx E)→wpAny (model prog w) A (isTrue x env (eval x env)) Q E s
noncomputable def SL(sc:Scope)(es:List E)(xs:List Expr):Prop:=
 ∀(pos:Pos) (A:Around) (env:PySem.Env) (ρ:Env) (W:Wd) (fx:Fz) (σ:ah) (s:Shared) (Q:List Value→Shared→Prop) (E:Value→Shared→Prop),
  bX A n→EnvW sc env→bo prog w H W fx sc env ρ→St prog w H W fx σ os s→
  (dB C call es ρ σ).sat (Eh prog w H os A W fx Q) (cF X A W fx E)→wpAny (model prog w) A (spliced (backTo pos (starEach xs env))) Q E s
end
section
variable{prog:Program}{w:World}{H:bg}{os:OsState}{C:Ctx}{call:aw}{n:Nat}{X:aH}
variable{A:Around}{W W':Wd}{fx:Fz}{Q:Value→Shared→Prop}{Z:Value→Shared→Prop}{s:Shared}{σ:ah}{sc:Scope}
theorem nV.le{q:V×ah}(l:W.le W')(h:nV prog w H os A W fx Q q):nV prog w H os A W' fx Q q:=fun W'' val s' a b c=>h W'' val s' (l.trans a) b c
theorem cF.le{m:List Nat}{σ:ah}(l:W.le W')(h:cF X A W fx Z m σ):cF X A W' fx Z m σ:=fun W'' e s' a=>h W'' e s' (X.le l a)
theorem yO{α:Type}{o:Option α}{Q:α→Prop}{X:List Nat→ah→Prop}(h:(ay.ofOpt o).sat Q X): ∃a,o=some a∧Q a:=by
 cases o with
 |none=>exact h.elim
 |some a=>exact⟨a,rfl,h⟩
theorem SE.then{e:E}{x:Expr}(h:SE prog w H os C call n X sc e x){env:PySem.Env}{ρ:Env}{Q:Value→Shared→Prop}{α:Type}{k:V×ah→ay α}{Qp:α→Prop}{Qx:List Nat→ah→Prop}
  (r:bX A n)(ew:EnvW sc env)(er:bo prog w H W fx sc env ρ)(S:St prog w H W fx σ os s)
  (hs:((bp C call e ρ σ).bind k).sat Qp Qx)(hx: ∀m σ',Qx m σ'→cF X A W fx Z m σ')
  (hk: ∀q W' val s',W.le W'→St prog w H W' fx q.2 os s'→bj prog w H W' q.1 val→bo prog w H W' fx sc env ρ→(k q).sat Qp Qx→Q val s'):
  wpAny (model prog w) A (eval x env) Q Z s:=by
 rw[ay.sat_bind] at hs
 refine h A env ρ W fx σ s Q Z r ew er S (ay.sat_mono hs (fun q hq W' val s' l S' R=>hk q W' val s' l S' R (er.le l fun _ _ e=>e) hq) hx)
theorem DT{o:Obj}{m:PySem.Str→Option Value}(S:St prog w H W fx σ os s){a:Addr}(h:fx a=some o)(x:db o m):s.heap.Ns a m:=x.ns (S.keepF _ _ h)
theorem tX{x:String}{pos:Pos}(hd:(Str.ofString x==("__debug__" :PySem.Str))=false)(hc:(Str.ofString x==("__classdict__" :PySem.Str))=false)
  (hk:sc.names.lookup (Str.ofString x)=some .local∨sc.names.lookup (Str.ofString x)=some .cell∨sc.names.lookup (Str.ofString x)=some .free):
  SE prog w H os C call n X sc (.var x) (.Name (Str.ofString x) pos):=by
 intro A env ρ W fx σ s Q Z r ew er S h
 have h':((ay.ofOpt (aM ρ x)).bind fun v=> .ok (v,σ)).sat (nV prog w H os A W fx Q) (cF X A W fx Z):=h
 rw[ay.sat_bind] at h'
 refine aA (yO h') fun v hv hq=>?_
 rcases hk with hk|hk
 ·refine cI er.loc fun o m h1 h2 h3=>?_
  refine aA (h3 x v hv hk) fun val e1 e2=>?_
  exact wpAny_Name (wpAny_loadName_local ew.kind (ew.kinds _ _ hk (by decide)) (DT S h1 h2) e1 (hq W val s (.refl _) S e2)) hd
 ·refine gq (er.cel x v hv hk) fun c o val e1 e2 e3 e4=>?_
  have hcell:s.heap.IsCell c (some val):=⟨o,e2.elim (S.keepF _ _) (S.keepP _ _),e3⟩
  have hend:=hq W val s (.refl _) S e4
  have both:env.kindOf (Str.ofString x)=some .cell∨env.kindOf (Str.ofString x)=some .free:=by
   rcases hk with hk|hk
   ·exact .inl (ew.kinds _ _ hk (by decide))
   ·exact(ew.free _ hk).symm
  rcases both with hk|hk
  ·exact wpAny_Name (wpAny_loadName_cell ew.kind hk e1 hcell hend) hd
  ·exact wpAny_Name (wpAny_loadName_free ew.kind hk e1 hcell hend hc) hd
theorem an{i:Int}{k:Nat}{pos:Pos}:SE prog w H os C call n X sc (.cst (.int i)) (.Constant (.int i) k pos):=by
 intro A env ρ W fx σ s Q Z r ew er S h
 exact wpAny_Constant_int (h W _ _ (.refl _) S.tok (Exists.intro _ rfl))
theorem oM{x:List Nat}{y:PySem.Str}{k:Nat}{pos:Pos}(e:y=⟨x.toArray⟩)(hl:x.length≤cP):SE prog w H os C call n X sc (.cst (.str x)) (.Constant (.str y) k pos):=by
 intro A env ρ W fx σ s Q Z r ew er S h
 subst e
 exact Calls.Constant_str (h W _ _ (.refl _) S.tok (Exists.intro _ ⟨rfl,hl⟩))
theorem j7{k:Nat}{pos:Pos}:SE prog w H os C call n X sc (.cst .none) (.Constant .none k pos):=by
 intro A env ρ W fx σ s Q Z r ew er S h
 exact wpAny_pure (h W _ _ (.refl _) S rfl)
theorem j8{b:Bool}{k:Nat}{pos:Pos}:SE prog w H os C call n X sc (.cst (.bool b)) (.Constant (.bool b) k pos):=by
 intro A env ρ W fx σ s Q Z r ew er S h
 exact wpAny_pure (h W _ _ (.refl _) S rfl)
variable{mg mb:PySem.Str→Option Value}
theorem aK.ng(K:aK H mg mb)(S:St prog w H W fx σ os s):s.heap.Ns mainGlobals mg:=let⟨_,e,x⟩:=K.g;x.ns (S.keepP _ _ (S.base _ _ e))
theorem aK.nb(K:aK H mg mb)(S:St prog w H W fx σ os s):s.heap.Ns builtinsNs mb:=let⟨_,e,x⟩:=K.b;x.ns (S.keepP _ _ (S.base _ _ e))
theorem aK.nolim(K:aK H mg mb)(S:St prog w H W fx σ os s):s.heap.NoLimit:=let⟨_,mc,e,x,y⟩:=K.lim;⟨mc,x.ns (S.keepP _ _ (S.base _ _ e)),y⟩
theorem dF(K:aK H mg mb)(S:St prog w H W fx σ os s){env:PySem.Env}(ew:EnvW sc env){x:PySem.Str}{pos:Pos}{v:Value}(hk:sc.names.lookup x=some .globalImplicit)(hv:mg x=some v)
  (h:Q v s)(hd:(x==("__debug__" :PySem.Str))=false):wpAny (model prog w) A (eval (.Name x pos) env) Q Z s:=
 Calls.Name_function_global ew.kind (ew.kinds _ _ hk (by decide)) (Calls.loadGlobal_global (mg:=mg) (by rw[ew.glob];exact K.ng S) hv h) hd
theorem gu(K:aK H mg mb)(S:St prog w H W fx σ os s){env:PySem.Env}(ew:EnvW sc env){x:PySem.Str}{pos:Pos}{v:Value}(hk:sc.names.lookup x=some .globalImplicit)(hv:mg x=none)(hb:bootBuiltins x=some v)
  (hn:x≠ "__name__")(h:Q v s)(hd:(x==("__debug__" :PySem.Str))=false):wpAny (model prog w) A (eval (.Name x pos) env) Q Z s:=
 Calls.Name_function_global ew.kind (ew.kinds _ _ hk (by decide)) (Calls.loadGlobal_builtin (mg:=mg) (mb:=mb) (by rw[ew.glob];exact K.ng S) hv (by rw[ew.bi];exact K.nb S) ((K.bi x hn).trans hb) h) hd
theorem Ad(K:aK H mg mb){x:String}{i:Int}{t:Tok}{pos:Pos}(hk:sc.names.lookup (Str.ofString x)=some .globalImplicit)(hv:mg (Str.ofString x)=some (.int i t))
  (hd:(Str.ofString x==("__debug__" :PySem.Str))=false):SE prog w H os C call n X sc (.gint x i) (.Name (Str.ofString x) pos):=by
 intro A env ρ W fx σ s Q Z r ew er S h
 exact dF K S ew hk hv (h W _ _ (.refl _) S (Exists.intro _ rfl)) hd
end
end Mine
end
section
namespace Mine
open PySem PySem.W PyProof.Rows
theorem bM{n:Nat}(h:n≤cP):n≤sizeLine:=Nat.le_trans h (by decide+kernel)
theorem ob{α β:Type}{o:Option α}{f:α→Option β}{z:β}{P:Prop}(h:o.bind f=some z)(k: ∀a,o=some a→f a=some z→P):P:=match o,h with
 |some a,h=>k a rfl h
theorem ug{α:Type}{a b:Option α}{z:α}{P:Prop}(h:a.or b=some z)(k1:a=some z→P)(k2:a=none→b=some z→P):P:=match a,h with
 |some _,h=>k1 h
 |none,h=>k2 rfl h
theorem qG{α:Type}{c:Prop} [Decidable c]{a z:α}{P:Prop}(h:(if c then some a else none)=some z)(k:c→a=z→P):P:=by
 by_cases hc:c
 ·rw[if_pos hc] at h;exact k hc (Option.some.inj h)
 ·rw[if_neg hc] at h;cases h
theorem BY(a b:Nat):(a^^^b)+(a&&&b)=(a|||b):=by
 have e1:(a^^^b)|||(a&&&b)=a|||b:=Nat.eq_of_testBit_eq fun i=>by
  rw[Nat.testBit_or,Nat.testBit_or,Nat.testBit_xor,Nat.testBit_and]
  cases a.testBit i<;>cases b.testBit i<;>rfl
 have e2:(a^^^b)&&&(a&&&b)=0:=Nat.eq_of_testBit_eq fun i=>by
  rw[Nat.testBit_and,Nat.testBit_xor,Nat.testBit_and,Nat.zero_testBit]
  cases a.testBit i<;>cases b.testBit i<;>rfl
 have e:=nat_or_add_and (a^^^b) (a&&&b)
 rw[e1,e2] at e
 exact e.symm
theorem Bx{x y:Int}(hx:0≤x)(hy:0≤y):Builtin.bitOr x y=((x.toNat|||y.toNat:Nat):Int):=by
 rw[bitOr_and,bitAnd_pp hx hy]
 have e:((x.toNat:Int)+(y.toNat:Int))=((x.toNat|||y.toNat:Nat):Int)+((x.toNat&&&y.toNat:Nat):Int):=congrArg Nat.cast (nat_or_add_and x.toNat y.toNat).symm
 rw[Int.toNat_of_nonneg hx,Int.toNat_of_nonneg hy] at e
 exact Int.sub_eq_iff_eq_add.mpr e
theorem zz{x y:Int}(hx:0≤x)(hy:0≤y):Builtin.bitXor x y=((x.toNat^^^y.toNat:Nat):Int):=by
 rw[bitXor_and,bitAnd_pp hx hy]
 have q:x.toNat+y.toNat=(x.toNat^^^y.toNat)+2*(x.toNat&&&y.toNat):=by rw[Nat.two_mul,←Nat.add_assoc,BY,nat_or_add_and]
 have e:((x.toNat:Int)+(y.toNat:Int))=((x.toNat^^^y.toNat:Nat):Int)+2*((x.toNat&&&y.toNat:Nat):Int):=congrArg Nat.cast q
 rw[Int.toNat_of_nonneg hx,Int.toNat_of_nonneg hy] at e
 exact Int.sub_eq_iff_eq_add.mpr e
section
variable{prog:Program}{w:World}{H:bg}{os:OsState}{C:Ctx}{call:aw}{n:Nat}{X:aH}
variable{A:Around}{W W':Wd}{fx:Fz}{Q:Value→Shared→Prop}{Z:Value→Shared→Prop}{s:Shared}{σ:ah}{sc:Scope}
theorem cr{i:Int}{t:Tok}:bj prog w H W (.int i) (.int i t):=Exists.intro t rfl
theorem oS{b:Bool}:bj prog w H W (.bool b) (.bool b):=rfl
theorem eM:bj prog w H W .none .none:=rfl
theorem jB{x:List Nat}{t:Tok}(h:x.length≤cP):bj prog w H W (.str x) (.str ⟨x.toArray⟩ t):=Exists.intro t ⟨rfl,h⟩
noncomputable def tM(vs:List Value):Obj:={cls:= .type "tuple",data:= .seq vs.toArray}
noncomputable def hJ(vs:List Value):Obj:={cls:= .type "list",data:= .seq vs.toArray}
theorem tL(vs:List Value):br "tuple" (tM vs) vs:=⟨rfl,rfl,rfl,0,rfl⟩
theorem pw(vs:List Value):br "list" (hJ vs) vs:=⟨rfl,rfl,rfl,0,rfl⟩
theorem br.isTuple{o:Obj}{vs:List Value}{h:Heap}{a:Addr}(x:br "tuple" o vs)(e:h.get? a=some o):h.IsTuple a vs.toArray:=⟨o,e,x.1,x.2.2.2⟩
theorem br.isTup{o:Obj}{vs:List Value}{h:Heap}{a:Addr}(x:br "tuple" o vs)(e:h.get? a=some o):IsTup h a vs.toArray:=⟨o,e,x.1,x.2.2.2⟩
theorem br.isList{o:Obj}{vs:List Value}{h:Heap}{a:Addr}(x:br "list" o vs)(e:h.get? a=some o):h.IsList a vs.toArray:=⟨o,e,x.1,x.2.2.2⟩
theorem br.eq{c:String}{o:Obj}{vs:List Value}(x:br c o vs): ∃n,o={cls:= .type c,dict:=none,data:= .seq vs.toArray n,slots:=#[]}:=AI x fun h1 h2 h3 n h4=>⟨n,by
 rw[←h1,←h2,←h3,←h4]⟩
theorem St.newTup(S:St prog w H W fx σ os s){xs:List V}{vs:List Value}(R:ar prog w H W xs vs)(hl:xs.length≤cP){P:Prop}(k: ∀W',W.le W'→St prog w H W' fx σ os {s with heap:=s.heap.push (tM vs)}→bj prog w H W' (.tup xs) (.ref s.heap.objs.size)→P):P:=
 have f:=S.fresh (Nat.le_refl _)
 have l:W.le (W.fix s.heap.objs.size (tM vs)):=Wd.le_fix f.P
 k _ l ((S.push _).fix f (Heap.get?_push_size _ rfl)) (Exists.intro _ (Exists.intro _ (Exists.intro vs ⟨rfl,Fz.add_self _ _ _,tL vs,R.le l,hl⟩)))
theorem St.newLst(S:St prog w H W fx σ os s){xs:List V}{vs:List Value}(R:ar prog w H W xs vs)(hl:xs.length≤cP){P:Prop}(k: ∀W',W.le W'→St prog w H W' fx σ os {s with heap:=s.heap.push (hJ vs)}→bj prog w H W' (.lst xs) (.ref s.heap.objs.size)→P):P:=
 have f:=S.fresh (Nat.le_refl _)
 have l:W.le (W.fix s.heap.objs.size (hJ vs)):=Wd.le_fix f.P
 k _ l ((S.push _).fix f (Heap.get?_push_size _ rfl)) (Exists.intro _ (Exists.intro _ (Exists.intro vs ⟨rfl,Fz.add_self _ _ _,pw vs,R.le l,hl⟩)))
theorem St.newMut(S:St prog w H W fx σ os s){xs:List V}{vs:List Value}(R:ar prog w H W xs vs)(hl:xs.length≤cP){P:Prop}(k: ∀W',W.le W'→St prog w H W' fx (σ++[.list xs]) os {s with heap:=s.heap.push (hJ vs)}→bj prog w H W' (.ref σ.length) (.ref s.heap.objs.size)→P):P:=
 have l:W.le (W.more s.heap.objs.size):=Wd.le_more
 have g:(s.heap.push (hJ vs)).get? s.heap.objs.size=some (hJ vs):=Heap.get?_push_size _ rfl
 k _ l ((S.push _).more (S.fresh (Nat.le_refl _)) ⟨_,g⟩ ⟨_,vs,g,pw vs,R.le l,hl⟩) (Exists.intro _ ⟨rfl,Wd.more_at S.len⟩)
theorem dA{α:Type}{a:α}{P:Prop}(h:none=some a):P:=nomatch h
theorem pD{x:V}{a:Int}(h:bN x=some a):x= .int a:=by
 cases x with
 |int _=>exact congrArg V.int (Option.some.inj h)
 |_=>exact dA h
theorem kO{x:V}{a:List Nat}(h:iJ x=some a):x= .str a:=by
 cases x with
 |str _=>exact congrArg V.str (Option.some.inj h)
 |_=>exact dA h
theorem rH{x:V}{a:Bool}(h:qf x=some a):x= .bool a:=by
 cases x with
 |bool _=>exact congrArg V.bool (Option.some.inj h)
 |_=>exact dA h
theorem kK{x:V}{a:List V}(h:e9 x=some a):x= .tup a:=by
 cases x with
 |tup _=>exact congrArg V.tup (Option.some.inj h)
 |_=>exact dA h
theorem mE{x:V}{a:List V}(h:zg x=some a):x= .lst a:=by
 cases x with
 |lst _=>exact congrArg V.lst (Option.some.inj h)
 |_=>exact dA h
theorem fN{x:V}{a:Nat}(h:g6 x=some a):x= .ref a:=by
 cases x with
 |ref _=>exact congrArg V.ref (Option.some.inj h)
 |_=>exact dA h
theorem rq{x:V}{a:V}(h:wi x=some a):x= .inst a:=by
 cases x with
 |inst _=>exact congrArg V.inst (Option.some.inj h)
 |_=>exact dA h
theorem mJ{x:V}{d:List Int×List V}(h:FQ x=some d):x= .dict d.1 d.2:=by
 cases x with
 |dict _ _=>exact congrArg (fun d=>V.dict d.1 d.2) (Option.some.inj h)
 |_=>exact dA h
theorem qc{x:V}{d:Nat×List V}(h:uZ x=some d):x= .clo d.1 d.2:=by
 cases x with
 |clo _ _=>exact congrArg (fun d=>V.clo d.1 d.2) (Option.some.inj h)
 |_=>exact dA h
theorem oY{x:V}{u:Unit}(h:uo x=some u):x= .none:=by
 cases x with
 |none=>rfl
 |_=>exact dA h
theorem EO{m:MO}{a:List V}(h:moL m=some a):m= .list a:=by
 cases m with
 |list _=>exact congrArg MO.list (Option.some.inj h)
 |_=>exact dA h
theorem EP{m:MO}{d:List Int×List V}(h:moD m=some d):m= .dict d.1 d.2:=by
 cases m with
 |dict _ _=>exact congrArg (fun d=>MO.dict d.1 d.2) (Option.some.inj h)
 |_=>exact dA h
theorem mD{i:Nat}{xs:List V}(h:qJ σ i=some xs):σ[i]? =some (.list xs):=ob h fun m e h=>e.trans (congrArg some (EO h))
theorem sW{i:Nat}{d:List Int×List V}(h:Bo σ i=some d):σ[i]? =some (.dict d.1 d.2):=ob h fun m e h=>e.trans (congrArg some (EP h))
theorem sp{vs:List V}{v:V}(h:iT vs=some v):vs=[v]:=match vs,h with
 |[_],h=>congrArg (fun v=>[v]) (Option.some.inj h)
theorem eV{x:V}{a:Int}(v:Value)(R:bj prog w H W x v)(h:bN x=some a){P:Value→Prop}(k: ∀t,P (.int a t)):P v:=by
 rw[pD h] at R
 exact Exists.elim R fun t e=>Eq.subst (motive:=P) (Eq.symm e) (k t)
theorem qA{x:V}{a:List Nat}(v:Value)(R:bj prog w H W x v)(h:iJ x=some a){P:Value→Prop}(k: ∀t,a.length≤cP→P (.str ⟨a.toArray⟩ t)):P v:=by
 rw[kO h] at R
 exact Exists.elim R fun t e=>Eq.subst (motive:=P) e.1.symm (k t e.2)
theorem zK{x:V}{a:Bool}(v:Value)(R:bj prog w H W x v)(h:qf x=some a){P:Value→Prop}(k:P (.bool a)):P v:=by
 rw[rH h] at R
 exact Eq.subst (motive:=P) (Eq.symm R) k
structure SeqAt(prog:Program)(w:World)(H:bg)(W:Wd)(s:Shared)(c:String)(xs:List V)(a:Addr)(o:Obj)(vs:List Value):Prop where
 g:s.heap.get? a=some o
 q:br c o vs
 r:ar prog w H W xs vs
 n:xs.length≤cP
theorem St.lst(S:St prog w H W fx σ os s){x:V}{xs:List V}(v:Value)(R:bj prog w H W x v)(h:dG σ x=some xs){P:Value→Prop}(k: ∀a o vs,SeqAt prog w H W s "list" xs a o vs→P (.ref a)):P v:=by
 refine ug h (fun h=>?_) fun _ h=>ob h fun i hi h=>?_
 ·rw[mE h] at R
  exact jC R fun a o vs y=>Eq.subst (motive:=P) y.e.symm (k a o vs ⟨S.keepP _ _ y.p,y.q,y.r,y.n⟩)
 ·rw[fN hi] at R
  exact aA R fun a e p=>Eq.subst (motive:=P) e.symm (nz (S.mo i a _ p (mD h)) fun o vs g q r n=>k a o vs ⟨g,q,r,n⟩)
theorem St.tupV(S:St prog w H W fx σ os s){x:V}{xs:List V}(v:Value)(R:bj prog w H W x v)(h:e9 x=some xs){P:Value→Prop}(k: ∀a o vs,SeqAt prog w H W s "tuple" xs a o vs→W.P a=some o→P (.ref a)):P v:=by
 rw[kK h] at R
 exact jC R fun a o vs y=>Eq.subst (motive:=P) y.e.symm (k a o vs ⟨S.keepP _ _ y.p,y.q,y.r,y.n⟩ y.p)
theorem qR{l b:Addr}{o o':Obj}{vs us:List Value}(hl:s.heap.get? l=some o)(hb:s.heap.get? b=some o')(x:br "list" o vs)(y:br "list" o' us)(hz:vs.length+us.length≤sizeLine)
  (h:Q (.ref s.heap.objs.size) {s with heap:=s.heap.push (hJ (vs++us))}):wpAny (model prog w) A (binaryOp .Add (.ref l) (.ref b)) Q Z s:=by
 refine cN x.eq fun n e1=>cN y.eq fun n' e2=>?_
 rw[e1] at hl
 rw[e2] at hb
 rw[show hJ (vs++us)={cls:= .type "list",data:= .seq (vs.toArray++us.toArray)} by rw[hJ,List.append_toArray]] at h
 exact concat_meets ⟨_,hl,rfl⟩ ⟨_,hb,rfl⟩ noFill_list_add seq_list_add PySem.F.slot_list_add PySem.F.entry_list_add (PySem.F.args_list_add_2 _ _) (list_addW l b vs.toArray us.toArray n n' none none #[] #[] hz) ⟨hl,hb,h⟩
theorem rj{vs:List Value}(h:0<vs.length): ¬vs.toArray.isEmpty=true:=match vs,h with
 |_::_,_=>fun e=>nomatch of_decide_eq_true e
theorem ql{l b:Addr}{o o':Obj}{vs us:List Value}(hl:s.heap.get? l=some o)(hb:s.heap.get? b=some o')(x:br "tuple" o vs)(y:br "tuple" o' us)(hz:vs.length+us.length≤sizeLine)(h0:0<vs.length)(h1:0<us.length)
  (h:Q (.ref s.heap.objs.size) {s with heap:=s.heap.push (tM (vs++us))}):wpAny (model prog w) A (binaryOp .Add (.ref l) (.ref b)) Q Z s:=by
 refine cN x.eq fun n e1=>cN y.eq fun n' e2=>?_
 rw[e1] at hl
 rw[e2] at hb
 rw[show tM (vs++us)={cls:= .type "tuple",data:= .seq (vs.toArray++us.toArray)} by rw[tM,List.append_toArray]] at h
 exact concat_meets ⟨_,hl,rfl⟩ ⟨_,hb,rfl⟩ noFill_tuple_add seq_tuple_add PySem.F.slot_tuple_add PySem.F.entry_tuple_add (PySem.F.args_tuple_add_2 _ _) (tuple_addW2 l b vs.toArray us.toArray n n' none none #[] #[] (rj h0) (rj h1) hz) ⟨hl,hb,h⟩
noncomputable def EI:Op→Operator
 | .add=> .Add| .sub=> .Sub| .mul=> .Mult| .div=> .FloorDiv| .mod=> .Mod| .shl=> .LShift| .shr=> .RShift| .and=> .BitAnd| .or=> .BitOr| .xor=> .BitXor
theorem zh{op:Op}{a b z:Int}{t u:Tok}(e:iop op a b=some z)(h:Q (.int z s.toks) {s with toks:=s.toks+1}):wpAny (model prog w) A (binaryOp (EI op) (.int a t) (.int b u)) Q Z s:=by
 cases op with
 |add=>exact PySem.P.add_int (Option.some.inj e▸h)
 |sub=>exact PySem.P.sub_int (Option.some.inj e▸h)
 |mul=>exact qG e fun hb e=>PySem.P.mul_int (e▸h) (IntMulOk.of_left (intBits_le_64 (by have h1:=hb.1;unfold qr at h1;omega) (by have h1:=hb.1;unfold qr at h1;omega)))
 |div=>exact qG e fun hb e=>floordiv_int (Int.ne_of_gt hb.1) (by rw[Int.fdiv_eq_ediv_of_nonneg _ (Int.le_of_lt hb.1),e];exact h) (.inl (PyProof.noPylong_small (by omega)))
 |mod=>exact qG e fun hb e=>mod_int' (Int.ne_of_gt hb) (by rw[Int.fmod_eq_emod_of_nonneg _ (Int.le_of_lt hb),e];exact h)
 |shl=>exact qG e fun hb e=>lshift_int_small hb.1 (Int.le_trans hb.2.1 (by decide)) (by have h1:=hb.2.2;unfold qr at h1;omega) (e▸h)
 |shr=>exact qG e fun hb e=>rshift_int hb (by rw[Int.fdiv_eq_ediv_of_nonneg _ (Int.le_of_lt (Int.pow_pos (by decide))),e];exact h)
 |and=>exact qG e fun hb e=>and_int (by rw[bitAnd_pp hb.1 hb.2,e];exact h)
 |or=>exact qG e fun hb e=>or_int (by rw[Bx hb.1 hb.2,e];exact h)
 |xor=>exact qG e fun hb e=>xor_int (by rw[zz hb.1 hb.2,e];exact h)
theorem rF{x y:V}{vx vy:Value}{zs:List V}(S:St prog w H W fx σ os s)(Rx:bj prog w H W x vx)(Ry:bj prog w H W y vy)(e:zw σ x y=some zs)
  (h: ∀us,ar prog w H W zs us→zs.length≤cP→Q (.ref s.heap.objs.size) {s with heap:=s.heap.push (hJ us)}):wpAny (model prog w) A (binaryOp .Add vx vy) Q Z s:=by
 refine iF fun nG=>ob e fun xs hx e=>ob e fun ys hy e=>qG e fun hl e=>nG ?_
 apply S.lst vx Rx hx;intro a o vs k
 apply S.lst vy Ry hy;intro b o' us m
 have R:=k.r.append m.r
 rw[e] at R
 refine qR k.g m.g k.q m.q (by rw[k.r.length,m.r.length];exact bM hl) (h _ R ?_)
 rw[←e,List.length_append];exact hl
theorem Bu{x y z:V}{vx vy:Value}(S:St prog w H W fx σ os s)(Rx:bj prog w H W x vx)(Ry:bj prog w H W y vy)(e:Fs x y=some z)
  (h: ∀val tk,bj prog w H W z val→Q val {s with toks:=tk}):wpAny (model prog w) A (binaryOp .Add vx vy) Q Z s:=by
 refine iF fun nG=>ob e fun a ha e=>ob e fun b hb e=>qG e fun hl e=>nG ?_
 subst e
 apply qA vx Rx ha;intro t la
 apply qA vy Ry hb;intro u lb
 refine PySem.P.add_str ?_
 have e0: ∀a:List Nat,(PySem.Str.mk a.toArray).length=0→a=[]:=fun a h=>List.eq_nil_of_length_eq_zero h
 have e:PySem.Str.mk a.toArray++PySem.Str.mk b.toArray=PySem.Str.mk (a++b).toArray:=congrArg PySem.Str.mk (List.append_toArray a b)
 split
 ·rename_i h0
  rw[e0 a (eq_of_beq h0)] at h
  exact h _ _ (jB lb)
 ·split
  ·rename_i h0
   rw[e0 b (eq_of_beq h0),List.append_nil] at h
   exact h _ _ (jB la)
  ·rw[e]
   have hz:(a++b).length≤cP:=by rw[List.length_append];exact hl
   exact⟨bM hz,h _ _ (jB hz)⟩
theorem Bt{x y z:V}{vx vy:Value}(S:St prog w H W fx σ os s)(Rx:bj prog w H W x vx)(Ry:bj prog w H W y vy)(e:Fq x y=some z)
  (h: ∀W' val s',W.le W'→St prog w H W' fx σ os s'→bj prog w H W' z val→Q val s'):wpAny (model prog w) A (binaryOp .Add vx vy) Q Z s:=by
 refine iF fun nG=>ob e fun xs hx e=>ob e fun ys hy e=>qG e fun hl e=>nG ?_
 subst e
 apply S.tupV vx Rx hx;intro a o vs k _
 apply S.tupV vy Ry hy;intro b o' us m _
 refine ql k.g m.g k.q m.q (by rw[k.r.length,m.r.length];exact bM hl.1) (by rw[k.r.length];exact hl.2.1) (by rw[m.r.length];exact hl.2.2) ?_
 exact S.newTup (k.r.append m.r) (by rw[List.length_append];exact hl.1) fun W' l S' R'=>h W' _ _ l S' R'
theorem AD{op:Op}{x y z:V}{vx vy:Value}(S:St prog w H W fx σ os s)(Rx:bj prog w H W x vx)(Ry:bj prog w H W y vy)(e:cX σ op x y=some z)
  (h: ∀W' val s',W.le W'→St prog w H W' fx σ os s'→bj prog w H W' z val→Q val s'):wpAny (model prog w) A (binaryOp (EI op) vx vy) Q Z s:=by
 refine ug e (fun e=>?_) fun _ e=>?_
 ·refine iF fun nG=>ob e fun a ha e=>ob e fun b hb e=>ob e fun i hi e=>nG ?_
  apply eV vx Rx ha;intro t
  apply eV vy Ry hb;intro u
  exact zh hi (h W _ _ (.refl _) S.tok (Option.some.inj e▸cr))
 ·by_cases ho:op= .add
  ·rw[ho] at e⊢
   exact ug e (fun e=>ug e (fun e=>Bu S Rx Ry e fun val tk R=>h W val _ (.refl _) S.tok R) fun _ e=>Bt S Rx Ry e h)
    fun _ e=>ob e fun zs hz e=>rF S Rx Ry hz fun us R hl=>S.newLst R hl fun W' l S' R'=>h W' _ _ l S' (Option.some.inj e▸R')
  ·rw[if_neg ho] at e;cases e
end
end Mine
end
section
namespace Mine
open PySem PySem.W PyProof.Rows
section
variable{prog:Program}{w:World}{H:bg}{os:OsState}{C:Ctx}{call:aw}{n:Nat}{X:aH}
variable{A:Around}{W W':Wd}{fx:Fz}{Q:Value→Shared→Prop}{Z:Value→Shared→Prop}{s:Shared}{σ:ah}{sc:Scope}
theorem so{α β:Type}{o:Option α}{f:α→ay β}{Qp:β→Prop}{Qx:List Nat→ah→Prop}{P:Prop}(h:((ay.ofOpt o).bind f).sat Qp Qx)(k: ∀a,o=some a→(f a).sat Qp Qx→P):P:=match o,h with
 |some a,h=>k a rfl h
theorem az{op:Op}{a b:Mine.E}{l r:Expr}{pos:Pos}(ha:SE prog w H os C call n X sc a l)(hb:SE prog w H os C call n X sc b r):
  SE prog w H os C call n X sc (.bin op a b) (.BinOp l (EI op) r pos):=by
 intro A env ρ W fx σ s Q Z rm ew er S h
 refine wpAny_BinOp (ha.then rm ew er S h (fun _ _ x=>x) fun q W' vx s' l S' R er' h'=>?_)
 refine hb.then rm ew er' S' h' (fun _ _ x=>x.le l) fun q2 W2 vy s2 l2 S2 R2 er2 h2=>?_
 exact so h2 fun z e hz=>AD S2 (R.le l2) R2 e fun W3 val s3 l3 S3 R3=>hz W3 val s3 ((l.trans l2).trans l3) S3 R3
theorem nq{a:Mine.E}{x:Expr}{pos:Pos}(ha:SE prog w H os C call n X sc a x):SE prog w H os C call n X sc (.neg a) (.UnaryOp .USub x pos):=by
 intro A env ρ W fx σ s Q Z rm ew er S h
 refine wpAny_UnaryOp (ha.then rm ew er S h (fun _ _ x=>x) fun q W' vx s' l S' R er' h'=>?_)
 refine so h' fun i hi h'=>?_
 apply eV vx R hi;intro t
 exact PySem.P.neg_int (h' W' _ _ l S'.tok cr)
theorem oN{t a b:Mine.E}{x y z:Expr}{pos:Pos}(ht:ST prog w H os C call n X sc t x)(ha:SE prog w H os C call n X sc a y)(hb:SE prog w H os C call n X sc b z):
  SE prog w H os C call n X sc (.ite t a b) (.IfExp x y z pos):=by
 intro A env ρ W fx σ s Q Z rm ew er S h
 refine wpAny_IfExp (ht A env ρ W fx σ s _ _ rm ew er S (ay.sat_mono (ay.sat_bind.mp h) (fun q hq W' s' l S'=>?_) fun _ _ e=>e))
 have er':=er.le l fun _ _ e=>e
 cases q with
 |mk c σ'=>cases c with
  |true=>exact ha A env ρ W' fx σ' s' Q Z rm ew er' S' (ay.sat_mono hq (fun _ e=>e.le l) fun _ _ e=>e.le l)
  |false=>exact hb A env ρ W' fx σ' s' Q Z rm ew er' S' (ay.sat_mono hq (fun _ e=>e.le l) fun _ _ e=>e.le l)
theorem yD{xs:List V}{v:Value}{a:Addr}{o:Obj}{vs:List Value}{Q:Bool→Shared→Prop}(k:SeqAt prog w H W s "list" xs a o vs)(h: ∀tk,Q (!xs.isEmpty) {s with toks:=tk}):wpAny (model prog w) A (truthy (.ref a)) Q Z s:=by
 have e:(!vs.toArray.isEmpty)=!xs.isEmpty:=by
  have:=k.r.length
  cases vs<;>cases xs<;>first|rfl|cases this
 refine wpAny_truthy_list (k.q.isList k.g) (Int.lt_of_le_of_lt (Int.ofNat_le.mpr (show vs.toArray.size≤cP by rw[List.size_toArray,k.r.length];exact k.n)) (by decide+kernel)) ?_
 rw[e]
 exact h _
theorem m9{x:V}{v:Value}{b:Bool}{Q:Bool→Shared→Prop}(S:St prog w H W fx σ os s)(R:bj prog w H W x v)(e:nh σ x=some b)
  (h: ∀tk,Q b {s with toks:=tk}):wpAny (model prog w) A (truthy v) Q Z s:=by
 refine ug e (fun e=>ug e (fun e=>?_) fun _ e=>ob e fun i hi e=>?_) fun _ e=>ob e fun xs hx e=>?_
 ·apply zK v R e;exact wpAny_truthy_bool (h s.toks)
 ·apply eV v R hi;intro t;exact PySem.P.truthy_int (Option.some.inj e▸h s.toks)
 ·apply S.lst v R hx;intro a o vs k;exact yD (v:=v) k (Option.some.inj e▸h)
theorem ST.of_SE{e:Mine.E}{x:Expr}(h:SE prog w H os C call n X sc e x)(ht:eR C call e=fun ρ σ=>(bp C call e ρ σ).bind fun x=>(ay.ofOpt (nh x.2 x.1)).bind fun t=> .ok (t,x.2))
  (hx: ∀env whole,isTrue x env whole=(do let v←whole;standAt x.pos;holding [v] (truthy v))):ST prog w H os C call n X sc e x:=by
 intro A env ρ W fx σ s Q Z rm ew er S hs
 rw[ht] at hs
 dsimp only at hs
 refine isTrue_plain (h.then rm ew er S hs (fun _ _ x=>x) fun q W' v s' l S' R er' h'=>?_) (hx _ _)
 exact so h' fun b e hb=>m9 S' R e fun tk=>hb W' _ l S'.tok
theorem wh{l r:Expr}{op:CmpOp}{pos:Pos}{env:PySem.Env}{whole:Sem Value}{Q:Bool→Shared→Prop}(hm:behindInMarks op r=false)
  (h:wpAny (model prog w) A (eval (.Compare l [op] [r] pos) env) (fun v s₁=>wpAny (model prog w) A (truthy v) Q Z s₁) Z s):wpAny (model prog w) A (isTrue (.Compare l [op] [r] pos) env whole) Q Z s:=by
 intro Γ p hΓ
 have h':=h Γ p hΓ
 simp only [isTrue_Compare1,markedBehindIn_of_false hm,Sem.wp_bind',Sem.wp_holding,Sem.wp_cmd_standAt,Sem.wp_operate]
 rw[eval_Compare1] at h'
 simp only [markedBehindIn_of_false hm,Sem.wp_bind',Sem.wp_holding,Sem.wp_cmd_standAt,Sem.wp_operate] at h'
 exact Sem.wp_mono _ Γ _ (fun a p₁ s₁ h₁=>Sem.wp_mono _ Γ _ (fun b _ s₂ h₂=>Sem.wp_mono _ Γ _ (fun c p₃ s₃ h₃=>h₃ Γ p₃ hΓ) (fun _ _ _ e=>e) _ _ h₂) (fun _ _ _ e=>e) _ _ h₁) (fun _ _ _ e=>e) _ _ h'
theorem ST.of_cmp{e:Mine.E}{l r:Expr}{op:CmpOp}{pos:Pos}(h:SE prog w H os C call n X sc e (.Compare l [op] [r] pos))(ht:eR C call e=fun ρ σ=>(bp C call e ρ σ).bind fun x=>(ay.ofOpt (nh x.2 x.1)).bind fun t=> .ok (t,x.2))
  (hm:behindInMarks op r=false):ST prog w H os C call n X sc e (.Compare l [op] [r] pos):=by
 intro A env ρ W fx σ s Q Z rm ew er S hs
 rw[ht] at hs
 dsimp only at hs
 refine wh hm (h.then rm ew er S hs (fun _ _ x=>x) fun q W' v s' l S' R er' h'=>?_)
 exact so h' fun b e hb=>m9 S' R e fun tk=>hb W' _ l S'.tok
theorem yu.le{Q:Bool→Shared→Prop}{q:Bool×ah}(l:W.le W')(h:yu prog w H os A W fx Q q):yu prog w H os A W' fx Q q:=fun W'' s' a b=>h W'' s' (l.trans a) b
theorem wY{a b:Mine.E}{x y:Expr}{rest:List Expr}{pos:Pos}(ha:ST prog w H os C call n X sc a x)
  (hb:ST prog w H os C call n X sc b (.BoolOp .And (y::rest) pos)):ST prog w H os C call n X sc (.band a b) (.BoolOp .And (x::y::rest) pos):=by
 intro A env ρ W fx σ s Q Z rm ew er S h
 refine isTrue_and (ha A env ρ W fx σ s _ _ rm ew er S (ay.sat_mono (ay.sat_bind.mp h) (fun q hq W' s' l S'=>?_) fun _ _ e=>e))
 cases q with
 |mk c σ'=>cases c with
  |true=>exact hb A env ρ W' fx σ' s' Q Z rm ew (er.le l fun _ _ e=>e) S' (ay.sat_mono hq (fun _ e=>e.le l) fun _ _ e=>e.le l)
  |false=>exact hq W' s' l S'
theorem kL{a b:Mine.E}{x y:Expr}{rest:List Expr}{pos:Pos}(ha:ST prog w H os C call n X sc a x)
  (hb:ST prog w H os C call n X sc b (.BoolOp .Or (y::rest) pos)):ST prog w H os C call n X sc (.bor a b) (.BoolOp .Or (x::y::rest) pos):=by
 intro A env ρ W fx σ s Q Z rm ew er S h
 refine isTrue_or (ha A env ρ W fx σ s _ _ rm ew er S (ay.sat_mono (ay.sat_bind.mp h) (fun q hq W' s' l S'=>?_) fun _ _ e=>e))
 cases q with
 |mk c σ'=>cases c with
  |true=>exact hq W' s' l S'
  |false=>exact hb A env ρ W' fx σ' s' Q Z rm ew (er.le l fun _ _ e=>e) S' (ay.sat_mono hq (fun _ e=>e.le l) fun _ _ e=>e.le l)
theorem rT{b:Mine.E}{y:Expr}{pos:Pos}(hb:ST prog w H os C call n X sc b y):ST prog w H os C call n X sc b (.BoolOp .And [y] pos):=by
 intro A env ρ W fx σ s Q Z rm ew er S h
 refine isTrue_and (hb A env ρ W fx σ s _ _ rm ew er S (ay.sat_mono h (fun q hq W' s' l S'=>?_) fun _ _ e=>e))
 obtain⟨c,σ'⟩:=q
 cases c with
 |true=>exact isTrue_and_nil (hq W' s' l S')
 |false=>exact hq W' s' l S'
theorem nj{b:Mine.E}{y:Expr}{pos:Pos}(hb:ST prog w H os C call n X sc b y):ST prog w H os C call n X sc b (.BoolOp .Or [y] pos):=by
 intro A env ρ W fx σ s Q Z rm ew er S h
 refine isTrue_or (hb A env ρ W fx σ s _ _ rm ew er S (ay.sat_mono h (fun q hq W' s' l S'=>?_) fun _ _ e=>e))
 obtain⟨c,σ'⟩:=q
 cases c with
 |true=>exact hq W' s' l S'
 |false=>exact isTrue_or_nil (hq W' s' l S')
noncomputable def aR:Expr→Bool
 | .Starred _ _=>true
 |_=>false
theorem tR{env:PySem.Env}{x:Expr}{xs:List Expr}(h:aR x=false):starEach (x::xs) env=(false,eval x env)::starEach xs env:=by cases x<;>first|rfl|cases h
theorem aq:SL prog w H os C call n X sc [] []:=by
 intro pos A env ρ W fx σ s Q Z rm ew er S h
 exact Calls.spliced_nil (h W _ _ (.refl _) S ar.nil)
theorem aa{e:Mine.E}{x:Expr}{es:List Mine.E}{xs:List Expr}(hs:aR x=false)(he:SE prog w H os C call n X sc e x)(hr:SL prog w H os C call n X sc es xs):SL prog w H os C call n X sc (e::es) (x::xs):=by
 intro pos A env ρ W fx σ s Q Z rm ew er S h
 have h':((bp C call e ρ σ).bind fun x=>(dB C call es ρ x.2).bind fun y=> .ok (x.1::y.1,y.2)).sat (Eh prog w H os A W fx Q) (cF X A W fx Z):=h
 rw[ay.sat_bind] at h'
 refine spliced_more (he A env ρ W fx σ s _ _ rm ew er S (ay.sat_mono h' (fun q hq W' v s' l S' R=>?_) fun _ _ e=>e)) ?_
 ·rw[ay.sat_bind] at hq
  exact hr pos A env ρ W' fx q.2 s' _ _ rm ew (er.le l fun _ _ e=>e) S' (ay.sat_mono hq (fun q2 h2 W2 vs s2 l2 S2 R2=>h2 W2 _ s2 (l.trans l2) S2 (ar.cons (R.le l2) R2)) fun _ _ e=>e.le l)
 ·exact tR hs
theorem nI: ∀(es:List Mine.E) (ρ:Env) (σ:ah) {Qp:List V×ah→Prop} {Qx:List Nat→ah→Prop},(dB C call es ρ σ).sat Qp Qx→(dB C call es ρ σ).sat (fun q=>q.1.length=es.length∧Qp q) Qx
 |[],ρ,σ,Qp,Qx,h=>⟨rfl,h⟩
 |e::r,ρ,σ,Qp,Qx,h=>by
  have h':((bp C call e ρ σ).bind fun x=>(dB C call r ρ x.2).bind fun y=> .ok (x.1::y.1,y.2)).sat Qp Qx:=h
  show((bp C call e ρ σ).bind fun x=>(dB C call r ρ x.2).bind fun y=> .ok (x.1::y.1,y.2)).sat _ Qx
  rw[ay.sat_bind] at h'⊢
  refine ay.sat_mono h' (fun q hq=>?_) fun _ _ e=>e
  rw[ay.sat_bind] at hq⊢
  exact ay.sat_mono (nI r ρ q.2 hq) (fun q2 h2=>⟨by simp [h2.1],h2.2⟩) fun _ _ e=>e
theorem SL.then{es:List Mine.E}{xs:List Expr}(h:SL prog w H os C call n X sc es xs){pos:Pos}{env:PySem.Env}{ρ:Env}{Q:List Value→Shared→Prop}{α:Type}{k:List V×ah→ay α}{Qp:α→Prop}{Qx:List Nat→ah→Prop}
  (r:bX A n)(ew:EnvW sc env)(er:bo prog w H W fx sc env ρ)(S:St prog w H W fx σ os s)
  (hs:((dB C call es ρ σ).bind k).sat Qp Qx)(hx: ∀m σ',Qx m σ'→cF X A W fx Z m σ')
  (hk: ∀q W' vals s',q.1.length=es.length→W.le W'→St prog w H W' fx q.2 os s'→ar prog w H W' q.1 vals→bo prog w H W' fx sc env ρ→(k q).sat Qp Qx→Q vals s'):
  wpAny (model prog w) A (spliced (backTo pos (starEach xs env))) Q Z s:=by
 rw[ay.sat_bind] at hs
 refine h pos A env ρ W fx σ s Q Z r ew er S (ay.sat_mono (nI _ _ _ hs) (fun q hq W' vals s' l S' R=>hk q W' vals s' hq.1 l S' R (er.le l fun _ _ e=>e) hq.2) hx)
theorem bA{es:List Mine.E}{xs:List Expr}{k:Nat}{pos:Pos}(h:SL prog w H os C call n X sc es xs)(hl:es.length≤cP):SE prog w H os C call n X sc (.tup es) (.Tuple xs k pos):=by
 intro A env ρ W fx σ s Q Z rm ew er S hs
 refine Tuple_ (h.then rm ew er S hs (fun _ _ x=>x) fun q W' vals s' hq l S' R er' h'=>?_)
 have hz:q.1.length≤cP:=by rw[hq];exact hl
 refine wpAny_newTuple ?_ (by rw[R.length];exact bM hz)
 exact S'.newTup R hz fun W2 l2 S2 R2=>h' W2 _ _ (l.trans l2) S2 R2
theorem iK{es:List Mine.E}{xs:List Expr}{pos:Pos}(h:SL prog w H os C call n X sc es xs)(hl:es.length≤cP):SE prog w H os C call n X sc (.lst es) (.List xs pos):=by
 intro A env ρ W fx σ s Q Z rm ew er S hs
 refine List_ (h.then rm ew er S hs (fun _ _ x=>x) fun q W' vals s' hq l S' R er' h'=>?_)
 have hz:q.1.length≤cP:=by rw[hq];exact hl
 refine wpAny_newList ?_ (by rw[R.length];exact bM hz)
 exact S'.newLst R hz fun W2 l2 S2 R2=>h' W2 _ _ (l.trans l2) S2 R2
theorem mt{es:List Mine.E}{xs:List Expr}{pos:Pos}(h:SL prog w H os C call n X sc es xs)(hl:es.length≤cP):SE prog w H os C call n X sc (.lstM es) (.List xs pos):=by
 intro A env ρ W fx σ s Q Z rm ew er S hs
 refine List_ (h.then rm ew er S hs (fun _ _ x=>x) fun q W' vals s' hq l S' R er' h'=>?_)
 have hz:q.1.length≤cP:=by rw[hq];exact hl
 refine wpAny_newList ?_ (by rw[R.length];exact bM hz)
 exact S'.newMut R hz fun W2 l2 S2 R2=>h' W2 _ _ (l.trans l2) S2 R2
theorem Ez{a b:Mine.E}{l r:Expr}{pos:Pos}(ha:SE prog w H os C call n X sc a l)(hb:SE prog w H os C call n X sc b r):
  SE prog w H os C call n X sc (.catM a b) (.BinOp l .Add r pos):=by
 intro A env ρ W fx σ s Q Z rm ew er S h
 refine wpAny_BinOp (ha.then rm ew er S h (fun _ _ x=>x) fun q W' vx s' l S' R er' h'=>?_)
 refine hb.then rm ew er' S' h' (fun _ _ x=>x.le l) fun q2 W2 vy s2 l2 S2 R2 er2 h2=>?_
 exact so h2 fun zs e hz=>rF S2 (R.le l2) R2 e fun us R hl=>S2.newMut R hl fun W3 l3 S3 R3=>hz W3 _ _ ((l.trans l2).trans l3) S3 R3
end
end Mine
end
section
namespace Mine
open PySem PySem.W PyProof.Rows
noncomputable def fP:Expr→Bool
 | .Slice _ _ _ _=>false
 |_=>true
theorem oif'{α:Type}{c:Prop} [Decidable c]{a:Option α}{z:α}{P:Prop}(h:(if c then a else none)=some z)(k:c→a=some z→P):P:=by
 by_cases hc:c
 ·rw[if_pos hc] at h;exact k hc h
 ·rw[if_neg hc] at h;exact dA h
theorem jz{sl:Expr}(h:fP sl=true)(o i:Value):subscripted sl false o i=operate [o,i] (getItem o i):=by
 cases sl<;>first|rfl|cases h
theorem xX{i:Int}{n j:Nat}{P:Prop}(h:idxOf i n=some j)(k1:0≤i→i<n→i.toNat=j→P)(k2:i<0→ -(n:Int)≤i→(i+n).toNat=j→P):P:=by
 by_cases h0:0≤i
 ·rw[idxOf,if_pos h0] at h;exact qG h (k1 h0)
 ·rw[idxOf,if_neg h0] at h;exact qG h (k2 (Int.not_le.mp h0))
theorem xd{i k:Int}{n:Nat}(e:(if i<0 then i+n else i)=k)(h0:0≤k)(h1:k<n):seqIndex? i n=some k.toNat:=by
 show(if(0≤(if i<0 then i+(n:Int) else i)&&(if i<0 then i+(n:Int) else i)<n) then some (if i<0 then i+(n:Int) else i).toNat else none)=_
 rw[e,decide_eq_true h0,decide_eq_true h1];rfl
theorem AL{i:Int}{n:Nat}(h:i<0):i+n<n:=by
 have e:=Int.add_lt_add_right h n
 rwa[Int.zero_add] at e
theorem Da{i:Int}{n:Nat}(h: -(n:Int)≤i):0≤i+n:=by rw[←Int.add_left_neg (n:Int)];exact Int.add_le_add_right h n
theorem xW{i:Int}{n j:Nat}(h:idxOf i n=some j):seqIndex? i n=some j:=xX h
 (fun a b c=>c▸xd (if_neg (Int.not_lt.mpr a)) a b)
 fun a b c=>c▸xd (if_pos a) (Da b) (AL a)
theorem ib(i:Int)(n:Nat):(cO i n:Int)=if i<0 then max (i+n) 0 else min i n:=by
 unfold cO
 by_cases h:i<0
 ·rw[if_pos h,if_pos h,Int.toNat_eq_max]
 ·rw[if_neg h,if_neg h]
  show((min i.toNat n:Nat):Int)=_
  have e:=Int.toNat_of_nonneg (Int.not_lt.mp h)
  rcases Nat.le_total i.toNat n with q|q
  ·rw[Nat.min_eq_left q,Int.min_eq_left (by rw[←e];exact Int.ofNat_le.mpr q),e]
  ·rw[Nat.min_eq_right q,Int.min_eq_right (by rw[←e];exact Int.ofNat_le.mpr q)]
theorem u9(i:Int)(n:Nat):(cO i n:Int)=max 0 (min (if i<0 then i+n else i) n):=by
 rw[ib]
 by_cases h:i<0
 ·rw[if_pos h,if_pos h,Int.min_eq_left (Int.le_of_lt (AL h)),Int.max_comm]
 ·rw[if_neg h,if_neg h,Int.max_eq_right (Int.le_min.mpr ⟨Int.not_lt.mp h,Int.natCast_nonneg n⟩)]
noncomputable def nD(lo:Option Int)(n:Nat):Nat:=match lo with|some i=>cO i n| .none=>0
noncomputable def wm(hi:Option Int)(n:Nat):Nat:=match hi with|some i=>cO i n| .none=>n
theorem mr(xs:List V)(lo hi:Option Int):cM xs lo hi=(xs.drop (nD lo xs.length)).take (wm hi xs.length-nD lo xs.length):=by
 unfold cM nD wm
 cases lo<;>cases hi<;>rfl
theorem CP(items:Array Value)(lo hi:Option Int):slicePick items lo hi none=((items.toList.drop (nD lo items.size)).take (wm hi items.size-nD lo items.size)).toArray:=by
 have e:sliceBounds lo hi none items.size=((nD lo items.size:Int),(wm hi items.size:Int),1):=by
  simp only [sliceBounds,Option.getD_none,show(1:Int)>0 by decide,if_true,nD,wm]
  congr 1
  ·cases lo with
   |none=>rfl
   |some i=>exact(u9 i items.size).symm
  ·congr 1
   cases hi with
   |none=>rfl
   |some i=>exact(u9 i items.size).symm
 unfold slicePick
 rw[e]
 simp only [sliceRange_one,pick_run]
section
variable{prog:Program}{w:World}{H:bg}{os:OsState}{C:Ctx}{call:aw}{n:Nat}{X:aH}
variable{A:Around}{W W':Wd}{fx:Fz}{Q:Value→Shared→Prop}{Z:Value→Shared→Prop}{s:Shared}{σ:ah}{sc:Scope}
theorem lP{j k:Int}{v:Value}{l:List (Int×Value)}:valueAt ((j,v)::l) k=if j=k then some v else valueAt l k:=by
 show Option.map (fun x=>x.2) (match decide (j=k) with|true=>some (j,v)|false=>l.find? fun kv=>decide (kv.1=k))=_
 by_cases h:j=k
 ·rw[decide_eq_true h,if_pos h];rfl
 ·rw[decide_eq_false h,if_neg h];rfl
theorem fQ: ∀{ks:List Int} {xs:List V} {vs:List Value} {k:Int} {x:V},ar prog w H W xs vs→(ks.zip xs).lookup k=some x→ ∃u,valueAt (ks.zip vs) k=some u∧bj prog w H W x u
 |[],_,_,_,_,_,h=>dA h
 |_::_,[],_,_,_,_,h=>dA h
 |j::ks,y::xs,vs,k,x,R,h=>by
  apply cy vs R;intro v q p t
  rw[List.zip_cons_cons,lP]
  by_cases hk:k=j
  ·rw[List.zip_cons_cons,hk,List.lookup_cons_self] at h
   exact⟨v,if_pos hk.symm,Option.some.inj h▸p⟩
  ·rw[List.zip_cons_cons,List.lookup_cons,beq_eq_false_iff_ne.mpr hk] at h
   rw[if_neg (Ne.symm hk)]
   exact fQ t h
theorem ck.of{o:Obj}{kvs:List (Int×Value)}{h:Heap}{a:Addr}(x:ck prog w o kvs)(e:h.get? a=some o):h.DictOf (intKind prog w) a kvs:=
 ir x fun c es ep d k p q=>⟨o,es,ep,e,c,d,k,p,q⟩
theorem ck.to{kvs:List (Int×Value)}{h:Heap}{a:Addr}(x:h.DictOf (intKind prog w) a kvs): ∃o,h.get? a=some o∧ck prog w o kvs:=
 oE3A5 x fun o es ep e c d k p q=>⟨o,e,c,es,ep,d,k,p,q⟩
theorem fF(k:Int)(t:Tok):(intKind prog w).is k (.int k t)=true:=beq_self_eq_true k
theorem St.dict(S:St prog w H W fx σ os s){x:V}{d:List Int×List V}(v:Value)(R:bj prog w H W x v)(h:dictOf σ x=some d){P:Value→Prop}(k: ∀a vs,s.heap.DictOf (intKind prog w) a (d.1.zip vs)→ar prog w H W d.2 vs→d.1.length=d.2.length→d.2.length≤cP→(a==sysModules)=false→P (.ref a)):P v:=by
 refine ug h (fun h=>?_) fun _ h=>ob h fun i hi h=>?_
 ·rw[mJ h] at R
  exact jC R fun a o vs y=>Eq.subst (motive:=P) y.e.symm (k a vs (y.q.of (S.keepP _ _ y.p)) y.r y.l y.n y.m)
 ·rw[fN hi] at R
  exact aA R fun a e p=>Eq.subst (motive:=P) e.symm (rh (S.mo i a _ p (sW h)) fun o vs g q r l n m=>k a vs (q.of g) r l n m)
theorem Ch{a:Addr}{o:Obj}{c:String}{vs:List Value}{value slice:Expr}{i:Int}{t:Tok}{j:Nat}{u:Value}(hc:c= "tuple" ∨c= "list")(ho:s.heap.get? a=some o)(x:br c o vs)(hn:fP slice=true)
  (hb:i.natAbs<qr)(hj:idxOf i vs.length=some j)(hu:vs[j]? =some u)(h:Q u s):wpAny (model prog w) A (subscriptTail value slice (.ref a) (.int i t)) Q Z s:=by
 have b1:i<2^63:=Int.lt_of_le_of_lt Int.le_natAbs (Int.ofNat_lt.mpr hb)
 have b2: -(2^63)≤i:=Int.neg_le_of_neg_le (Int.le_trans (by rw[←Int.natAbs_neg];exact Int.le_natAbs) (Int.le_of_lt (Int.ofNat_lt.mpr hb)))
 rcases hc with rfl|rfl
 ·exact item_tupleT (x.isTup ho) b2 b1 (xW hj) hu h (jz hn _ _)
 ·have hl:=x.isList ho
  rw[←List.getElem?_toArray] at hu
  exact tail_any hl.typeIs slot_list_getitem.lookup (xX hj (fun a b e=>wpAny_getItem_list hl a b1 (e▸hu) h) fun a b e=>wpAny_getItem_list_neg hl a b b2 (e▸hu) h) (jz hn _ _)
theorem yG{x y z:V}{vx vy:Value}{value slice:Expr}(S:St prog w H W fx σ os s)(Rx:bj prog w H W x vx)(Ry:bj prog w H W y vy)(e:dE σ x y=some z)(hn:fP slice=true)
  (h: ∀val tk,bj prog w H W z val→Q val {s with toks:=tk}):wpAny (model prog w) A (subscriptTail value slice vx vy) Q Z s:=by
 refine ob e fun i hi e=>?_
 apply eV vy Ry hi;intro t
 have fin: ∀{c a o vs xs},c= "tuple" ∨c= "list" →SeqAt prog w H W s c xs a o vs→Ci xs i=some z→wpAny (model prog w) A (subscriptTail value slice (.ref a) (.int i t)) Q Z s:=fun hc k e=>
  iF fun nG=>oif' e fun hb e=>ob e fun j hj e=>aA (k.r.get e) fun u hu hr=>nG (Ch hc k.g k.q hn hb (by rw[k.r.length];exact hj) hu (h u s.toks hr))
 refine ug e (fun e=>ob e fun xs hx e=>ug hx (fun hx=>?_) fun _ hx=>?_) fun _ e=>ob e fun d hd e=>?_
 ·apply S.tupV vx Rx hx;intro a o vs k _;exact fin (.inl rfl) k e
 ·apply S.lst vx Rx hx;intro a o vs k;exact fin (.inr rfl) k e
 ·apply S.dict vx Rx hd;intro a vs k1 k2 _ _ _
  exact aA (fQ k2 e) fun u hu hr=>tail_any k1.typeIs slot_dict_getitem.lookup (wpAny_getItem_of (fF i t) k1.mapOf hu (h u _ hr)) (jz hn _ _)
theorem aL{a b:Mine.E}{l r:Expr}{pos:Pos}(hn:fP r=true)(ha:SE prog w H os C call n X sc a l)(hb:SE prog w H os C call n X sc b r):
  SE prog w H os C call n X sc (.sub a b) (.Subscript l r pos):=by
 intro A env ρ W fx σ s Q Z rm ew er S h
 refine Subscript_ (ha.then rm ew er S h (fun _ _ x=>x) fun q W' vx s' l S' R er' h'=>?_)
 refine hb.then rm ew er' S' h' (fun _ _ x=>x.le l) fun q2 W2 vy s2 l2 S2 R2 er2 h2=>?_
 exact so h2 fun z e hz=>yG S2 (R.le l2) R2 e hn fun val tk R3=>hz W2 val _ (l.trans l2) S2.tok R3
theorem xB{v:V}{o:Option Int}(val:Value)(R:bj prog w H W v val)(e:kd v=some o):IsPart val o:=by
 refine ug e (fun e=>ob e fun _ hv e=>?_) fun _ e=>ob e fun i hi e=>?_
 ·rw[oY hv] at R
  rw[←Option.some.inj e,show val= .none from R]
  exact .none
 ·apply eV val R hi;intro t
  exact qG e fun _ e=>e▸ .int i t
theorem kQ{v:Value}{o:Option Int}{Q:Option Int→Shared→Prop}(p:IsPart v o)(h:Q o s):wpAny (model prog w) A (Builtin.Slice.slicePartIndex v) Q Z s:=by
 cases p with
 |none=>exact slicePart_none h
 |int i t=>exact slicePart_int h
theorem EH(a b:Nat):Builtin.Slice.slicePlaces a b 1=b-a:=by
 show(if(1:Int)>0 then(if(a:Int)<b then((b:Int)-a-1)/1+1 else 0) else _).toNat=_
 rw[if_pos (by decide)]
 by_cases h:a<b
 ·rw[if_pos (Int.ofNat_lt.mpr h),Int.ediv_one,Int.sub_add_cancel,←Int.ofNat_sub (Nat.le_of_lt h)];rfl
 ·rw[if_neg fun q=>h (Int.ofNat_lt.mp q),Nat.sub_eq_zero_of_le (Nat.not_lt.mp h)];rfl
theorem FA(lo hi:Option Int)(n:Nat):Builtin.Slice.sliceAdjust lo hi 1 (n:Int)=((nD lo n:Int),(wm hi n:Int)):=by
 cases lo<;>cases hi<;>first|rfl|exact Prod.ext (ib ..).symm rfl|exact Prod.ext rfl (ib ..).symm|exact Prod.ext (ib ..).symm (ib ..).symm
theorem wE{sl:Addr}{vl vu:Value}{lo hi:Option Int}{n:Nat}{Q:Int×Int×Nat→Shared→Prop}(hs:s.heap.IsSliceOf sl vl vu .none)(pl:IsPart vl lo)(pu:IsPart vu hi)(h:Q ((nD lo n:Int),1,wm hi n-nD lo n) s):
  wpAny (model prog w) A (Builtin.Slice.sliceApplied (.ref sl) (pure (n:Int))) Q Z s:=by
 refine cf (id hs) fun o ho hc hd=>?_
 unfold Builtin.Slice.sliceApplied Builtin.Slice.sliceFields
 refine wpAny_bind (wpAny_bind (wpAny_field ho hd (x:=vl) rfl (wpAny_bind (wpAny_field ho hd (x:=vu) rfl (wpAny_bind (wpAny_field ho hd (x:= .none) rfl (wpAny_pure ?_)))))))
 refine wpAny_bind (slicePart_none ?_)
 show wpAny _ _ (if((1:Int)==0)=true then _ else _) _ _ s
 rw[if_neg (by decide)]
 refine wpAny_bind (kQ pl (wpAny_bind (kQ pu (wpAny_bind (wpAny_pure ?_)))))
 show wpAny _ _ (match Builtin.Slice.sliceAdjust lo hi 1 (n:Int) with|(a,b)=>pure (a,(1:Int),Builtin.Slice.slicePlaces a b 1)) _ _ s
 rw[FA]
 show wpAny _ _ (pure ((nD lo n:Int),(1:Int),Builtin.Slice.slicePlaces (nD lo n:Int) (wm hi n:Int) 1)) _ _ s
 rw[EH]
 exact wpAny_pure h
theorem AA(xs:Array Value)(a k:Nat):((List.range k).filterMap fun(j:Nat)=>xs[((a:Int)+(j:Int)*1).toNat]?)=(xs.toList.drop a).take k:=by
 have e:(fun(j:Nat)=>xs[((a:Int)+(j:Int)*1).toNat]?)=fun j=>xs[a+j]? :=by
  funext j
  rw[Int.mul_one];rfl
 rw[e]
 have:=pick_run xs a k
 rw[List.filterMap_map] at this
 exact this
theorem jM{t sl:Addr}{vs:List Value}{vl vu:Value}{lo hi:Option Int}(ht:IsTup s.heap t vs.toArray)(hs:s.heap.IsSliceOf sl vl vu .none)(pl:IsPart vl lo)(pu:IsPart vu hi)(hz:vs.length≤sizeLine)
  (h0:nD lo vs.length=0→wm hi vs.length=vs.length→Q (.ref t) s)
  (h:Q (.ref s.heap.objs.size) {s with heap:=s.heap.push (tM ((vs.drop (nD lo vs.length)).take (wm hi vs.length-nD lo vs.length)))}):
  wpAny (model prog w) A (getItem (.ref t) (.ref sl)) Q Z s:=by
 refine cf (id hs) fun o ho hc hd=>?_
 have hTs:s.TypeIs (.ref sl) "slice" :=⟨o,ho,hc⟩
 unfold getItem
 try with_reducible refine wpAny_holding ?_
 first|refine wpAny_bind (wpAny_pure ?_)|skip
 refine wpAny_bind (wpAny_sequenceKey ht.typeIs (by decide) ?_)
 refine wpAny_bind (wpAny_callSpecial?_slot (name:=Str.ofString "__getitem__") ht.typeIs slot_tuple_getitem
  (wpAny_call_entry slot_tuple_getitem ht.typeIs entry_tuple_getitem ?_ (args_tuple_getitem _ _)))
 show wpAny _ _ (Builtin.Tuple.tupleItemsOf (.ref t)>>=_) _ _ s
 refine wpAny_bind (tupleItemsOf_ ht ?_)
 refine wpAny_bind (wpAny_typeOf hTs ?_)
 rw[if_pos (by decide)]
 have hsz:vs.toArray.size=vs.length:=List.size_toArray
 refine wpAny_bind (wE (n:=vs.toArray.size) hs pl pu ?_)
 rw[hsz]
 have hx:sizeOk (.seq ((vs.drop (nD lo vs.length)).take (wm hi vs.length-nD lo vs.length)).toArray):=by
  show((vs.drop (nD lo vs.length)).take (wm hi vs.length-nD lo vs.length)).toArray.size≤sizeLine
  rw[List.size_toArray,List.length_take,List.length_drop]
  exact Nat.le_trans (Nat.min_le_right ..) (Nat.le_trans (Nat.sub_le ..) hz)
 show wpAny _ _ (if((nD lo vs.length:Int)==0&&(1:Int)==1&&(wm hi vs.length-nD lo vs.length)==vs.toArray.size)=true then _ else _) _ _ s
 by_cases hw:((nD lo vs.length:Int)==0&&(1:Int)==1&&(wm hi vs.length-nD lo vs.length)==vs.toArray.size)=true
 ·rw[if_pos hw]
  have hw1:=Bool.and_eq_true_iff.mp hw
  have e0:nD lo vs.length=0:=Int.ofNat.inj (eq_of_beq (Bool.and_eq_true_iff.mp hw1.1).1)
  have e1:=eq_of_beq hw1.2
  rw[e0,Nat.sub_zero,hsz] at e1
  refine wpAny_bind (m:=Builtin.Tuple.tupleIsExact (.ref t)) ?_
  unfold Builtin.Tuple.tupleIsExact
  refine wpAny_bind (wpAny_typeOf ht.typeIs (wpAny_pure ?_))
  first
   |exact wpAny_bind (wpAny_rule (wpAny_bind (wpAny_pure (wpAny_pure ⟨_,rfl,wpAny_pure (h0 e0 e1)⟩))))
   |exact wpAny_bind (wpAny_rule (wpAny_pure ⟨_,rfl,wpAny_pure (h0 e0 e1)⟩))
 ·rw[if_neg hw,AA]
  first
   |exact wpAny_bind (m:=Builtin.Tuple.tupleExact _) (wpAny_newObj_type (wpAny_pure ⟨_,rfl,wpAny_pure h⟩) hx)
   |exact wpAny_bind (m:=Builtin.Tuple.tupleExact _) (wpAny_newObj_type (wpAny_bind (wpAny_pure (wpAny_pure ⟨_,rfl,wpAny_pure h⟩))) hx)
   |exact wpAny_bind (wpAny_bind (m:=Builtin.Tuple.tupleExact _) (wpAny_newObj_type (wpAny_pure (wpAny_pure ⟨_,rfl,wpAny_pure h⟩)) hx))
   |exact wpAny_bind (wpAny_bind (m:=Builtin.Tuple.tupleExact _) (wpAny_newObj_type (wpAny_pure ⟨_,rfl,wpAny_pure h⟩) hx))
end
end Mine
end
section
namespace Mine
open PySem PySem.W PyProof.Rows PySem.SeqAt
section
variable{prog:Program}{w:World}{H:bg}{os:OsState}{C:Ctx}{call:aw}{n:Nat}{X:aH}
variable{A:Around}{W W':Wd}{fx:Fz}{Q:Value→Shared→Prop}{Z:Value→Shared→Prop}{s:Shared}{σ:ah}{sc:Scope}
variable(prog w H os C call n X) in
noncomputable def SO(sc:Scope)(e:Mine.E)(x:Option Expr):Prop:=
 ∀(A:Around) (env:PySem.Env) (ρ:Env) (W:Wd) (fx:Fz) (σ:ah) (s:Shared) (Q:Value→Shared→Prop) (E:Value→Shared→Prop),
  bX A n→EnvW sc env→bo prog w H W fx sc env ρ→St prog w H W fx σ os s→
  (bp C call e ρ σ).sat (nV prog w H os A W fx Q) (cF X A W fx E)→wpAny (model prog w) A (evalPart x env) Q E s
theorem cQ:SO prog w H os C call n X sc .no none:=by
 intro A env ρ W fx σ s Q Z r ew er S h
 exact(evalPart_none env)▸wpAny_pure (h W _ _ (.refl _) S eM)
theorem b7{e:Mine.E}{x:Expr}(h:SE prog w H os C call n X sc e x):SO prog w H os C call n X sc e (some x):=by
 intro A env ρ W fx σ s Q Z r ew er S hs
 rw[evalPart_some]
 exact h A env ρ W fx σ s Q Z r ew er S hs
theorem SO.then{e:Mine.E}{x:Option Expr}(h:SO prog w H os C call n X sc e x){env:PySem.Env}{ρ:Env}{Q:Value→Shared→Prop}{α:Type}{k:V×ah→ay α}{Qp:α→Prop}{Qx:List Nat→ah→Prop}
  (r:bX A n)(ew:EnvW sc env)(er:bo prog w H W fx sc env ρ)(S:St prog w H W fx σ os s)
  (hs:((bp C call e ρ σ).bind k).sat Qp Qx)(hx: ∀m σ',Qx m σ'→cF X A W fx Z m σ')
  (hk: ∀q W' val s',W.le W'→St prog w H W' fx q.2 os s'→bj prog w H W' q.1 val→bo prog w H W' fx sc env ρ→(k q).sat Qp Qx→Q val s'):
  wpAny (model prog w) A (evalPart x env) Q Z s:=by
 rw[ay.sat_bind] at hs
 refine h A env ρ W fx σ s Q Z r ew er S (ay.sat_mono hs (fun q hq W' val s' l S' R=>hk q W' val s' l S' R (er.le l fun _ _ e=>e) hq) hx)
theorem ar.slice{xs:List V}{vs:List Value}(R:ar prog w H W xs vs)(lo hi:Option Int):
  ar prog w H W (cM xs lo hi) ((vs.drop (nD lo vs.length)).take (wm hi vs.length-nD lo vs.length)):=by
 rw[mr,R.length]
 exact(R.drop _).take _
theorem qZ(xs:List V)(lo hi:Option Int):(cM xs lo hi).length≤xs.length:=by
 rw[mr,List.length_take,List.length_drop]
 exact Nat.le_trans (Nat.min_le_right ..) (Nat.sub_le ..)
theorem tU{x l u z:V}{vx vl vu:Value}{value:Expr}{lo hi:Option Expr}{p:Pos}(S:St prog w H W fx σ os s)(Rx:bj prog w H W x vx)(Rl:bj prog w H W l vl)(Ru:bj prog w H W u vu)(e:cR σ x l u=some z)
  (h: ∀W' val s',W.le W'→St prog w H W' fx σ os s'→bj prog w H W' z val→Q val s'):
  wpAny (model prog w) A (subscriptTail value (.Slice lo hi none p) vx (.ref s.heap.objs.size)) Q Z {s with heap:=s.heap.push {cls:= .type "slice",data:= .fields #[vl,vu,.none]}}:=by
 have hs: ∀o i,subscripted (.Slice lo hi none p) false o i=operate [i,o] (getItem o i):=fun _ _=>rfl
 have hsl:=Heap.IsSliceOf.new s.heap vl vu .none
 have S1:St prog w H W fx σ os {s with heap:=s.heap.push {cls:= .type "slice",data:= .fields #[vl,vu,.none]}}:=S.push _
 refine iF fun nG=>ob e fun ol hol e=>ob e fun oh hoh e=>nG ?_
 have pl:=xB vl Rl hol
 have pu:=xB vu Ru hoh
 refine ug e (fun e=>ob e fun xs hx e=>?_) fun _ e=>ob e fun xs hx e=>?_
 ·have Rx':=Rx
  apply S1.tupV vx Rx hx;intro a o vs k hp
  have hle:(cM xs ol oh).length≤cP:=Nat.le_trans (qZ _ _ _) k.n
  have hl:=k.q.isTup k.g
  refine tail_any (IsTup.typeIs hl) slot_tuple_getitem.lookup (jM hl hsl pl pu (by rw[k.r.length];exact bM k.n) (fun h0 h1=>?_) (S1.newTup (k.r.slice ol oh) hle fun W2 l2 S2 R2=>h W2 _ _ l2 S2 (Option.some.inj e▸R2))) (hs _ _)
  refine h W _ _ (.refl _) S1 ?_
  rw[k.r.length] at h0 h1
  rw[←Option.some.inj e,mr,h0,h1,Nat.sub_zero,List.drop_zero,List.take_length]
  exact Exists.intro a (Exists.intro o (Exists.intro vs ⟨rfl,hp,k.q,k.r,k.n⟩))
 ·apply S1.lst vx Rx hx;intro a o vs k
  have hle:(cM xs ol oh).length≤cP:=Nat.le_trans (qZ _ _ _) k.n
  have hl:=k.q.isList k.g
  refine tail_any hl.typeIs slot_list_getitem.lookup (wpAny_getItem_list_slice hl hsl pl pu .none (fun q=>nomatch q) ?_ (by rw[List.size_toArray,k.r.length];exact bM k.n)) (hs _ _)
  rw[CP,List.size_toArray]
  exact S1.newLst (k.r.slice ol oh) hle fun W2 l2 S2 R2=>h W2 _ _ l2 S2 (Option.some.inj e▸R2)
theorem cq{a lo hi:Mine.E}{x:Expr}{l u:Option Expr}{p pos:Pos}(ha:SE prog w H os C call n X sc a x)(hl:SO prog w H os C call n X sc lo l)(hu:SO prog w H os C call n X sc hi u):
  SE prog w H os C call n X sc (.slice a lo hi) (.Subscript x (.Slice l u none p) pos):=by
 intro A env ρ W fx σ s Q Z rm ew er S h
 refine Subscript_ (ha.then rm ew er S h (fun _ _ x=>x) fun q W' vx s' l1 S' R er' h'=>?_)
 refine wpAny_Slice (hl.then rm ew er' S' h' (fun _ _ x=>x.le l1) fun q2 W2 vl s2 l2 S2 R2 er2 h2=>?_)
 refine hu.then rm ew er2 S2 h2 (fun _ _ x=>x.le (l1.trans l2)) fun q3 W3 vu s3 l3 S3 R3 er3 h3=>?_
 refine so h3 fun z e hz=>(evalPart_none env)▸wpAny_pure ?_
 exact tU S3 (R.le (l2.trans l3)) (R2.le l3) R3 e fun W4 val s4 l4 S4 R4=>hz W4 val s4 (((l1.trans l2).trans l3).trans l4) S4 R4
noncomputable def Wd.all(W:Wd)(h:Heap):Wd:=⟨h.get?,W.ads⟩
theorem St.all(S:St prog w H W fx σ os s):W.le (W.all s.heap):=⟨S.keepP,fun _ _ e=>e⟩
theorem EF{m:MO}{u:V}{a:Addr}(hm:EN m=some u)(S:St prog w H W fx σ os s)(k:BV prog w H W m a s.heap):bj prog w H (W.all s.heap) u (.ref a):=by
 cases m with
 |dead=>exact dA hm
 |list xs=>
  rw[←Option.some.inj hm]
  exact nz k fun o vs g q r n=>Exists.intro a (Exists.intro o (Exists.intro vs ⟨rfl,g,q,r.le S.all,n⟩))
 |dict ks xs=>
  rw[←Option.some.inj hm]
  exact rh k fun o vs g q r l n m=>Exists.intro a (Exists.intro o (Exists.intro vs ⟨rfl,g,q,r.le S.all,l,n,m⟩))
theorem St.deref1(S:St prog w H W fx σ os s){x:V}{v:Value}(R:bj prog w H W x v):bj prog w H (W.all s.heap) (deref1 σ x) v:=by
 show bj prog w H (W.all s.heap) ((((g6 x).bind fun i=>σ[i]?).bind EN).getD x) v
 cases e:((g6 x).bind fun i=>σ[i]?).bind EN with
 |none=>exact R.le S.all
 |some u=>
  refine ob e fun m e hu=>ob e fun i hi e=>?_
  rw[fN hi] at R
  exact aA R fun a ea p=>Eq.subst (motive:=bj prog w H (W.all s.heap) u) ea.symm (EF hu S (S.mo i a _ p e))
theorem St.deref1L(S:St prog w H W fx σ os s): ∀{xs:List V} {vs:List Value},ar prog w H W xs vs→ar prog w H (W.all s.heap) (xs.map (Mine.deref1 σ)) vs
 |[],_,R=>R
 |_::_,vs,R=>by
  apply cy vs R;intro v q a b
  exact ar.cons (S.deref1 a) (S.deref1L b)
theorem St.deref(S:St prog w H W fx σ os s){x:V}{v:Value}(R:bj prog w H W x v):bj prog w H (W.all s.heap) (deref σ x) v:=by
 show bj prog w H (W.all s.heap) (((zg x).map fun xs=>V.lst (xs.map (Mine.deref1 σ))).getD (Mine.deref1 σ x)) v
 cases e:zg x with
 |none=>exact S.deref1 R
 |some xs=>
  rw[mE e] at R
  exact jC R fun a o vs y=>Exists.intro a (Exists.intro o (Exists.intro vs ⟨y.e,S.keepP _ _ y.p,y.q,S.deref1L y.r,by rw[List.length_map];exact y.n⟩))
theorem br.inj{c c':String}{o:Obj}{vs us:List Value}(x:br c o vs)(y:br c' o us):c=c'∧vs=us:=
 AI x fun x1 _ _ n x2=>AI y fun y1 _ _ m y2=>⟨Value.type.inj (x1.symm.trans y1),congrArg Array.toList (Data.seq.inj (x2.symm.trans y2)).1⟩
theorem Pairs.inj{es:List DictEntry}{a b:List (Int×Value)}(x:Pairs (intKind prog w) es a):Pairs (intKind prog w) es b→a=b:=by
 induction x generalizing b with
 |nil=>intro y;cases y;rfl
 | @cons e kv es kvs h1 h2 t ih=>
  intro y
  cases y with
  | @cons _ kv' _ kvs' g1 g2 t'=>rw[show kv=kv' from Prod.ext ((intKind prog w).inj _ _ _ h1 g1) (h2.symm.trans g2),ih t']
theorem ck.inj{o:Obj}{a b:List (Int×Value)}(x:ck prog w o a)(y:ck prog w o b):a=b:=
 ir x fun _ es ep d _ p _=>ir y fun _ es' ep' d' _ p' _=>Pairs.inj p ((Data.dict.inj (d.symm.trans d')).1▸p')
theorem BW{α β:Type}{a c:List α}{b d:List β}(h1:a.length=b.length)(h2:c.length=d.length)(h:a.zip b=c.zip d):a=c∧b=d:=
 ⟨by rw[←List.map_fst_zip (Nat.le_of_eq h1),h,List.map_fst_zip (Nat.le_of_eq h2)],by rw[←List.map_snd_zip (Nat.le_of_eq h1.symm),h,List.map_snd_zip (Nat.le_of_eq h2.symm)]⟩
end
end Mine
end
section
namespace Mine
open PySem PySem.W PyProof.Rows PySem.SeqAt
section
variable{prog:Program}{w:World}{H:bg}{os:OsState}{C:Ctx}{call:aw}{n:Nat}{X:aH}
variable{A:Around}{W W':Wd}{fx:Fz}{Q:Value→Shared→Prop}{Z:Value→Shared→Prop}{s:Shared}{σ:ah}{sc:Scope}
theorem tW{c c':String}{n n':Nat}{R R':List Value→Prop}{v:Value}{P:Prop}(h: ∃a o vs,tw W c n R v a o vs)(h': ∃a o vs,tw W c' n' R' v a o vs)(k: ∀vs,R vs→R' vs→P):P:=
 jC h fun a o vs x=>jC h' fun a' o' vs' y=>by
  have ea:a=a':=Value.ref.inj (x.e.symm.trans y.e)
  have eo:o=o':=Option.some.inj (x.p.symm.trans (ea▸y.p))
  exact k vs x.r ((x.q.inj (eo▸y.q)).2▸y.r)
theorem zp{ks ks':List Int}{xs ys:List V}{v:Value}{P:Prop}(h:bj prog w H W (.dict ks xs) v)(h':bj prog w H W (.dict ks' ys) v)(k: ∀vs,ar prog w H W xs vs→ar prog w H W ys vs→ks=ks'→ks.Nodup→ks'.length=ys.length→P):P:=
 jC h fun a o vs x=>jC h' fun a' o' vs' y=>by
  have ea:a=a':=Value.ref.inj (x.e.symm.trans y.e)
  have eo:o=o':=Option.some.inj (x.p.symm.trans (ea▸y.p))
  have z:=BW (x.l.trans x.r.length.symm) (y.l.trans y.r.length.symm) (x.q.inj (eo▸y.q))
  refine k vs x.r (z.2▸y.r) z.1 (ir x.q fun _ _ _ _ _ _ nd=>?_) y.l
  rwa[List.map_fst_zip (Nat.le_of_eq (x.l.trans x.r.length.symm))] at nd
theorem m8: ∀{ks:List Int} {vs:List Value} {i:Nat} {k:Int} {v:Value},ks.Nodup→ks[i]? =some k→vs[i]? =some v→valueAt (ks.zip vs) k=some v
 |[],_,_,_,_,_,h,_=>dA h
 |_::_,[],_,_,_,_,_,h=>dA h
 |j::ks,u::vs,0,k,v,nd,h,g=>by
  rw[List.zip_cons_cons,lP,if_pos (Option.some.inj h)]
  exact g
 |j::ks,u::vs,i+1,k,v,nd,h,g=>by
  have hm:k∈ks:=List.mem_of_getElem? (show ks[i]? =some k from h)
  rw[List.zip_cons_cons,lP,if_neg fun e:j=k=>(List.nodup_cons.mp nd).1 (e▸hm)]
  exact m8 (i:=i) (List.nodup_cons.mp nd).2 h g
theorem jg: ∀{ks:List Int} {ys:List V} {k:Int},ks.length=ys.length→(ks.zip ys).lookup k= .none→k∉ks
 |[],_,_,_,_,h=>nomatch h
 |_::_,[],_,h,_,_=>nomatch h
 |j::ks,y::ys,k,hl,h,hm=>by
  by_cases hk:k=j
  ·rw[List.zip_cons_cons,hk,List.lookup_cons_self] at h;cases h
  ·rw[List.zip_cons_cons,List.lookup_cons,beq_eq_false_iff_ne.mpr hk] at h
   exact jg (Nat.succ.inj hl) h ((List.mem_cons.mp hm).resolve_left hk)
theorem kJ: ∀{ls:List Int} {us:List Value} {k:Int},k∉ls→valueAt (ls.zip us) k=none
 |[],_,_,_=>rfl
 |_::_,[],_,_=>rfl
 |j::ls,u::us,k,h=>by
  rw[List.zip_cons_cons,lP,if_neg fun e:j=k=>h (e▸List.mem_cons_self ..)]
  exact kJ fun q=>h (List.mem_cons_of_mem _ q)
theorem rz{f:V→V→Option Bool}{kb:List (Int×V)}{k:Int}{v:V}{r:List (Int×V)}{b:Bool}{P:Prop}(h:qM f kb ((k,v)::r)=some b)(k1:kb.lookup k= .none→b=false→P)(k2: ∀u c d,kb.lookup k=some u→f v u=some c→qM f kb r=some d→(c&&d)=b→P):P:=by
 have h':(match kb.lookup k with| .none=>some false|some u=>(f v u).bind fun a=>(qM f kb r).bind fun b=>some (a&&b))=some b:=h
 cases e:kb.lookup k with
 |none=>rw[e] at h';exact k1 e (Option.some.inj h').symm
 |some u=>
  rw[e] at h'
  exact ob h' fun c e1 h=>ob h fun d e2 h=>k2 u c d e e1 e2 (Option.some.inj h)
theorem vW(sm: ∀{x y:V} {v:Value} {b:Bool},cT n x y=some b→bj prog w H W x v→bj prog w H W y v→b=true): ∀{xs ys:List V} {vs:List Value} {b:Bool},mI (cT n) xs ys=some b→ar prog w H W xs vs→ar prog w H W ys vs→b=true
 |[],[],_,_,h,_,_=>(Option.some.inj h).symm
 |[],_::_,_,_,_,R,R'=>nomatch R.length.symm.trans R'.length
 |_::_,[],_,_,_,R,R'=>nomatch R.length.symm.trans R'.length
 |x::r,y::q,vs,b,h,R,R'=>ob h fun c e1 h=>ob h fun d e2 h=>by
  have R2:=R'
  revert R2
  apply cy vs R;intro v q p t R2
  rw[←Option.some.inj h,sm e1 p R2.uncons.1,vW sm e2 t R2.uncons.2];rfl
theorem z9(sm: ∀{x y:V} {v:Value} {b:Bool},cT n x y=some b→bj prog w H W x v→bj prog w H W y v→b=true){ks:List Int}{ys:List V}{vs:List Value}(R':ar prog w H W ys vs)(hl:ks.length=ys.length):
  ∀{ls:List Int} {xs:List V} {us:List Value} {b:Bool},(∀(i:Nat) (k:Int) (v:Value),ls[i]? =some k→us[i]? =some v→valueAt (ks.zip vs) k=some v)→(∀k∈ls,k∈ks)→qM (cT n) (ks.zip ys) (ls.zip xs)=some b→ar prog w H W xs us→b=true
 |[],_,_,_,_,_,h,_=>(Option.some.inj h).symm
 |_::_,[],_,_,_,_,h,_=>(Option.some.inj h).symm
 |j::ls,x::r,us,b,hv,hm,h,R=>by
  revert hv
  apply cy us R;intro v q p t hv
  refine rz h (fun e _=>absurd (hm j (List.mem_cons_self ..)) (jg hl e)) fun u c d e1 e2 e3 e=>?_
  refine aA (fQ R' e1) fun u' f1 f2=>?_
  rw[hv 0 j v rfl rfl] at f1
  rw[←e,sm e2 p (Option.some.inj f1▸f2),z9 sm R' hl (fun i k v a b=>hv (i+1) k v a b) (fun k hk=>hm k (List.mem_cons_of_mem _ hk)) e3 t];rfl
theorem Cj{a c:List Nat}{t u:Tok}(h:Value.str ⟨a.toArray⟩ t=Value.str ⟨c.toArray⟩ u):a=c:=congrArg Array.toList (Str.mk.inj (Value.str.inj h).1)
theorem lI: ∀(n:Nat) {x y:V} {v:Value} {b:Bool},cT n x y=some b→bj prog w H W x v→bj prog w H W y v→b=true
 |0,_,_,_,_,h,_,_=>dA h
 |n+1,x,y,v,b,h,R,R'=>by
  have bq: ∀{α:Type} [BEq α] [LawfulBEq α] {a c:α},a=c→some (a==c)=some b→b=true:=fun e h=>by rw[←Option.some.inj h,e];exact beq_self_eq_true _
  cases x with
  |none=>exact ob h fun _ _ h=>(Option.some.inj h).symm
  |bool a=>exact ob h fun c hc h=>bq (Value.bool.inj ((show v= .bool a from R).symm.trans (rH hc▸R':bj prog w H W (.bool c) v))) h
  |int a=>exact ob h fun c hc h=>cN R fun t e=>cN (pD hc▸R':bj prog w H W (.int c) v) fun t' e'=>bq (Value.int.inj (e.symm.trans e')).1 h
  |str a=>exact ob h fun c hc h=>aA R fun t e _=>aA (kO hc▸R':bj prog w H W (.str c) v) fun t' e' _=>bq (Cj (e.symm.trans e')) h
  |tup xs=>exact ob h fun ys hy h=>tW R (kK hy▸R':bj prog w H W (.tup ys) v) fun vs r r'=>vW (lI n) h r r'
  |lst xs=>
   exact ob h fun ys hy h=>tW R (mE hy▸R':bj prog w H W (.lst ys) v) fun vs r r'=>by
    rw[if_pos (r.length.symm.trans r'.length)] at h
    exact vW (lI n) h r r'
  |dict ks xs=>
   exact ob h fun d hd h=>zp R (mJ hd▸R':bj prog w H W (.dict d.1 d.2) v) fun vs r r' e nd l=>by
    rw[if_pos (congrArg List.length e)] at h
    exact z9 (lI n) r' l (fun i k v a b=>m8 (e▸nd) (e▸a) b) (fun k hk=>e▸hk) h r
  |_=>exact dA h
theorem Pairs.any{prog':Program}{w':World}{es:List DictEntry}{a:List (Int×Value)}(x:Pairs (intKind prog w) es a):Pairs (intKind prog' w') es a:=by
 induction x with
 |nil=>exact .nil
 |cons h1 h2 _ ih=>exact .cons h1 h2 ih
theorem ck.any{prog':Program}{w':World}{o:Obj}{a:List (Int×Value)}(x:ck prog w o a):ck prog' w' o a:=ir x fun c es ep d k p q=>⟨c,es,ep,d,k,Pairs.any p,q⟩
theorem qk{e:Nat→Bool}{m:Nat}:(List.range (m+1)).all e=(e 0&&(List.range m).all fun i=>e (i+1)):=by
 rw[List.range_succ_eq_map,List.all_cons,List.all_map];rfl
noncomputable def Et(c:Bool)(e:Nat→Bool):Nat→Bool
 |0=>c
 |j+1=>e j
structure Ans(f:V→V→Option Bool)(xs ys:List V)(b:Bool)(e:Nat→Bool):Prop where
 at_: ∀(j:Nat) (x y:V),xs[j]? =some x→ys[j]? =some y→f x y=some (e j)
 all:((List.range (min xs.length ys.length)).all e&&xs.length==ys.length)=b
theorem wu{f:V→V→Option Bool}: ∀{xs ys:List V} {b:Bool},mI f xs ys=some b→ ∃e,Ans f xs ys b e
 |[],[],_,h=>⟨fun _=>true,fun _ _ _ h=>dA h,Option.some.inj h⟩
 |[],_::_,_,h=>⟨fun _=>true,fun _ _ _ h=>dA h,Option.some.inj h⟩
 |_::r,[],_,h=>⟨fun _=>true,fun _ _ _ _ h=>dA h,Option.some.inj h⟩
 |x::r,y::q,b,h=>ob h fun c e1 h=>ob h fun d e2 h=>cN (wu e2) fun e E=>⟨Et c e,fun j u v h1 h2=>match j with
   |0=>Option.some.inj h1▸Option.some.inj h2▸e1
   |j+1=>E.at_ j u v h1 h2,by
  have q:(r.length+1==q.length+1)=(r.length==q.length):=by rw[Bool.eq_iff_iff,beq_iff_eq,beq_iff_eq];exact Nat.succ_inj
  rw[←Option.some.inj h,←E.all,List.length_cons,List.length_cons,Nat.succ_min_succ,qk,Bool.and_assoc,q]
  rfl⟩
structure Dz(A:Around)(s:Shared)(v u:Value)(b:Bool):Prop where
 eq:RcAt A s v u b
 ne:RcNeAt A s v u (!b)
 at_:v≠u→EqAt A s v u b
theorem Dz.refs{a c:Addr}{b:Bool}(r1:RcAt A s (.ref a) (.ref c) b)(r2:RcNeAt A s (.ref a) (.ref c) (!b)):Dz A s (.ref a) (.ref c) b:=⟨r1,r2,fun h=>EqAt.of_refs (fun e=>h (congrArg Value.ref e)) r1⟩
theorem In1n{A:Around}{k:Nat}(h:A.units+2*(k+1)<cLine):A.in1.units+2*k<cLine:=Nat.lt_of_le_of_lt (by show A.units+1+2*k≤A.units+(2*k+2);rw[Nat.add_assoc,Nat.add_comm 1];exact Nat.add_le_add_left (Nat.le_succ _) _) h
theorem xw{xs ys:List V}{vs us:List Value}{b:Bool}{e:Nat→Bool}(E:Ans (cT n) xs ys b e)(el: ∀{x y:V} {v u:Value} {b:Bool},cT n x y=some b→bj prog w H W x v→bj prog w H W y u→EqAt A.in1 s v u b)(R:ar prog w H W xs vs)(R':ar prog w H W ys us):
  ∀j (h1:j<vs.toArray.size) (h2:j<us.toArray.size),EqAt A.in1 s vs.toArray[j] us.toArray[j] (e j):=fun j h1 h2=>
 aA (R.get' (i:=j) (u:=vs.toArray[j]) (List.getElem?_eq_getElem (l:=vs) h1)) fun x e1 r1=>aA (R'.get' (i:=j) (u:=us.toArray[j]) (List.getElem?_eq_getElem (l:=us) h2)) fun y e2 r2=>el (E.at_ j x y e1 e2) r1 r2
theorem sM{ls:List Int}{ys:List V}{us:List Value}(el: ∀{x y:V} {v u:Value} {b:Bool},cT n x y=some b→bj prog w H W x v→bj prog w H W y u→EqAt A.in1 s v u b)(g3:ar prog w H W ys us)(g4:ls.length=ys.length):
  ∀{kl:List Int} {zs:List V} {vs:List Value} {b:Bool},kl.length=zs.length→qM (cT n) (ls.zip ys) (kl.zip zs)=some b→ar prog w H W zs vs→KeqHits A.in1 s (ls.zip us) (kl.zip vs) b
 |[],_,_,_,_,h,_=>Option.some.inj h▸ .nil
 |_::_,[],_,_,hz,_,_=>nomatch hz
 |k::kl,z::zs,vs,b,hz,h,r=>by
  apply cy vs r;intro v q p t
  exact rz h (fun e1 e=>e▸ .miss (kJ (jg g4 e1))) fun u c d e1 e2 e3 e=>aA (fQ g3 e1) fun u' f1 f2=>e▸ .hit f1 (el e2 p f2) (sM el g3 g4 (Nat.succ.inj hz) e3 t)
theorem DJ{x y:V}{v u:Value}{b:Bool}(on:W.P.on s.heap)(hu:A.units<cLine)(el: ∀{x y:V} {v u:Value} {b:Bool},cT n x y=some b→bj prog w H W x v→bj prog w H W y u→EqAt A.in1 s v u b)(h:cT (n+1) x y=some b)(R:bj prog w H W x v)(R':bj prog w H W y u):Dz A s v u b:=by
 cases x with
 |none=>
  refine ob h fun _ hy h=>?_
  rw[oY hy] at R'
  rw[show v= .none from R,show u= .none from R',←Option.some.inj h]
  exact⟨fun _ _ _ _ q=>EqNone.eq_none_none q,RcNeAt.none_none,fun _=>EqAt.same _⟩
 |bool a=>
  refine ob h fun c hy h=>?_
  apply zK u R' hy
  rw[show v= .bool a from R,←Option.some.inj h]
  exact⟨fun _ _ _ _ q=>PyProof.Rows.eq_bool q,RcNeAt.bool_bool a c,fun _=>EqAt.bool_bool a c⟩
 |int a=>
  refine ob h fun c hy h=>?_
  apply eV u R' hy;intro t'
  apply eV v R rfl;intro t
  rw[←Option.some.inj h]
  exact⟨fun _ _ _ _ q=>PySem.P.eq_int q,RcNeAt.int_int a t c t',fun _=>EqAt.int_int a t c t'⟩
 |str a=>
  refine ob h fun c hy h=>?_
  apply qA u R' hy;intro t' _
  apply qA v R rfl;intro t _
  rw[←Option.some.inj h]
  exact⟨fun _ _ _ _ q=>PySem.P.eq_str q,fun _ _ _ _ q=>PySem.P.ne_str q,fun _=>(PySem.SeqRoads2.EqGives.str ⟨a.toArray⟩ ⟨c.toArray⟩ t t').at A s⟩
 |tup xs=>
  refine ob h fun ys hy h=>cN (wu h) fun e E=>?_
  rw[kK hy] at R'
  refine jC R fun a o vs k=>jC R' fun a' o' us g=>?_
  have l1:vs.toArray.size=xs.length:=k.r.length
  have l2:us.toArray.size=ys.length:=g.r.length
  have r1:=RcAt.tuples (A:=A) (k.q.isTuple (on _ _ k.p)) (g.q.isTuple (on _ _ g.p)) hu (xw E el k.r g.r)
  have r2:=RcNeAt.tuples (A:=A) (k.q.isTuple (on _ _ k.p)) (g.q.isTuple (on _ _ g.p)) hu (xw E el k.r g.r)
  rw[l1,l2,E.all] at r1 r2
  rw[k.e,g.e]
  exact .refs r1 r2
 |lst xs=>
  refine ob h fun ys hy h=>?_
  rw[mE hy] at R'
  refine jC R fun a o vs k=>jC R' fun a' o' us g=>?_
  have l1:vs.toArray.size=xs.length:=k.r.length
  have l2:us.toArray.size=ys.length:=g.r.length
  have i1:=k.q.isList (on _ _ k.p)
  have i2:=g.q.isList (on _ _ g.p)
  rw[k.e,g.e]
  by_cases hl:xs.length=ys.length
  ·rw[if_pos hl] at h
   refine cN (wu h) fun e E=>?_
   have q:=E.all
   rw[←hl,Nat.min_self,beq_self_eq_true,Bool.and_true] at q
   have r1:=RcAt.lists (A:=A) i1 i2 (by rw[l1,l2,hl]) hu (xw E el k.r g.r)
   have r2:=RcNeAt.lists (A:=A) i1 i2 (by rw[l1,l2,hl]) hu (xw E el k.r g.r)
   rw[l1,q] at r1 r2
   exact .refs r1 r2
  ·rw[if_neg hl] at h
   have ne:(vs.toArray.size !=us.toArray.size)=true:=by rw[l1,l2];exact bne_iff_ne.mpr hl
   rw[←Option.some.inj h]
   exact .refs (RcAt.lists_lengths i1 i2 ne hu) (RcNeAt.lists_lengths i1 i2 ne hu)
 |dict ks xs=>
  refine ob h fun d hd h=>?_
  rw[mJ hd] at R'
  refine jC R fun a o vs k=>jC R' fun a' o' us g=>?_
  have l1:(ks.zip vs).length=ks.length:=by rw[List.length_zip,k.r.length,k.l,Nat.min_self]
  have l2:(d.1.zip us).length=d.1.length:=by rw[List.length_zip,g.r.length,g.l,Nat.min_self]
  rw[k.e,g.e]
  by_cases hl:ks.length=d.1.length
  ·rw[if_pos hl] at h
   have fin:((ks.zip vs).length==(d.1.zip us).length&&b)=b:=by rw[l1,l2,hl,beq_self_eq_true,Bool.true_and]
   exact .refs (fun p' w' _ _ q=>keq_eq (knd:=intKind p' w') k.m g.m (k.q.any.of (on _ _ k.p)) (g.q.any.of (on _ _ g.p)) hu (r:=b) (fun _=>sM el g.r g.l k.l h k.r) (by rw[fin];exact q))
    (fun p' w' _ _ q=>keq_ne (knd:=intKind p' w') k.m g.m (k.q.any.of (on _ _ k.p)) (g.q.any.of (on _ _ g.p)) hu (r:=b) (fun _=>sM el g.r g.l k.l h k.r) (by rw[fin];exact q))
  ·rw[if_neg hl] at h
   have ne:((ks.zip vs).length==(d.1.zip us).length)=false:=by rw[l1,l2];exact beq_eq_false_iff_ne.mpr hl
   have fin:((ks.zip vs).length==(d.1.zip us).length&&true)=b:=by rw[ne,←Option.some.inj h];rfl
   exact .refs (fun p' w' _ _ q=>keq_eq (knd:=intKind p' w') k.m g.m (k.q.any.of (on _ _ k.p)) (g.q.any.of (on _ _ g.p)) hu (r:=true) (fun e=>nomatch ne.symm.trans (beq_iff_eq.mpr e)) (by rw[fin];exact q))
    (fun p' w' _ _ q=>keq_ne (knd:=intKind p' w') k.m g.m (k.q.any.of (on _ _ k.p)) (g.q.any.of (on _ _ g.p)) hu (r:=true) (fun e=>nomatch ne.symm.trans (beq_iff_eq.mpr e)) (by rw[fin];exact q))
 |_=>exact dA h
theorem Bh: ∀(n:Nat) {A:Around} {x y:V} {v u:Value} {b:Bool},W.P.on s.heap→A.units+2*n<cLine→cT n x y=some b→bj prog w H W x v→bj prog w H W y u→EqAt A s v u b
 |0,_,_,_,_,_,_,_,_,h,_,_=>dA h
 |n+1,A,x,y,v,u,b,on,hu,h,R,R'=>by
  by_cases e:v=u
  ·rw[lI (n+1) h R (e▸R'),e];exact EqAt.same _
  ·exact(DJ on (Nat.lt_of_le_of_lt (Nat.le_add_right ..) hu) (fun h R R'=>Bh n on (In1n hu) h R R') h R R').at_ e
end
end Mine
end
section
namespace Mine
open PySem PySem.W PyProof.Rows PySem.SeqAt
section
variable{prog:Program}{w:World}{H:bg}{os:OsState}{C:Ctx}{call:aw}{n:Nat}{X:aH}
variable{A:Around}{W W':Wd}{fx:Fz}{Q:Value→Shared→Prop}{Z:Value→Shared→Prop}{s:Shared}{σ:ah}{sc:Scope}
theorem zM{x y:V}{v u:Value}{b:Bool}(S:St prog w H W fx σ os s)(h:cT 8 (deref σ x) (deref σ y)=some b)(R:bj prog w H W x v)(R':bj prog w H W y u)(hu:A.units+32<cLine):Dz A s v u b:=
 have hall:(W.all s.heap).P.on s.heap:=fun _ _ e=>e
 DJ (n:=7) hall (Nat.lt_of_le_of_lt (Nat.le_add_right ..) hu) (fun h R R'=>Bh 7 hall (Nat.lt_of_le_of_lt (by show A.units+1+14≤A.units+32;rw[Nat.add_assoc];exact Nat.add_le_add_left (by decide) _) hu) h R R') h (S.deref R) (S.deref R')
structure InF(prog:Program)(w:World)(H:bg)(W:Wd)(f:V→Option Bool)(z:List (V×Value))(b:Bool):Prop where
 rep: ∀p∈z,bj prog w H W p.1 p.2
 def_: ∀p∈z,∃c,f p.1=some c
 iff:b=true↔ ∃p∈z,f p.1=some true
theorem xV{f:V→Option Bool}: ∀{xs:List V} {vs:List Value} {b:Bool},ar prog w H W xs vs→wk f xs=some b→InF prog w H W f (xs.zip vs) b
 |[],_,_,_,h=>⟨(fun _ h=>nomatch h),(fun _ h=>nomatch h),(fun e=>nomatch (Option.some.inj h).trans e),fun h=>h.elim fun _ h=>nomatch h.1⟩
 |x::r,vs,b,R,h=>ob h fun c e1 h=>ob h fun d e2 h=>by
  apply cy vs R;intro v q p t
  have ih:=xV t e2
  rw[←Option.some.inj h]
  refine⟨List.forall_mem_cons.mpr ⟨p,ih.rep⟩,List.forall_mem_cons.mpr ⟨⟨c,e1⟩,ih.def_⟩,?_⟩
  rw[Bool.or_eq_true_iff,ih.iff]
  refine⟨fun h=>h.elim (fun h=>⟨(x,v),List.mem_cons_self ..,h▸e1⟩) fun h=>h.elim fun p hp=>⟨p,List.mem_cons_of_mem _ hp.1,hp.2⟩,fun h=>h.elim fun p hp=>?_⟩
  rcases List.mem_cons.mp hp.1 with e|hm
  ·have h2:=hp.2
   rw[e] at h2
   exact .inl (Option.some.inj (e1.symm.trans h2))
  ·exact .inr ⟨p,hm,hp.2⟩
open Classical in
noncomputable def Ed(f:V→Option Bool)(z:List (V×Value))(v:Value):Bool:=decide (∃p∈z,p.2=v∧f p.1=some true)
structure InG(A:Around)(s:Shared)(vs:List Value)(u:Value)(e:Value→Bool)(b:Bool):Prop where
 at_: ∀y,y∈vs.toArray→EqAt A.in1 s y u (e y)
 any:vs.toArray.any e=b
theorem uF{a:V}{u:Value}{xs:List V}{vs:List Value}{b:Bool}(on:W.P.on s.heap)(R:ar prog w H W xs vs)(Ra:bj prog w H W a u)(h:wk (fun y=>cT 7 y a) xs=some b)(hu:A.units+32<cLine):InG A s vs u (Ed (fun y=>cT 7 y a) (xs.zip vs)) b:=by
 have F:=xV R h
 have ms: ∀y∈vs,∃p∈xs.zip vs,p.2=y:=fun y hy=>by
  rw[←List.map_snd_zip (Nat.le_of_eq R.length)] at hy
  exact(List.mem_map.mp hy).elim fun p hp=>⟨p,hp⟩
 have el: ∀{p c},p∈xs.zip vs→cT 7 p.1 a=some c→EqAt A.in1 s p.2 u c:=fun hp e=>Bh 7 on (Nat.lt_of_le_of_lt (by show A.units+1+14≤A.units+32;rw[Nat.add_assoc];exact Nat.add_le_add_left (by decide) _) hu) e (F.rep _ hp) Ra
 refine⟨fun y hy=>?_,?_⟩
 ·unfold Ed
  by_cases q: ∃p∈xs.zip vs,p.2=y∧cT 7 p.1 a=some true
  ·rw[decide_eq_true q]
   exact q.elim fun p hp=>hp.2.1▸el hp.1 hp.2.2
  ·rw[decide_eq_false q]
   refine(ms y (List.mem_toArray.mp hy)).elim fun p hp=>(F.def_ p hp.1).elim fun c hc=>?_
   cases c with
   |true=>exact absurd ⟨p,hp.1,hp.2,hc⟩ q
   |false=>exact hp.2▸el hp.1 hc
 ·rw[Bool.eq_iff_iff,F.iff,←Array.any_toList,List.any_eq_true]
  refine⟨fun h=>h.elim fun y hy=>(of_decide_eq_true hy.2).elim fun p hp=>⟨p,hp.1,hp.2.2⟩,fun h=>h.elim fun p hp=>⟨p.2,(List.of_mem_zip hp.1).2,decide_eq_true ⟨p,hp.1,rfl,hp.2⟩⟩⟩
theorem hV: ∀{ks:List Int} {vs:List Value} {k:Int},ks.length=vs.length→(valueAt (ks.zip vs) k).isSome=ks.contains k
 |[],_,_,_=>rfl
 |_::_,[],_,h=>nomatch h
 |j::ks,v::vs,k,h=>by
  rw[List.zip_cons_cons,lP,List.contains_cons]
  by_cases hk:j=k
  ·rw[if_pos hk,hk,beq_self_eq_true];rfl
  ·rw[if_neg hk,beq_eq_false_iff_ne.mpr (Ne.symm hk),Bool.false_or]
   exact hV (Nat.succ.inj h)
noncomputable def Fj:Cm→CmpOp
 | .lt=> .Lt| .le=> .LtE| .gt=> .Gt| .ge=> .GtE| .eq=> .Eq| .ne=> .NotEq| .is=> .Is| .isNot=> .IsNot| .in_=> .In| .notIn=> .NotIn
theorem uB{x y:V}{v u:Value}{b:Bool}(R:bj prog w H W x v)(R':bj prog w H W y u)(e:isV x y=some b):plainIs v u=true∧(v==u)=b:=by
 cases y with
 |none=>
  rw[show u= .none from R']
  cases x with
  |none=>rw[show v= .none from R,←Option.some.inj e];exact⟨rfl,rfl⟩
  |int i=>
   apply eV v R rfl;intro t
   rw[←Option.some.inj e];exact⟨rfl,rfl⟩
  |clo k xs=>exact aA R fun vs h1 _=>cN (H.clo_ref h1) fun a ea=>by rw[ea,←Option.some.inj e];exact⟨rfl,rfl⟩
  |_=>exact dA e
 |bool c=>
  refine ob e fun a ha e=>?_
  apply zK v R ha
  rw[show u= .bool c from R',←Option.some.inj e]
  cases a<;>cases c<;>exact⟨rfl,rfl⟩
 |_=>exact dA e
theorem A8{a y:V}{v u:Value}{b:Bool}{op:CmpOp}{r:Bool}(S:St prog w H W fx σ os s)(R:bj prog w H W a v)(R':bj prog w H W y u)(e:(seqV y).bind (wk fun y=>cT 7 y a)=some b)(hu:A.units+32<cLine)(h:Q (.bool r) s)(ho:(op= .In∧r=b)∨(op= .NotIn∧r=!b)):wpAny (model prog w) A (compareOp op v u) Q Z s:=by
 refine iF fun nG=>ob e fun xs hx e=>nG (ug hx (fun hx=>?_) fun _ hx=>?_)
 ·apply S.tupV u R' hx;intro p o vs k _
  have f:=uF (A:=A) S.keepP k.r R e hu
  rcases ho with⟨rfl,rfl⟩|⟨rfl,rfl⟩
  ·exact in_tupleAt _ (k.q.isTuple k.g) f.at_ (f.any.symm▸h)
  ·exact notIn_tupleAt _ (k.q.isTuple k.g) f.at_ (f.any.symm▸h)
 ·have hx':dG σ y=some xs:=by show(zg y).or _=_;rw[hx];rfl
  apply S.lst u R' hx';intro p o vs k
  have f:=uF (A:=A) S.keepP k.r R e hu
  rcases ho with⟨rfl,rfl⟩|⟨rfl,rfl⟩
  ·exact in_listAt _ (k.q.isList k.g) f.at_ (f.any.symm▸h)
  ·exact notIn_listAt _ (k.q.isList k.g) f.at_ (f.any.symm▸h)
theorem mO{op:Cm}{x y:V}{v u:Value}{b:Bool}(S:St prog w H W fx σ os s)(R:bj prog w H W x v)(R':bj prog w H W y u)(e:dn σ op x y=some b)(hu:A.units+32<cLine)
  (h: ∀tk,Q (.bool b) {s with toks:=tk}):wpAny (model prog w) A (compareOp (Fj op) v u) Q Z s:=by
 have two: ∀{f:Int→Int→Bool} {K:CmpOp},(∀{a c t t'},Q (.bool (f a c)) s→wpAny (model prog w) A (compareOp K (.int a t) (.int c t')) Q Z s)→((bN x).bind fun a=>(bN y).bind fun c=>some (f a c))=some b→wpAny (model prog w) A (compareOp K v u) Q Z s:=fun k e=>
  iF fun nG=>ob e fun a ha e=>ob e fun c hc e=>nG (by
   apply eV v R ha;intro t
   apply eV u R' hc;intro t'
   exact k (Option.some.inj e▸h s.toks))
 cases op with
 |lt=>exact two (f:=fun a c=>decide (a<c)) PySem.P.lt_int e
 |le=>exact two (f:=fun a c=>decide (a≤c)) PySem.P.le_int e
 |gt=>exact two (f:=fun a c=>decide (c<a)) PySem.P.gt_int e
 |ge=>exact two (f:=fun a c=>decide (c≤a)) PySem.P.ge_int e
 |eq=>exact(zM S e R R' hu).eq prog w Z Q (h s.toks)
 |ne=>exact ob e fun c hc e=>(zM S hc R R' hu).ne prog w Z Q (Option.some.inj e▸h s.toks)
 |is=>exact qH (uB R R' e) fun p q=>wpAny_is_plain p (q▸h s.toks)
 |isNot=>exact ob e fun c hc e=>qH (uB R R' hc) fun p q=>wpAny_isNot_plain p (q▸Option.some.inj e▸h s.toks)
 |in_=>
  refine ug e (fun e=>A8 S R R' e hu (h s.toks) (.inl ⟨rfl,rfl⟩)) fun _ e=>ob e fun i hi e=>ob e fun d hd e=>?_
  apply S.dict u R' hd;intro a vs k1 k2 k3 k4 k5
  apply eV v R hi;intro t
  refine wpAny_in_of (fF i t) k5 k1.mapOf ?_
  rw[hV (by rw[k3,k2.length])]
  exact Option.some.inj e▸h _
 |notIn=>exact ob e fun c hc e=>A8 S R R' hc hu (Option.some.inj e▸h s.toks) (.inr ⟨rfl,rfl⟩)
theorem aV{op:Cm}{a b:Mine.E}{l r:Expr}{pos:Pos}(ha:SE prog w H os C call n X sc a l)(hb:SE prog w H os C call n X sc b r)(hm:behindInMarks (Fj op) r=false):
  SE prog w H os C call n X sc (.cmp op a b) (.Compare l [Fj op] [r] pos):=by
 intro A env ρ W fx σ s Q Z rm ew er S h
 refine wpAny_Compare1 (ha.then rm ew er S h (fun _ _ x=>x) fun q W' vx s' l S' R er' h'=>?_) hm
 refine hb.then rm ew er' S' h' (fun _ _ x=>x.le l) fun q2 W2 vy s2 l2 S2 R2 er2 h2=>?_
 exact so h2 fun z e hz=>mO S2 (R.le l2) R2 e (Nat.lt_of_le_of_lt (Nat.le_trans (Nat.add_le_add_left (by decide:32≤300) _) (by rw[Nat.add_assoc,Nat.add_comm (100*n)];exact(Nat.add_le_add_left (Nat.le_add_right ..) _))) rm.u) fun tk=>hz W2 _ _ (l.trans l2) S2.tok oS
end
end Mine
end
section
namespace Mine
open PySem PySem.W PyProof.Rows PySem.SeqAt PySem.Calls
theorem iX{env:PySem.Env}: ∀{xs:List Expr},xs.any aR=false→starEach xs env=xs.map fun x=>(false,eval x env)
 |[],_=>rfl
 |x::xs,h=>by
  rw[List.any_cons,Bool.or_eq_false_iff] at h
  rw[tR h.1,iX h.2];rfl
theorem bn{env:PySem.Env}{pos:Pos}{xs:List Expr}(h:xs.any aR=false):backTo pos (starEach xs env)=xs.map fun x=>(false,eval x env):=by
 rw[iX h]
 exact List.map_map ..
theorem dH{env:PySem.Env}{pos:Pos}{xs:List Expr}(h:xs.any aR=false):(backTo pos (starEach xs env)).any (·.1)=false:=by
 rw[bn h,List.any_map]
 exact List.any_eq_false.mpr fun _ _ e=>nomatch e
section
variable{prog:Program}{w:World}{H:bg}{os:OsState}{C:Ctx}{call:aw}{n:Nat}{X:aH}
variable{A:Around}{W W':Wd}{fx:Fz}{Q:Value→Shared→Prop}{Z:Value→Shared→Prop}{s:Shared}{σ:ah}{sc:Scope}
variable{mg mb:PySem.Str→Option Value}
theorem cJ{M:Model}{f:Value}{env:PySem.Env}{pos:Pos}{xs:List Expr}{Q:Args→Shared→Prop}(hp:xs.any aR=false)
  (h:wpAny M A (spliced (backTo pos (starEach xs env))) (fun vs s'=>Q ⟨vs,[]⟩ s') Z s):wpAny M A (evalArgs f true (backTo pos (starEach xs env)) []) Q Z s:=by
 rw[bn hp] at h⊢
 cases xs with
 |nil=>
  unfold evalArgs
  show wpAny M A (spliced []>>=_) Q Z s
  exact wpAny_bind (wpAny_mono h (fun vs s' h'=>wpAny_bind (wpAny_pure (wpAny_holding (wpAny_bind (wpAny_pure (wpAny_pure h')))))) fun _ _ x=>x)
 |cons x xs=>exact evalArgs_plain h
noncomputable def f8(prog:Program)(w:World)(H:bg)(os:OsState)(n:Nat)(f:String)(v:Value):Prop:=
 ∀(A:Around) (W:Wd) (fx:Fz) (σ:ah) (s:Shared) (xs:List V) (vs:List Value) (r:V) (Q Z:Value→Shared→Prop),bX A n→St prog w H W fx σ os s→ar prog w H W xs vs→wC σ f xs=some r→
  (∀W' val s',W.le W'→St prog w H W' fx σ os s'→bj prog w H W' r val→Q val s')→wpAny (model prog w) A (PySem.call v vs) Q Z s
theorem yU{f:String}{v:Value}{es:List Mine.E}{xs:List Expr}{p pos:Pos}(K:aK H mg mb)(hk:sc.names.lookup (Str.ofString f)=some .globalImplicit)(hg:mg (Str.ofString f)=none)(hb:bootBuiltins (Str.ofString f)=some v)
  (hn:Str.ofString f≠ "__name__")(hd:(Str.ofString f==("__debug__" :PySem.Str))=false)(hp:xs.any aR=false)(hv:(∃id,v= .builtin id)∨(∃T,v= .type T))
  (hc:f8 prog w H os n f v)(h:SL prog w H os C call n X sc es xs):SE prog w H os C call n X sc (.bi f es) (.Call (.Name (Str.ofString f) p) xs [] pos):=by
 intro A env ρ W fx σ s Q Z rm ew er S hs
 refine Call_Name rfl (gu K S ew hk hg hb hn ?_ hd)
 have main:wpAny (model prog w) A (spliced (backTo pos (starEach xs env))) (fun vs s'=>wpAny (model prog w) A (PySem.call v ([]++vs) []) Q Z s') Z s:=
  h.then rm ew er S hs (fun _ _ x=>x) fun q W' vals s' hq l S' R er' h'=>so h' fun r e hr=>hc A W' fx q.2 s' q.1 vals r Q Z rm S' R e fun W2 val s2 l2 S2 R2=>hr W2 val s2 (l.trans l2) S2 R2
 rcases hv with⟨id,rfl⟩|⟨T,rfl⟩
 ·exact callWith_builtin (dH hp) (cJ hp main)
 ·exact PyProof.Rows.callWith_type (dH hp) (cJ hp main)
theorem St.seqV(S:St prog w H W fx σ os s){x:V}{xs:List V}(v:Value)(R:bj prog w H W x v)(e:jS σ x=some xs){P:Value→Prop}(k: ∀a o vs c,SeqAt prog w H W s c xs a o vs→(c= "tuple" ∨c= "list")→P (.ref a)):P v:=by
 refine ug e (fun e=>?_) fun _ e=>?_
 ·apply S.tupV v R e;intro a o vs q _;exact k a o vs _ q (.inl rfl)
 ·apply S.lst v R e;intro a o vs q;exact k a o vs _ q (.inr rfl)
theorem y6{x:V}(vs:List Value)(R:ar prog w H W [x] vs){P:List Value→Prop}(k: ∀v,bj prog w H W x v→P [v]):P vs:=by
 apply cy vs R;intro v q p t
 apply qF q t;exact k v p
theorem CM{x y:V}(vs:List Value)(R:ar prog w H W [x,y] vs){P:List Value→Prop}(k: ∀v u,bj prog w H W x v→bj prog w H W y u→P [v,u]):P vs:=by
 apply cy vs R;intro v q p t
 apply y6 q t;intro u p';exact k v u p p'
theorem qe{f:String}{v:Value}(k: ∀(A:Around) (W:Wd) (fx:Fz) (σ:ah) (s:Shared) (x:V) (val:Value) (r:V) (Q Z:Value→Shared→Prop),bX A n→St prog w H W fx σ os s→bj prog w H W x val→D9 σ f x=some r→
  (∀W' val s',W.le W'→St prog w H W' fx σ os s'→bj prog w H W' r val→Q val s')→wpAny (model prog w) A (PySem.call v [val]) Q Z s):f8 prog w H os n f v:=by
 intro A W fx σ s xs vs r Q Z rm S R e h
 refine ob e fun x hx e=>?_
 rw[sp hx] at R
 apply y6 vs R;intro val p
 exact k A W fx σ s x val r Q Z rm S p e h
theorem yb{vs:List Value}{xs:List V}(h:vs.length=xs.length)(hn:xs.length≤cP):(vs.toArray.size:Int)<2^63:=Int.lt_of_le_of_lt (Int.ofNat_le.mpr (show vs.toArray.size≤cP by rw[List.size_toArray,h];exact hn)) (by decide+kernel)
theorem c_len:f8 prog w H os n "len" (.builtin "len"):=qe fun A W fx σ s x val r Q Z rm S R e h=>ob e fun xs hx e=>by
 apply S.seqV val R hx;intro a o vs c k hc
 have hr:bj prog w H W r (.int vs.toArray.size (s.toks+1)):=by
  rw[←Option.some.inj e,List.size_toArray,k.r.length];exact cr
 rcases hc with rfl|rfl
 ·exact len_tuple (k.q.isTup k.g) (yb k.r.length k.n) (h W _ _ (.refl _) S.tok hr)
 ·exact call_len_list (k.q.isList k.g) (yb k.r.length k.n) (h W _ _ (.refl _) S.tok hr)
theorem ed: ∀{xs:List V} {vs:List Value} {l:List Int},ar prog w H W xs vs→dc xs=some l→ ∃ys:List (Int×Tok),vs=ys.map (fun p=>Value.int p.1 p.2)∧ys.map (·.1)=l
 |[],vs,l,R,e=>⟨[],R,Option.some.inj e⟩
 |x::r,vs,l,R,e=>ob e fun i hi e=>ob e fun l' hq e=>by
  apply cy vs R;intro v q p t
  refine aA (ed t hq) fun ys e1 e2=>?_
  apply eV v p hi;intro u
  exact⟨(i,u)::ys,by rw[e1];rfl,by rw[←Option.some.inj e,←e2];rfl⟩
theorem AY{ys:List (Int×Tok)}:(ys.map (fun p=>Value.int p.1 p.2)).toArray=intItems ys.toArray:=by rw[intItems,List.map_toArray]
theorem St.ints(S:St prog w H W fx σ os s){x:V}{l:List Int}(v:Value)(R:bj prog w H W x v)(e:(zg x).bind dc=some l){P:Value→Prop}(k: ∀a (ys:List (Int×Tok)),s.heap.IsList a (intItems ys.toArray)→ys.map (·.1)=l→P (.ref a)):P v:=by
 refine ob e fun xs hx e=>?_
 have hx':dG σ x=some xs:=by show(zg x).or _=_;rw[hx];rfl
 apply S.lst v R hx';intro a o vs q
 exact aA (ed q.r e) fun ys e1 e2=>k a ys (by have hl:=q.q.isList q.g;rwa[e1,AY] at hl) e2
theorem c_sum:f8 prog w H os n "sum" (.builtin "sum"):=qe fun A W fx σ s x val r Q Z rm S R e h=>ob e fun l hl e=>by
 apply S.ints val R hl;intro a ys ia e2
 refine sum_intListG rm.h ia fun h' tk t' hk=>h W _ _ (.refl _) (S.ext hk) ?_
 rw[←Option.some.inj e,preSum_eq,List.take_of_length_le (by rw[List.size_toArray,List.length_map];exact Nat.le_refl _),e2]
 exact cr
theorem AJ{ys:List (Int×Tok)}{i:Nat}(h:i<ys.length):(ys.map (·.1))[i]? =some (numAt ys.toArray i):=by
 rw[numAt,List.getElem?_toArray,List.getElem?_map,List.getElem?_eq_getElem h];rfl
theorem CW: ∀l,minI l=l.min?
 |[]=>rfl
 |_::_=>rfl
theorem c_min:f8 prog w H os n "min" (.builtin "min"):=qe fun A W fx σ s x val r Q Z rm S R e h=>ob e fun m hm e=>ob hm fun l hl hm=>by
 apply S.ints val R hl;intro a ys ia e2
 rw[CW] at hm
 have least:=List.min?_eq_some_iff.mp hm
 rw[←e2] at least
 refine(List.getElem?_of_mem least.1).elim fun j ej=>?_
 have hj:j<ys.length:=by
  have:=(List.getElem?_eq_some_iff.mp ej).1
  rwa[List.length_map] at this
 refine min_intList rm.h ia (by rw[List.size_toArray];exact Nat.lt_of_le_of_lt (Nat.zero_le _) hj) fun v h' tk hv hk=>?_
 refine cN (intItems_at hv) fun t ev=>?_
 have ab:=argBest_lt (numAt ys.toArray) (ys.toArray.size-1)
 generalize argBest (fun i j=>decide (numAt ys.toArray i<numAt ys.toArray j)) (ys.toArray.size-1)=i at ab ev
 rw[List.size_toArray] at ab
 have ni:=AJ (Nat.lt_of_le_of_lt ab.1 (Nat.sub_lt (Nat.lt_of_le_of_lt (Nat.zero_le _) hj) (by decide)))
 have up:=ab.2 j (Nat.le_sub_one_of_lt hj)
 rw[AJ hj] at ej
 rw[Option.some.inj ej] at up
 rw[ev,Int.le_antisymm up (least.2 _ (List.mem_of_getElem? ni))]
 exact h W _ _ (.refl _) (S.ext hk) (Option.some.inj e▸cr)
theorem AC{x:List Nat}{v:V}(h:DL x=some v): ∃c,x=[c]∧v= .int c:=match x,h with
 |[c],h=>⟨c,rfl,(Option.some.inj h).symm⟩
theorem c_ord:f8 prog w H os n "ord" (.builtin "ord"):=qe fun A W fx σ s x val r Q Z rm S R e h=>ob e fun l hl e=>aA (AC e) fun c ec er=>by
 rw[ec] at hl
 apply qA val R hl;intro t _
 exact PySem.P.ord_of_char (h W _ _ (.refl _) S.tok (er▸cr))
theorem c_abs:f8 prog w H os n "abs" (.builtin "abs"):=qe fun A W fx σ s x val r Q Z rm S R e h=>ob e fun i hi e=>by
 apply eV val R hi;intro t
 refine call_abs_int fun u tk=>h W _ _ (.refl _) S.tok ?_
 rw[←Option.some.inj e,show(if i<0 then-i else i)=(i.natAbs:Int) by
  by_cases q:i<0
  ·rw[if_pos q,Int.ofNat_natAbs_of_nonpos (Int.le_of_lt q)]
  ·rw[if_neg q,Int.natAbs_of_nonneg (Int.not_lt.mp q)]]
 exact cr
theorem Ft:f8 prog w H os n "list" (.type "list"):=qe fun A W fx σ s x val r Q Z rm S R e h=>ob e fun xs hx e=>by
 apply S.seqV val R hx;intro a o vs c k hc
 refine cN k.q.2.2.2 fun nn hd=>call_list_seq a hc.symm k.g k.q.1 hd (fun h' c' hk hD=>?_) (by rw[List.size_toArray,k.r.length];exact bM k.n)
 have f:=S.fresh (Nat.le_refl s.heap.objs.size)
 have l:=Wd.le_fix (o:={cls:= .type "list",dict:=none,data:= .seq vs.toArray c',slots:=#[]}) f.P
 exact h _ _ _ l (St.fix (S.ext (tk:=s.toks) hk) f hD) (Option.some.inj e▸Exists.intro _ (Exists.intro _ (Exists.intro vs ⟨rfl,Fz.add_self _ _ _,⟨rfl,rfl,rfl,c',rfl⟩,k.r.le l,k.n⟩)))
end
end Mine
end
section
namespace Mine
open PySem PySem.W PyProof.Rows PySem.SeqAt PySem.Calls
section
open AutoSeq1 (wpAny_loadPart')
theorem kI{M:Model}{A:Around}{E:Value→Shared→Prop}{s:Shared}{β:Type}(m:Nat)(f:Nat→β→Sem (ForInStep β))(I:Nat→β→Shared→Prop)(Q:β→Shared→Prop)
  (turn: ∀i b s,i<m→I i b s→wpAny M A (f i b) (fun r s'=>match r with| .yield b'=>I (i+1) b' s'| .done b'=>Q b' s') E s)
  (fin: ∀b s,I m b s→Q b s)(b:β)(h:I 0 b s):wpAny M A (forIn [0:m] b f) Q E s:=by
 rw[Std.Legacy.Range.forIn_eq_forIn_range',Std.Legacy.Range.size,Nat.sub_zero,Nat.add_sub_cancel,Nat.div_one]
 refine wpAny_forIn_list f (fun rest b s=> ∃i,rest=List.range' i (m-i)∧i≤m∧I i b s) Q (fun x rest b s hI=>?_) (fun b s hI=>?_) _ b ⟨0,rfl,Nat.zero_le _,h⟩
 ·refine cf hI fun i hr hi hI=>?_
  rcases Nat.eq_or_lt_of_le hi with e|hlt
  ·rw[e,Nat.sub_self] at hr;cases hr
  ·rw[←Nat.succ_sub_one (m-i),Nat.succ_sub_one,←Nat.sub_add_cancel (Nat.sub_pos_of_lt hlt),List.range'_succ,Nat.sub_sub] at hr
   have h1:=(List.cons.inj hr).1
   rw[h1]
   refine wpAny_mono (turn i b s hlt hI) (fun r s' h=>?_) fun _ _ e=>e
   cases r with
   |yield b'=>exact⟨i+1,(List.cons.inj hr).2,hlt,h⟩
   |done b'=>exact h
 ·refine cf hI fun i hr hi hI=>?_
  have e:m-i=0:=by rw[←List.length_range' (s:=i) (n:=m-i) (step:=1),←hr];rfl
  exact fin b s (Nat.le_antisymm hi (Nat.le_of_sub_eq_zero e)▸hI)
theorem qB(l:Addr)(items:Array Value)(n:Nat)(dd:Option Addr)(sl:Array (Option Value))(x:Value)(e:Value→Bool)(j:Nat)(hj:j<items.size)
  (hit:e items[j]=true)(hno: ∀m (hm:m<items.size),m<j→e items[m]=false):
  Meets (Builtin.«tuple.index» ⟨[.ref l,x],[]⟩)
   (fun A R s=>s.heap.get? l=some {cls:= .type "tuple",dict:=dd,data:= .seq items n,slots:=sl}∧(∀y,y∈items→EqAt A.in1 s y x (e y))∧R (.ok (.ret (.int j s.toks))) {s with toks:=s.toks+1}):=
 .of_wp fun prog w A R s h=>by
  refine iF fun nG=>?_
  obtain⟨hp,g,d,tk,os⟩:=s;refine FO h fun hl he h=>?_
  refine nG ?_
  wp_walk using wpAny_loadPart' hl,kI _ _ (fun i b s'=>b=(none,())∧s'=⟨hp,g,d,tk,os⟩∧i≤j) _
  case turn=>
   rintro i b s' hi ⟨rfl,rfl,hij⟩
   have hlt:i<items.size:=Nat.lt_of_le_of_lt hij hj
   rw[Array.getElem?_eq_getElem hlt]
   refine wpAny_bind (he _ (Array.getElem_mem hlt) prog w _ _ ?_)
   by_cases hq:i=j
   ·subst hq
    rw[hit]
    wp_walk
    exact⟨_,rfl,h⟩
   ·rw[hno i hlt (Nat.lt_of_le_of_ne hij hq)]
    wp_walk
    exact⟨rfl,rfl,Nat.lt_of_le_of_ne hij hq⟩
  case fin=>
   rintro b s' ⟨rfl,rfl,hij⟩
   exact absurd hj (Nat.not_lt.mpr (Nat.min_self items.size▸hij))
  case h=>exact⟨rfl,rfl,Nat.zero_le _⟩
end
section
variable{prog:Program}{w:World}{H:bg}{os:OsState}{C:Ctx}{call:aw}{n:Nat}{X:aH}
variable{A:Around}{W W':Wd}{fx:Fz}{Q:Value→Shared→Prop}{Z:Value→Shared→Prop}{s:Shared}{σ:ah}{sc:Scope}
variable{mg mb:PySem.Str→Option Value}
noncomputable def nT(vs:List Value)(n:Nat):Obj:={cls:= .type "list",dict:=none,data:= .seq vs.toArray n,slots:=#[]}
theorem St.seqUpd(S:St prog w H W fx σ os s){i:Nat}{a:Addr}{xs ys:List V}{vs us:List Value}{nn tk:Nat}(ha:W.ads[i]? =some a)(hm:σ[i]? =some (.list xs))(ho:s.heap.get? a=some (nT vs nn))
  (f:Array Value→Array Value)(R:ar prog w H W ys us)(hf:f vs.toArray=us.toArray)(hl:ys.length≤cP):
  St prog w H W fx (σ.set i (.list ys)) os {s with heap:=s.heap.update a (Obj.mapSeq f),toks:=tk}:=
 cN (Obj.data_mapSeq (o:=nT vs nn) rfl f) fun n' hd'=>
  have h1:=Heap.get?_update_self (Obj.mapSeq f) ho (Obj.isFreed_of_seq hd')
  S.upd ha hm rfl (fun b o hb e=>(Heap.get?_update_other _ _ (Ne.symm hb)).trans e) ⟨_,h1⟩ ⟨_,us,h1,⟨rfl,rfl,rfl,n',hd'.trans (by rw[hf])⟩,R,hl⟩
theorem St.refL(S:St prog w H W fx σ os s){i:Nat}{xs:List V}(v:Value)(R:bj prog w H W (.ref i) v)(e:qJ σ i=some xs){P:Value→Prop}(k: ∀a vs nn,W.ads[i]? =some a→s.heap.get? a=some (nT vs nn)→ar prog w H W xs vs→xs.length≤cP→P (.ref a)):P v:=
 aA R fun a ea ha=>Eq.subst (motive:=P) ea.symm (nz (S.mo i a _ ha (mD e)) fun o vs g q r n=>cN q.eq fun nn eo=>k a vs nn ha (eo▸g:s.heap.get? a=some {cls:= .type "list",dict:=none,data:= .seq vs.toArray nn,slots:=#[]}) r n)
noncomputable def kB(prog:Program)(w:World)(H:bg)(os:OsState)(n:Nat)(m:String)(x:V)(id:String)(ov:Value):Prop:=
 ∀(A:Around) (W:Wd) (fx:Fz) (σ σ':ah) (s:Shared) (args:List V) (vals:List Value) (r:V) (Q Z:Value→Shared→Prop),bX A n→St prog w H W fx σ os s→bj prog w H W x ov→ar prog w H W args vals→ke σ m x args=some (r,σ')→
  (∀W' val s',W.le W'→St prog w H W' fx σ' os s'→bj prog w H W' r val→Q val s')→wpAny (model prog w) A (PySem.call (.builtin id) (ov::vals)) Q Z s
theorem uO{i:Int}(h:i.natAbs<qr):Builtin.List.listFitsIndex i=true:=
 Bool.and_eq_true_iff.mpr ⟨decide_eq_true (Int.neg_le_of_neg_le (Int.le_trans (by rw[←Int.natAbs_neg];exact Int.le_natAbs) (Int.le_of_lt (Int.ofNat_lt.mpr h)))),decide_eq_true (Int.lt_of_le_of_lt Int.le_natAbs (Int.ofNat_lt.mpr h))⟩
theorem sQ{xs:List V}{vs:List Value}(R:ar prog w H W xs vs)(h:xs.length≤cP):vs.toArray.size≤sizeLine:=by rw[List.size_toArray,R.length];exact bM h
theorem AP{i:Nat}{ov:Value}:kB prog w H os n "append" (.ref i) "list.append" ov:=fun A W fx σ σ' s args vals r Q Z rm S R Rv e h=>ob e fun x hx e=>ob e fun xs hl e=>qG e fun hz e=>by
 rw[←(Prod.mk.inj e).1,←(Prod.mk.inj e).2] at h
 rw[sp hx] at Rv
 apply y6 vals Rv;intro u Ru
 apply S.refL ov R hl;intro a vs nn ha k1 k3 k4
 exact call_meets F.slot_list_append ⟨_,k1,rfl⟩ F.entry_list_append (F.args_list_append_2 _ _) (PySem.list_append a vs.toArray nn u (sQ k3 k4)) ⟨k1,h W _ _ (.refl _) (S.seqUpd (tk:=s.toks) ha (mD hl) k1 _ (k3.append (ar.cons Ru ar.nil)) (List.push_toArray vs u) (by rw[List.length_append];exact hz)) eM⟩
theorem wj(xs:Array Value)(k:Nat)(y:Value)(h:k≤xs.size):((xs.extract 0 k).push y++xs.extract k)=(xs.toList.take k++y::xs.toList.drop k).toArray:=by
 apply Array.toList_inj.mp
 rw[Array.toList_append,Array.toList_push,Array.toList_extract,Array.toList_extract,List.extract_eq_take_drop,List.extract_eq_take_drop,List.append_assoc,List.take_of_length_le (l:=xs.toList.drop k) (by rw[List.length_drop];exact Nat.le_refl _)]
 rfl
theorem EZ{vs:List V}{r:V×ah}{ri:Nat}(h:mIns σ ri vs=some r): ∃a x,vs=[a,x]∧((bN a).bind fun i=>(qJ σ ri).bind fun xs=>if xs.length<cP∧0≤i∧i≤xs.length then some (V.none,σ.set ri (.list (xs.take i.toNat++x::xs.drop i.toNat))) else .none)=some r:=match vs,h with
 |[a,x],h=>⟨a,x,rfl,h⟩
theorem AO{i:Nat}{ov:Value}:kB prog w H os n "insert" (.ref i) "list.insert" ov:=fun A W fx σ σ' s args vals r Q Z rm S R Rv e h=>cz (EZ e) fun y x ea e=>ob e fun j hj e=>ob e fun xs hl e=>qG e fun hz e=>by
 rw[←(Prod.mk.inj e).1,←(Prod.mk.inj e).2] at h
 rw[ea] at Rv
 apply CM vals Rv;intro u0 u Ru0 Ru
 apply eV u0 Ru0 hj;intro t
 apply S.refL ov R hl;intro a vs nn ha k1 k3 k4
 have hn:j.toNat≤xs.length:=Int.toNat_le.mpr hz.2.2
 have hb:j.natAbs<qr:=by
  rw[←Int.ofNat_lt,Int.natAbs_of_nonneg hz.2.1]
  exact Int.lt_of_le_of_lt hz.2.2 (Int.ofNat_lt.mpr (Nat.lt_of_le_of_lt k4 (by decide+kernel)))
 refine call_meets F.slot_list_insert ⟨_,k1,rfl⟩ F.entry_list_insert (F.args_list_insert_3 _ _ _) (AutoSeq1.list_insert_list_int_val_1 a vs.toArray nn j t u (by rw[uO hb];decide) (sQ k3 k4)) ⟨k1,?_⟩
 refine h W _ _ (.refl _) (S.seqUpd (tk:=s.toks) ha (mD hl) k1 _ ((k3.take j.toNat).append (ar.cons Ru (k3.drop j.toNat))) ?_ ?_) eM
 ·dsimp only
  rw[if_neg (Int.not_lt.mpr hz.2.1),Nat.min_eq_left (by rw[List.size_toArray,k3.length];exact hn)]
  exact wj vs.toArray j.toNat u (by rw[List.size_toArray,k3.length];exact hn)
 ·rw[List.length_append,List.length_take,List.length_cons,List.length_drop,Nat.min_eq_left hn,←Nat.add_assoc,Nat.add_sub_cancel' hn];exact hz.1
theorem ry(xs:Array Value)(k:Nat):xs.eraseIdxIfInBounds k=(xs.toList.eraseIdx k).toArray:=by
 apply Array.toList_inj.mp
 unfold Array.eraseIdxIfInBounds
 split
 ·exact Array.toList_eraseIdx ..
 ·rename_i h
  exact(List.eraseIdx_of_length_le (Nat.not_lt.mp h)).symm
theorem ar.erase: ∀{x:List V} {v:List Value} (k:Nat),ar prog w H W x v→ar prog w H W (x.eraseIdx k) (v.eraseIdx k)
 |[],v,_,h=>by
  apply qF v h;exact ar.nil
 |_::_,v,0,h=>by
  apply cy v h;intro _ _ _ t;exact t
 |_::_,v,k+1,h=>by
  apply cy v h;intro _ _ p t
  exact ar.cons p (ar.erase k t)
theorem m_pop{i:Nat}{ov:Value}:kB prog w H os n "pop" (.ref i) "list.pop" ov:=fun A W fx σ σ' s args vals r Q Z rm S R Rv e h=>by
 cases args with
 |nil=>
  refine ob e fun xs hl e=>ob e fun y hy e=>?_
  rw[←(Prod.mk.inj (Option.some.inj e)).1,←(Prod.mk.inj (Option.some.inj e)).2] at h
  apply qF vals Rv
  apply S.refL ov R hl;intro a vs nn ha k1 k3 k4
  rw[List.getLast?_eq_getElem?] at hy
  refine aA (k3.get hy) fun u hu Ru=>?_
  refine call_meets F.slot_list_pop ⟨_,k1,rfl⟩ F.entry_list_pop (F.args_list_pop_1 _) (MeetsSeq.list_pop_last a vs.toArray nn u (by rw[List.size_toArray,k3.length,List.getElem?_toArray];exact hu) (sQ k3 k4)) ⟨k1,?_⟩
  rw[←List.eraseIdx_length_sub_one] at h
  refine h W _ _ (.refl _) (S.seqUpd (tk:=s.toks) ha (mD hl) k1 _ (k3.erase (xs.length-1)) ?_ (Nat.le_trans (List.length_eraseIdx_le _ _) k4)) Ru
  rw[List.size_toArray,k3.length]
  exact ry _ _
 |cons v q=>cases q with
  |cons _ _=>exact dA e
  |nil=>
   refine ob e fun j hj e=>ob e fun xs hl e=>oif' e fun hb e=>ob e fun k hk e=>ob e fun y hy e=>?_
   rw[←(Prod.mk.inj (Option.some.inj e)).1,←(Prod.mk.inj (Option.some.inj e)).2] at h
   apply y6 vals Rv;intro u0 Ru0
   apply eV u0 Ru0 hj;intro t
   apply S.refL ov R hl;intro a vs nn ha k1 k3 k4
   refine aA (k3.get hy) fun u hu Ru=>?_
   refine call_meets F.slot_list_pop ⟨_,k1,rfl⟩ F.entry_list_pop (F.args_list_pop_2 _ _) (MeetsSeq.list_pop_at a vs.toArray nn j t k u (uO hb) (by rw[List.size_toArray,k3.length];exact xW hk) (by rw[List.getElem?_toArray];exact hu) (sQ k3 k4)) ⟨k1,?_⟩
   exact h W _ _ (.refl _) (S.seqUpd (tk:=s.toks) ha (mD hl) k1 _ (k3.erase k) (ry _ _) (Nat.le_trans (List.length_eraseIdx_le _ _) k4)) Ru
noncomputable def isI(i:Int):Value→Bool
 | .int z _=>z==i
 |_=>false
theorem C0{ov:Value}{xs:List V}:kB prog w H os n "index" (.tup xs) "tuple.index" ov:=fun A W fx σ σ' s args vals r Q Z rm S R Rv e h=>ob e fun y hy e=>ob e fun i hi e=>ob e fun l hl e=>ob e fun j hj e=>by
 rw[←(Prod.mk.inj (Option.some.inj e)).1,←(Prod.mk.inj (Option.some.inj e)).2] at h
 rw[sp hy] at Rv
 apply y6 vals Rv;intro u0 Ru0
 apply eV u0 Ru0 hi;intro t
 apply S.tupV ov R rfl;intro a o vs k _
 refine cN k.q.eq fun nn eo=>aA (ed k.r hl) fun ys ey el=>?_
 have k1:=k.g
 rw[eo] at k1
 rw[←el] at hj
 refine(List.findIdx?_eq_some_iff_getElem.mp hj).elim fun hjl hj2=>?_
 have hs:vs.toArray.size=ys.length:=by rw[List.size_toArray,ey,List.length_map]
 have at_: ∀k (hk:k<vs.toArray.size),isI i vs.toArray[k]=((ys.map (·.1))[k]'(by rw[List.length_map,←hs];exact hk)==i):=fun k hk=>by
  have e1:vs.toArray[k]= .int (ys[k]'(hs▸hk)).1 (ys[k]'(hs▸hk)).2:=by rw[List.getElem_toArray,List.getElem_of_eq ey,List.getElem_map]
  rw[e1,List.getElem_map];rfl
 have hjs:j<vs.toArray.size:=by rw[hs];rwa[List.length_map] at hjl
 refine call_meets F.slot_tuple_index ⟨_,k1,rfl⟩ F.entry_tuple_index (F.args_tuple_index_2 _ _) (qB a vs.toArray nn none #[] (.int i t) (isI i) j hjs (by rw[at_ j hjs];exact hj2.1) (fun k hk hkj=>by rw[at_ k hk];exact Bool.eq_false_iff.mpr (hj2.2 k hkj))) ⟨k1,fun y hy=>?_,h W _ _ (.refl _) S.tok cr⟩
 rw[List.mem_toArray,ey] at hy
 refine(List.mem_map.mp hy).elim fun p hp=>?_
 rw[←hp.2]
 exact EqAt.int_int p.1 p.2 i t
theorem kM: ∀(l:List (List Nat)) (tk:Nat),(∀x∈l,x.length≤cP)→ar prog w H W (l.map .str) (strsFrom tk (l.map fun x=>(⟨x.toArray⟩:PySem.Str)))
 |[],_,_=>ar.nil
 |x::r,tk,h=>ar.cons (jB (h x (List.mem_cons_self ..))) (kM r (tk+1) fun y hy=>h y (List.mem_cons_of_mem _ hy))
theorem C5(x:PySem.Str):1≤Builtin.Str.strKind x:=by
 unfold Builtin.Str.strKind
 split
 ·decide
 ·split<;>decide
theorem CZ{ov:Value}{x:List Nat}:kB prog w H os n "split" (.str x) "str.split" ov:=fun A W fx σ σ' s args vals r Q Z rm S R Rv e h=>ob e fun y hy e=>ob e fun b hb e=>qG e fun hx e=>by
 rw[←(Prod.mk.inj e).1,←(Prod.mk.inj e).2] at h
 rw[sp hy] at Rv
 apply y6 vals Rv;intro u0 Ru0
 rw[hx.1] at hb
 apply qA u0 Ru0 hb;intro t _
 apply qA ov R rfl;intro t' _
 have hm:32∈x:=List.contains_iff_mem.mp hx.2.2
 have h1:(decide ((⟨x.toArray⟩:PySem.Str).length<(⟨[32].toArray⟩:PySem.Str).length)||decide (Builtin.Str.strKind ⟨x.toArray⟩<Builtin.Str.strKind ⟨[32].toArray⟩))=false:=by
  rw[show Builtin.Str.strKind ⟨[32].toArray⟩=1 by decide+kernel,decide_eq_false (Nat.not_lt.mpr (C5 _)),Bool.or_false]
  exact decide_eq_false (Nat.not_lt.mpr (show 1≤x.length from List.length_pos_of_mem hm))
 have hf:(Builtin.Str.occurrences ⟨x.toArray⟩ ⟨[32].toArray⟩ 0 (⟨x.toArray⟩:PySem.Str).length ((⟨x.toArray⟩:PySem.Str).length+1)).isEmpty=false:=by
  show(Builtin.Str.occurrences ⟨x.toArray⟩ ⟨#[32]⟩ 0 x.length (x.length+1)).isEmpty=false
  rw[um]
  exact rC hm
 have hp:Builtin.Str.partsBetween ⟨x.toArray⟩ (Builtin.Str.occurrences ⟨x.toArray⟩ ⟨[32].toArray⟩ 0 (⟨x.toArray⟩:PySem.Str).length ((⟨x.toArray⟩:PySem.Str).length+1)) (⟨[32].toArray⟩:PySem.Str).length=(bv x []).map fun l=>(⟨l.toArray⟩:PySem.Str):=tT x
 have hs:(bv x []).length≤cP:=Nat.le_trans (gP x []) hx.2.1
 refine call_meets F.slot_str_split (typeIs_str _ _ _) F.entry_str_split (F.args_str_split_2 _ _) (meets_str_split_sep ⟨x.toArray⟩ ⟨[32].toArray⟩ t' t h1 rfl hf (bM (Nat.le_of_lt hx.2.1)) (by rw[hp,List.length_map];exact bM hs)) ?_
 rw[hp]
 exact(S.tok (tk:=s.toks+((bv x []).map fun l=>(⟨l.toArray⟩:PySem.Str)).length)).newLst (kM (prog:=prog) (w:=w) (H:=H) (W:=W) (bv x []) s.toks fun y hy=>Nat.le_trans (io x [] y hy) (Nat.le_of_lt hx.2.1)) (by rw[List.length_map];exact hs) fun W2 l2 S2 R2=>h W2 _ _ l2 S2 R2
end
end Mine
end
section
namespace Mine
open PySem PySem.W PyProof.Rows PySem.SeqAt PySem.Calls
noncomputable def k9:Expr→Bool
 | .Call _ _ _ _=>false
 |_=>true
theorem kz{o:Expr}{name:PySem.Str}{env:PySem.Env}(h:k9 o=true):attributeBase o name env (eval o env)=eval o env:=by
 cases o<;>first|rfl|cases h
section
variable{prog:Program}{w:World}{H:bg}{os:OsState}{C:Ctx}{call:aw}{n:Nat}{X:aH}
variable{A:Around}{W W':Wd}{fx:Fz}{Q:Value→Shared→Prop}{Z:Value→Shared→Prop}{s:Shared}{σ:ah}{sc:Scope}
variable{mg mb:PySem.Str→Option Value}
theorem so'{α:Type}{o:Option α}{Qp:α→Prop}{Qx:List Nat→ah→Prop}{P:Prop}(h:(ay.ofOpt o).sat Qp Qx)(k: ∀a,o=some a→Qp a→P):P:=match o,h with
 |some a,h=>k a rfl h
theorem mG{env:PySem.Env}{pos:Pos}{xs:List Expr}(hp:xs.any aR=false)(hl:xs.length<29):
  ((backTo pos (starEach xs env)).all (fun x=>!x.1)&&(backToKw pos (keywordEach [] env)).all (fun x=>x.1.isSome)
   &&decide (xs.length+([]:List Keyword).length+(if([]:List Keyword).isEmpty then 0 else 1)<30))=true:=by
 rw[bn hp,List.all_map]
 exact Bool.and_eq_true_iff.mpr ⟨Bool.and_eq_true_iff.mpr ⟨List.all_eq_true.mpr fun _ _=>rfl,rfl⟩,decide_eq_true (Nat.lt_succ_of_lt hl)⟩
structure MeK(prog:Program)(w:World)(H:bg)(os:OsState)(n:Nat)(s:Shared)(m:String)(x:V)(ov:Value)(T id:String):Prop where
 pa:PlainAttrs T
 sl:Slot T (Str.ofString m) id
 ty:typeOf (.builtin id)=pure (.type "method_descriptor")
 hT:s.TypeIs ov T
 hd: ∀a,ov= .ref a→ ∃ob,s.heap.get? a=some ob∧ob.dict=none
 ok:kB prog w H os n m x id ov
theorem mz(S:St prog w H W fx σ os s){m id:String}{i:Nat}{xs:List V}{ov:Value}(R:bj prog w H W (.ref i) ov)(e:qJ σ i=some xs)(sl:Slot "list" (Str.ofString m) id)(ty:typeOf (.builtin id)=pure (.type "method_descriptor"))(ok:kB prog w H os n m (.ref i) id ov):MeK prog w H os n s m (.ref i) ov "list" id:=by
 revert ok
 apply S.refL ov R e;intro a vs nn ha k1 k3 k4 ok
 exact⟨F.plainAttrs_list,sl,ty,(show br "list" (nT vs nn) vs from⟨rfl,rfl,rfl,nn,rfl⟩).isList k1|>.typeIs,fun b e=>⟨_,Value.ref.inj e▸k1,rfl⟩,ok⟩
theorem CX(S:St prog w H W fx σ os s){m:String}{x:V}{ov:Value}(R:bj prog w H W x ov)(h:lh σ m x=true): ∃T id,MeK prog w H os n s m x ov T id:=by
 unfold lh at h
 by_cases h1:m= "append" ∨m= "insert" ∨m= "pop"
 ·rw[if_pos h1] at h
  refine(Option.isSome_iff_exists.mp h).elim fun xs e=>ob e fun i hi e=>?_
  rw[fN hi] at R⊢
  rcases h1 with rfl|rfl|rfl
  ·exact⟨_,_,mz S R e F.slot_list_append F.type_list_append AP⟩
  ·exact⟨_,_,mz S R e F.slot_list_insert F.type_list_insert AO⟩
  ·exact⟨_,_,mz S R e F.slot_list_pop F.type_list_pop m_pop⟩
 ·rw[if_neg h1] at h
  by_cases h2:m= "index"
  ·rw[if_pos h2] at h
   refine(Option.isSome_iff_exists.mp h).elim fun xs e=>?_
   rw[h2,kK e]
   apply S.tupV ov R e;intro a o vs k _
   exact⟨"tuple",_,F.plainAttrs_tuple,F.slot_tuple_index,F.type_tuple_index,IsTup.typeIs (k.q.isTup k.g),fun b e=>⟨o,Value.ref.inj e▸k.g,k.q.2.1⟩,C0⟩
  ·rw[if_neg h2] at h
   by_cases h3:m= "split"
   ·rw[if_pos h3] at h
    refine(Option.isSome_iff_exists.mp h).elim fun x' e=>?_
    rw[h3,kO e]
    apply qA ov R e;intro t _
    exact⟨"str",_,F.plainAttrs_str,F.slot_str_split,F.type_str_split,typeIs_str _ _ _,(fun b e=>nomatch e),CZ⟩
   ·rw[if_neg h3] at h;cases h
theorem dJ{m:String}{o:Mine.E}{es:List Mine.E}{x:Expr}{xs:List Expr}{ap pos:Pos}(hc:k9 x=true)(hp:xs.any aR=false)(hl:xs.length<29)(hline:(ap.endLine==pos.line)=true)
  (ho:SE prog w H os C call n X sc o x)(h:SL prog w H os C call n X sc es xs):SE prog w H os C call n X sc (.meth m o es) (.Call (.Attribute x (Str.ofString m) ap) xs [] pos):=by
 intro A env ρ W fx σ s Q Z rm ew er S hs
 refine wpAny_Call_method_lateS (kz hc) (mG hp hl) hline (ho.then rm ew er S hs (fun _ _ x=>x) fun q W' ov s' l S' R er' h'=>?_)
 cases hk:lh q.2 m q.1 with
 |false=>rw[hk] at h';exact h'.elim
 |true=>
  rw[hk] at h'
  refine qt (CX (n:=n) S' R hk) fun T id k=>⟨T,id,k.pa,k.sl,k.ty,k.hT,k.hd,callWith_builtin (dH hp) (cJ hp ?_)⟩
  exact h.then rm ew er' S' h' (fun _ _ x=>x.le l) fun q2 W2 vals s2 hq l2 S2 R2 er2 h2=>so' h2 fun r e hr=>k.ok A W2 fx q2.2 r.2 s2 q2.1 vals r.1 Q Z rm S2 (R.le l2) R2 e fun W3 val s3 l3 S3 R3=>hr W3 val s3 ((l.trans l2).trans l3) S3 R3
structure vt(prog:Program)(w:World)(H:bg)(mg:PySem.Str→Option Value)(ext:List (List Nat×Int))(a:Addr):Prop where
 g:mg "EXACT_TOKEN_TYPES" =some (.ref a)
 ne:(a==sysModules)=false
 ob: ∃o es ep,H.base a=some o∧o.ExactDict∧o.data= .dict es ep∧KeysOf (strKind prog w) es∧
  (∀k:List Nat,(ext.lookup k=none→findBy (strKind prog w).is es ⟨k.toArray⟩=none)∧ ∀i,ext.lookup k=some i→ ∃t,findBy (strKind prog w).is es ⟨k.toArray⟩=some (.int i t))
theorem vt.map{ext:List (List Nat×Int)}{a:Addr}(T:vt prog w H mg ext a)(S:St prog w H W fx σ os s):
  ∃f,s.heap.MapOf (strKind prog w) a f∧ ∀k:List Nat,(ext.lookup k=none→f ⟨k.toArray⟩=none)∧ ∀i,ext.lookup k=some i→ ∃t,f ⟨k.toArray⟩=some (.int i t):=by
 refine jC T.ob fun o es ep y7_1=>?_;refine oA4 y7_1 fun h1 h2 h3 h4 h5=>?_
 exact⟨_,⟨o,es,ep,S.keepP _ _ (S.base _ _ h1),h2,h3,h4,fun k=>rfl⟩,h5⟩
theorem Ac{a:Mine.E}{l:Expr}{ta:Addr}{p pos:Pos}(K:aK H mg mb)(T:vt prog w H mg C.ext ta)(hk:sc.names.lookup (Str.ofString "EXACT_TOKEN_TYPES")=some .globalImplicit)
  (ha:SE prog w H os C call n X sc a l)(hm:behindInMarks .In (.Name "EXACT_TOKEN_TYPES" p)=false):SE prog w H os C call n X sc (.inGlob a) (.Compare l [.In] [.Name "EXACT_TOKEN_TYPES" p] pos):=by
 intro A env ρ W fx σ s Q Z rm ew er S h
 refine wpAny_Compare1 (ha.then rm ew er S h (fun _ _ x=>x) fun q W' vx s' l S' R er' h'=>?_) hm
 refine so h' fun x hx h'=>dF K S' ew hk T.g ?_ (by decide)
 apply qA vx R hx;intro t _
 refine aA (T.map S') fun f hf hx=>wpAny_in_of (k:=⟨x.toArray⟩) (strKind_is prog w _ t) T.ne hf ?_
 have e:(f ⟨x.toArray⟩).isSome=(C.ext.lookup x).isSome:=by
  cases e:C.ext.lookup x with
  |none=>rw[(hx x).1 e];rfl
  |some i=>exact cN ((hx x).2 i e) fun t e'=>by rw[e'];rfl
 rw[e]
 exact h' W' _ _ l S'.tok oS
theorem yP{a:Mine.E}{i:Expr}{ta:Addr}{p pos:Pos}(K:aK H mg mb)(T:vt prog w H mg C.ext ta)(hk:sc.names.lookup (Str.ofString "EXACT_TOKEN_TYPES")=some .globalImplicit)(hn:fP i=true)
  (ha:SE prog w H os C call n X sc a i):SE prog w H os C call n X sc (.subGlob a) (.Subscript (.Name "EXACT_TOKEN_TYPES" p) i pos):=by
 intro A env ρ W fx σ s Q Z rm ew er S h
 refine Subscript_ (dF K S ew hk T.g ?_ (by decide))
 refine ha.then rm ew er S h (fun _ _ x=>x) fun q W' vx s' l S' R er' h'=>?_
 refine so h' fun x hx h'=>so h' fun j e hj=>?_
 apply qA vx R hx;intro t _
 exact aA (T.map S') fun f hf hx=>cN ((hx x).2 j e) fun u e'=>tail_any hf.typeIs slot_dict_getitem.lookup (wpAny_getItem_of (strKind_is prog w _ t) hf e' (hj W' _ _ l S'.tok cr)) (jz hn _ _)
end
end Mine
end
section
namespace Mine
open PySem PySem.W PyProof.Rows PySem.SeqAt PySem.Calls
section
variable{prog:Program}{w:World}{H:bg}{os:OsState}{C:Ctx}{call:aw}{n:Nat}{X:aH}
variable{A:Around}{W W':Wd}{fx:Fz}{Q:Value→Shared→Prop}{Z:Value→Shared→Prop}{s:Shared}{σ:ah}{sc:Scope}
variable{mg mb:PySem.Str→Option Value}
theorem ie{f:PySem.Str}{id:String}{x:Expr}{p pos:Pos}(K:aK H mg mb)(S:St prog w H W fx σ os s){env:PySem.Env}(ew:EnvW sc env)(hk:sc.names.lookup f=some .globalImplicit)(hg:mg f=none)(hb:bootBuiltins f=some (.type id))
  (hn:f≠ "__name__")(hd:(f==("__debug__" :PySem.Str))=false)(hp:aR x=false)(h:wpAny (model prog w) A (eval x env) (fun v s₁=>wpAny (model prog w) A (PySem.call (.type id) [v]) Q Z s₁) Z s):
  wpAny (model prog w) A (eval (.Call (.Name f p) [x] [] pos) env) Q Z s:=by
 have hp':[x].any aR=false:=by rw[List.any_cons,hp];rfl
 refine Call_Name rfl (gu K S ew hk hg hb hn (PyProof.Rows.callWith_type (dH hp') (cJ hp' ?_)) hd)
 rw[bn hp']
 exact spliced_cons (wpAny_mono h (fun v s₁ h₁=>spliced_nil h₁) fun _ _ e=>e)
theorem sf{a:Mine.E}{x:Expr}{p pos:Pos}(K:aK H mg mb)(hk:sc.names.lookup (Str.ofString "list")=some .globalImplicit)(hg:mg "list" =none)(hp:aR x=false)
  (ha:SE prog w H os C call n X sc a x):SE prog w H os C call n X sc (.listM a) (.Call (.Name "list" p) [x] [] pos):=by
 intro A env ρ W fx σ s Q Z rm ew er S h
 refine ie (id:= "list") K S ew hk hg (by decide+kernel) (by decide) (by decide) hp (ha.then rm ew er S h (fun _ _ x=>x) fun q W' v s' l S' R er' h'=>so h' fun xs e hz=>?_)
 apply S'.seqV v R e;intro a o vs c k hc
 refine cN k.q.2.2.2 fun nn hd=>call_list_seq a hc.symm k.g k.q.1 hd (fun h' c' hk hD=>?_) (by rw[List.size_toArray,k.r.length];exact bM k.n)
 exact hz _ _ _ (l.trans Wd.le_more) ((S'.ext (tk:=s'.toks) hk).more (m:= .list xs) (S'.fresh (Nat.le_refl _)) ⟨_,hD⟩ ⟨_,vs,hD,⟨rfl,rfl,rfl,c',rfl⟩,k.r.le Wd.le_more,k.n⟩) (Exists.intro _ ⟨rfl,Wd.more_at S'.len⟩)
theorem Cs{a:Mine.E}{x:Expr}{p p2 pos:Pos}(K:aK H mg mb)(hk:sc.names.lookup (Str.ofString "isinstance")=some .globalImplicit)(hg:mg "isinstance" =none)(hk2:sc.names.lookup (Str.ofString "tuple")=some .globalImplicit)(hg2:mg "tuple" =none)(hp:aR x=false)
  (ha:SE prog w H os C call n X sc a x):SE prog w H os C call n X sc (.isTup a) (.Call (.Name "isinstance" p) [x,.Name "tuple" p2] [] pos):=by
 intro A env ρ W fx σ s Q Z rm ew er S h
 have hp':[x,.Name "tuple" p2].any aR=false:=by rw[List.any_cons,hp];rfl
 refine Call_Name rfl (gu (v:= .builtin "isinstance") K S ew hk hg (by decide+kernel) (by decide) (callWith_builtin (dH hp') (cJ hp' ?_)) (by decide))
 rw[bn hp']
 refine spliced_cons (ha.then rm ew er S h (fun _ _ x=>x) fun q W' v s' l S' R er' h'=>so h' fun b e h'=>?_)
 refine spliced_cons (gu (v:= .type "tuple") K S' ew hk2 hg2 (by decide+kernel) (by decide) (spliced_nil ?_) (by decide))
 refine ug e (fun e=>ob e fun xs hx e=>?_) fun _ e=>ob e fun i hi e=>?_
 ·apply S'.tupV v R hx;intro a o vs k _
  exact IsiPair.tuple_tuple k.g k.q.1 (h' W' _ _ l S' (congrArg Value.bool (Option.some.inj e)))
 ·apply eV v R hi;intro t
  exact IsiPair.int_tuple (h' W' _ _ l S'.tok (congrArg Value.bool (Option.some.inj e)))
theorem D3{α:Type}{a b:α}{l m:List α}(h:a=b)(k:l=m):a::l=b::m:=congr (congrArg List.cons h) k
theorem repE{x y:V}{v:Value}(e:x=y)(R:bj prog w H W y v):bj prog w H W x v:=e▸R
theorem qY: ∀{ks:List Int} {xs:List V} {vs:List Value} {k:Int} {v:V} {val:Value},ar prog w H W xs vs→ks.length=xs.length→bj prog w H W v val→
  ∃vs',((ks.zip vs).map fun kv=>if kv.1=k then(kv.1,val) else kv)=ks.zip vs'∧ar prog w H W ((ks.zip xs).map fun p=>if p.1=k then v else p.2) vs'
 |[],_,_,_,_,_,_,_,_=>⟨[],rfl,ar.nil⟩
 |_::_,[],_,_,_,_,_,hl,_=>nomatch hl
 |j::ks,x::xs,vs,k,v,val,R,hl,Rv=>by
  apply cy vs R;intro u q p t
  refine aA (qY (k:=k) t (Nat.succ.inj hl) Rv) fun vs' e1 e2=>?_
  by_cases hk:j=k
  ·exact⟨val::vs',D3 (if_pos hk) e1,ar.cons (repE (if_pos hk) Rv) e2⟩
  ·exact⟨u::vs',D3 (if_neg hk) e1,ar.cons (repE (if_neg hk) p) e2⟩
theorem vp: ∀{ks:List Int} {vs:List Value} {k:Int},ks.length=vs.length→((ks.zip vs).any fun kv=>kv.1=k)=ks.contains k
 |[],_,_,_=>rfl
 |_::_,[],_,h=>nomatch h
 |j::ks,v::vs,k,h=>by
  rw[List.contains_cons,BEq.comm (a:=k)]
  exact congrArg (decide (j=k)|| ·) (vp (k:=k) (Nat.succ.inj h))
structure DV(prog:Program)(w:World)(H:bg)(W:Wd)(kvs:List (Int×Value))(d:List Int×List V)(vs:List Value):Prop where
 e:kvs=d.1.zip vs
 r:ar prog w H W d.2 vs
 l:d.1.length=d.2.length
theorem ml{ks:List Int}{xs:List V}{vs:List Value}{k:Int}{v:V}{val:Value}(R:ar prog w H W xs vs)(hl:ks.length=xs.length)(Rv:bj prog w H W v val):
  ∃vs',DV prog w H W (stored (ks.zip vs) k val) (bP ks xs k v) vs':=by
 have hlv:ks.length=vs.length:=hl.trans R.length.symm
 rw[stored,bP,vp hlv]
 by_cases hc:ks.contains k=true
 ·rw[if_pos hc,if_pos hc]
  exact aA (qY (k:=k) R hl Rv) fun vs' e1 e2=>⟨vs',e1,e2,by rw[List.length_map,List.length_zip,←hl,Nat.min_self]⟩
 ·rw[if_neg hc,if_neg hc]
  exact⟨vs++[val],(List.zip_append (r₁:=[k]) (r₂:=[val]) hlv).symm,R.append (ar.cons Rv ar.nil),by rw[List.length_append,List.length_append,hl];rfl⟩
theorem j6{ks:List Int}{xs:List V}{k:Int}{v:V}:(bP ks xs k v).2.length≤xs.length+1:=by
 rw[bP]
 by_cases hc:ks.contains k=true
 ·rw[if_pos hc,List.length_map,List.length_zip];exact Nat.le_succ_of_le (Nat.min_le_right ..)
 ·rw[if_neg hc,List.length_append];exact Nat.le_refl _
theorem nv: ∀{zs:List V} {d:List Int×List V} {vs:List (Value×Value)},cg zs=some d→ar prog w H W zs (vs.flatMap fun p=>[p.1,p.2])→
  ∃us,Carries (intKind prog w) vs (d.1.zip us)∧ar prog w H W d.2 us∧d.1.length=d.2.length
 |[],d,[],h,R=>Option.some.inj h▸⟨[],trivial,ar.nil,rfl⟩
 |[],d,_::_,h,R=>nomatch (R:_=_)
 |[_],_,_,h,R=>dA h
 |_::_::_,_,[],h,R=>cz R fun _ _ e _=>nomatch e
 |z::y::r,d,q::vs,h,R=>ob h fun k hk h=>ob h fun p hp h=>qH (ar.uncons R) fun Rk R=>qH (ar.uncons R) fun Ry R=>cf (nv hp R) fun us h1 h2 h3=>by
  obtain⟨kv,vv⟩:=q
  apply eV kv Rk hk;intro t
  rw[←Option.some.inj h]
  exact⟨vv::us,⟨fF k t,rfl,h1⟩,ar.cons Ry h2,congrArg Nat.succ h3⟩
noncomputable abbrev qm(d:List Int×List V)(ps:List (Int×V)):List Int×List V:=ps.foldl (fun(d:List Int×List V) q=>bP d.1 d.2 q.1 q.2) d
theorem pn: ∀{ks:List Int} {xs:List V} {us:List Value} {kvs:List (Int×Value)} {d:List Int×List V} {u0:List Value},ar prog w H W xs us→ks.length=xs.length→DV prog w H W kvs d u0→
  ∃vs',DV prog w H W (merged kvs (ks.zip us)) (qm d (ks.zip xs)) vs'∧(qm d (ks.zip xs)).2.length≤d.2.length+xs.length
 |[],xs,us,kvs,d,u0,R,hl,D=>⟨u0,D,Nat.le_add_right ..⟩
 |_::_,[],_,_,_,_,_,hl,_=>nomatch hl
 |k::ks,x::xs,us,kvs,d,u0,R,hl,D=>by
  apply cy us R;intro u q p t
  rw[D.e]
  refine cN (ml (k:=k) D.r D.l p) fun vs1 D1=>aA (pn (ks:=ks) (xs:=xs) t (Nat.succ.inj hl) D1) fun vs' D2 f=>⟨vs',D2,Nat.le_trans f ?_⟩
  exact Nat.le_trans (Nat.add_le_add_right j6 _) (Nat.le_of_eq (by rw[Nat.add_assoc,Nat.add_comm 1];rfl))
theorem aK.fresh_ne(K:aK H mg mb)(S:St prog w H W fx σ os s){a:Addr}(h:s.heap.objs.size≤a):(a==sysModules)=false:=cI K.lim fun _ mc e x y=>
 beq_eq_false_iff_ne.mpr fun ea=>absurd (Nat.lt_of_lt_of_le (Heap.lt_size (S.keepP _ _ (S.base _ _ e))) h) (by rw[ea];decide)
noncomputable def eg:Obj:={cls:= .type "dict",data:= .dict #[]}
theorem gC{l:List Value}:ck prog w eg (([]:List Int).zip l):=⟨⟨rfl,rfl,rfl⟩,#[],0,rfl,(fun e h=>absurd h (Array.not_mem_empty e)),.nil,List.nodup_nil⟩
theorem xj{pos:Pos}(K:aK H mg mb):SE prog w H os C call n X sc .dictM (.Dict [] [] pos):=fun A env ρ W fx σ s Q Z rm ew er S h=>
 have g:(s.heap.push eg).get? s.heap.objs.size=some eg:=Heap.get?_push_size _ rfl
 wpAny_Dict_empty (h _ _ _ Wd.le_more ((S.push eg).more (m:= .dict [] []) (S.fresh (Nat.le_refl _)) ⟨_,g⟩ ⟨_,[],g,gC,ar.nil,rfl,Nat.zero_le _,K.fresh_ne S (Nat.le_refl _)⟩) (Exists.intro _ ⟨rfl,Wd.more_at S.len⟩))
theorem Ct{pos:Pos}(K:aK H mg mb):SE prog w H os C call n X sc (.dict []) (.Dict [] [] pos):=fun A env ρ W fx σ s Q Z rm ew er S h=>
 have f:=S.fresh (Nat.le_refl s.heap.objs.size)
 wpAny_Dict_empty (h _ _ _ (Wd.le_fix f.P) ((S.push eg).fix f (Heap.get?_push_size _ rfl)) (Exists.intro _ (Exists.intro _ (Exists.intro [] ⟨rfl,Fz.add_self _ _ _,gC,ar.nil,rfl,Nat.zero_le _,K.fresh_ne S (Nat.le_refl _)⟩))))
variable(prog w H os C call n) in
noncomputable def SD(sc:Scope)(es:List Mine.E)(keys:List (Option Expr))(values:List Expr):Prop:=
 ∀(pos:Pos) (A:Around) (env:PySem.Env) (ρ:Env) (W:Wd) (fx:Fz) (σ:ah) (s:Shared) (Q:List (Value×Value)→Shared→Prop) (E:Value→Shared→Prop),
  bX A n→EnvW sc env→bo prog w H W fx sc env ρ→St prog w H W fx σ os s→
  (dB C call es ρ σ).sat (fun q=> ∀W' vs s',W.le W'→St prog w H W' fx q.2 os s'→ar prog w H W' q.1 (vs.flatMap fun p=>[p.1,p.2])→vs.length=keys.length→Q vs s') (fun _ _=>False)→
  wpAny (model prog w) A (evalPairs (pairTrees keys values env pos)) Q E s
theorem Ew:SD prog w H os C call n sc [] [] []:=fun pos A env ρ W fx σ s Q Z rm ew er S h=>evalPairs_nil (h W [] _ (.refl _) S ar.nil rfl)
theorem xf{a b:Mine.E}{es:List Mine.E}{x y:Expr}{ks:List (Option Expr)}{vs:List Expr}(ha:SE prog w H os C call n X sc a x)(hb:SE prog w H os C call n X sc b y)(hr:SD prog w H os C call n sc es ks vs):
  SD prog w H os C call n sc (a::b::es) (some x::ks) (y::vs):=by
 intro pos A env ρ W fx σ s Q Z rm ew er S h
 refine evalPairs_cons (ha.then rm ew er S h (fun _ _ x=>x.elim) fun q W1 v1 s1 l1 S1 R1 er1 h1=>?_)
 rw[ay.sat_bind] at h1
 refine wpAny_bind (hb.then rm ew er1 S1 h1 (fun _ _ x=>x.elim) fun q2 W2 v2 s2 l2 S2 R2 er2 h2=>wpAny_bind (wpAny_standAt (wpAny_pure ?_)))
 rw[ay.sat_bind] at h2
 exact hr pos A env ρ W2 fx q2.2 s2 _ Z rm ew er2 S2 (ay.sat_mono h2 (fun q3 h3 W3 vs s3 l3 S3 R3 e3=>h3 W3 ((v1,v2)::vs) s3 ((l1.trans l2).trans l3) S3 (ar.cons (R1.le (l2.trans l3)) (ar.cons (R2.le l3) R3)) (congrArg Nat.succ e3)) fun _ _ e=>e)
theorem Ey{es:List Mine.E}{keys:List (Option Expr)}{values:List Expr}{pos:Pos}(K:aK H mg mb)(hall:keys.all (·.isSome)=true)(hl:keys.length=values.length)(h0:keys≠[])(hlen:keys.length≤15)
  (h:SD prog w H os C call n sc es keys values):SE prog w H os C call n X sc (.dict es) (.Dict keys values pos):=by
 intro A env ρ W fx σ s Q Z rm ew er S hs
 have f:=S.fresh (Nat.le_refl s.heap.objs.size)
 refine wpAny_Dict_walk (knd:=intKind prog w) hall hl h0 hlen (h pos A env ρ W _ σ _ _ Z rm ew (er.le (.refl _) (Fz.le_add f.fx)) ((S.push eg).hold f (Heap.get?_push_size _ rfl)) (ay.sat_mono (ay.sat_calm.mp (ay.sat_bind.mp hs)) (fun q hq W' vs s' l S' R hvl=>?_) fun _ _ e=>e.elim))
 refine so hq fun d e hz=>cf (nv e R) fun us c1 c2 c3=>⟨d.1.zip us,c1,(gC (l:=[])).of (S'.keepF _ _ (Fz.add_self _ _ _)),fun h' hm hsame=>?_⟩
 have hxl:d.2.length≤15:=by
  have h1:=Carries.length c1
  rw[List.length_zip,c2.length,c3,Nat.min_self] at h1
  rw[h1,hvl];exact hlen
 refine aA (pn (d:=([],[])) (u0:=[]) c2 c3 ⟨rfl,ar.nil,rfl⟩) fun vs' D m4=>?_
 rw[show merged [] (d.1.zip us)=_ from D.e] at hm
 refine aA (ck.to hm) fun o' ho' hdo=>?_
 have S3:=((S'.swap (tk:=s'.toks+vs.length) (Fz.add_self _ _ _) (fun b x hb e=>(hsame.2 b hb).trans e) ho').settle (Fz.add_self _ _ _)).less (fx':=fx) fun b x e=>by
  have hb:b≠s.heap.objs.size:=fun q=>by rw[q,f.fx] at e;cases e
  exact(if_neg hb).trans ((Fz.add_ne _ _ hb).trans ((Fz.add_ne _ _ hb).trans e))
 have l2:W'.le (W'.fix s.heap.objs.size o'):=Wd.le_fix (S'.pf s.heap.objs.size eg (Fz.add_self _ _ _))
 exact hz _ _ _ (l.trans l2) S3 (Exists.intro _ (Exists.intro _ (Exists.intro vs' ⟨rfl,Fz.add_self _ _ _,hdo,D.r.le l2,D.l,Nat.le_trans m4 (Nat.le_trans (Nat.le_of_eq (Nat.zero_add _)) (Nat.le_trans hxl (by decide+kernel))),K.fresh_ne S (Nat.le_refl _)⟩)))
end
end Mine
end
section
namespace Mine
open PySem PySem.W PyProof.Rows PySem.SeqAt PySem.Calls
theorem ny{α0:Sort _}{α1:Sort _}{α2:Sort _}{A0:α0→α1→α2→Prop}{A1:α0→α1→α2→Prop}{A2:α0→α1→α2→Prop}{A3:α0→α1→α2→Prop}{A4:α0→α1→α2→Prop}{P:Prop}(h: ∃x0,∃x1,∃x2,A0 x0 x1 x2∧A1 x0 x1 x2∧A2 x0 x1 x2∧A3 x0 x1 x2∧A4 x0 x1 x2)(k: ∀x0,∀x1,∀x2,(A0 x0 x1 x2)→(A1 x0 x1 x2)→(A2 x0 x1 x2)→(A3 x0 x1 x2)→(A4 x0 x1 x2)→P):P:=h.elim fun a0 h1=>(h1).elim fun a1 h2=>(h2).elim fun a2 h3=>k a0 a1 a2 h3.1 h3.2.1 h3.2.2.1 h3.2.2.2.1 h3.2.2.2.2
structure c7(W:Wd)(fx0 fx:Fz)(sc:Scope)(env:PySem.Env):Prop where
 le: ∀a o,fx0 a=some o→fx a=some o
 loc:fx0 env.locals=none
 ns: ∃o m,fx env.locals=some o∧db o m
 cel: ∀x,sc.names.lookup x=some .cell→ ∃c o cv,env.cells.lookup x=some c∧fx c=some o∧o.data= .cell cv∧fx0 c=none∧c≠env.locals
 apart: ∀x y c,sc.names.lookup x=some .cell→sc.names.lookup y=some .cell→env.cells.lookup x=some c→env.cells.lookup y=some c→x=y
 fre: ∀x c,sc.names.lookup x=some .free→env.cells.lookup x=some c→fx0 c≠none∨W.P c≠none
section
variable{prog:Program}{w:World}{H:bg}{os:OsState}{C:Ctx}{call:aw}{n:Nat}{X:aH}
variable{A:Around}{W W':Wd}{fx fx0 fx':Fz}{Z:Value→Shared→Prop}{s:Shared}{σ:ah}{sc:Scope}{env:PySem.Env}{ρ:Env}
theorem c7.wd(o:c7 W fx0 fx sc env)(l:W.le W'):c7 W' fx0 fx sc env:=
 ⟨o.le,o.loc,o.ns,o.cel,o.apart,fun x c a b=>(o.fre x c a b).imp id fun h e=>by
  cases q:W.P c with
  |none=>exact h q
  |some ob=>rw[l.P _ _ q] at e;cases e⟩
theorem pE: ∀{ρ:Env} {x y:String} {v:V},aM (put ρ x v) y=if x=y then some v else aM ρ y
 |[],x,y,v=>rfl
 |(z,u)::r,x,y,v=>by
  show aM (if z=x then(x,v)::r else(z,u)::put r x v) y=if x=y then some v else if z=y then some u else aM r y
  by_cases hz:z=x
  ·rw[if_pos hz]
   show(if x=y then some v else aM r y)=_
   by_cases h:x=y
   ·rw[if_pos h,if_pos h]
   ·rw[if_neg h,if_neg h,if_neg (hz▸h)]
  ·rw[if_neg hz]
   show(if z=y then some u else aM (put r x v) y)=_
   rw[pE]
   by_cases h:z=y
   ·rw[if_pos h,if_pos h,if_neg fun e=>hz (h.trans e.symm)]
   ·rw[if_neg h,if_neg h]
theorem gj{ρ:Env}{x y:String}{v u:V}{P:Prop}(h:aM (put ρ x v) y=some u)(k1:x=y→v=u→P)(k2:x≠y→aM ρ y=some u→P):P:=by
 rw[pE] at h
 by_cases e:x=y
 ·rw[if_pos e] at h;exact k1 e (Option.some.inj h)
 ·rw[if_neg e] at h;exact k2 e h
theorem v9{y:String}{u:V}{val:Value}(R:bj prog w H W (gR y u) val):False:=jC R fun _ _ _ k=>nomatch k.l
theorem bo.seal_put{x:String}{v:V}{val:Value}(er:bo prog w H W fx sc env ρ)(R:bj prog w H W v val):bU sc.more≠none→ ∀y u,aM (put ρ x v) (eQ y)=some (gR y u)→sc.names.lookup (Str.ofString y)=some .free→
  ∃c o val,env.cells.lookup (Str.ofString y)=some c∧W.P c=some o∧o.data= .cell (some val)∧bj prog w H W u val:=fun hm y u e q=>
 gj e (fun _ e=>(v9 (e▸R)).elim) fun _ e=>er.sld hm y u e q
theorem ch{x y:String}(h:Str.ofString x=Str.ofString y):x=y:=by
 rw[Str.ofString_eq_toList,Str.ofString_eq_toList] at h
 exact String.toList_inj.mp ((List.map_inj_right (fun a b e=>Char.ext (UInt32.toNat_inj.mp e))).mp (show x.toList.map Char.toNat=y.toList.map Char.toNat from congrArg Array.toList (Str.mk.inj h)))
theorem c7.set(o:c7 W fx0 fx sc env){d:Addr}{o1:Obj}(hd:fx0 d=none)(hn: ∃o m,(fx.add d o1) env.locals=some o∧db o m)(hc:d≠env.locals→ ∃cv,o1.data= .cell cv):c7 W fx0 (fx.add d o1) sc env:=by
 refine⟨fun a q e=>(Fz.add_ne _ _ fun q'=>by rw[q',hd] at e;cases e).trans (o.le a q e),o.loc,hn,fun y hy=>ny (o.cel y hy) fun c oc cv c1 c2 c3 c4 c5=>?_,o.apart,o.fre⟩
 by_cases h:c=d
 ·exact cN (hc (h▸c5)) fun cv' e=>⟨c,o1,cv',c1,h▸Fz.add_self _ _ _,e,c4,c5⟩
 ·exact⟨c,oc,cv,c1,(Fz.add_ne _ _ h).trans c2,c3,c4,c5⟩
theorem j5{x:String}{v:V}{val:Value}{Q:Unit→Shared→Prop}(ew:EnvW sc env)(o:c7 W fx0 fx sc env)(er:bo prog w H W fx sc env ρ)(S:St prog w H W fx σ os s)(R:bj prog w H W v val)
  (hk:sc.names.lookup (Str.ofString x)=some .local∨sc.names.lookup (Str.ofString x)=some .cell)
  (h: ∀fx' h' tk,c7 W fx0 fx' sc env→bo prog w H W fx' sc env (put ρ x v)→St prog w H W fx' σ os {s with heap:=h',toks:=tk}→Q () {s with heap:=h',toks:=tk}):
  wpAny (model prog w) A (storeName env (Str.ofString x) val) Q Z s:=by
 refine cI er.loc fun ob m e1 e2 e3=>?_
 rcases hk with hk|hk
 ·refine wpAny_storeName_local (ew.kinds _ _ hk (by decide)) (e2.ns (S.keepF _ _ e1)) (fun h' hn hs=>aA (db.of_ns hn) fun ob' hob hns=>?_) (by rw[ew.kind];rfl)
  have neL: ∀{c oc cv},fx c=some oc∨W.P c=some oc→oc.data= .cell cv→c≠env.locals:=fun{c oc cv} hc hd q=>by
   rw[q] at hc
   rcases hc with hc|hc
   ·rw[Option.some.inj (e1.symm.trans hc)] at e2
    exact cz e2 fun _ _ e _=>nomatch hd.symm.trans e
   ·rw[S.pf _ _ e1] at hc;cases hc
  refine h _ h' _ (o.set o.loc ⟨ob',_,Fz.add_self _ _ _,hns⟩ fun ne=>absurd rfl ne) ⟨⟨ob',_,Fz.add_self _ _ _,hns,fun y u e hy=>?_⟩,fun y u e hy=>?_,fun y hy=>?_,er.seal_put R⟩ (S.swap (tk:=s.toks+1) e1 (fun b y hb e=>(hs.2 b hb).trans e) hob)
  ·refine gj e (fun hxy eu=>?_) fun hxy e=>?_
   ·exact⟨val,if_pos (congrArg Str.ofString hxy.symm),eu▸R⟩
   ·exact aA (e3 y u e hy) fun val' g1 g2=>⟨val',(if_neg fun q=>hxy (ch q).symm).trans g1,g2⟩
  ·refine gj e (fun hxy _=>?_) fun hxy e=>?_
   ·rw[←hxy,hk] at hy
    exact hy.elim (fun e=>nomatch e) fun e=>nomatch e
   ·exact gq (er.cel y u e hy) fun c oc cv c1 c2 c3 c4=>⟨c,oc,cv,c1,c2.imp (fun e=>(Fz.add_ne _ _ (neL c2 c3)).trans e) id,c3,c4⟩
  ·exact jV (er.cin y hy) fun c oc cv c1 c2 c3=>⟨c,oc,cv,c1,c2.imp (fun e=>(Fz.add_ne _ _ (neL c2 c3)).trans e) id,c3⟩
 ·refine ny (o.cel _ hk) fun c oc cv c1 c2 c3 c4 c5=>wpAny_storeName_cell ew.kind (ew.kinds _ _ hk (by decide)) c1 (v₀:=cv) ⟨oc,S.keepF _ _ c2,c3⟩ fun h' hc hs=>aA hc fun oc' hoc hdc=>?_
  have hl:=(Fz.add_ne fx oc' (Ne.symm c5)).trans e1
  refine h _ h' _ (o.set c4 ⟨ob,m,hl,e2⟩ fun _=>⟨_,hdc⟩) ⟨⟨ob,m,hl,e2,fun y u e hy=>?_⟩,fun y u e hy=>?_,fun y hy=>?_,er.seal_put R⟩ (S.swap (tk:=s.toks) c2 (fun b y hb e=>(hs.2 b hb).trans e) hoc)
  ·refine gj e (fun hxy _=>?_) fun hxy e=>e3 y u e hy
   rw[←hxy,hk] at hy;cases hy
  ·refine gj e (fun hxy eu=>?_) fun hxy e=>gq (er.cel y u e hy) fun c' oc2 cv2 d1 d2 d3 d4=>?_
   ·exact⟨c,oc',val,hxy▸c1,.inl (Fz.add_self _ _ _),hdc,eu▸R⟩
   ·have hne:c'≠c:=fun q=>hy.elim (fun hy=>hxy (ch (o.apart _ _ _ hk hy c1 (q▸d1)))) fun hy=>(o.fre _ _ hy d1).elim (fun hc=>hc (q▸c4)) fun hc=>hc (q▸S.pf _ _ c2)
    exact⟨c',oc2,cv2,d1,d2.imp (fun e=>(Fz.add_ne _ _ hne).trans e) id,d3,d4⟩
  ·refine jV (er.cin y hy) fun c' oc2 cv2 d1 d2 d3=>?_
   by_cases hcc:c'=c
   ·exact⟨c',oc',_,d1,.inl (hcc▸Fz.add_self _ _ _),hdc⟩
   ·exact⟨c',oc2,cv2,d1,d2.imp (fun e=>(Fz.add_ne _ _ hcc).trans e) id,d3⟩
theorem nM{x:String}{v:V}{val:Value}{pos:Pos}{Q:Unit→Shared→Prop}(ew:EnvW sc env)(o:c7 W fx0 fx sc env)(er:bo prog w H W fx sc env ρ)(S:St prog w H W fx σ os s)(R:bj prog w H W v val)
  (hk:sc.names.lookup (Str.ofString x)=some .local∨sc.names.lookup (Str.ofString x)=some .cell)
  (h: ∀fx' h' tk,c7 W fx0 fx' sc env→bo prog w H W fx' sc env (put ρ x v)→St prog w H W fx' σ os {s with heap:=h',toks:=tk}→Q () {s with heap:=h',toks:=tk}):
  wpAny (model prog w) A (assign (.Name (Str.ofString x) pos) env val) Q Z s:=PyProof.Rows.assign_Name (j5 ew o er S R hk h)
end
end Mine
end
section
namespace Mine
open PySem PySem.W PyProof.Rows PySem.SeqAt PySem.Calls
noncomputable def CQ:Option NameKind→Bool
 |some .local=>true
 |some .cell=>true
 |_=>false
noncomputable def cV(sc:Scope)(y:PySem.Str):Bool:=CQ (sc.names.lookup y)
theorem eP{sc:Scope}{y:PySem.Str}(h:cV sc y=true):sc.names.lookup y=some .local∨sc.names.lookup y=some .cell:=by
 unfold cV at h
 generalize sc.names.lookup y=k at h
 cases k with
 |none=>cases h
 |some k=>cases k<;>first|exact .inl rfl|exact .inr rfl|cases h
noncomputable def El:Expr→Option (PySem.Str⊕List Expr)
 | .Name y _=>some (.inl y)
 | .Tuple es _ _=>some (.inr es)
 |_=>none
theorem oB{P:Expr→PySem.Str⊕List Expr→Prop}(k1: ∀y p,P (.Name y p) (.inl y))(k2: ∀es k p,P (.Tuple es k p) (.inr es)){e:Expr}{z:PySem.Str⊕List Expr}(h:El e=some z):P e z:=by
 cases e<;>first|exact dA h|exact Option.some.inj h▸k1 .. |exact Option.some.inj h▸k2 ..
noncomputable def DN(e:Expr):Option PySem.Str:=(El e).bind Sum.getLeft?
noncomputable def B9(e:Expr):Option (List Expr):=(El e).bind Sum.getRight?
theorem ur{e:Expr}{y:PySem.Str}(h:DN e=some y): ∃p,e= .Name y p:=ob h fun z hz h=>by
 revert h
 exact oB (P:=fun e z=>Sum.getLeft? z=some y→ ∃p,e= .Name y p) (fun y p h=>⟨p,Option.some.inj h▸rfl⟩) (fun _ _ _ h=>dA h) hz
theorem wU{e:Expr}{es:List Expr}(h:B9 e=some es): ∃k p,e= .Tuple es k p:=ob h fun z hz h=>by
 revert h
 exact oB (P:=fun e z=>Sum.getRight? z=some es→ ∃k p,e= .Tuple es k p) (fun _ _ h=>dA h) (fun es k p h=>⟨k,p,Option.some.inj h▸rfl⟩) hz
mutual
noncomputable def nR(sc:Scope):T→Expr→Bool
 | .name x,e=>(DN e).any fun y=>y==Str.ofString x&&cV sc y
 | .tup ts,e=>(B9 e).any (oz sc ts)
noncomputable def oz(sc:Scope):List T→List Expr→Bool
 |[],es=>es.isEmpty
 |t::ts,es=>match es with
  |[]=>false
  |e::es=>nR sc t e&&oz sc ts es
end
theorem y9{α:Type}{o:Option α}{f:α→Bool}{P:Prop}(h:o.any f=true)(k: ∀a,o=some a→f a=true→P):P:=match o,h with
 |some a,h=>k a rfl h
theorem aY{a b:Bool}{P:Prop}(h:(a&&b)=true)(k:a=true→b=true→P):P:=match a,h with
 |true,h=>k rfl h
theorem oC{sc:Scope}{t:T}{P:Expr→Prop}(e:Expr)(h:nR sc t e=true)(k1: ∀x p,t= .name x→cV sc (Str.ofString x)=true→P (.Name (Str.ofString x) p))(k2: ∀ts es k p,t= .tup ts→oz sc ts es=true→P (.Tuple es k p)):P e:=by
 cases t with
 |name x=>exact y9 h fun y hy h=>aY h fun e1 h=>cN (ur hy) fun p e=>e▸eq_of_beq e1▸k1 x p rfl (eq_of_beq e1▸h)
 |tup ts=>exact y9 h fun es hy h=>qt (wU hy) fun k p e=>e▸k2 ts es k p rfl h
theorem e6{sc:Scope}{t:T}{e:Expr}{es:List Expr}{env:PySem.Env}(h:nR sc t e=true):assignEach (e::es) env=(false,assign e env)::assignEach es env:=by
 apply oC e h<;>intros<;>rfl
theorem j4{sc:Scope}{env:PySem.Env}: ∀{ts:List T} {es:List Expr},oz sc ts es=true→(assignEach es env).length=ts.length∧(assignEach es env).findIdx? (·.1)=none
 |[],[],_=>⟨rfl,rfl⟩
 |[],_::_,h=>nomatch (h:false=true)
 |_::_,[],h=>nomatch (h:false=true)
 |t::ts,e::es,h=>aY h fun h1 h2=>by
  refine qH (j4 (env:=env) h2) fun a b=>?_
  rw[e6 h1,List.findIdx?_cons,b]
  exact⟨congrArg Nat.succ a,rfl⟩
section
variable{prog:Program}{w:World}{H:bg}{os:OsState}{C:Ctx}{call:aw}{n:Nat}{X:aH}
variable{A:Around}{W W':Wd}{fx fx0 fx':Fz}{Z:Value→Shared→Prop}{s:Shared}{σ:ah}{sc:Scope}{env:PySem.Env}{ρ:Env}
theorem lH{h h':Heap}(hx:Heap.ExtBut h.objs.size h h'): ∀b o,h.get? b=some o→h'.get? b=some o:=fun b o e=>hx b o (fun q=>absurd (Heap.lt_size e) (q▸Nat.lt_irrefl _)) e
theorem vP{a:Addr}{o:Obj}{c:String}{vs:List Value}{targets:List (Bool×(Value→Sem Unit))}{Q:Unit→Shared→Prop}(hh:A.handled=none)(ho:s.heap.get? a=some o)(x:br c o vs)(hc:c= "tuple" ∨c= "list")
  (hn:targets.length=vs.length)(hstar:targets.findIdx? (·.1)=none)
  (h: ∀h',(∀b o,s.heap.get? b=some o→h'.get? b=some o)→wpAny (model prog w) A (assignInOrder (targets.map (·.2)) vs) Q Z {s with heap:=h'}):
  wpAny (model prog w) A (unpack (.ref a) targets) Q Z s:=by
 unfold unpack
 rw[hn,hstar]
 refine wpAny_bind (wpAny_holding ?_)
 rcases hc with rfl|rfl
 ·exact wpAny_unpackItems_tuple (items:=vs.toArray) hh (x.isTuple ho) fun h' hx=>h h' (lH hx)
 ·exact kun_itemsOf (items:=vs.toArray) hh (x.isList ho) fun h' hx=>h h' (lH hx)
theorem ud{ρ a b:Env}:dK ρ (a++b)=dK (dK ρ a) b:=List.foldl_append ..
theorem gU: ∀{ts:List T} {vs:List V} {b:Env},mQ ts vs=some b→ts.length=vs.length
 |[],[],_,_=>rfl
 |[],_::_,_,h=>dA h
 |_::_,[],_,h=>dA h
 |t::ts,v::vs,b,h=>ob h fun _ _ h=>ob h fun _ e2 _=>congrArg Nat.succ (gU e2)
theorem St.seqW(S:St prog w H W fx σ os s){x:V}{xs:List V}(v:Value)(R:bj prog w H W x v)(e:Mine.seqV x=some xs){P:Value→Prop}(k: ∀a o vs c,SeqAt prog w H W s c xs a o vs→(c= "tuple" ∨c= "list")→W.P a=some o→P (.ref a)):P v:=by
 refine ug e (fun e=>?_) fun _ e=>?_
 ·apply S.tupV v R e;intro a o vs q p;exact k a o vs _ q (.inl rfl) p
 ·rw[mE e] at R
  exact jC R fun a o vs y=>Eq.subst (motive:=P) y.e.symm (k a o vs _ ⟨S.keepP _ _ y.p,y.q,y.r,y.n⟩ (.inr rfl) y.p)
noncomputable abbrev vB(prog:Program)(w:World)(H:bg)(os:OsState)(W:Wd)(fx0:Fz)(σ:ah)(sc:Scope)(env:PySem.Env)(ρ:Env)(s:Shared)(Q:Unit→Shared→Prop):Prop:=
 ∀fx' h' tk,c7 W fx0 fx' sc env→bo prog w H W fx' sc env ρ→St prog w H W fx' σ os {s with heap:=h',toks:=tk}→Q () {s with heap:=h',toks:=tk}
mutual
theorem qj: ∀(t:T) {e:Expr} {v:V} {val:Value} {b:Env} {fx:Fz} {ρ:Env} {s:Shared} {Q:Unit→Shared→Prop},nR sc t e=true→dU t v=some b→A.handled=none→EnvW sc env→c7 W fx0 fx sc env→
  bo prog w H W fx sc env ρ→St prog w H W fx σ os s→bj prog w H W v val→vB prog w H os W fx0 σ sc env (dK ρ b) s Q→wpAny (model prog w) A (assign e env val) Q Z s
 | .name x,e,v,val,b,fx,ρ,s,Q,ht,hb,hh,ew,o,er,S,R,h=>y9 ht fun y hy ht=>aY ht fun e1 hk=>cN (ur hy) fun p ee=>by
  rw[ee,eq_of_beq e1]
  rw[eq_of_beq e1] at hk
  rw[←Option.some.inj hb] at h
  exact nM ew o er S R (eP hk) h
 | .tup ts,e,v,val,b,fx,ρ,s,Q,ht,hb,hh,ew,o,er,S,R,h=>y9 ht fun es hy ht=>qt (wU hy) fun k p ee=>ob hb fun xs hx hb=>qH (j4 (env:=env) ht) fun f1 f2=>by
  apply S.seqW val R hx;intro a ob vs c k hc _
  rw[ee,PyProof.Rows.assign_Tuple]
  exact wpAny_bind (wpAny_standAt (vP hh k.g k.q hc (by rw[f1,gU hb,k.r.length]) f2 fun h' hx=>mR ts ht hb hh ew o er (S.ext (tk:=s.toks) hx) k.r h))
theorem mR: ∀(ts:List T) {es:List Expr} {vs:List V} {vals:List Value} {b:Env} {fx:Fz} {ρ:Env} {s:Shared} {Q:Unit→Shared→Prop},oz sc ts es=true→mQ ts vs=some b→A.handled=none→EnvW sc env→c7 W fx0 fx sc env→
  bo prog w H W fx sc env ρ→St prog w H W fx σ os s→ar prog w H W vs vals→vB prog w H os W fx0 σ sc env (dK ρ b) s Q→
  wpAny (model prog w) A (assignInOrder ((assignEach es env).map (·.2)) vals) Q Z s
 |[],[],[],vals,b,fx,ρ,s,Q,ht,hb,hh,ew,o,er,S,R,h=>wpAny_pure (h fx s.heap s.toks o ((Option.some.inj hb)▸er) S)
 |[],[],_::_,_,_,_,_,_,_,_,hb,_,_,_,_,_,_,_=>dA hb
 |[],_::_,_,_,_,_,_,_,_,ht,_,_,_,_,_,_,_,_=>nomatch (ht:false=true)
 |_::_,[],_,_,_,_,_,_,_,ht,_,_,_,_,_,_,_,_=>nomatch (ht:false=true)
 |_::_,_::_,[],_,_,_,_,_,_,_,hb,_,_,_,_,_,_,_=>dA hb
 |t::ts,e::es,v::vs,vals,b,fx,ρ,s,Q,ht,hb,hh,ew,o,er,S,R,h=>aY ht fun h1 h2=>ob hb fun b1 e1 hb=>ob hb fun b2 e2 hb=>by
  apply cy vals R;intro val q p tl
  rw[e6 h1]
  rw[←Option.some.inj hb,ud] at h
  exact wpAny_bind (wpAny_holding (qj t h1 e1 hh ew o er S p fun fx' h' tk o' er' S'=>mR ts h2 e2 hh ew o' er' S' tl h))
end
end
end Mine
end
section
namespace Mine
open PySem PySem.W PyProof.Rows PySem.SeqAt PySem.Calls
noncomputable def mM:Expr→Option (Scope×Pos)
 | .ListComp _ _ s p=>some (s,p)
 | .SetComp _ _ s p=>some (s,p)
 | .DictComp _ _ _ s p=>some (s,p)
 |_=>none
noncomputable def sL(e:Expr):Bool:=(mM e).isSome
theorem iU{value:Expr}{t:Option Expr}{l:Nat}{env:PySem.Env}(h:sL value=false):swapsWith value t l env=pure false:=by
 cases value<;>first|rfl|cases h
theorem oF{value:Expr}{ts:List Expr}{k:Nat}{p:Pos}{l:Nat}{env:PySem.Env}:swapsWithSole [.Tuple ts k p] value l env=pure false:=by
 cases value<;>rfl
noncomputable def vS(sc:Scope)(t:PySem.Str)(pos vpos:Pos)(s:Scope):Bool:=sc.names.lookup t==some .local&&pos.line==vpos.line&&!(s.names.any fun(n,k)=>n==t&&(k== .local||k== .cell))
noncomputable def nX(loc:PySem.Str→Bool)(line:Nat)(ts:List Expr):List PySem.Str:=ts.filterMap fun
  | .Name id pos=>if loc id&&pos.line==line then some id else none
  |_=>none
noncomputable def swL(loc:PySem.Str→Bool)(ts vs:List Expr):Option (Option (List PySem.Str)):=
 if !(ts.length==2||ts.length==3)||vs.length !=ts.length then some none else
 if vs.any (fun| .Starred .. =>true|_=>false) then some none else
 if(nX loc ((ts.head?.map (·.pos.line)).getD 0) ts).length !=ts.length||(nX loc ((ts.head?.map (·.pos.line)).getD 0) ts).eraseDups.length !=(nX loc ((ts.head?.map (·.pos.line)).getD 0) ts).length then some none else
 if vs.all (foldedForSure 8) then some none else
 if vs.all (constantsAlone 8) then none else some (some (nX loc ((ts.head?.map (·.pos.line)).getD 0) ts))
noncomputable def swS(sc:Scope)(ts vs:List Expr):Option (Option (List PySem.Str)):=swL (fun x=>sc.names.lookup x==some .local) ts vs
theorem vm{sc:Scope}{env:PySem.Env}(ew:EnvW sc env):env.blockKind= .function:=by
 unfold Env.blockKind
 rw[ew.kind];rfl
theorem y8{α:Type}{c:Prop} [Decidable c]{a b r:α}{P:Prop}(h:(if c then a else b)=r)(k1:c→a=r→P)(k2: ¬c→b=r→P):P:=by
 by_cases hc:c
 ·rw[if_pos hc] at h;exact k1 hc h
 ·rw[if_neg hc] at h;exact k2 hc h
theorem pr{α:Type}{a b:α}{g:Sem α}(h:some a=some b)(e:g=pure a):g=pure b:=by rw[e,Option.some.inj h]
theorem Eo{env:PySem.Env}{ts vs:List Expr}{k k2:Nat}{p p2:Pos}{r:Option (List PySem.Str)}(eb:env.blockKind= .function)(h:swL (fun x=>env.kindOf x==some .local) ts vs=some r):
  swappedStores [.Tuple ts k p] (.Tuple vs k2 p2) env=pure r:=by
 have e1: ∀b:Bool,(b||env.blockKind != .function)=b:=fun b=>by rw[eb];exact Bool.or_false b
 show(if _ then _ else _)=_
 refine y8 h (fun c h=>pr h (if_pos ((e1 _).trans c))) fun c h=>(if_neg fun q=>c ((e1 _).symm.trans q)).trans ?_
 refine y8 h (fun c h=>pr h (if_pos c)) fun c h=>(if_neg c).trans ?_
 refine y8 h (fun c h=>pr h (if_pos c)) fun c h=>(if_neg c).trans ?_
 refine y8 h (fun c h=>pr h (if_pos c)) fun c h=>(if_neg c).trans ?_
 exact y8 h (fun c h=>dA h) fun c h=>pr h (if_neg c)
theorem zU{sc:Scope}{env:PySem.Env}{ts vs:List Expr}{k k2:Nat}{p p2:Pos}{r:Option (List PySem.Str)}(ew:EnvW sc env)(hs: ∀x,(env.scope.names.lookup x==some .local)=(sc.names.lookup x==some .local))(h:swS sc ts vs=some r):
  swappedStores [.Tuple ts k p] (.Tuple vs k2 p2) env=pure r:=Eo (vm ew) ((congrArg (fun f=>swL f ts vs) (funext hs)).trans h)
theorem tP{value:Expr}{ts:List Expr}{k:Nat}{p:Pos}{env:PySem.Env}(h:(B9 value).isSome=false):swappedStores [.Tuple ts k p] value env=pure none:=by
 cases value<;>first|rfl|cases h
theorem rU{value:Expr}{x:PySem.Str}{p:Pos}{env:PySem.Env}:swappedStores [.Name x p] value env=pure none:=by
 cases value<;>rfl
end Mine
end
section
namespace Mine
open PySem PySem.W PyProof.Rows PySem.SeqAt PySem.Calls
structure mV(sc:Scope)(env:PySem.Env):Prop extends EnvW sc env where
 scope: ∀x,(env.scope.names.lookup x==some .local)=(sc.names.lookup x==some .local)
section
variable(prog:Program)(w:World)(H:bg)(os:OsState)(C:Ctx)(call:aw)(n k:Nat)(X:aH)
noncomputable def lY(A:Around)(W:Wd)(fx0:Fz)(sc:Scope)(env:PySem.Env)(Q:Flow→Shared→Prop)(q:Fl×Env×ah):Prop:=
 ∀W' fx' s',W.le W'→c7 W' fx0 fx' sc env→bo prog w H W' fx' sc env q.2.1→St prog w H W' fx' q.2.2 os s'→
  match q.1 with
  | .next=>Q .next s'
  | .ret v=> ∀val,bj prog w H W' v val→Q (.ret val) s'
noncomputable def SS(sc:Scope)(b:S)(x:Stmt):Prop:=
 ∀(A:Around) (env:PySem.Env) (ρ:Env) (W:Wd) (fx0 fx:Fz) (σ:ah) (s:Shared) (Q:Flow→Shared→Prop) (E:Value→Shared→Prop),
  bX A n→mV sc env→c7 W fx0 fx sc env→bo prog w H W fx sc env ρ→St prog w H W fx σ os s→
  (vG C call k b ρ σ).sat (lY prog w H os A W fx0 sc env Q) (cF X A W fx0 E)→wpAny (model prog w) A (exec x env) Q E s
noncomputable def SB(sc:Scope)(b:List S)(x:List Stmt):Prop:=
 ∀(A:Around) (env:PySem.Env) (ρ:Env) (W:Wd) (fx0 fx:Fz) (σ:ah) (s:Shared) (Q:Flow→Shared→Prop) (E:Value→Shared→Prop),
  bX A n→mV sc env→c7 W fx0 fx sc env→bo prog w H W fx sc env ρ→St prog w H W fx σ os s→
  (bk C call k b ρ σ).sat (lY prog w H os A W fx0 sc env Q) (cF X A W fx0 E)→wpAny (model prog w) A (execs x env) Q E s
end
section
variable{prog:Program}{w:World}{H:bg}{os:OsState}{C:Ctx}{call:aw}{n k:Nat}{X:aH}
variable{A:Around}{W W':Wd}{fx fx0 fx':Fz}{Z:Value→Shared→Prop}{s:Shared}{σ:ah}{sc:Scope}{env:PySem.Env}{ρ:Env}
variable{mg mb:PySem.Str→Option Value}
theorem lY.le{Q:Flow→Shared→Prop}{q:Fl×Env×ah}(l:W.le W')(h:lY prog w H os A W fx0 sc env Q q):lY prog w H os A W' fx0 sc env Q q:=fun W'' fx' s' a b c d=>h W'' fx' s' (l.trans a) b c d
theorem cF.up{m:List Nat}{σ:ah}(l:fx0.le fx)(h:cF X A W fx0 Z m σ):cF X A W fx Z m σ:=fun W' e s' hp=>h W' e s' (X.less l hp)
theorem aD:SB prog w H os C call n k X sc [] []:=by
 intro A env ρ W fx0 fx σ s Q Z rm ew o er S h
 exact wpAny_execs_nil (h W fx s (.refl _) o er S)
theorem ifB{b:Bool}{P Q:Prop}(h1:b=true→P)(h2:b=false→Q):if b=true then P else Q:=by
 cases b
 ·exact h2 rfl
 ·exact h1 rfl
theorem sT{α:Type}{b:Bool}{x y:ay α}{Qp:α→Prop}{Qx:List Nat→ah→Prop}(e:b=true)(h:(if b=true then x else y).sat Qp Qx):x.sat Qp Qx:=by rwa[if_pos e] at h
theorem sF{α:Type}{b:Bool}{x y:ay α}{Qp:α→Prop}{Qx:List Nat→ah→Prop}(e:b=false)(h:(if b=true then x else y).sat Qp Qx):y.sat Qp Qx:=by
 rw[e] at h;exact h
theorem flE{f:Fl}{P:Prop}{R:V→Prop}(h1:f= .next→P)(h2: ∀v,f= .ret v→R v):(match(generalizing:=false) f with| .next=>P| .ret v=>R v):=by
 cases f with
 |next=>exact h1 rfl
 |ret v=>exact h2 v rfl
theorem flN{α:Type}{f:Fl}{x:ay α}{y:V→ay α}{Qp:α→Prop}{Qx:List Nat→ah→Prop}(e:f= .next)(h:(match(generalizing:=false) f with| .next=>x| .ret v=>y v).sat Qp Qx):x.sat Qp Qx:=by
 rw[e] at h;exact h
theorem flR{α:Type}{f:Fl}{v:V}{x:ay α}{y:V→ay α}{Qp:α→Prop}{Qx:List Nat→ah→Prop}(e:f= .ret v)(h:(match(generalizing:=false) f with| .next=>x| .ret v=>y v).sat Qp Qx):(y v).sat Qp Qx:=by
 rw[e] at h;exact h
theorem ao{b:S}{x:Stmt}{bs:List S}{xs:List Stmt}(h1:SS prog w H os C call n k X sc b x)(h2:SB prog w H os C call n k X sc bs xs):SB prog w H os C call n k X sc (b::bs) (x::xs):=by
 intro A env ρ W fx0 fx σ s Q Z rm ew o er S h
 exact wpAny_execs_cons (h1 A env ρ W fx0 fx σ s _ Z rm ew o er S (ay.sat_mono (ay.sat_bind.mp h) (fun q hq W' fx' s' l o' er' S'=>flE (fun e=>h2 A env q.2.1 W' fx0 fx' q.2.2 s' Q Z rm ew o' er' S' (ay.sat_mono (flN e hq) (fun _ e=>e.le l) fun _ _ e=>e.le l)) fun v e val R=>flR e hq W' fx' s' l o' er' S' val R) fun _ _ e=>e))
theorem dY{c:Mine.E}{a b:List S}{x:Expr}{xs ys:List Stmt}{pos:Pos}(hc:ST prog w H os C call n X sc c x)(ha:SB prog w H os C call n k X sc a xs)(hb:SB prog w H os C call n k X sc b ys):
  SS prog w H os C call n k X sc (.iff c a b) (.If x xs ys pos):=by
 intro A env ρ W fx0 fx σ s Q Z rm ew o er S h
 exact wpAny_If (hc A env ρ W fx σ s _ Z rm ew.toEnvW er S (ay.sat_mono (ay.sat_bind.mp h) (fun q hq W' s' l S'=>ifB (fun e=>ha A env ρ W' fx0 fx q.2 s' Q Z rm ew (o.wd l) (er.le l fun _ _ e=>e) S' (ay.sat_mono (sT e hq) (fun _ e=>e.le l) fun _ _ e=>e.le l))
  fun e=>hb A env ρ W' fx0 fx q.2 s' Q Z rm ew (o.wd l) (er.le l fun _ _ e=>e) S' (ay.sat_mono (sF e hq) (fun _ e=>e.le l) fun _ _ e=>e.le l)) fun _ _ e=>e.up o.le))
theorem b9{e:Mine.E}{x:Expr}{pos:Pos}(he:SE prog w H os C call n X sc e x):SS prog w H os C call n k X sc (.ret e) (.Return (some x) pos):=by
 intro A env ρ W fx0 fx σ s Q Z rm ew o er S h
 exact wpAny_Return_some (he.then rm ew.toEnvW er S h (fun _ _ e=>e.up o.le) fun q W' val s' l S' R er' hq=>hq W' fx s' l (o.wd l) er' S' val R)
theorem t8{e:Mine.E}{x:Expr}{pos:Pos}(hn:sL x=false)(he:SE prog w H os C call n X sc e x):SS prog w H os C call n k X sc (.ex e) (.Expr x pos):=by
 intro A env ρ W fx0 fx σ s Q Z rm ew o er S h
 refine wpAny_Expr (he.then rm ew.toEnvW er S h (fun _ _ e=>e.up o.le) fun q W' val s' l S' R er' hq=>so hq fun _ hv hq=>?_) (by unfold interactive;rw[ew.kind];rfl) (iU hn)
 rw[oY hv] at R
 rw[show val= .none from R]
 exact hq W' fx s' l (o.wd l) er' S'
theorem wD{t:T}{e:Expr}(h:nR sc t e=true)(v:Value):assignAll v ((assignEach [e] env).map (·.2))=assign e env v:=by
 rw[e6 h];rfl
theorem xl{t:T}{e:Mine.E}{x y:Expr}{pos:Pos}(ht:nR sc t x=true)(hs: ∀env,mV sc env→swapsWithSole [x] y pos.line env=pure false)(hw: ∀env,mV sc env→swappedStores [x] y env=pure none)
  (he:SE prog w H os C call n X sc e y):SS prog w H os C call n k X sc (.asg t e) (.Assign [x] y pos):=by
 intro A env ρ W fx0 fx σ s Q Z rm ew o er S h
 refine wpAny_Assign_stores (he.then rm ew.toEnvW er S h (fun _ _ e=>e.up o.le) fun q W' val s' l S' R er' hq=>so hq fun b hb hq=>?_) (hs env ew) (hw env ew)
 rw[wD ht]
 exact qj t ht hb rm.h ew.toEnvW (o.wd l) er' S' R fun fx' h' tk o2 er2 S2=>hq W' fx' _ l o2 er2 S2
theorem bo.congr{ρ':Env}(er:bo prog w H W fx sc env ρ)(h: ∀x,aM ρ x=aM ρ' x):bo prog w H W fx sc env ρ':=
 ⟨cI er.loc fun o m a b c=>⟨o,m,a,b,fun x v e=>c x v ((h x).trans e)⟩,fun x v e=>er.cel x v ((h x).trans e),er.cin,fun hm y v e=>er.sld hm y v ((h _).trans e)⟩
theorem St.setDict{v:V}{val vx:Value}{r:Nat}{d:List Int×List V}{j:Int}{t:Tok}{Q:Unit→Shared→Prop}(S:St prog w H W fx σ os s)(R:bj prog w H W (.ref r) vx)(e:Bo σ r=some d)(hlt:d.1.length<cP)(Rv:bj prog w H W v val)
  (h: ∀h' tk,St prog w H W fx (σ.set r (.dict (bP d.1 d.2 j v).1 (bP d.1 d.2 j v).2)) os {s with heap:=h',toks:=tk}→Q () {s with heap:=h',toks:=tk}):wpAny (model prog w) A (setItem vx (.int j t) val) Q Z s:=by
 refine aA R fun a ea ha=>rh (S.mo r a _ ha (sW e)) fun ob us k1 k2 k3 k4 k5 k6=>?_
 rw[ea]
 refine wpAny_setItem_pairs (knd:=intKind prog w) (fF j t) (k2.of k1) (fun h' hm hsame=>cN (ml (k:=j) k3 k4 Rv) fun us' D=>?_) (by rw[List.length_zip,k3.length,k4,Nat.min_self];exact bM k5)
 rw[D.e] at hm
 exact aA (ck.to hm) fun ob' ho' hd'=>h h' _ (S.upd (m:= .dict _ _) (tk:=s.toks+1) ha (sW e) rfl (fun b x hb e=>(hsame.2 b hb).trans e) ⟨_,ho'⟩ ⟨ob',us',ho',hd',D.r,D.l,Nat.le_trans j6 (k4▸hlt),k6⟩)
theorem Es{α:Type}{c:Prop} [Decidable c]{a:ay α}{Qp:α→Prop}{Qx:List Nat→ah→Prop}{P:Prop}(h:(if c then a else .stuck).sat Qp Qx)(k:c→a.sat Qp Qx→P):P:=by
 by_cases hc:c
 ·rw[if_pos hc] at h;exact k hc h
 ·rw[if_neg hc] at h;exact h.elim
theorem kT{o i e:Mine.E}{x y v:Expr}{p pos:Pos}(hn:sL v=false)(ho:SE prog w H os C call n X sc o x)(hi:SE prog w H os C call n X sc i y)(he:SE prog w H os C call n X sc e v):
  SS prog w H os C call n k X sc (.asgSub o i e) (.Assign [.Subscript x y p] v pos):=by
 intro A env ρ W fx0 fx σ s Q Z rm ew ow er S h
 refine wpAny_Assign_Subscript (he.then rm ew.toEnvW er S h (fun _ _ e=>e.up ow.le) fun q1 W1 v1 s1 l1 S1 R1 er1 h1=>?_) (iU hn)
 refine ho.then rm ew.toEnvW er1 S1 h1 (fun _ _ e=>(e.up ow.le).le l1) fun q2 W2 v2 s2 l2 S2 R2 er2 h2=>?_
 refine hi.then rm ew.toEnvW er2 S2 h2 (fun _ _ e=>(e.up ow.le).le (l1.trans l2)) fun q3 W3 v3 s3 l3 S3 R3 er3 h3=>so h3 fun r hr h3=>so h3 fun j hj h3=>so h3 fun d hd h3=>Es h3 fun hlt h3=>?_
 rw[fN hr] at R2
 apply eV v3 R3 hj;intro t
 exact S3.setDict (R2.le l3) hd hlt (R1.le (l2.trans l3)) fun h' tk S4=>h3 W3 fx _ ((l1.trans l2).trans l3) (ow.wd ((l1.trans l2).trans l3)) er3 S4
theorem zB{y:Expr}(hns:fP y=true)(ov iv new:Value):augStore y ov iv new=(do holding [new,ov,iv] (setItem ov iv new);release [new,ov,iv] [];pure .next):=by
 cases y<;>first|rfl|cases hns
theorem Ae{o i e:Mine.E}{x y v:Expr}{p pos:Pos}(hns:fP y=true)(ho:SE prog w H os C call n X sc o x)(hi:SE prog w H os C call n X sc i y)(he:SE prog w H os C call n X sc e v):
  SS prog w H os C call n k X sc (.augSub o i e) (.AugAssign (.Subscript x y p) .Add v pos):=by
 intro A env ρ W fx0 fx σ s Q Z rm ew ow er S h
 refine wpAny_AugAssign_SubscriptAny (ho.then rm ew.toEnvW er S h (fun _ _ e=>e.up ow.le) fun q2 W2 v2 s2 l2 S2 R2 er2 h2=>?_) (zB hns)
 refine hi.then rm ew.toEnvW er2 S2 h2 (fun _ _ e=>(e.up ow.le).le l2) fun q3 W3 v3 s3 l3 S3 R3 er3 h3=>so h3 fun r hr h3=>so h3 fun j hj h3=>so h3 fun d hd h3=>so h3 fun a0 ha h3=>ob ha fun va hva ha=>?_
 rw[fN hr] at R2
 apply eV v3 R3 hj;intro t
 refine aA (R2.le l3) fun ad ea hm=>rh (S3.mo r ad _ hm (sW hd)) fun ob us k1 k2 k3 k4 k5 k6=>aA (fQ k3 hva) fun u0 hu0 hr0=>?_
 rw[ea]
 refine wpAny_getItem_of (knd:=intKind prog w) (fF j t) (k2.of k1).mapOf hu0 ?_
 apply eV u0 hr0 ha;intro t0
 refine he.then rm ew.toEnvW er3 S3.tok h3 (fun _ _ e=>(e.up ow.le).le (l2.trans l3)) fun q4 W4 v4 s4 l4 S4 R4 er4 h4=>so h4 fun b hb h4=>so h4 fun d' hd' h4=>Es h4 fun hlt h4=>?_
 apply eV v4 R4 hb;intro t4
 exact AutoIntOps.iadd_0 ((S4.tok (tk:=s4.toks+1)).setDict (Exists.intro ad ⟨rfl,l4.ads _ _ hm⟩) hd' hlt cr fun h' tk S5=>h4 W4 fx _ ((l2.trans l3).trans l4) (ow.wd ((l2.trans l3).trans l4)) er4 S5)
end
end Mine
end
section
namespace Mine
open PySem PySem.W PyProof.Rows PySem.SeqAt PySem.Calls
theorem lB: ∀{ρ:Env} {y:String} {v:V},aM ρ y=some v→(y,v)∈ρ
 |(z,u)::r,y,v,h=>y8 h (fun e h=>e▸Option.some.inj h▸List.mem_cons_self ..) fun _ h=>List.mem_cons_of_mem _ (lB h)
theorem pq: ∀{ρ:Env} {y:String} {v:V},(ρ.map (·.1)).Nodup→(y,v)∈ρ→aM ρ y=some v
 |(z,u)::r,y,v,nd,h=>by
  have nd':=List.nodup_cons.mp nd
  rcases List.mem_cons.mp h with e|h
  ·rw[Prod.mk.inj e|>.1,Prod.mk.inj e|>.2];exact if_pos rfl
  ·exact(if_neg fun e:z=y=>nd'.1 (e▸List.mem_map_of_mem (f:=(·.1)) h)).trans (pq nd'.2 h)
theorem cE: ∀{a ρ:Env} {y:String},aM (a++ρ) y=(aM a y).or (aM ρ y)
 |[],_,_=>rfl
 |(z,u)::r,ρ,y=>by
  show(if z=y then some u else aM (r++ρ) y)=(if z=y then some u else aM r y).or (aM ρ y)
  by_cases h:z=y
  ·rw[if_pos h,if_pos h];rfl
  ·rw[if_neg h,if_neg h,cE]
theorem kZ: ∀{b ρ:Env} {y:String},aM (dK ρ b) y=aM (b.reverse++ρ) y
 |[],_,_=>rfl
 |(x,v)::r,ρ,y=>by
  show aM (dK (put ρ x v) r) y=_
  rw[kZ,List.reverse_cons,List.append_assoc,cE,cE,pE];rfl
theorem uI{ps:Env}{y:String}(nd:(ps.map (·.1)).Nodup):aM ps.reverse y=aM ps y:=by
 have nd':(ps.reverse.map (·.1)).Nodup:=by rw[List.map_reverse];exact List.pairwise_reverse.mpr (nd.imp Ne.symm)
 cases e:aM ps y with
 |some v=>exact pq nd' (List.mem_reverse.mpr (lB e))
 |none=>
  cases e':aM ps.reverse y with
  |none=>rfl
  |some v=>exact nomatch e.symm.trans (pq nd (List.mem_reverse.mp (lB e')))
theorem Ay{ps ρ:Env}{y:String}(nd:(ps.map (·.1)).Nodup):aM (dK ρ ps.reverse) y=aM (dK ρ ps) y:=by
 rw[kZ,kZ,List.reverse_reverse,cE,cE,uI nd]
section
variable{prog:Program}{w:World}{H:bg}{os:OsState}{C:Ctx}{call:aw}{n k:Nat}{X:aH}
variable{A:Around}{W W':Wd}{fx fx0 fx':Fz}{Z:Value→Shared→Prop}{s:Shared}{σ:ah}{sc:Scope}{env:PySem.Env}{ρ:Env}
variable{mg mb:PySem.Str→Option Value}
theorem ar.reverse: ∀{xs:List V} {vs:List Value},ar prog w H W xs vs→ar prog w H W xs.reverse vs.reverse
 |[],vs,h=>by
  apply qF vs h;exact ar.nil
 |x::r,vs,h=>by
  apply cy vs h;intro v q p t
  rw[List.reverse_cons,List.reverse_cons]
  exact t.reverse.append (ar.cons p ar.nil)
theorem wK{α β:Type}: ∀{a:List α} {b:List β},a.length=b.length→(a.zip b).reverse=a.reverse.zip b.reverse
 |[],[],_=>rfl
 |[],_::_,h=>nomatch h
 |_::_,[],h=>nomatch h
 |x::a,y::b,h=>by
  rw[List.zip_cons_cons,List.reverse_cons,List.reverse_cons,List.reverse_cons,List.zip_append (by rw[List.length_reverse,List.length_reverse];exact Nat.succ.inj h),wK (Nat.succ.inj h)]
  rfl
theorem uq: ∀{ns:List String} {vs:List V} {b:Env},mQ (ns.map .name) vs=some b→b=ns.zip vs∧ns.length=vs.length
 |[],[],_,h=>⟨(Option.some.inj h).symm,rfl⟩
 |[],_::_,_,h=>dA h
 |_::_,[],_,h=>dA h
 |x::ns,v::vs,b,h=>ob h fun b2 e2 h=>qH (uq e2) fun h1 h2=>⟨by rw[←Option.some.inj h,h1];rfl,congrArg Nat.succ h2⟩
theorem lQ: ∀{ns:List String} {vs:List V} {vals:List Value} {fx:Fz} {ρ:Env} {s:Shared} {Q:Unit→Shared→Prop},ns.length=vs.length→(∀x∈ns,cV sc (Str.ofString x)=true)→EnvW sc env→c7 W fx0 fx sc env→
  bo prog w H W fx sc env ρ→St prog w H W fx σ os s→ar prog w H W vs vals→vB prog w H os W fx0 σ sc env (dK ρ (ns.zip vs)) s Q→
  wpAny (model prog w) A (assignInOrder ((ns.map Str.ofString).map fun x=>bindName env x) vals) Q Z s
 |[],vs,vals,fx,ρ,s,Q,hl,hi,ew,o,er,S,R,h=>wpAny_pure (h fx s.heap s.toks o er S)
 |x::ns,[],vals,fx,ρ,s,Q,hl,hi,ew,o,er,S,R,h=>nomatch hl
 |x::ns,v::vs,vals,fx,ρ,s,Q,hl,hi,ew,o,er,S,R,h=>by
  apply cy vals R;intro val q p t
  exact wpAny_bind (wpAny_holding (wpAny_bindName (j5 ew o er S p (eP (hi x (List.mem_cons_self ..))) fun fx' h' tk o' er' S'=>lQ (Nat.succ.inj hl) (fun y hy=>hi y (List.mem_cons_of_mem _ hy)) ew o' er' S' t h)))
theorem yC{a:Addr}{o:Obj}{c:String}{vs:List Value}{Q:List Value→Shared→Prop}(hh:A.handled=none)(ho:s.heap.get? a=some o)(x:br c o vs)(hc:c= "tuple" ∨c= "list"){m:Nat}(hm:m=vs.length)
  (h: ∀h',(∀b o,s.heap.get? b=some o→h'.get? b=some o)→Q vs {s with heap:=h'}):wpAny (model prog w) A (unpackItems (.ref a) m none) Q Z s:=by
 rw[hm]
 rcases hc with rfl|rfl
 ·exact wpAny_unpackItems_tuple (items:=vs.toArray) hh (x.isTuple ho) fun h' hx=>h h' (lH hx)
 ·exact kun_itemsOf (items:=vs.toArray) hh (x.isList ho) fun h' hx=>h h' (lH hx)
theorem yV{ns:List String}{e:Mine.E}{ts:List Expr}{vs:List Expr}{k1 k2:Nat}{p1 p2 pos:Pos}(hw:swS sc ts vs=some (some (ns.map Str.ofString)))(hi: ∀x∈ns,cV sc (Str.ofString x)=true)(nd:ns.Nodup)
  (he:SE prog w H os C call n X sc e (.Tuple vs k2 p2)):SS prog w H os C call n k X sc (.asg (.tup (ns.map .name)) e) (.Assign [.Tuple ts k1 p1] (.Tuple vs k2 p2) pos):=by
 intro A env ρ W fx0 fx σ s Q Z rm ew o er S h
 refine Assign_Tuple_swapped (he.then rm ew.toEnvW er S h (fun _ _ e=>e.up o.le) fun q W' val s' l S' R er' hq=>so hq fun b hb hq=>ob hb fun xs hx hb=>qH (uq hb) fun eb hlen=>?_) oF (zU ew.toEnvW ew.scope hw)
 apply S'.seqW val R hx;intro a ob us c k3 hc _
 refine yC rm.h k3.g k3.q hc (by rw[List.length_map,hlen,k3.r.length]) fun h' hx=>?_
 rw[←List.map_reverse]
 refine lQ (by rw[List.length_reverse,List.length_reverse,hlen]) (fun x hx=>hi x (List.mem_reverse.mp hx)) ew.toEnvW (o.wd l) er' (S'.ext (tk:=s'.toks) hx) k3.r.reverse fun jl h2 tk2 o2 er2 S2=>hq W' jl _ l o2 (er2.congr fun y=>?_) S2
 rw[←wK hlen,eb]
 exact Ay (by rw[List.map_fst_zip (Nat.le_of_eq hlen)];exact nd)
inductive Ex4 {α β γ δ:Type} (P:α→β→γ→δ→Prop):Prop where
 |mk (a:α) (b:β) (c:γ) (d:δ) (h:P a b c d):Ex4 P
theorem Ex4.elim{α β γ δ:Type}{P:α→β→γ→δ→Prop}{G:Prop}(h:Ex4 P)(k: ∀a b c d,P a b c d→G):G:=by
 cases h with
 |mk a b c d h=>exact k a b c d h
inductive Ex5 {α β γ δ ε:Type} (P:α→β→γ→δ→ε→Prop):Prop where
 |mk (a:α) (b:β) (c:γ) (d:δ) (e:ε) (h:P a b c d e):Ex5 P
theorem Ex5.elim{α β γ δ ε:Type}{P:α→β→γ→δ→ε→Prop}{G:Prop}(h:Ex5 P)(k: ∀a b c d e,P a b c d e→G):G:=by
 cases h with
 |mk a b c d e h=>exact k a b c d e h
structure WhlI(prog:Program)(w:World)(H:bg)(os:OsState)(W:Wd)(fx0:Fz)(sc:Scope)(env:PySem.Env)(R:Wd→Env→ah→Prop)(s:Shared)(ρ':Env)(W':Wd)(fx':Fz)(σ':ah):Prop where
 l:W.le W'
 o:c7 W' fx0 fx' sc env
 er:bo prog w H W' fx' sc env ρ'
 S:St prog w H W' fx' σ' os s
 r:R W' ρ' σ'
noncomputable def WhlJ(prog:Program)(w:World)(H:bg)(os:OsState)(W:Wd)(fx0:Fz)(sc:Scope)(env:PySem.Env)(R:Nat→Wd→Env→ah→Prop)(m:Nat)(s:Shared):Prop:=Ex4 (WhlI prog w H os W fx0 sc env (R m) s)
theorem zb{c:Env→ah→ay (Bool×ah)}{b:Env→ah→ay (Fl×Env×ah)}{m:Nat}{ρ:Env}{σ:ah}{Qp:Fl×Env×ah→Prop}{Qx:List Nat→ah→Prop}{P:Prop}(h:(jY c b m ρ σ).sat Qp Qx)
  (k: ∀m',m=m'+1→(c ρ σ).sat (fun t=>(if t.1=true then(b ρ t.2).calm.bind fun q=>match q.1 with| .next=>jY c b m' q.2.1 q.2.2| .ret w=> .ok (.ret w,q.2.1,q.2.2) else .ok (.next,ρ,t.2)).sat Qp Qx) (fun _ _=>False)→P):P:=match m,h with
 |m'+1,h=>k m' rfl (ay.sat_calm.mp (ay.sat_bind.mp h))
theorem Aa{c:Mine.E}{b:List S}{x:Expr}{xs:List Stmt}{pos:Pos}(hc:ST prog w H os C call n X sc c x)(hb:SB prog w H os C call n k X sc b xs):
  SS prog w H os C call n k X sc (.whl c b) (.While x xs [] pos):=by
 intro A env ρ W fx0 fx σ s Q Z rm ew o er S h
 refine wpAny_While (codeAny_whileLoop (WhlJ prog w H os W fx0 sc env fun m W' ρ' σ'=>(jY (eR C call c) (bk C call k b) m ρ' σ').sat (lY prog w H os A W' fx0 sc env Q) (cF X A W fx0 Z)) (fun m s hI=>iF fun nG=>Ex4.elim hI fun ρ' W' fx' σ' I=>zb I.r fun m' em hs=>nG ?_) k (.mk ρ W fx σ ⟨.refl _,o,er,S,h⟩))
 refine hc A env ρ' W' fx' σ' s _ _ rm ew.toEnvW I.er I.S (ay.sat_mono hs (fun q hq W2 s2 l2 S2=>ifB (fun e=>?_) fun e=>wpAny_execs_nil (sF e hq W2 fx' s2 l2 (I.o.wd l2) (I.er.le l2 fun _ _ e=>e) S2)) fun _ _ e=>e.elim)
 exact hb A env ρ' W2 fx0 fx' q.2 s2 _ _ rm ew (I.o.wd l2) (I.er.le l2 fun _ _ e=>e) S2 (ay.sat_mono (ay.sat_calm.mp (ay.sat_bind.mp (sT e hq))) (fun q3 h3 W3 fx3 s3 l3 o3 er3 S3=>flE (fun e=>⟨m',em▸Nat.lt_succ_self _,.mk q3.2.1 W3 fx3 q3.2.2 ⟨(I.l.trans l2).trans l3,o3,er3,S3,ay.sat_mono (flN e h3) (fun _ e=>e.le (l2.trans l3)) fun _ _ e=>e⟩⟩) fun v e val R=>flR e h3 W3 fx3 s3 (l2.trans l3) o3 er3 S3 val R) fun _ _ e=>e.elim)
end
end Mine
end
section
namespace Mine
open PySem PySem.W PyProof.Rows PySem.SeqAt PySem.Calls
noncomputable def iy(own:List Addr)(h:Heap)(fx:Fz):Fz:=fun b=>if b∈own then h.get? b else fx b
theorem aZ{own:List Addr}{h:Heap}{fx:Fz}{a:Addr}(h':a∉own):iy own h fx a=fx a:=by unfold iy;rw[if_neg h']
theorem dQ{own:List Addr}{h:Heap}{fx:Fz}{a:Addr}(h':a∈own):iy own h fx a=h.get? a:=by unfold iy;rw[if_pos h']
section
variable{prog:Program}{w:World}{H:bg}{os:OsState}{C:Ctx}{call:aw}{n k:Nat}{X:aH}
variable{A:Around}{W W':Wd}{fx fx0 fx':Fz}{Z:Value→Shared→Prop}{s:Shared}{σ:ah}{sc:Scope}{env:PySem.Env}{ρ:Env}
variable{mg mb:PySem.Str→Option Value}
theorem St.reown(S:St prog w H W fx σ os s){own:List Addr}{h':Heap}{tk:Nat}(ho: ∀b∈own,fx b≠none)(k: ∀b o,b∉own→s.heap.get? b=some o→h'.get? b=some o):
  St prog w H W (iy own h' fx) σ os {s with heap:=h',toks:=tk}:=by
 have hP: ∀a∈own,W.P a=none:=fun a ha=>by
  cases e:fx a with
  |none=>exact absurd e (ho a ha)
  |some o=>exact S.pf a o e
 have hA: ∀a∈own,∀i:Nat,W.ads[i]? ≠some a:=fun a ha i e=>ho a ha (S.fa i a e)
 refine⟨S.base,fun b x e=>k b x (fun q=>nomatch (hP b q).symm.trans e) (S.keepP _ _ e),fun b x e=>?_,fun b x e=>?_,S.len,fun i b e=>cN (S.there i b e) fun x e'=>⟨x,k b x (fun q=>hA b q i e) e'⟩,S.inj,fun i b m e q=>(S.mo i b m e q).keep fun o e'=>k b o (fun q=>hA b q i e) e',S.pa,fun i b e=>(aZ fun q=>hA b q i e).trans (S.fa i b e),fun t ht=>vE (S.tab t ht) fun p q r u=>?_,S.os,S.gens⟩
 ·by_cases hb:b∈own
  ·exact(dQ hb).symm.trans e
  ·exact k b x hb (S.keepF _ _ ((aZ hb).symm.trans e))
 ·by_cases hb:b∈own
  ·exact hP b hb
  ·exact S.pf b x ((aZ hb).symm.trans e)
 ·have hb:t.1∉own:=fun x=>ho _ x r
  exact⟨p.keep fun o e=>k _ o hb e,q,(aZ hb).trans r,u⟩
variable(prog w H) in
structure YldT(W:Wd)(tgt:Expr)(h:Heap)(x:V)(v:Value)(xs:List V)(a:Addr)(vs:List Value):Prop where
 t: ∃es k p,tgt= .Tuple es k p
 x:x= .tup xs
 v:v= .ref a
 g:h.IsTuple a vs.toArray
 r:ar prog w H W xs vs
variable(prog w H) in
noncomputable def Yld(W:Wd)(tgt:Expr)(h:Heap)(x:V)(v:Value):Prop:=
 bj prog w H W x v∨ ∃xs a vs,YldT prog w H W tgt h x v xs a vs
variable(prog w H os) in
structure jw(A:Around)(it:Addr)(tgt:Expr)(own:List Addr)(W:Wd)(inv:List V→Heap→Prop):Prop where
 keep: ∀xs h h',inv xs h→(∀b∈own,∀o,h.get? b=some o→h'.get? b=some o)→W.P.on h→W.P.on h'→inv xs h'
 step: ∀W' fx σ (s:Shared) x r (Q:Option Value→Shared→Prop) (Z:Value→Shared→Prop),W.le W'→St prog w H W' fx σ os s→(∀b∈own,fx b≠none)→inv (x::r) s.heap→
  (∀v h' tk,St prog w H W' (iy own h' fx) σ os {s with heap:=h',toks:=tk}→Yld prog w H W' tgt h' x v→inv r h'→(∀b∈own,h'.get? b≠none)→Q (some v) {s with heap:=h',toks:=tk})→
  wpAny (model prog w) A (pyNext (.ref it)) (fun r s'=>match r with|none=>Q none s'|some v=>wpAny (model prog w) A (letOwnedTupleGo tgt (.ref it) v) (fun _ s''=>Q (some v) s'') Z s') Z s
 done: ∀W' fx σ (s:Shared) (Q:Option Value→Shared→Prop) (Z:Value→Shared→Prop),W.le W'→St prog w H W' fx σ os s→(∀b∈own,fx b≠none)→inv [] s.heap→
  (∀h' tk,St prog w H W' (iy own h' fx) σ os {s with heap:=h',toks:=tk}→Q none {s with heap:=h',toks:=tk})→
  wpAny (model prog w) A (pyNext (.ref it)) (fun r s'=>match r with|none=>Q none s'|some v=>wpAny (model prog w) A (letOwnedTupleGo tgt (.ref it) v) (fun _ s''=>Q (some v) s'') Z s') Z s
 self: ∀xs (s:Shared) (Q:Value→Shared→Prop) (Z:Value→Shared→Prop),inv xs s.heap→Q (.ref it) s→wpAny (model prog w) A (pyIter (.ref it)) Q Z s
theorem shf(i j:Nat){P:Nat→Prop}(h:P (i+1+j)):P (i+(j+1)):=by rw[show i+(j+1)=i+1+j from Nat.add_right_comm i j 1];exact h
variable(prog w H) in
structure WI(W:Wd)(n:Nat)(P:Nat→Value→Prop)(Sx:Nat→Heap→Prop)(xs:List V)(h:Heap)(i:Nat):Prop where
 e:i+xs.length=n
 s:Sx i h
 r: ∀(j:Nat) x,xs[j]? =some x→ ∀v W',W.le W'→P (i+j) v→bj prog w H W' x v
variable(prog w H) in
noncomputable def WInv(W:Wd)(n:Nat)(P:Nat→Value→Prop)(Sx:Nat→Heap→Prop)(xs:List V)(h:Heap):Prop:= ∃i,WI prog w H W n P Sx xs h i
theorem xO{fp wr:List Addr}{h h':Heap}(hb: ∀b∈fp,b∈wr∨W.P b≠none)(k: ∀b∈wr,∀o,h.get? b=some o→h'.get? b=some o)(p:W.P.on h)(p':W.P.on h'): ∀b∈fp,∀o,h.get? b=some o→h'.get? b=some o:=fun b hbf o ho=>by
 refine(hb b hbf).elim (fun h1=>k b h1 o ho) fun h1=>?_
 cases e':W.P b with
 |none=>exact absurd e' h1
 |some o'=>exact(ho.symm.trans (p b o' e'))▸p' b o' e'
theorem jw.of_walks{I:Addr}{fp wr:List Addr}{n:Nat}{P:Nat→Value→Prop}{Sx:Nat→Heap→Prop}{tgt:Expr}(K:Walks prog w A I fp wr n P Sx)(hb: ∀b∈fp,b∈wr∨W.P b≠none)
  (hl: ∀i h,Sx i h→ ∀b∈wr,h.get? b≠none)
  (hgo: ∀i (s:Shared) v (Q:Unit→Shared→Prop) (Z:Value→Shared→Prop),Sx i s.heap→Q () s→wpAny (model prog w) A (letOwnedTupleGo tgt (.ref I) v) Q Z s):
  jw prog w H os A I tgt wr W (WInv prog w H W n P Sx) where
 keep:=fun xs h h' hI k p p'=>cN hI fun i I=>⟨i,I.e,K.frame i h h' I.s (xO hb k p p'),I.r⟩
 step:=fun W' fx σ s x r Q Z l S ho hI hQ=>cN hI fun i I=>K.item i s _ _ (I.e▸Nat.lt_add_of_pos_right (Nat.succ_pos _)) I.s fun v h' tk hP hS' hk=>hgo (i+1) _ v _ _ hS' (hQ v h' tk (S.reown ho hk) (.inl (I.r 0 x rfl v W' l hP))
  ⟨i+1,(Nat.add_right_comm i 1 r.length).trans I.e,hS',fun j y ej v' W2 l2 hP2=>I.r (j+1) y ej v' W2 l2 (shf i j (P:=fun k=>P k v') hP2)⟩ (hl _ _ hS'))
 done:=fun W' fx σ s Q Z l S ho hI hQ=>cN hI fun i I=>K.done s _ _ ((I.e:i=n)▸I.s) fun h' tk hk=>hQ h' tk (S.reown ho hk)
 self:=fun xs s Q Z hI hQ=>cN hI fun i I=>K.self i s Q Z I.s hQ
variable(prog w H) in
structure TI(W:Wd)(n:Nat)(Pt:Nat→Array Value→Prop)(Sx:Nat→Heap→Prop)(xs:List V)(h:Heap)(i:Nat):Prop where
 e:i+xs.length=n
 s:Sx i h
 r: ∀(j:Nat) x,xs[j]? =some x→ ∀vals W',W.le W'→Pt (i+j) vals→ ∃ys,x= .tup ys∧ar prog w H W' ys vals.toList
variable(prog w H) in
noncomputable def TInv(W:Wd)(n:Nat)(Pt:Nat→Array Value→Prop)(Sx:Nat→Heap→Prop)(xs:List V)(h:Heap):Prop:= ∃i,TI prog w H W n Pt Sx xs h i
theorem jw.of_walksT{I:Addr}{fp wr:List Addr}{n:Nat}{Pt:Nat→Array Value→Prop}{Sx:Nat→Heap→Prop}{Mid:Nat→Addr→Heap→Prop}{es:List Expr}{ek:Nat}{ep:Pos}(K:WalksT prog w A I fp wr n Pt Sx Mid)(hb: ∀b∈fp,b∈wr∨W.P b≠none)
  (hl: ∀i h,Sx i h→ ∀b∈wr,h.get? b≠none):jw prog w H os A I (.Tuple es ek ep) wr W (TInv prog w H W n Pt Sx) where
 keep:=fun xs h h' hI k p p'=>cN hI fun i I=>⟨i,I.e,K.frame i h h' I.s (xO hb k p p'),I.r⟩
 step:=fun W' fx σ s x r Q Z l S ho hI hQ=>cN hI fun i I=>K.item i s _ _ (I.e▸Nat.lt_add_of_pos_right (Nat.succ_pos _)) I.s fun T vals h' tk hP hT htup hM hk=>K.go es ek ep i T _ _ _ hM fun h2 hS' hk2=>aA (I.r 0 x rfl vals W' l hP) fun ys ex hy=>cf htup fun o q1 q2 q3=>
  hQ (.ref T) h2 tk (S.reown ho fun b o hb e=>hk2 b o hb (hk b o hb e)) (.inr ⟨ys,T,vals.toList,⟨es,ek,ep,rfl⟩,ex,rfl,⟨o,hk2 T o (K.apart i T h' hM) q1,q2,q3⟩,hy⟩)
   ⟨i+1,(Nat.add_right_comm i 1 r.length).trans I.e,hS',fun j y ej v' W2 l2 hP2=>I.r (j+1) y ej v' W2 l2 (shf i j (P:=fun k=>Pt k v') hP2)⟩ (hl _ _ hS')
 done:=fun W' fx σ s Q Z l S ho hI hQ=>cN hI fun i I=>K.done s _ _ ((I.e:i=n)▸I.s) fun h' tk hk=>hQ h' tk (S.reown ho hk)
 self:=fun xs s Q Z hI hQ=>cN hI fun i I=>K.self i s Q Z I.s hQ
theorem vo{t:T}{e:Expr}{v:V}{val:Value}{b:Env}{Q:Unit→Shared→Prop}(ht:nR sc t e=true)(hb:dU t v=some b)(hh:A.handled=none)(ew:EnvW sc env)(o:c7 W fx0 fx sc env)
  (er:bo prog w H W fx sc env ρ)(S:St prog w H W fx σ os s)(R:Yld prog w H W e s.heap v val)(h:vB prog w H os W fx0 σ sc env (dK ρ b) s Q):wpAny (model prog w) A (assign e env val) Q Z s:=by
 refine R.elim (fun R=>qj t ht hb hh ew o er S R h) fun R=>jC R fun xs a vs Y=>?_
 have hT:=Y.t
 rw[Y.x] at hb
 revert hT hb
 apply oC e ht
 ·exact fun x p _ _ _ hT=>jC hT fun _ _ _ e=>nomatch e
 ·intro ts es k p et ht hb _
  rw[et] at hb
  refine qH (j4 (env:=env) ht) fun f1 f2=>?_
  rw[PyProof.Rows.assign_Tuple,Y.v]
  exact wpAny_bind (wpAny_standAt (wpAny_unpack_tuple hh Y.g (by rw[f1,gU hb,List.size_toArray,Y.r.length]) f2 fun h' hx=>mR ts ht hb hh ew o er (S.ext (tk:=s.toks) (lH hx)) Y.r h))
end
end Mine
end
section
namespace Mine
open PySem PySem.W PyProof.Rows PySem.SeqAt PySem.Calls
structure mU(own:List Addr)(sc:Scope)(env:PySem.Env):Prop where
 loc:env.locals∉own
 cel: ∀x c,(sc.names.lookup x=some .cell∨sc.names.lookup x=some .free)→env.cells.lookup x=some c→c∉own
section
variable(prog:Program)(w:World)(H:bg)(os:OsState)(C:Ctx)(call:aw)(n:Nat)(X:aH)
noncomputable def du(A:Around)(tgt:Expr)(W:Wd)(fx:Fz)(Q:Value→Shared→Prop)(q:List V×ah):Prop:=
 ∀W' fx' it own inv s',W.le W'→fx.le fx'→St prog w H W' fx' q.2 os s'→jw prog w H os A it tgt own W' inv→inv q.1 s'.heap→(∀b∈own,fx b=none)→(∀b∈own,fx' b≠none)→q.1.length≤cP→Q (.ref it) s'
noncomputable def SI(sc:Scope)(tgt:Expr)(e:Mine.E)(x:Expr):Prop:=
 ∀(A:Around) (env:PySem.Env) (ρ:Env) (W:Wd) (fx:Fz) (σ:ah) (s:Shared) (Q:Value→Shared→Prop) (E:Value→Shared→Prop),
  bX A n→EnvW sc env→bo prog w H W fx sc env ρ→St prog w H W fx σ os s→
  (qu C call e ρ σ).sat (du prog w H os A tgt W fx Q) (cF X A W fx E)→wpAny (model prog w) A (eval x env) (fun xv s₁=>wpAny (model prog w) A (pyIter xv) Q E s₁) E s
end
section
variable{prog:Program}{w:World}{H:bg}{os:OsState}{C:Ctx}{call:aw}{n k:Nat}{X:aH}
variable{A:Around}{W W':Wd}{fx fx0 fx':Fz}{Z:Value→Shared→Prop}{s:Shared}{σ:ah}{sc:Scope}{env:PySem.Env}{ρ:Env}
variable{mg mb:PySem.Str→Option Value}{own:List Addr}
theorem c7.out(o:c7 W fx0 fx sc env)(S:St prog w H W' fx' σ os s)(l:W.le W')(h1: ∀b∈own,fx b=none)(h2: ∀b∈own,fx' b≠none):mU own sc env:=by
 have hP: ∀b∈own,W.P b=none:=fun b hb=>by
  cases e:W.P b with
  |none=>rfl
  |some ob=>
   cases e':fx' b with
   |none=>exact absurd e' (h2 b hb)
   |some o'=>exact nomatch (l.P _ _ e).symm.trans (S.pf b o' e')
 refine⟨fun hb=>cz o.ns fun ob m e _=>(nomatch (h1 _ hb).symm.trans e),fun x c hk hc hb=>hk.elim (fun hk=>ny (o.cel x hk) fun c' ob cv e1 e2 _ _ _=>?_) fun hk=>(o.fre x c hk hc).elim (fun e=>?_) fun e=>e (hP c hb)⟩
 ·rw[←Option.some.inj (hc.symm.trans e1),h1 _ hb] at e2;cases e2
 ·cases e':fx0 c with
  |none=>exact e e'
  |some ob=>exact nomatch (h1 _ hb).symm.trans (o.le c ob e')
theorem c7.map{fx0':Fz}(o:c7 W fx0 fx sc env)(le: ∀a o,fx0' a=some o→fx' a=some o)(loc:fx0' env.locals=none)(kl: ∀ob,fx env.locals=some ob→fx' env.locals=some ob)
  (kc: ∀x c,sc.names.lookup x=some .cell→env.cells.lookup x=some c→(∀ob,fx c=some ob→fx' c=some ob)∧(fx0 c=none→fx0' c=none))(kf: ∀x c,sc.names.lookup x=some .free→env.cells.lookup x=some c→fx0 c≠none→fx0' c≠none):c7 W fx0' fx' sc env:=
 ⟨le,loc,cz o.ns fun ob m e1 e2=>⟨ob,m,kl _ e1,e2⟩,fun x hk=>ny (o.cel x hk) fun c ob cv e1 e2 e3 e4 e5=>⟨c,ob,cv,e1,(kc x c hk e1).1 _ e2,e3,(kc x c hk e1).2 e4,e5⟩,o.apart,fun x c hk hc=>(o.fre x c hk hc).imp (kf x c hk hc) id⟩
theorem bo.on{h:Heap}(er:bo prog w H W fx sc env ρ)(ot:mU own sc env):bo prog w H W (iy own h fx) sc env ρ:=
 ⟨cI er.loc fun o m a b c=>⟨o,m,(aZ ot.loc).trans a,b,c⟩,fun x v e hk=>gq (er.cel x v e hk) fun c' ob val e1 e2 e3 e4=>⟨c',ob,val,e1,e2.imp (fun q=>(aZ (ot.cel x c' hk e1)).trans q) id,e3,e4⟩,
  fun x hk=>jV (er.cin x hk) fun c' ob cv e1 e2 e3=>⟨c',ob,cv,e1,e2.imp (fun q=>(aZ (ot.cel x c' hk e1)).trans q) id,e3⟩,er.sld⟩
theorem c7.on{h:Heap}(o:c7 W fx0 fx sc env)(ot:mU own sc env)(h0: ∀b∈own,fx0 b=none):c7 W fx0 (iy own h fx) sc env:=
 o.map (fun a q e=>(aZ fun hb=>nomatch (h0 a hb).symm.trans e).trans (o.le a q e)) o.loc (fun ob e=>(aZ ot.loc).trans e) (fun x c hk hc=>⟨fun ob e=>(aZ (ot.cel x c (.inl hk) hc)).trans e,id⟩) fun _ _ _ _=>id
theorem c7.push{h:Heap}(o:c7 W fx0 fx sc env)(ot:mU own sc env)(hf: ∀b∈own,fx b=h.get? b):c7 W (iy own h fx0) fx sc env:=by
 refine o.map (fun a q e=>?_) ((aZ ot.loc).trans o.loc) (fun ob=>id) (fun x c hk hc=>⟨fun ob=>id,(aZ (ot.cel x c (.inl hk) hc)).trans⟩) fun x c hk hc hn e=>hn ((aZ (ot.cel x c (.inr hk) hc)).symm.trans e)
 by_cases ha:a∈own
 ·exact(hf a ha).trans ((dQ ha).symm.trans e)
 ·exact o.le a q ((aZ ha).symm.trans e)
theorem c7.pop{h:Heap}(o:c7 W (iy own h fx0) fx sc env)(ot:mU own sc env)(h0: ∀b∈own,fx0 b=none):c7 W fx0 fx sc env:=
 o.map (fun a q e=>o.le a q ((aZ fun hb=>nomatch (h0 a hb).symm.trans e).trans e)) ((aZ ot.loc).symm.trans o.loc) (fun ob=>id) (fun x c hk hc=>⟨fun ob=>id,(aZ (ot.cel x c (.inl hk) hc)).symm.trans⟩) fun x c hk hc hn e=>hn ((aZ (ot.cel x c (.inr hk) hc)).trans e)
theorem c7.more(o:c7 W fx0 fx sc env)(lf:fx.le fx'):c7 W fx0 fx' sc env:=o.map (fun a q e=>lf _ _ (o.le a q e)) o.loc (lf _) (fun x c _ _=>⟨lf c,id⟩) fun _ _ _ _=>id
theorem jw.turn1{it:Addr}{tgt:Expr}{inv:List V→Heap→Prop}(K:jw prog w H os A it tgt own W inv){x:V}{r:List V}{P0:Shared→Prop}{P1:Value→Shared→Prop}(l:W.le W')(S:St prog w H W' fx σ os s)(ho: ∀b∈own,fx b≠none)(hi:inv (x::r) s.heap)
  (h: ∀v h' tk,St prog w H W' (iy own h' fx) σ os {s with heap:=h',toks:=tk}→Yld prog w H W' tgt h' x v→inv r h'→(∀b∈own,h'.get? b≠none)→P1 v {s with heap:=h',toks:=tk}):
  wpAny (model prog w) A (pyNext (.ref it)) (fun r s'=>match r with|none=>P0 s'|some v=>wpAny (model prog w) A (letOwnedTupleGo tgt (.ref it) v) (fun _ s''=>P1 v s'') Z s') Z s:=by
 refine wpAny_mono (K.step W' fx σ s x r (fun r s'=>match r with|none=>P0 s'|some v=>P1 v s') Z l S ho hi h) (fun r s' hr=>?_) fun _ _ e=>e
 cases r<;>exact hr
theorem jw.done1{it:Addr}{tgt:Expr}{inv:List V→Heap→Prop}(K:jw prog w H os A it tgt own W inv){P0:Shared→Prop}{P1:Value→Shared→Prop}(l:W.le W')(S:St prog w H W' fx σ os s)(ho: ∀b∈own,fx b≠none)(hi:inv [] s.heap)
  (h: ∀h' tk,St prog w H W' (iy own h' fx) σ os {s with heap:=h',toks:=tk}→P0 {s with heap:=h',toks:=tk}):
  wpAny (model prog w) A (pyNext (.ref it)) (fun r s'=>match r with|none=>P0 s'|some v=>wpAny (model prog w) A (letOwnedTupleGo tgt (.ref it) v) (fun _ s''=>P1 v s'') Z s') Z s:=by
 refine wpAny_mono (K.done W' fx σ s (fun r s'=>match r with|none=>P0 s'|some v=>P1 v s') Z l S ho hi h) (fun r s' hr=>?_) fun _ _ e=>e
 cases r<;>exact hr
structure ForI(prog:Program)(w:World)(H:bg)(os:OsState)(W:Wd)(fx0:Fz)(sc:Scope)(env:PySem.Env)(own:List Addr)(inv:List V→Heap→Prop)(R:Wd→List V→Env→ah→Prop)(m:Nat)(s:Shared)(vs:List V)(ρ':Env)(W':Wd)(fx':Fz)(σ':ah):Prop where
 m:vs.length=m
 l:W.le W'
 o:c7 W' fx0 fx' sc env
 er:bo prog w H W' fx' sc env ρ'
 S:St prog w H W' fx' σ' os s
 i:inv vs s.heap
 h: ∀b∈own,fx' b≠none
 r:R W' vs ρ' σ'
noncomputable def ForJ(prog:Program)(w:World)(H:bg)(os:OsState)(W:Wd)(fx0:Fz)(sc:Scope)(env:PySem.Env)(own:List Addr)(inv:List V→Heap→Prop)(R:Wd→List V→Env→ah→Prop)(m:Nat)(s:Shared):Prop:=Ex5 (ForI prog w H os W fx0 sc env own inv R m s)
theorem zc{b:V→Env→ah→ay (Fl×Env×ah)}{vs:List V}{ρ:Env}{σ:ah}{Qp:Fl×Env×ah→Prop}{Qx:List Nat→ah→Prop}{P:Prop}(h:(c9 b vs ρ σ).sat Qp Qx)(k0:vs=[]→Qp (.next,ρ,σ)→P)
  (k1: ∀v r,vs=v::r→(b v ρ σ).sat (fun q=>(match q.1 with| .next=>c9 b r q.2.1 q.2.2| .ret w=> .ok (.ret w,q.2.1,q.2.2)).sat Qp Qx) (fun _ _=>False)→P):P:=match vs,h with
 |[],h=>k0 rfl h
 |v::r,h=>k1 v r rfl (ay.sat_calm.mp (ay.sat_bind.mp h))
theorem i8{t:T}{it:Mine.E}{b:List S}{tx x:Expr}{xs:List Stmt}{pos:Pos}(ht:nR sc t tx=true)(hs: ∀env v,foldedSetIterable x env v=pure v)
  (hi:SI prog w H os C call n X sc tx it x)(hb:SB prog w H os C call n k X sc b xs):SS prog w H os C call n k X sc (.for_ t it b) (.For tx x xs [] pos):=by
 intro A env ρ W fx0 fx σ s Q Z rm ew o er S h
 refine wpAny_For (hi A env ρ W fx σ s _ Z rm ew.toEnvW er S (ay.sat_mono (ay.sat_bind.mp h) (fun q hq W1 fx1 ia own inv s1 l1 lf S1 K hinv hown0 hown1 hlen=>?_) fun _ _ e=>e.up o.le)) (hs env)
 have ot:mU own sc env:=o.out S1 l1 hown0 hown1
 have h00: ∀b∈own,fx0 b=none:=fun b hb=>by
  cases e:fx0 b with
  |none=>rfl
  |some ob=>exact nomatch (hown0 b hb).symm.trans (o.le b ob e)
 refine codeAny_forLoop_any (ForJ prog w H os W1 fx0 sc env own inv fun W2 vs ρ' σ'=>(c9 (fun v ρ σ=>(ay.ofOpt (dU t v)).bind fun bs=>bk C call k b (dK ρ bs) σ) vs ρ' σ').sat (lY prog w H os A W2 fx0 sc env Q) (cF X A W2 fx0 Z)) (fun m s2 hI=>iF fun nG=>Ex5.elim hI fun vs ρ2 W2 jl σ2 I=>zc I.r (fun ev hs2=>nG ?_) fun v r ev hs2=>so hs2 fun bs hbt hs2=>nG ?_) _
  (.mk q.1 ρ W1 fx1 q.2 ⟨rfl,.refl _,(o.wd l1).more lf,er.le l1 lf,S1,hinv,hown1,ay.sat_mono hq (fun _ e=>e.le l1) fun _ _ e=>e.le l1⟩)
 ·exact K.done1 I.l I.S I.h (ev▸I.i) fun h' tk S3=>wpAny_execs_nil (hs2 W2 _ _ (.refl _) (I.o.on ot h00) (I.er.on ot) S3)
 ·refine K.turn1 I.l I.S I.h (ev▸I.i) fun val h' tk S3 Y hinv3 hlive=>vo ht hbt rm.h ew.toEnvW ((I.o.on (h:=h') ot h00).push ot fun b hb=>dQ hb) (I.er.on (h:=h') ot) S3 Y fun fx4 h4 tk4 o5 er5 S5=>?_
  refine hb A env (dK ρ2 bs) W2 (iy own h' fx0) fx4 σ2 _ _ _ rm ew o5 er5 S5 (ay.sat_mono hs2 (fun q6 h6 W6 fx6 s6 l6 o6 er6 S6=>flE (fun e=>?_) fun v e val R=>flR e h6 W6 fx6 s6 l6 (o6.pop ot h00) er6 S6 val R) fun _ _ e=>e.elim)
  have heldNow: ∀b∈own,fx6 b=h'.get? b:=fun b hb=>by
   cases e:h'.get? b with
   |none=>exact absurd e (hlive b hb)
   |some ob=>exact o6.le b ob ((dQ hb).trans e)
  exact⟨r.length,by rw[←I.m,ev];exact Nat.lt_succ_self _,.mk r q6.2.1 W6 fx6 q6.2.2 ⟨rfl,I.l.trans l6,o6.pop ot h00,er6,S6,K.keep r h' _ hinv3 (fun b hb o e=>S6.keepF _ _ ((heldNow b hb).trans e)) (fun a o e=>S3.keepP _ _ (I.l.P _ _ e)) (fun a o e=>S6.keepP _ _ (l6.P _ _ (I.l.P _ _ e))),fun b hb q=>hlive b hb ((heldNow b hb).symm.trans q),ay.sat_mono (flN e h6) (fun _ e=>e.le l6) fun _ _ e=>e.le l6⟩⟩
end
end Mine
end
section
namespace Mine
open PySem PySem.W PyProof.Rows PySem.SeqAt PySem.Calls
section
variable{prog:Program}{w:World}{H:bg}{os:OsState}{C:Ctx}{call:aw}{n k:Nat}{X:aH}
variable{A:Around}{W W':Wd}{fx fx0 fx':Fz}{Z:Value→Shared→Prop}{s:Shared}{σ:ah}{sc:Scope}{env:PySem.Env}{ρ:Env}
variable{mg mb:PySem.Str→Option Value}{own:List Addr}
theorem E1{target:Expr}{it v:Value}:letOwnedTupleGo target it v=letOwnedTupleGo (.Tuple [] 0 default) it v∨letOwnedTupleGo target it v=pure ():=by
 cases target<;>first|exact .inr rfl|exact .inl rfl
structure ItAl(h:Heap)(I:Addr)(o:Obj)(nm:String)(fs:Array Value):Prop where
 g:h.get? I=some o
 c:o.cls= .type nm
 d:o.data= .fields fs
 n:(["enumerate", "zip", "dict_itemiterator", "dict_reverseitemiterator", "odict_iterator", "itertools.zip_longest", "itertools.pairwise"].contains nm)=false
theorem Bb{tgt:Expr}{I:Addr}{o:Obj}{nm:String}{fs:Array Value}{v:Value}{Q:Unit→Shared→Prop}(k:ItAl s.heap I o nm fs)(hQ:Q () s):
  wpAny (model prog w) A (letOwnedTupleGo tgt (.ref I) v) Q Z s:=by
 refine E1.elim (fun e=>?_) fun e=>e▸wpAny_pure hQ
 rw[e]
 cases v<;>first|exact wpAny_pure hQ|skip
 refine wpAny_bind (wpAny_load k.g ?_)
 rw[k.c,k.d]
 dsimp only
 rw[k.n,Bool.false_and]
 exact wpAny_pure hQ
theorem gm{fx:Fz}{N:Addr}{o:Obj}(h:fx N=some o): ∀b∈[N],fx b≠none:=fun b hb e=>nomatch h.symm.trans (List.mem_singleton.mp hb▸e:fx N=none)
theorem St.holds(S:St prog w H W fx σ os s)(fr: ∀b∈own,cC H W fx b):St prog w H W (iy own s.heap fx) σ os s:=by
 refine⟨S.base,S.keepP,fun b x e=>?_,fun b x e=>?_,S.len,S.there,S.inj,S.mo,S.pa,fun i b e=>(aZ fun q=>(fr b q).ads i e).trans (S.fa i b e),fun t ht=>vE (S.tab t ht) fun p q r u=>⟨p,q,(aZ fun x=>(fr _ x).tab t ht rfl).trans r,u⟩,S.os,S.gens⟩
 ·by_cases hb:b∈own
  ·exact(dQ hb).symm.trans e
  ·exact S.keepF _ _ ((aZ hb).symm.trans e)
 ·by_cases hb:b∈own
  ·exact(fr b hb).P
  ·exact S.pf b x ((aZ hb).symm.trans e)
theorem Fz.le_on{h:Heap}(fr: ∀b∈own,fx b=none):fx.le (iy own h fx):=fun b o e=>(aZ fun q=>nomatch (fr b q).symm.trans e).trans e
theorem du.made{tgt:Expr}{Q:Value→Shared→Prop}{xs:List V}{it:Addr}{inv:List V→Heap→Prop}(hq:du prog w H os A tgt W fx Q (xs,σ))(l:W.le W')(S:St prog w H W' fx σ os s)(fr: ∀b∈own,cC H W' fx b)(live: ∀b∈own,s.heap.get? b≠none)
  (K:jw prog w H os A it tgt own W' inv)(hi:inv xs s.heap)(hn:xs.length≤cP):Q (.ref it) s:=
 hq W' _ it own inv s l (Fz.le_on fun b hb=>(fr b hb).fx) (S.holds fr) K hi (fun b hb=>(fr b hb).fx) (fun b hb e=>live b hb ((dQ hb).symm.trans e)) hn
theorem du.new{tgt:Expr}{Q:Value→Shared→Prop}{xs:List V}{o:Obj}{fp:List Addr}{m:Nat}{P:Nat→Value→Prop}{Sx:Nat→Heap→Prop}(hq:du prog w H os A tgt W fx Q (xs,σ))(l:W.le W')(S:St prog w H W' fx σ os s)(ho:o.isFreed=false)
  (K:Walks prog w A s.heap.objs.size fp [s.heap.objs.size] m P Sx)(hfp: ∀b∈fp,b∈[s.heap.objs.size]∨W'.P b≠none)(al: ∀i h,Sx i h→ ∃o nm fs,ItAl h s.heap.objs.size o nm fs)(h0:Sx 0 (s.heap.push o))(hl:xs.length=m)(hn:xs.length≤cP)
  (R: ∀(j:Nat) x,xs[j]? =some x→ ∀v W2,W'.le W2→P j v→bj prog w H W2 x v):Q (.ref s.heap.objs.size) {s with heap:=s.heap.push o}:=
 du.made hq l (S.push o) (fun b hb=>List.mem_singleton.mp hb▸S.fresh (Nat.le_refl _)) (gm (fx:=(s.heap.push o).get?) (Heap.get?_push_size _ ho)) (jw.of_walks K hfp (fun i h hS=>jC (al i h hS) fun _ _ _ k=>gm k.g) fun i s v Q Z hS hQ=>jC (al i _ hS) fun _ _ _ k=>Bb k hQ)
  ⟨0,(Nat.zero_add _).trans hl,h0,fun j y hj v W2 l2 hv=>R j y hj v W2 l2 (Nat.zero_add j▸hv)⟩ hn
theorem ka{N a:Addr}{o:Obj}(h:W.P a=some o): ∀b∈[N,a],b∈[N]∨W.P b≠none:=fun b hb=>(List.mem_cons.mp hb).imp List.mem_singleton.mpr fun hb e=>nomatch h.symm.trans ((congrArg W.P (List.mem_singleton.mp hb)).symm.trans e)
theorem ar.atArr{xs:List V}{vs:List Value}{j:Nat}{y:V}{v:Value}(R:ar prog w H W xs vs)(hj:xs[j]? =some y)(hv:vs.toArray[j]? =some v):bj prog w H W y v:=
 aA (R.get hj) fun u f1 f2=>Option.some.inj (f1.symm.trans (List.getElem?_toArray.symm.trans hv))▸f2
theorem cS{e:Mine.E}{x tgt:Expr}(K:aK H mg mb)(h:SE prog w H os C call n X sc e x)(hi:qu C call e=fun ρ σ=>(bp C call e ρ σ).bind fun x=>(ay.ofOpt (wg x.2 x.1)).bind fun l=> .ok (l,x.2)):SI prog w H os C call n X sc tgt e x:=by
 intro A env ρ W fx σ s Q Z rm ew er S hs
 rw[hi] at hs
 refine h.then rm ew er S hs (fun _ _ x=>x) fun q W' v s' l S' R er' h'=>so h' fun xs e1 hq=>?_
 have hP: ∀{a:Addr} {o:Obj},W'.P a=some o→a≠s'.heap.objs.size:=fun ha q=>absurd (Heap.lt_size (S'.keepP _ _ ha)) (q▸Nat.lt_irrefl _)
 refine ug e1 (fun e1=>?_) fun _ e1=>ob e1 fun d hd e1=>?_
 ·apply S'.seqW v R e1;intro a o vs c k hc hPa
  rcases hc with rfl|rfl
  ·exact wpAny_pyIter_tuple (k.q.isTuple k.g) (du.new hq l S' rfl (Walks.tuple rm.h s'.heap.objs.size a (hP hPa) vs.toArray) (ka hPa) (fun i h hS=>cf hS.1 fun o e c d=>⟨o,_,_,e,c,d,by decide⟩) ⟨⟨_,Heap.get?_push_size _ rfl,rfl,rfl⟩,(k.q.isTuple k.g).push _⟩ k.r.length.symm k.n
    fun j y hj v W2 l2 hv=>((k.r.le l2).atArr hj hv))
  ·exact wpAny_pyIter_list (k.q.isList k.g) (du.new hq l S' rfl (Walks.list rm.h s'.heap.objs.size a (hP hPa) vs.toArray) (ka hPa) (fun i h hS=>cf hS.1 fun o e c d=>⟨o,_,_,e,c,d,by decide⟩) ⟨⟨_,Heap.get?_push_size _ rfl,rfl,rfl⟩,(k.q.isList k.g).push _⟩ k.r.length.symm k.n
    fun j y hj v W2 l2 hv=>((k.r.le l2).atArr hj hv))
 ·rw[mJ hd] at R
  refine jC R fun a o vs k=>ir k.q fun d1 es ep d2 d3 d4 d5=>?_
  rw[k.e]
  have hm:s'.heap.DictAt (intKind prog w) a (d.1.zip vs) ep:=⟨o,es,S'.keepP _ _ k.p,d1,d2,d3,d4,d5⟩
  have hl:xs.length=d.1.length:=by rw[←Option.some.inj e1,List.length_map]
  have hz:(d.1.zip vs).length=d.1.length:=by rw[List.length_zip,k.r.length,k.l,Nat.min_self]
  refine wpAny_pyIter_dict k.m hm (du.new hq l S' rfl (Walks.dictKeys (knd:=intKind prog w) rm.h s'.heap.objs.size a (hP k.p) (d.1.zip vs) ep) (ka k.p) (fun i h hS=>cf hS.1 fun o e c d=>⟨o,_,_,e,c,d,by decide⟩) ⟨⟨_,Heap.get?_push_size _ rfl,rfl,rfl⟩,hm.at' fun o e=>Heap.get?_push_of_some _ e⟩ (hl.trans hz.symm) (by rw[hl,k.l];exact k.n)
   fun j y hj v W2 l2 hv=>cz hv fun i z f1 f2=>?_)
  rw[←Option.some.inj e1,List.getElem?_map,(List.getElem?_zip_eq_some.mp f1).1] at hj
  rw[←Option.some.inj hj]
  exact Value.isInt_shape f2
end
end Mine
end
section
namespace Mine
open PySem PySem.W PyProof.Rows PySem.SeqAt PySem.Calls
open AutoSeq1 (wpAny_loadPart')
section
variable{prog:Program}{w:World}{A:Around}{E:Value→Shared→Prop}{s:Shared}
theorem lg{it l:Addr}{i:Nat}{items}{x:Value}{Q:Value→Shared→Prop}(hit:s.heap.IsTupleIter it l i)
  (hl:s.heap.IsTuple l items)(hx:items[i]? =some x)
  (hQ: ∀h',h'.IsTupleIter it l (i+1)→Heap.SameBut it s.heap h'→Q x {s with heap:=h'}):
  wpAny (model prog w) A (Builtin.SmallTypes.nextOf (.ref it)) Q E s:=by
 refine cf (id hit) fun o ho hc hd=>?_
 refine sw hl fun ol hol _ nl hdl=>?_
 unfold Builtin.SmallTypes.nextOf
 refine wpAny_bind (wpAny_callSpecial?_slot (name:=Str.ofString "__next__") hit.typeIs F.slot_tuple_iterator_next
  (wpAny_call_entry F.slot_tuple_iterator_next hit.typeIs F.entry_tuple_iterator_next ?_ (F.args_tuple_iterator_next_1 _)))
 show wpAny _ _ (field (.ref it) 0>>=_) _ _ s
 refine wpAny_bind (wpAny_field ho hd (x:= .ref l) rfl ?_)
 show wpAny _ _ (if(Value.ref l==Value.none)=true then _ else _) _ _ s
 rw[if_neg (show¬((Value.ref l==Value.none)=true) from Bool.false_ne_true)]
 show wpAny _ _ (field (.ref it) 1>>=_) _ _ s
 refine wpAny_bind (wpAny_field ho hd (x:= .int i 0) rfl ?_)
 show wpAny _ _ (seqItems? (.ref l)>>=_) _ _ s
 refine wpAny_bind (wpAny_seqItems hol hdl ?_)
 simp only [Int.toNat_natCast,hx]
 refine wpAny_bind (wpAny_setField ho hd (by simp) (wpAny_pure ⟨x,rfl,wpAny_pure (hQ _ ?_ (Heap.SameBut.update ..))⟩))
 exact⟨_,Heap.get?_update_self _ ho (Obj.isFreed_of_fields (Obj.data_mapFields hd _)),(Obj.cls_mapFields ..).trans hc,by
  rw[Obj.data_mapFields hd];simp [rawInt]⟩
theorem mx{it l:Addr}{i:Nat}{items}{Q:Value→Shared→Prop}(hh:A.handled=none)
  (hit:s.heap.IsTupleIter it l i)(hl:s.heap.IsTuple l items)(hx:items[i]? =none)
  (hE: ∀h' e,Heap.ExtBut it s.heap h'→(∃o,h'.get? e=some o∧o.cls= .type "StopIteration")→E (.ref e) {s with heap:=h'}):
  wpAny (model prog w) A (Builtin.SmallTypes.nextOf (.ref it)) Q E s:=by
 refine cf (id hit) fun o ho hc hd=>?_
 refine sw hl fun ol hol _ nl hdl=>?_
 unfold Builtin.SmallTypes.nextOf
 refine wpAny_bind (wpAny_callSpecial?_slot (name:=Str.ofString "__next__") hit.typeIs F.slot_tuple_iterator_next
  (wpAny_call_entry F.slot_tuple_iterator_next hit.typeIs F.entry_tuple_iterator_next ?_ (F.args_tuple_iterator_next_1 _)))
 show wpAny _ _ (field (.ref it) 0>>=_) _ _ s
 refine wpAny_bind (wpAny_field ho hd (x:= .ref l) rfl ?_)
 show wpAny _ _ (if(Value.ref l==Value.none)=true then _ else _) _ _ s
 rw[if_neg (show¬((Value.ref l==Value.none)=true) from Bool.false_ne_true)]
 show wpAny _ _ (field (.ref it) 1>>=_) _ _ s
 refine wpAny_bind (wpAny_field ho hd (x:= .int i 0) rfl ?_)
 show wpAny _ _ (seqItems? (.ref l)>>=_) _ _ s
 refine wpAny_bind (wpAny_seqItems hol hdl ?_)
 simp only [Int.toNat_natCast,hx]
 refine wpAny_bind (wpAny_rule (wpAny_bind (wpAny_setField ho hd (by simp) ?_)))
 show wpAny _ _ (newExc (.type "StopIteration") []>>=_) _ _ _
 refine wpAny_bind ?_
 simp only [newExc,newTuple]
 refine wpAny_bind (wpAny_newObj_type ?_ (by size_fits))
 refine wpAny_bind (m:=firstArgMember _ _) (wpAny_of_eq (a:=Value.none) (by first|rfl|(simp only [firstArgMember];rfl)) ?_)
 refine wpAny_newObj_type ?_ (by size_fits)
 exact wpAny_raiseNew_none hh (hE _ _ (((Heap.SameBut.update ..).extBut.push _).push _) ⟨_,Heap.get?_push_size _ rfl,rfl⟩)
end
theorem kj{prog:Program}{w:World}{A:Around}(hh:A.handled=none)(it l:Addr)(hne:l≠it)(items:Array Value):
  Draws prog w A it [it,l] items.size (fun i v=>items[i]? =some v) (fun i h=>h.IsTupleIter it l i∧h.IsTuple l items) where
 live:=fun _ _ st=>let⟨o,ho,_⟩:=st.1;⟨o,ho⟩
 frame:=fun _ _ _ st hk=>⟨st.1.at fun o e=>hk it (by simp) o e,st.2.at fun o e=>hk l (by simp) o e⟩
 item:=fun i s Q E hi st hQ=>by
  refine lg st.1 st.2 (x:=items[i]) (by simp [hi]) fun h' hit' hs'=>?_
  exact hQ _ h' s.toks (by simp [hi]) ⟨hit',st.2.extBut hs'.extBut hne⟩ hs'
 done:=fun s Q E st hE=>mx hh st.1 st.2 (by simp) hE
theorem wB{M:Model}{A:Around}{E:Value→Shared→Prop}{s:Shared}{c:Value}{Q:Bool→Shared→Prop}(h: ∀b,Q b s):wpAny M A (Builtin.SmallTypes.calledThroughType c) Q E s:=by
 unfold Builtin.SmallTypes.calledThroughType
 exact wpAny_bind (wpAny_stack_any fun st=>wpAny_pure (h _))
theorem iR(l:Addr)(items:Array Value)(n:Nat)(dct:Option Addr)(sl:Array (Option Value)):
  Meets (Builtin.«enumerate.__new__» ⟨[.type "enumerate",.ref l],[]⟩) (fun _ R s=>s.heap.get? l=some {cls:= .type "tuple",dict:=dct,data:= .seq items n,slots:=sl}∧
   R (.ok (.ret (.ref (s.heap.push {cls:= .type "tuple_iterator",data:= .fields #[.ref l,.int 0 0]}).objs.size)))
    {s with heap:=(s.heap.push {cls:= .type "tuple_iterator",data:= .fields #[.ref l,.int 0 0]}).push {cls:= .type "enumerate",data:= .fields #[.none,.bool false,.ref s.heap.objs.size,rawInt 0,.none,.none]}}):=
 .of_wp fun prog w A R s h=>by
  refine qH h fun hl h=>?_
  have hsub:=sub_enumerate
  have hL:Heap.IsTuple s.heap l items:=⟨_,hl,rfl,n,rfl⟩
  wp_walk using wpAny_loadPart' hl,wB
  intro b
  cases b<;>(wp_walk using wpAny_loadPart' hl,wpAny_pyIter_tuple hL;exact⟨_,rfl,h⟩)
section
variable{prog:Program}{w:World}{A:Around}{E:Value→Shared→Prop}{s:Shared}
theorem jt{l:Addr}{items:Array Value}{Q:Value→Shared→Prop}(hL:s.heap.IsTuple l items)
  (h: ∀h',IsEnum h' (s.heap.objs.size+1) s.heap.objs.size 0 .none→h'.IsTupleIter s.heap.objs.size l 0→h'.objs.size=s.heap.objs.size+2→
   (∀b o,s.heap.get? b=some o→h'.get? b=some o)→Q (.ref (s.heap.objs.size+1)) {s with heap:=h'}):
  wpAny (model prog w) A (call (.type "enumerate") [.ref l]) Q E s:=by
 refine sw hL fun z1 hl hc n hd=>?_;obtain⟨c,dct,dt,sl⟩:=z1
 replace hc:c= .type "tuple" :=hc
 replace hd:dt= .seq items n:=hd
 subst hc hd
 refine callType_new F.called_enumerate (by decide) (F.typeCall_enumerate_1 _) (F.newCall_enumerate_1 _) (fun obj=>F.args_object_init_2 obj _) F.entry_enumerate_new
  (iR l items n dct sl) ⟨hl,?_⟩
 have hz:(s.heap.push {cls:= .type "tuple_iterator",data:= .fields #[.ref l,.int 0 0]}).objs.size=s.heap.objs.size+1:=Heap.size_push ..
 show _∧_
 rw[hz]
 have he:IsEnum ((s.heap.push {cls:= .type "tuple_iterator",data:= .fields #[.ref l,.int 0 0]}).push
   {cls:= .type "enumerate",data:= .fields #[.none,.bool false,.ref s.heap.objs.size,rawInt 0,.none,.none]}) (s.heap.objs.size+1) s.heap.objs.size 0 .none:=by
  have:=Heap.get?_push_size (s.heap.push {cls:= .type "tuple_iterator",data:= .fields #[.ref l,.int 0 0]})
   (o:={cls:= .type "enumerate",data:= .fields #[.none,.bool false,.ref s.heap.objs.size,rawInt 0,.none,.none]}) rfl
  rw[hz] at this;exact this
 refine⟨⟨_,he,rfl⟩,h _ he ⟨_,Heap.get?_push_of_some _ (Heap.get?_push_size _ rfl),rfl,rfl⟩ (by rw[Heap.size_push,hz]) fun b o x=>Heap.get?_push_of_some _ (Heap.get?_push_of_some _ x)⟩
end
section
variable{prog:Program}{w:World}{H:bg}{os:OsState}{C:Ctx}{call:aw}{n k:Nat}{X:aH}
variable{A:Around}{W W':Wd}{fx fx0 fx':Fz}{Z:Value→Shared→Prop}{s:Shared}{σ:ah}{sc:Scope}{env:PySem.Env}{ρ:Env}
variable{mg mb:PySem.Str→Option Value}{own:List Addr}
theorem rsz{m:Int}(h:0≤m):Builtin.Range.rangeSize 0 m 1=m:=by
 rw[rangeSize_one,Int.sub_zero]
 by_cases h':0<m
 ·exact if_pos h'
 ·exact(if_neg h').trans (Int.le_antisymm h (Int.not_lt.mp h'))
theorem eI{a:Mine.E}{x tgt:Expr}{p pos:Pos}(K:aK H mg mb)(hk:sc.names.lookup (Str.ofString "range")=some .globalImplicit)(hg:mg "range" =none)(hp:aR x=false)
  (h:SE prog w H os C call n X sc a x):SI prog w H os C call n X sc tgt (.range a) (.Call (.Name "range" p) [x] [] pos):=by
 intro A env ρ W fx σ s Q Z rm ew er S hs
 refine ie (id:= "range") K S ew hk hg (by decide+kernel) (by decide) (by decide) hp (h.then rm ew er S hs (fun _ _ x=>x) fun q W' v s' l S' R er' h'=>so h' fun xs e1 hq=>ob e1 fun m hm e1=>qG e1 fun hz e1=>?_)
 apply eV v R hm;intro t
 have hT:=Int.toNat_of_nonneg hz.1
 have hx:xs.length=m.toNat:=by rw[←e1,List.length_map,List.length_range]
 refine call_range_1 (wpAny_pyIter_range (IsRange.new ..) (small_one (by decide) (by decide) (Int.le_trans (by decide) hz.1) (Int.lt_of_le_of_lt hz.2 (by decide+kernel))) ?_)
 refine du.new hq l (S'.ext (tk:=s'.toks+1+1) fun b o e=>Heap.get?_push_of_some _ e) rfl (Walks.range rm.h _ 0 1 m.toNat) (fun b hb=> .inl hb) (fun i h hS=>⟨_,_,_,hS,rfl,rfl,by decide⟩) ?_ hx (by rw[hx];exact Int.ofNat_le.mp (hT.symm▸hz.2)) fun j y hj v W2 l2 hv=>cN hv fun t e=>?_
 ·show IsRangeIter _ _ _ _ _
  rw[rsz hz.1,hT]
  rw[show m-((0:Nat):Int)=m from Int.sub_zero m]
  exact Heap.get?_push_size _ rfl
 ·have hlt:j<m.toNat:=hx▸(List.getElem?_eq_some_iff.mp hj).1
  rw[←e1,List.getElem?_map,List.getElem?_range hlt] at hj
  rw[e,←Option.some.inj hj,Int.mul_one,Int.zero_add]
  exact cr
theorem two{α:Type}{b x y:α}(h:b∈[x,y]):b=x∨b=y:=(List.mem_cons.mp h).imp id List.mem_singleton.mp
theorem rQ{fx:Fz}{x y:Addr}{o o':Obj}(h:fx x=some o)(h':fx y=some o'): ∀b∈[x,y],fx b≠none:=fun b hb e=>(two hb).elim (fun q=>nomatch h.symm.trans ((congrArg fx q).symm.trans e)) fun q=>nomatch h'.symm.trans ((congrArg fx q).symm.trans e)
theorem yz{xs:List V}{j:Nat}{y:V}(h:(xs.zipIdx.map fun p=>V.tup [.int p.2,p.1])[j]? =some y): ∃x,xs[j]? =some x∧y= .tup [.int j,x]:=by
 rw[List.getElem?_map,List.getElem?_zipIdx,Nat.zero_add] at h
 cases e:xs[j]? with
 |none=>rw[e] at h;cases h
 |some x=>rw[e] at h;exact⟨x,rfl,(Option.some.inj h).symm⟩
theorem du.enum{es:List Expr}{ek:Nat}{ep:Pos}{Q:Value→Shared→Prop}{ys xs:List V}{a:Addr}{o:Obj}{vs:List Value}{Sx:Nat→Heap→Prop}{h':Heap}(hq:du prog w H os A (.Tuple es ek ep) W fx Q (xs,σ))(e1:(ys.zipIdx.map fun p=>V.tup [.int p.2,p.1])=xs)(l:W.le W')(S:St prog w H W' fx σ os s)
  (hP:W'.P a=some o)(R:ar prog w H W' ys vs)(hn:ys.length≤cP)(D:Draws prog w A.in1 s.heap.objs.size [s.heap.objs.size,a] vs.toArray.size (fun i v=>vs.toArray[i]? =some v) Sx)(h0:Sx 0 h')(hE:IsEnum h' (s.heap.objs.size+1) s.heap.objs.size 0 .none)(hk: ∀b o,s.heap.get? b=some o→h'.get? b=some o):
  wpAny (model prog w) A (pyIter (.ref (s.heap.objs.size+1))) Q Z {s with heap:=h'}:=by
 have haS:a<s.heap.objs.size:=Heap.lt_size (S.keepP _ _ hP)
 refine wpAny_pyIter_enum hE (cN (D.live _ _ h0) fun oi hoi=>?_)
 have KT:=WalksT.enumerateD D (s.heap.objs.size+1) (Nat.succ_ne_self _) (fun hm=>(two hm).elim (Nat.succ_ne_self _) fun e=>absurd haS (e▸Nat.not_lt.mpr (Nat.le_succ _))) (List.mem_cons_self ..)
 have hx:xs.length=ys.length:=by rw[←e1,List.length_map,List.length_zipIdx]
 refine du.made hq l (S.ext (tk:=s.toks) hk) (fun b hb=>(two hb).elim (fun e=>e▸S.fresh (Nat.le_succ _)) fun e=>e▸S.fresh (Nat.le_refl _)) (rQ (fx:=h'.get?) hE hoi)
  (jw.of_walksT KT (fun b hb=>(List.mem_cons.mp hb).elim (fun e=> .inl (e▸List.mem_cons_self ..)) fun hb=>(ka hP b hb).imp (List.mem_cons_of_mem _) id) fun i h hS=>cN hS.1 fun old q1=>cN (D.live _ _ hS.2) fun oi hoi=>rQ (fx:=h.get?) q1 hoi)
  ⟨0,by rw[hx,List.size_toArray,R.length,Nat.zero_add],⟨⟨_,hE⟩,h0⟩,fun j y hj vals W2 l2 hv=>?_⟩ (by rw[hx];exact hn)
 rw[Nat.zero_add] at hv
 rw[←e1] at hj
 refine cz hv fun t u q1 ev=>aA (yz hj) fun y' q2 ey=>⟨_,ey,?_⟩
 rw[ev]
 exact ar.cons cr (ar.cons ((R.le l2).atArr q2 q1) ar.nil)
theorem r9{a:Mine.E}{x:Expr}{es:List Expr}{ek:Nat}{ep p pos:Pos}(K:aK H mg mb)(hk:sc.names.lookup (Str.ofString "enumerate")=some .globalImplicit)(hg:mg "enumerate" =none)(hp:aR x=false)
  (h:SE prog w H os C call n X sc a x):SI prog w H os C call n X sc (.Tuple es ek ep) (.enum a) (.Call (.Name "enumerate" p) [x] [] pos):=by
 intro A env ρ W fx σ s Q Z rm ew er S hs
 refine ie (id:= "enumerate") K S ew hk hg (by decide+kernel) (by decide) (by decide) hp (h.then rm ew er S hs (fun _ _ x=>x) fun q W' v s' l S' R er' h'=>so h' fun xs e1 hq=>ob e1 fun ys hy e1=>?_)
 apply S'.seqW v R hy;intro a o vs c k hc hPa
 have hne:=Nat.ne_of_lt (Heap.lt_size (S'.keepP _ _ hPa))
 rcases hc with rfl|rfl
 ·exact jt (k.q.isTuple k.g) fun h' hE hI hz hk=>du.enum hq (Option.some.inj e1) l S' hPa k.r k.n (kj (A:=A.in1) rm.h s'.heap.objs.size a hne vs.toArray) ⟨hI,(k.q.isTuple k.g).at fun o e=>hk _ _ e⟩ hE hk
 ·exact call_enumerate_list (k.q.isList k.g) fun h' hE hI hz hk=>du.enum hq (Option.some.inj e1) l S' hPa k.r k.n (Draws.list (A:=A.in1) rm.h s'.heap.objs.size a hne vs.toArray) ⟨hI,(k.q.isList k.g).at fun o e=>hk _ _ e⟩ hE hk
end
end Mine
end
section
namespace Mine
open PySem PySem.W PyProof.Rows PySem.SeqAt PySem.Calls
open AutoSeq1 (wpAny_loadPart')
structure jv(z TI TO i1 i2:Addr)(fp1 fp2:List Addr):Prop where
 TIz:TI≠z
 TOz:TO≠z
 i1z:i1≠z
 i2z:i2≠z
 TITO:TI≠TO
 TIi1:TI≠i1
 TIi2:TI≠i2
 TOi1:TO≠i1
 TOi2:TO≠i2
 i12:i1≠i2
 z1:z∉fp1
 z2:z∉fp2
 TO1:TO∉fp1
 TO2:TO∉fp2
 i21:i2∉fp1
 i12':i1∉fp2
 in1:i1∈fp1
 in2:i2∈fp2
section
variable{prog:Program}{w:World}{A:Around}{E:Value→Shared→Prop}{s:Shared}
theorem dm{it:Addr}{fp:List Addr}{n:Nat}{P:Nat→Value→Prop}{Sx:Nat→Heap→Prop}(D:Draws prog w A it fp n P Sx){i:Nat}{h h':Heap}{a:Addr}(hS:Sx i h)(hs:Heap.SameBut a h h')(ha:a∉fp):Sx i h':=
 D.frame i h h' hS fun b hb o e=>(hs.2 b fun q=>ha (q▸hb)).trans e
theorem xD{h:Heap}{z TI TO e:Addr}{f:Value}{o:Obj}(hz:IsZip h z TI TO f)(ho:h.get? e=some o)(hc:o.cls= .type "StopIteration"):e≠z:=fun x=>by
 rw[x] at ho
 rw[←Option.some.inj (Eq.trans (Eq.symm hz) ho)] at hc
 exact absurd (show Value.type "zip" =Value.type "StopIteration" from hc) (by decide)
noncomputable def lR(z TO i1 i2:Addr)(h h':Heap):Prop:= ∀c o,c≠z→c≠TO→c≠i1→c≠i2→h.get? c=some o→h'.get? c=some o
structure ZOut(z TI TO i1 i2 N k:Nat)(P1 P2:Nat→Value→Prop)(S1 S2:Nat→Heap→Prop)(h h':Heap)(x y:Value):Prop where
 p1:P1 k x
 p2:P2 k y
 gz:IsZip h' z TI TO (rawInt N)
 o:IsPair h' TO x y
 s1:S1 (k+1) h'
 s2:S2 (k+1) h'
 t:IsPair h' N x y
 k:lR z TO i1 i2 h h'
theorem lZ{z TI TO i1 i2:Addr}{fp1 fp2:List Addr}{n1 n2 k:Nat}{P1 P2:Nat→Value→Prop}{S1 S2:Nat→Heap→Prop}{a b:Value}{Q:Value→Shared→Prop}(D:jv z TI TO i1 i2 fp1 fp2)
  (D1:Draws prog w A i1 fp1 n1 P1 S1)(D2:Draws prog w A i2 fp2 n2 P2 S2)
  (hz:IsZip s.heap z TI TO .none)(hTI:IsPair s.heap TI (.ref i1) (.ref i2))(hTO:IsPair s.heap TO a b)(h1:S1 k s.heap)(h2:S2 k s.heap)(hk1:k≤n1)(hk2:k≤n2)
  (hQ:k<n1→k<n2→ ∀h' tk x y,ZOut z TI TO i1 i2 s.heap.objs.size k P1 P2 S1 S2 s.heap h' x y→Q (.ref s.heap.objs.size) {s with heap:=h',toks:=tk})
  (hE:(k=n1∨k=n2)→ ∀h' tk e,lR z TO i1 i2 s.heap h'→(∃o,h'.get? e=some o∧o.cls= .type "StopIteration")→E (.ref e) {s with heap:=h',toks:=tk}):
  wpAny (model prog w) A (Builtin.«zip.__next__» ⟨[.ref z],[]⟩) (fun fin s'=> ∃v,fin= .done (.ret v)∧Q v s') E s:=by
 show wpAny _ _ (field (.ref z) 2>>=_) _ _ _
 refine wpAny_bind (wpAny_field hz rfl (x:= .bool false) rfl ?_)
 show wpAny _ _ (field (.ref z) 3>>=_) _ _ _
 refine wpAny_bind (wpAny_field hz rfl (x:= .ref TI) rfl ?_)
 refine wpAny_bind (wpAny_seqItems hTI rfl ?_)
 show wpAny _ _ (Builtin.SmallTypes.ownedTupleIsFree (.ref z)>>=_) _ _ _
 refine wpAny_bind ?_
 unfold Builtin.SmallTypes.ownedTupleIsFree
 refine wpAny_bind (wpAny_field hz rfl (x:= .none) rfl (wpAny_pure ?_))
 simp only [if_true]
 refine wpAny_bind (wpAny_rule ?_)
 refine wpAny_bind (wpAny_field hz rfl (x:= .ref TO) rfl ?_)
 refine wpAny_bind (wpAny_setField_rec hz (by simp) fun h₁ hz₁ hs₁=>?_)
 replace hz₁:IsZip h₁ z TI TO .ellipsis:=hz₁
 refine wpAny_bind ?_
 simp only [List.zipIdx_cons,List.zipIdx_nil,List.forIn_cons,List.forIn_nil]
 refine wpAny_bind (wpAny_bind (wpAny_onRaise ?_))
 show wpAny _ _ (Builtin.SmallTypes.nextOf (.ref i1)>>=_) _ _ _
 refine(Nat.lt_or_eq_of_le hk1).elim (fun hk1=>?_) fun he1=>?_
 ·refine wpAny_bind (D1.item k _ _ _ hk1 (dm D1 h1 hs₁ D.z1) fun x h₂ tk₂ hP1 h1₂ hs₂=>wpAny_pure ?_)
  have hTO₂:IsPair h₂ TO a b:=hs₂.extBut _ _ D.TOi1 (hs₁.extBut _ _ D.TOz hTO)
  refine wpAny_bind (wpAny_seqItems hTO₂ rfl ?_)
  refine wpAny_bind (wpAny_updateSeq_pair hTO₂ fun h₃ hTO₃ hs₃=>?_)
  replace hTO₃:IsPair h₃ TO x b:=hTO₃
  refine wpAny_bind (wpAny_letGo (wpAny_pure ?_))
  refine wpAny_bind (wpAny_bind (wpAny_onRaise ?_))
  show wpAny _ _ (Builtin.SmallTypes.nextOf (.ref i2)>>=_) _ _ _
  refine(Nat.lt_or_eq_of_le hk2).elim (fun hk2=>?_) fun he2=>?_
  ·refine wpAny_bind (D2.item k _ _ _ hk2 (dm D2 (dm D2 (dm D2 h2 hs₁ D.z2) hs₂ D.i12') hs₃ D.TO2) fun y h₄ tk₄ hP2 h2₄ hs₄=>wpAny_pure ?_)
   have hTO₄:IsPair h₄ TO x b:=hs₄.extBut _ _ D.TOi2 hTO₃
   refine wpAny_bind (wpAny_seqItems hTO₄ rfl ?_)
   refine wpAny_bind (wpAny_updateSeq_pair hTO₄ fun h₅ hTO₅ hs₅=>?_)
   replace hTO₅:IsPair h₅ TO x y:=hTO₅
   refine wpAny_bind (wpAny_letGo (wpAny_pure (wpAny_pure ?_)))
   refine wpAny_bind (wpAny_seqItems hTO₅ rfl ?_)
   refine wpAny_bind (wpAny_newTuple ?_)
   have hsz:h₅.objs.size=s.heap.objs.size:=by rw[hs₅.1,hs₄.1,hs₃.1,hs₂.1,hs₁.1]
   have hz₅:IsZip h₅ z TI TO .ellipsis:=hs₅.extBut _ _ D.TOz.symm (hs₄.extBut _ _ D.i2z.symm (hs₃.extBut _ _ D.TOz.symm (hs₂.extBut _ _ D.i1z.symm hz₁)))
   have hk₅: ∀c o,c≠z→c≠TO→c≠i1→c≠i2→s.heap.get? c=some o→h₅.get? c=some o:=fun c o c1 c2 c3 c4 e=>
    hs₅.extBut _ _ c2 (hs₄.extBut _ _ c4 (hs₃.extBut _ _ c2 (hs₂.extBut _ _ c3 (hs₁.extBut _ _ c1 e))))
   have h1₅:S1 (k+1) h₅:=dm D1 (dm D1 (dm D1 h1₂ hs₃ D.TO1) hs₄ D.i21) hs₅ D.TO1
   have h2₅:S2 (k+1) h₅:=dm D2 h2₄ hs₅ D.TO2
   have hzlt:z<h₅.objs.size:=Heap.lt_size hz₅
   show wpAny _ _ (Builtin.SmallTypes.ownedTupleHandOut (.ref z) (.ref h₅.objs.size)>>=_) _ _ _
   refine wpAny_bind ?_
   unfold Builtin.SmallTypes.ownedTupleHandOut
   have hz₆:IsZip (h₅.push {cls:= .type "tuple",data:= .seq #[x,y]}) z TI TO .ellipsis:=Heap.get?_push_of_some _ hz₅
   refine wpAny_bind (wpAny_setField_rec hz₆ (by simp) fun h₇ hz₇ hs₇=>?_)
   replace hz₇:IsZip h₇ z TI TO (rawInt h₅.objs.size):=hz₇
   refine wpAny_setField_rec hz₇ (by simp) fun h₈ hz₈ hs₈=>?_
   replace hz₈:IsZip h₈ z TI TO (rawInt h₅.objs.size):=hz₈
   have up: ∀c o,c≠z→h₅.get? c=some o→h₈.get? c=some o:=fun c o c1 e=>hs₈.extBut _ _ c1 (hs₇.extBut _ _ c1 (Heap.get?_push_of_some _ e))
   have hT₈:IsPair h₈ h₅.objs.size x y:=hs₈.extBut _ _ (Nat.ne_of_gt hzlt) (hs₇.extBut _ _ (Nat.ne_of_gt hzlt) (Heap.get?_push_size _ rfl))
   have u1:S1 (k+1) h₈:=D1.frame _ _ _ h1₅ fun b hb o e=>up b o (fun q=>D.z1 (q▸hb)) e
   have u2:S2 (k+1) h₈:=D2.frame _ _ _ h2₅ fun b hb o e=>up b o (fun q=>D.z2 (q▸hb)) e
   rw[hsz] at hz₈ hT₈
   refine wpAny_pure ⟨_,rfl,?_⟩
   show Q (.ref h₅.objs.size) _
   rw[hsz]
   exact hQ hk1 hk2 h₈ tk₄ x y ⟨hP1,hP2,hz₈,up _ _ D.TOz hTO₅,u1,u2,hT₈,fun c o c1 c2 c3 c4 e=>up c o c1 (hk₅ c o c1 c2 c3 c4 e)⟩
  ·refine wpAny_bind (D2.done _ _ _ (he2▸dm D2 (dm D2 (dm D2 h2 hs₁ D.z2) hs₂ D.i12') hs₃ D.TO2) fun h₄ e hs₄ he=>aA he fun oe hoe hce=>?_)
   have hz₄:IsZip h₄ z TI TO .ellipsis:=hs₄ _ _ D.i2z.symm (hs₃.extBut _ _ D.TOz.symm (hs₂.extBut _ _ D.i1z.symm hz₁))
   refine wpAny_setField_rec hz₄ (Nat.succ_pos _) fun h₅ _ hs₅=>hE (.inr he2) h₅ _ e (fun c o c1 c2 c3 c4 x=>hs₅.extBut _ _ c1 (hs₄ _ _ c4 (hs₃.extBut _ _ c2 (hs₂.extBut _ _ c3 (hs₁.extBut _ _ c1 x))))) ⟨oe,hs₅.extBut _ _ (xD hz₄ hoe hce) hoe,hce⟩
 ·refine wpAny_bind (D1.done _ _ _ (he1▸dm D1 h1 hs₁ D.z1) fun h₂ e hs₂ he=>aA he fun oe hoe hce=>?_)
  have hz₂:IsZip h₂ z TI TO .ellipsis:=hs₂ _ _ D.i1z.symm hz₁
  refine wpAny_setField_rec hz₂ (Nat.succ_pos _) fun h₃ _ hs₃=>hE (.inl he1) h₃ _ e (fun c o c1 _ c3 _ x=>hs₃.extBut _ _ c1 (hs₂ _ _ c3 (hs₁.extBut _ _ c1 x))) ⟨oe,hs₃.extBut _ _ (xD hz₂ hoe hce) hoe,hce⟩
end
structure ZSt(z TI TO i1 i2:Addr)(S1 S2:Nat→Heap→Prop)(f:Value)(i:Nat)(h:Heap)(a b:Value):Prop where
 gz:IsZip h z TI TO f
 gi:IsPair h TI (.ref i1) (.ref i2)
 o:IsPair h TO a b
 s1:S1 i h
 s2:S2 i h
structure ZMid(z TI TO i1 i2:Addr)(S1 S2:Nat→Heap→Prop)(i:Nat)(T:Addr)(h:Heap):Prop where
 s: ∃a b,ZSt z TI TO i1 i2 S1 S2 (rawInt T) (i+1) h a b
 t1:T≠z
 t2:T≠TO
 t3:T≠i1
 t4:T≠i2
theorem zm{α:Type}{b x y u v:α}{P:Prop}(h:b∈[x,y,u,v])(k1:b=x→P)(k2:b=y→P)(k3:b=u→P)(k4:b=v→P):P:=
 (List.mem_cons.mp h).elim k1 fun h=>(List.mem_cons.mp h).elim k2 fun h=>(two h).elim k3 k4
theorem lR.of{z TO i1 i2:Addr}{h h':Heap}(k:lR z TO i1 i2 h h')(c:Addr)(o:Obj)(hc:c∉[z,TO,i1,i2])(e:h.get? c=some o):h'.get? c=some o:=
 k c o (fun x=>hc (x▸List.mem_cons_self ..)) (fun x=>hc (x▸List.mem_cons_of_mem _ (List.mem_cons_self ..))) (fun x=>hc (x▸List.mem_cons_of_mem _ (List.mem_cons_of_mem _ (List.mem_cons_self ..)))) (fun x=>hc (x▸List.mem_cons_of_mem _ (List.mem_cons_of_mem _ (List.mem_cons_of_mem _ (List.mem_cons_self ..))))) e
theorem tF{prog:Program}{w:World}{A:Around}{z TI TO i1 i2:Addr}{fp1 fp2:List Addr}{n1 n2:Nat}{P1 P2:Nat→Value→Prop}{S1 S2:Nat→Heap→Prop}(D:jv z TI TO i1 i2 fp1 fp2)
  (D1:Draws prog w A.in1 i1 fp1 n1 P1 S1)(D2:Draws prog w A.in1 i2 fp2 n2 P2 S2):
  WalksT prog w A z (z::TI::TO::(fp1++fp2)) [z,TO,i1,i2] (min n1 n2)
   (fun i vals=> ∃x y,P1 i x∧P2 i y∧vals=#[x,y])
   (fun i h=> ∃a b,ZSt z TI TO i1 i2 S1 S2 .none i h a b)
   (ZMid z TI TO i1 i2 S1 S2) where
 sub:=fun c hc=>zm hc (fun e=>e▸List.mem_cons_self ..) (fun e=>e▸List.mem_cons_of_mem _ (List.mem_cons_of_mem _ (List.mem_cons_self ..))) (fun e=>e▸List.mem_cons_of_mem _ (List.mem_cons_of_mem _ (List.mem_cons_of_mem _ (List.mem_append_left _ D.in1)))) fun e=>e▸List.mem_cons_of_mem _ (List.mem_cons_of_mem _ (List.mem_cons_of_mem _ (List.mem_append_right _ D.in2)))
 frame:=fun i h h' hst hk=>qt hst fun a b k=>⟨a,b,hk z (List.mem_cons_self ..) _ k.gz,hk TI (List.mem_cons_of_mem _ (List.mem_cons_self ..)) _ k.gi,hk TO (List.mem_cons_of_mem _ (List.mem_cons_of_mem _ (List.mem_cons_self ..))) _ k.o,
  D1.frame _ _ _ k.s1 fun b hb o e=>hk b (List.mem_cons_of_mem _ (List.mem_cons_of_mem _ (List.mem_cons_of_mem _ (List.mem_append_left _ hb)))) o e,D2.frame _ _ _ k.s2 fun b hb o e=>hk b (List.mem_cons_of_mem _ (List.mem_cons_of_mem _ (List.mem_cons_of_mem _ (List.mem_append_right _ hb)))) o e⟩
 item:=fun i s Q E hi hst hQ=>by
  refine iF fun nG=>qt hst fun a b K=>cN (D1.live _ _ K.s1) fun _ l1=>cN (D2.live _ _ K.s2) fun _ l2=>nG ?_
  have hT:s.TypeIs (.ref z) "zip" :=⟨_,K.gz,rfl⟩
  have lt1:i<n1:=Nat.lt_of_lt_of_le hi (Nat.min_le_left ..)
  have lt2:i<n2:=Nat.lt_of_lt_of_le hi (Nat.min_le_right ..)
  have lt: ∀{c o},s.heap.get? c=some o→s.heap.objs.size≠c:=fun e=>Nat.ne_of_gt (Heap.lt_size e)
  unfold pyNext
  exact wpAny_bind (wpAny_attempt (wpAny_callSpecial?_slot (name:=Str.ofString "__next__") hT F.slot_zip_next
   (wpAny_call_entry F.slot_zip_next hT F.entry_zip_next
    (lZ D D1 D2 K.gz K.gi K.o K.s1 K.s2 (Nat.le_of_lt lt1) (Nat.le_of_lt lt2) (fun _ _ h' tk x y O=>wpAny_pure (hQ s.heap.objs.size #[x,y] h' tk ⟨x,y,O.p1,O.p2,rfl⟩ (Nat.le_refl _) ⟨_,O.t,rfl,_,rfl⟩
   ⟨⟨_,_,O.gz,O.k _ _ D.TIz D.TITO D.TIi1 D.TIi2 K.gi,O.o,O.s1,O.s2⟩,lt K.gz,lt K.o,lt l1,lt l2⟩ O.k.of)) fun h=>absurd h (not_or.mpr ⟨Nat.ne_of_lt lt1,Nat.ne_of_lt lt2⟩)) (F.args_zip_next_1 _))))
 go:=fun elts k pos i T s Q E hm hQ=>qt hm.s fun a b K=>wpAny_letOwnedTupleGo_zip K.gz fun h' hz' hs'=>hQ h' ⟨a,b,hz',hs'.extBut _ _ D.TIz K.gi,hs'.extBut _ _ D.TOz K.o,dm D1 K.s1 hs' D.z1,dm D2 K.s2 hs' D.z2⟩ fun c o hc e=>hs'.extBut _ _ (fun x=>hc (x▸List.mem_cons_self ..)) e
 apart:=fun i T h hm hT=>zm hT hm.t1 hm.t2 hm.t3 hm.t4
 done:=fun s Q E hst hQ=>by
  refine iF fun nG=>qt hst fun a b K=>nG ?_
  have hT:s.TypeIs (.ref z) "zip" :=⟨_,K.gz,rfl⟩
  unfold pyNext
  exact wpAny_bind (wpAny_attempt (wpAny_callSpecial?_slot (name:=Str.ofString "__next__") hT F.slot_zip_next
   (wpAny_call_entry F.slot_zip_next hT F.entry_zip_next (lZ D D1 D2 K.gz K.gi K.o K.s1 K.s2 (Nat.min_le_left ..) (Nat.min_le_right ..) (fun l1 l2=>absurd (Nat.lt_min.mpr ⟨l1,l2⟩) (Nat.lt_irrefl _)) fun _ h' tk e hk he=>aA he fun o ho hc=>
    wpAny_bind (wpAny_isInstance (T:= "StopIteration") (b:=true) ⟨o,ho,hc⟩ isSubtype_stop (wpAny_pure (hQ _ _ hk.of)))) (F.args_zip_next_1 _))))
 self:=fun i s Q E hst hQ=>qt hst fun a b K=>wpAny_pyIter_zip K.gz hQ
end Mine
end
section
namespace Mine
open PySem PySem.W PyProof.Rows PySem.SeqAt PySem.Calls
open AutoSeq1 (wpAny_loadPart')
theorem pK:entryFor table "dict_itemiterator.__iter__" =some Builtin.«dict_keyiterator.__iter__» :=
 entryFor_alias (id':= "dict_keyiterator.__iter__") (by kernel_rfl) rfl (by decide+kernel) (by kernel_rfl)
theorem vM{prog:Program}{w:World}{A:Around}(hh:A.handled=none){it d:Addr}(hne:d≠it)(kvs:List (Int×Value))(ep:Nat):
  WalksT prog w A it [it,d] [it] kvs.length
   (fun i vals=> ∃k v t,kvs[i]? =some (k,v)∧vals=#[.int k t,v])
   (fun i h=>(∃ok ov,IsItemIter h it d i kvs.length ep ok ov)∧h.DictAt (intKind prog w) d kvs ep)
   (fun i T h=>(∃ok ov,IsItemIterOut h it d (i+1) kvs.length ep ok ov T)∧h.DictAt (intKind prog w) d kvs ep∧T≠it) where
 sub:=fun c hc=>List.mem_singleton.mp hc▸List.mem_cons_self ..
 frame:=fun i h h' hst hk=>qt hst.1 fun ok ov h1=>⟨⟨ok,ov,hk it (List.mem_cons_self ..) _ h1⟩,hst.2.at' fun o e=>hk d (List.mem_cons_of_mem _ (List.mem_cons_self ..)) o e⟩
 item:=fun i s Q E hi hst hQ=>qt hst.1 fun ok ov h1=>wpAny_pyNext_items_item h1 hst.2 (List.getElem?_eq_getElem hi) fun key h' hkey ho hT hz hk=>by
  revert ho hT
  apply EA key (Value.isInt_shape hkey);intro t ho hT
  exact hQ s.heap.objs.size #[.int kvs[i].1 t,kvs[i].2] h' s.toks ⟨_,_,t,List.getElem?_eq_getElem hi,rfl⟩ (Nat.le_refl _) ⟨_,hT,rfl,_,rfl⟩
   ⟨⟨_,_,ho⟩,hst.2.at' fun o e=>hk d o hne e,Nat.ne_of_gt (Heap.lt_size h1)⟩ fun c o hc e=>hk c o (fun q=>hc (List.mem_singleton.mpr q)) e
 go:=fun elts k pos i T s Q E hm hQ=>qt hm.1 fun ok ov h1=>wpAny_letOwnedTupleGo_items h1 fun h' h1' hs=>hQ h' ⟨⟨ok,ov,h1'⟩,hm.2.1.at' fun o e=>(hs.2 d hne).trans e⟩ fun c o hc e=>(hs.2 c fun q=>hc (List.mem_singleton.mpr q)).trans e
 apart:=fun i T h hm hT=>hm.2.2 (List.mem_singleton.mp hT)
 done:=fun s Q E hst hQ=>qt hst.1 fun ok ov h1=>wpAny_pyNext_items_end hh h1 hst.2 (List.getElem?_eq_none (Nat.le_refl _)) fun h' hx=>hQ h' s.toks fun c o hc e=>hx c o (fun q=>hc (List.mem_singleton.mpr q)) e
 self:=fun i s Q E hst hQ=>qt hst.1 fun ok ov h1=>by
  have hT:s.TypeIs (.ref it) "dict_itemiterator" :=⟨_,h1,rfl⟩
  refine wpAny_pyIter_slot hT F.slot_dict_itemiterator_iter (wpAny_call_entry F.slot_dict_itemiterator_iter hT pK ?_ (F.args_dict_itemiterator_iter_1 _))
  show wpAny _ _ (ret (.ref it)) _ _ s
  exact wpAny_pure ⟨_,rfl, "dict_itemiterator",_,hT,F.slot_dict_itemiterator_next.lookup,hQ⟩
section
variable{prog:Program}{w:World}{H:bg}{os:OsState}{C:Ctx}{call:aw}{n k:Nat}{X:aH}
variable{A:Around}{W W':Wd}{fx fx0 fx':Fz}{Z:Value→Shared→Prop}{s:Shared}{σ:ah}{sc:Scope}{env:PySem.Env}{ρ:Env}
variable{mg mb:PySem.Str→Option Value}{own:List Addr}
theorem sH{α β:Type}{l:List α}{f:α→β}{j:Nat}{y:β}(h:(l.map f)[j]? =some y): ∃p,l[j]? =some p∧f p=y:=by
 rw[List.getElem?_map] at h
 exact Option.map_eq_some_iff.mp h
theorem rL{ks:List Int}{ys:List V}{vs:List Value}{j:Nat}{y:V}{k:Int}{v:Value}(R:ar prog w H W ys vs)(h:((ks.zip ys).map fun p=>V.tup [.int p.1,p.2])[j]? =some y)(g:(ks.zip vs)[j]? =some (k,v)): ∃u,y= .tup [.int k,u]∧bj prog w H W u v:=
 aA (sH h) fun p hp e=>aA (R.get (List.getElem?_zip_eq_some.mp hp).2) fun u hu Ru=>⟨p.2,by
  rw[←e,Option.some.inj ((List.getElem?_zip_eq_some.mp hp).1.symm.trans (List.getElem?_zip_eq_some.mp g).1)],(Option.some.inj (hu.symm.trans (List.getElem?_zip_eq_some.mp g).2):u=v)▸Ru⟩
theorem tV{a:Mine.E}{x:Expr}{es:List Expr}{ek:Nat}{ep ap pos:Pos}(hc:k9 x=true)(hline:(ap.endLine==pos.line)=true)(h:SE prog w H os C call n X sc a x):
  SI prog w H os C call n X sc (.Tuple es ek ep) (.items a) (.Call (.Attribute x "items" ap) [] [] pos):=by
 intro A env ρ W fx σ s Q Z rm ew er S hs
 refine wpAny_Call_method_lateS (kz hc) (mG (by rfl) (by decide)) hline (h.then rm ew er S hs (fun _ _ x=>x) fun q W' v s' l S' R er' h'=>so h' fun xs e1 hq=>ob e1 fun d hd e1=>?_)
 rw[mJ hd] at R
 refine iF fun nG=>jC R fun a o vs k=>ir k.q fun d1 es' ep' d2 d3 d4 d5=>nG ?_
 rw[k.e]
 have g:=S'.keepP _ _ k.p
 have hD:=k.q.of g
 have hm:s'.heap.DictAt (intKind prog w) a (d.1.zip vs) ep':=⟨o,es',g,d1,d2,d3,d4,d5⟩
 refine⟨"dict", "dict.items",F.plainAttrs_dict,F.slot_dict_items,F.type_dict_items,hD.typeIs,fun b e=>⟨o,Value.ref.inj e▸g,d1.2.1⟩,callWith_builtin (dH (by rfl)) (cJ (by rfl) ?_)⟩
 rw[bn (by rfl)]
 refine spliced_nil (call_meetsIn F.slot_dict_items hD.typeIs F.entry_dict_items (F.args_dict_items_1 _) (meets_dict_items (intKind prog w) a k.m) ⟨⟨_,hD⟩,?_⟩)
 have hm2:(s'.heap.push {cls:= .type "dict_items",data:= .fields #[.ref a]}).DictAt (intKind prog w) a (d.1.zip vs) ep':=hm.at' fun o e=>Heap.get?_push_of_some _ e
 refine wpAny_pyIter_items ⟨_,Heap.get?_push_size _ rfl,rfl,rfl⟩ hm2 ?_
 have hx:xs.length=d.1.length:=by rw[←Option.some.inj e1,List.length_map,List.length_zip,k.l,Nat.min_self]
 have S1:=S'.push {cls:= .type "dict_items",data:= .fields #[.ref a]}
 refine du.made hq l (S1.push _) (fun b hb=>List.mem_singleton.mp hb▸S1.fresh (Nat.le_refl _)) (gm (fx:=Heap.get? _) (Heap.get?_push_size _ rfl)) (jw.of_walksT (vM (prog:=prog) (w:=w) rm.h (Nat.ne_of_lt (by rw[Heap.size_push];exact Nat.lt_succ_of_lt (Heap.lt_size g))) (d.1.zip vs) ep') (ka k.p) fun i h hS=>qt hS.1 fun ok ov q=>gm (fx:=h.get?) q)
  ⟨0,by rw[hx,List.length_zip,k.r.length,k.l,Nat.min_self,Nat.zero_add],⟨⟨_,_,Heap.get?_push_size _ rfl⟩,hm2.at' fun o e=>Heap.get?_push_of_some _ e⟩,fun j y hj vals W2 l2 hv=>?_⟩ (by rw[hx,k.l];exact k.n)
 rw[Nat.zero_add] at hv
 rw[←Option.some.inj e1] at hj
 refine je hv fun k' v' t q1 ev=>aA (rL k.r hj q1) fun u ey hu=>⟨_,ey,?_⟩
 rw[ev]
 exact ar.cons cr (ar.cons (hu.le l2) ar.nil)
end
end Mine
end
section
namespace Mine
open PySem PySem.W PyProof.Rows PySem.SeqAt PySem.Calls
open AutoSeq1 (wpAny_loadPart')
noncomputable def xR(c:String)(l:Addr):Obj:={cls:= .type c,data:= .fields #[.ref l,.int 0 0]}
noncomputable def dP(c:String):String:=if c= "tuple" then "tuple_iterator" else "list_iterator"
theorem oV{prog:Program}{w:World}{A:Around}{E:Value→Shared→Prop}{s:Shared}{c:String}{o:Obj}{vs:List Value}{l:Addr}{Q:Value→Shared→Prop}(hc:c= "tuple" ∨c= "list")(x:br c o vs)(ho:s.heap.get? l=some o)
  (hQ:Q (.ref s.heap.objs.size) {s with heap:=s.heap.push (xR (dP c) l)}):wpAny (model prog w) A (pyIter (.ref l)) Q E s:=by
 rcases hc with rfl|rfl
 ·exact wpAny_pyIter_tuple (x.isTuple ho) hQ
 ·exact wpAny_pyIter_list (x.isList ho) hQ
theorem jI{prog:Program}{w:World}{A:Around}{c:String}{o:Obj}{vs:List Value}{l it:Addr}(hh:A.handled=none)(hc:c= "tuple" ∨c= "list")(x:br c o vs)(hne:l≠it):
  ∃Sx,Draws prog w A it [it,l] vs.toArray.size (fun i v=>vs.toArray[i]? =some v) Sx∧ ∀h:Heap,h.get? l=some o→h.get? it=some (xR (dP c) l)→Sx 0 h:=by
 rcases hc with rfl|rfl
 ·exact⟨_,kj hh it l hne vs.toArray,fun h h1 h2=>⟨⟨_,h2,rfl,rfl⟩,x.isTuple h1⟩⟩
 ·exact⟨_,Draws.list hh it l hne vs.toArray,fun h h1 h2=>⟨⟨_,h2,rfl,rfl⟩,x.isList h1⟩⟩
noncomputable abbrev zH1(c1:String)(h:Heap)(l1:Addr):Heap:=h.push (xR (dP c1) l1)
noncomputable abbrev zH2(c1 c2:String)(h:Heap)(l1 l2:Addr):Heap:=(zH1 c1 h l1).push (xR (dP c2) l2)
noncomputable abbrev zH3(c1 c2:String)(h:Heap)(l1 l2:Addr):Heap:=(zH2 c1 c2 h l1 l2).push {cls:= .type "tuple",data:= .seq #[.ref h.objs.size,.ref (zH1 c1 h l1).objs.size]}
noncomputable abbrev zH4(c1 c2:String)(h:Heap)(l1 l2:Addr):Heap:=(zH3 c1 c2 h l1 l2).push {cls:= .type "tuple",data:= .seq #[.none,.none]}
noncomputable abbrev FL(c1 c2:String)(h:Heap)(l1 l2:Addr):Heap:=(zH4 c1 c2 h l1 l2).push {cls:= .type "zip",data:= .fields #[.none,.bool false,.bool false,.ref (zH2 c1 c2 h l1 l2).objs.size,.ref (zH3 c1 c2 h l1 l2).objs.size]}
theorem qI(l1 l2:Addr)(c1 c2:String)(o1 o2:Obj)(vs1 vs2:List Value)(hc1:c1= "tuple" ∨c1= "list")(hc2:c2= "tuple" ∨c2= "list")(x1:br c1 o1 vs1)(x2:br c2 o2 vs2):
  Meets (Builtin.«zip.__new__» ⟨[.type "zip",.ref l1,.ref l2],[]⟩) (fun _ R s=>s.heap.get? l1=some o1∧s.heap.get? l2=some o2∧
   R (.ok (.ret (.ref (zH4 c1 c2 s.heap l1 l2).objs.size))) {s with heap:=FL c1 c2 s.heap l1 l2}):=
 .of_wp fun prog w A R s h=>by
  obtain⟨hp,g,d,tk,os⟩:=s;refine FO h fun hl1 hl2 h=>?_
  have hsub:=sub_zip
  have hL1:(Shared.heap ⟨hp,g,d,tk,os⟩).get? l1=some o1:=hl1
  have hL2:(Shared.heap ⟨hp.push (xR (dP c1) l1),g,d,tk,os⟩).get? l2=some o2:=Heap.get?_push_of_some _ hl2
  wp_walk using oV hc1 x1 hL1,oV hc2 x2 hL2
  exact⟨_,rfl,h⟩
section
variable{prog:Program}{w:World}{H:bg}{os:OsState}{C:Ctx}{call:aw}{n k:Nat}{X:aH}
variable{A:Around}{W W':Wd}{fx fx0 fx':Fz}{Z:Value→Shared→Prop}{s:Shared}{σ:ah}{sc:Scope}{env:PySem.Env}{ρ:Env}
variable{mg mb:PySem.Str→Option Value}{own:List Addr}
structure FE(N:Addr)(o1 o2:Obj)(h h':Heap):Prop where
 z:IsZip h' (N+4) (N+2) (N+3) .none
 i:IsPair h' (N+2) (.ref N) (.ref (N+1))
 o:IsPair h' (N+3) .none .none
 i1:h'.get? N=some o1
 i2:h'.get? (N+1)=some o2
 k: ∀c o,h.get? c=some o→h'.get? c=some o
theorem iE{l1 l2:Addr}{c1 c2:String}{o1 o2:Obj}{vs1 vs2:List Value}{Q:Value→Shared→Prop}(hc1:c1= "tuple" ∨c1= "list")(hc2:c2= "tuple" ∨c2= "list")(x1:br c1 o1 vs1)(x2:br c2 o2 vs2)(hl1:s.heap.get? l1=some o1)(hl2:s.heap.get? l2=some o2)
  (h: ∀h',FE s.heap.objs.size (xR (dP c1) l1) (xR (dP c2) l2) s.heap h'→Q (.ref (s.heap.objs.size+4)) {s with heap:=h'}):
  wpAny (model prog w) A (PySem.call (.type "zip") [.ref l1,.ref l2]) Q Z s:=by
 refine callType_new F.called_zip (by decide) (F.typeCall_zip_2 _ _) (F.newCall_zip_2 _ _) (fun obj=>F.args_object_init_3 obj _ _) F.entry_zip_new
  (qI l1 l2 c1 c2 o1 o2 vs1 vs2 hc1 hc2 x1 x2) ⟨hl1,hl2,?_⟩
 have z1:(zH1 c1 s.heap l1).objs.size=s.heap.objs.size+1:=Heap.size_push ..
 have z2:(zH2 c1 c2 s.heap l1 l2).objs.size=s.heap.objs.size+2:=by rw[Heap.size_push,z1]
 have z3:(zH3 c1 c2 s.heap l1 l2).objs.size=s.heap.objs.size+3:=by rw[Heap.size_push,z2]
 have z4:(zH4 c1 c2 s.heap l1 l2).objs.size=s.heap.objs.size+4:=by rw[Heap.size_push,z3]
 have g5:(FL c1 c2 s.heap l1 l2).get? (zH4 c1 c2 s.heap l1 l2).objs.size=some _:=Heap.get?_push_size _ rfl
 have g4:(FL c1 c2 s.heap l1 l2).get? (zH3 c1 c2 s.heap l1 l2).objs.size=some _:=Heap.get?_push_of_some _ (Heap.get?_push_size _ rfl)
 have g3:(FL c1 c2 s.heap l1 l2).get? (zH2 c1 c2 s.heap l1 l2).objs.size=some _:=Heap.get?_push_of_some _ (Heap.get?_push_of_some _ (Heap.get?_push_size _ rfl))
 have g2:(FL c1 c2 s.heap l1 l2).get? (zH1 c1 s.heap l1).objs.size=some (xR (dP c2) l2):=Heap.get?_push_of_some _ (Heap.get?_push_of_some _ (Heap.get?_push_of_some _ (Heap.get?_push_size _ rfl)))
 have g1:(FL c1 c2 s.heap l1 l2).get? s.heap.objs.size=some (xR (dP c1) l1):=Heap.get?_push_of_some _ (Heap.get?_push_of_some _ (Heap.get?_push_of_some _ (Heap.get?_push_of_some _ (Heap.get?_push_size _ rfl))))
 show _∧_
 rw[z2,z3,z4] at g5
 rw[z1,z2] at g3
 rw[z3] at g4
 rw[z1] at g2
 rw[z4]
 exact⟨⟨_,g5,rfl⟩,h _ ⟨g5,g3,g4,g1,g2,fun c o x=>
  Heap.get?_push_of_some _ (Heap.get?_push_of_some _ (Heap.get?_push_of_some _ (Heap.get?_push_of_some _ (Heap.get?_push_of_some _ x))))⟩⟩
theorem jd{xs ys:List V}:(iL xs ys).length=min xs.length ys.length:=by rw[iL,List.length_map,List.length_zip]
theorem eX{N i j:Nat}(h:i≠j):N+i≠N+j:=fun e=>h (Nat.add_left_cancel e)
theorem mA{N a:Nat}(h:a<N)(i:Nat):N+i≠a:=fun e=>absurd h (e▸Nat.not_lt.mpr (Nat.le_add_right _ _))
theorem uK{fx:Fz}{x y u v:Addr}{o1 o2 o3 o4:Obj}(h1:fx x=some o1)(h2:fx y=some o2)(h3:fx u=some o3)(h4:fx v=some o4): ∀b∈[x,y,u,v],fx b≠none:=fun b hb e=>
 zm hb (fun q=>nomatch h1.symm.trans ((congrArg fx q).symm.trans e)) (fun q=>nomatch h2.symm.trans ((congrArg fx q).symm.trans e)) (fun q=>nomatch h3.symm.trans ((congrArg fx q).symm.trans e)) fun q=>nomatch h4.symm.trans ((congrArg fx q).symm.trans e)
theorem vL{N a1 a2:Addr}(n1:a1<N)(n2:a2<N):jv (N+4) (N+2) (N+3) N (N+1) [N,a1] [N+1,a2]:=
 have no: ∀{i j:Nat} {a:Addr},i≠j→a<N→N+i∉[N+j,a]:=fun hij ha h=>(two h).elim (eX hij) (mA ha _)
 ⟨eX (i:=2) (j:=4) (by decide),eX (i:=3) (j:=4) (by decide),eX (i:=0) (j:=4) (by decide),eX (i:=1) (j:=4) (by decide),eX (i:=2) (j:=3) (by decide),eX (i:=2) (j:=0) (by decide),eX (i:=2) (j:=1) (by decide),eX (i:=3) (j:=0) (by decide),eX (i:=3) (j:=1) (by decide),eX (i:=0) (j:=1) (by decide),
  no (i:=4) (j:=0) (by decide) n1,no (i:=4) (j:=1) (by decide) n2,no (i:=3) (j:=0) (by decide) n1,no (i:=3) (j:=1) (by decide) n2,no (i:=1) (j:=0) (by decide) n1,no (i:=0) (j:=1) (by decide) n2,List.mem_cons_self ..,List.mem_cons_self ..⟩
noncomputable def uf(N:Addr):Obj:={cls:= .type "tuple",data:= .seq #[.ref N,.ref (N+1)]}
theorem du.zip{a1 a2:Addr}{c1 c2:String}{o1 o2:Obj}{vs1 vs2:List Value}{xs ys:List V}{es:List Expr}{ek:Nat}{ep:Pos}{h':Heap}{Q:Value→Shared→Prop}(hq:du prog w H os A (.Tuple es ek ep) W fx Q (iL xs ys,σ))(hh:A.handled=none)(l:W.le W')(S:St prog w H W' fx σ os s)(hc1:c1= "tuple" ∨c1= "list")(hc2:c2= "tuple" ∨c2= "list")
  (x1:SeqAt prog w H W' s c1 xs a1 o1 vs1)(x2:SeqAt prog w H W' s c2 ys a2 o2 vs2)(p1:W'.P a1=some o1)(p2:W'.P a2=some o2)(K:FE s.heap.objs.size (xR (dP c1) a1) (xR (dP c2) a2) s.heap h'):wpAny (model prog w) A (pyIter (.ref (s.heap.objs.size+4))) Q Z {s with heap:=h'}:=by
 refine wpAny_pyIter_zip K.z (iF fun nG=>aA (jI (prog:=prog) (w:=w) (A:=A.in1) (it:=s.heap.objs.size) (l:=a1) hh hc1 x1.q (Nat.ne_of_lt (Heap.lt_size x1.g))) fun Sx1 D1 d1=>
  aA (jI (prog:=prog) (w:=w) (A:=A.in1) (it:=s.heap.objs.size+1) (l:=a2) hh hc2 x2.q (Nat.ne_of_lt (Nat.lt_succ_of_lt (Heap.lt_size x2.g)))) fun Sx2 D2 d2=>nG ?_)
 have fr: ∀i,cC H W' fx (s.heap.objs.size+i):=fun i=>S.fresh (Nat.le_add_right _ _)
 have l2:W'.le (W'.fix (s.heap.objs.size+2) (uf s.heap.objs.size)):=Wd.le_fix (fr 2).P
 have f2: ∀i,i≠2→cC H (W'.fix (s.heap.objs.size+2) (uf s.heap.objs.size)) fx (s.heap.objs.size+i):=fun i hi=>⟨(Fz.add_ne _ _ (eX hi)).trans (fr i).P,(fr i).fx,(fr i).ads,(fr i).tab⟩
 have gT:(W'.fix (s.heap.objs.size+2) (uf s.heap.objs.size)).P (s.heap.objs.size+2)=some (uf s.heap.objs.size):=Fz.add_self ..
 refine du.made hq (l.trans l2) ((S.ext (tk:=s.toks) K.k).fix (fr 2) K.i) (fun b hb=>zm hb (fun e=>e▸f2 4 (by decide)) (fun e=>e▸f2 3 (by decide)) (fun e=>e▸f2 0 (by decide)) fun e=>e▸f2 1 (by decide)) (uK (fx:=h'.get?) K.z K.o K.i1 K.i2)
  (jw.of_walksT (tF (vL (Heap.lt_size x1.g) (Heap.lt_size x2.g)) D1 D2) (fun b hb=>(List.mem_cons.mp hb).elim (fun e=> .inl (e▸List.mem_cons_self ..)) fun hb=>(List.mem_cons.mp hb).elim (fun e=> .inr fun q=>nomatch gT.symm.trans ((congrArg (W'.fix (s.heap.objs.size+2) (uf s.heap.objs.size)).P e).symm.trans q)) fun hb=>(List.mem_cons.mp hb).elim (fun e=> .inl (e▸List.mem_cons_of_mem _ (List.mem_cons_self ..)))
   fun hb=>(List.mem_append.mp hb).elim (fun hb=>(ka (l2.P _ _ p1) b hb).imp (fun h=>List.mem_cons_of_mem _ (List.mem_cons_of_mem _ (List.mem_cons.mpr (.inl (List.mem_singleton.mp h))))) id) fun hb=>(ka (l2.P _ _ p2) b hb).imp (fun h=>List.mem_cons_of_mem _ (List.mem_cons_of_mem _ (List.mem_cons_of_mem _ h))) id)
   fun i h hS=>qt hS fun a b k=>cN (D1.live _ _ k.s1) fun _ q1=>cN (D2.live _ _ k.s2) fun _ q2=>uK (fx:=h.get?) k.gz k.o q1 q2)
  ⟨0,by rw[jd,List.size_toArray,List.size_toArray,x1.r.length,x2.r.length,Nat.zero_add],⟨_,_,K.z,K.i,K.o,d1 h' (K.k _ _ x1.g) K.i1,d2 h' (K.k _ _ x2.g) K.i2⟩,fun j y hj vals W2 lw hv=>?_⟩ (by rw[jd];exact Nat.le_trans (Nat.min_le_left ..) x1.n)
 rw[Nat.zero_add] at hv
 refine cI hv fun u1 u2 q1 q2 ev=>aA (sH hj) fun p hp ey=>⟨_,ey.symm,?_⟩
 rw[ev]
 exact ar.cons ((x1.r.le (l2.trans lw)).atArr (List.getElem?_zip_eq_some.mp hp).1 q1) (ar.cons ((x2.r.le (l2.trans lw)).atArr (List.getElem?_zip_eq_some.mp hp).2 q2) ar.nil)
theorem yy{x y:V}{l:List V}{P:Prop}(h:zJ x y=some l)(k: ∀xs ys,seqV x=some xs→seqV y=some ys→iL xs ys=l→P):P:=ob h fun xs hx h=>ob h fun ys hy h=>k xs ys hx (show(e9 y).or _=_ by rw[hy];rfl) (Option.some.inj h)
theorem qq{f:PySem.Str}{id:String}{x y:Expr}{p pos:Pos}(K:aK H mg mb)(S:St prog w H W fx σ os s){env:PySem.Env}(ew:EnvW sc env)(hk:sc.names.lookup f=some .globalImplicit)(hg:mg f=none)(hb:bootBuiltins f=some (.type id))
  (hn:f≠ "__name__")(hd:(f==("__debug__" :PySem.Str))=false)(hp:aR x=false)(hp2:aR y=false){Q:Value→Shared→Prop}(h:wpAny (model prog w) A (eval x env) (fun v s₁=>wpAny (model prog w) A (eval y env) (fun u s₂=>wpAny (model prog w) A (PySem.call (.type id) [v,u]) Q Z s₂) Z s₁) Z s):
  wpAny (model prog w) A (eval (.Call (.Name f p) [x,y] [] pos) env) Q Z s:=by
 have hp':[x,y].any aR=false:=by rw[List.any_cons,List.any_cons,hp,hp2];rfl
 refine Call_Name rfl (gu K S ew hk hg hb hn (PyProof.Rows.callWith_type (dH hp') (cJ hp' ?_)) hd)
 rw[bn hp']
 exact spliced_cons (wpAny_mono h (fun v s₁ h₁=>spliced_cons (wpAny_mono h₁ (fun u s₂ h₂=>spliced_nil h₂) fun _ _ e=>e)) fun _ _ e=>e)
theorem z7{a b:Mine.E}{x y:Expr}{es:List Expr}{ek:Nat}{ep p pos:Pos}(K:aK H mg mb)(hk:sc.names.lookup (Str.ofString "zip")=some .globalImplicit)(hg:mg "zip" =none)(hp:aR x=false)(hp2:aR y=false)
  (ha:SE prog w H os C call n X sc a x)(hb:SE prog w H os C call n X sc b y):SI prog w H os C call n X sc (.Tuple es ek ep) (.zip a b) (.Call (.Name "zip" p) [x,y] [] pos):=by
 intro A env ρ W fx σ s Q Z rm ew er S hs
 refine qq (id:= "zip") K S ew hk hg (by decide+kernel) (by decide) (by decide) hp hp2 (ha.then rm ew er S hs (fun _ _ x=>x) fun q W' v s' l S' R er' h'=>?_)
 refine hb.then rm ew er' S' h' (fun _ _ x=>x.le l) fun q2 W2 u s2 l2 S2 R2 er2 h2=>so h2 fun xs e1 hq=>yy e1 fun ys zs hy hz ez=>?_
 have hq':=(congrArg (du prog w H os A (.Tuple es ek ep) W fx Q) (congrArg (·,q2.2) ez)).mpr hq
 apply S2.seqW v (R.le l2) hy;intro a1 o1 vs1 c1 x1 hc1 p1
 apply S2.seqW u R2 hz;intro a2 o2 vs2 c2 x2 hc2 p2
 exact iE hc1 hc2 x1.q x2.q x1.g x2.g fun h' K=>du.zip hq' rm.h (l.trans l2) S2 hc1 hc2 x1 x2 p1 p2 K
end
end Mine
end
section
namespace Mine
open PySem PySem.W PyProof.Rows PySem.SeqAt PySem.Calls
noncomputable def iO:Obj:={cls:= .type "cell",data:= .cell none}
theorem ci{α β:Type} [BEq α] [LawfulBEq α]{x:α}{b:β}{r:List (α×β)}:((x,b)::r).lookup x=some b:=by rw[List.lookup_cons,beq_self_eq_true]
theorem da{α β:Type} [BEq α] [LawfulBEq α]{x n:α}{b:β}{r:List (α×β)}(h:x≠n):((n,b)::r).lookup x=r.lookup x:=by rw[List.lookup_cons,beq_false_of_ne h]
theorem d7{α β:Type} [BEq α] [LawfulBEq α]: ∀{l:List (α×β)} {x:α} {b:β},l.lookup x=some b→(x,b)∈l
 |(y,c)::r,x,b,h=>Decidable.byCases (p:=(x==y)=true) (fun e=>by
   rw[eq_of_beq e,ci] at h
   rw[eq_of_beq e,Option.some.inj h];exact List.mem_cons_self ..) fun e=>List.mem_cons_of_mem _ (d7 ((da fun q=>e (beq_iff_eq.mpr q)).symm.trans h))
theorem wb{α β:Type} [BEq α] [LawfulBEq α]: ∀{l:List (α×β)} {x:α} {b:β},(l.map (·.1)).Nodup→(x,b)∈l→l.lookup x=some b
 |(y,c)::r,x,b,nd,h=>(List.mem_cons.mp h).elim (fun e=>by rw[Prod.mk.inj e|>.1,Prod.mk.inj e|>.2];exact ci) fun h=>
   (da fun e:x=y=>(List.nodup_cons.mp nd).1 (e▸(List.mem_map_of_mem (f:=(·.1)) h:x∈r.map (·.1)))).trans (wb (List.nodup_cons.mp nd).2 h)
theorem fR{β:Type}{l:List (PySem.Str×β)}{x:PySem.Str}(h:x∉l.map (·.1)):l.lookup x=none:=by
 cases e:l.lookup x with
 |none=>rfl
 |some b=>exact absurd (List.mem_map_of_mem (f:=(·.1)) (d7 e)) h
structure FJ(names:List (PySem.Str×NameKind))(h:Heap)(acc:List (PySem.Str×Addr))(x:PySem.Str):Prop where
 c:names.lookup x=some .cell→ ∃c,(cellsFrom h.objs.size names acc).lookup x=some c∧h.objs.size≤c∧(pushCells h names).get? c=some iO
 n:names.lookup x≠some .cell→(cellsFrom h.objs.size names acc).lookup x=acc.lookup x
theorem td{n:PySem.Str}{k:NameKind}{r:List (PySem.Str×NameKind)}{h:Heap}{acc:List (PySem.Str×Addr)}(hk:(k== .cell)=true):cellsFrom h.objs.size ((n,k)::r) acc=cellsFrom (h.push iO).objs.size r ((n,h.objs.size)::acc):=by rw[Heap.size_push];exact if_pos hk
theorem cH: ∀(names:List (PySem.Str×NameKind)) (h:Heap) (acc:List (PySem.Str×Addr)),(names.map (·.1)).Nodup→ ∀x,FJ names h acc x
 |[],h,acc,_,x=>⟨(fun e=>nomatch e),fun _=>rfl⟩
 |(n,k)::r,h,acc,nd,x=>by
  have nd':=List.nodup_cons.mp nd
  by_cases hk:(k== .cell)=true
  ·have ih:=cH r (h.push iO) ((n,h.objs.size)::acc) nd'.2 x
   refine⟨fun q=>?_,fun q=>?_⟩
   ·rw[td hk,show pushCells h ((n,k)::r)=pushCells (h.push iO) r from if_pos hk]
    by_cases hx:x=n
    ·exact⟨h.objs.size,(ih.n (by rw[hx,fR nd'.1];exact fun e=>nomatch e)).trans (hx▸ci),Nat.le_refl _,pushCells_keeps r _ _ _ (Heap.get?_push_size _ rfl)⟩
    ·exact cf (ih.c ((da hx).symm.trans q)) fun c h1 h2 h3=>⟨c,h1,Nat.le_of_succ_le (Nat.le_trans (Nat.le_of_eq (Heap.size_push h iO).symm) h2),h3⟩
   ·rw[td hk]
    have hx:x≠n:=fun e=>q (by rw[e,ci,eq_of_beq hk])
    exact(ih.n fun e=>q ((da hx).trans e)).trans (da hx)
  ·have ih:=cH r h acc nd'.2 x
   have e:cellsFrom h.objs.size ((n,k)::r) acc=cellsFrom h.objs.size r acc:=if_neg hk
   refine⟨fun q=>?_,fun q=>?_⟩
   ·rw[e,show pushCells h ((n,k)::r)=pushCells h r from if_neg hk]
    have hx:x≠n:=fun e=>hk (by rw[e,ci] at q;rw[Option.some.inj q];rfl)
    exact ih.c ((da hx).symm.trans q)
   ·rw[e]
    by_cases hx:x=n
    ·exact ih.n (by rw[hx,fR nd'.1];exact fun e=>nomatch e)
    ·exact ih.n fun e=>q ((da hx).trans e)
theorem js: ∀(names:List (PySem.Str×NameKind)) (h:Heap) (acc:List (PySem.Str×Addr)),(names.map (·.1)).Nodup→ ∀x y c,names.lookup x=some .cell→names.lookup y=some .cell→
  (cellsFrom h.objs.size names acc).lookup x=some c→(cellsFrom h.objs.size names acc).lookup y=some c→x=y
 |[],_,_,_,_,_,_,h,_,_,_=>nomatch h
 |(m,k)::r,h,acc,nd,x,y,c,hx,hy,h1,h2=>by
  have nd':=List.nodup_cons.mp nd
  by_cases hk:(k== .cell)=true
  ·rw[td hk] at h1 h2
   have lo: ∀{z u:PySem.Str},z=m→u≠m→((m,k)::r).lookup u=some .cell→(cellsFrom (h.push iO).objs.size r ((m,h.objs.size)::acc)).lookup z=some c→(cellsFrom (h.push iO).objs.size r ((m,h.objs.size)::acc)).lookup u=some c→False:=fun{z u} ez hu hl g1 g2=>by
    rw[ez,(cH r (h.push iO) _ nd'.2 m).n (by rw[fR nd'.1];exact fun e=>nomatch e),ci] at g1
    refine cf ((cH r (h.push iO) ((m,h.objs.size)::acc) nd'.2 u).c ((da hu).symm.trans hl)) fun c' q1 q2 _=>?_
    rw[Heap.size_push,←Option.some.inj (g2.symm.trans q1),←Option.some.inj g1] at q2
    exact Nat.not_succ_le_self _ q2
   by_cases e1:x=m
   ·by_cases e2:y=m
    ·rw[e1,e2]
    ·exact(lo e1 e2 hy h1 h2).elim
   ·by_cases e2:y=m
    ·exact(lo e2 e1 hx h2 h1).elim
    ·exact js r _ _ nd'.2 x y c ((da e1).symm.trans hx) ((da e2).symm.trans hy) h1 h2
  ·have ne: ∀{z:PySem.Str},((m,k)::r).lookup z=some .cell→z≠m:=fun hz e=>hk (by rw[e,ci] at hz;rw[Option.some.inj hz];rfl)
   have e:cellsFrom h.objs.size ((m,k)::r) acc=cellsFrom h.objs.size r acc:=if_neg hk
   rw[e] at h1 h2
   exact js r _ _ nd'.2 x y c ((da (ne hx)).symm.trans hx) ((da (ne hy)).symm.trans hy) h1 h2
noncomputable def nF(lo:Nat)(h:Heap)(fx:Fz):Fz:=fun b=>if lo≤b then h.get? b else fx b
section
variable{prog:Program}{w:World}{H:bg}{os:OsState}{C:Ctx}{call:aw}{n k:Nat}{X:aH}
variable{A:Around}{W W':Wd}{fx fx0 fx':Fz}{Z:Value→Shared→Prop}{s:Shared}{σ:ah}{sc:Scope}{env:PySem.Env}{ρ:Env}
variable{mg mb:PySem.Str→Option Value}{own:List Addr}
theorem pF{lo:Nat}{h:Heap}{a:Addr}(q:lo≤a):nF lo h fx a=h.get? a:=if_pos q
theorem jj{lo:Nat}{h:Heap}{a:Addr}(q: ¬lo≤a):nF lo h fx a=fx a:=if_neg q
theorem Bf(S:St prog w H W fx σ os s){h':Heap}:fx.le (nF s.heap.objs.size h' fx):=fun a o e=>(jj (Nat.not_le.mpr (Heap.lt_size (S.keepF _ _ e)))).trans e
theorem St.newAll(S:St prog w H W fx σ os s){h':Heap}{tk:Nat}(k: ∀b o,s.heap.get? b=some o→h'.get? b=some o):St prog w H W (nF s.heap.objs.size h' fx) σ os {s with heap:=h',toks:=tk}:=by
 have fr: ∀a,s.heap.objs.size≤a→cC H W fx a:=fun a ha=>S.fresh ha
 have S1:St prog w H W fx σ os {s with heap:=h',toks:=tk}:=S.ext k
 refine⟨S1.base,S1.keepP,fun b o e=>?_,fun b o e=>?_,S1.len,S1.there,S1.inj,S1.mo,S1.pa,fun i b e=>(jj fun hb=>(fr b hb).ads i e).trans (S.fa i b e),fun t ht=>vE (S1.tab t ht) fun p q r u=>⟨p,q,(jj fun hb=>(fr t.1 hb).tab t ht rfl).trans r,u⟩,S1.os,S1.gens⟩
 ·by_cases hb:s.heap.objs.size≤b
  ·exact(pF hb).symm.trans e
  ·exact S1.keepF _ _ ((jj hb).symm.trans e)
 ·by_cases hb:s.heap.objs.size≤b
  ·exact(fr b hb).P
  ·exact S.pf _ _ ((jj hb).symm.trans e)
structure FG(prog:Program)(w:World)(H:bg)(os:OsState)(W:Wd)(fx fx':Fz)(σ:ah)(sc:Scope)(env:PySem.Env)(s:Shared):Prop where
 S:St prog w H W fx' σ os s
 o:c7 W fx fx' sc env
 er:bo prog w H W fx' sc env []
theorem jF(S:St prog w H W fx σ os s){cl:List (PySem.Str×Addr)}{fo:Obj}(hfo:fo.data= .dict #[])(nd:(sc.names.map (·.1)).Nodup)
  (hcl: ∀x,sc.names.lookup x=some .free→ ∃c o cv,cl.lookup x=some c∧(fx c=some o∨W.P c=some o)∧o.data= .cell cv)
  (hL:env.locals=s.heap.objs.size)(hC:env.cells=cellsFrom (s.heap.objs.size+1) sc.names cl){tk:Nat}:
  FG prog w H os W fx (nF s.heap.objs.size (pushCells (s.heap.push fo) sc.names) fx) σ sc env {s with heap:=pushCells (s.heap.push fo) sc.names,toks:=tk}:=by
 have hff:fo.isFreed=false:=Obj.isFreed_of_dict hfo
 have hns:db fo (fun _=>none):=⟨#[],0,hfo,(fun e h=>absurd h (Array.not_mem_empty e)),fun name=>rfl⟩
 have hC':env.cells=cellsFrom (s.heap.push fo).objs.size sc.names cl:=by rw[hC,Heap.size_push]
 have cl1:=fun x=>cH sc.names (s.heap.push fo) cl nd x
 have le:=Bf S (h':=pushCells (s.heap.push fo) sc.names)
 generalize hh:pushCells (s.heap.push fo) sc.names=h0 at*
 have hl:nF s.heap.objs.size h0 fx env.locals=some fo:=by
  rw[hL,pF (Nat.le_refl _),←hh];exact pushCells_keeps _ _ _ _ (Heap.get?_push_size _ hff)
 have own: ∀x,sc.names.lookup x=some .cell→ ∃c,env.cells.lookup x=some c∧s.heap.objs.size+1≤c∧nF s.heap.objs.size h0 fx c=some iO:=fun x hx=>cf ((cl1 x).c hx) fun c h1 h2 h3=>by
  rw[Heap.size_push] at h2
  exact⟨c,by rw[hC'];exact h1,h2,(pF (Nat.le_of_succ_le h2)).trans (hh▸h3)⟩
 have fre: ∀x,sc.names.lookup x=some .free→ ∃c o cv,env.cells.lookup x=some c∧(fx c=some o∨W.P c=some o)∧o.data= .cell cv:=fun x hx=>jV (hcl x hx) fun c o cv h1 h2 h3=>
  ⟨c,o,cv,by rw[hC',(cl1 x).n (by rw[hx];exact fun e=>nomatch e)];exact h1,h2,h3⟩
 refine⟨S.newAll fun b o e=>hh▸pushCells_keeps _ _ _ _ (Heap.get?_push_of_some _ e),⟨le,by rw[hL];exact(S.fresh (Nat.le_refl _)).fx,⟨fo,_,hl,hns⟩,fun x hx=>cf (own x hx) fun c h1 h2 h3=>⟨c,iO,none,h1,h3,rfl,(S.fresh (Nat.le_of_succ_le h2)).fx,fun e=>?_⟩,fun x y c hx hy h1 h2=>?_,fun x c hx hc=>jV (fre x hx) fun c' o cv h1 h2 _=>?_⟩,
  ⟨⟨fo,_,hl,hns,fun x v e=>nomatch e⟩,(fun x v e=>nomatch e),fun x hx=>hx.elim (fun hx=>cf (own x hx) fun c h1 h2 h3=>⟨c,iO,none,h1,.inl h3,rfl⟩) fun hx=>jV (fre x hx) fun c o cv h1 h2 h3=>⟨c,o,cv,h1,h2.imp (le _ _) id,h3⟩,fun _ y v e=>nomatch e⟩⟩
 ·rw[e,hL] at h2
  exact Nat.not_succ_le_self _ h2
 ·rw[hC'] at h1 h2
  exact js _ _ _ nd x y c hx hy h1 h2
 ·rw[←Option.some.inj (hc.symm.trans h1)] at h2
  exact h2.imp (fun e q=>nomatch e.symm.trans q) fun e q=>nomatch e.symm.trans q
noncomputable def eh(cells:List (PySem.Str×Addr)):List (PySem.Str×NameKind)→List (PySem.Str×Addr)→List (PySem.Str×Addr)
 |[],acc=>acc
 |(n,k)::r,acc=>if k== .free then eh cells r ((n,(cells.lookup n).getD 0)::acc) else eh cells r acc
theorem kq{scope:Scope}(h: ∀x∈scope.names,x.2= .free→(env.cells.lookup x.1).isSome=true):closureFor scope env=pure (eh env.cells scope.names []):=by
 unfold closureFor
 have go: ∀(names:List (PySem.Str×NameKind)) (acc:List (PySem.Str×Addr)),(∀x∈names,x.2= .free→(env.cells.lookup x.1).isSome=true)→
   (forIn names acc fun(p:PySem.Str×NameKind) (cs:List (PySem.Str×Addr))=>(match p with|(name,kind)=>if(kind== .free)=true then(do let c←cellOf env name;pure (ForInStep.yield ((name,c)::cs))) else pure (ForInStep.yield cs):Sem (ForInStep (List (PySem.Str×Addr)))))=pure (eh env.cells names acc):=by
  intro names
  induction names with
  |nil=>intro acc _;rfl
  |cons p r ih=>
   intro acc hn
   obtain⟨nm,k⟩:=p
   rw[List.forIn_cons]
   show _=pure (if(k== .free)=true then eh env.cells r ((nm,(env.cells.lookup nm).getD 0)::acc) else eh env.cells r acc)
   have hr:=fun y hy=>hn y (List.mem_cons_of_mem _ hy)
   by_cases hk:(k== .free)=true
   ·have h1:=hn (nm,k) (List.mem_cons_self ..) (by simpa using hk)
    refine cN (Option.isSome_iff_exists.mp h1) fun c hc=>?_
    have hc':env.cells.lookup nm=some c:=hc
    have hcell:cellOf env nm=pure c:=by unfold cellOf;rw[hc']
    simp only [hk,if_true,hcell,hc',Option.getD_some]
    exact ih _ hr
   ·simp only [hk,if_false]
    exact ih _ hr
 have:=go scope.names [] h
 exact(congrArg (fun(m:Sem (List (PySem.Str×Addr)))=>m>>=fun s=>pure s) this).trans rfl
theorem gE(cells:List (PySem.Str×Addr)): ∀(names:List (PySem.Str×NameKind)) (acc:List (PySem.Str×Addr)) (x:PySem.Str),(x,NameKind.free)∈names∨acc.lookup x=some ((cells.lookup x).getD 0)→(eh cells names acc).lookup x=some ((cells.lookup x).getD 0)
 |[],acc,x,h=>h.elim (fun h=>nomatch h) id
 |(n,k)::r,acc,x,h=>by
  show List.lookup x (if(k== .free)=true then eh cells r ((n,(cells.lookup n).getD 0)::acc) else eh cells r acc)=_
  by_cases hk:(k== .free)=true
  ·rw[if_pos hk]
   refine gE cells r _ x ?_
   by_cases hx:x=n
   ·exact .inr (hx▸ci)
   ·exact h.elim (fun h=>(List.mem_cons.mp h).elim (fun e=>absurd (Prod.mk.inj e).1 hx) .inl) fun h=> .inr ((da hx).trans h)
  ·rw[if_neg hk]
   exact gE cells r _ x (h.imp (fun h=>(List.mem_cons.mp h).elim (fun e=>absurd (by rw[←(Prod.mk.inj e).2];rfl) hk) id) id)
end
end Mine
end
section
namespace Mine
open PySem PySem.W PyProof.Rows PySem.SeqAt PySem.Calls
noncomputable def j1:Obj:={cls:= .type "dict",data:= .dict #[]}
noncomputable def CL(env:PySem.Env)(n:PySem.Str)(k:NameKind):NameKind:=if k== .free&&env.scope.kind== .function&&env.kindOf n==some .cell then .cell else k
noncomputable def jb(scope:Scope)(env:PySem.Env):Scope:={scope with names:=scope.names.map fun(n,k)=>if k== .free&&env.scope.kind== .function&&env.kindOf n==some .cell then(n,.cell) else(n,k)}
theorem fM{scope:Scope}{env:PySem.Env}(x:PySem.Str):(jb scope env).names.lookup x=(scope.names.lookup x).map (CL env x):=by
 show(scope.names.map fun(n,k)=>if k== .free&&env.scope.kind== .function&&env.kindOf n==some .cell then(n,.cell) else(n,k)).lookup x=_
 induction scope.names with
 |nil=>rfl
 |cons p r ih=>
  obtain⟨n,k⟩:=p
  have e:(if k== .free&&env.scope.kind== .function&&env.kindOf n==some .cell then(n,NameKind.cell) else(n,k))=(n,CL env n k):=by
   rw[CL]
   by_cases hc:(k== .free&&env.scope.kind== .function&&env.kindOf n==some .cell)=true
   ·rw[if_pos hc,if_pos hc]
   ·rw[if_neg hc,if_neg hc]
  rw[List.map_cons]
  refine(congrArg (fun p=>List.lookup x (p::_)) e).trans ?_
  by_cases hb:x=n
  ·rw[hb,ci,ci];rfl
  ·rw[da hb,da hb];exact ih
noncomputable def eT(scope:Scope)(env:PySem.Env)(cl:List (PySem.Str×Addr))(L:Addr):PySem.Env:=
 {newEnv scope L env.globals (cellsFrom (L+1) scope.names cl) env.qual none .none (some env) builtinsNs with scope:=jb scope env}
section
variable{M:Model}{A:Around}{E:Value→Shared→Prop}{s:Shared}{env:PySem.Env}
theorem nB{scope:Scope}{globals:Addr}{closure:List (PySem.Str×Addr)}{qual:PySem.Str}{outer:PySem.Env}{Q:PySem.Env→Shared→Prop}
  (hQ:Q (newEnv scope s.heap.objs.size globals (cellsFrom (s.heap.objs.size+1) scope.names closure) qual none .none (some outer) builtinsNs) {s with heap:=pushCells (s.heap.push j1) scope.names}):
  wpAny M A (newFunctionEnv scope globals closure [] qual none .none (some outer)) Q E s:=by
 simp only [newFunctionEnv,Option.isSome_some,if_true]
 refine wpAny_bind (wpAny_alloc ?_)
 refine wpAny_bind (wpAny_layCells _ (fun name kind cells=>by cases hkc:kind==NameKind.cell<;>simp [hkc]) _ _ _ _ ?_)
 rw[show({s with heap:=s.heap.push {cls:= .type "dict",data:= .dict #[]}}:Shared).heap.objs.size=s.heap.objs.size+1 from Heap.size_push ..]
 exact wpAny_bind (wpAny_pure (wpAny_pure hQ))
theorem pY{e:Expr}{scope:Scope}{pos:Pos}{newAcc first:Sem Value}{g:Comprehension}{gs:List Comprehension}{cl:List (PySem.Str×Addr)}{Q:Value→Shared→Prop}
  (hcl:clausesOf e=g::gs)(hs: ∀x,foldedSetIterable g.iter env x=pure x)(hclos:closureFor scope env=pure cl)
  (hkind:scope.kind= .function)(hnames: ∀x∈scope.names,x.2= .local→scope.names.lookup x.1=some .local)
  (h:wpAny M A first (fun x s₁=>wpAny M A (pyIter x) (fun it s₂=>wpAny M A newAcc (fun acc s₃=>
    codeAny M A (.compStart e 0 it acc (eT scope env cl s₃.heap.objs.size)) (fun r s'=>match r with
     | .ok _=> ∃m,s'.heap.Ns s₃.heap.objs.size m∧ ∀h',Heap.SameBut s₃.heap.objs.size s'.heap h'→Q acc {s' with heap:=h'}
     | .error _=>False) {s₃ with heap:=pushCells (s₃.heap.push j1) scope.names}) E s₂) E s₁) E s):
  wpAny M A (comprehension e scope env pos newAcc false first) Q E s:=by
 unfold comprehension
 rw[hclos,hcl]
 refine wpAny_bind (wpAny_mono h (fun x s₁ h₁=>wpAny_bind (wpAny_standAt (wpAny_bind (wpAny_of_eq (hs x) (wpAny_bind (wpAny_holding (wpAny_mono h₁ (fun it s₂ h₂=>
  wpAny_standIf (wpAny_bind (wpAny_mono h₂ (fun acc s₃ h₃=>wpAny_bind (wpAny_pure (wpAny_bind (nB ?_)))) fun _ _ h'=>h'))) fun _ _ h'=>h'))))))) fun _ _ h'=>h')
 dsimp only
 have hv: ∀x∈(scope.names.filter fun x=>(x.2== .local||x.2== .cell)&&x.1 !=(".0" :PySem.Str)).reverse,x.2= .local→
   Env.kindOf (eT scope env cl s₃.heap.objs.size) x.1=some .local:=fun x hx hl=>by
  have:=hnames x (List.mem_filter.mp (List.mem_reverse.mp hx)).1 hl
  show(jb scope env).names.lookup x.1=_
  rw[fM,this]
  rfl
 refine wpAny_holding (wpAny_bind (wpAny_attempt (wpAny_holding (wpAny_run (codeAny_mono h₃ fun r s' hr=>?_)))))
 cases r with
 |ok f=>
  refine aA hr fun m hn hr=>?_
  exact wpAny_bind (wpAny_holding (wpAny_comp_letGo (cenv:=eT scope env cl s₃.heap.objs.size) hkind _ s' m hv hn fun h' m' _ hs'=>wpAny_pure (hr h' hs')))
 |error x=>exact hr.elim
theorem zr{e:Expr}{scope:Scope}{pos:Pos}{newAcc first:Sem Value}{g:Comprehension}{gs:List Comprehension}{cl:List (PySem.Str×Addr)}{u:Value→Sem Unit}{Q:Value→Shared→Prop}
  (hcl:clausesOf e=g::gs)(hs: ∀x,foldedSetIterable g.iter env x=pure x)(hclos:closureFor scope env=pure cl)
  (hkind:scope.kind= .function)(hnames: ∀x∈scope.names,x.2= .local→scope.names.lookup x.1=some .local)
  (h:wpAny M A first (fun x s₁=>wpAny M A (pyIter x) (fun it s₂=>wpAny M A newAcc (fun acc s₃=>
    codeAny M A (.compStart e 0 it acc (eT scope env cl s₃.heap.objs.size)) (fun r s'=>match r with
     | .ok _=>wpAny M A (u acc) (fun _ s''=> ∃m,s''.heap.Ns s₃.heap.objs.size m∧ ∀h',Heap.SameBut s₃.heap.objs.size s''.heap h'→Q .none {s'' with heap:=h'}) E s'
     | .error _=>False) {s₃ with heap:=pushCells (s₃.heap.push j1) scope.names}) E s₂) E s₁) E s):
  wpAny M A (comprehension e scope env pos newAcc false first (some u)) Q E s:=by
 unfold comprehension
 rw[hclos,hcl]
 refine wpAny_bind (wpAny_mono h (fun x s₁ h₁=>wpAny_bind (wpAny_standAt (wpAny_bind (wpAny_of_eq (hs x) (wpAny_bind (wpAny_holding (wpAny_mono h₁ (fun it s₂ h₂=>
  wpAny_standIf (wpAny_bind (wpAny_mono h₂ (fun acc s₃ h₃=>wpAny_bind (wpAny_pure (wpAny_bind (nB ?_)))) fun _ _ h'=>h'))) fun _ _ h'=>h'))))))) fun _ _ h'=>h')
 dsimp only
 have hk: ∀x∈(scope.names.filter fun x=>(x.2== .local||x.2== .cell)&&x.1 !=(".0" :PySem.Str)).reverse,x.2= .local→
   Env.kindOf (eT scope env cl s₃.heap.objs.size) x.1=some .local:=fun x hx hl=>by
  have:=hnames x (List.mem_filter.mp (List.mem_reverse.mp hx)).1 hl
  show(jb scope env).names.lookup x.1=_
  rw[fM,this]
  rfl
 have hv: ∀{l:List (PySem.Str×NameKind)},l=(scope.names.filter fun x=>(x.2== .local||x.2== .cell)&&x.1 !=(".0" :PySem.Str)).reverse→
   ∀x∈l.drop 1++l.take 1,x.2= .local→Env.kindOf (eT scope env cl s₃.heap.objs.size) x.1=some .local:=fun e x hx hl=>by
  subst e
  rcases List.mem_append.mp hx with hx|hx
  ·exact hk x (List.mem_of_mem_drop hx) hl
  ·exact hk x (List.mem_of_mem_take hx) hl
 refine wpAny_holding (wpAny_bind (wpAny_attempt (wpAny_holding (wpAny_run (codeAny_mono h₃ fun r s' hr=>?_)))))
 cases r with
 |ok f=>
  refine wpAny_bind (wpAny_rule (wpAny_bind (wpAny_holding (wpAny_mono hr (fun _ s'' h''=>?_) fun _ _ e=>e))))
  refine aA h'' fun m hn hq=>?_
  exact wpAny_bind (wpAny_comp_letGo (cenv:=eT scope env cl s₃.heap.objs.size) hkind _ s'' m (hv rfl) hn fun h' m' _ hs'=>wpAny_pure (hq h' hs'))
 |error x=>exact hr.elim
end
end Mine
end
section
namespace Mine
open PySem PySem.W PyProof.Rows PySem.SeqAt PySem.Calls
noncomputable def zQ(ifs:List Expr)(env:PySem.Env):Sem Bool:=forIn ifs true fun c r=>if r=true then do let ok←isTrue c env (eval c env);pure (ForInStep.yield ok) else pure (ForInStep.yield r)
noncomputable def turnG(target iter:Expr)(ifs:List Expr)(it:Value)(env:PySem.Env)(M:Sem Unit)(ag:Sem Fin):Sem Fin:=do
 standAt iter.pos
 match←pyNext it with
 |none=>pure (.done .next)
 |some v=>
  letOwnedTupleGo target it v
  assign target env v
  let ok←zQ ifs env
  if ok then M
  ag
section
variable{prog:Program}{w:World}{A:Around}{E:Value→Shared→Prop}{R:Result→Shared→Prop}{s:Shared}
noncomputable abbrev Nb(prog:Program)(w:World)(A:Around)(env:PySem.Env)(R:Result→Shared→Prop):Value→Shared→Prop:=notedBy (model prog w) A env fun e s'=>R (.error e) s'
noncomputable def Ee(prog:Program)(w:World)(A:Around)(env:PySem.Env)(R:Result→Shared→Prop)(target:Expr)(ifs:List Expr)(it:Value)(M:Sem Unit)(J:Shared→Prop)(s:Shared):Prop:=
 wpAny (model prog w) A (pyNext it) (fun r s₁=>match r with
  |none=>R (.ok .next) s₁
  |some v=>wpAny (model prog w) A (letOwnedTupleGo target it v) (fun _ s₁'=>wpAny (model prog w) A (assign target env v) (fun _ s₂=>wpAny (model prog w) A (zQ ifs env) (fun ok s₃=>if ok=true then wpAny (model prog w) A M (fun _=>J) (Nb prog w A env R) s₃ else J s₃) (Nb prog w A env R) s₂) (Nb prog w A env R) s₁') (Nb prog w A env R) s₁) (Nb prog w A env R) s
theorem lM{e target iter:Expr}{ifs:List Expr}{it acc:Value}{env:PySem.Env}{M:Sem Unit}(ha:A.under (.compLoop e 0 it acc env)=A)(he:(model prog w).den (.compLoop e 0 it acc env)=(turnG target iter ifs it env M (again (.compLoop e 0 it acc env))).onRaise (fun x=>do noteFrame x env;theTreesLotGoes x))(I:Nat→Shared→Prop)
  (turn: ∀n s,I n s→Ee prog w A env R target ifs it M (fun s=> ∃m,m<n∧I m s) s)(n:Nat)(h:I n s):codeAny (model prog w) A (.compLoop e 0 it acc env) R s:=by
 refine codeAny_loop rfl I (fun n s hI=>?_) n h
 rw[ha,he]
 refine wpAny_noted ?_
 refine wpAny_bind (wpAny_standAt (wpAny_bind (wpAny_mono (turn n s hI) (fun r s₁ h₁=>?_) fun _ _ h'=>h')))
 cases r with
 |none=>exact wpAny_pure h₁
 |some v=>
  refine wpAny_bind (wpAny_mono h₁ (fun _ s₁' h₁'=>wpAny_bind (wpAny_mono h₁' (fun _ s₂ h₂=>wpAny_bind (wpAny_mono h₂ (fun ok s₃ h₃=>?_) fun _ _ h'=>h')) fun _ _ h'=>h')) fun _ _ h'=>h')
  cases ok with
  |false=>exact wpAny_pure ⟨rfl,h₃⟩
  |true=>exact wpAny_bind (wpAny_mono h₃ (fun _ s₅ h₅=>wpAny_pure ⟨rfl,h₅⟩) fun _ _ h'=>h')
end
mutual
noncomputable def j3:T→List String
 | .name x=>[x]
 | .tup ts=>rS ts
noncomputable def rS:List T→List String
 |[]=>[]
 |t::ts=>j3 t++rS ts
end
mutual
theorem nK: ∀(t:T) {v:V} {b:Env},dU t v=some b→b.map (·.1)=j3 t
 | .name x,v,b,h=>by
  rw[←Option.some.inj h];rfl
 | .tup ts,v,b,h=>ob h fun xs hx h=>lN ts h
theorem lN: ∀(ts:List T) {vs:List V} {b:Env},mQ ts vs=some b→b.map (·.1)=rS ts
 |[],[],b,h=>by
  rw[←Option.some.inj h];rfl
 |[],_::_,_,h=>dA h
 |_::_,[],_,h=>dA h
 |t::ts,v::vs,b,h=>ob h fun b1 e1 h=>ob h fun b2 e2 h=>by
  rw[←Option.some.inj h,List.map_append,nK t e1,lN ts e2];rfl
end
theorem uJ: ∀{ρ:Env} {x:String},x∈ρ.map (·.1)→aM ρ x≠ .none
 |(z,u)::r,x,h=>by
  show(if z=x then some u else aM r x)≠ .none
  by_cases e:z=x
  ·rw[if_pos e];exact fun q=>nomatch q
  ·rw[if_neg e];exact uJ ((List.mem_cons.mp h).elim (fun q=>absurd q.symm e) id)
theorem Bd{ρ:Env}{x:String}(h:x∉ρ.map (·.1)):aM ρ x= .none:=by
 cases e:aM ρ x with
 |none=>rfl
 |some u=>exact absurd (List.mem_map_of_mem (f:=(·.1)) (lB e)) h
noncomputable def aS(sc:Scope):Scope:={sc with names:=sc.names.filter fun p=>p.1 !=(".0" :PySem.Str)}
theorem bG{sc:Scope}{x:PySem.Str}{k:NameKind}(h:(aS sc).names.lookup x=some k):sc.names.lookup x=some k∧x≠(".0" :PySem.Str):=by
 revert h
 show(sc.names.filter fun p=>p.1 !=(".0" :PySem.Str)).lookup x=some k→_
 induction sc.names with
 |nil=>exact fun h=>nomatch h
 |cons p r ih=>
  obtain⟨n,j⟩:=p
  intro h
  by_cases hn:(n !=(".0" :PySem.Str))=true
  ·rw[List.filter_cons_of_pos (p:=fun p:PySem.Str×NameKind=>p.1 !=(".0" :PySem.Str)) (a:=(n,j)) hn] at h
   by_cases e:x=n
   ·rw[e,ci] at h
    rw[e];exact⟨ci.trans h,bne_iff_ne.mp hn⟩
   ·rw[da e] at h⊢;exact ih h
  ·rw[List.filter_cons_of_neg (p:=fun p:PySem.Str×NameKind=>p.1 !=(".0" :PySem.Str)) (a:=(n,j)) hn] at h
   refine qH (ih h) fun h1 h2=>⟨(da fun e:x=n=>hn (bne_iff_ne.mpr (e▸h2))).trans h1,h2⟩
section
variable{prog:Program}{w:World}{H:bg}{os:OsState}{C:Ctx}{call:aw}{n k:Nat}{X:aH}
variable{A:Around}{W W':Wd}{fx fx0 fx':Fz}{Z:Value→Shared→Prop}{s:Shared}{σ:ah}{sc csc:Scope}{env cenv:PySem.Env}{ρ:Env}
variable{mg mb:PySem.Str→Option Value}{own:List Addr}
theorem bo.nil(er:bo prog w H W fx sc env ρ):bo prog w H W fx sc env []:=⟨cI er.loc fun o m a b c=>⟨o,m,a,b,fun x v e=>nomatch e⟩,(fun x v e=>nomatch e),er.cin,fun _ y v e=>nomatch e⟩
theorem yg{x:PySem.Str}{j k:NameKind}(q:(aS sc).names.lookup x=some j∨(aS sc).names.lookup x=some k):sc.names.lookup x=some j∨sc.names.lookup x=some k:=q.imp (fun q=>(bG q).1) fun q=>(bG q).1
theorem bo.drop(er:bo prog w H W fx sc env ρ):bo prog w H W fx (aS sc) env ρ:=
 ⟨cI er.loc fun o m a b c=>⟨o,m,a,b,fun x v e q=>c x v e (bG q).1⟩,fun x v e q=>er.cel x v e (yg q),fun x q=>er.cin x (yg q),fun hm y v e q=>er.sld hm y v e (bG q).1⟩
theorem c7.drop(o:c7 W fx0 fx sc env):c7 W fx0 fx (aS sc) env:=
 ⟨o.le,o.loc,o.ns,fun x h=>o.cel x (bG h).1,fun x y c h1 h2=>o.apart x y c (bG h1).1 (bG h2).1,fun x c h=>o.fre x c (bG h).1⟩
theorem Br{b:Env}(er:bo prog w H W fx sc env ρ)(er0:bo prog w H W fx csc cenv (dK [] b))
  (hloc: ∀x:String,(csc.names.lookup (Str.ofString x)=some .local∨csc.names.lookup (Str.ofString x)=some .cell)→x∈b.map (·.1))
  (hfre: ∀x:String,csc.names.lookup (Str.ofString x)=some .free→x∉b.map (·.1))
  (hcl: ∀x,csc.names.lookup x=some .free→cenv.cells.lookup x=env.cells.lookup x∧(sc.names.lookup x=some .cell∨sc.names.lookup x=some .free))(hmore:bU csc.more=none):
  bo prog w H W fx csc cenv (b.reverse++ρ):=by
 have rv: ∀{x:String},x∈(b.reverse).map (·.1)↔x∈b.map (·.1):=by
  intro x;rw[List.map_reverse];exact List.mem_reverse
 have own: ∀{x:String} {v:V},x∈b.map (·.1)→aM (b.reverse++ρ) x=some v→aM (dK [] b) x=some v:=fun{x v} hx h=>by
  rw[cE] at h
  rw[kZ,cE]
  cases e:aM b.reverse x with
  |some u=>rw[e] at h;exact h
  |none=>exact absurd e (uJ (rv.mpr hx))
 refine⟨cI er0.loc fun o m h1 h2 h3=>⟨o,m,h1,h2,fun x v e hk=>h3 x v (own (hloc x (.inl hk)) e) hk⟩,fun x v e hk=>hk.elim (fun hk=>er0.cel x v (own (hloc x (.inr hk)) e) (.inl hk)) fun hk=>?_,er0.cin,fun hm=>absurd hmore hm⟩
 rw[cE,Bd fun q=>hfre x hk (rv.mp q)] at e
 exact gq (er.cel x v e (hcl _ hk).2) fun c ob val f1 f2 f3 f4=>⟨c,ob,val,(hcl _ hk).1.trans f1,f2,f3,f4⟩
end
end Mine
end
section
namespace Mine
open PySem PySem.W PyProof.Rows PySem.SeqAt PySem.Calls
structure f7(sc scope:Scope)(t:T)(tx:Expr):Prop where
 kind:scope.kind= .function
 nd:(scope.names.map (·.1)).Nodup
 tgt:nR (aS scope) t tx=true
 loc: ∀x:String,((aS scope).names.lookup (Str.ofString x)=some .local∨(aS scope).names.lookup (Str.ofString x)=some .cell)→x∈j3 t
 fre: ∀x:String,(aS scope).names.lookup (Str.ofString x)=some .free→x∉j3 t
 out: ∀x,scope.names.lookup x=some .free→sc.names.lookup x=some .cell∨sc.names.lookup x=some .free
 more:bU scope.more=none
section
variable{prog:Program}{w:World}{H:bg}{os:OsState}{C:Ctx}{call:aw}{n k:Nat}{X:aH}
variable{A:Around}{W W':Wd}{fx fx0 fx':Fz}{Z:Value→Shared→Prop}{s:Shared}{σ:ah}{sc csc:Scope}{env cenv:PySem.Env}{ρ:Env}
variable{mg mb:PySem.Str→Option Value}{own:List Addr}
theorem zt{scope:Scope}{t:T}{tx:Expr}{cl:List (PySem.Str×Addr)}{L:Addr}(ew:EnvW sc env)(K:f7 sc scope t tx):EnvW (aS scope) (eT scope env cl L):=by
 have rl: ∀{x k},(aS scope).names.lookup x=some k→(jb scope env).names.lookup x=some (CL env x k):=fun h=>by rw[fM,(bG h).1];rfl
 refine⟨K.kind,ew.glob,ew.bi,fun x k h hk=>(rl h).trans (congrArg some (if_neg ?_)),fun x h=>?_,fun c h=>nomatch K.more.symm.trans h⟩
 ·rw[show(k==NameKind.free)=false from beq_false_of_ne hk,Bool.false_and,Bool.false_and];exact Bool.false_ne_true
 ·by_cases hc:(NameKind.free== .free&&env.scope.kind== .function&&env.kindOf x==some .cell)=true
  ·exact .inr ((rl h).trans (congrArg some (if_pos hc)))
  ·exact .inl ((rl h).trans (congrArg some (if_neg hc)))
theorem fw{scope:Scope}{t:T}{tx:Expr}(er:bo prog w H W fx sc env ρ)(K:f7 sc scope t tx):
  closureFor scope env=pure (eh env.cells scope.names [])∧ ∀x,scope.names.lookup x=some .free→(eh env.cells scope.names []).lookup x=env.cells.lookup x:=by
 refine⟨kq fun x hx hk=>je (er.cin x.1 (K.out x.1 (wb K.nd (hk▸hx)))) fun c o cv e _=>by rw[e];rfl,fun x hx=>je (er.cin x (K.out x hx)) fun c o cv e _=>?_⟩
 rw[gE env.cells scope.names [] x (.inl (d7 hx)),e];rfl
theorem gr{a:Addr}(l:fx.le fx')(h:fx' a=none):fx a=none:=by
 cases e:fx a with
 |none=>rfl
 |some o=>exact nomatch h.symm.trans (l a o e)
theorem w8{a:Addr}(l:fx.le fx')(h:fx a≠none):fx' a≠none:=fun q=>h (gr l q)
theorem c7.under(o:c7 W fx0 fx' sc env)(lf:fx.le fx0)(hf: ∀x c,sc.names.lookup x=some .free→env.cells.lookup x=some c→fx c≠none∨W.P c≠none):c7 W fx fx' sc env:=
 ⟨fun a q e=>o.le a q (lf a q e),gr lf o.loc,o.ns,fun x hk=>ny (o.cel x hk) fun c ob cv e1 e2 e3 e4 e5=>⟨c,ob,cv,e1,e2,e3,gr lf e4,e5⟩,o.apart,hf⟩
theorem c7.apartB(o:c7 W fx0 fx' sc env)(o':c7 W fx fx' sc env)(S:St prog w H W fx0 σ os s)(h1: ∀b∈own,fx b=none)(h2: ∀b∈own,fx0 b≠none):mU own sc env:=by
 refine⟨fun hb=>h2 _ hb o.loc,fun y c hk hc hb=>hk.elim (fun hk=>ny (o.cel y hk) fun c' ob cv e1 _ _ e4 _=>h2 _ hb (Option.some.inj (e1.symm.trans hc)▸e4)) fun hk=>(o'.fre y c hk hc).elim (fun e=>e (h1 c hb)) fun e=>?_⟩
 cases e':fx0 c with
 |none=>exact h2 c hb e'
 |some ob=>exact e (S.pf c ob e')
theorem mU.sub{own':List Addr}(o:mU own sc env)(h: ∀b∈own',b∈own):mU own' sc env:=⟨fun hb=>o.loc (h _ hb),fun x c hk hc hb=>o.cel x c hk hc (h _ hb)⟩
structure Ei(prog:Program)(w:World)(H:bg)(os:OsState)(fx:Fz)(W1:Wd)(fxN:Fz)(σ1:ah)(s2:Shared)(h0:Heap)(D:Addr)(oD:Obj)(own:List Addr)(sc csc:Scope)(env cenv:PySem.Env):Prop where
 S:St prog w H W1 fxN σ1 os {s2 with heap:=h0}
 o:c7 W1 fx fxN csc cenv
 er:bo prog w H W1 fxN csc cenv []
 ot:mU (D::own) csc cenv
 ew:EnvW csc cenv
 b0: ∀b∈D::own,fx b=none
 b1: ∀b∈D::own,fxN b≠none
 d:fxN D=some oD
 cl: ∀y,csc.names.lookup y=some .free→cenv.cells.lookup y=env.cells.lookup y∧(sc.names.lookup y=some .cell∨sc.names.lookup y=some .free)
 k: ∀b o,s2.heap.get? b=some o→h0.get? b=some o
 nd:D∉own
theorem pX{scope:Scope}{t:T}{tx:Expr}{W1:Wd}{fx1:Fz}{σ1:ah}{s2:Shared}{oD:Obj}(K:f7 sc scope t tx)(ew:EnvW sc env)(er:bo prog w H W fx sc env ρ)(l1:W.le W1)(lf:fx.le fx1)(S1:St prog w H W1 fx1 σ1 os s2)(own0: ∀b∈own,fx b=none)(own1: ∀b∈own,fx1 b≠none)(hf:oD.isFreed=false):
  Ei prog w H os fx W1 (nF (s2.heap.push oD).objs.size (pushCells ((s2.heap.push oD).push j1) scope.names) (fx1.add s2.heap.objs.size oD)) σ1 s2 (pushCells ((s2.heap.push oD).push j1) scope.names) s2.heap.objs.size oD own sc (aS scope) env (eT scope env (eh env.cells scope.names []) (s2.heap.push oD).objs.size):=by
 have fD:=S1.fresh (Nat.le_refl s2.heap.objs.size)
 have S2:=(S1.push oD).hold fD (Heap.get?_push_size _ hf)
 have l12:fx1.le (fx1.add s2.heap.objs.size oD):=Fz.le_add fD.fx
 have hclk:=(fw er K).2
 have F:=jF (sc:=scope) (env:=eT scope env (eh env.cells scope.names []) (s2.heap.push oD).objs.size) S2 (cl:=eh env.cells scope.names []) (fo:=j1) rfl K.nd (fun y hy=>jV (er.cin y (K.out y hy)) fun c o cv e1 e2 e3=>⟨c,o,cv,(hclk y hy).trans e1,e2.imp (fun e=>l12 _ _ (lf _ _ e)) (l1.P _ _),e3⟩) rfl rfl (tk:=s2.toks)
 have cl: ∀y,(aS scope).names.lookup y=some .free→(eT scope env (eh env.cells scope.names []) (s2.heap.push oD).objs.size).cells.lookup y=env.cells.lookup y∧(sc.names.lookup y=some .cell∨sc.names.lookup y=some .free):=fun y hy=>by
  have hy':=(bG hy).1
  refine⟨?_,K.out y hy'⟩
  show(cellsFrom ((s2.heap.push oD).objs.size+1) scope.names (eh env.cells scope.names [])).lookup y=_
  rw[←Heap.size_push (s2.heap.push oD) j1,(cH scope.names ((s2.heap.push oD).push j1) (eh env.cells scope.names []) K.nd y).n (by rw[hy'];exact fun e=>nomatch e)]
  exact hclk y hy'
 have b0: ∀b∈s2.heap.objs.size::own,fx b=none:=fun b hb=>(List.mem_cons.mp hb).elim (fun e=>e▸gr lf fD.fx) (own0 b)
 have b2: ∀b∈s2.heap.objs.size::own,(fx1.add s2.heap.objs.size oD) b≠none:=fun b hb=>(List.mem_cons.mp hb).elim (fun e q=>nomatch (Fz.add_self fx1 s2.heap.objs.size oD).symm.trans ((congrArg (fx1.add s2.heap.objs.size oD) e).symm.trans q)) fun hb=>w8 l12 (own1 b hb)
 have oA:=F.o.drop
 have o':=oA.under (lf.trans l12) fun y c hy hc=>je (er.cin y (cl y hy).2) fun c' o cv e1 e2=>by
  rw[Option.some.inj (hc.symm.trans ((cl y hy).1.trans e1))]
  exact e2.1.imp (fun e q=>nomatch e.symm.trans q) fun e q=>nomatch (l1.P _ _ e).symm.trans q
 exact⟨F.S,o',F.er.drop,oA.apartB o' S2 b0 b2,zt ew K,b0,fun b hb=>w8 F.o.le (b2 b hb),F.o.le _ _ (Fz.add_self ..),cl,fun b o e=>pushCells_keeps _ _ _ _ (Heap.get?_push_of_some _ (Heap.get?_push_of_some _ e)),fun hb=>own1 _ hb fD.fx⟩
noncomputable abbrev wI:=Env→ah→ay (List V×ah)
theorem zu{t:T}{c:Env→ah→ay (Bool×ah)}{e:wI}{vs:List V}{ρ:Env}{σ:ah}{Qp:List (List V)×ah→Prop}{Qx:List Nat→ah→Prop}{P:Prop}(h:(fU t c e vs ρ σ).sat Qp Qx)(k0:vs=[]→Qp ([],σ)→P)
  (k1: ∀v r b,vs=v::r→dU t v=some b→(c (b.reverse++ρ) σ).sat (fun q=>(if q.1=true then(e (b.reverse++ρ) q.2).calm.bind fun x=>(fU t c e r ρ x.2).bind fun y=> .ok (x.1::y.1,y.2) else fU t c e r ρ q.2).sat Qp Qx) (fun _ _=>False)→P):P:=match vs,h with
 |[],h=>k0 rfl h
 |v::r,h=>so h fun b hb h=>k1 v r b rfl hb (ay.sat_calm.mp (ay.sat_bind.mp h))
theorem vV{α:Type}{o:ay α}{P:α→Prop}(h:o.sat P fun _ _=>False): ∃a,P a:=match o,h with
 | .ok a,h=>⟨a,h⟩
theorem pZ{t:T}{c:Env→ah→ay (Bool×ah)}{e:wI}: ∀{vs:List V} {ρ:Env} {σ:ah} {Qp:List (List V)×ah→Prop} {Qx:List Nat→ah→Prop},(fU t c e vs ρ σ).sat Qp Qx→ ∃y,Qp y
 |[],_,_,_,_,h=>⟨_,h⟩
 |v::r,ρ,σ,Qp,Qx,h=>so h fun b hb h=>cN (vV (ay.sat_calm.mp (ay.sat_bind.mp h))) fun q hq=>by
  cases e:q.1 with
  |false=>exact pZ (sF e hq)
  |true=>exact cN (vV (ay.sat_calm.mp (ay.sat_bind.mp (sT e hq)))) fun x hx=>cN (pZ (ay.sat_bind.mp hx)) fun y hy=>⟨_,hy⟩
structure CompI(prog:Program)(w:World)(H:bg)(os:OsState)(R:List V→List V→ah→Prop)(W1:Wd)(fx:Fz)(csc:Scope)(cenv:PySem.Env)(own:List Addr)(inv:List V→Heap→Prop)(D:Addr)(Acc:Wd→Nat→List V→Obj→Prop)(m:Nat)(s:Shared)(vs ys:List V)(c:Nat)(o:Obj)(W2:Wd)(jl:Fz)(σ2:ah):Prop where
 m:vs.length=m
 n:c+vs.length≤cP
 l:W1.le W2
 S:St prog w H W2 jl σ2 os s
 ow:c7 W2 fx jl csc cenv
 er:bo prog w H W2 jl csc cenv []
 h: ∀b∈own,jl b≠none
 i:inv vs s.heap
 d:jl D=some o
 a:Acc W2 c ys o
 r:R vs ys σ2
inductive rJ (prog:Program) (w:World) (H:bg) (os:OsState) (R:List V→List V→ah→Prop) (W1:Wd) (fx:Fz) (csc:Scope) (cenv:PySem.Env) (own:List Addr) (inv:List V→Heap→Prop) (D:Addr) (Acc:Wd→Nat→List V→Obj→Prop) (m:Nat) (s:Shared):Prop
 |mk (vs ys:List V) (c:Nat) (o:Obj) (W2:Wd) (jl:Fz) (σ2:ah) (h:CompI prog w H os R W1 fx csc cenv own inv D Acc m s vs ys c o W2 jl σ2):rJ prog w H os R W1 fx csc cenv own inv D Acc m s
noncomputable def BO(prog:Program)(w:World)(H:bg)(os:OsState)(A:Around)(csc:Scope)(cenv:PySem.Env)(EE:Value→Shared→Prop)(W1:Wd)(D:Addr)(Acc:Wd→Nat→List V→Obj→Prop)(QF:List V→ah→Prop)(e:wI)(M:Sem Unit):Prop:=
 ∀(W2:Wd) (jl:Fz) (σ2:ah) (s:Shared) (ρb:Env) (ys:List V) (c:Nat) (o:Obj) (N:List V×ah→Prop) (J:Shared→Prop),W1.le W2→St prog w H W2 jl σ2 os s→bo prog w H W2 jl csc cenv ρb→jl D=some o→Acc W2 c ys o→c<cP→
  (e ρb σ2).sat (fun x=>(∃l σ',QF (ys++(x.1++l)) σ')∧N x) (fun _ _=>False)→
  (∀x W' s' o',N x→W2.le W'→St prog w H W' (iy [D] s'.heap jl) x.2 os s'→s'.heap.get? D=some o'→Acc W' (c+1) (ys++x.1) o'→J s')→wpAny (model prog w) A M (fun _=>J) EE s
noncomputable abbrev yx(t:T)(c:Env→ah→ay (Bool×ah))(e:wI)(ρ:Env)(QF:List V→ah→Prop)(Qx:List Nat→ah→Prop)(vs ys:List V)(σ:ah):Prop:=(fU t c e vs ρ σ).sat (fun y=>QF (ys++y.1.flatten) y.2) Qx
theorem ww{ifs:List Expr}{co:Mine.E}{ρb:Env}{G:Bool×ah→Prop}{QQ:Bool→Shared→Prop}{EE:Value→Shared→Prop}(hco:(co= .no∧ifs=[])∨ ∃c,ifs=[c]∧ST prog w H os C call n X csc co c)(rm:bX A n)(ew:EnvW csc cenv)(er:bo prog w H W fx csc cenv ρb)(S:St prog w H W fx σ os s)
  (hs:(eR C call co ρb σ).sat G fun _ _=>False)(h: ∀q W' s',W.le W'→St prog w H W' fx q.2 os s'→G q→QQ q.1 s'):wpAny (model prog w) A (zQ ifs cenv) QQ EE s:=by
 refine hco.elim (fun hco=>?_) fun hco=>aA hco fun c e1 hc=>?_
 ·rw[hco.1] at hs
  rw[hco.2]
  exact wpAny_tests_nil (h (true,σ) W _ (.refl _) S hs)
 ·rw[e1]
  exact wpAny_tests_one (hc A cenv ρb W fx σ _ QQ EE rm ew er S (ay.sat_mono hs (fun q hq W' s' l' S'=>h q W' s' l' S' hq) fun _ _ e=>e.elim))
theorem rD{scope:Scope}{t:T}{tx:Expr}{co:Mine.E}{ifs:List Expr}{e:wI}{M:Sem Unit}{W1:Wd}{fxN:Fz}{σ1:ah}{s2:Shared}{h0:Heap}{D ia:Addr}{oD:Obj}{inv:List V→Heap→Prop}{QF:List V→ah→Prop}{Qx:List Nat→ah→Prop}{R:Result→Shared→Prop}{Acc:Wd→Nat→List V→Obj→Prop}
  (K:f7 sc scope t tx)(hco:(co= .no∧ifs=[])∨ ∃c,ifs=[c]∧ST prog w H os C call n X (aS scope) co c)(rm:bX A n)(er:bo prog w H W fx sc env ρ)(l1:W.le W1)(KI:jw prog w H os A ia tx own W1 inv)(F:Ei prog w H os fx W1 fxN σ1 s2 h0 D oD own sc (aS scope) env cenv)
  (hA: ∀{W W' c ys o},W.le W'→Acc W c ys o→Acc W' c ys o)(hE:BO prog w H os A (aS scope) cenv (Nb prog w A cenv R) W1 D Acc QF e M)
  (hfin: ∀W' fx' σ' s' ys c o,W1.le W'→St prog w H W' fx' σ' os s'→c7 W' fx fx' (aS scope) cenv→fx' D=some o→Acc W' c ys o→c≤cP→QF ys σ'→R (.ok .next) s')
  {m:Nat}(hI:rJ prog w H os (yx t (eR C call co) e ρ QF Qx) W1 fx (aS scope) cenv own inv D Acc m s):Ee prog w A cenv R tx ifs (.ref ia) M (fun s=> ∃m',m'<m∧rJ prog w H os (yx t (eR C call co) e ρ QF Qx) W1 fx (aS scope) cenv own inv D Acc m' s) s:=by
 refine iF fun nG=>?_
 cases hI with
 |mk vs ys c o W2 jl σ2 I=>
 have oto:mU own (aS scope) cenv:=F.ot.sub fun b hb=>List.mem_cons_of_mem _ hb
 have own0: ∀b∈own,fx b=none:=fun b hb=>F.b0 b (List.mem_cons_of_mem _ hb)
 refine zu I.r (fun ev hs=>nG ?_) fun v r b ev hb hs=>nG ?_
 ·exact KI.done1 I.l I.S I.h (ev▸I.i) fun h' tk S5=>hfin W2 _ σ2 _ ys c o I.l S5 (I.ow.on oto own0) ((aZ F.nd).trans I.d) I.a (Nat.le_trans (Nat.le_add_right ..) I.n) (List.append_nil ys▸hs)
 ·have hn:=I.n
  rw[ev] at hn
  refine KI.turn1 I.l I.S I.h (ev▸I.i) fun val h' tk S5 Y hinv5 hlive=>?_
  have hD5:iy own h' jl D=some o:=(aZ F.nd).trans I.d
  have hDh:h'.get? D=some o:=S5.keepF _ _ hD5
  refine vo K.tgt hb rm.h F.ew ((I.ow.on oto own0).push F.ot fun b hb=>(List.mem_cons.mp hb).elim (fun e=>e▸hD5.trans hDh.symm) dQ) (I.er.on oto) S5 Y fun fx7 h7 tk7 ow7 er7 S7=>?_
  have hB7: ∀b∈D::own,fx7 b=h'.get? b:=fun b hb=>by
   cases e:h'.get? b with
   |none=>exact((List.mem_cons.mp hb).elim (fun q=>nomatch hDh.symm.trans ((congrArg (Heap.get? h') q).symm.trans e)) fun hb=>absurd e (hlive b hb))
   |some ob=>exact ow7.le b ob ((dQ hb).trans e)
  have hD7:=(hB7 D (List.mem_cons_self ..)).trans hDh
  have o7:=ow7.pop F.ot F.b0
  have nb:=nK t hb
  have er8:=Br (er.le (l1.trans I.l) o7.le) er7 (fun y hy=>by rw[nb];exact K.loc y hy) (fun y hy=>by rw[nb];exact K.fre y hy) F.cl K.more
  have fin: ∀{W8 fx8 σ8 s8 c' ys' o'},W2.le W8→St prog w H W8 fx8 σ8 os s8→c7 W8 fx fx8 (aS scope) cenv→bo prog w H W8 fx8 (aS scope) cenv []→(∀b∈own,fx8 b=fx7 b)→fx8 D=some o'→Acc W8 c' ys' o'→c'≤c+1→yx t (eR C call co) e ρ QF Qx r ys' σ8→
    ∃m',m'<m∧rJ prog w H os (yx t (eR C call co) e ρ QF Qx) W1 fx (aS scope) cenv own inv D Acc m' s8:=fun l8 S8 o8 er8 h8 d8 a8 hc r8=>
   have g8:=fun b hb=>(h8 b hb).trans (hB7 b (List.mem_cons_of_mem _ hb))
   ⟨r.length,by rw[←I.m,ev];exact Nat.lt_succ_self _,.mk r _ _ _ _ _ _ ⟨rfl,Nat.le_trans (Nat.add_le_add_right hc _) (Nat.add_right_comm c 1 r.length▸hn),I.l.trans l8,S8,o8,er8,fun b hb q=>hlive b hb ((g8 b hb).symm.trans q),KI.keep r h' _ hinv5 (fun b hb o e=>S8.keepF _ _ ((g8 b hb).trans e)) (fun a o e=>S5.keepP _ _ (I.l.P _ _ e)) (fun a o e=>S8.keepP _ _ (l8.P _ _ (I.l.P _ _ e))),d8,a8,r8⟩⟩
  refine ww hco rm F.ew er8 S7 hs fun q W8 s8 l8 S8 hq=>ifB (fun ht=>?_) fun ht=>fin l8 S8 (o7.wd l8) (er7.nil.le l8 fun _ _ e=>e) (fun _ _=>rfl) hD7 (hA l8 I.a) (Nat.le_succ _) (sF ht hq)
  refine hE W8 fx7 q.2 s8 (b.reverse++ρ) ys c o _ _ (I.l.trans l8) S8 (er8.le l8 fun _ _ e=>e) hD7 (hA l8 I.a) (Nat.lt_of_lt_of_le (Nat.lt_add_of_pos_right (Nat.succ_pos _)) hn)
   (ay.sat_mono (ay.sat_calm.mp (ay.sat_bind.mp (sT ht hq))) (fun x hx=>⟨cN (pZ (ay.sat_bind.mp hx)) fun y hy=>⟨_,_,hy⟩,ay.sat_bind.mp hx⟩) fun _ _ e=>e) fun x W9 s9 o9 hx l9 S9 g9 a9=>?_
  have otD:mU [D] (aS scope) cenv:=F.ot.sub fun b hb=>List.mem_cons.mpr (.inl (List.mem_singleton.mp hb))
  exact fin (l8.trans l9) S9 ((o7.wd (l8.trans l9)).on otD fun b hb=>F.b0 b (List.mem_cons.mpr (.inl (List.mem_singleton.mp hb)))) ((er7.nil.le (l8.trans l9) fun _ _ e=>e).on otD) (fun b hb=>aZ fun q=>F.nd (List.mem_singleton.mp q▸hb)) ((dQ (List.mem_singleton.mpr rfl)).trans g9) a9 (Nat.le_refl _)
   (ay.sat_mono hx (fun y hy=>(List.append_assoc ys x.1 y.1.flatten).symm▸hy) fun _ _ e=>e)
end
end Mine
end
section
namespace Mine
open PySem PySem.W PyProof.Rows PySem.SeqAt PySem.Calls
section
variable{prog:Program}{w:World}{H:bg}{os:OsState}{C:Ctx}{call:aw}{n k:Nat}{X:aH}
variable{A:Around}{W W':Wd}{fx fx0 fx':Fz}{Z:Value→Shared→Prop}{s:Shared}{σ:ah}{sc csc:Scope}{env cenv:PySem.Env}{ρ:Env}
variable{mg mb:PySem.Str→Option Value}{own:List Addr}
theorem St.settle'{D:Addr}{o:Obj}{fx1:Fz}(S:St prog w H W fx1 σ os s)(lf:fx.le fx1)(hD:fx1 D=some o)(hD0:fx D=none):St prog w H (W.fix D o) (fun b=>if b=D then none else fx1 b) σ os s∧fx.le (fun b=>if b=D then none else fx1 b):=
 ⟨S.settle hD,fun b x e=>(if_neg fun q:b=D=>nomatch hD0.symm.trans (q▸e:fx D=some x)).trans (lf b x e)⟩
theorem nJ{fx1:Fz}{L D:Addr}{o:Obj}{h':Heap}(S:St prog w H W fx1 σ os s)(lf:fx.le fx1)(hL:fx L=none)(hL1:fx1 L≠none)(hDL:D≠L)(hD:fx1 D=some o)(hD0:fx D=none)(hs:Heap.SameBut L s.heap h'):St prog w H (W.fix D o) fx σ os {s with heap:=h'}:=
 have S1:=S.reown (own:=[L]) (h':=h') (tk:=s.toks) (fun b hb q=>hL1 (List.mem_singleton.mp hb▸q)) fun b o hb e=>(hs.2 b fun q=>hb (List.mem_singleton.mpr q)).trans e
 have lf1:fx.le (iy [L] h' fx1):=fun b x e=>(aZ fun q=>nomatch hL.symm.trans ((congrArg fx (List.mem_singleton.mp q)).symm.trans e)).trans (lf b x e)
 have S2:=S1.settle' lf1 ((aZ fun q=>hDL (List.mem_singleton.mp q)).trans hD) hD0
 S2.1.less S2.2
variable(prog w H) in
noncomputable def wJ(W:Wd)(c:Nat)(ys:List V)(o:Obj):Prop:= ∃us,br "list" o us∧ar prog w H W ys us∧ys.length≤c
theorem wJ.le{c:Nat}{ys:List V}{o:Obj}(l:W.le W')(h:wJ prog w H W c ys o):wJ prog w H W' c ys o:=cf h fun us a b c=>⟨us,a,b.le l,c⟩
noncomputable abbrev eltL(C:Ctx)(call:aw)(el:Mine.E):wI:=fun ρ σ=>(bp C call el ρ σ).bind fun y=> .ok ([y.1],y.2)
noncomputable abbrev DF(D:Addr)(elt:Expr)(env:PySem.Env):Sem Unit:=do let _←PySem.call (.builtin "list.append") [.ref D,←eval elt env]
theorem Bj{el:Mine.E}{elt:Expr}{EE:Value→Shared→Prop}{W1:Wd}{D:Addr}{QF:List V→ah→Prop}(hel:SE prog w H os C call n X csc el elt)(rm:bX A n)(ew:EnvW csc cenv):BO prog w H os A csc cenv EE W1 D (wJ prog w H) QF (eltL C call el) (DF D elt cenv):=by
 intro W2 jl σ2 s ρb ys c o N J l S er hD a hc hs hk
 refine cf a fun us so R hn=>wpAny_bind (hel.then rm ew er S hs (fun _ _ e=>e.elim) fun q W9 v s9 l9 S9 R9 er9 h9=>wpAny_bind (cN so.eq fun nn eo=>?_))
 have g:=S9.keepF _ _ hD
 rw[eo] at g
 refine call_meets F.slot_list_append ⟨_,g,rfl⟩ F.entry_list_append (F.args_list_append_2 _ _) (PySem.list_append D us.toArray nn v (by rw[List.size_toArray,R.length];exact bM (Nat.le_trans hn (Nat.le_of_lt hc)))) ⟨g,wpAny_pure (cN (Obj.data_mapSeq (o:=nT us nn) rfl (fun x=>x.push v)) fun n' hd'=>?_)⟩
 have g1:=Heap.get?_update_self (Obj.mapSeq fun x=>x.push v) g (Obj.isFreed_of_seq hd')
 exact hk ([q.1],q.2) W9 _ _ h9.2 l9 (S9.reown (tk:=s9.toks) (gm hD) fun b o hb e=>(Heap.get?_update_other _ _ (fun q=>hb (List.mem_singleton.mpr q.symm))).trans e) g1
  ⟨us++[v],⟨rfl,rfl,rfl,n',hd'.trans (by rw[List.push_toArray])⟩,(R.le l9).append (ar.cons R9 ar.nil),by rw[List.length_append];exact Nat.succ_le_succ hn⟩
theorem kn{scope:Scope}{t:T}{tx:Expr}(K:f7 sc scope t tx): ∀y∈scope.names,y.2= .local→scope.names.lookup y.1=some .local:=fun y hy hk=>wb K.nd (hk▸hy)
theorem rn{scope:Scope}{t:T}{tx elt x:Expr}{el co:Mine.E}{ifs:List Expr}{pos:Pos}{W1:Wd}{fx1:Fz}{σ1:ah}{s2:Shared}{ia:Addr}{inv:List V→Heap→Prop}{xs:List V}{QF:List V→ah→Prop}{Qx:List Nat→ah→Prop}{R:Result→Shared→Prop}
  (K:f7 sc scope t tx)(hel:SE prog w H os C call n X (aS scope) el elt)(hco:(co= .no∧ifs=[])∨ ∃c,ifs=[c]∧ST prog w H os C call n X (aS scope) co c)
  (rm:bX A n)(ew:EnvW sc env)(er:bo prog w H W fx sc env ρ)(l1:W.le W1)(lf:fx.le fx1)(S1:St prog w H W1 fx1 σ1 os s2)(KI:jw prog w H os A ia tx own W1 inv)(hinv:inv xs s2.heap)(own0: ∀b∈own,fx b=none)(own1: ∀b∈own,fx1 b≠none)
  (hlen:xs.length≤cP)(hs:(fU t (eR C call co) (eltL C call el) xs ρ σ1).sat (fun y=>QF y.1.flatten y.2) Qx)
  (hfin: ∀W' fx' σ' s' ys c o,W1.le W'→St prog w H W' fx' σ' os s'→c7 W' fx fx' (aS scope) (eT scope env (eh env.cells scope.names []) (s2.heap.push (hJ [])).objs.size)→
   fx' s2.heap.objs.size=some o→wJ prog w H W' c ys o→c≤cP→QF ys σ'→R (.ok .next) s'):
  codeAny (model prog w) A (.compStart (.ListComp elt [⟨tx,x,ifs,0⟩] scope pos) 0 (.ref ia) (.ref s2.heap.objs.size) (eT scope env (eh env.cells scope.names []) (s2.heap.push (hJ [])).objs.size)) R
   {s2 with heap:=pushCells ((s2.heap.push (hJ [])).push j1) scope.names}:=
 have F:=pX (oD:=hJ []) K ew er l1 lf S1 own0 own1 rfl
 have hi:=KI.keep xs _ _ hinv (fun b hb o e=>F.k b o e) S1.keepP F.S.keepP
 have loop:=lM (M:=DF s2.heap.objs.size elt (eT scope env (eh env.cells scope.names []) (s2.heap.push (hJ [])).objs.size)) rfl rfl _ (fun m s hI=>rD (Acc:=wJ prog w H) K hco rm er l1 KI F wJ.le (Bj hel rm F.ew) hfin hI) xs.length
  (rJ.mk xs [] 0 _ W1 _ σ1 ⟨rfl,Nat.le_trans (Nat.le_of_eq (Nat.zero_add _)) hlen,.refl _,F.S,F.o,F.er,fun b hb=>F.b1 b (List.mem_cons_of_mem _ hb),hi,F.d,⟨[],pw [],ar.nil,Nat.le_refl _⟩,hs⟩)
 codeAny_compStart_list loop (KI.self xs _ _ _ hi loop)
theorem bC{scope:Scope}{t:T}{tx elt x:Expr}{el it co:Mine.E}{ifs:List Expr}{pos:Pos}(K:f7 sc scope t tx)(hs: ∀env v,foldedSetIterable x env v=pure v)(hi:SI prog w H os C call n X sc tx it x)
  (hel:SE prog w H os C call n X (aS scope) el elt)(hco:(co= .no∧ifs=[])∨ ∃c,ifs=[c]∧ST prog w H os C call n X (aS scope) co c):
  SE prog w H os C call n X sc (.lcomp el t it co) (.ListComp elt [⟨tx,x,ifs,0⟩] scope pos):=by
 intro A env ρ W fx σ s Q Z rm ew er S h
 rw[eval_ListComp]
 refine pY rfl (hs env) (fw er K).1 K.kind (kn K) (hi A env ρ W fx σ s _ Z rm ew er S (ay.sat_mono (ay.sat_bind.mp h) (fun q hq W1 fx1 ia own inv s2 l1 lf S1 KI hinv own0 own1 hlen=>?_) fun _ _ e=>e))
 refine wpAny_newList (rn (QF:=fun ys σ'=>nV prog w H os A W fx Q (.lst ys,σ')) K hel hco rm ew er l1 lf S1 KI hinv own0 own1 hlen (ay.sat_bind.mp hq) fun W2 jl σ2 s5 ys c o l2 S5 ow hD a hc hend=>cz ow.ns fun ob m e1 e2=>⟨m,e2.ns (S5.keepF _ _ e1),fun h' hsame=>cf a fun us so R hn=>?_⟩) (Nat.zero_le _)
 have lD:W2.le (W2.fix s2.heap.objs.size o):=Wd.le_fix (S5.pf _ _ hD)
 exact hend _ _ _ ((l1.trans l2).trans lD) (nJ S5 ow.le ow.loc (fun q=>nomatch e1.symm.trans q) (by rw[Heap.size_push];exact(Nat.succ_ne_self _).symm) hD (gr lf (S1.fresh (Nat.le_refl _)).fx) hsame)
  (Exists.intro _ (Exists.intro o (Exists.intro us ⟨rfl,Fz.add_self _ _ _,so,R.le lD,Nat.le_trans hn hc⟩)))
theorem yW{scope:Scope}{y:String}{t:T}{tx elt x:Expr}{el it co:Mine.E}{ifs:List Expr}{p pos spos:Pos}(hy:cV sc (Str.ofString y)=true)
  (hsw: ∀env,mV sc env→swapsWithSole [.Name (Str.ofString y) p] (.ListComp elt [⟨tx,x,ifs,0⟩] scope pos) spos.line env=pure true)
  (K:f7 sc scope t tx)(hs: ∀env v,foldedSetIterable x env v=pure v)(hi:SI prog w H os C call n X sc tx it x)
  (hel:SE prog w H os C call n X (aS scope) el elt)(hco:(co= .no∧ifs=[])∨ ∃c,ifs=[c]∧ST prog w H os C call n X (aS scope) co c):
  SS prog w H os C call n k X sc (.asg (.name y) (.lcomp el t it co)) (.Assign [.Name (Str.ofString y) p] (.ListComp elt [⟨tx,x,ifs,0⟩] scope pos) spos):=by
 intro A env ρ W fx0 fx σ s Q Z rm ew o er S h
 rw[exec_Assign_arm,hsw env ew]
 refine wpAny_bind (wpAny_standAt (wpAny_bind (wpAny_pure ?_)))
 rw[if_pos rfl,arm_evalThenUse_ListComp]
 refine wpAny_bind (wpAny_bind (zr rfl (hs env) (fw er K).1 K.kind (kn K) (hi A env ρ W fx σ s _ Z rm ew.toEnvW er S (ay.sat_mono (ay.sat_bind.mp (ay.sat_bind.mp h)) (fun q hq W1 fx1 ia own inv s2 l1 lf S1 KI hinv own0 own1 hlen=>?_) fun _ _ e=>e.up o.le))))
 refine wpAny_newList (rn (QF:=fun ys σ'=>lY prog w H os A W fx0 sc env Q (.next,put ρ y (.lst ys),σ')) K hel hco rm ew.toEnvW er l1 lf S1 KI hinv own0 own1 hlen (ay.sat_bind.mp hq) fun W2 jl σ2 s5 ys c ob l2 S5 ow hD a hc hend=>?_) (Nat.zero_le _)
 refine iF fun nG=>cz ow.ns fun oL mL e1 e2=>cf a fun us so R hn=>nG ?_
 have hDL:s2.heap.objs.size≠(s2.heap.push (hJ [])).objs.size:=by rw[Heap.size_push];exact(Nat.succ_ne_self _).symm
 have hL0:fx (s2.heap.push (hJ [])).objs.size=none:=ow.loc
 have e1':jl (s2.heap.push (hJ [])).objs.size=some oL:=e1
 generalize hLs:(s2.heap.push (hJ [])).objs.size=L at hDL hL0 e1' ow
 have S6:=S5.settle' ow.le hD (gr lf (S1.fresh (Nat.le_refl _)).fx)
 have lD:W2.le (W2.fix s2.heap.objs.size ob):=Wd.le_fix (S5.pf _ _ hD)
 have lt:=(l1.trans l2).trans lD
 have hL6:(if L=s2.heap.objs.size then none else jl L)=some oL:=(if_neg (Ne.symm hDL)).trans e1'
 have otL:=o.out (own:=[L]) S6.1 lt (fun b hb=>List.mem_singleton.mp hb▸hL0) (gm (fx:=fun b=>if b=s2.heap.objs.size then none else jl b) hL6)
 have h00: ∀b∈[L],fx0 b=none:=fun b hb=>List.mem_singleton.mp hb▸gr o.le hL0
 have gL:=S5.keepF _ _ e1'
 have oA:=(((o.wd lt).more S6.2).push (h:=s5.heap) otL fun b hb=>List.mem_singleton.mp hb▸hL6.trans gL.symm)
 show wpAny _ _ (assignAll (.ref s2.heap.objs.size) ((assignEach [.Name (Str.ofString y) p] env).map (·.2))) _ _ _
 refine nM ew.toEnvW oA (er.le lt S6.2) S6.1 (v:= .lst ys) (Exists.intro _ (Exists.intro ob (Exists.intro us ⟨rfl,Fz.add_self _ _ _,so,R.le lD,Nat.le_trans hn hc⟩))) (eP hy) fun fx7 h7 tk7 o7 er7 S7=>?_
 have hL7:fx7 L=some oL:=o7.le L oL ((dQ (List.mem_singleton.mpr rfl)).trans gL)
 have nsL:=e2.ns (S7.keepF _ _ hL7)
 rw[←hLs] at nsL
 refine⟨mL,nsL,fun h8 hsame=>wpAny_pure (wpAny_pure ?_)⟩
 have hs8:Heap.SameBut (s2.heap.push (hJ [])).objs.size h7 h8:=hsame
 rw[hLs] at hs8
 exact hend _ _ _ lt ((o7.pop otL h00).on otL h00) (er7.on otL) (S7.reown (tk:=tk7) (gm hL7) fun b o hb e=>(hs8.2 b fun q=>hb (List.mem_singleton.mpr q)).trans e)
end
end Mine
end
section
namespace Mine
open PySem PySem.W PyProof.Rows PySem.SeqAt PySem.Calls
section
variable{prog:Program}{w:World}{H:bg}{os:OsState}{C:Ctx}{call:aw}{n k:Nat}{X:aH}
variable{A:Around}{W W':Wd}{fx fx0 fx':Fz}{Z:Value→Shared→Prop}{s:Shared}{σ:ah}{sc csc:Scope}{env cenv:PySem.Env}{ρ:Env}
variable{mg mb:PySem.Str→Option Value}{own:List Addr}
noncomputable abbrev DY(C:Ctx)(call:aw)(k v:Mine.E):wI:=fun ρ σ=>(bp C call k ρ σ).bind fun y=>(bp C call v ρ y.2).bind fun z=> .ok ([y.1,z.1],z.2)
theorem mw: ∀{ys l:List V} {p:List Int×List V},cg ys=some p→cg (ys++l)=(cg l).bind fun q=>some (p.1++q.1,p.2++q.2)
 |[],l,p,h=>by
  rw[←Option.some.inj h]
  show cg l=_
  cases cg l<;>rfl
 |[_],_,_,h=>dA h
 |a::v::r,l,p,h=>ob h fun k hk h=>ob h fun p0 hp h=>by
  rw[←Option.some.inj h]
  show((bN a).bind fun k=>(cg (r++l)).bind fun q=>some (k::q.1,v::q.2))=_
  rw[hk,mw hp]
  cases cg l<;>rfl
noncomputable abbrev uV(p:List Int×List V):List Int×List V:=qm ([],[]) (p.1.zip p.2)
variable(prog w H) in
structure AccD(W:Wd)(c:Nat)(ys:List V)(o:Obj)(p:List Int×List V)(us:List Value):Prop where
 pp:cg ys=some p
 q:ck prog w o ((uV p).1.zip us)
 r:ar prog w H W (uV p).2 us
 l:(uV p).1.length=(uV p).2.length
 n:(uV p).2.length≤c
 z:p.1.length=p.2.length
variable(prog w H) in
noncomputable def qs(W:Wd)(c:Nat)(ys:List V)(o:Obj):Prop:= ∃p us,AccD prog w H W c ys o p us
theorem qs.le{c:Nat}{ys:List V}{o:Obj}(l:W.le W')(h:qs prog w H W c ys o):qs prog w H W' c ys o:=qt h fun p us a=>⟨p,us,a.pp,a.q,a.r.le l,a.l,a.n,a.z⟩
noncomputable abbrev DG(D:Addr)(kx vx:Expr)(env:PySem.Env):Sem Unit:=do
 let kv←eval kx env
 let vv←holding [kv] (eval vx env)
 standAt {kx.pos with endLine:=vx.pos.endLine,endCol:=vx.pos.endCol}
 holding [kv,vv] (dictSet D kv vv)
theorem Bl{ek ev:Mine.E}{kx vx:Expr}{EE:Value→Shared→Prop}{W1:Wd}{D:Addr}{QF:List V→ah→Prop}(hkx:SE prog w H os C call n X csc ek kx)(hvx:SE prog w H os C call n X csc ev vx)(rm:bX A n)(ew:EnvW csc cenv)(hQ: ∀l σ',QF l σ'→ ∃p,cg l=some p):
  BO prog w H os A csc cenv EE W1 D (qs prog w H) QF (DY C call ek ev) (DG D kx vx cenv):=by
 intro W2 jl σ2 s ρb ys c o N J l S er hD a hc hs hk
 refine qt a fun p us a=>wpAny_bind (hkx.then rm ew er S hs (fun _ _ e=>e.elim) fun q8 W8 kv s8 l8 S8 R8 er8 h8=>wpAny_bind (wpAny_holding (hvx.then rm ew er8 S8 h8 (fun _ _ e=>e.elim) fun q9 W9 vv s9 l9 S9 R9 er9 h9=>wpAny_bind (wpAny_standAt (wpAny_holding ?_)))))
 refine iF fun nG=>qt h9.1 fun l' σ' hq=>cN (hQ _ _ hq) fun p' hp=>ob ((mw a.pp).symm.trans hp) fun pl hpl _=>ob hpl fun i hi _=>nG ?_
 apply eV kv R8 hi;intro tt
 refine wpAny_dictSet_pairs (knd:=intKind prog w) (fF i tt) (a.q.of (S9.keepF _ _ hD)) (fun h10 hm hsame=>cN (ml (k:=i) (a.r.le (l8.trans l9)) a.l R9) fun us' DD=>?_) (by rw[List.length_zip,a.r.length,a.l,Nat.min_self];exact bM (Nat.le_trans a.n (Nat.le_of_lt hc)))
 rw[DD.e] at hm
 have e:uV (p.1++[i],p.2++[q9.1])=bP (uV p).1 (uV p).2 i q9.1:=by
  show qm ([],[]) ((p.1++[i]).zip (p.2++[q9.1]))=_
  rw[List.zip_append a.z,qm,List.foldl_append];rfl
 refine aA (ck.to hm) fun ob' ho' hd'=>hk ([q8.1,q9.1],q9.2) W9 _ _ h9.2 (l8.trans l9) (S9.reown (tk:=s9.toks+1) (gm hD) fun b o hb e=>(hsame.2 b fun q=>hb (List.mem_singleton.mpr q)).trans e) ho' ⟨(p.1++[i],p.2++[q9.1]),us',?_,?_,?_,?_,?_,?_⟩
 ·rw[mw a.pp]
  show(((bN q8.1).bind fun k=>some ([k],[q9.1])).bind fun q=>some (p.1++q.1,p.2++q.2))=_
  rw[hi];rfl
 ·rw[e];exact hd'
 ·rw[e];exact DD.r
 ·rw[e];exact DD.l
 ·rw[e];exact Nat.le_trans j6 (Nat.succ_le_succ a.n)
 ·rw[List.length_append,List.length_append,a.z];rfl
theorem sD{M:Model}{E:Value→Shared→Prop}{Q:Value→Shared→Prop}(h:Q (.ref s.heap.objs.size) {s with heap:=s.heap.push eg}):wpAny M A newDict Q E s:=by
 unfold newDict newObj
 exact wpAny_bind (wpAny_alloc (wpAny_pure h))
theorem zq{scope:Scope}{t:T}{tx kx vx x:Expr}{ek ev:Mine.E}{pos:Pos}{W1:Wd}{fx1:Fz}{σ1:ah}{s2:Shared}{ia:Addr}{inv:List V→Heap→Prop}{xs:List V}{QF:List V→ah→Prop}{Qx:List Nat→ah→Prop}{R:Result→Shared→Prop}
  (K:f7 sc scope t tx)(hkx:SE prog w H os C call n X (aS scope) ek kx)(hvx:SE prog w H os C call n X (aS scope) ev vx)
  (rm:bX A n)(ew:EnvW sc env)(er:bo prog w H W fx sc env ρ)(l1:W.le W1)(lf:fx.le fx1)(S1:St prog w H W1 fx1 σ1 os s2)(KI:jw prog w H os A ia tx own W1 inv)(hinv:inv xs s2.heap)(own0: ∀b∈own,fx b=none)(own1: ∀b∈own,fx1 b≠none)
  (hlen:xs.length≤cP)(hs:(fU t (fun _ σ=> .ok (true,σ)) (DY C call ek ev) xs ρ σ1).sat (fun y=>QF y.1.flatten y.2) Qx)(hQ: ∀l σ',QF l σ'→ ∃p,cg l=some p)
  (hfin: ∀W' fx' σ' s' ys c o,W1.le W'→St prog w H W' fx' σ' os s'→c7 W' fx fx' (aS scope) (eT scope env (eh env.cells scope.names []) (s2.heap.push eg).objs.size)→
   fx' s2.heap.objs.size=some o→qs prog w H W' c ys o→c≤cP→QF ys σ'→R (.ok .next) s'):
  codeAny (model prog w) A (.compStart (.DictComp kx vx [⟨tx,x,[],0⟩] scope pos) 0 (.ref ia) (.ref s2.heap.objs.size) (eT scope env (eh env.cells scope.names []) (s2.heap.push eg).objs.size)) R
   {s2 with heap:=pushCells ((s2.heap.push eg).push j1) scope.names}:=
 have F:=pX (oD:=eg) K ew er l1 lf S1 own0 own1 rfl
 have hi:=KI.keep xs _ _ hinv (fun b hb o e=>F.k b o e) S1.keepP F.S.keepP
 have loop:=lM (M:=DG s2.heap.objs.size kx vx (eT scope env (eh env.cells scope.names []) (s2.heap.push eg).objs.size)) rfl rfl _ (fun m s hI=>rD (C:=C) (call:=call) (n:=n) (X:=X) (Acc:=qs prog w H) (co:= .no) K (.inl ⟨rfl,rfl⟩) rm er l1 KI F qs.le (Bl hkx hvx rm F.ew hQ) hfin hI) xs.length
  (rJ.mk xs [] 0 _ W1 _ σ1 ⟨rfl,Nat.le_trans (Nat.le_of_eq (Nat.zero_add _)) hlen,.refl _,F.S,F.o,F.er,fun b hb=>F.b1 b (List.mem_cons_of_mem _ hb),hi,F.d,⟨([],[]),[],rfl,gC,ar.nil,rfl,Nat.le_refl _,rfl⟩,hs⟩)
 codeAny_compStart_dict loop (KI.self xs _ _ _ hi loop)
theorem si{scope:Scope}{t:T}{tx kx vx x:Expr}{ek ev it:Mine.E}{pos:Pos}(KH:aK H mg mb)(K:f7 sc scope t tx)(hs: ∀env v,foldedSetIterable x env v=pure v)(hi:SI prog w H os C call n X sc tx it x)
  (hkx:SE prog w H os C call n X (aS scope) ek kx)(hvx:SE prog w H os C call n X (aS scope) ev vx):
  SE prog w H os C call n X sc (.dcomp ek ev t it) (.DictComp kx vx [⟨tx,x,[],0⟩] scope pos):=by
 intro A env ρ W fx σ s Q Z rm ew er S h
 rw[arm_eval_DictComp]
 refine pY rfl (hs env) (fw er K).1 K.kind (kn K) (hi A env ρ W fx σ s _ Z rm ew er S (ay.sat_mono (ay.sat_bind.mp h) (fun q hq W1 fx1 ia own inv s2 l1 lf S1 KI hinv own0 own1 hlen=>?_) fun _ _ e=>e))
 refine sD (zq (QF:=fun ys σ'=>((ay.ofOpt (cg ys)).bind fun p=>ay.ok (eS p.1 p.2,σ')).sat (nV prog w H os A W fx Q) (cF X A W fx Z)) K hkx hvx rm ew er l1 lf S1 KI hinv own0 own1 hlen (ay.sat_bind.mp hq) (fun l σ' h=>so h fun p hp _=>⟨p,hp⟩)
  fun W2 jl σ2 s5 ys c o l2 S5 ow hD a hc hend=>cz ow.ns fun ob m e1 e2=>⟨m,e2.ns (S5.keepF _ _ e1),fun h' hsame=>qt a fun p us a=>?_⟩)
 rw[a.pp] at hend
 have lD:W2.le (W2.fix s2.heap.objs.size o):=Wd.le_fix (S5.pf _ _ hD)
 exact hend _ _ _ ((l1.trans l2).trans lD) (nJ S5 ow.le ow.loc (fun q=>nomatch e1.symm.trans q) (by rw[Heap.size_push];exact(Nat.succ_ne_self _).symm) hD (gr lf (S1.fresh (Nat.le_refl _)).fx) hsame)
  (Exists.intro _ (Exists.intro o (Exists.intro us ⟨rfl,Fz.add_self _ _ _,a.q,a.r.le lD,a.l,Nat.le_trans a.n hc,KH.fresh_ne S1 (Nat.le_refl _)⟩)))
end
end Mine
end
section
namespace Mine
open PySem PySem.W PyProof.Rows PySem.SeqAt PySem.Calls
noncomputable def mF:Obj:={cls:= .type "frame",data:= .dict #[]}
section
variable{M:Model}{A:Around}{E:Value→Shared→Prop}{s:Shared}
theorem my{scope:Scope}{globals:Addr}{closure:List (PySem.Str×Addr)}{binds:List (PySem.Str×Value)}{qual:PySem.Str}{func:Option Addr}{code:Value}{builtins:Addr}{Q:PySem.Env→Shared→Prop}
  (h:wpAny M A (forIn binds PUnit.unit fun(p:PySem.Str×Value) (_:PUnit)=>(do storeName (newEnv scope s.heap.objs.size globals (cellsFrom (s.heap.objs.size+1) scope.names closure) qual func code none builtins) p.1 p.2;pure (ForInStep.yield PUnit.unit):Sem (ForInStep PUnit)))
   (fun _ s'=>Q (newEnv scope s.heap.objs.size globals (cellsFrom (s.heap.objs.size+1) scope.names closure) qual func code none builtins) s') E {s with heap:=pushCells (s.heap.push mF) scope.names}):
  wpAny M A (newFunctionEnv scope globals closure binds qual func code none builtins) Q E s:=by
 simp only [newFunctionEnv,Option.isSome_none,Bool.false_eq_true,if_false]
 refine wpAny_bind (wpAny_alloc ?_)
 refine wpAny_bind (wpAny_layCells _ (fun name kind cells=>by cases hkc:kind==NameKind.cell<;>simp) _ _ _ _ ?_)
 rw[show({s with heap:=s.heap.push {cls:= .type "frame",data:= .dict #[]}}:Shared).heap.objs.size=s.heap.objs.size+1 from Heap.size_push ..]
 exact wpAny_bind (wpAny_mono h (fun _ s' hq=>wpAny_pure hq) fun _ _ e=>e)
end
section
variable{prog:Program}{w:World}{H:bg}{os:OsState}{C:Ctx}{call:aw}{n k:Nat}{X:aH}
variable{A:Around}{W W':Wd}{fx fx0 fx':Fz}{Z:Value→Shared→Prop}{s:Shared}{σ:ah}{sc csc:Scope}{env cenv:PySem.Env}{ρ:Env}
variable{mg mb:PySem.Str→Option Value}{own:List Addr}
theorem fg: ∀{bs:List (String×V)} {vals:List Value} {fx:Fz} {ρ:Env} {s:Shared} {Q:Unit→Shared→Prop},bs.length=vals.length→(∀p∈bs,cV sc (Str.ofString p.1)=true)→EnvW sc env→c7 W fx0 fx sc env→
  bo prog w H W fx sc env ρ→St prog w H W fx σ os s→ar prog w H W (bs.map (·.2)) vals→vB prog w H os W fx0 σ sc env (dK ρ bs) s Q→
  wpAny (model prog w) A (forIn ((bs.map fun p=>Str.ofString p.1).zip vals) PUnit.unit fun(p:PySem.Str×Value) (_:PUnit)=>(do storeName env p.1 p.2;pure (ForInStep.yield PUnit.unit):Sem (ForInStep PUnit))) Q Z s
 |[],[],fx,ρ,s,Q,hl,hi,ew,o,er,S,R,h=>wpAny_pure (h fx s.heap s.toks o er S)
 |[],_::_,fx,ρ,s,Q,hl,hi,ew,o,er,S,R,h=>nomatch hl
 |(x,v)::bs,[],fx,ρ,s,Q,hl,hi,ew,o,er,S,R,h=>nomatch hl
 |(x,v)::bs,val::vals,fx,ρ,s,Q,hl,hi,ew,o,er,S,R,h=>by
  show wpAny _ _ (forIn ((Str.ofString x,val)::(bs.map fun p=>Str.ofString p.1).zip vals) PUnit.unit _) _ _ _
  rw[List.forIn_cons]
  exact wpAny_bind (wpAny_bind (j5 ew o er S R.uncons.1 (eP (hi (x,v) (List.mem_cons_self ..))) fun fx' h' tk o' er' S'=>wpAny_pure (fg (Nat.succ.inj hl) (fun p hp=>hi p (List.mem_cons_of_mem _ hp)) ew o' er' S' R.uncons.2 h)))
structure lX(H:bg)(a:Addr)(fd:FuncData)(body:List Stmt):Prop where
 ob: ∃o,H.base a=some o∧o.data= .func fd
 co:fd.scope.isCoroutine=false
 gen:fd.scope.isGenerator=false
 body:fd.body= .stmts body
 code: ∃c oc vs tq,fd.code= .ref c∧H.base c=some oc∧oc.data= .fields vs∧vs[1]? =some (.str fd.qualname tq)
 glob:fd.globals=mainGlobals
 bi:fd.builtins=builtinsNs
 clo:fd.closure=[]
 kind:fd.scope.kind= .function
 nd:(fd.scope.names.map (·.1)).Nodup
 nofree: ∀x,fd.scope.names.lookup x≠some .free
 more:bU fd.scope.more=none
noncomputable def sR(fd:FuncData)(a L:Addr):PySem.Env:=newEnv fd.scope L fd.globals (cellsFrom (L+1) fd.scope.names fd.closure) (fd.qualname++ ".<locals>.") (some a) fd.code none fd.builtins
theorem wo{fd:FuncData}{a L:Addr}{body:List Stmt}(F:lX H a fd body):mV fd.scope (sR fd a L) where
 kind:=F.kind
 glob:=F.glob
 bi:=F.bi
 kinds:=fun x k h _=>h
 free:=fun x h=> .inl h
 scope:=fun _=>rfl
 code:=fun c h=>nomatch F.more.symm.trans h
end
end Mine
end
section
namespace Mine
open PySem PySem.W PyProof.Rows PySem.SeqAt PySem.Calls
section
variable{prog:Program}{w:World}{H:bg}{os:OsState}{C:Ctx}{call:aw}{n k:Nat}{X:aH}
variable{A:Around}{W W':Wd}{fx fx0 fx':Fz}{Z:Value→Shared→Prop}{s:Shared}{σ:ah}{sc csc:Scope}{env cenv:PySem.Env}{ρ:Env}
variable{mg mb:PySem.Str→Option Value}{own:List Addr}
noncomputable def kg:List String:=["insort_left", "bisect_left"]
variable(prog w H os call n X) in
noncomputable def cm(f:String)(a:Addr):Prop:=
 ∀(A:Around) (W:Wd) (fx:Fz) (σ:ah) (s:Shared) (args:List V) (vals:List Value) (key:V) (kw:List (PySem.Str×Value)) (Q Z:Value→Shared→Prop),bX A n→St prog w H W fx σ os s→ar prog w H W args vals→
  ((key= .none∧kw=[])∨f∈kg∧ ∃kv,kw=[(Str.ofString "key",kv)]∧bj prog w H W key kv)→
  (call (.fn f) args key σ).sat (nV prog w H os A W fx Q) (cF X A W fx Z)→wpAny (model prog w) A (PySem.call (.ref a) vals kw) Q Z s
theorem Cv{f:String}{a:Addr}{fd:FuncData}{es:List Mine.E}{xs:List Expr}{p pos:Pos}(K:aK H mg mb)(hk:sc.names.lookup (Str.ofString f)=some .globalImplicit)(hg:mg (Str.ofString f)=some (.ref a))(ho: ∃o,H.base a=some o∧o.data= .func fd)
  (hd:(Str.ofString f==("__debug__" :PySem.Str))=false)(hp:xs.any aR=false)(hc:cm prog w H os call n X f a)(h:SL prog w H os C call n X sc es xs):
  SE prog w H os C call n X sc (.call f es .no) (.Call (.Name (Str.ofString f) p) xs [] pos):=by
 intro A env ρ W fx σ s Q Z rm ew er S hs
 refine aA ho fun o ho hdat=>Call_Name rfl (dF K S ew hk hg (callWith_function (o:=o) (fd:=fd) (cJ hp (h.then rm ew er S hs (fun _ _ x=>x) fun q W' vals s' hq l S' R er' h'=>⟨⟨S'.keepP _ _ (S'.base _ _ ho),hdat⟩,?_⟩))) hd)
 have h2:(call (.fn f) q.1 .none q.2).sat (nV prog w H os A W fx Q) (cF X A W fx Z):=h'
 exact hc A W' fx q.2 s' q.1 vals .none [] Q Z rm S' R (.inl ⟨rfl,rfl⟩) (ay.sat_mono h2 (fun _ e=>e.le l) fun _ _ e=>e.le l)
theorem Cu{f:String}{a:Addr}{fd:FuncData}{es:List Mine.E}{key:Mine.E}{xs:List Expr}{x:Expr}{p pos kp:Pos}(hkf:f∈kg)(K:aK H mg mb)(hk:sc.names.lookup (Str.ofString f)=some .globalImplicit)(hg:mg (Str.ofString f)=some (.ref a))(ho: ∃o,H.base a=some o∧o.data= .func fd)
  (hd:(Str.ofString f==("__debug__" :PySem.Str))=false)(hp:xs.any aR=false)(h0:xs≠[])(hc:cm prog w H os call n X f a)(h:SL prog w H os C call n X sc es xs)(hx:SE prog w H os C call n X sc key x){kwd:Keyword}(hkw: ∀env,keywordEach [kwd] env=[(some (Str.ofString "key"),eval x env)]):
  SE prog w H os C call n X sc (.call f es key) (.Call (.Name (Str.ofString f) p) xs [kwd] pos):=by
 intro A env ρ W fx σ s Q Z rm ew er S hs
 refine aA ho fun o ho hdat=>?_
 refine wpAny_Call_Name_kw (dF K S ew hk hg ?_ hd)
 refine callWith_function_kw (o:=o) (fd:=fd) ?_
 have hks:backToKw pos (keywordEach [kwd] env)=[(some (Str.ofString "key"),do let v←eval x env;standAt pos;pure v)]:=by rw[hkw];rfl
 rw[hks,bn hp]
 cases xs with
 |nil=>exact absurd rfl h0
 |cons x0 xs0=>
  refine evalArgs_kw rfl ?_
  have e0:((false,eval x0 env)::xs0.map fun x=>(false,eval x env))=backTo pos (starEach (x0::xs0) env):=(bn hp).symm
  show wpAny _ _ (spliced ((false,eval x0 env)::xs0.map fun x=>(false,eval x env))) _ _ _
  rw[e0]
  refine h.then rm ew er S hs (fun _ _ x=>x) fun q W' vals s' hq l S' R er' h'=>?_
  show wpAny _ _ (evalAll [do let v←eval x env;standAt pos;pure v]) _ _ _
  refine wpAny_bind (wpAny_bind (hx.then rm ew er' S' h' (fun _ _ x=>x.le l) fun q2 W2 kv s2 l2 S2 R2 er2 h2=>?_))
  refine wpAny_bind (wpAny_standAt (wpAny_pure ?_))
  refine wpAny_bind (wpAny_holding (wpAny_pure (wpAny_pure ?_)))
  refine⟨⟨S2.keepP _ _ (S2.base _ _ ho),hdat⟩,?_⟩
  exact hc A W2 fx q2.2 s2 q.1 vals q2.1 [(Str.ofString "key",kv)] Q Z rm S2 (R.le l2) (.inr ⟨hkf,kv,rfl,R2⟩) (ay.sat_mono h2 (fun _ e=>e.le (l.trans l2)) fun _ _ e=>e.le (l.trans l2))
end
end Mine
end
section
namespace Mine
open PySem PySem.W PyProof.Rows PySem.SeqAt PySem.Calls
theorem oH{t v:Expr}{l:Nat}{env:PySem.Env}:swapsWithSole [t] v l env=swapsWith v (some t) l env:=rfl
theorem wZ{sc scope:Scope}{value:Expr}{t:PySem.Str}{pos vpos:Pos}{l:Nat}{env:PySem.Env}(ew:mV sc env)(h:mM value=some (scope,vpos)):
  swapsWithSole [.Name t pos] value l env=pure (vS sc t pos vpos scope):=by
 have hb:=vm ew.toEnvW
 have hk:(env.kindOf t==some .local)=(sc.names.lookup t==some .local):=by unfold Env.kindOf;exact ew.scope t
 have go:swapsWith value (some (.Name t pos)) l env=pure (env.blockKind== .function&&env.kindOf t==some .local&&pos.line==vpos.line&&!(scope.names.any fun(n,k)=>n==t&&(k== .local||k== .cell))):=by
  cases value<;>first|exact dA h|(rw[←(Prod.mk.inj (Option.some.inj h)).1,←(Prod.mk.inj (Option.some.inj h)).2];rfl)
 rw[oH,go,hb,hk];rfl
end Mine
end
section
namespace Mine
open PySem PySem.W PyProof.Rows PySem.SeqAt PySem.Calls
section
variable{prog:Program}{w:World}{H:bg}{os:OsState}{C:Ctx}{call:aw}{n k:Nat}{X:aH}
variable{A:Around}{W W':Wd}{fx fx0 fx':Fz}{Z:Value→Shared→Prop}{s:Shared}{σ:ah}{sc csc:Scope}{env cenv:PySem.Env}{ρ:Env}
theorem bo.frz{x:String}{r:Nat}{v:V}(er:bo prog w H W fx sc env ρ)(l:W.le W')(hx:aM ρ x=some (.ref r))(hv: ∀val,bj prog w H W (.ref r) val→bj prog w H W' v val)(hms:bU sc.more=none∨ ∀y,sc.names.lookup y≠some .free):
  bo prog w H W' fx sc env (put ρ x v):=
 have at_: ∀{y:String} {u:V},aM (put ρ x v) y=some u→ ∃u0,aM ρ y=some u0∧ ∀val,bj prog w H W u0 val→bj prog w H W' u val:=fun e=>gj e (fun h1 h2=>⟨.ref r,h1▸hx,fun val R=>h2▸hv val R⟩) fun _ e=>⟨_,e,fun val R=>R.le l⟩
 ⟨cI er.loc fun o m a b c=>⟨o,m,a,b,fun y u e q=>aA (at_ e) fun u0 e0 f=>aA (c y u0 e0 q) fun val e1 e2=>⟨val,e1,f _ e2⟩⟩,fun y u e q=>aA (at_ e) fun u0 e0 f=>gq (er.cel y u0 e0 q) fun c o val e1 e2 e3 e4=>⟨c,o,val,e1,e2.imp id (l.P _ _),e3,f _ e4⟩,
  fun x q=>jV (er.cin x q) fun c o cv e1 e2 e3=>⟨c,o,cv,e1,e2.imp id (l.P _ _),e3⟩,fun hm y u e q=>hms.elim (fun h=>absurd h hm) fun h=>absurd q (h _)⟩
theorem z8{x:String}{bs:List S}{xs:List Stmt}(hms:bU sc.more=none∨ ∀y,sc.names.lookup y≠some .free)(h2:SB prog w H os C call n k X sc bs xs):SB prog w H os C call n k X sc (.frz x::bs) xs:=by
 intro A env ρ W fx0 fx σ s Q Z rm ew o er S h
 refine so (ay.sat_bind.mp h) fun r hr h=>so h fun v hv h=>ob hr fun u hu hr=>ob hv fun m hm hv=>?_
 rw[fN hr] at hu
 refine iF fun nG=>cN (show∃a,W.ads[r]? =some a from⟨_,List.getElem?_eq_getElem (by rw[S.len];exact(List.getElem?_eq_some_iff.mp hm).1)⟩) fun a ha=>cN (S.there r a ha) fun ob ho=>nG ?_
 have al:m.alive=true:=by
  cases m with
  |dead=>exact dA hv
  |_=>rfl
 have S':=S.freeze ha hm al ho
 have l:W.le (W.fix a ob):=Wd.le_fix (S.pa r a _ ha hm al)
 have R:bj prog w H (W.fix a ob) v (.ref a):=by
  have K:=S.mo r a m ha hm
  cases m with
  |dead=>exact dA hv
  |list xs=>
   rw[←Option.some.inj hv]
   exact nz K fun o' vs g q r n=>Exists.intro a (Exists.intro ob (Exists.intro vs ⟨rfl,Fz.add_self _ _ _,Option.some.inj (g.symm.trans ho)▸q,r.le l,n⟩))
  |dict ks xs=>
   rw[←Option.some.inj hv]
   exact rh K fun o' vs g q r l' n m=>Exists.intro a (Exists.intro ob (Exists.intro vs ⟨rfl,Fz.add_self _ _ _,Option.some.inj (g.symm.trans ho)▸q,r.le l,l',n,m⟩))
 exact h2 A env _ _ fx0 fx _ s Q Z rm ew (o.wd l) (er.frz (hms:=hms) l hu fun val Rv=>aA Rv fun a' e ha'=>by rw[e,Option.some.inj (ha'.symm.trans ha)];exact R) S' (ay.sat_mono h (fun _ e=>e.le l) fun _ _ e=>e.le l)
end
end Mine
end
section
namespace Mine
open PySem PySem.W PyProof.Rows
noncomputable def dO(h:Heap)(p:Addr→Bool):Heap:={h with objs:=Array.ofFn fun i:Fin h.objs.size=>if p i.val then h.objs[i.val] else{cls:= .none,data:= .freed}}
theorem qK{h:Heap}{p:Addr→Bool}{a:Addr}{o:Obj}:(dO h p).get? a=some o↔p a=true∧h.get? a=some o:=by
 rw[Heap.get?_some_iff,Heap.get?_some_iff]
 by_cases ha:a<h.objs.size
 ·have e1:(dO h p).objs[a]? =some (if p a then h.objs[a] else{cls:= .none,data:= .freed}):=by
   have hs:a<(dO h p).objs.size:=by simp only [dO,Array.size_ofFn];exact ha
   rw[Array.getElem?_eq_getElem hs]
   simp [dO]
  have e2:h.objs[a]? =some h.objs[a]:=Array.getElem?_eq_getElem ha
  rw[e1,e2]
  by_cases hp:p a=true
  ·rw[if_pos hp]
   exact⟨fun x=>⟨hp,x⟩,fun x=>x.2⟩
  ·rw[if_neg hp]
   refine⟨fun x=>?_,fun x=>absurd x.1 hp⟩
   refine qH x fun e f=>?_
   injection e with e
   subst e
   exact absurd f (by decide)
 ·have e1:(dO h p).objs[a]? =none:=Array.getElem?_eq_none (by simp only [dO,Array.size_ofFn];exact Nat.le_of_not_lt ha)
  have e2:h.objs[a]? =none:=Array.getElem?_eq_none (Nat.le_of_not_lt ha)
  rw[e1,e2]
  exact⟨fun x=>(by cases x.1),fun x=>(by cases x.2.1)⟩
end Mine
end
section
namespace Mine
open PySem PySem.W PyProof.Rows PySem.SeqAt PySem.Calls
section
variable(prog:Program)(w:World)(H:bg)(os:OsState)(C:Ctx)(call:aw)(n k:Nat)(X:aH)
noncomputable def qn(W:Wd)(fx0:Fz)(Q:Flow→Shared→Prop)(q:Fl×Env×ah):Prop:=
 ∀W' fx' s',W.le W'→fx0.le fx'→St prog w H W' fx' q.2.2 os s'→
  match q.1 with
  | .next=>Q .next s'
  | .ret v=> ∀val,bj prog w H W' v val→Q (.ret val) s'
noncomputable def SF(PA:Around→PySem.Env→Prop)(sc:Scope)(b:List S)(x:List Stmt):Prop:=
 ∀(A:Around) (env:PySem.Env) (ρ:Env) (W:Wd) (fx0 fx:Fz) (σ:ah) (s:Shared) (Q:Flow→Shared→Prop) (E:Value→Shared→Prop),
  bX A n→mV sc env→PA A env→c7 W fx0 fx sc env→bo prog w H W fx sc env ρ→St prog w H W fx σ os s→
  (bk C call k b ρ σ).sat (qn prog w H os W fx0 Q) (cF X A W fx0 E)→wpAny (model prog w) A (execs x env) Q E s
end
section
variable{prog:Program}{w:World}{H:bg}{os:OsState}{C:Ctx}{call:aw}{n k:Nat}{X:aH}
variable{A:Around}{W W':Wd}{fx fx0 fx':Fz}{Z:Value→Shared→Prop}{s:Shared}{σ:ah}{sc csc:Scope}{env cenv:PySem.Env}{ρ:Env}{PA:Around→PySem.Env→Prop}
theorem qn.le{Q:Flow→Shared→Prop}{q:Fl×Env×ah}(l:W.le W')(h:qn prog w H os W fx0 Q q):qn prog w H os W' fx0 Q q:=fun W'' fx' s' a b c=>h W'' fx' s' (l.trans a) b c
theorem qn.ends{Q:Flow→Shared→Prop}{q:Fl×Env×ah}(h:qn prog w H os W fx0 Q q):lY prog w H os A W fx0 sc env Q q:=fun W'' fx' s' a b _ d=>h W'' fx' s' a b.le d
theorem eJ{b:List S}{x:List Stmt}(h:SB prog w H os C call n k X sc b x):SF prog w H os C call n k X PA sc b x:=by
 intro A env ρ W fx0 fx σ s Q Z rm ew pa o er S hs
 exact h A env ρ W fx0 fx σ s Q Z rm ew o er S (ay.sat_mono hs (fun _ e=>e.ends) fun _ _ e=>e)
theorem nY{b:S}{x:Stmt}{bs:List S}{xs:List Stmt}(h1:SS prog w H os C call n k X sc b x)(h2:SF prog w H os C call n k X PA sc bs xs):SF prog w H os C call n k X PA sc (b::bs) (x::xs):=by
 intro A env ρ W fx0 fx σ s Q Z rm ew pa o er S h
 exact wpAny_execs_cons (h1 A env ρ W fx0 fx σ s _ Z rm ew o er S (ay.sat_mono (ay.sat_bind.mp h) (fun q hq W' fx' s' l o' er' S'=>flE (fun e=>h2 A env q.2.1 W' fx0 fx' q.2.2 s' Q Z rm ew pa o' er' S' (ay.sat_mono (flN e hq) (fun _ e=>e.le l) fun _ _ e=>e.le l)) fun v e val R=>flR e hq W' fx' s' l o'.le S' val R) fun _ _ e=>e))
theorem zl{x y:String}(h:eQ x=eQ y):x=y:=by
 unfold eQ at h
 have:=congrArg String.toList h
 simp only [String.toList_append,List.append_cancel_left_eq] at this
 exact String.toList_inj.mp this
noncomputable def ip(cd:Nat×PySem.Str)(x:PySem.Str)(sc:Scope):Scope:={sc with names:=sc.names.map fun p=>if p.1=x then(p.1,.free) else p,more:=mark cd}
theorem jT{cd:Nat×PySem.Str}{x y:PySem.Str}{sc:Scope}:(ip cd x sc).names.lookup y=(sc.names.lookup y).map fun k=>if y=x then .free else k:=by
 show(sc.names.map fun p=>if p.1=x then(p.1,NameKind.free) else p).lookup y=_
 induction sc.names with
 |nil=>rfl
 |cons p r ih=>
  obtain⟨z,k⟩:=p
  have e:(if z=x then(z,NameKind.free) else(z,k))=(z,if z=x then .free else k):=by
   by_cases h:z=x
   ·rw[if_pos h,if_pos h]
   ·rw[if_neg h,if_neg h]
  rw[List.map_cons]
  refine(congrArg (fun p=>List.lookup y (p::_)) e).trans ?_
  by_cases h:y=z
  ·rw[h,ci,ci];rfl
  ·rw[da h,da h,ih]
theorem gZ{cd:Nat×PySem.Str}{x y:PySem.Str}{k:NameKind}{P:Prop}(h:(ip cd x sc).names.lookup y=some k)(k1:y=x→k= .free→P)(k2:y≠x→sc.names.lookup y=some k→P):P:=by
 rw[jT] at h
 refine aA (Option.map_eq_some_iff.mp h) fun j hj e=>?_
 by_cases q:y=x
 ·exact k1 q (e.symm.trans (if_pos q))
 ·exact k2 q (hj.trans (congrArg some ((if_neg q).symm.trans e)))
structure FF(prog:Program)(w:World)(H:bg)(os:OsState)(W:Wd)(fx0:Fz)(σ:ah)(sc:Scope)(env:PySem.Env)(ρ:Env)(s:Shared)(W':Wd)(fx':Fz):Prop where
 l:W.le W'
 o:c7 W' fx0 fx' sc env
 er:bo prog w H W' fx' sc env ρ
 S:St prog w H W' fx' σ os s
theorem yM{cd:Nat×PySem.Str}{x:String}{v:V}(hx:aM ρ x=some v)(hk:sc.names.lookup (Str.ofString x)=some .cell)(hg:sc.names.lookup (Str.ofString (eQ x))=none)
  (hm:bU sc.more≠none∨ ∀y,sc.names.lookup y≠some .free)(o:c7 W fx0 fx sc env)(er:bo prog w H W fx sc env ρ)(S:St prog w H W fx σ os s):
  ∃W' fx',FF prog w H os W fx0 σ (ip cd (Str.ofString x) sc) env (put ρ (eQ x) (gR x v)) s W' fx':=by
 refine ny (o.cel _ hk) fun c ob cv c1 c2 c3 c4 c5=>gq (er.cel x v hx (.inl hk)) fun c' ob' val d1 d2 d3 d4=>?_
 have hP:W.P c=none:=S.pf _ _ c2
 rw[←Option.some.inj (c1.symm.trans d1)] at d2
 rw[d2.elim (fun h=>Option.some.inj (h.symm.trans c2)) fun h=>nomatch hP.symm.trans h] at d3
 have l:W.le (W.fix c ob):=Wd.le_fix hP
 have pc:(W.fix c ob).P c=some ob:=Fz.add_self _ _ _
 have kk: ∀{y k},k≠ .free→(ip cd (Str.ofString x) sc).names.lookup y=some k→sc.names.lookup y=some k∧y≠Str.ofString x:=fun hf hy=>gZ hy (fun _ e=>absurd e hf) fun a b=>⟨b,a⟩
 have kcf: ∀{y},((ip cd (Str.ofString x) sc).names.lookup y=some .cell∨(ip cd (Str.ofString x) sc).names.lookup y=some .free)→sc.names.lookup y=some .cell∨sc.names.lookup y=some .free:=fun hy=>
  hy.elim (fun hy=> .inl (kk (by decide) hy).1) fun hy=>gZ hy (fun e _=> .inl (e▸hk)) fun _ e=> .inr e
 have gone: ∀{b},b≠c→(if b=c then none else fx b)=fx b:=fun hb=>if_neg hb
 have either: ∀{b o2},(fx b=some o2∨W.P b=some o2)→((if b=c then none else fx b)=some o2∨(W.fix c ob).P b=some o2):=fun{b o2} h=>by
  by_cases hb:b=c
  ·rw[hb] at h⊢
   exact .inr (pc.trans (h.elim (fun h=>c2.symm.trans h) fun h=>nomatch hP.symm.trans h))
  ·exact h.imp (fun h=>(gone hb).trans h) (l.P _ _)
 have isx: ∀{y:String},sc.names.lookup (Str.ofString y)≠none→eQ x≠y:=fun hn e=>hn (e▸hg)
 have gp: ∀{y:String} {u:V},sc.names.lookup (Str.ofString y)≠none→aM (put ρ (eQ x) (gR x v)) y=some u→aM ρ y=some u:=fun hn e=>gj e (fun q _=>absurd q (isx hn)) fun _ e=>e
 refine⟨W.fix c ob,fun b=>if b=c then none else fx b,l,⟨fun a q e=>(gone fun q'=>nomatch c4.symm.trans ((congrArg fx0 q').symm.trans e)).trans (o.le a q e),o.loc,cz o.ns fun o2 m2 f1 f2=>⟨o2,m2,(gone (Ne.symm c5)).trans f1,f2⟩,
   fun y hy=>ny (o.cel y (kk (by decide) hy).1) fun d o2 cv2 f1 f2 f3 f4 f5=>⟨d,o2,cv2,f1,(gone fun e=>(kk (by decide) hy).2 (o.apart y _ d (kk (by decide) hy).1 hk f1 (c1.trans (congrArg some (Eq.symm e))))).trans f2,f3,f4,f5⟩,fun y z d hy hz=>o.apart y z d (kk (by decide) hy).1 (kk (by decide) hz).1,fun y d hy hd=>gZ hy (fun e _=>?_) fun _ e=>?_⟩,
  ⟨cI er.loc fun o2 m2 f1 f2 f3=>⟨o2,m2,(gone (Ne.symm c5)).trans f1,f2,fun y u e hy=>have q:=(kk (by decide) hy).1;aA (f3 y u (gp (q▸fun e=>nomatch e) e) q) fun val2 g1 g2=>⟨val2,g1,g2.le l⟩⟩,
   fun y u e hy=>gq (er.cel y u (gp ((kcf hy).elim (fun q=>q▸fun e=>nomatch e) fun q=>q▸fun e=>nomatch e) e) (kcf hy)) fun d o2 val2 g1 g2 g3 g4=>⟨d,o2,val2,g1,either g2,g3,g4.le l⟩,
   fun y hy=>jV (er.cin y (kcf hy)) fun d o2 cv2 g1 g2 g3=>⟨d,o2,cv2,g1,either g2,g3⟩,fun _ y u e hy=>gj e (fun q eu=>?_) fun q e=>gZ hy (fun e _=>absurd (congrArg eQ (ch e).symm) q) fun _ hy=>?_⟩,S.settle c2⟩
 ·rw[e,c1] at hd
  exact .inr fun e=>nomatch pc.symm.trans ((congrArg (W.fix c ob).P (Option.some.inj hd)).trans e)
 ·exact(o.fre y d e hd).imp id fun h e2=>by
   cases e3:W.P d with
   |none=>exact h e3
   |some o2=>exact nomatch (l.P _ _ e3).symm.trans e2
 ·have exy:x=y:=zl q
  rw[←exy]
  have ev:v=u:=(List.cons.inj (List.cons.inj (V.dict.inj eu).2).2).1
  rw[←ev]
  exact⟨c,ob,val,c1,pc,d3,d4.le l⟩
 ·exact hm.elim (fun hm=>gq (er.sld hm y u e hy) fun d o2 val2 g1 g2 g3 g4=>⟨d,o2,val2,g1,l.P _ _ g2,g3,g4.le l⟩) fun hm=>absurd hy (hm _)
theorem yN{cd:Nat×PySem.Str}(hcd:env.code= .ref cd.1∧env.qual=cd.2)(ew:mV sc env){x:PySem.Str}(hk:sc.names.lookup x=some .cell):mV (ip cd x sc) env where
 kind:=ew.kind
 glob:=ew.glob
 bi:=ew.bi
 kinds:=fun y k hy hf=>gZ hy (fun _ e=>absurd e hf) fun _ hy=>ew.kinds y k hy hf
 free:=fun y hy=>gZ hy (fun e _=> .inr (e▸ew.kinds _ _ hk (by decide))) fun _ hy=>ew.free y hy
 scope:=fun y=>by
  rw[ew.scope y,jT]
  by_cases e:y=x
  ·rw[e,hk,Option.map_some,if_pos rfl];rfl
  ·cases sc.names.lookup y with
   |none=>rfl
   |some j=>rw[Option.map_some,if_neg e]
 code:=fun c h=>by
  have e:some cd=some c:=(if_pos rfl:(if("#" :PySem.Str)= "#" then some ((cd.1:Int).toNat,cd.2) else none)=some cd).symm.trans h
  rw[←Option.some.inj e];exact hcd
theorem se{cd:Nat×PySem.Str}(hcd: ∀A env,PA A env→env.code= .ref cd.1∧env.qual=cd.2){x:String}{bs:List S}{xs:List Stmt}(hk:sc.names.lookup (Str.ofString x)=some .cell)(hg:sc.names.lookup (Str.ofString (eQ x))=none)
  (hm:bU sc.more≠none∨ ∀y,sc.names.lookup y≠some .free)(h2:SF prog w H os C call n k X PA (ip cd (Str.ofString x) sc) bs xs):SF prog w H os C call n k X PA sc (.seal x::bs) xs:=by
 intro A env ρ W fx0 fx σ s Q Z rm ew pa o er S h
 exact so (ay.sat_bind.mp h) fun v hx h=>qt (yM hx hk hg hm o er S) fun W' fx' K=>h2 A env _ W' fx0 fx' σ s Q Z rm (yN (hcd _ _ pa) ew hk) pa K.o K.er K.S (ay.sat_mono h (fun _ e=>e.le K.l) fun _ _ e=>e.le K.l)
end
end Mine
end
section
namespace Mine
open PySem PySem.W PyProof.Rows PySem.SeqAt PySem.Calls
noncomputable def XT:aH:=⟨fun _ _ _ _ _ _ _ _=>True,fun _ h=>h,fun _ h=>h⟩
section
variable{prog:Program}{w:World}{H:bg}{os:OsState}{C:Ctx}{call:aw}{n k:Nat}{X:aH}
variable{A:Around}{W W':Wd}{fx fx0 fx':Fz}{Z:Value→Shared→Prop}{s:Shared}{σ:ah}{sc csc:Scope}{env cenv:PySem.Env}{ρ:Env}
variable{mg mb:PySem.Str→Option Value}{own:List Addr}{PA:Around→PySem.Env→Prop}
theorem vi{a:Addr}{fd:FuncData}{body:List Stmt}{bs:List (String×V)}{vals:List Value}{args:Args}{b:List S}{R:Result→Shared→Prop}(K:aK H mg mb)(F:lX H a fd body)(rm:bX A (n+1))(S:St prog w H W fx σ os s)
  (hbind:BindsTo s fd args ((bs.map fun p=>Str.ofString p.1).zip vals))
  (hl:bs.length=vals.length)(nd:(bs.map (·.1)).Nodup)(hi: ∀p∈bs,cV fd.scope (Str.ofString p.1)=true)(Rv:ar prog w H W (bs.map (·.2)) vals)
  (hb:SF prog w H os C call n k X PA fd.scope b body)
  (hpa: ∀env,env.frame=some env.locals→env.scope=fd.scope→env.code=fd.code→env.qual=fd.qualname++ ".<locals>." →PA (A.deeper env) env)
  (hs:(bk C call k b ρ σ).sat (qn prog w H os W fx (fun f s'=>R (.ok (.ret (match f with| .ret v=>v|_=> .none))) s')) (fun _ _=>False))
  (hρ: ∀x,aM (dK [] bs) x=aM ρ x):
  codeAny (model prog w) A (.call (.ref a) args) R s:=by
 refine iF fun nG=>aA F.ob fun o ho hd=>un F.code fun c oc vs tq z=>nG ?_
 refine codeAny_call_function (Nat.lt_of_le_of_lt (Nat.le_trans (Nat.le_add_right ..) (Nat.le_add_right ..)) rm.d) (S.keepP _ _ (S.base _ _ ho)) hd F.co F.gen F.body ⟨c,oc,vs,tq,z.1,S.keepP _ _ (S.base _ _ z.2.1),z.2.2⟩ (hbind _ _ _ _ (my ?_))
 have ew:=wo (L:=s.heap.objs.size) F
 have N:=jF (sc:=fd.scope) (fo:=mF) (env:=sR fd a s.heap.objs.size) S rfl F.nd (cl:=fd.closure) (fun x hx=>absurd hx (F.nofree x)) rfl rfl (tk:=s.toks)
 exact fg hl hi ew.toEnvW N.o N.er N.S Rv fun fx' h' tk o' er' S'=>⟨K.nolim S',codeAny_func (hb (A.deeper _) (sR fd a s.heap.objs.size) ρ W fx fx' σ _ _ _ rm.deeper ew (hpa _ rfl rfl rfl rfl) o' (er'.congr hρ) S' (ay.sat_mono hs (fun _ e=>e) fun _ _ e=>e.elim))⟩
structure yw(prog:Program)(w:World)(H:bg)(a:Addr)(fd:FuncData)(body:List Stmt)(fn:Fn):Prop where
 ok:lX H a fd body
 nd:fn.params.Nodup
 nk:fn.key=true→ "key" ∉fn.params
 own: ∀x∈fn.params,cV fd.scope (Str.ofString x)=true
 ownk:fn.key=true→cV fd.scope (Str.ofString "key")=true
 bind: ∀(W:Wd) (fx:Fz) (σ:ah) (os:OsState) (s:Shared) (args:List V) (vals:List Value) (ρ:Env) (kw:List (PySem.Str×Value)),St prog w H W fx σ os s→ar prog w H W args vals→fe fn.params fn.dflt args=some ρ→
  (fn.key=false→kw=[]→ ∃us,ar prog w H W (ρ.map (·.2)) us∧BindsTo s fd ⟨vals,kw⟩ ((ρ.map fun p=>Str.ofString p.1).zip us))∧
  (fn.key=true→ ∀kv,(kw=[]∧kv= .none)∨kw=[(Str.ofString "key",kv)]→ ∃us,ar prog w H W (ρ.map (·.2)) us∧BindsTo s fd ⟨vals,kw⟩ (((ρ.map fun p=>Str.ofString p.1)++[Str.ofString "key"]).zip (us++[kv])))
theorem eU: ∀{ps:List String} {ds:List (Option V)} {args:List V} {ρ:Env},fe ps ds args=some ρ→ρ.map (·.1)=ps
 |[],_,_,_,h=>qG h fun _ e=>by rw[←e];rfl
 |_::_,[],_,_,h=>dA h
 |x::r,d::ds,v::vs,ρ,h=>ob h fun b hb h=>by rw[←Option.some.inj h];exact congrArg (x:: ·) (eU hb)
 |x::r,d::ds,[],ρ,h=>ob h fun v _ h=>ob h fun b hb h=>by rw[←Option.some.inj h];exact congrArg (x:: ·) (eU hb)
theorem fS{bs:Env}(nd:(bs.map (·.1)).Nodup)(x:String):aM (dK [] bs) x=aM bs x:=by
 rw[kZ,List.append_nil,uI nd]
theorem As{b:List S}{ρ:Env}{Qp:V×ah→Prop}{Qx:List Nat→ah→Prop}(h:(y5 C call n b ρ σ).sat Qp Qx):(bk C call n b ρ σ).sat (fun q=>(q.1= .next→Qp (.none,q.2.2))∧ ∀v,q.1= .ret v→Qp (v,q.2.2)) (fun _ _=>False):=
 ay.sat_mono (ay.sat_calm.mp (ay.sat_bind.mp h)) (fun q hq=>by
  obtain⟨f,ρ',σ'⟩:=q
  cases f with
  |next=>exact⟨fun _=>hq,fun v e=>nomatch e⟩
  |ret v=>exact⟨(fun e=>nomatch e),fun u e=>Fl.ret.inj e▸hq⟩) fun _ _ e=>e
theorem zY{f:String}{a:Addr}{fd:FuncData}{body:List Stmt}{fn:Fn}{P:zC}(K:aK H mg mb)(hf:P.fns.lookup f=some fn)(hkf:f∈kg→fn.key=true)(D:yw prog w H a fd body fn)
  (hb:SF prog w H os P.toCtx (ak P n) n n XT PA fd.scope fn.body body)(hpa: ∀A env,env.frame=some env.locals→env.scope=fd.scope→env.code=fd.code→env.qual=fd.qualname++ ".<locals>." →PA A env):cm prog w H os (ak P (n+1)) (n+1) X f a:=by
 intro A W fx σ s args vals key kw Q Z rm S Ra hkey hs
 refine so hs fun fn' hf' hs=>?_
 rw[←Option.some.inj (hf.symm.trans hf')] at hs
 refine so hs fun ρ hbp hs=>Es hs fun hkk hs=>?_
 have names:=eU hbp
 have B:=D.bind W fx σ os s args vals ρ kw S Ra hbp
 have main: ∀(bs:Env) (us:List Value),(y5 P.toCtx (ak P n) n fn.body bs σ).sat (nV prog w H os A W fx Q) (cF X A W fx Z)→(bs.map (·.1)).Nodup→(∀p∈bs,cV fd.scope (Str.ofString p.1)=true)→ar prog w H W (bs.map (·.2)) us→
   BindsTo s fd ⟨vals,kw⟩ ((bs.map fun p=>Str.ofString p.1).zip us)→wpAny (model prog w) A (PySem.call (.ref a) vals kw) Q Z s:=fun bs us h nd hi Rv hbt=>
  wpAny_call (vi (bs:=bs) (vals:=us) (ρ:=bs) (PA:=PA) K D.ok rm S hbt (by rw[Rv.length,List.length_map]) nd hi Rv hb (fun env e1 e2 e3 e4=>hpa _ env e1 e2 e3 e4) (ay.sat_mono (As h) (fun q hq W' fx' s' l lf S'=>flE (fun e=>hq.1 e W' _ s' l (S'.less lf) eM) fun v e val R=>hq.2 v e W' val s' l (S'.less lf) R) fun _ _ e=>e) (fS nd))
 have own': ∀p∈ρ,cV fd.scope (Str.ofString p.1)=true:=fun p hp=>D.own _ (by rw[←names];exact List.mem_map_of_mem (f:=(·.1)) hp)
 by_cases hk:fn.key=true
 ·rw[if_pos hk] at hs
  have R: ∃kv,((kw=[]∧kv= .none)∨kw=[(Str.ofString "key",kv)])∧bj prog w H W key kv:=hkey.elim (fun h=>⟨.none,.inl ⟨h.2,rfl⟩,h.1▸eM⟩) fun h=>aA h.2 fun kv e r=>⟨kv,.inr e,r⟩
  refine aA R fun kv hkv Rk=>aA (B.2 hk kv hkv) fun us h1 h2=>main _ (us++[kv]) hs ?_ (fun p hp=>(List.mem_append.mp hp).elim (own' p) fun hp=>List.mem_singleton.mp hp▸D.ownk hk) ?_ ?_
  ·rw[List.map_append,names]
   exact List.nodup_append.mpr ⟨D.nd,List.nodup_cons.mpr ⟨(fun h=>nomatch h),List.nodup_nil⟩,fun a ha b hb e=>D.nk hk ((e.trans (List.mem_singleton.mp hb):a= "key")▸ha)⟩
  ·rw[List.map_append];exact h1.append (ar.cons Rk ar.nil)
  ·rw[List.map_append];exact h2
 ·rw[if_neg hk] at hs
  refine aA (B.1 (Bool.eq_false_iff.mpr hk) (hkey.elim (fun h=>h.2) fun h=>absurd (hkf h.1) hk)) fun us h1 h2=>main ρ us hs (by rw[names];exact D.nd) own' h1 h2
end
end Mine
end
section
namespace Mine
open PySem PySem.W PyProof.Rows PySem.SeqAt PySem.Calls
structure dh where
 params:Arguments
 body:Expr
 scope:Scope
 qual:PySem.Str
 fv:List String
structure CellC(P:Fz)(cl:List (PySem.Str×Addr))(x:String)(vs:List Value)(c:Addr)(o:Obj)(v:Value)(q:List Value):Prop where
 e:vs=v::q
 l:cl.lookup (Str.ofString x)=some c
 p:P c=some o
 d:o.data= .cell (some v)
noncomputable def e7(P:Fz)(cl:List (PySem.Str×Addr)):List String→List Value→Prop
 |[],vs=>vs=[]
 |x::r,vs=> ∃c o v q,CellC P cl x vs c o v q∧e7 P cl r q
theorem e7.le{P P':Fz}(l:P.le P'){cl:List (PySem.Str×Addr)}: ∀{xs:List String} {vs:List Value},e7 P cl xs vs→e7 P' cl xs vs
 |[],_,h=>h
 |_::_,_,h=>AH h fun c o v q z t=>⟨c,o,v,q,⟨z.e,z.l,l _ _ z.p,z.d⟩,e7.le l t⟩
structure DA(P:Fz)(d:dh)(a:Addr)(o:Obj)(fd:FuncData)(vs:List Value):Prop where
 ob:P a=some o
 data:o.data= .func fd
 params:fd.params=d.params
 body:fd.body= .expr d.body
 scope:fd.scope=d.scope
 glob:fd.globals=mainGlobals
 bi:fd.builtins=builtinsNs
 dflt:fd.defaults= .none
 kwd:fd.kwdefaults= .none
 qual:fd.qualname=d.qual
 code: ∃c oc ws t,fd.code= .ref c∧P c=some oc∧oc.data= .fields ws∧ws[1]? =some (.str d.qual t)
 cells:e7 P fd.closure d.fv vs
noncomputable def CloR(LD:Nat→Option dh)(P:Fz)(k:Nat)(v:Value)(vs:List Value):Prop:=
 ∃d a o fd,LD k=some d∧v= .ref a∧DA P d a o fd vs
structure InstK(C:Addr)(P:Fz)(v y:Value)(x dx:Addr)(es:List DictEntry)(n:Nat):Prop where
 e:v= .ref x
 i:P x=some (instObj C dx)
 d:P dx=some (PySem.W.dictOf es n)
 l:getL "comp_select_list" es=some (some y)
 c:getL "compare" es=some none
noncomputable def InstR(C:Addr)(P:Fz)(v y:Value):Prop:= ∃x dx es n,InstK C P v y x dx es n
theorem DA.le{P P':Fz}(l:P.le P'){d:dh}{a:Addr}{o:Obj}{fd:FuncData}{vs:List Value}(h:DA P d a o fd vs):DA P' d a o fd vs:=
 ⟨l _ _ h.ob,h.data,h.params,h.body,h.scope,h.glob,h.bi,h.dflt,h.kwd,h.qual,un h.code fun c oc ws t z=>⟨c,oc,ws,t,z.1,l _ _ z.2.1,z.2.2⟩,h.cells.le l⟩
noncomputable def ai(base:Fz)(C:Addr)(LD:Nat→Option dh)(tabs:List (Addr×PySem.Str)):bg where
 base:=base
 inst:=InstR C
 inst_le:=fun l _ _ h=>un h fun x dx es n k=>⟨x,dx,es,n,k.e,l _ _ k.i,l _ _ k.d,k.l,k.c⟩
 inst_ref:=fun h=>un h fun x _ _ _ k=>⟨x,k.e⟩
 clo:=CloR LD
 clo_le:=fun l _ _ _ h=>rg h fun d b o fd h1 h2 h3=>⟨d,b,o,fd,h1,h2,h3.le l⟩
 clo_ref:=fun h=>rg h fun _ a _ _ _ h2 _=>⟨a,h2⟩
 exn:=fun _ _ _=>False
 exn_le:=fun _ _ _ h=>h
 tabs:=tabs
theorem ko{pos pos':Pos}{c cv:Value}: ∀(l:List Value),TriplesOk l→codeAmong pos' (l++[rawInt pos.line,rawInt pos.col,c])=some cv→codeAmong pos' l=some cv∨cv=c:=by
 intro l h
 fun_induction TriplesOk l with
 |case1=>
  intro e
  simp only [List.nil_append,codeAmong,rawInt] at e
  split at e
  ·cases e;exact .inr rfl
  ·cases e
 |case2 a t b u x rest ih=>
  intro e
  simp only [List.cons_append,codeAmong] at e⊢
  split at e
  ·rename_i hc;rw[if_pos hc];exact .inl e
  ·rename_i hc;rw[if_neg hc];exact ih h e
 |case3=>exact h.elim
section
variable{prog:Program}{w:World}{H:bg}{os:OsState}{C:Ctx}{call:aw}{n k:Nat}{X:aH}
variable{A:Around}{W W':Wd}{fx fx0 fx':Fz}{Z:Value→Shared→Prop}{s:Shared}{σ:ah}{sc csc:Scope}{env cenv:PySem.Env}{ρ:Env}
variable{mg mb:PySem.Str→Option Value}{own:List Addr}
theorem tn{P:Fz}{a b:Addr}{o x:Obj}{G:Prop}(h:P.add a o b=some x)(k1:b=a→o=x→G)(k2:b≠a→P b=some x→G):G:=by
 by_cases e:b=a
 ·exact k1 e (Option.some.inj ((if_pos e).symm.trans h))
 ·exact k2 e ((if_neg e).symm.trans h)
theorem St.tabUpd(S:St prog w H W fx σ os s){P:Addr}{q:PySem.Str}{ps:Array Value}{pos:Pos}{c':Addr}{oc:Obj}{ws:Array Value}{u:Tok}{h':Heap}{tk:Nat}(ht:(P,q)∈H.tabs)(hP:s.heap.get? P=some (tabObj ps))
  (hx:Heap.ExtBut P s.heap h')(hc:s.heap.objs.size≤c')(hoc:h'.get? c'=some oc)(hd:oc.data= .fields ws)(hq:ws[1]? =some (.str q u))(htb:h'.get? P=some (tabObj (ps++#[rawInt pos.line,rawInt pos.col,.ref c'])))
  (huniq: ∀t∈H.tabs,t.1=P→t.2=q):St prog w H (W.fix c' oc) fx σ os {s with heap:=h',toks:=tk}:=by
 have f:=S.fresh hc
 have l:W.le (W.fix c' oc):=Wd.le_fix f.P
 have T:=S.tab _ ht
 have nP: ∀{b o},W.P b=some o→b≠P:=fun e q=>nomatch T.2.1.symm.trans ((congrArg W.P q).symm.trans e)
 have nA: ∀{i:Nat} {b},W.ads[i]? =some b→b≠P:=fun e q=>T.2.2.2 _ (q▸e)
 refine⟨S.base.trans l.P,fun b o e=>tn e (fun q eo=>?_) fun _ e=>hx _ _ (nP e) (S.keepP _ _ e),fun b o e=>hx _ _ (fun q=>nomatch T.2.2.1.symm.trans ((congrArg fx q).symm.trans e)) (S.keepF _ _ e),fun b o e=>(Fz.add_ne _ _ fun q=>nomatch f.fx.symm.trans ((congrArg fx q).symm.trans e)).trans (S.pf _ _ e),S.len,
  fun i b e=>cN (S.there i b e) fun o e'=>⟨o,hx _ _ (nA e) e'⟩,S.inj,fun i b m e q'=>((S.mo i b m e q').le l).keep fun o e'=>hx _ _ (nA e) e',fun i b m e q' al=>(Fz.add_ne _ _ fun q:b=c'=>f.ads i (q▸e)).trans (S.pa i b m e q' al),S.fa,fun t htt=>vE (S.tab t htt) fun p q1 r1 u1=>⟨?_,(Fz.add_ne _ _ (f.tab t htt)).trans q1,r1,u1⟩,S.os,S.gens⟩
 ·rw[q,←eo];exact hoc
 ·by_cases hb:t.1=P
  ·have hl:(ps++#[rawInt pos.line,rawInt pos.col,Value.ref c']).toList=ps.toList++[rawInt pos.line,rawInt pos.col,.ref c']:=Array.toList_append
   refine cf T.1 fun ps0 p0 tr0 en0=>?_
   rw[←(Data.fields.inj (Obj.mk.inj (Option.some.inj (hP.symm.trans p0))).2.2.1)] at tr0 en0
   refine⟨_,by rw[hb];exact htb,by rw[hl];exact TriplesOk_snoc _ _ _ _ tr0,fun pos' cv e=>?_⟩
   rw[hl] at e
   refine(ko _ tr0 e).elim (fun e=>un (en0 pos' cv e) fun c2 oc2 vs2 u2 z=>⟨c2,oc2,vs2,u2,z.1,l.P _ _ z.2.1,z.2.2.1,by rw[huniq t htt hb];exact z.2.2.2⟩) fun e=>⟨c',oc,ws,u,e,Fz.add_self _ _ _,hd,by rw[huniq t htt hb];exact hq⟩
  ·exact(p.le l).keep fun o e=>hx _ _ hb e
theorem yB{x:String}{o:Option V}{u:V}(h:wT x o=some u):o=some (gR x u):=ob h fun d hd h=>ob hd fun v hv hd=>by
 obtain⟨ks,vs⟩:=d
 rw[hv,mJ hd]
 match vs,h with
 |[a,u'],h=>
  refine qG h fun hc e=>aY hc fun h1 h2=>?_
  rw[e,kO (eq_of_beq h2),List.isEmpty_iff.mp h1];rfl
theorem j2{names:List (PySem.Str×NameKind)}(er:bo prog w H W fx sc env ρ)(hm:bU sc.more≠none): ∀{fv:List String} {vs:List V},(∀y∈fv,sc.names.lookup (Str.ofString y)=some .free∧(Str.ofString y,NameKind.free)∈names)→te ρ fv=some vs→ ∃us,e7 W.P (eh env.cells names []) fv us∧ar prog w H W vs us
 |[],vs,hf,h=>⟨[],rfl,Option.some.inj h▸ar.nil⟩
 |y::r,vs,hf,h=>ob h fun v hv h=>ob h fun q hq h=>aA (j2 er hm (fun z hz=>hf z (List.mem_cons_of_mem _ hz)) hq) fun us h1 h2=>gq (er.sld hm y v (yB hv) (hf y (List.mem_cons_self ..)).1) fun c o val c1 c2 c3 c4=>
   ⟨val::us,⟨c,o,val,us,⟨rfl,by rw[gE env.cells names [] _ (.inl (hf y (List.mem_cons_self ..)).2),c1];rfl,c2,c3⟩,h1⟩,Option.some.inj h▸ar.cons c4 h2⟩
end
section
variable{prog:Program}{w:World}{os:OsState}{C:Ctx}{call:aw}{n k:Nat}{X:aH}{base:Fz}{IC:Addr}{LD:Nat→Option dh}{tabs:List (Addr×PySem.Str)}
variable{A:Around}{W W':Wd}{fx fx0 fx':Fz}{Z:Value→Shared→Prop}{s:Shared}{σ:ah}{sc csc:Scope}{env cenv:PySem.Env}{ρ:Env}
variable{mg mb:PySem.Str→Option Value}{own:List Addr}
structure Eg(base:Fz)(tabs:List (Addr×PySem.Str))(mg:PySem.Str→Option Value)(sc:Scope)(c:Nat×PySem.Str)(P:Addr)(d:dh):Prop where
 mark:bU sc.more=some c
 tab:(P,d.qual)∈tabs
 uniq: ∀t∈tabs,t.1=P→t.2=d.qual
 hd: ∀h:Heap,base.on h→CodeHd h c.1 P
 ne:mainGlobals≠P
 bm: ∃bm o,mg "__builtins__" =some (.ref bm)∧bm≠builtinsNs∧bm≠mainGlobals∧bm≠P∧base bm=some o∧o.cls= .type "module" ∧o.dict=some builtinsNs∧o.data= .plain
 fre: ∀x∈d.scope.names,x.2= .free→sc.names.lookup x.1=some .free
 fv: ∀y∈d.fv,sc.names.lookup (Str.ofString y)=some .free∧(Str.ofString y,NameKind.free)∈d.scope.names
noncomputable def AX(d:dh)(cl:List (PySem.Str×Addr))(nm:Value)(c:Addr)(ctv:Value):Obj:={cls:= .type "function",data:= .func (kla_fn "<lambda>" d.qual d.params d.body d.scope cl nm (.ref c) ctv)}
theorem xh{d:dh}{x:String}{e:Mine.E}{pos:Pos}{c:Nat×PySem.Str}{P:Addr}(K:aK (ai base IC LD tabs) mg mb)(hk:C.lam k=some (x,e,d.fv))(hd:LD k=some d)(L:Eg base tabs mg sc c P d)(hdef: ∀env,defaultsOf d.params env=([],[]))
  (hq:c.2++ "<lambda>" =d.qual):
  SE prog w (ai base IC LD tabs) os C call n X sc (.lam k) (.Lambda d.params d.body d.scope pos):=by
 intro A env ρ W fx σ s Q Z rm ew er S hs
 refine iF fun nG=>so hs fun lm hlm hs=>so hs fun vs hv hend=>?_
 rw[←Option.some.inj (hk.symm.trans hlm)] at hv
 refine aA (j2 (names:=d.scope.names) er (by rw[L.mark];exact fun e=>nomatch e) L.fv hv) fun us hu Ru=>rh L.bm fun bm ob b1 b2 b3 b4 b5 b6=>cf (S.tab _ L.tab).1 fun ps hP tr en=>nG ?_
 have hclos:closureFor d.scope env=pure (eh env.cells d.scope.names []):=kq fun y hy hf=>je (er.cin y.1 (.inr (L.fre y hy hf))) fun c' o cv e _=>by rw[e];rfl
 have hbase:base.on s.heap:=fun a o e=>S.keepP _ _ (S.base _ _ e)
 have hb:s.heap.BuiltinsAt mg P:=⟨bm,ob,b1,b2,b3,b4,hbase _ _ b5,b6⟩
 have hcode:=ew.code c L.mark
 refine kla_eval (hdef env) ?_
 rw[hcode.2,hq]
 have fin: ∀(W1:Wd) (s1:Shared) (c1:Addr) (oc:Obj) (ws:Array Value) (u:Tok) (ctv:Value),W.le W1→St prog w (ai base IC LD tabs) W1 fx σ os s1→W1.P c1=some oc→oc.data= .fields ws→ws[1]? =some (.str d.qual u)→
   Q (.ref s1.heap.objs.size) {s1 with heap:=s1.heap.push (AX d (eh env.cells d.scope.names []) ((mg "__name__").getD .none) c1 ctv)}:=fun W1 s1 c1 oc ws u ctv l S1 h1 h2 h3=>
  have f:=S1.fresh (Nat.le_refl s1.heap.objs.size)
  have l2:W1.le (W1.fix s1.heap.objs.size (AX d (eh env.cells d.scope.names []) ((mg "__name__").getD .none) c1 ctv)):=Wd.le_fix f.P
  hend _ _ _ (l.trans l2) ((S1.push _).fix f (Heap.get?_push_size _ rfl)) (Exists.intro us ⟨⟨d,_,_,_,hd,rfl,⟨Fz.add_self _ _ _,rfl,rfl,rfl,rfl,rfl,rfl,rfl,rfl,rfl,⟨c1,oc,ws,u,rfl,l2.P _ _ h1,h2,h3⟩,hu.le (l.trans l2).P⟩⟩,Ru.le (l.trans l2)⟩)
 cases hf:codeAmong pos ps.toList with
 |some cv=>
  refine un (en pos cv hf) fun c1 oc ws u z=>?_
  rw[z.1] at hf
  exact kla_makeFunctionHit hclos ew.glob (K.ng S) hcode.1 (L.hd _ hbase) hP tr hf hb fun ctv h' tk hk' hsz=>fin W {s with heap:=h',toks:=tk} c1 oc ws u ctv (.refl _) (S.ext hk') z.2.1 z.2.2.1 z.2.2.2
 |none=>
  refine kla_makeFunction hclos ew.glob (K.ng S) hcode.1 (L.hd _ hbase) hP tr hf L.ne hb fun c' ctv h' tk hx hge hlt hrec htb=>un hrec fun c1 oc ws u z=>?_
  have h1:=z.2.1
  rw[←Value.ref.inj z.1] at h1
  exact fin _ {s with heap:=h',toks:=tk} c' oc ws u ctv (Wd.le_fix (S.fresh hge).P) (S.tabUpd (tk:=tk) L.tab hP hx hge h1 z.2.2.1 z.2.2.2 htb L.uniq) (Fz.add_self _ _ _) z.2.2.1 z.2.2.2
end
end Mine
end
section
namespace Mine
open PySem PySem.W PyProof.Rows PySem.SeqAt PySem.Calls
structure lU(A:Around)(n:Nat):Prop where
 h:A.handled=none
 d:A.depth+4*n+6<recursionLimit
 u:A.units+100*n+250<cLine
theorem kX{a i m j k:Nat}(h:i+j≤k):a+i+m+j≤a+m+k:=by
 rw[Nat.add_right_comm a i m,Nat.add_assoc]
 exact Nat.add_le_add_left h _
theorem bX.weak{A:Around}{n:Nat}(r:bX A n):lU A n:=⟨r.h,Nat.lt_of_le_of_lt (Nat.add_le_add_left (by decide) _) r.d,Nat.lt_of_le_of_lt (Nat.add_le_add_left (by decide) _) r.u⟩
theorem bX.weak2{A:Around}{n:Nat}(r:bX A n):lU A.in1.in1 n:=⟨r.h,Nat.lt_of_le_of_lt (Nat.add_le_add_left (by decide) _) r.d,Nat.lt_of_le_of_lt (kX (i:=2) (by decide)) r.u⟩
theorem lU.deeper{A:Around}{n:Nat}{env:PySem.Env}(r:lU A (n+1)):bX (A.deeper env) n:=⟨r.h,Nat.lt_of_le_of_lt (kX (i:=1) (m:=4*n) (k:=10) (by decide)) r.d,Nat.lt_of_le_of_lt (kX (i:=3) (m:=100*n) (k:=350) (by decide)) r.u⟩
section
variable{prog:Program}{w:World}{os:OsState}{C:Ctx}{call:aw}{n k:Nat}{X:aH}{base:Fz}{IC:Addr}{LD:Nat→Option dh}{tabs:List (Addr×PySem.Str)}
variable{A:Around}{W W':Wd}{fx fx0 fx':Fz}{Z:Value→Shared→Prop}{s:Shared}{σ:ah}{sc csc:Scope}{env cenv:PySem.Env}{ρ:Env}
variable{mg mb:PySem.Str→Option Value}{own:List Addr}
variable(prog w os call n base IC LD tabs) in
noncomputable def qp:Prop:=
 ∀(A:Around) (W:Wd) (fx:Fz) (σ:ah) (s:Shared) (k:Nat) (ws:List V) (fv:Value) (x:V) (xv:Value) (Q Z:Value→Shared→Prop),lU A n→St prog w (ai base IC LD tabs) W fx σ os s→
  bj prog w (ai base IC LD tabs) W (.clo k ws) fv→bj prog w (ai base IC LD tabs) W x xv→
  (call (.clo k ws) [x] .none σ).sat (nV prog w (ai base IC LD tabs) os A W fx Q) (fun _ _=>False)→wpAny (model prog w) A (PySem.call fv [xv]) Q Z s
structure Ef(prog:Program)(w:World)(os:OsState)(base:Fz)(IC:Addr)(LD:Nat→Option dh)(tabs:List (Addr×PySem.Str))(P:zC)(n:Nat)(d:dh)(x:String)(e:Mine.E):Prop where
 kind:d.scope.kind= .function
 co:d.scope.isCoroutine=false
 gen:d.scope.isGenerator=false
 nd:(d.scope.names.map (·.1)).Nodup
 more:bU d.scope.more=none
 own:cV d.scope (Str.ofString x)=true
 only: ∀y:String,(d.scope.names.lookup (Str.ofString y)=some .local∨d.scope.names.lookup (Str.ofString y)=some .cell)→y=x
 fre: ∀y,d.scope.names.lookup y=some .free→ ∃z∈d.fv,y=Str.ofString z
 nfv: ∀z∈d.fv,d.scope.names.lookup (Str.ofString z)=some .free
 bind: ∀(fd:FuncData) (v:Value),fd.params=d.params→fd.defaults= .none→fd.kwdefaults= .none→bindArgs fd ⟨[v],[]⟩=pure [(Str.ofString x,v)]
 body:SE prog w (ai base IC LD tabs) os P.toCtx (ak P n) n XT d.scope e d.body
structure CellG(P:Fz)(cl:List (PySem.Str×Addr))(y:String)(c:Addr)(o:Obj)(u:Value):Prop where
 l:cl.lookup (Str.ofString y)=some c
 p:P c=some o
 d:o.data= .cell (some u)
theorem e7.get{P:Fz}{cl:List (PySem.Str×Addr)}{y:String}: ∀{fv:List String} {us:List Value} {vs:List V},e7 P cl fv us→ar prog w (ai base IC LD tabs) W vs us→y∈fv→
  ∃c o u,CellG P cl y c o u∧ ∀v,aM (fv.zip vs) y=some v→bj prog w (ai base IC LD tabs) W v u
 |z::r,us,[],h,R,hy=>AH h fun c o u q k t=>nomatch (Eq.symm (R:us=[])).trans k.e
 |z::r,us,v::vs,h,R,hy=>AH h fun c o u q k t=>by
  rw[k.e] at R
  by_cases e:z=y
  ·exact⟨c,o,u,⟨e▸k.l,k.p,k.d⟩,fun v' hv=>Option.some.inj ((if_pos e).symm.trans hv)▸R.uncons.1⟩
  ·exact je (e7.get t R.uncons.2 ((List.mem_cons.mp hy).elim (fun q=>absurd q.symm e) id)) fun c' o' u' g1 g2=>⟨c',o',u',g1,fun v' hv=>g2 v' ((if_neg e).symm.trans hv)⟩
theorem yI{P:zC}(K:aK (ai base IC LD tabs) mg mb)(hall: ∀k d,LD k=some d→ ∃x e,P.lam k=some (x,e,d.fv)∧Ef prog w os base IC LD tabs P n d x e):
  qp prog w os (ak P (n+1)) (n+1) base IC LD tabs:=by
 intro A W fx σ s k ws fv x xv Q Z rm S Rc Rx hs
 refine iF fun nG=>aA Rc fun us z1 Ru=>rg z1 fun d a o fd hd ev B=>cz (hall k d hd) fun px e hl O=>so hs fun lm hlm hs=>so hs fun v hv hs=>Es hs fun hlen hs=>un B.code fun c oc cs t z=>nG ?_
 rw[←Option.some.inj (hl.symm.trans hlm),←Option.some.inj hv] at hs
 rw[ev]
 have nofree:fd.scope.names.lookup (Str.ofString px)≠some .free:=fun q=>(eP (B.scope▸O.own:cV fd.scope (Str.ofString px)=true)).elim (fun e=>nomatch e.symm.trans q) fun e=>nomatch e.symm.trans q
 have only: ∀y:String,(fd.scope.names.lookup (Str.ofString y)=some .local∨fd.scope.names.lookup (Str.ofString y)=some .cell)→px=y:=fun y h=>(O.only y (B.scope▸h)).symm
 have fre: ∀y,fd.scope.names.lookup y=some .free→ ∃z,z∈d.fv∧y=Str.ofString z:=fun y h=>O.fre y (B.scope▸h)
 refine wpAny_call (kla_callFunE (body:=d.body) (Nat.lt_of_le_of_lt (Nat.le_trans (Nat.le_add_right ..) (Nat.le_add_right ..)) rm.d) (S.keepP _ _ B.ob) B.data (by rw[B.scope];exact O.co) (by rw[B.scope];exact O.gen) B.body ⟨c,oc,cs,t,z.1,S.keepP _ _ z.2.1,z.2.2.1,by rw[B.qual];exact z.2.2.2⟩ ?_)
 rw[O.bind fd xv B.params B.dflt B.kwd]
 have N:=jF (sc:=fd.scope) (fo:=mF) (env:=sR fd a s.heap.objs.size) S rfl (B.scope▸O.nd) (cl:=fd.closure) (fun y hy=>aA (fre y hy) fun z hz e=>je (e7.get B.cells Ru hz) fun c' o' u' g _=>⟨c',o',_,e▸g.l,.inr g.p,g.d⟩) rfl rfl (tk:=s.toks)
 have ew:EnvW fd.scope (sR fd a s.heap.objs.size):=⟨(B.scope▸O.kind:fd.scope.kind= .function),B.glob,B.bi,fun y k h _=>h,fun y h=> .inl h,fun c h=>nomatch (B.scope▸O.more:bU fd.scope.more=none).symm.trans h⟩
 refine wpAny_pure (my (fg (bs:=[(px,x)]) (vals:=[xv]) (env:=sR fd a s.heap.objs.size) (sc:=fd.scope) rfl (fun p hp=>(List.mem_singleton.mp hp)▸(B.scope▸O.own)) ew N.o N.er N.S (ar.cons Rx ar.nil) fun fx' h' tk o' er' S'=>⟨K.nolim S',kla_codeExpr ?_⟩))
 have gx: ∀{y:String} {u:V},px=y→aM ((px,x)::d.fv.zip ws) y=some u→aM (dK [] [(px,x)]) y=some u:=fun{y u} e h=>(if_pos e).trans ((if_pos e).symm.trans h)
 have er2:bo prog w (ai base IC LD tabs) W fx' fd.scope (sR fd a s.heap.objs.size) ((px,x)::d.fv.zip ws):=by
  refine⟨cI er'.loc fun o1 m a1 b1 l1=>⟨o1,m,a1,b1,fun y v hv hk=>l1 y v (gx (only y (.inl hk)) hv) hk⟩,fun y v hv hk=>hk.elim (fun hk=>er'.cel y v (gx (only y (.inr hk)) hv) (.inl hk)) fun hk=>aA (fre _ hk) fun z hz hyz=>?_,er'.cin,fun hm=>absurd (B.scope▸O.more) hm⟩
  rw[←ch hyz] at hz
  refine je (e7.get B.cells Ru hz) fun c' o' u' g g4=>⟨c',o',u',Eq.trans ?_ g.l,.inr g.p,g.d,g4 v ((if_neg fun q:px=y=>nofree (q▸hk)).symm.trans hv)⟩
  show(cellsFrom (s.heap.objs.size+1) fd.scope.names fd.closure).lookup _=_
  rw[←Heap.size_push s.heap mF]
  exact(cH fd.scope.names (s.heap.push mF) fd.closure (B.scope▸O.nd) _).n (by rw[hk];exact fun e=>nomatch e)
 exact O.body (A.deeper _) _ _ W fx' σ _ _ _ rm.deeper (B.scope▸ew) (B.scope▸er2) S' (ay.sat_mono (ay.sat_calm.mp hs) (fun q hq W' val s' l S2 R=>hq W' val s' l (S2.less o'.le) R) fun _ _ e=>e.elim)
theorem xk{x:String}{a:Mine.E}{y:Expr}{p pos:Pos}(hd:(Str.ofString x==("__debug__" :PySem.Str))=false)(hc:(Str.ofString x==("__classdict__" :PySem.Str))=false)
  (hk:sc.names.lookup (Str.ofString x)=some .local∨sc.names.lookup (Str.ofString x)=some .cell∨sc.names.lookup (Str.ofString x)=some .free)(hp:aR y=false)
  (hcalm: ∀k ws l σ,call (.clo k ws) l .none σ=(call (.clo k ws) l .none σ).calm)
  (hcl:qp prog w os call n base IC LD tabs)(ha:SE prog w (ai base IC LD tabs) os C call n X sc a y):SE prog w (ai base IC LD tabs) os C call n X sc (.callv x a) (.Call (.Name (Str.ofString x) p) [y] [] pos):=by
 intro A env ρ W fx σ s Q Z rm ew er S hs
 refine so hs fun c hcx hs=>ob hcx fun f hx hf=>Call_Name rfl (tX (call:=call) (C:=C) (n:=n) (X:=XT) hd hc hk A env ρ W fx σ s _ Z rm ew er S ?_)
 have hp':[y].any aR=false:=by rw[List.any_cons,hp];rfl
 show((ay.ofOpt (aM ρ x)).bind _).sat _ _
 rw[hx,qc hf]
 intro W1 val s1 l1 S1 R1
 refine aA R1 fun us z1 Ru=>rg z1 fun d b o fd h1 ev B=>?_
 rw[ev] at R1⊢
 refine callWith_function (o:=o) (fd:=fd) (cJ hp' ?_)
 rw[bn hp']
 refine spliced_cons (ha.then rm ew (er.le l1 fun _ _ e=>e) S1 hs (fun _ _ z=>z.le l1) fun q W2 u s2 l2 S2 R2 er2 h2=>spliced_nil ⟨⟨S2.keepP _ _ (l2.P _ _ B.ob),B.data⟩,?_⟩)
 rw[hcalm] at h2
 exact hcl A W2 fx q.2 s2 c.1 c.2 _ q.1 u Q Z rm.weak S2 (R1.le l2) R2 (ay.sat_mono (ay.sat_calm.mp h2) (fun _ e=>e.le (l1.trans l2)) fun _ _ e=>e)
end
end Mine
end
section
namespace Mine
open PySem PySem.W PyProof.Rows PySem.SeqAt PySem.Calls
section
variable{prog:Program}{w:World}{os:OsState}{C:Ctx}{call:aw}{n k:Nat}{X:aH}{base:Fz}{IC:Addr}{LD:Nat→Option dh}{tabs:List (Addr×PySem.Str)}
variable{A:Around}{W W':Wd}{fx fx0 fx':Fz}{Z:Value→Shared→Prop}{s:Shared}{σ:ah}{sc csc:Scope}{env cenv:PySem.Env}{ρ:Env}
variable{mg mb:PySem.Str→Option Value}{own:List Addr}{K:Frag}
theorem iz(hK: ∀a o,K.lookup a=some o→base a=some o)(S:St prog w (ai base IC LD tabs) W fx σ os s):K.In s.heap:=fun a o e=>S.keepP _ _ (S.base _ _ (hK a o e))
theorem xT{x dx:Addr}{es:List DictEntry}{m:Nat}(S:St prog w (ai base IC LD tabs) W fx σ os s)(h1:W.P x=some (instObj IC dx))(h2:W.P dx=some (PySem.W.dictOf es m)):
  InstAt s.heap x (instObj IC dx) IC (some (PySem.W.dictOf es m)):=⟨S.keepP _ _ h1,rfl,rfl,S.keepP _ _ h2⟩
theorem yT{o a b:Mine.E}{x y z:Expr}{ap pos:Pos}{f:Addr}{fd:FuncData}(hK: ∀a o,K.lookup a=some o→base a=some o)(hg:plainGet K IC "compare" =true)(hf:findIn K (.ref IC) "compare" =some (some (.ref f)))(ht:isFn K (.ref f)=true)
  (hfd: ∃ob,base f=some ob∧ob.data= .func fd)(hb:k9 x=true)(hy:aR y=false)(hz:aR z=false)(hline:(ap.endLine==pos.line)=true)
  (hc:cm prog w (ai base IC LD tabs) os call n X "TupleComp.compare" f)(ho:SE prog w (ai base IC LD tabs) os C call n X sc o x)(ha:SE prog w (ai base IC LD tabs) os C call n X sc a y)(hbb:SE prog w (ai base IC LD tabs) os C call n X sc b z):
  SE prog w (ai base IC LD tabs) os C call n X sc (.compare o a b) (.Call (.Attribute x "compare" ap) [y,z] [] pos):=by
 intro A env ρ W fx σ s Q Z rm ew er S hs
 refine aA hfd fun ob ho1 ho2=>?_
 rw[arm_eval_Call,kz hb]
 refine wpAny_bind (ho.then rm ew er S hs (fun _ _ e=>e) fun q W1 ov s1 l1 S1 R1 er1 h1=>so h1 fun c hc1 h1=>?_)
 have hv:=rq hc1
 rw[hv] at R1
 refine iF fun nG=>aA (id R1) fun yv z1 Rc=>un z1 fun ix dx es m I=>nG ?_
 have hxs:[y,z].any aR=false:=by rw[List.any_cons,List.any_cons,hy,hz];rfl
 have hpos:methodCallPos true x env ap pos=pure pos:=by unfold methodCallPos;rw[hline];rfl
 rw[I.e] at R1⊢
 refine wpAny_bind (wpAny_standAt ?_)
 unfold methodCall
 rw[show methodCallForm ([y,z].length+([]:List Keyword).length) (backTo pos (starEach [y,z] env)) (backToKw pos (keywordEach [] env))=true from mG hxs (show 2<29 by decide)]
 refine wpAny_bind (wpAny_holding (method_fn (iz hK S1) (xT S1 I.i I.d) (plainGet_of hg).1 (plainGet_of hg).2 hf (beq_iff_eq.mp ht) (by show(lookIn _ (PySem.W.dictOf es m)).map _=_;rw[lookIn_dict,I.c];rfl) (wpAny_bind (wpAny_of_eq hpos (callWith_function (o:=ob) (fd:=fd) (cJ hxs ?_))))))
 rw[bn hxs]
 refine spliced_cons (ha.then rm ew er1 S1 h1 (fun _ _ e=>e.le l1) fun q2 W2 u s2 l2 S2 R2 er2 h2=>?_)
 refine spliced_cons (hbb.then rm ew er2 S2 h2 (fun _ _ e=>e.le (l1.trans l2)) fun q3 W3 v s3 l3 S3 R3 er3 h3=>spliced_nil ⟨⟨S3.keepP _ _ (S3.base _ _ ho1),ho2⟩,?_⟩)
 exact hc A W3 fx q3.2 s3 [.inst c,q2.1,q3.1] _ .none [] Q Z rm S3 (ar.cons (R1.le (l2.trans l3)) (ar.cons (R2.le l3) (ar.cons R3 ar.nil))) (.inl ⟨rfl,rfl⟩) (ay.sat_mono h3 (fun _ e=>e.le ((l1.trans l2).trans l3)) fun _ _ e=>e.le ((l1.trans l2).trans l3))
theorem Aw{P:Value→Prop}(hn:P .none)(hb: ∀b,P (.bool b))(hi: ∀i t,P (.int i t))(hs: ∀x t,P (.str x t))(hr: ∀a,P (.ref a)){x:V}{v:Value}(R:bj prog w (ai base IC LD tabs) W x v):P v:=by
 have rr:(∃a,v= .ref a)→P v:=fun h=>cN h fun a e=>e▸hr a
 cases x with
 |none=>exact Eq.subst (motive:=P) (Eq.symm R) hn
 |bool b=>exact Eq.subst (motive:=P) (Eq.symm R) (hb b)
 |int i=>exact cN R fun t e=>e▸hi i t
 |str s=>exact aA R fun t e _=>e▸hs _ t
 |tup xs=>exact jC R fun a _ _ k=>rr ⟨a,k.e⟩
 |lst xs=>exact jC R fun a _ _ k=>rr ⟨a,k.e⟩
 |dict ks xs=>exact jC R fun a _ _ k=>rr ⟨a,k.e⟩
 |ref i=>exact aA R fun a e _=>rr ⟨a,e⟩
 |inst c=>exact aA R fun _ k _=>rr ((ai base IC LD tabs).inst_ref k)
 |clo k xs=>exact aA R fun _ k _=>rr ((ai base IC LD tabs).clo_ref k)
 |exn m=>exact False.elim R
theorem vX{o:Mine.E}{x:Expr}{pos:Pos}(hK: ∀a o,K.lookup a=some o→base a=some o)(hg:plainGet K IC "comp_select_list" =true)(hh:hasDictIn K IC=true)(ha:findIn K (.ref IC) "comp_select_list" =some none)
  (ho:SE prog w (ai base IC LD tabs) os C call n X sc o x)
  (he: ∀env,eval (.Attribute x "comp_select_list" pos) env=(do
   let o←eval x env
   standAt pos.atName
   let r←holding [o] (getAttr o "comp_select_list" true)
   letTemporaryGo x o r
   pure r)):SE prog w (ai base IC LD tabs) os C call n X sc (.selfList o) (.Attribute x "comp_select_list" pos):=by
 intro A env ρ W fx σ s Q Z rm ew er S hs
 refine Attribute_any_ (ho.then rm ew er S hs (fun _ _ e=>e) fun q W1 ov s1 l1 S1 R1 er1 h1=>so h1 fun c hc h1=>?_) (he env)
 rw[rq hc] at R1
 refine iF fun nG=>aA R1 fun yv z1 Rc=>un z1 fun ix dx es m I=>nG ?_
 rw[I.e]
 exact get_value (v:=yv) (iz hK S1) (xT S1 I.i I.d) (plainGet_of hg).1 (findObj_own hh ha rfl (by rw[lookIn_dict];exact I.l)) (Aw (P:=fun v=>handedIn v=true) rfl (fun _=>rfl) (fun _ _=>rfl) (fun _ _=>rfl) (fun _=>rfl) Rc) (h1 W1 _ _ l1 S1.tok Rc)
end
end Mine
end
section
namespace Mine
open PySem PySem.W PyProof.Rows PySem.SeqAt PySem.Calls
structure BN(base:Fz)(fI:Addr)(fd:FuncData):Prop where
 ob: ∃o,base fI=some o∧o.data= .func fd
 body: ∃p1 p2 p3 p4,fd.body= .stmts [.Assign [.Attribute (.Name "self" p1) "comp_select_list" p2] (.Name "comp_select_list" p3) p4]
 code: ∃c oc vs tq,fd.code= .ref c∧base c=some oc∧oc.data= .fields vs∧vs[1]? =some (.str fd.qualname tq)
 bind: ∀u v,bindArgs fd ⟨[u,v],[]⟩=pure [((Str.ofString "self"),u),(Str.ofString "comp_select_list",v)]
 names:fd.scope.names=[(Str.ofString "self",.local),(Str.ofString "comp_select_list",.local)]
 co:fd.scope.isCoroutine=false
 gen:fd.scope.isGenerator=false
 kind:fd.scope.kind= .function
section
variable{prog:Program}{w:World}{os:OsState}{C:Ctx}{call:aw}{n k:Nat}{X:aH}{base:Fz}{IC:Addr}{LD:Nat→Option dh}{tabs:List (Addr×PySem.Str)}
variable{A:Around}{W W':Wd}{fx fx0 fx':Fz}{Z:Value→Shared→Prop}{s:Shared}{σ:ah}{sc csc:Scope}{env cenv:PySem.Env}{ρ:Env}
variable{mg mb:PySem.Str→Option Value}{own:List Addr}{K:Frag}
theorem rs(p:Params)(tk:Tok)(y:Value):getL "comp_select_list" (putL "comp_select_list" (PyData.keyHash p "comp_select_list") (.str "comp_select_list" tk) y [])=some (some y)∧
  getL "compare" (putL "comp_select_list" (PyData.keyHash p "comp_select_list") (.str "comp_select_list" tk) y [])=some none:=by
 exact⟨by kernel_rfl,by kernel_rfl⟩
theorem vj{fI:Addr}{fd:FuncData}(KH:aK (ai base IC LD tabs) mg mb)(hK: ∀a o,K.lookup a=some o→base a=some o)(hm:makesIn K IC=true)(hi:findIn K (.ref IC) "__init__" =some (some (.ref fI)))(hf:typeIn K (.ref fI)=some (.type "function"))
  (I:BN base fI fd)(hset:findIn K (.ref IC) "__setattr__" =some (some (.builtin "object.__setattr__")))(hp:plainOver K IC=true)(ht:takerIn K IC "comp_select_list" =some none)(hh:hasDictIn K IC=true):
  f8 prog w (ai base IC LD tabs) os n "TupleComp" (.ref IC):=by
 refine qe fun A W fx σ s v y r Q Z rm S Ry e h=>?_
 rw[←Option.some.inj (e:some (V.inst v)=some r)] at h
 refine iF fun nG=>aA I.ob fun o ho hd=>un I.code fun c oc ws tq z=>un I.body fun p1 p2 p3 p4 hbody=>nG ?_
 have X0:=iz hK S
 refine wpAny_call (make_core (makes_of X0 hm) (looks_findIn X0 hi) (fun self=>bind_fn X0 self hf) (.inl rfl) ?_)
 have k2: ∀b o,s.heap.get? b=some o→((s.heap.push emptyDict).push (instObj IC s.heap.objs.size)).get? b=some o:=fun b o e=>Heap.get?_push_of_some _ (Heap.get?_push_of_some _ e)
 have hd2:((s.heap.push emptyDict).push (instObj IC s.heap.objs.size)).get? s.heap.objs.size=some emptyDict:=Heap.get?_push_of_some _ (Heap.get?_push_size _ rfl)
 have hx2:((s.heap.push emptyDict).push (instObj IC s.heap.objs.size)).get? (s.heap.objs.size+1)=some (instObj IC s.heap.objs.size):=by
  rw[←Heap.size_push s.heap emptyDict]
  exact Heap.get?_push_size _ rfl
 have sz2:((s.heap.push emptyDict).push (instObj IC s.heap.objs.size)).objs.size=s.heap.objs.size+2:=by rw[Heap.size_push,Heap.size_push]
 generalize hH:(s.heap.push emptyDict).push (instObj IC s.heap.objs.size)=h2 at k2 hd2 hx2 sz2
 have fr: ∀i,s.heap.get? (s.heap.objs.size+i)=none:=fun i=>Heap.get?_none_of_le (Nat.le_add_right ..)
 have lt2: ∀{i},i<2→s.heap.objs.size+i≠h2.objs.size:=fun hi e=>absurd (Nat.add_left_cancel (e.trans sz2)) (Nat.ne_of_lt hi)
 refine codeAny_call_def (by rw[depth_under_make];exact Nat.lt_of_le_of_lt (Nat.add_le_add (Nat.le_add_right A.depth (4*n)) (show 1≤8 by decide)) rm.d) (k2 _ _ (S.keepP _ _ (S.base _ _ ho))) hd ((KH.nolim S).keeps k2) ⟨c,oc,ws,tq,z.1,k2 _ _ (S.keepP _ _ (S.base _ _ z.2.1)),z.2.2⟩ hbody (BindsTo.of_eq (I.bind _ _)) ?_ ?_ (fun h3 hns hk3=>?_) I.co I.gen I.kind
 ·rw[I.names];exact fun x hx=>(two hx).elim (fun e=>e▸(show NameKind.local≠ .cell by decide)) fun e=>e▸(show NameKind.local≠ .cell by decide)
 ·rw[I.names];exact fun x hx=>(two hx).elim (fun e=>e▸rfl) fun e=>e▸rfl
 have F3:Fr s.heap h2.objs.size h3 (fun x=>([((Str.ofString "self"),Value.ref (s.heap.objs.size+1)),(Str.ofString "comp_select_list",y)]:List (PySem.Str×Value)).reverse.lookup x):=
  ⟨hns,fun b o e=>hk3 b o (k2 b o e),by rw[sz2];exact Nat.le_add_right ..⟩
 have N3:News s.heap h2.objs.size h3 [(s.heap.objs.size,PySem.W.dictOf [] 0),(s.heap.objs.size+1,instObj IC s.heap.objs.size)]:=fun p hp=>
  (two hp).elim (fun e=>e▸⟨hk3 _ _ hd2,lt2 (i:=0) (by decide),fr 0⟩) fun e=>e▸⟨hk3 _ _ hx2,lt2 (i:=1) (by decide),fr 1⟩
 have nm: ∀{x:PySem.Str},fd.scope.names.lookup x=([(Str.ofString "self",NameKind.local),(Str.ofString "comp_select_list",.local)]:List (PySem.Str×NameKind)).lookup x:=by rw[I.names];exact rfl
 have I3:InstAt h3 (s.heap.objs.size+1) (instObj IC s.heap.objs.size) IC (some (PySem.W.dictOf [] 0)):=⟨hk3 _ _ hx2,rfl,rfl,hk3 _ _ hd2⟩
 refine wpAny_execs_cons (plainObj_wpAny_Assign_Attribute (wpAny_Name (wpAny_loadName_local I.kind nm hns (v:=y) (by rfl) ?_) (by decide)) (by rfl))
 refine wpAny_Name (wpAny_loadName_local I.kind nm hns (v:= .ref (s.heap.objs.size+1)) (by rfl) ?_) (by decide)
 refine set_dict (es:=[]) (n:=0) F3 (fun a o e=>S.keepP _ _ (S.base _ _ (hK a o e))) N3 I3 rfl hset hp ht hh rfl rfl
  (.head (fun p hp=>(List.mem_singleton.mp hp)▸Nat.succ_ne_self _)) (by simp [putL]) fun h4 F4 N4=>wpAny_execs_nil ⟨rfl,?_⟩
 generalize hes:putL (Str.ofString "comp_select_list") (PyData.keyHash w.params (Str.ofString "comp_select_list")) (.str (Str.ofString "comp_select_list") _) y []=es4 at N4
 have f1:=S.held (fr 0)
 have f2:=S.held (fr 1)
 have Sd:=(S.ext (h':=h4) (tk:=s.toks+2+2) F4.keep).fix (a:=s.heap.objs.size) f1 (N4 _ (List.mem_cons_self ..)).1
 have ld:W.le (W.fix s.heap.objs.size (PySem.W.dictOf es4 (putN (Str.ofString "comp_select_list") [] 0))):=Wd.le_fix f1.P
 have f2':cC (ai base IC LD tabs) (W.fix s.heap.objs.size (PySem.W.dictOf es4 (putN (Str.ofString "comp_select_list") [] 0))) fx (s.heap.objs.size+1):=⟨(Fz.add_ne _ _ (Nat.succ_ne_self _)).trans f2.P,f2.fx,f2.ads,f2.tab⟩
 have li:=Wd.le_fix (o:=instObj IC s.heap.objs.size) f2'.P
 refine h _ _ _ (ld.trans li) (Sd.fix f2' (N4 _ (List.mem_cons_of_mem _ (List.mem_cons_self ..))).1) (Exists.intro y ⟨⟨s.heap.objs.size+1,s.heap.objs.size,es4,_,rfl,Fz.add_self _ _ _,li.P _ _ (Fz.add_self _ _ _),?_,?_⟩,Ry.le (ld.trans li)⟩)
 ·rw[←hes];exact(rs _ _ _).1
 ·rw[←hes];exact(rs _ _ _).2
end
end Mine
end
section
namespace Mine
open PySem PySem.W PyProof.Rows PySem.SeqAt PySem.Calls
open AutoSeq1 (wpAny_loadPart')
noncomputable abbrev kC(h:Heap)(z TI TO:Addr)(f0 f1:Value):Prop:=
 h.get? z=some {cls:= .type "zip",dict:=none,data:= .fields #[f0,f1,.bool false,.ref TI,.ref TO],slots:=#[]}
section
variable{prog:Program}{w:World}{A:Around}{E:Value→Shared→Prop}{s:Shared}
theorem AN{M:Model}{α:Type}{a:Addr}{k:Option Obj→Sem α}{Q:α→Shared→Prop}(h:wpAny M A (k (s.heap.get? a)) Q E s):wpAny M A (.loadIfAlive a k) Q E s:=fun Γ p hΓ=>h Γ p hΓ
theorem kH{M:Model}{a:Addr}{Q:Option Obj→Shared→Prop}(h:Q (s.heap.get? a) s):wpAny M A (loadIfAlive a) Q E s:=AN (wpAny_pure h)
theorem v6{z TI TO T:Addr}{f1:Value}{oT:Obj}{Q:Bool→Shared→Prop}(hz:kC s.heap z TI TO (rawInt T) f1)(hT:s.heap.get? T=some oT)
  (hQ: ∀h₁ f1',kC h₁ z TI TO (rawInt T) f1'→Heap.SameBut z s.heap h₁→Q false {s with heap:=h₁}):wpAny (model prog w) A (Builtin.SmallTypes.ownedTupleIsFree (.ref z)) Q E s:=by
 unfold Builtin.SmallTypes.ownedTupleIsFree
 refine wpAny_bind (wpAny_field hz rfl (x:=rawInt T) rfl ?_)
 unfold rawInt
 dsimp only
 refine wpAny_bind (kH ?_)
 rw[Int.toNat_natCast,hT]
 refine wpAny_bind (wpAny_field hz rfl (x:=f1) rfl ?_)
 by_cases hf:(f1 !=Value.bool true)=true
 ·rw[if_pos hf]
  refine wpAny_bind (wpAny_setField_rec hz (Nat.succ_lt_succ (Nat.succ_pos _)) fun h₁ hz₁ hs₁=>?_)
  exact wpAny_pure (hQ h₁ (.bool true) hz₁ hs₁)
 ·rw[if_neg hf]
  exact wpAny_pure (hQ s.heap f1 hz (.refl ..))
structure ZOutR(z TI TO i1 i2 N T k:Nat)(P1 P2:Nat→Value→Prop)(S1 S2:Nat→Heap→Prop)(h h':Heap)(x y f1:Value):Prop where
 p1:P1 k x
 p2:P2 k y
 gz:kC h' z TI TO (rawInt T) f1
 s1:S1 (k+1) h'
 s2:S2 (k+1) h'
 t:IsPair h' N x y
 kp: ∀c o,c≠z→c≠i1→c≠i2→h.get? c=some o→h'.get? c=some o
theorem vJ{z TI TO i1 i2 T:Addr}{f1:Value}{oT:Obj}{fp1 fp2:List Addr}{n1 n2 k:Nat}{P1 P2:Nat→Value→Prop}{S1 S2:Nat→Heap→Prop}{Q:Value→Shared→Prop}(D:jv z TI TO i1 i2 fp1 fp2)
  (D1:Draws prog w A i1 fp1 n1 P1 S1)(D2:Draws prog w A i2 fp2 n2 P2 S2)
  (hz:kC s.heap z TI TO (rawInt T) f1)(hTI:IsPair s.heap TI (.ref i1) (.ref i2))(hT:s.heap.get? T=some oT)(h1:S1 k s.heap)(h2:S2 k s.heap)(hk1:k≤n1)(hk2:k≤n2)
  (hQ:k<n1→k<n2→ ∀h' tk x y f1',ZOutR z TI TO i1 i2 s.heap.objs.size T k P1 P2 S1 S2 s.heap h' x y f1'→Q (.ref s.heap.objs.size) {s with heap:=h',toks:=tk})
  (hE:(k=n1∨k=n2)→ ∀h' tk e,lR z TO i1 i2 s.heap h'→(∃o,h'.get? e=some o∧o.cls= .type "StopIteration")→E (.ref e) {s with heap:=h',toks:=tk}):
  wpAny (model prog w) A (Builtin.«zip.__next__» ⟨[.ref z],[]⟩) (fun fin s'=> ∃v,fin= .done (.ret v)∧Q v s') E s:=by
 show wpAny _ _ (field (.ref z) 2>>=_) _ _ _
 refine wpAny_bind (wpAny_field hz rfl (x:= .bool false) rfl ?_)
 show wpAny _ _ (field (.ref z) 3>>=_) _ _ _
 refine wpAny_bind (wpAny_field hz rfl (x:= .ref TI) rfl ?_)
 refine wpAny_bind (wpAny_seqItems hTI rfl ?_)
 show wpAny _ _ (Builtin.SmallTypes.ownedTupleIsFree (.ref z)>>=_) _ _ _
 refine wpAny_bind (v6 hz hT fun h₁ f1' hz₁ hs₁=>?_)
 simp only [Bool.false_eq_true,if_false]
 rw[←Array.forIn_toList]
 simp only [List.forIn_cons,List.forIn_nil]
 refine wpAny_bind (wpAny_bind (wpAny_bind (wpAny_holding ?_)))
 show wpAny _ _ (Builtin.SmallTypes.nextOf (.ref i1)>>=_) _ _ _
 refine(Nat.lt_or_eq_of_le hk1).elim (fun hk1=>?_) fun he1=>?_
 ·refine wpAny_bind (D1.item k _ _ _ hk1 (dm D1 h1 hs₁ D.z1) fun x h₂ tk₂ hP1 h1₂ hs₂=>wpAny_pure ?_)
  refine wpAny_pure (wpAny_bind (wpAny_bind (wpAny_holding ?_)))
  show wpAny _ _ (Builtin.SmallTypes.nextOf (.ref i2)>>=_) _ _ _
  refine(Nat.lt_or_eq_of_le hk2).elim (fun hk2=>?_) fun he2=>?_
  ·refine wpAny_bind (D2.item k _ _ _ hk2 (dm D2 (dm D2 h2 hs₁ D.z2) hs₂ D.i12') fun y h₄ tk₄ hP2 h2₄ hs₄=>wpAny_pure ?_)
   refine wpAny_pure (wpAny_pure ?_)
   refine wpAny_bind (wpAny_newTuple (hsz:=by show 2≤sizeLine;decide+kernel) ?_)
   have hsz:h₄.objs.size=s.heap.objs.size:=by rw[hs₄.1,hs₂.1,hs₁.1]
   refine wpAny_pure ⟨_,rfl,?_⟩
   show Q (.ref h₄.objs.size) _
   rw[hsz]
   have pk: ∀c o,h₄.get? c=some o→(h₄.push {cls:= .type "tuple",data:= .seq #[x,y]}).get? c=some o:=fun c o e=>Heap.get?_push_of_some _ e
   have hz₄:kC h₄ z TI TO (rawInt T) f1':=hs₄.extBut _ _ D.i2z.symm (hs₂.extBut _ _ D.i1z.symm hz₁)
   refine hQ hk1 hk2 _ tk₄ x y f1' ⟨hP1,hP2,pk _ _ hz₄,D1.frame _ _ _ (dm D1 h1₂ hs₄ D.i21) fun b hb o e=>pk b o e,D2.frame _ _ _ h2₄ fun b hb o e=>pk b o e,?_,fun c o c1 c3 c4 e=>pk c o (hs₄.extBut _ _ c4 (hs₂.extBut _ _ c3 (hs₁.extBut _ _ c1 e)))⟩
   rw[←hsz];exact Heap.get?_push_size _ rfl
  ·exact wpAny_bind (D2.done _ _ _ (he2▸dm D2 (dm D2 h2 hs₁ D.z2) hs₂ D.i12') fun h₄ e hs₄ he=>hE (.inr he2) h₄ _ e (fun c o c1 c2 c3 c4 x=>hs₄ _ _ c4 (hs₂.extBut _ _ c3 (hs₁.extBut _ _ c1 x))) he)
 ·exact wpAny_bind (D1.done _ _ _ (he1▸dm D1 h1 hs₁ D.z1) fun h₂ e hs₂ he=>hE (.inl he1) h₂ _ e (fun c o c1 _ c3 _ x=>hs₂ _ _ c3 (hs₁.extBut _ _ c1 x)) he)
structure ZK(z TI TO i1 i2:Addr)(S1 S2:Nat→Heap→Prop)(P:Fz)(k:Nat)(h:Heap):Prop where
 gi:IsPair h TI (.ref i1) (.ref i2)
 s1:S1 k h
 s2:S2 k h
 go: ∃o,h.get? TO=some o
 st:(∃a b,IsZip h z TI TO .none∧IsPair h TO a b)∨ ∃(T:Addr) (f1:Value) (oT:Obj),kC h z TI TO (rawInt T) f1∧P T=some oT
structure ZDr(z TI TO i1 i2 N k:Nat)(P1 P2:Nat→Value→Prop)(S1 S2:Nat→Heap→Prop)(P:Fz)(h h':Heap)(x y:Value):Prop where
 p1:P1 k x
 p2:P2 k y
 s1:S1 (k+1) h'
 s2:S2 (k+1) h'
 t:IsPair h' N x y
 kp:lR z TO i1 i2 h h'
 go: ∃o,h'.get? TO=some o
 st: ∃(T:Addr) (f1:Value),kC h' z TI TO (rawInt T) f1∧(T=N∨ ∃oT,P T=some oT)
theorem ZK.ty{z TI TO i1 i2 k:Nat}{S1 S2:Nat→Heap→Prop}{P:Fz}(K:ZK z TI TO i1 i2 S1 S2 P k s.heap):s.TypeIs (.ref z) "zip" :=K.st.elim (fun h=>cz h fun _ _ hz _=>⟨_,hz,rfl⟩) fun h=>je h fun _ _ _ hz _=>⟨_,hz,rfl⟩
theorem zI{z TI TO i1 i2:Addr}{fp1 fp2:List Addr}{n1 n2 k:Nat}{P1 P2:Nat→Value→Prop}{S1 S2:Nat→Heap→Prop}{P:Fz}{Q:Value→Shared→Prop}(D:jv z TI TO i1 i2 fp1 fp2)
  (D1:Draws prog w A i1 fp1 n1 P1 S1)(D2:Draws prog w A i2 fp2 n2 P2 S2)(K:ZK z TI TO i1 i2 S1 S2 P k s.heap)(on:P.on s.heap)(hk1:k≤n1)(hk2:k≤n2)
  (hQ:k<n1→k<n2→ ∀h' tk x y,ZDr z TI TO i1 i2 s.heap.objs.size k P1 P2 S1 S2 P s.heap h' x y→Q (.ref s.heap.objs.size) {s with heap:=h',toks:=tk})
  (hE:(k=n1∨k=n2)→ ∀h' tk e,lR z TO i1 i2 s.heap h'→(∃o,h'.get? e=some o∧o.cls= .type "StopIteration")→E (.ref e) {s with heap:=h',toks:=tk}):
  wpAny (model prog w) A (Builtin.«zip.__next__» ⟨[.ref z],[]⟩) (fun fin s'=> ∃v,fin= .done (.ret v)∧Q v s') E s:=
 K.st.elim (fun h=>cz h fun a b hz hTO=>lZ D D1 D2 hz K.gi hTO K.s1 K.s2 hk1 hk2 (fun l1 l2 h' tk x y O=>hQ l1 l2 h' tk x y ⟨O.p1,O.p2,O.s1,O.s2,O.t,O.k,⟨_,O.o⟩,⟨_,_,O.gz,.inl rfl⟩⟩) hE)
  fun h=>je h fun T f1 oT hz hT=>vJ D D1 D2 hz K.gi (on _ _ hT) K.s1 K.s2 hk1 hk2 (fun l1 l2 h' tk x y f1' O=>hQ l1 l2 h' tk x y ⟨O.p1,O.p2,O.s1,O.s2,O.t,fun c o c1 _ c3 c4 e=>O.kp c o c1 c3 c4 e,cN K.go fun o g=>⟨o,O.kp _ _ D.TOz D.TOi1 D.TOi2 g⟩,⟨T,f1',O.gz,.inr ⟨oT,hT⟩⟩⟩) hE
end
end Mine
end
section
namespace Mine
open PySem PySem.W PyProof.Rows PySem.SeqAt PySem.Calls
open AutoSeq1 (wpAny_loadPart')
theorem vI:typeLookup (.type "zip") "__len__" =pure none:=by rw[typeLookup_type,builtinLookup_eq_fast];kernel_rfl
theorem tD:typeLookup (.type "zip") "__length_hint__" =pure none:=by rw[typeLookup_type,builtinLookup_eq_fast];kernel_rfl
section
variable{prog:Program}{w:World}{H:bg}{os:OsState}{C:Ctx}{call:aw}{n k:Nat}{X:aH}
variable{A:Around}{W W':Wd}{fx fx0 fx':Fz}{Z:Value→Shared→Prop}{s:Shared}{σ:ah}{sc:Scope}{env:PySem.Env}{ρ:Env}
variable{mg mb:PySem.Str→Option Value}{own:List Addr}
structure BI(H:bg)(W:Wd)(fx:Fz)(z TI TO i1 i2 S:Addr):Prop where
 z:cC H W fx z
 TI:cC H W fx TI
 TO:cC H W fx TO
 i1:cC H W fx i1
 i2:cC H W fx i2
 S:cC H W fx S
theorem cC.fix{H:bg}{W:Wd}{fx:Fz}{a b:Addr}{o:Obj}(f:cC H W fx a)(h:a≠b):cC H (W.fix b o) fx a:=⟨(Fz.add_ne _ _ h).trans f.P,f.fx,f.ads,f.tab⟩
structure ZLs(LS z TI TO i1 i2:Addr)(fp1 fp2:List Addr):Prop where
 z:LS≠z
 TI:LS≠TI
 TO:LS≠TO
 i1:LS≠i1
 i2:LS≠i2
 f1:LS∉fp1
 f2:LS∉fp2
variable(prog w H os fx) in
noncomputable def ZEnd(W:Wd)(σ:ah)(LS:Addr)(zs:List V)(R:Result→Shared→Prop):Prop:= ∀W' s' acc' c',W.le W'→St prog w H W' fx σ os s'→cC H W' fx LS→s'.heap.get? LS=some (nT acc' c')→ar prog w H W' zs acc'→R (.ok (.ret .none)) s'
theorem pushN{acc:List Value}{c:Nat}{v:Value}:Obj.mapSeq (fun x=>x.push v) (nT acc c)=nT (acc++[v]) (if((acc++[v]).toArray.size==acc.toArray.size)=true then c else c+1):=
 congrArg (fun a:Array Value=>({cls:= .type "list",dict:=none,data:= .seq a (if(a.size==acc.toArray.size)=true then c else c+1),slots:=#[]}:Obj)) (List.push_toArray acc v)
theorem zH{z TI TO i1 i2 LS:Addr}{fp1 fp2:List Addr}{S1 S2:Nat→Heap→Prop}{vs1 vs2:List Value}{xs ys:List V}{W0:Wd}{R:Result→Shared→Prop}(D:jv z TI TO i1 i2 fp1 fp2)
  (D1:Draws prog w A.in1.in1 i1 fp1 vs1.toArray.size (fun i v=>vs1.toArray[i]? =some v) S1)(D2:Draws prog w A.in1.in1 i2 fp2 vs2.toArray.size (fun i v=>vs2.toArray[i]? =some v) S2)(R1:ar prog w H W0 xs vs1)(R2:ar prog w H W0 ys vs2)
  (hS:ZLs LS z TI TO i1 i2 fp1 fp2)(hlim:xs.length≤cP)(m:Nat): ∀(k:Nat) (W:Wd) (s:Shared) (acc:List Value) (c:Nat),min xs.length ys.length-k=m→k≤min xs.length ys.length→W0.le W→St prog w H W fx σ os s→BI H W fx z TI TO i1 i2 LS→ZK z TI TO i1 i2 S1 S2 W.P k s.heap→
   s.heap.get? LS=some (nT acc c)→ar prog w H W ((iL xs ys).take k) acc→ZEnd prog w H os fx W σ LS (iL xs ys) R→codeAny (model prog w) A (.builtin "list.extend.loop" ⟨[.ref LS,.ref z,.none],[]⟩) R s:=by
 have e1:vs1.toArray.size=xs.length:=by rw[List.size_toArray,R1.length]
 have e2:vs2.toArray.size=ys.length:=by rw[List.size_toArray,R2.length]
 induction m using Nat.strongRecOn with
 |ind m ih=>
 intro k W s acc c hm hk lw S F0 K hL RL hR
 have S': ∀{h' tk},lR z TO i1 i2 s.heap h'→St prog w H W fx σ os {s with heap:=h',toks:=tk}:=fun hk'=>S.step fun b o nf e=>hk' b o (fun q=>nf (q▸F0.z)) (fun q=>nf (q▸F0.TO)) (fun q=>nf (q▸F0.i1)) (fun q=>nf (q▸F0.i2)) e
 have L': ∀{h'},lR z TO i1 i2 s.heap h'→h'.get? LS=some (nT acc c):=fun hk'=>hk' _ _ hS.z hS.TO hS.i1 hS.i2 hL
 refine codeAny_builtin F.entry_extend_loop ?_
 rw[Around.under_plainId F.plain_extend_loop _]
 show wpAny _ A.in1 (pyNext (.ref z)>>=_) _ _ s
 unfold pyNext
 refine wpAny_bind (wpAny_bind (wpAny_attempt (wpAny_callSpecial?_slot (name:=Str.ofString "__next__") K.ty F.slot_zip_next (wpAny_call_entry F.slot_zip_next K.ty F.entry_zip_next (zI D D1 D2 K S.keepP (by rw[e1];exact Nat.le_trans hk (Nat.min_le_left ..)) (by rw[e2];exact Nat.le_trans hk (Nat.min_le_right ..))
  (fun lt1 lt2 h' tk x y O=>wpAny_pure ?_) fun hend h' tk e hk' he=>aA he fun o ho hc=>wpAny_bind (wpAny_isInstance (T:= "StopIteration") (b:=true) ⟨o,ho,hc⟩ isSubtype_stop (wpAny_pure (wpAny_pure (hR W _ acc c (.refl _) (S' hk') F0.S (L' hk') ?_))))) (F.args_zip_next_1 _)))))
 ·have hk1:k<min xs.length ys.length:=Nat.lt_min.mpr ⟨e1▸lt1,e2▸lt2⟩
  have hal:acc.toArray.size=k:=by rw[List.size_toArray,RL.length,List.length_take,jd,Nat.min_eq_left hk]
  have kl:k+1≤sizeLine:=bM (Nat.le_trans (e1▸lt1) hlim)
  have fT:cC H W fx s.heap.objs.size:=S.fresh (Nat.le_refl _)
  have hTS:LS≠s.heap.objs.size:=Nat.ne_of_lt (Heap.lt_size hL)
  have lT:W.le (W.fix s.heap.objs.size (tM [x,y])):=Wd.le_fix fT.P
  have al: ∀{b:Addr} {o:Obj},s.heap.get? b=some o→b≠s.heap.objs.size:=fun e=>Nat.ne_of_lt (Heap.lt_size e)
  refine wpAny_bind (wpAny_updateSeq (L' O.kp) rfl (wpAny_pure ⟨plainId_quiet F.plain_extend_loop _,?_⟩) (hal.symm▸Nat.le_of_succ_le kl) (by rw[Array.size_push,hal];exact Nat.le_succ_of_le kl))
  have oth: ∀c o,c≠LS→h'.get? c=some o→(h'.update LS (Obj.mapSeq fun x=>x.push (.ref s.heap.objs.size))).get? c=some o:=fun c o hc e=>(Heap.get?_update_other _ _ (Ne.symm hc)).trans e
  have S3:=((S' (tk:=tk) O.kp).fix fT O.t).step (tk:=tk) (h':=h'.update LS (Obj.mapSeq fun x=>x.push (.ref s.heap.objs.size))) fun b o nf e=>oth b o (fun q=>nf (q▸F0.S.fix hTS)) e
  refine iF fun nG=>aA (R1.get' (List.getElem?_toArray.symm.trans O.p1)) fun a ha Ra=>aA (R2.get' (List.getElem?_toArray.symm.trans O.p2)) fun b hb Rb=>cN (D1.live _ _ K.s1) fun o1 g1=>cN (D2.live _ _ K.s2) fun o2 g2=>cN K.go fun oTO gTO=>nG ?_
  refine ih _ (hm▸Nat.sub_lt_sub_left hk1 (Nat.lt_succ_self k)) (k+1) _ _ (acc++[.ref s.heap.objs.size]) _ rfl hk1 (lw.trans lT) S3 ⟨F0.z.fix (K.st.elim (fun h=>cz h fun _ _ g _=>al g) fun h=>je h fun _ _ _ g _=>al g),F0.TI.fix (al K.gi),F0.TO.fix (al gTO),F0.i1.fix (al g1),F0.i2.fix (al g2),F0.S.fix hTS⟩
   ⟨oth _ _ hS.TI.symm (O.kp _ _ D.TIz D.TITO D.TIi1 D.TIi2 K.gi),D1.frame _ _ _ O.s1 (fun b hb o e=>oth b o (fun q=>hS.f1 (q▸hb)) e),D2.frame _ _ _ O.s2 (fun b hb o e=>oth b o (fun q=>hS.f2 (q▸hb)) e),cN O.go fun o e=>⟨o,oth _ _ hS.TO.symm e⟩,.inr (cz O.st fun T f1 g1 g2=>g2.elim (fun e=>⟨_,f1,_,oth _ _ hS.z.symm (e▸g1),Fz.add_self _ _ _⟩) fun g2=>cN g2 fun oT g2=>⟨T,f1,oT,oth _ _ hS.z.symm g1,lT.P _ _ g2⟩)⟩
   ((Heap.get?_update_self _ (L' O.kp) rfl).trans (congrArg some pushN)) ?_ fun W2 s2 acc2 c2 lw2 S4 F4 hL4 RL4=>hR W2 s2 acc2 c2 (lT.trans lw2) S4 F4 hL4 RL4
  rw[List.take_add_one,iL,List.getElem?_map,(List.getElem?_zip_eq_some.mpr ⟨ha,hb⟩:(xs.zip ys)[k]? =some (a,b))]
  exact(RL.le lT).append (ar.cons (Exists.intro _ (Exists.intro _ (Exists.intro [x,y] ⟨rfl,Fz.add_self _ _ _,tL _,ar.cons (Ra.le (lw.trans lT)) (ar.cons (Rb.le (lw.trans lT)) ar.nil),(by show 2≤cP;decide)⟩))) ar.nil)
 ·have ll:(iL xs ys).length≤k:=by
   rw[jd]
   exact hend.elim (fun e=>Nat.le_trans (Nat.min_le_left ..) (Nat.le_of_eq (e.trans e1).symm)) fun e=>Nat.le_trans (Nat.min_le_right ..) (Nat.le_of_eq (e.trans e2).symm)
  rw[List.take_of_length_le ll] at RL
  exact RL
theorem wp{z TI TO i1 i2 LS:Addr}{fp1 fp2:List Addr}{S1 S2:Nat→Heap→Prop}{vs1 vs2:List Value}{xs ys:List V}{W0:Wd}{R:Result→Shared→Prop}{c:Nat}(D:jv z TI TO i1 i2 fp1 fp2)
  (D1:Draws prog w A.in1.in1 i1 fp1 vs1.toArray.size (fun i v=>vs1.toArray[i]? =some v) S1)(D2:Draws prog w A.in1.in1 i2 fp2 vs2.toArray.size (fun i v=>vs2.toArray[i]? =some v) S2)(R1:ar prog w H W0 xs vs1)(R2:ar prog w H W0 ys vs2)
  (hS:ZLs LS z TI TO i1 i2 fp1 fp2)(hlim:xs.length≤cP)(lw:W0.le W)(S:St prog w H W fx σ os s)(F0:BI H W fx z TI TO i1 i2 LS)(hz:IsZip s.heap z TI TO .none)(hTI:IsPair s.heap TI (.ref i1) (.ref i2))(hTO:IsPair s.heap TO .none .none)
  (h1:S1 0 s.heap)(h2:S2 0 s.heap)(hL:s.heap.get? LS=some (nT [] c))(hR:ZEnd prog w H os fx W σ LS (iL xs ys) R):
  wpAny (model prog w) A.in1 (Builtin.List.listExtendWith (.ref LS) (.ref z) .none) (fun fin s'=>match fin with| .done f=>R (.ok f) s'| .again c'=>c'.quiet=true∧codeAny (model prog w) A c' R s') (fun e s'=>R (.error e) s') s:=by
 have hTy:s.TypeIs (.ref z) "zip" :=⟨_,hz,rfl⟩
 unfold Builtin.List.listExtendWith
 refine wpAny_bind (wpAny_typeOf hTy ?_)
 have e1:Builtin.List.listSameRef (.ref LS) (.ref z)=false:=by show(LS==z)=false;exact beq_false_of_ne hS.z
 have e2:(Value.type "zip" ==Value.type "list")=false:=by decide
 have e3:(Value.type "zip" ==Value.type "tuple")=false:=by decide
 simp only [e1,e2,e3,Bool.or_false,Bool.false_eq_true,if_false]
 refine wpAny_bind (wpAny_pyIter_zip hz ?_)
 refine wpAny_bind (wpAny_holding ?_)
 unfold Builtin.List.listLengthHint
 refine wpAny_bind (wpAny_specialOf hTy vI ?_)
 show wpAny _ A.in1 (specialOf (Value.ref z) (Str.ofString "__length_hint__")>>=_) _ _ _
 refine wpAny_bind (wpAny_specialOf hTy tD ?_)
 refine wpAny_pure ?_
 show wpAny _ A.in1 (rule "list.extend.makes-room" >>=fun _=>Builtin.List.listTouch (.ref LS)>>=fun _=>
  again (.builtin "list.extend.loop" ⟨[.ref LS,.ref z,.none],[]⟩)) _ _ _
 refine wpAny_bind (wpAny_rule ?_)
 refine wpAny_bind ?_
 show wpAny _ A.in1 (updateSeq LS (·.push .none)>>=fun _=>updateSeq LS (·.pop)) _ _ _
 refine wpAny_bind (wpAny_updateSeq hL rfl ?_)
 have hS₂:=Heap.get?_update_self (Obj.mapSeq (·.push Value.none)) hL rfl
 refine wpAny_updateSeq (hz:=by seq_fits) hS₂ rfl ?_
 have hS₃:=Heap.get?_update_self (Obj.mapSeq (·.pop)) hS₂ rfl
 have oth: ∀b o,b≠LS→s.heap.get? b=some o→((s.heap.update LS (Obj.mapSeq (·.push Value.none))).update LS (Obj.mapSeq (·.pop))).get? b=some o:=
  fun b o hb e=>(Heap.get?_update_other _ _ (Ne.symm hb)).trans ((Heap.get?_update_other _ _ (Ne.symm hb)).trans e)
 have S':St prog w H W fx σ os {s with heap:=(s.heap.update LS (Obj.mapSeq (·.push Value.none))).update LS (Obj.mapSeq (·.pop))}:=S.step (tk:=s.toks) fun b o nf e=>oth b o (fun q=>nf (q▸F0.S)) e
 exact wpAny_pure ⟨plainId_quiet F.plain_extend_loop _,zH D D1 D2 R1 R2 hS hlim _ 0 W _ [] _ rfl (Nat.zero_le _) lw S' F0 ⟨oth _ _ hS.TI.symm hTI,D1.frame _ _ _ h1 (fun b hb o e=>oth b o (fun q=>hS.f1 (q▸hb)) e),D2.frame _ _ _ h2 (fun b hb o e=>oth b o (fun q=>hS.f2 (q▸hb)) e),⟨_,oth _ _ hS.TO.symm hTO⟩,.inl ⟨_,_,oth _ _ hS.z.symm hz,oth _ _ hS.TO.symm hTO⟩⟩ hS₃ ar.nil hR⟩
theorem qP{z TI TO i1 i2:Addr}{fp1 fp2:List Addr}{S1 S2:Nat→Heap→Prop}{vs1 vs2:List Value}{xs ys:List V}{Q:Value→Shared→Prop}(D:jv z TI TO i1 i2 fp1 fp2)
  (D1:Draws prog w A.in1.in1.in1 i1 fp1 vs1.toArray.size (fun i v=>vs1.toArray[i]? =some v) S1)(D2:Draws prog w A.in1.in1.in1 i2 fp2 vs2.toArray.size (fun i v=>vs2.toArray[i]? =some v) S2)(R1:ar prog w H W xs vs1)(R2:ar prog w H W ys vs2)
  (hfp1: ∀b∈fp1,b<s.heap.objs.size)(hfp2: ∀b∈fp2,b<s.heap.objs.size)(hlim:xs.length≤cP)(S:St prog w H W fx σ os s)(fz:BI H W fx z TI TO i1 i2 s.heap.objs.size)(hz:IsZip s.heap z TI TO .none)(hTI:IsPair s.heap TI (.ref i1) (.ref i2))(hTO:IsPair s.heap TO .none .none)
  (h1:S1 0 s.heap)(h2:S2 0 s.heap)
  (hQ: ∀W' val s',W.le W'→St prog w H W' fx σ os s'→bj prog w H W' (.lst (iL xs ys)) val→Q val s'):
  wpAny (model prog w) A (PySem.call (.type "list") [.ref z]) Q Z s:=by
 refine callType_codes (Q₁:=fun obj s₁=>obj= .ref s.heap.objs.size∧s₁={s with heap:=s.heap.push {cls:= .type "list",data:= .seq #[]}}) F.called_list (F.typeCall_list_1 _) F.entry_list_init
  (code_list_new _ ⟨rfl,rfl⟩) fun obj s₁ h₁=>?_
 rw[h₁.1,h₁.2]
 have hS:(s.heap.push {cls:= .type "list",data:= .seq #[]}).get? s.heap.objs.size=some {cls:= .type "list",data:= .seq #[]}:=Heap.get?_push_size _ rfl
 refine⟨⟨_,hS,rfl⟩,F.args_list_init_2 _ _,?_⟩
 show wpAny _ A.in1.in1 (do let old←Builtin.List.listItems (.ref s.heap.objs.size);Builtin.List.listUpdate (.ref s.heap.objs.size) (fun _=>#[]);letGo old.toList.reverse;Builtin.List.listExtendWith (.ref s.heap.objs.size) (.ref z) .none) _ _ _
 refine wpAny_bind ?_
 unfold Builtin.List.listItems
 refine wpAny_bind (wpAny_seqItems hS rfl (wpAny_pure ?_))
 show wpAny _ A.in1.in1 (updateSeq s.heap.objs.size (fun _=>#[])>>=fun _=>letGo (#[]:Array Value).toList.reverse>>=fun _=>Builtin.List.listExtendWith (.ref s.heap.objs.size) (.ref z) .none) _ _ _
 refine wpAny_bind (wpAny_updateSeq hS rfl ?_)
 have hS₂:=Heap.get?_update_self (Obj.mapSeq (fun _=>(#[]:Array Value))) hS rfl
 have oth: ∀b o,s.heap.get? b=some o→((s.heap.push {cls:= .type "list",data:= .seq #[]}).update s.heap.objs.size (Obj.mapSeq fun _=>#[])).get? b=some o:=
  fun b o e=>(Heap.get?_update_other _ _ (Nat.ne_of_gt (Heap.lt_size e))).trans (Heap.get?_push_of_some _ e)
 refine wpAny_bind (wpAny_letGo ?_)
 have S':=S.ext (tk:=s.toks) oth
 have lt: ∀{b o},s.heap.get? b=some o→s.heap.objs.size≠b:=fun e=>Nat.ne_of_gt (Heap.lt_size e)
 refine cN (D1.live _ _ h1) fun o1 g1=>?_
 refine cN (D2.live _ _ h2) fun o2 g2=>?_
 have no: ∀{fp:List Addr},(∀b∈fp,b<s.heap.objs.size)→s.heap.objs.size∉fp:=fun h hm=>Nat.lt_irrefl _ (h _ hm)
 refine wp (A:=A.in1) D D1 D2 R1 R2 ⟨lt hz,lt hTI,lt hTO,lt g1,lt g2,no hfp1,no hfp2⟩ hlim (.refl _) S' fz (oth _ _ hz) (oth _ _ hTI) (oth _ _ hTO) (D1.frame _ _ _ h1 fun b _ o e=>oth b o e) (D2.frame _ _ _ h2 fun b _ o e=>oth b o e) hS₂
  fun W' s' acc' c' lw S2 F2 hL RL=>⟨rfl,?_⟩
 have l3:=Wd.le_fix (o:=nT acc' c') F2.P
 exact hQ _ _ _ (lw.trans l3) (S2.fix F2 hL) (Exists.intro _ (Exists.intro _ (Exists.intro acc' ⟨rfl,Fz.add_self _ _ _,⟨rfl,rfl,rfl,c',rfl⟩,RL.le l3,by rw[jd];exact Nat.le_trans (Nat.min_le_left ..) hlim⟩)))
theorem yR{a b:Mine.E}{x y:Expr}{p p2 pos pos2:Pos}(K:aK H mg mb)(hk:sc.names.lookup (Str.ofString "zip")=some .globalImplicit)(hg:mg "zip" =none)(hk2:sc.names.lookup (Str.ofString "list")=some .globalImplicit)(hg2:mg "list" =none)(hp:aR x=false)(hp2:aR y=false)
  (ha:SE prog w H os C call n X sc a x)(hb:SE prog w H os C call n X sc b y):SE prog w H os C call n X sc (.listZip a b) (.Call (.Name "list" p2) [.Call (.Name "zip" p) [x,y] [] pos] [] pos2):=by
 intro A env ρ W fx σ s Q Z rm ew er S hs
 refine ie (id:= "list") K S ew hk2 hg2 (by decide+kernel) (by decide) (by decide) rfl (qq (id:= "zip") K S ew hk hg (by decide+kernel) (by decide) (by decide) hp hp2 (ha.then rm ew er S hs (fun _ _ x=>x) fun q W' v s' l S' R er' h'=>?_))
 refine hb.then rm ew er' S' h' (fun _ _ x=>x.le l) fun q2 W2 u s2 l2 S2 R2 er2 h2=>so h2 fun r e1 hq=>ob e1 fun xs hx e1=>ob e1 fun ys hy e1=>?_
 rw[←Option.some.inj e1] at hq
 apply S2.lst v (R.le l2) hx;intro a1 o1 vs1 x1
 apply S2.lst u R2 hy;intro a2 o2 vs2 x2
 refine iE (.inr rfl) (.inr rfl) x1.q x2.q x1.g x2.g fun h' K=>?_
 have n1:=Heap.lt_size x1.g
 have n2:=Heap.lt_size x2.g
 have fr: ∀i,cC H W2 fx (s2.heap.objs.size+i):=fun i=>S2.fresh (Nat.le_add_right _ _)
 refine iF fun nG=>aA (jI (prog:=prog) (w:=w) (A:=A.in1.in1.in1) (it:=s2.heap.objs.size) (l:=a1) rm.h (.inr rfl) x1.q (Nat.ne_of_lt n1)) fun Sx1 D1 d1=>
  aA (jI (prog:=prog) (w:=w) (A:=A.in1.in1.in1) (it:=s2.heap.objs.size+1) (l:=a2) rm.h (.inr rfl) x2.q (Nat.ne_of_lt (Nat.lt_succ_of_lt n2))) fun Sx2 D2 d2=>nG ?_
 have S3:St prog w H W2 fx q2.2 os {s2 with heap:=h'}:=S2.ext (tk:=s2.toks) K.k
 have big: ∀b,b≤s2.heap.objs.size+4→b<h'.objs.size:=fun b hb=>Nat.lt_of_le_of_lt hb (Heap.lt_size K.z)
 exact qP (vL n1 n2) D1 D2 x1.r x2.r (fun b hb=>(two hb).elim (fun e=>e▸big _ (Nat.le_add_right _ _)) fun e=>e▸big _ (Nat.le_trans (Nat.le_of_lt n1) (Nat.le_add_right _ _))) (fun b hb=>(two hb).elim (fun e=>e▸big _ (Nat.add_le_add_left (by decide) _)) fun e=>e▸big _ (Nat.le_trans (Nat.le_of_lt n2) (Nat.le_add_right _ _)))
  x1.n S3 ⟨fr 4,fr 2,fr 3,fr 0,fr 1,S3.fresh (Nat.le_refl _)⟩ K.z K.i K.o (d1 h' (K.k _ _ x1.g) K.i1) (d2 h' (K.k _ _ x2.g) K.i2) fun W3 val s3 l3 S4 R4=>hq W3 val s3 ((l.trans l2).trans l3) S4 R4
end
end Mine
end
section
namespace Mine
open PySem PySem.W PyProof.Rows PySem.SeqAt PySem.Calls
noncomputable def ER(cd:Nat×PySem.Str)(sc:Scope):Scope:={sc with more:=mark cd}
section
variable{prog:Program}{w:World}{H:bg}{os:OsState}{C:Ctx}{call:aw}{n k:Nat}{X:aH}
variable{A:Around}{W W':Wd}{fx fx0 fx':Fz}{Z:Value→Shared→Prop}{s s':Shared}{σ:ah}{sc:Scope}{env:PySem.Env}{ρ:Env}{PA:Around→PySem.Env→Prop}
variable{mg mb:PySem.Str→Option Value}{own:List Addr}
theorem CY{cd c:Nat×PySem.Str}(h:bU (mark cd)=some c):c=cd:=Option.some.inj (h.symm.trans (if_pos rfl:(if("#" :PySem.Str)= "#" then some ((cd.1:Int).toNat,cd.2) else none)=some cd))
theorem Cp{cd:Nat×PySem.Str}{bs:List S}{xs:List Stmt}(hcd: ∀A env,PA A env→env.code= .ref cd.1∧env.qual=cd.2)(hn: ∀y,sc.names.lookup y≠some .free)(h2:SF prog w H os C call n k X PA (ER cd sc) bs xs):SF prog w H os C call n k X PA sc bs xs:=by
 intro A env ρ W fx0 fx σ s Q Z rm ew pa o er S h
 exact h2 A env ρ W fx0 fx σ s Q Z rm ⟨⟨ew.kind,ew.glob,ew.bi,ew.kinds,ew.free,fun c h=>CY h▸hcd _ _ pa⟩,ew.scope⟩ pa ⟨o.le,o.loc,o.ns,o.cel,o.apart,o.fre⟩ ⟨er.loc,er.cel,er.cin,fun _ y v _ q=>absurd q (hn _)⟩ S h
theorem St.stepG(S:St prog w H W fx σ os s)(k: ∀b o,¬cC H W fx b→s.heap.get? b=some o→s'.heap.get? b=some o)(ho:s'.os=s.os)(hg:AllBare s'.gens):St prog w H W fx σ os s':=by
 have S1:=S.step (tk:=s'.toks) k
 exact⟨S1.base,S1.keepP,S1.keepF,S1.pf,S1.len,S1.there,S1.inj,S1.mo,S1.pa,S1.fa,S1.tab,ho.trans S1.os,hg⟩
theorem pM{prog:Program}{w:World}{o:Obj}{vs:List Value}{l it:Addr}(x:br "tuple" o vs)(hne:l≠it):
  ∃Sx:Nat→Heap→Prop,(∀A:Around,A.handled=none→Draws prog w A it [it,l] vs.toArray.size (fun i v=>vs.toArray[i]? =some v) Sx)∧ ∀h:Heap,h.get? l=some o→h.get? it=some (xR (dP "tuple") l)→Sx 0 h:=
 ⟨fun i h=>h.IsTupleIter it l i∧h.IsTuple l vs.toArray,fun A hh=>kj hh it l hne vs.toArray,fun h h1 h2=>⟨⟨_,h2,rfl,rfl⟩,x.isTuple h1⟩⟩
noncomputable def zL(l r:List Int):List V:=(l.zip r).map fun p=> .int (p.1+p.2)
theorem xS{xs:List V}{vs:List Value}{l:List Int}{j:Nat}{v:Value}(R:ar prog w H W xs vs)(e:dc xs=some l)(hv:vs.toArray[j]? =some v): ∃i t,l[j]? =some i∧v= .int i t:=aA (ed R e) fun ys e1 e2=>by
 rw[List.getElem?_toArray,e1] at hv
 exact aA (sH hv) fun p hp ev=>⟨p.1,p.2,by rw[←e2,List.getElem?_map,hp];rfl,ev.symm⟩
theorem uD{xs:List V}{vs:List Value}{l:List Int}(R:ar prog w H W xs vs)(e:dc xs=some l):vs.toArray.size=l.length:=aA (ed R e) fun ys e1 e2=>by rw[List.size_toArray,e1,←e2,List.length_map,List.length_map]
structure vz(H:bg)(mg:PySem.Str→Option Value)(sc:Scope)(c:Nat×PySem.Str)(P:Addr)(q:PySem.Str):Prop where
 mark:bU sc.more=some c
 tab:(P,q)∈H.tabs
 uniq: ∀t∈H.tabs,t.1=P→t.2=q
 hd: ∀h:Heap,H.base.on h→CodeHd h c.1 P
 ne:mainGlobals≠P
 bm: ∃bm o,mg "__builtins__" =some (.ref bm)∧bm≠builtinsNs∧bm≠mainGlobals∧bm≠P∧H.base bm=some o∧o.cls= .type "module" ∧o.dict=some builtinsNs∧o.data= .plain
theorem ex9{α1 α2 α3 α4 α5 α6 α7 α8 α9:Type}{P:α1→α2→α3→α4→α5→α6→α7→α8→α9→Prop}(a1:α1)(a2:α2)(a3:α3)(a4:α4)(a5:α5)(a6:α6)(a7:α7)(a8:α8)(a9:α9)(h:P a1 a2 a3 a4 a5 a6 a7 a8 a9): ∃x1 x2 x3 x4 x5 x6 x7 x8 x9,P x1 x2 x3 x4 x5 x6 x7 x8 x9:=
 ⟨a1,a2,a3,a4,a5,a6,a7,a8,a9,h⟩
noncomputable def GenJ(prog:Program)(w:World)(A:Around)(gsc:Scope)(env:PySem.Env)(xa xb:PySem.Str)(elt:Expr)(it:Value)(Q:Value→Shared→Prop)(code:Value)(bi:Addr)(s₄:Shared):Prop:=
 ∃I fp wr n₀ Pt St₀ Mid pz F,it= .ref I∧(∀A':Around,A'.handled=none→WalksU prog w A' I fp wr n₀ Pt St₀ Mid)∧(∀i vals,Pt i vals→ ∃va vb,vals=#[va,vb])∧St₀ 0 s₄.heap∧(∀b∈fp,b<s₄.heap.objs.size)∧s₄.heap.NoLimit∧cStatics∉wr∧
  (∀href:Heap,(∀b o,s₄.heap.get? b=some o→href.get? b=some o)→QuietGenT prog w (genEnv gsc [] s₄.heap.objs.size code bi env) xa xb [] elt (List.range s₄.heap.objs.size) wr Pt pz F href)∧
  (∀a h₅ tk gs,gs.bare=true→s₄.heap.objs.size<a→h₅.objs.size=a+1→(∀b o,s₄.heap.get? b=some o→h₅.get? b=some o)→
   WalksS prog w A.in4 a (a::s₄.heap.objs.size::List.range s₄.heap.objs.size) (s₄.heap.objs.size::wr) (GenOnlyQ s₄.gens.size) (passing pz n₀ 0).length
    (fun j y=> ∃i,(passing pz n₀ 0)[j]? =some i∧F i y) (GenAt prog w A.in4 a s₄.gens.size s₄.heap.objs.size (List.range s₄.heap.objs.size) wr pz n₀ F)→
   GenAt prog w A.in4 a s₄.gens.size s₄.heap.objs.size (List.range s₄.heap.objs.size) wr pz n₀ F 0 {s₄ with gens:=s₄.gens.push gs,toks:=tk,heap:=h₅}→
   Q (.ref a) {s₄ with gens:=s₄.gens.push gs,toks:=tk,heap:=h₅})
theorem AB{m:Nat}:passing (fun _=>true) m 0=List.range m:=by
 unfold passing
 rw[List.drop_zero]
 exact List.filter_eq_self.mpr fun _ _=>rfl
structure ZTups(prog:Program)(w:World)(H:bg)(W:Wd)(s:Shared)(N a1 a2:Addr)(o1 o2:Obj)(xs ys:List V)(vs1 vs2:List Value):Prop where
 x1:SeqAt prog w H W s "tuple" xs a1 o1 vs1
 x2:SeqAt prog w H W s "tuple" ys a2 o2 vs2
 n1:a1<N
 n2:a2<N
 z:FE N (xR (dP "tuple") a1) (xR (dP "tuple") a2) s.heap s.heap
theorem Be{gsc:Scope}{xa xb:PySem.Str}{p2 p3 p4:Pos}{N a1 a2:Addr}{o1 o2:Obj}{vs1 vs2:List Value}{xs ys:List V}{l r:List Int}{code:Value}{bi:Addr}{Q:Value→Shared→Prop}(gk:gsc.kind= .function)(la:gsc.names.lookup xa=some .local)(lb:gsc.names.lookup xb=some .local)
  (hda:(xa==("__debug__" :PySem.Str))=false)(hdb:(xb==("__debug__" :PySem.Str))=false)(K:aK H mg mb)(S:St prog w H W fx σ os s)(fr: ∀i,i<5→cC H W fx (N+i))(hcl:cStatics<N)(T:ZTups prog w H W s N a1 a2 o1 o2 xs ys vs1 vs2)(hl:dc xs=some l)(hr:dc ys=some r)
  (hend: ∀W' val s',W.le W'→St prog w H W' fx σ os s'→bj prog w H W' (.tup (zL l r)) val→Q val s'):GenJ prog w A gsc env xa xb (.BinOp (.Name xa p2) .Add (.Name xb p3) p4) (.ref (N+4)) (fun v s=>wpAny (model prog w) A (PySem.call (.type "tuple") [v]) Q Z s) code bi s:=by
 refine iF fun nG=>aA (pM (prog:=prog) (w:=w) (it:=N) (l:=a1) T.x1.q (Nat.ne_of_lt T.n1)) fun Sx1 D1 d1=>aA (pM (prog:=prog) (w:=w) (it:=N+1) (l:=a2) T.x2.q (Nat.ne_of_lt (Nat.lt_succ_of_lt T.n2))) fun Sx2 D2 d2=>nG ?_
 have KT:=fun(A':Around) hA=>(tF (A:=A') (vL T.n1 T.n2) (D1 A'.in1 hA) (D2 A'.in1 hA)).toU
 refine ex9 (N+4) _ _ _ _ _ _ (fun _=>true) (fun i v=> ∃a b t,l[i]? =some a∧r[i]? =some b∧v= .int (a+b) t) ⟨rfl,KT,fun i vals hv=>cI hv fun va vb _ _ e=>⟨va,vb,e⟩,⟨_,_,T.z.z,T.z.i,T.z.o,d1 _ T.x1.g T.z.i1,d2 _ T.x2.g T.z.i2⟩,fun b hb=>?_,K.nolim S,?_,fun href hk=>⟨fun A' E' i va vb t2 m2 hh' hv hn' e1 e2 hkp=>wpAny_pure ⟨rfl,t2.heap,t2.toks,rfl,fun b o e=>e⟩,fun A' E' i va vb t2 m2 hh' hv _ hn' e1 e2 hkp=>?_⟩,fun a h5 tk gs hbare ha h5s hk5 WS GA=>?_⟩
 ·refine(List.mem_cons.mp hb).elim (fun e=>e▸Heap.lt_size T.z.z) fun hb=>(List.mem_cons.mp hb).elim (fun e=>e▸Heap.lt_size T.z.i) fun hb=>(List.mem_cons.mp hb).elim (fun e=>e▸Heap.lt_size T.z.o) fun hb=>(List.mem_append.mp hb).elim (fun hb=>(two hb).elim (fun e=>e▸Heap.lt_size T.z.i1) fun e=>e▸Heap.lt_size T.x1.g) fun hb=>(two hb).elim (fun e=>e▸Heap.lt_size T.z.i2) fun e=>e▸Heap.lt_size T.x2.g
 ·exact fun hm=>zm hm (fun e=>mA hcl 4 e.symm) (fun e=>mA hcl 3 e.symm) (fun e=>mA hcl 0 e.symm) fun e=>mA hcl 1 e.symm
 ·refine iF fun nG=>cI hv fun v1 v2 hv1 hv2 e=>cz (xS T.x1.r hl hv1) fun i1 t1 hi1 ev1=>cz (xS T.x2.r hr hv2) fun i2 t2' hi2 ev2=>nG ?_
  have ee:=congrArg Array.toList e
  rw[(List.cons.inj ee).1,ev1] at e1
  rw[(List.cons.inj (List.cons.inj ee).2).1,ev2] at e2
  exact wpAny_BinOp (wpAny_Name (wpAny_loadName_local gk (show gsc.names.lookup xa=_ from la) hn' e1 (wpAny_Name (wpAny_loadName_local gk (show gsc.names.lookup xb=_ from lb) hn' e2 (PySem.P.add_int ⟨⟨i1,i2,_,hi1,hi2,rfl⟩,t2.heap,_,rfl,fun b o e=>e⟩)) hdb)) hda)
 ·rw[AB] at WS
  have hm1:min vs1.toArray.size vs2.toArray.size≤cP:=Nat.le_trans (Nat.min_le_left ..) (by rw[List.size_toArray,T.x1.r.length];exact T.x1.n)
  have hCl:s.heap.objs.size<h5.objs.size:=by rw[h5s];exact Nat.lt_succ_of_lt ha
  refine call_tuple_gen (hsz:=by rw[List.length_range];exact bM hm1) WS.in4_3 (fun i s g=>g.1.typeIs) GA (fun b hb=>(List.mem_cons.mp hb).elim (fun e=>e▸(show a<h5.objs.size by rw[h5s];exact Nat.lt_succ_self _)) fun hb=>(List.mem_cons.mp hb).elim (fun e=>e▸hCl) fun hb=>Nat.lt_trans (List.mem_range.mp hb) hCl) (List.mem_cons_self ..) fun s' acc hm hacc=>?_
  have sC: ∀b o,¬cC H W fx b→s.heap.get? b=some o→b∉s.heap.objs.size::[N+4,N+3,N,N+1]:=fun b o nf e hmem=>(List.mem_cons.mp hmem).elim (fun q=>absurd (Heap.lt_size e) (q▸Nat.lt_irrefl _)) fun hmem=>zm hmem (fun q=>nf (q▸fr 4 (by decide))) (fun q=>nf (q▸fr 3 (by decide))) (fun q=>nf (q▸fr 0 (by decide))) fun q=>nf (q▸fr 1 (by decide))
  have S5:St prog w H W fx σ os s':=S.stepG (fun b o nf e=>hm.heap b o (sC b o nf e) (hk5 b o e)) hm.os (AllBare.moved ((S.gens).push hbare) hm.gens)
  have fT:=S5.fresh (Nat.le_refl s'.heap.objs.size)
  have hlen:acc.toList.length=(zL l r).length:=by
   rw[Array.length_toList,hacc.1,List.length_range,zL,List.length_map,List.length_zip,uD T.x1.r hl,uD T.x2.r hr]
  refine hend _ _ _ (Wd.le_fix fT.P) ((S5.push {cls:= .type "tuple",data:= .seq acc}).fix fT (Heap.get?_push_size _ rfl)) (Exists.intro _ (Exists.intro _ (Exists.intro acc.toList ⟨rfl,Fz.add_self _ _ _,⟨rfl,rfl,rfl,0,rfl⟩,ar.of_forall hlen fun j y v hy hv=>?_,by rw[←hlen,Array.length_toList,hacc.1,List.length_range];exact hm1⟩)))
  refine CT (hacc.2 j v (Array.getElem?_toList.symm.trans hv)) fun i hi a' b' t z=>(List.getElem?_eq_some_iff.mp hi).elim fun hj ej=>aA (sH hy) fun p hp ey=>?_
  have eij:j=i:=(List.getElem_range hj).symm.trans ej
  rw[←eij] at z
  have hz:=List.getElem?_zip_eq_some.mp hp
  rw[←ey,z.2.2,Option.some.inj (z.1.symm.trans hz.1),Option.some.inj (z.2.1.symm.trans hz.2)]
  exact cr
theorem Ab{a b:Mine.E}{x y:Expr}{xa xb:PySem.Str}{p p1 p2 p3 p4 p5 p6 p7 p8 pos:Pos}{gsc:Scope}{c:Nat×PySem.Str}{P:Addr}{q:PySem.Str}(K:aK H mg mb)(L:vz H mg sc c P q)(hq:c.2++ "<genexpr>" =q)
  (hk:sc.names.lookup (Str.ofString "zip")=some .globalImplicit)(hg:mg "zip" =none)(hk2:sc.names.lookup (Str.ofString "tuple")=some .globalImplicit)(hg2:mg "tuple" =none)(hp:aR x=false)(hp2:aR y=false)
  (hgs:gsc={kind:= .function,names:=[((".0" :PySem.Str),NameKind.local),(xa,NameKind.local),(xb,NameKind.local)],isGenerator:=gsc.isGenerator,isCoroutine:=false,more:=gsc.more})(hab:xa≠xb)(h0a:xa≠(".0" :PySem.Str))(h0b:xb≠(".0" :PySem.Str))
  (hda:(xa==("__debug__" :PySem.Str))=false)(hdb:(xb==("__debug__" :PySem.Str))=false)
  (ha:SE prog w H os C call n X sc a x)(hb:SE prog w H os C call n X sc b y):
  SE prog w H os C call n X sc (.tupSum a b) (.Call (.Name "tuple" p1) [.GeneratorExp (.BinOp (.Name xa p2) .Add (.Name xb p3) p4) [⟨.Tuple [.Name xa p5,.Name xb p6] k p7,.Call (.Name "zip" p) [x,y] [] p8,[],0⟩] gsc pos] [] pos2):=by
 intro A env ρ W fx σ s Q Z rm ew er S hs
 have gn:gsc.names=[((".0" :PySem.Str),NameKind.local),(xa,NameKind.local),(xb,NameKind.local)]:=by rw[hgs]
 have gk:gsc.kind= .function:=by rw[hgs]
 have la:gsc.names.lookup xa=some .local:=by rw[gn,da h0a,ci]
 have lb:gsc.names.lookup xb=some .local:=by rw[gn,da h0b,da (Ne.symm hab),ci]
 have nk: ∀y∈gsc.names,y.2= .local:=fun y hy=>by
  rw[gn] at hy
  exact(List.mem_cons.mp hy).elim (fun e=>e▸rfl) fun hy=>(two hy).elim (fun e=>e▸rfl) fun e=>e▸rfl
 have hclos:closureFor gsc env=pure []:=by
  rw[kq (fun y hy hf=>nomatch (nk y hy).symm.trans hf),gn]
  rfl
 refine ie (id:= "tuple") K S ew hk2 hg2 (by decide+kernel) (by decide) (by decide) rfl (wpAny_GeneratorExp_walksQT (cl:=[]) rm.h (by rw[hgs]) hclos (fun y hy=>by rw[nk y hy];decide) (by rw[gn,ci]) la lb hab gk (Nat.lt_of_le_of_lt (Nat.le_trans (Nat.le_add_right ..) (Nat.le_add_right ..)) rm.d) ?_ (fun x=>rfl))
 refine qq (id:= "zip") K S ew hk hg (by decide+kernel) (by decide) (by decide) hp hp2 (ha.then rm ew er S hs (fun _ _ x=>x) fun q1 W1 v s1 l1 S1 R1 er1 h1=>?_)
 refine hb.then rm ew er1 S1 h1 (fun _ _ x=>x.le l1) fun q2 W2 u s2 l2 S2 R2 er2 h2=>so h2 fun res e1 hend=>ob e1 fun l hl e1=>ob e1 fun r hr e1=>ob hl fun xs hx hl=>ob hr fun ys hy hr=>?_
 rw[←Option.some.inj e1] at hend
 apply S2.tupV v (R1.le l2) hx;intro a1 o1 vs1 x1 P1
 apply S2.tupV u R2 hy;intro a2 o2 vs2 x2 P2
 refine iE (.inl rfl) (.inl rfl) x1.q x2.q x1.g x2.g fun h' G=>wpAny_pyIter_zip G.z ?_
 have S3:St prog w H W2 fx q2.2 os {s2 with heap:=h'}:=S2.ext (tk:=s2.toks) G.k
 have fr: ∀i,cC H W2 fx (s2.heap.objs.size+i):=fun i=>S2.fresh (Nat.le_add_right _ _)
 have hcode:=ew.code c L.mark
 refine iF fun nG=>aA (S2.tab _ L.tab).1 fun _ hP0 _=>aA (K.nolim S2) fun _ hn _=>cf (S3.tab _ L.tab).1 fun ps hP tr en=>DM L.bm fun bm ob b1 b2 b3 b4 b=>nG ⟨K.nolim S3,?_⟩
 have hCd:=L.hd _ fun a o e=>S3.keepP _ _ (S3.base _ _ e)
 rw[hcode.2,hq]
 have fin: ∀(W4:Wd) (s4:Shared) (code:Value),W2.le W4→St prog w H W4 fx q2.2 os s4→(∀b o,b≠P→h'.get? b=some o→s4.heap.get? b=some o)→(∀i,i<5→cC H W4 fx (s2.heap.objs.size+i))→
   wpAny (model prog w) A (builtinsFor env.globals env.builtins) (GenJ prog w A gsc env xa xb (.BinOp (.Name xa p2) .Add (.Name xb p3) p4) (.ref (s2.heap.objs.size+4)) (fun v s=>wpAny (model prog w) A (PySem.call (.type "tuple") [v]) Q Z s) code) Z s4:=fun W4 s4 code l4 S4 k4 f4=>
  have nP: ∀i,s2.heap.objs.size+i≠P:=mA (Heap.lt_size hP0)
  wpAny_builtinsFor (by rw[ew.glob];exact K.ng S4) b1 b2 (S4.keepP _ _ (S4.base _ _ b.1)) b.2.1 b.2.2.1 b.2.2.2 (Be gk la lb hda hdb K S4 f4 hn.lt ⟨⟨S4.keepP _ _ (l4.P _ _ P1),x1.q,x1.r.le l4,x1.n⟩,⟨S4.keepP _ _ (l4.P _ _ P2),x2.q,x2.r.le l4,x2.n⟩,Heap.lt_size x1.g,Heap.lt_size x2.g,⟨k4 _ _ (nP 4) G.z,k4 _ _ (nP 2) G.i,k4 _ _ (nP 3) G.o,k4 _ _ (nP 0) G.i1,k4 _ _ (nP 1) G.i2,fun _ _ e=>e⟩⟩ hl hr
   fun W' val s' l' S' R'=>hend W' val s' (((l1.trans l2).trans l4).trans l') S' R')
 cases hf:codeAmong pos ps.toList with
 |some cv=>exact wpAny_genexprCode_hit hcode.1 (hCd.code hP tr) hf (fin W2 _ cv (.refl _) S3 (fun b o _ e=>e) fun i _=>fr i)
 |none=>
  refine wpAny_genexprCodeX hcode.1 (hCd.code hP tr) (hCd.tab hP) hf fun c' h4 tk hx hge hlt hok hrec htb _=>un hrec fun c1 oc ws u z=>?_
  have h1:=z.2.1
  rw[←Value.ref.inj z.1] at h1
  exact fin _ _ (.ref c') (Wd.le_fix (S3.fresh hge).P) (S3.tabUpd (tk:=tk) L.tab hP hx hge h1 z.2.2.1 z.2.2.2 htb.2 L.uniq) (fun b o hb e=>hx b o hb e) fun i hi=>(fr i).fix (Nat.ne_of_lt (Nat.lt_of_lt_of_le (Nat.lt_of_le_of_lt (Nat.add_le_add_left (Nat.le_of_lt_succ hi) _) (Heap.lt_size G.z)) hge))
end
end Mine
end
section
namespace Mine
open PySem PySem.W PyProof.Rows PySem.SeqAt PySem.Calls
open AutoSeq1 (wpAny_loadPart')
noncomputable def bQ(l:List (Int×Tok)):Array Value:=(l.map fun p=>Value.int p.1 p.2).toArray
theorem og{l:List (Int×Tok)}:(bQ l).size=l.length:=by rw[bQ,List.size_toArray,List.length_map]
theorem xP{l:List (Int×Tok)}{i:Nat}(h:i<l.length):(bQ l)[i]? =some (.int l[i].1 l[i].2):=by
 rw[bQ,List.getElem?_toArray,List.getElem?_map,List.getElem?_eq_getElem h];rfl
theorem xQ{l:List (Int×Tok)}{i:Nat}(h:l.length≤i):(bQ l)[i]? =none:=by
 rw[bQ,List.getElem?_toArray,List.getElem?_map,List.getElem?_eq_none h];rfl
theorem ES: ∀{l:List Int},cp [] l=decide (0<l.length)
 |[]=>rfl
 |_::_=>rfl
theorem AS{a b:Int}{r q:List Int}(h:a=b):cp (a::r) (b::q)=cp r q:=if_pos h
theorem AR{a b:Int}{r q:List Int}(h:a≠b):cp (a::r) (b::q)=decide (a<b):=if_neg h
theorem za(l b:Addr)(xs ys:List (Int×Tok))(n n2:Nat)(dd dd2:Option Addr)(sl sl2:Array (Option Value))(k:Nat):
  ∀i:Nat,xs.length-i=k→i≤xs.length→i≤ys.length→Meets (Builtin.«list.__eq__.loop» ⟨[.ref l,.ref b,rawInt i,rawInt 0],[]⟩)
   (fun A R s=>s.heap.get? l=some {cls:= .type "list",dict:=dd,data:= .seq (bQ xs) n,slots:=sl}∧s.heap.get? b=some {cls:= .type "list",dict:=dd2,data:= .seq (bQ ys) n2,slots:=sl2}∧
    R (.ok (.ret (.bool (cp ((xs.drop i).map (·.1)) ((ys.drop i).map (·.1)))))) s):=by
 induction k with
 |zero=>
  intro i hk hx hy prog w A R s h
  obtain⟨hp,g,d,tk,os⟩:=s;refine FO h fun hl hb h=>?_
  have le:=Nat.le_of_sub_eq_zero hk
  have hi1:(bQ xs)[((i:Nat):Int).toNat]? =none:=xQ le
  wp_walk using wpAny_loadPart' hl,wpAny_loadPart' hb
  rw[List.drop_eq_nil_of_le le] at h
  rw[hi1]
  wp_walk using wpAny_loadPart' hl,wpAny_loadPart' hb
  show R (.ok (.ret (.bool (decide ((bQ xs).size<(bQ ys).size))))) _
  have e:decide ((bQ xs).size<(bQ ys).size)=cp (List.map (fun x:Int×Tok=>x.1) []) ((ys.drop i).map (·.1)):=by
   rw[og,og,show List.map (fun x:Int×Tok=>x.1) []=[] from rfl,ES,List.length_map,List.length_drop,Nat.le_antisymm le hx]
   exact decide_eq_decide.mpr Nat.sub_pos_iff_lt.symm
  rw[e];exact h
 |succ k ih=>
  intro i hk hx hy prog w A R s h
  obtain⟨hp,g,d,tk,os⟩:=s;refine FO h fun hl hb h=>?_
  have hlt:i<xs.length:=Nat.lt_of_sub_pos (hk▸Nat.succ_pos k)
  have hi1:(bQ xs)[((i:Nat):Int).toNat]? =some (.int xs[i].1 xs[i].2):=xP hlt
  wp_walk using wpAny_loadPart' hl,wpAny_loadPart' hb
  rw[hi1]
  rw[List.drop_eq_getElem_cons hlt] at h
  by_cases hlt2:i<ys.length
  ·have hi2:(bQ ys)[((i:Nat):Int).toNat]? =some (.int ys[i].1 ys[i].2):=xP hlt2
   rw[hi2]
   rw[List.drop_eq_getElem_cons hlt2,List.map_cons,List.map_cons] at h
   refine wpAny_bind (wpAny_eqBool_int ?_)
   by_cases he:xs[i].1=ys[i].1
   ·rw[AS he] at h
    rw[beq_iff_eq.mpr he]
    wp_walk
    exact⟨plainId_quiet MeetsSeq3.plain_eq_loop _,codeAny_builtin MeetsSeq3.entry_eq_loop (by
     rw[Around.under_plainId MeetsSeq3.plain_eq_loop _]
     exact ih (i+1) (congrArg Nat.pred hk) hlt hlt2 prog w A R _ ⟨hl,hb,h⟩)⟩
   ·rw[AR he] at h
    rw[beq_false_of_ne he]
    wp_walk using wpAny_loadPart' hl,wpAny_loadPart' hb
    rw[hi1,hi2]
    exact wpAny_bind (richCompare_gives (T:= "int") (by rfl) (by rfl) slot_int_lt entry_int_lt (args_int_lt _ _) (gives_int_lt _ _ _ _) (by simp [Made.takes]) (wpAny_pure h))
  ·have le:=Nat.not_lt.mp hlt2
   have hi2:(bQ ys)[((i:Nat):Int).toNat]? =none:=xQ le
   rw[hi2]
   wp_walk using wpAny_loadPart' hl,wpAny_loadPart' hb
   rw[List.drop_eq_nil_of_le le] at h
   show R (.ok (.ret (.bool (decide ((bQ xs).size<(bQ ys).size))))) _
   rw[og,og,decide_eq_false (Nat.not_lt.mpr (Nat.le_trans le hx))]
   exact h
theorem zd(l b:Addr)(xs ys:List (Int×Tok))(n n2:Nat)(dd dd2:Option Addr)(sl sl2:Array (Option Value)):Meets (Builtin.«list.__lt__» ⟨[.ref l,.ref b],[]⟩)
   (fun A R s=>s.heap.get? l=some {cls:= .type "list",dict:=dd,data:= .seq (bQ xs) n,slots:=sl}∧s.heap.get? b=some {cls:= .type "list",dict:=dd2,data:= .seq (bQ ys) n2,slots:=sl2}∧
    R (.ok (.ret (.bool (cp (xs.map (·.1)) (ys.map (·.1)))))) s):=by
 intro prog w A R s h
 obtain⟨hp,g,d,tk,os⟩:=s;refine FO h fun hl hb h=>?_
 have f3:=AutoSeq1.sub_list_list
 wp_walk using wpAny_loadPart' hl,wpAny_loadPart' hb
 exact⟨plainId_quiet MeetsSeq3.plain_eq_loop _,codeAny_builtin MeetsSeq3.entry_eq_loop (by
  rw[Around.under_plainId MeetsSeq3.plain_eq_loop _]
  exact za l b xs ys n n2 dd dd2 sl sl2 _ 0 rfl (Nat.zero_le _) (Nat.zero_le _) prog w A R _ ⟨hl,hb,h⟩)⟩
section
variable{prog:Program}{w:World}{A:Around}{E:Value→Shared→Prop}{s:Shared}
theorem ui{l b:Addr}{xs ys:List (Int×Tok)}{o1 o2:Obj}{Q:Bool→Shared→Prop}(hu:A.units<cLine)(h1:s.heap.get? l=some o1)(h2:s.heap.get? b=some o2)(x1:br "list" o1 (xs.map fun p=>Value.int p.1 p.2))(x2:br "list" o2 (ys.map fun p=>Value.int p.1 p.2))
  (h:Q (cp (xs.map (·.1)) (ys.map (·.1))) s):wpAny (model prog w) A (PyProof.Rows.oneLt' true (.ref l) (.ref b)) Q E s:=by
 refine cN x1.eq fun n z1=>cN x2.eq fun n2 z2=>?_
 rw[z1] at h1
 rw[z2] at h2
 rw[oneLt'_eq]
 refine wpAny_bind (wpAny_cRoomFor hu ?_)
 refine wpAny_bind (wpAny_callSpecialIfBound?_slot (T:= "list") ⟨_,h1,rfl⟩ F.slot_list_lt (call_meets F.slot_list_lt ⟨_,h1,rfl⟩ F.entry_list_lt (F.args_list_lt_2 _ _) (zd l b xs ys n n2 none none #[] #[]) ⟨h1,h2,?_⟩))
 exact wpAny_truthy_bool h
end
end Mine
end
section
namespace Mine
open PySem PySem.W PyProof.Rows PySem.SeqAt PySem.Calls
open AutoSeq1 (wpAny_loadPart')
theorem we{cmp:Nat→Nat→(Bool→Shared→Prop)→Shared→Prop}{n:Nat}{G:Array Nat→Shared→Prop}{s:Shared}(h2:2≤n)(h: ∀i (C:Bool→Shared→Prop),i+1<n→C false s→cmp (i+1) i C s)
  (hG:G (List.toArray (List.range n)) s):(kas_sort n).kasWp cmp G s:=by
 have at_: ∀{i},i<n→(List.toArray (List.range n)).getD i 0=i:=fun hi=>by
  rw[Array.getD_eq_getD_getElem?,List.getElem?_toArray,List.getElem?_range hi];rfl
 have asc: ∀(f m:Nat) (G':Nat→Shared→Prop),m+1+f=n→G' n s→(kas_asc (List.toArray (List.range n)) f (m+1)).kasWp cmp G' s:=by
  intro f
  induction f with
  |zero=>intro m G' hm hg;exact(hm:m+1=n)▸hg
  |succ f ih=>
   intro m G' hm hg
   have hlt:m+1<n:=hm▸Nat.lt_add_of_pos_right (Nat.succ_pos f)
   show cmp ((List.toArray (List.range n)).getD (m+1) 0) ((List.toArray (List.range n)).getD m 0) _ s
   rw[at_ hlt,at_ (Nat.lt_of_succ_lt hlt)]
   exact h m _ hlt (ih (m+1) G' ((Nat.add_right_comm (m+1) 1 f).trans hm) hg)
 unfold kas_sort kas_count
 rw[KasT.kasWp_bind,KasT.kasWp_bind]
 refine asc (n-1) 0 _ ((Nat.add_comm _ _).trans (Nat.sub_add_cancel (Nat.le_of_succ_le h2))) ?_
 rw[if_pos (beq_self_eq_true n)]
 show KasT.kasWp cmp (if n<n then _ else KasT.ret (List.toArray (List.range n))) G s
 rw[if_neg (Nat.lt_irrefl _)]
 exact hG
section
variable{prog:Program}{w:World}{H:bg}{os:OsState}{C:Ctx}{call:aw}{n k:Nat}{X:aH}
variable{A:Around}{W W':Wd}{fx fx0 fx':Fz}{Z:Value→Shared→Prop}{s:Shared}{σ:ah}{sc:Scope}{env:PySem.Env}{ρ:Env}
variable{mg mb:PySem.Str→Option Value}{own:List Addr}
structure KeyK(W:Wd)(ks:List (List Int))(j:Nat)(v:Value)(l:List (Int×Tok))(a:Addr)(o:Obj):Prop where
 k:ks[j]? =some (l.map (·.1))
 e:v= .ref a
 p:W.P a=some o
 q:br "list" o (l.map fun p=>Value.int p.1 p.2)
theorem uz: ∀{zs:List V} {us:List Value} {ks:List (List Int)},jh zs=some ks→ar prog w H W zs us→ks.length=us.length∧ ∀(j:Nat) (v:Value),us[j]? =some v→ ∃l a o,KeyK W ks j v l a o
 |[],us,ks,h,R=>by
  apply qF us R
  rw[←Option.some.inj h]
  exact⟨rfl,fun j v e=>nomatch e⟩
 |z::r,us,ks,h,R=>ob h fun a ha h=>ob h fun b hb h=>ob ha fun xs hx ha=>by
  apply cy us R;intro v q p t
  rw[←Option.some.inj h]
  rw[mE hx] at p
  refine qH (uz hb t) fun h1 h2=>⟨congrArg Nat.succ h1,fun j u e=>?_⟩
  cases j with
  |zero=>exact jC p fun ad o vs y=>aA (ed y.r ha) fun ys e1 e2=>⟨ys,ad,o,congrArg some e2.symm,(Option.some.inj e).symm.trans y.e,y.p,e1▸y.q⟩
  |succ j=>exact jC (h2 j u e) fun l a o k=>⟨l,a,o,k.k,k.e,k.p,k.q⟩
theorem lp: ∀{a b:List Int},cp a b=true→cp b a=false
 |[],[],h=>nomatch h
 |[],_::_,h=>rfl
 |_::_,[],h=>nomatch h
 |x::r,y::q,h=>by
  by_cases e:x=y
  ·rw[AS e] at h
   rw[AS e.symm];exact lp h
  ·rw[AR e] at h
   rw[AR (Ne.symm e)];exact decide_eq_false (Int.not_lt.mpr (Int.le_of_lt (of_decide_eq_true h)))
theorem rd: ∀{ks:List (List Int)} {i:Nat} {a b:List Int},ja ks=true→ks[i]? =some a→ks[i+1]? =some b→cp a b=true
 |[_],_,_,_,_,_,h=>nomatch h
 |x::y::r,0,a,b,h,ha,hb=>aY h fun h1 _=>Option.some.inj ha▸Option.some.inj hb▸h1
 |x::y::r,i+1,a,b,h,ha,hb=>aY h fun _ h2=>rd (ks:=y::r) (i:=i) h2 ha hb
noncomputable def jl(fx:Fz)(D:Addr)(oD:Obj)(kS:Addr)(oK:Obj):Fz:=(fx.add D oD).add kS oK
theorem E2(h1:fx D=none)(h2:fx kS=none){oD oK:Obj}(hne:kS≠D):fx.le (jl fx D oD kS oK):=(Fz.le_add h1).trans (Fz.le_add ((Fz.add_ne _ _ hne).trans h2))
end
section
variable{prog:Program}{w:World}{os:OsState}{C:Ctx}{call:aw}{n k:Nat}{X:aH}{base:Fz}{IC:Addr}{LD:Nat→Option dh}{tabs:List (Addr×PySem.Str)}
variable{A:Around}{W W':Wd}{fx fx0 fx':Fz}{Z:Value→Shared→Prop}{s:Shared}{σ:ah}{sc csc:Scope}{env cenv:PySem.Env}{ρ:Env}
variable{mg mb:PySem.Str→Option Value}{own:List Addr}
theorem rp{D kS:Addr}{oD:Obj}{k:Nat}{ws:List V}{q:Value}{F:List V→ah→Prop}{Q:PUnit→Shared→Prop}{E:Value→Shared→Prop}{body:Value→PUnit→Sem (ForInStep PUnit)}(rm:lU A n)(hcl:qp prog w os call n base IC LD tabs)
  (hne:kS≠D)(f1:fx D=none)(f2:fx kS=none)
  (hbody: ∀x (s:Shared) (us:List Value) (c:Nat) (Q':ForInStep PUnit→Shared→Prop),us.length<64→wpAny (model prog w) A (PySem.call q [x]) (fun v s'=>s'.heap.get? kS=some (seqObj "list" us.toArray c)∧Q' (.yield ⟨⟩) {s' with heap:=s'.heap.update kS (Obj.mapSeq (·.push v))}) (fun _ _=>False) s→
   wpAny (model prog w) A (body x ⟨⟩) Q' E s):
  ∀(xr:List V) (r:List Value) (W:Wd) (σ:ah) (s:Shared) (us:List Value) (zs:List V) (c:Nat),bj prog w (ai base IC LD tabs) W (.clo k ws) q→ar prog w (ai base IC LD tabs) W xr r→St prog w (ai base IC LD tabs) W (jl fx D oD kS (seqObj "list" us.toArray c)) σ os s→
   ar prog w (ai base IC LD tabs) W zs us→us.length+r.length<64→(fh call k ws xr σ).sat (fun z=>F (zs++z.1) z.2) (fun _ _=>False)→
   (∀W' s' us' zs' σ' c',W.le W'→St prog w (ai base IC LD tabs) W' (jl fx D oD kS (seqObj "list" us'.toArray c')) σ' os s'→ar prog w (ai base IC LD tabs) W' zs' us'→us'.length=us.length+r.length→F zs' σ'→Q ⟨⟩ s')→
   wpAny (model prog w) A (forIn r PUnit.unit body) Q E s
 |[],r=>fun W σ s us zs c Rq Rr S Rz hl hs hfin=>by
  revert hl hfin
  apply qF r Rr;intro hl hfin
  rw[List.forIn_nil]
  exact wpAny_pure (hfin W s us zs σ c (.refl _) S Rz rfl (List.append_nil zs▸hs))
 |x::xr,r=>fun W σ s us zs c Rq Rr S Rz hl hs hfin=>by
  revert hl hfin
  apply cy r Rr;intro v r' Rv Rr' hl hfin
  rw[List.forIn_cons]
  have hk: ∀{us c},jl fx D oD kS (seqObj "list" us c) kS=some (seqObj "list" us c):=Fz.add_self _ _ _
  have hl1:(us++[v]).length+r'.length<64:=by
   rw[List.length_append,Nat.add_assoc,Nat.add_comm [v].length];exact hl
  refine wpAny_bind (hbody v s us c _ (Nat.lt_of_le_of_lt (Nat.le_add_right ..) hl) (hcl A W _ σ s k ws q x v _ _ rm S Rq Rv (ay.sat_mono (ay.sat_calm.mp (ay.sat_bind.mp hs)) (fun p hp W1 val s1 l1 S1 R1=>⟨S1.keepF _ _ hk,?_⟩) fun _ _ e=>e)))
  have hg:=get?_update_seq (S1.keepF _ _ hk) (·.push val)
  rw[List.push_toArray] at hg
  have S2:=S1.swap (tk:=s1.toks) hk (fun b o hb e=>(Heap.get?_update_other _ _ (Ne.symm hb)).trans e) hg
  have e2: ∀oK:Obj,(jl fx D oD kS (seqObj "list" us.toArray c)).add kS oK=jl fx D oD kS oK:=fun oK=>funext fun b=>by
   by_cases q:b=kS
   ·exact(if_pos q).trans (if_pos q).symm
   ·exact(if_neg q).trans ((if_neg q).trans (if_neg q).symm)
  rw[e2] at S2
  refine rp rm hcl hne f1 f2 hbody xr r' W1 p.2 _ (us++[val]) (zs++[p.1]) _ (Rq.le l1) (Rr'.le l1) S2 ((Rz.le l1).append (ar.cons R1 ar.nil)) (by rw[List.length_append] at hl1⊢;exact hl1) (ay.sat_mono (ay.sat_bind.mp hp) (fun z hz=>(List.append_assoc zs [p.1] z.1).symm▸hz) fun _ _ e=>e) fun W' s' us' zs' σ' c' lw S' RL hlen hF=>hfin W' s' us' zs' σ' c' (l1.trans lw) S' RL ?_ hF
  rw[hlen,List.length_append,Nat.add_assoc,Nat.add_comm [val].length];rfl
theorem fJ{n:Nat}(h:n≤64):n≤sizeLine:=Nat.le_trans h (by decide+kernel)
theorem yJ{D:Addr}{k:Nat}{ws:List V}{q:Value}{xs:List V}{vs:List Value}{cD:Nat}{P:PySem.Fin→Shared→Prop}{E:Value→Shared→Prop}(rm:lU A n)(hcl:qp prog w os call n base IC LD tabs)
  (Rq:bj prog w (ai base IC LD tabs) W (.clo k ws) q)(R:ar prog w (ai base IC LD tabs) W xs vs)(h2:2≤xs.length)(h64:xs.length<64)(S:St prog w (ai base IC LD tabs) W fx σ os s)(fD:cC (ai base IC LD tabs) W fx D)
  (hD:s.heap.get? D=some (seqObj "list" vs.toArray cD))
  (hs:(fh call k ws xs σ).sat (fun z=> ∃ks,jh z.1=some ks∧ja ks=true∧ ∀W' s',W.le W'→St prog w (ai base IC LD tabs) W' fx z.2 os s'→bj prog w (ai base IC LD tabs) W' (.lst xs) (.ref D)→P (.done (.ret .none)) s') (fun _ _=>False)):
  wpAny (model prog w) A (ksk_tree D q false) P E s:=by
 have lv:=R.length
 have v64:vs.length<64:=lv.symm▸h64
 have v2:2≤vs.length:=lv.symm▸h2
 have hz:vs.toArray.size≤sizeLine:=by rw[List.size_toArray];exact fJ (Nat.le_of_lt v64)
 have hDlt:D<s.heap.objs.size:=Heap.lt_size hD
 unfold ksk_tree
 refine wpAny_bind (listItems_at hD rfl (wpAny_bind (listUpdate_at hD rfl ?_ hz (Nat.zero_le _))))
 refine cN (show∃e1,(s.heap.update D (Obj.mapSeq fun _=>(#[]:Array Value))).get? D=some (seqObj "list" #[] e1) from⟨_,get?_update_seq hD fun _=>#[]⟩) fun e1 ho1=>?_
 refine wpAny_bind (seqEpoch_at ho1 rfl (wpAny_bind (wpAny_newTuple (wpAny_bind (wpAny_newList (wpAny_holding ?_) (Nat.zero_le _))) (by rw[List.size_toArray] at hz;exact hz))))
 generalize hT:(s.heap.update D (Obj.mapSeq fun _=>(#[]:Array Value))).push (seqObj "tuple" vs.toArray 0)=hT1
 have szT:hT1.objs.size=s.heap.objs.size+1:=by rw[←hT,size_push',Heap.size_update]
 generalize hK:hT1.objs.size=kS
 have hkD:kS≠D:=by rw[←hK,szT];exact Nat.ne_of_gt (Nat.lt_succ_of_lt hDlt)
 have S1:St prog w (ai base IC LD tabs) W fx σ os {s with heap:=hT1.push (seqObj "list" #[] 0)}:=S.step (tk:=s.toks) fun b o nf e=>Heap.get?_push_of_some _ (by
  rw[←hT]
  exact Heap.get?_push_of_some _ ((Heap.get?_update_other _ _ fun q:D=b=>nf (q▸fD)).trans e))
 have fK:cC (ai base IC LD tabs) W fx kS:=S.fresh (by rw[←hK,szT];exact Nat.le_succ _)
 have S3:St prog w (ai base IC LD tabs) W (jl fx D (seqObj "list" #[] e1) kS (seqObj "list" ([]:List Value).toArray 0)) σ os {s with heap:=hT1.push (seqObj "list" #[] 0)}:=
  (S1.hold fD (o:=seqObj "list" #[] e1) (Heap.get?_push_of_some _ (by rw[←hT];exact Heap.get?_push_of_some _ ho1))).hold ⟨fK.P,(Fz.add_ne _ _ hkD).trans fK.fx,fK.ads,fK.tab⟩ (by rw[←hK];exact Heap.get?_push_size _ rfl)
 unfold ksk_rest
 refine wpAny_bind (wpAny_rule ?_)
 rw[←Array.forIn_toList]
 refine wpAny_bind (rp (F:=fun zs σ'=> ∃ks,jh zs=some ks∧ja ks=true∧ ∀W' s',W.le W'→St prog w (ai base IC LD tabs) W' fx σ' os s'→bj prog w (ai base IC LD tabs) W' (.lst xs) (.ref D)→P (.done (.ret .none)) s') rm hcl hkD fD.fx fK.fx (fun x s' us c Q' hus hx=>?_) xs vs W σ _ [] [] 0 Rq R S3 ar.nil (by rw[List.length_nil,Nat.zero_add];exact v64) hs fun W' s' us zs σ' c' lw S' Rz hlen hF=>?_)
 ·have hu:us.toArray.size≤sizeLine:=by rw[List.size_toArray];exact fJ (Nat.le_of_lt hus)
  exact wpAny_bind (wpAny_attempt (wpAny_mono hx (fun v s'' hv=>wpAny_bind (listUpdate_at hv.1 rfl (wpAny_pure hv.2) hu (by rw[Array.size_push];exact Nat.succ_le_succ hu))) fun _ _ hF=>hF.elim))
 ·refine iF fun nG=>cf hF fun ks hks hr hP=>qH (uz hks Rz) fun hkl hkv=>nG ?_
  have hlu:us.length=vs.length:=hlen.trans (Nat.zero_add _)
  have hk1:s'.heap.get? kS=some (seqObj "list" us.toArray c'):=S'.keepF _ _ (Fz.add_self _ _ _)
  have hd1:s'.heap.get? D=some (seqObj "list" #[] e1):=S'.keepF _ _ ((Fz.add_ne _ _ (Ne.symm hkD)).trans (Fz.add_self _ _ _))
  refine wpAny_bind (listItems_at hk1 rfl ?_)
  have hn2: ¬vs.toArray.size<2:=by rw[List.size_toArray];exact Nat.not_lt.mpr v2
  unfold ksk_end
  simp only [Bool.false_eq_true,if_false]
  rw[if_neg hn2,if_neg hn2]
  have hT': ∀v∈us,Looks (model prog w) s'.heap (typeOf v) (.type "list"):=fun v hv=>cN (List.getElem?_of_mem hv) fun j hj=>jC (hkv j v hj) fun l a o k=>by
   have:=(Looks.ld (M:=model prog w) (part:=none) (S'.keepP _ _ k.p)).andThen (f:=fun o=>pure o.cls) (b:=o.cls) .now
   rw[k.q.1] at this
   rw[k.e];exact this
  refine wpAny_bind (kas_kind (hlu.symm▸v2) hT' (by decide) (by decide) ?_)
  have hasks: ∀i (C:Bool→Shared→Prop),i+1<vs.length→C false s'→kas_ask prog w A oneType' us (i+1) i C s':=fun i C hi hC=>by
   have h1:us[i+1]? =some (us[i+1]'(hlu.symm▸hi)):=List.getElem?_eq_getElem _
   have h0:us[i]? =some (us[i]'(hlu.symm▸Nat.lt_of_succ_lt hi)):=List.getElem?_eq_getElem _
   refine jC (hkv _ _ h1) fun l1 a1 o1 k1=>jC (hkv _ _ h0) fun l0 a0 o0 k0=>?_
   show wpAny (model prog w) A (keyLt' oneType' (us.getD (i+1) Value.none) (us.getD i Value.none)) C (fun _ _=>False) s'
   rw[List.getD_eq_getElem?_getD,List.getD_eq_getElem?_getD,h1,h0,Option.getD_some,Option.getD_some,k1.e,k0.e,keyLt'_oneType]
   refine ui (Nat.lt_of_le_of_lt (Nat.le_trans (Nat.le_add_right ..) (Nat.le_add_right ..)) rm.u) (S'.keepP _ _ k1.p) (S'.keepP _ _ k0.p) k1.q k0.q ?_
   rw[lp (rd hr k0.k k1.k)]
   exact hC
  refine wpAny_bind (wpAny_mono (kat_run (Q:=fun st' s''=>s''=s'∧arrOf st'=(List.toArray (List.range vs.length)).map (kas_item (us.toArray.zip vs.toArray))∧failedOf st'=none) (G:=fun p s''=>s''=s'∧p=List.toArray (List.range vs.length)) hlu v2 v64 (fun p st' s'' a1 a2 a3 a4=>⟨a4.1,by rw[a2,a4.2],a3⟩) (we v2 hasks ⟨rfl,rfl⟩)) (fun q s'' hq=>?_) fun _ _ e=>e)
  obtain⟨⟨⟩,st'⟩:=q
  have hout:(arrOf st').map (·.2)=vs.toArray:=by
   rw[kat_snds hlu hq.2.1]
   congr 1
   refine List.ext_getElem (by rw[List.length_map,List.length_range]) fun i h1 h2=>?_
   rw[List.getElem_map,List.getElem_range,List.getD_eq_getElem?_getD,List.getElem?_eq_getElem h2];rfl
  rw[hq.1]
  unfold ksk_tail
  dsimp only
  rw[hout]
  refine wpAny_bind (listUpdate_at hk1 rfl (wpAny_bind (wpAny_letGo ?_)) (by rw[List.size_toArray,hlu];exact fJ (Nat.le_of_lt v64)) (Nat.zero_le _))
  have hd2:(s'.heap.update kS (Obj.mapSeq fun _=>(#[]:Array Value))).get? D=some (seqObj "list" #[] e1):=(Heap.get?_update_other _ _ hkD).trans hd1
  refine wpAny_bind (seqEpoch_at hd2 rfl (wpAny_bind (listUpdate_at hd2 rfl ?_ (Nat.zero_le _) (Nat.le_succ_of_le hz))))
  rw[hq.2.2]
  simp only [bne_self_eq_false,Bool.false_eq_true,if_false]
  have S5:=S'.reown (own:=[kS,D]) (h':=(s'.heap.update kS (Obj.mapSeq fun _=>(#[]:Array Value))).update D (Obj.mapSeq fun _=>vs.toArray)) (tk:=s'.toks) (rQ (Fz.add_self _ _ _) ((Fz.add_ne _ _ (Ne.symm hkD)).trans (Fz.add_self _ _ _)))
   fun b o hb e=>(Heap.get?_update_other _ _ (fun q:D=b=>hb (q▸List.mem_cons_of_mem _ (List.mem_cons_self ..)))).trans ((Heap.get?_update_other _ _ fun q:kS=b=>hb (q▸List.mem_cons_self ..)).trans e)
  have hDf:=(dQ (own:=[kS,D]) (fx:=jl fx D (seqObj "list" #[] e1) kS (seqObj "list" us.toArray c')) (List.mem_cons_of_mem kS (List.mem_cons_self (a:=D) (l:=[])))).trans (get?_update_seq hd2 fun _=>vs.toArray)
  have S6:=S5.settle' (fx:=fx) (fun b o e=>(aZ fun q=>(two q).elim (fun q=>nomatch fK.fx.symm.trans ((congrArg fx q).symm.trans e)) fun q=>nomatch fD.fx.symm.trans ((congrArg fx q).symm.trans e)).trans (E2 fD.fx fK.fx hkD b o e)) hDf fD.fx
  have l6:=Wd.le_fix (o:=seqObj "list" vs.toArray (if(vs.toArray.size==(#[]:Array Value).size)=true then e1 else e1+1)) (S5.pf _ _ hDf)
  exact wpAny_pure (hP _ _ (lw.trans l6) (S6.1.less S6.2) (Exists.intro D (Exists.intro _ (Exists.intro vs ⟨rfl,Fz.add_self _ _ _,⟨rfl,rfl,rfl,_,rfl⟩,R.le (lw.trans l6),Nat.le_trans (Nat.le_of_lt h64) (by decide)⟩))))
end
end Mine
end
section
namespace Mine
open PySem PySem.W PyProof.Rows PySem.SeqAt PySem.Calls
open AutoSeq1 (wpAny_loadPart')
section
variable{prog:Program}{w:World}{os:OsState}{C:Ctx}{call:aw}{n k:Nat}{X:aH}{base:Fz}{IC:Addr}{LD:Nat→Option dh}{tabs:List (Addr×PySem.Str)}
variable{A:Around}{W W':Wd}{fx fx0 fx':Fz}{Z:Value→Shared→Prop}{s:Shared}{σ:ah}{sc csc:Scope}{env cenv:PySem.Env}{ρ:Env}
variable{mg mb:PySem.Str→Option Value}{own:List Addr}
theorem vf{l:Addr}{o:Obj}{k:Nat}{ws:List V}{q:Addr}{xs:List V}{vs:List Value}{Q:Value→Shared→Prop}(rm:bX A n)(hcl:qp prog w os call n base IC LD tabs)
  (Rq:bj prog w (ai base IC LD tabs) W (.clo k ws) (.ref q))(R:ar prog w (ai base IC LD tabs) W xs vs)(h2:2≤xs.length)(h64:xs.length<64)(S:St prog w (ai base IC LD tabs) W fx σ os s)
  (ho:s.heap.get? l=some o)(so:br "list" o vs)
  (hs:(fh call k ws xs σ).sat (fun z=> ∃ks,jh z.1=some ks∧ja ks=true∧ ∀W' val s',W.le W'→St prog w (ai base IC LD tabs) W' fx z.2 os s'→bj prog w (ai base IC LD tabs) W' (.lst xs) val→Q val s') (fun _ _=>False)):
  wpAny (model prog w) A (PySem.call (.builtin "sorted") [.ref l] [(Str.ofString "key",.ref q)]) Q Z s:=by
 have lv:=R.length
 refine call_function_entry_kw kind_sorted plain_sorted entry_sorted (ksk_s1 _ _) ?_
 unfold Builtin.«sorted»
 refine wpAny_bind (m:=checkCount "sorted" 1 1 _) (wpAny_pure ?_)
 refine wpAny_bind (collect_list (so.isList ho) ?_ (fJ (by rw[lv];exact Nat.le_of_lt h64)))
 refine wpAny_bind (wpAny_newList ?_ (fJ (by rw[lv];exact Nat.le_of_lt h64)))
 have hsz:((s.heap.push (seqObj "list" #[] 0)).update s.heap.objs.size (Obj.mapSeq (· ++vs.toArray))).objs.size=s.heap.objs.size+1:=by
  rw[Heap.size_update,size_push']
 have hoL:(((s.heap.push (seqObj "list" #[] 0)).update s.heap.objs.size (Obj.mapSeq (· ++vs.toArray))).push (seqObj "list" vs.toArray 0)).get? (s.heap.objs.size+1)=some (seqObj "list" vs.toArray 0):=by
  rw[←hsz];exact Heap.get?_push_size _ rfl
 have keep: ∀b o,s.heap.get? b=some o→(((s.heap.push (seqObj "list" #[] 0)).update s.heap.objs.size (Obj.mapSeq (· ++vs.toArray))).push (seqObj "list" vs.toArray 0)).get? b=some o:=fun b o q=>
  Heap.get?_push_of_some _ ((Heap.get?_update_other _ _ (Nat.ne_of_gt (Heap.lt_size q))).trans (Heap.get?_push_of_some _ q))
 show wpAny _ _ _ _ _ {s with heap:=((s.heap.push (seqObj "list" #[] 0)).update s.heap.objs.size (Obj.mapSeq (· ++vs.toArray))).push (seqObj "list" vs.toArray 0)}
 rw[hsz]
 have S1:=S.ext (tk:=s.toks) keep
 have fD:cC (ai base IC LD tabs) W fx (s.heap.objs.size+1):=S.fresh (Nat.le_succ _)
 refine wpAny_bind (wpAny_holding (wpAny_call_entry_kw slot_list_sort ⟨_,hoL,rfl⟩ entry_list_sort ?body (ksk_l1 _ _)))
 case body=>
  show wpAny (model prog w) A.in1.in1 (Builtin.«list.sort» ⟨[.ref (s.heap.objs.size+1)],[(Str.ofString "key",.ref q)]⟩) _ _ _
  rw[ksk_t1]
  refine yJ (A:=A.in1.in1) rm.weak2 hcl Rq R h2 h64 S1 fD hoL (ay.sat_mono hs (fun z hz=>?_) fun _ _ e=>e)
  exact cf hz fun ks h1 h2' h3=>⟨ks,h1,h2',fun W' s' l' S' R'=>⟨_,rfl,wpAny_pure ⟨_,rfl,h3 W' _ s' l' S' R'⟩⟩⟩
theorem jW: ∀{xs:List V} {k:Nat} {ws:List V} {σ:ah} {P:List V×ah→Prop} {Qx:List Nat→ah→Prop},(fh call k ws xs σ).sat P Qx→(fh call k ws xs σ).sat P (fun _ _=>False)
 |[],_,_,_,_,_,h=>h
 |v::r,k,ws,σ,P,Qx,h=>ay.sat_bind.mpr (ay.sat_calm.mpr (ay.sat_mono (ay.sat_calm.mp (ay.sat_bind.mp h)) (fun x hx=>by
   refine ay.sat_bind.mpr ?_
   have h1:=ay.sat_bind.mp hx
   exact jW h1) fun _ _ e=>e))
theorem yQ{a l:Mine.E}{x y:Expr}{kwd:Keyword}{p pos:Pos}(K:aK (ai base IC LD tabs) mg mb)(hk:sc.names.lookup (Str.ofString "sorted")=some .globalImplicit)(hg:mg "sorted" =none)(hp:aR x=false)
  (hkw: ∀env,keywordEach [kwd] env=[(some (Str.ofString "key"),eval y env)])(hcl:qp prog w os call n base IC LD tabs)(ha:SE prog w (ai base IC LD tabs) os C call n X sc a x)(hl:SE prog w (ai base IC LD tabs) os C call n X sc l y):
  SE prog w (ai base IC LD tabs) os C call n X sc (.sortKey a l) (.Call (.Name (Str.ofString "sorted") p) [x] [kwd] pos):=by
 intro A env ρ W fx σ s Q Z rm ew er S hs
 refine wpAny_Call_Name_kw (gu (v:= .builtin "sorted") K S ew hk hg (by decide+kernel) (by decide) ?_ (by decide))
 have hpx:[x].any aR=false:=by rw[List.any_cons,hp];rfl
 have hks:backToKw pos (keywordEach [kwd] env)=[(some (Str.ofString "key"),do let v←eval y env;standAt pos;pure v)]:=by rw[hkw];rfl
 rw[hks,bn hpx]
 refine callWith_of (P:=fun _=>True) (by rfl) (fun h _=>⟨.machine,.inr (.inl rfl),Looks.of_pure rfl⟩) ?_
 refine evalArgs_kw rfl ?_
 show wpAny _ _ (spliced [(false,eval x env)]) _ _ _
 refine spliced_cons (ha.then rm ew er S hs (fun _ _ e=>e) fun q1 W1 v s1 l1 S1 R1 er1 h1=>spliced_nil ?_)
 show wpAny _ _ (evalAll [do let v←eval y env;standAt pos;pure v]) _ _ _
 refine wpAny_bind (wpAny_bind (hl.then rm ew er1 S1 h1 (fun _ _ e=>e.le l1) fun q2 W2 kv s2 l2 S2 R2 er2 h2=>?_))
 refine wpAny_bind (wpAny_standAt (wpAny_pure ?_))
 refine wpAny_bind (wpAny_holding (wpAny_pure (wpAny_pure ?_)))
 refine⟨trivial,so h2 fun xs hx h2=>so h2 fun c hc h2=>?_⟩
 rw[qc hc] at R2
 apply S2.lst v (R1.le l2) hx;intro a1 o1 vs1 k1
 have h3:=jW (ay.sat_bind.mp h2)
 refine iF fun nG=>aA (id R2) fun us z1 _=>rg z1 fun d qa qo fd _ ev B=>cN (vV h3) fun z hz=>so hz fun ks hks hz=>Es hz fun hcond _=>nG ?_
 rw[ev] at R2⊢
 exact vf rm hcl R2 k1.r hcond.2.1 hcond.2.2 S2 k1.g k1.q (ay.sat_mono h3 (fun z hz=>so hz fun ks hks hz=>Es hz fun hcond hz=>⟨ks,hks,hcond.1,fun W' val s' l' S' R'=>hz W' val s' ((l1.trans l2).trans l') S' R'⟩) fun _ _ e=>e)
end
end Mine
end
section
namespace Mine
open PySem PySem.W PyProof.Rows PySem.SeqAt PySem.Calls
section
variable{prog:Program}{w:World}{H:bg}{os:OsState}{C:Ctx}{call:aw}{n k:Nat}{X:aH}
variable{A:Around}{W W':Wd}{fx fx0 fx':Fz}{Z:Value→Shared→Prop}{s:Shared}{σ:ah}{sc csc:Scope}{env cenv:PySem.Env}{ρ:Env}
variable{mg mb:PySem.Str→Option Value}{own:List Addr}{PA:Around→PySem.Env→Prop}
theorem oU{m:PySem.Str}{np cpos pos p1:Pos}{k1:Nat}{Q:Flow→Shared→Prop}(K:aK H mg mb)(hh:A.handled=none)(ew:EnvW sc env)(S:St prog w H W fx σ os s)(hk:sc.names.lookup (Str.ofString "ValueError")=some .globalImplicit)(hg:mg "ValueError" =none)
  (h: ∀h' e,Heap.MadeExc s.heap h' e "ValueError" [.str m s.toks]→Z (.ref e) {s with heap:=h',toks:=s.toks+1}):
  wpAny (model prog w) A (exec (.Raise (some (.Call (.Name "ValueError" np) [.Constant (.str m) k1 p1] [] cpos)) none pos) env) Q Z s:=by
 refine Raise_madeB F.excCall_ValueError F.excRaise_ValueError hh (gu (v:= .type "ValueError") K S ew hk hg (by decide+kernel) (by decide) ⟨rfl,?_⟩ (by decide))
 show wpAny _ _ (spliced [(false,eval (.Constant (.str m) k1 p1) env)]) _ _ _
 refine spliced_cons (Calls.Constant_str (spliced_nil ⟨by show 1≤sizeLine;decide+kernel,fun h' e hm=>h h' e hm⟩))
theorem Cr{m:List Nat}{y:PySem.Str}{np cpos pos p1:Pos}{k1:Nat}(K:aK H mg mb)(hk:sc.names.lookup (Str.ofString "ValueError")=some .globalImplicit)(hg:mg "ValueError" =none):
  SS prog w H os C call n k XT sc (.raise m) (.Raise (some (.Call (.Name "ValueError" np) [.Constant (.str y) k1 p1] [] cpos)) none pos):=by
 intro A env ρ W fx0 fx σ s Q Z rm ew o er S h
 have h':cF XT A W fx0 Z m σ:=h
 exact oU K rm.h ew.toEnvW S hk hg fun h1 e hm=>h' W _ _ trivial
theorem uS{a:Addr}{fd:FuncData}{body:List Stmt}{bs:List (String×V)}{vals:List Value}{args:Args}{R:Result→Shared→Prop}(K:aK H mg mb)(F:lX H a fd body)(hd:A.depth<recursionLimit)(S:St prog w H W fx σ os s)
  (hbind:BindsTo s fd args ((bs.map fun p=>Str.ofString p.1).zip vals))
  (hl:bs.length=vals.length)(nd:(bs.map (·.1)).Nodup)(hi: ∀p∈bs,cV fd.scope (Str.ofString p.1)=true)(Rv:ar prog w H W (bs.map (·.2)) vals)
  (h: ∀env fx' s',env.frame=some env.locals→env.code=fd.code→mV fd.scope env→c7 W fx fx' fd.scope env→bo prog w H W fx' fd.scope env bs→St prog w H W fx' σ os s'→
   wpAny (model prog w) (A.deeper env) (execs body env) (fun f s'=>R (.ok (.ret (match f with| .ret v=>v|_=> .none))) s')
    (fun e s'=>wpAny (model prog w) (A.deeper env) (leaving env e) (fun _ s''=>R (.error e) s'') (fun e' s''=>R (.error e') s'') s') s'):
  codeAny (model prog w) A (.call (.ref a) args) R s:=by
 refine iF fun nG=>aA F.ob fun o ho hdat=>un F.code fun c oc vs tq z=>nG ?_
 have N:=jF (env:=sR fd a s.heap.objs.size) (sc:=fd.scope) (fo:=mF) S rfl F.nd (cl:=fd.closure) (fun x hx=>absurd hx (F.nofree x)) rfl rfl (tk:=s.toks)
 exact codeAny_call_function hd (S.keepP _ _ (S.base _ _ ho)) hdat F.co F.gen F.body ⟨c,oc,vs,tq,z.1,S.keepP _ _ (S.base _ _ z.2.1),z.2.2⟩ (hbind _ _ _ _ (my (fg hl hi (wo F).toEnvW N.o N.er N.S Rv fun fx' h' tk o' er' S'=>⟨K.nolim S',codeAny_func (h (sR fd a s.heap.objs.size) fx' _ rfl rfl (wo F) o' (er'.congr (fS nd)) S')⟩)))
noncomputable def oq(fx:Fz)(env:PySem.Env):Prop:=env.scope.kind≠ .module∧env.frame=some env.locals∧ ∃o m,fx env.locals=some o∧db o m
theorem c7.frame(o:c7 W fx0 fx sc env)(ew:mV sc env)(hf:env.frame=some env.locals):oq fx env:=
 ⟨by rw[ew.kind];decide,hf,o.ns⟩
end
end Mine
end
section
namespace Mine
open PySem PySem.W PyProof.Rows PySem.SeqAt PySem.Calls
noncomputable def rI(prog:Program)(w:World)(H:bg)(W:Wd)(fx:Fz)(σ:ah)(os:OsState)(frames:List PySem.Env)(m:PySem.Str)(e:Addr)(s':Shared):Prop:=
 ∃(base:Heap) (t:Addr) (tk:Tok) (r:Shared),Heap.FlyingW base frames e (.type "ValueError") (.ref t) s'.heap∧s'.heap.TupAt t [.str m tk]∧St prog w H W fx σ os r∧
  (∀b o,¬cC H W fx b→(∀env∈frames,b≠env.locals)→r.heap.get? b=some o→base.get? b=some o)∧r.heap.UpToSlots s'.heap∧s'.os=r.os∧s'.gens=r.gens
section
variable{prog:Program}{w:World}{H:bg}{os:OsState}{C:Ctx}{call:aw}{n k:Nat}{X:aH}
variable{A:Around}{W W':Wd}{fx fx0 fx':Fz}{Z:Value→Shared→Prop}{s:Shared}{σ:ah}{sc csc:Scope}{env cenv:PySem.Env}{ρ:Env}
variable{mg mb:PySem.Str→Option Value}{own:List Addr}{outer:List PySem.Env}{M:Model}{m:PySem.Str}{e:Addr}
theorem c7.free(o:c7 W fx0 fx sc env)(S:St prog w H W fx σ os s):cC H W fx0 env.locals:=by
 refine cz o.ns fun ob mm e1 _=>?_
 refine⟨S.pf _ _ e1,o.loc,fun i e2=>?_,fun t ht e2=>?_⟩
 ·rw[S.fa i _ e2] at e1;cases e1
 ·refine vE (S.tab t ht) fun _ _ e3 _=>?_
  rw[e2,e1] at e3;cases e3
theorem cC.less{a:Addr}(l:fx0.le fx)(f:cC H W fx a):cC H W fx0 a:=by
 refine⟨f.P,?_,f.ads,f.tab⟩
 cases e:fx0 a with
 |none=>rfl
 |some o=>have h:=l _ _ e;rw[f.fx] at h;cases h
theorem uN{Q:Unit→Shared→Prop}{E:Value→Shared→Prop}(hfr:A.frames=some (env::outer))(hf:env.frame=some env.locals)(o:c7 W fx0 fx sc env)(hx:rI prog w H W fx σ os (env::outer) m e s)
  (hQ: ∀s'',rI prog w H W fx0 σ os outer m e s''→Q () s''):wpAny M A (leaving env (.ref e)) Q E s:=by
 refine un hx fun base t tk r y3_1=>?_;refine oA6 y3_1 fun h1 h2 S h3 h4 h5 h6=>?_
 refine wpAny_leaves_onW hfr hf h1 fun h' hfl hup=>hQ _ ⟨base,t,tk,r,hfl,h2.of_slots hup,S.less o.le,fun b ob nf hb he=>?_,h4.trans hup,h5,h6⟩
 have fL:=o.free S
 refine h3 b ob (fun f=>nf (f.less o.le)) (fun env' hm=>?_) he
 rcases List.mem_cons.mp hm with rfl|hm
 ·exact fun q=>nf (q▸fL)
 ·exact hb env' hm
theorem uc{Q:Unit→Shared→Prop}{E:Value→Shared→Prop}{h':Heap}{tk tk':Nat}(hfr:A.frames=some (env::outer))(hf:env.frame=some env.locals)(o:c7 W fx0 fx sc env)(S:St prog w H W fx σ os s)(hall: ∀env'∈env::outer,oq fx env')
  (hx:Heap.MadeExc s.heap h' e "ValueError" [.str m tk])(hQ: ∀s'',rI prog w H W fx0 σ os outer m e s''→Q () s''):wpAny M A (leaving env (.ref e)) Q E {s with heap:=h',toks:=tk'}:=by
 have hb: ∀b ob,(dO s.heap fun b=>decide (b∉(env::outer).map (·.locals))).get? b=some ob↔b∉(env::outer).map (·.locals)∧s.heap.get? b=some ob:=fun b ob=>by
  rw[qK,decide_eq_true_iff]
 generalize dO s.heap (fun b=>decide (b∉(env::outer).map (·.locals)))=base at hb
 have hst:base.StaysIn s.heap:=fun b ob e=>((hb b ob).mp e).2
 have ff: ∀(l:List PySem.Env),(∀env'∈l,env'∈env::outer)→s.heap.FunFrames base l:=by
  intro l
  induction l with
  |nil=>intro _;trivial
  |cons en r ih=>
   intro hl
   have hen:=hl en (List.mem_cons_self ..)
   refine sA (hall en hen) fun k1 k2 ob mm k3 k4=>?_
   refine cz k4 fun es ep d1 _=>?_
   refine⟨k1,⟨en.locals,ob,k2,?_,S.keepF _ _ k3,fun vs q=>by rw[d1] at q;cases q⟩,ih fun x hx=>hl x (List.mem_cons_of_mem _ hx)⟩
   cases hc:base.get? en.locals with
   |none=>rfl
   |some ob'=>exact absurd (List.mem_map_of_mem (f:=(·.locals)) hen) ((hb _ _).mp hc).1
 have hx':Heap.MadeExcOf s.heap h' e (.type "ValueError") [.str m tk]:=⟨hx.keeps,hx.new,hx.there⟩
 refine wpAny_leaves_madeW (h:=s.heap) (s:={s with heap:=h',toks:=tk'}) hfr hf hst (ff _ fun _ h=>h) hx' fun h'' t hfl htup htn hup=>hQ _ ⟨base,t,tk,s,hfl,htup,S.less o.le,fun b ob nf hbn he=>(hb b ob).mpr ⟨fun hm=>?_,he⟩,(Heap.UpToSlots.of_keeps hx.keeps).trans hup,rfl,rfl⟩
 refine aA (List.mem_map.mp hm) fun en hen z1=>?_;subst z1
 rcases List.mem_cons.mp hen with rfl|hen
 ·exact nf (o.free S)
 ·exact hbn en hen rfl
end
end Mine
end
section
namespace Mine
open PySem PySem.W PyProof.Rows PySem.SeqAt PySem.Calls
noncomputable def zo:Ctx:=⟨[],fun _=> .none⟩
noncomputable def jH:aw:=fun _ _ _ _=> .stuck
section
variable{prog:Program}{w:World}{H:bg}{os:OsState}{C:Ctx}{call:aw}{n k:Nat}{X:aH}
variable{A:Around}{W W':Wd}{fx fx0 fx':Fz}{Z:Value→Shared→Prop}{s:Shared}{σ:ah}{sc csc:Scope}{env cenv:PySem.Env}{ρ:Env}
variable{mg mb:PySem.Str→Option Value}{own:List Addr}{frames:List PySem.Env}{m:PySem.Str}
theorem gY{x:String}{v:V}{pos:Pos}{Q:Value→Shared→Prop}(rm:bX A 0)(ew:EnvW sc env)(er:bo prog w H W fx sc env ρ)(S:St prog w H W fx σ os s)(hx:aM ρ x=some v)
  (hd:(Str.ofString x==("__debug__" :PySem.Str))=false)(hc:(Str.ofString x==("__classdict__" :PySem.Str))=false)
  (hk:sc.names.lookup (Str.ofString x)=some .local∨sc.names.lookup (Str.ofString x)=some .cell∨sc.names.lookup (Str.ofString x)=some .free)
  (h: ∀W' val s',W.le W'→St prog w H W' fx σ os s'→bj prog w H W' v val→Q val s'):wpAny (model prog w) A (eval (.Name (Str.ofString x) pos) env) Q Z s:=by
 refine tX (call:=jH) (C:=zo) (n:=0) (X:=XT) hd hc hk A env ρ W fx σ s Q Z rm ew er S ?_
 have e:bp zo jH (.var x) ρ σ= .ok (v,σ):=by
  show(ay.ofOpt (aM ρ x)).bind _=_
  rw[hx];rfl
 rw[e]
 exact fun W' val s' l S' R=>h W' val s' l S' R
theorem qX{e:Mine.E}{x:Expr}{b:Bool}{Q:Bool→Shared→Prop}(h:ST prog w H os zo jH 0 XT sc e x)(rm:bX A 0)(ew:EnvW sc env)(er:bo prog w H W fx sc env ρ)(S:St prog w H W fx σ os s)(hb:eR zo jH e ρ σ= .ok (b,σ))
  (hq: ∀W' s',W.le W'→St prog w H W' fx σ os s'→Q b s'):wpAny (model prog w) A (isTrue x env (eval x env)) Q Z s:=by
 refine h A env ρ W fx σ s Q Z rm ew er S ?_
 rw[hb]
 exact fun W' s' l S'=>hq W' s' l S'
structure jx(fd:FuncData)(body:List Stmt)(m:PySem.Str):Prop where
 body: ∃p1 k2 p2 p3 p4 k5 p5 p6 p7 p8 rest,body= .If (.Compare (.Name (Str.ofString "lo") p1) [.Lt] [.Constant (.int 0) k2 p2] p3) [.Raise (some (.Call (.Name "ValueError" p4) [.Constant (.str m) k5 p5] [] p6)) none p7] [] p8::rest
 names: ∀x∈["a", "x", "lo", "hi", "key"],fd.scope.names.lookup (Str.ofString x)=some .local
 ve:fd.scope.names.lookup (Str.ofString "ValueError")=some .globalImplicit
theorem qQ{aB:Addr}{fd:FuncData}{body:List Stmt}{va vx vh vk:V}{lo:Int}{ua ux uh uk ul:Value}{Q:Value→Shared→Prop}(K:aK H mg mb)(F:lX H aB fd body)(B:jx fd body m)(hg:mg "ValueError" =none)(rm:bX A 1)(hfr:A.frames=some frames)(hall: ∀env∈frames,oq fx env)
  (S:St prog w H W fx σ os s)(hlo:lo<0)(Ra:bj prog w H W va ua)(Rx:bj prog w H W vx ux)(Rl:bj prog w H W (.int lo) ul)(Rh:bj prog w H W vh uh)(Rk:bj prog w H W vk uk)
  (hbind:BindsTo s fd ⟨[ua,ux,ul,uh],[(Str.ofString "key",uk)]⟩ ((["a", "x", "lo", "hi", "key"].map Str.ofString).zip [ua,ux,ul,uh,uk]))
  (hZ: ∀W' e s'',W.le W'→rI prog w H W' fx σ os frames m e s''→Z (.ref e) s''):wpAny (model prog w) A (PySem.call (.ref aB) [ua,ux,ul,uh] [(Str.ofString "key",uk)]) Q Z s:=by
 refine iF fun nG=>?_
 refine oE6 B.body fun p1 k2 p2 p3 p4 k5 y1_1=>?_;refine oE5 y1_1 fun p5 p6 p7 p8 rest hb=>?_
 refine nG ?_
 refine wpAny_call (uS (bs:=[("a",va),("x",vx),("lo",.int lo),("hi",vh),("key",vk)]) (vals:=[ua,ux,ul,uh,uk]) K F (Nat.lt_of_le_of_lt (Nat.le_trans (Nat.le_add_right ..) (Nat.le_add_right ..)) rm.d) S hbind rfl (by simp) (fun p hp=>?_)
  (ar.cons Ra (ar.cons Rx (ar.cons Rl (ar.cons Rh (ar.cons Rk ar.nil))))) fun env fx' s' hf hcd ew o er S'=>?_)
 ·have:p.1∈["a", "x", "lo", "hi", "key"]:=List.mem_map_of_mem (f:=(·.1)) hp
  unfold cV
  rw[B.names p.1 this];rfl
 ·rw[hb]
  have rm':bX (A.deeper env) 0:=rm.deeper
  have hn:=B.names "lo" (by simp)
  have hc:ST prog w H os zo jH 0 XT fd.scope (.cmp .lt (.var "lo") (.cst (.int 0))) (.Compare (.Name (Str.ofString "lo") p1) [.Lt] [.Constant (.int 0) k2 p2] p3):=
   ST.of_cmp (op:= .Lt) (aV (op:= .lt) (tX (by decide) (by decide) (.inl hn)) an rfl) rfl rfl
  refine wpAny_execs_cons (wpAny_If (qX hc rm' ew.toEnvW er S' (b:=true) ?_ fun W1 s1 l1 S1=>?_))
  ·show ay.ok (decide (lo<0),σ)=_
   rw[decide_eq_true hlo]
  ·refine wpAny_execs_cons (oU K rm'.h ew.toEnvW S1 B.ve hg fun h' e hm=>?_)
   refine uc (A:=A.deeper env) (Around.frames_deeper hfr) hf (o.wd l1) S1 (fun env' hm'=>?_) hm fun s'' hfl=>hZ W1 e s'' l1 hfl
   rcases List.mem_cons.mp hm' with rfl|hm'
   ·exact o.frame ew hf
   ·refine sA (hall env' hm') fun k1 k2 ob mm k3 k4=>?_
    exact⟨k1,k2,ob,mm,o.le _ _ k3,k4⟩
end
end Mine
end
section
namespace Mine
open PySem PySem.W PyProof.Rows PySem.SeqAt PySem.Calls
structure lW(fd:FuncData)(body:List Stmt):Prop where
 body: ∃p1 k2 p2 p3 elseless q1 q2 q3 q4 q5 q6 q7 q8 kwd q9 q10 q11 rest,body= .If (.Compare (.Name (Str.ofString "key") p1) [.Is] [.Constant .none k2 p2] p3) elseless
  [.Assign [.Name (Str.ofString "lo") q1] (.Call (.Name (Str.ofString "bisect_left") q2) [.Name (Str.ofString "a") q3,.Call (.Name (Str.ofString "key") q4) [.Name (Str.ofString "x") q5] [] q6,.Name (Str.ofString "lo") q7,.Name (Str.ofString "hi") q8] [kwd] q9) q10] q11::rest∧
  ∃q12,∀env,keywordEach [kwd] env=[(some (Str.ofString "key"),eval (.Name (Str.ofString "key") q12) env)]
 names: ∀x∈["a", "x", "lo", "hi", "key"],fd.scope.names.lookup (Str.ofString x)=some .local
 bi:fd.scope.names.lookup (Str.ofString "bisect_left")=some .globalImplicit
theorem sC(x:String){l:List String}(h:l.contains x=true):x∈l:=List.contains_iff_mem.mp h
theorem bX.weakD{A:Around}{n:Nat}{env:PySem.Env}(r:bX A n):lU (A.deeper env) n:=⟨r.h,Nat.lt_of_le_of_lt (kX (i:=1) (by decide)) r.d,Nat.lt_of_le_of_lt (kX (i:=3) (by decide)) r.u⟩
theorem bX.ge{A:Around}{n m:Nat}(r:bX A n)(h:m≤n):bX A m:=⟨r.h,Nat.lt_of_le_of_lt (Nat.add_le_add_right (Nat.add_le_add_left (Nat.mul_le_mul_left 4 h) _) _) r.d,Nat.lt_of_le_of_lt (Nat.add_le_add_right (Nat.add_le_add_left (Nat.mul_le_mul_left 100 h) _) _) r.u⟩
section
variable{prog:Program}{w:World}{os:OsState}{C:Ctx}{call:aw}{n k:Nat}{X:aH}{base:Fz}{IC:Addr}{LD:Nat→Option dh}{tabs:List (Addr×PySem.Str)}
variable{A:Around}{W W':Wd}{fx fx0 fx':Fz}{Z:Value→Shared→Prop}{s:Shared}{σ:ah}{sc csc:Scope}{env cenv:PySem.Env}{ρ:Env}
variable{mg mb:PySem.Str→Option Value}{own:List Addr}{frames:List PySem.Env}{m:PySem.Str}
theorem qL{aB aI:Addr}{fdB fdI:FuncData}{bodyB bodyI:List Stmt}{va vx:V}{k:Nat}{ws:List V}{lo:Int}{ua ux ul uk:Value}{σ':ah}{v1:V}{Q:Value→Shared→Prop}(K:aK (ai base IC LD tabs) mg mb)(hcl:qp prog w os call n base IC LD tabs)
  (FB:lX (ai base IC LD tabs) aB fdB bodyB)(B:jx fdB bodyB m)(FI:lX (ai base IC LD tabs) aI fdI bodyI)(I:lW fdI bodyI)(hg:mg "ValueError" =none)(hgB:mg (Str.ofString "bisect_left")=some (.ref aB))(rm:bX A n)(hn:2≤n)(hfr:A.frames=some frames)(hall: ∀env∈frames,oq fx env)
  (S:St prog w (ai base IC LD tabs) W fx σ os s)(hlo:lo<0)(Ra:bj prog w (ai base IC LD tabs) W va ua)(Rx:bj prog w (ai base IC LD tabs) W vx ux)(Rl:bj prog w (ai base IC LD tabs) W (.int lo) ul)(Rk:bj prog w (ai base IC LD tabs) W (.clo k ws) uk)
  (hcall:call (.clo k ws) [vx] .none σ= .ok (v1,σ'))
  (hbindI: ∀s':Shared,(∀b o,base b=some o→s'.heap.get? b=some o)→BindsTo s' fdI ⟨[ua,ux,ul],[(Str.ofString "key",uk)]⟩ ((["a", "x", "lo", "hi", "key"].map Str.ofString).zip [ua,ux,ul,.none,uk]))
  (hbindB: ∀(s':Shared) u1 u2 u3 u4 u5,(∀b o,base b=some o→s'.heap.get? b=some o)→BindsTo s' fdB ⟨[u1,u2,u3,u4],[(Str.ofString "key",u5)]⟩ ((["a", "x", "lo", "hi", "key"].map Str.ofString).zip [u1,u2,u3,u4,u5]))
  (hZ: ∀W' e s'',W.le W'→rI prog w (ai base IC LD tabs) W' fx σ' os frames m e s''→Z (.ref e) s''):wpAny (model prog w) A (PySem.call (.ref aI) [ua,ux,ul] [(Str.ofString "key",uk)]) Q Z s:=by
 refine oE6 I.body fun p1 k2 p2 p3 els q1 y1_1=>?_;refine oE6 y1_1 fun q2 q3 q4 q5 q6 q7 y1_2=>?_;refine oE6 y1_2 fun q8 kwd q9 q10 q11 rest y1_3=>?_;refine oA1E1 y1_3 fun hb q12 hkw=>?_
 have hbase: ∀{W:Wd} {fx:Fz} {σ:ah} {s:Shared},St prog w (ai base IC LD tabs) W fx σ os s→ ∀b o,base b=some o→s.heap.get? b=some o:=fun S b o e=>S.keepP _ _ (S.base _ _ e)
 refine wpAny_call (uS (bs:=[("a",va),("x",vx),("lo",.int lo),("hi",.none),("key",.clo k ws)]) (vals:=[ua,ux,ul,.none,uk]) K FI (Nat.lt_of_le_of_lt (Nat.le_trans (Nat.le_add_right ..) (Nat.le_add_right ..)) rm.d) S (hbindI s (hbase S)) rfl (by simp) (fun p hp=>?_)
  (ar.cons Ra (ar.cons Rx (ar.cons Rl (ar.cons eM (ar.cons Rk ar.nil))))) fun env fx' s' hf hcd ew o er S'=>?_)
 ·have:p.1∈["a", "x", "lo", "hi", "key"]:=List.mem_map_of_mem (f:=(·.1)) hp
  unfold cV
  rw[I.names p.1 this];rfl
 have rm0:bX (A.deeper env) 1:=(rm.ge hn).deeper
 have rm':bX (A.deeper env) 0:=rm0.less
 have rmw:lU (A.deeper env) n:=rm.weakD
 have nm:=fun x hx=>I.names x hx
 rw[hb]
 have hc:ST prog w (ai base IC LD tabs) os zo jH 0 XT fdI.scope (.cmp .is (.var "key") (.cst .none)) (.Compare (.Name (Str.ofString "key") p1) [.Is] [.Constant .none k2 p2] p3):=
  ST.of_cmp (op:= .Is) (aV (op:= .is) (tX (by decide) (by decide) (.inl (nm "key" (sC "key" rfl)))) j7 rfl) rfl rfl
 refine wpAny_execs_cons (wpAny_If (qX hc rm' ew.toEnvW er S' (b:=false) rfl fun W1 s1 l1 S1=>?_))
 have er1:=er.le l1 fun _ _ e=>e
 refine wpAny_execs_cons (wpAny_Assign_stores ?_ (oH.trans (iU rfl)) rU)
 refine wpAny_Call_Name_kw (dF K S1 ew.toEnvW I.bi hgB ?_ (by decide))
 refine aA FB.ob fun ob hob hdat=>?_
 refine callWith_function_kw (o:=ob) (fd:=fdB) ?_
 have hks:backToKw q9 (keywordEach [kwd] env)=[(some (Str.ofString "key"),do let v←eval (.Name (Str.ofString "key") q12) env;standAt q9;pure v)]:=by rw[hkw];rfl
 rw[hks,bn (by rfl)]
 refine evalArgs_kw rfl ?_
 show wpAny _ _ (spliced [(false,eval (.Name (Str.ofString "a") q3) env),(false,eval (.Call (.Name (Str.ofString "key") q4) [.Name (Str.ofString "x") q5] [] q6) env),(false,eval (.Name (Str.ofString "lo") q7) env),(false,eval (.Name (Str.ofString "hi") q8) env)]) _ _ _
 refine spliced_cons (gY rm' ew.toEnvW er1 S1 (x:= "a") (v:=va) rfl (by decide) (by decide) (.inl (nm "a" (sC "a" rfl))) fun W2 u2 s2 l2 S2 R2=>?_)
 have er2:=er1.le l2 fun _ _ e=>e
 refine spliced_cons (Call_Name rfl (gY rm' ew.toEnvW er2 S2 (x:= "key") (v:= .clo k ws) rfl (by decide) (by decide) (.inl (nm "key" (sC "key" rfl))) fun W3 u3 s3 l3 S3 R3=>?_))
 refine aA (id R3) fun us z1 _=>?_;refine rg z1 fun d cb co cfd _ z2 BC=>?_;rw[z2] at R3⊢
 have er3:=er2.le l3 fun _ _ e=>e
 refine callWith_function (o:=co) (fd:=cfd) (cJ (xs:=[.Name (Str.ofString "x") q5]) rfl ?_)
 rw[bn rfl]
 refine spliced_cons (gY rm' ew.toEnvW er3 S3 (x:= "x") (v:=vx) rfl (by decide) (by decide) (.inl (nm "x" (sC "x" rfl))) fun W4 u4 s4 l4 S4 R4=>spliced_nil ⟨⟨S4.keepP _ _ (l4.P _ _ BC.ob),BC.data⟩,?_⟩)
 refine hcl (A.deeper env) W4 fx' σ s4 k ws _ vx u4 _ _ rmw S4 (R3.le l4) R4 ?_
 rw[hcall]
 intro W5 u5 s5 l5 S5 R5
 have er5:=(er3.le l4 fun _ _ e=>e).le l5 fun _ _ e=>e
 refine spliced_cons (gY rm' ew.toEnvW er5 S5 (x:= "lo") (v:= .int lo) rfl (by decide) (by decide) (.inl (nm "lo" (sC "lo" rfl))) fun W6 u6 s6 l6 S6 R6=>?_)
 have er6:=er5.le l6 fun _ _ e=>e
 refine spliced_cons (gY rm' ew.toEnvW er6 S6 (x:= "hi") (v:= .none) rfl (by decide) (by decide) (.inl (nm "hi" (sC "hi" rfl))) fun W7 u7 s7 l7 S7 R7=>spliced_nil ?_)
 have er7:=er6.le l7 fun _ _ e=>e
 show wpAny _ _ (evalAll [do let v←eval (.Name (Str.ofString "key") q12) env;standAt q9;pure v]) _ _ _
 refine wpAny_bind (wpAny_bind (gY rm' ew.toEnvW er7 S7 (x:= "key") (v:= .clo k ws) rfl (by decide) (by decide) (.inl (nm "key" (sC "key" rfl))) fun W8 u8 s8 l8 S8 R8=>?_))
 refine wpAny_bind (wpAny_standAt (wpAny_pure ?_))
 refine wpAny_bind (wpAny_holding (wpAny_pure (wpAny_pure ?_)))
 refine⟨⟨S8.keepP _ _ (S8.base _ _ hob),hdat⟩,?_⟩
 have l28:W2.le W8:=((((l3.trans l4).trans l5).trans l6).trans l7).trans l8
 refine qQ (A:=A.deeper env) (frames:=env::frames) (va:=va) (vx:=v1) (vh:= .none) (vk:= .clo k ws) K FB B hg rm0 (Around.frames_deeper hfr) (fun env' hm'=>?_) S8 hlo (R2.le l28) (R5.le ((l6.trans l7).trans l8)) (R6.le (l7.trans l8)) (R7.le l8) R8 (hbindB s8 _ _ _ _ _ (hbase S8)) fun W9 e s'' l9 hfl=>?_
 ·rcases List.mem_cons.mp hm' with rfl|hm'
  ·exact o.frame ew hf
  ·refine sA (hall env' hm') fun k1 k2 ob mm k3 k4=>?_
   exact⟨k1,k2,ob,mm,o.le _ _ k3,k4⟩
 ·have l09:W.le W9:=((l1.trans l2).trans l28).trans l9
  exact uN (A:=A.deeper env) (Around.frames_deeper hfr) hf (o.wd l09) hfl fun s3 hfl'=>hZ W9 e s3 l09 hfl'
end
end Mine
end
section
namespace Mine
open PySem PySem.W PyProof.Rows PySem.SeqAt PySem.Calls
section
variable{prog:Program}{w:World}{H:bg}{os:OsState}{C:Ctx}{call:aw}{n k:Nat}{X:aH}
variable{A:Around}{W W':Wd}{fx fx0 fx':Fz}{Z:Value→Shared→Prop}{s s' r:Shared}{σ:ah}{sc csc:Scope}{env cenv:PySem.Env}{ρ:Env}
variable{mg mb:PySem.Str→Option Value}{own:List Addr}{frames:List PySem.Env}{m:PySem.Str}
theorem CU{o o':Obj}{m m':PySem.Str→Option Value}(h:db o m)(h':db o' m')(e:o=o'){x:PySem.Str}:m x=m' x:=
 cI h fun es ep d1 d2 d3=>cI h' fun es' ep' d1' d2' d3'=>by
  rw[←e,d1] at d1'
  rw[←d3,←d3',(Data.dict.inj d1').1]
theorem rP{x:String}{v:V}{pos:Pos}{Q:Value→Shared→Prop}(ew:EnvW sc env)(er:bo prog w H W fx sc env ρ)(S:St prog w H W fx σ os s)(hv:aM ρ x=some v)
  (hd:(Str.ofString x==("__debug__" :PySem.Str))=false)(hc:(Str.ofString x==("__classdict__" :PySem.Str))=false)
  (hk:sc.names.lookup (Str.ofString x)=some .local∨sc.names.lookup (Str.ofString x)=some .cell∨sc.names.lookup (Str.ofString x)=some .free)
  (h: ∀val,bj prog w H W v val→Q val s):wpAny (model prog w) A (eval (.Name (Str.ofString x) pos) env) Q Z s:=
 hk.elim (fun hk=>cI er.loc fun o m h1 h2 h3=>aA (h3 x v hv hk) fun val e1 e2=>wpAny_Name (wpAny_loadName_local ew.kind (ew.kinds _ _ hk (by decide)) (DT S h1 h2) e1 (h val e2)) hd) fun hk=>gq (er.cel x v hv hk) fun c o val e1 e2 e3 e4=>
  have hcell:s.heap.IsCell c (some val):=⟨o,e2.elim (S.keepF _ _) (S.keepP _ _),e3⟩
  (hk.elim (fun hk=> .inl (ew.kinds _ _ hk (by decide))) fun hk=>(ew.free _ hk).symm:env.kindOf (Str.ofString x)=some .cell∨env.kindOf (Str.ofString x)=some .free).elim (fun hk=>wpAny_Name (wpAny_loadName_cell ew.kind hk e1 hcell (h val e4)) hd) fun hk=>wpAny_Name (wpAny_loadName_free ew.kind hk e1 hcell (h val e4) hc) hd
theorem St.swapG(S:St prog w H W fx σ os s){a:Addr}{o o':Obj}(ha:fx a=some o)(k: ∀b x,b≠a→ ¬cC H W fx b→s.heap.get? b=some x→s'.heap.get? b=some x)(h:s'.heap.get? a=some o')(ho:s'.os=s.os)(hg:AllBare s'.gens):
  St prog w H W (fx.add a o') σ os s':=by
 have hP:=S.pf a o ha
 have na: ∀{b},fx b=none→b≠a:=fun e q=>nomatch (q▸e).symm.trans ha
 have nb: ∀{i b},W.ads[i]? =some b→b≠a:=fun e=>na (S.fa _ _ e)
 refine⟨S.base,fun b x e=>k b x (fun q=>nomatch (q▸e).symm.trans hP) (fun f=>nomatch f.P.symm.trans e) (S.keepP _ _ e),fun b x e=>tn e (fun q q2=>by rw[q,←q2];exact h) fun q e=>k b x q (fun f=>nomatch f.fx.symm.trans e) (S.keepF _ _ e),fun b x e=>tn e (fun q _=>q▸hP) fun _ e=>S.pf _ _ e,S.len,
  fun i b e=>cN (S.there i b e) fun x e'=>⟨x,k b x (nb e) (jf e) e'⟩,S.inj,fun i b n e q=>(S.mo i b n e q).keep fun x e'=>k b x (nb e) (jf e) e',S.pa,fun i b e=>(Fz.add_ne _ _ (nb e)).trans (S.fa i b e),fun t ht=>vE (S.tab t ht) fun p q r u=>⟨p.keep fun x e=>k _ x (na r) (fun f=>f.tab t ht rfl) e,q,(Fz.add_ne _ _ (na r)).trans r,u⟩,ho.trans S.os,hg⟩
theorem xy{o o':Obj}{mm m':PySem.Str→Option Value}(ho:fx env.locals=some o)(hn:db o mm)(hn':db o' m')(ow:c7 W fx0 fx sc env):
  c7 W fx0 (fx.add env.locals o') sc env∧ ∀ρ':Env,(∀x v,aM ρ' x=some v→m' (Str.ofString x)=mm (Str.ofString x))→bo prog w H W fx sc env ρ'→bo prog w H W (fx.add env.locals o') sc env ρ':=by
 have keep: ∀{c ob cv},fx c=some ob→ob.data= .cell cv→(fx.add env.locals o') c=some ob:=fun{c ob cv} e1 e2=>(Fz.add_ne _ _ fun q=>by
  rw[q,ho] at e1
  rw[←Option.some.inj e1] at e2
  exact cz hn fun es ep d _=>nomatch d.symm.trans e2).trans e1
 refine⟨ow.set ow.loc ⟨o',m',Fz.add_self _ _ _,hn'⟩ fun q=>absurd rfl q,fun ρ' hm er=>⟨⟨o',m',Fz.add_self _ _ _,hn',fun x v e hk=>cI er.loc fun o2 m2 f1 f2 f3=>aA (f3 x v e hk) fun val g1 g2=>⟨val,?_,g2⟩⟩,fun x v e hk=>gq (er.cel x v e hk) fun c ob val e1 e2 e3 e4=>⟨c,ob,val,e1,e2.imp (keep · e3) id,e3,e4⟩,fun x hk=>jV (er.cin x hk) fun c ob cv e1 e2 e3=>⟨c,ob,cv,e1,e2.imp (keep · e3) id,e3⟩,er.sld⟩⟩
 rw[hm x v e,CU hn f2 (Option.some.inj (ho.symm.trans f1))]
 exact g1
theorem AW{base:Heap}(S:St prog w H W fx σ os r)(ow:c7 W fx0 fx sc env)(hb: ∀b o,¬cC H W fx b→(∀env'∈[env],b≠env'.locals)→r.heap.get? b=some o→base.get? b=some o)(hst:base.StaysIn s.heap)(hup:r.heap.UpToSlots s.heap)(ho:s.os=r.os)(hg:s.gens=r.gens):
  ∃fx',St prog w H W fx' σ os s∧c7 W fx0 fx' sc env∧ ∀ρ',bo prog w H W fx sc env ρ'→bo prog w H W fx' sc env ρ':=by
 refine cz ow.ns fun o mm e1 hn=>?_
 refine cN (hup _ o (S.keepF _ _ e1) fun vs q=>cz hn fun es ep d _=>nomatch d.symm.trans q) fun sl hsl=>?_
 have hn':db {o with slots:=sl} mm:=hn
 refine qH (xy (prog:=prog) (w:=w) (H:=H) e1 hn hn' ow) fun h1 h2=>?_
 refine⟨_,S.swapG e1 (fun b x hbL nf e=>hst _ _ (hb b x nf (fun env' hm=>by rw[List.mem_singleton.mp hm];exact hbL) e)) hsl ho (hg▸S.gens),h1,fun ρ' er=>h2 ρ' (fun _ _ _=>rfl) er⟩
end
end Mine
end
section
namespace Mine
open PySem PySem.W PyProof.Rows PySem.SeqAt PySem.Calls
section
variable{prog:Program}{w:World}{os:OsState}{C:Ctx}{call:aw}{n k:Nat}{X:aH}{base:Fz}{IC:Addr}{LD:Nat→Option dh}{tabs:List (Addr×PySem.Str)}
variable{A:Around}{W W':Wd}{fx fx0 fx':Fz}{Z:Value→Shared→Prop}{s:Shared}{σ:ah}{sc csc:Scope}{env cenv:PySem.Env}{ρ:Env}
variable{mg mb:PySem.Str→Option Value}{own:List Addr}{frames:List PySem.Env}{m:PySem.Str}{PA:Around→PySem.Env→Prop}
theorem FlyingW.excAt{base:Heap}{l:List PySem.Env}{h:Heap}{e t:Addr}(f:Heap.FlyingW base l e (.type "ValueError") (.ref t) h):h.ExcAt e "ValueError" (.ref t):=by
 refine iF fun nG=>?_
 exact vE f fun _ _ _ y1_1=>oE5 y1_1 fun oe vs T oT ts y1_2=>vE y1_2 fun he z1 hd _=>qH z1 fun hc h0=>nG ⟨oe,vs,he,hc,hd,h0⟩
theorem sO{e t:Addr}{tk:Tok}{sN dN rN:String}{vs vd:V}{b:Bool}{p1 p2 p3 p4 p5 p6 p7 p8 p9 p0:Pos}{k1:Nat}{Q:Flow→Shared→Prop}(K:aK (ai base IC LD tabs) mg mb)(ew:EnvW sc env)
  (er:bo prog w (ai base IC LD tabs) W fx sc env [(sN,vs),(dN,vd)])(S:St prog w (ai base IC LD tabs) W fx σ os s)(hu:A.units+300<cLine)(hne:sN≠dN){ms:List Nat}(hm:m=⟨ms.toArray⟩)(hml:ms.length≤cP)
  (hr: ∃mm,s.heap.Ns env.locals mm∧mm (Str.ofString rN)=some (.ref e))(hx:s.heap.ExcAt e "ValueError" (.ref t))(ht:s.heap.TupAt t [.str m tk])
  (hrk:sc.names.lookup (Str.ofString rN)=some .local)(hrd:(Str.ofString rN==("__debug__" :PySem.Str))=false)
  (hsk:sc.names.lookup (Str.ofString "str")=some .globalImplicit)(hgs:mg (Str.ofString "str")=none)
  (hs1:(Str.ofString sN==("__debug__" :PySem.Str))=false)(hs2:(Str.ofString sN==("__classdict__" :PySem.Str))=false)(hd1:(Str.ofString dN==("__debug__" :PySem.Str))=false)(hd2:(Str.ofString dN==("__classdict__" :PySem.Str))=false)
  (hs:sc.names.lookup (Str.ofString sN)=some .local∨sc.names.lookup (Str.ofString sN)=some .cell∨sc.names.lookup (Str.ofString sN)=some .free)
  (hd:sc.names.lookup (Str.ofString dN)=some .local∨sc.names.lookup (Str.ofString dN)=some .cell∨sc.names.lookup (Str.ofString dN)=some .free)
  (he:cT 8 (deref σ vs) (deref σ vd)=some b)(hQ: ∀tk',Q (.ret (.bool b)) {s with toks:=tk'}):
  wpAny (model prog w) A (execs [.Return (some (.BoolOp .And [.Compare (.Call (.Name (Str.ofString "str") p1) [.Name (Str.ofString rN) p2] [] p3) [.Eq] [.Constant (.str m) k1 p4] p5,.Compare (.Name (Str.ofString sN) p6) [.Eq] [.Name (Str.ofString dN) p7] p8] p9)) p0] env) Q Z s:=by
 have hu': ∀{k},k≤300→A.units+k<cLine:=fun h=>Nat.lt_of_le_of_lt (Nat.add_le_add_left h _) hu
 refine aA hr fun mm hr1 hr2=>?_
 refine wpAny_execs_cons (wpAny_Return_some (BoolOp_and ?_))
 have first: ∀{Q':Value→Shared→Prop},(∀tk',Q' (.bool true) {s with toks:=tk'})→wpAny (model prog w) A (eval (.Compare (.Call (.Name (Str.ofString "str") p1) [.Name (Str.ofString rN) p2] [] p3) [.Eq] [.Constant (.str m) k1 p4] p5) env) Q' Z s:=by
  intro Q' hQ'
  refine wpAny_Compare1 (ie (id:= "str") K S ew hsk hgs (by decide+kernel) (by decide) (by decide) rfl ?_) rfl
  refine wpAny_Name (wpAny_loadName_local ew.kind (ew.kinds _ _ hrk (by decide)) hr1 hr2 ?_) hrd
  refine PySem.P.str_of_exc_one F.excStr_ValueError (hu' (by decide)) hx ht ?_
  refine Calls.Constant_str ?_
  subst hm
  have S':St prog w (ai base IC LD tabs) W fx σ os {s with toks:=s.toks+1}:=S.tok
  refine mO (op:= .eq) (x:= .str ms) (y:= .str ms) (b:=true) S' (jB hml) (jB hml) (congrArg some (beq_self_eq_true ms)) (hu' (by decide)) fun tk2=>hQ' tk2
 refine first fun tk'=>wpAny_truthy_bool ?_
 refine BoolOp_one (wpAny_Compare1 (rP ew er (S.tok (tk:=tk')) (x:=sN) (v:=vs) (if_pos rfl) hs1 hs2 hs fun u1 R1=>rP ew er (S.tok (tk:=tk')) (x:=dN) (v:=vd) ((if_neg hne).trans (if_pos rfl)) hd1 hd2 hd fun u2 R2=>?_) rfl)
 refine mO (op:= .eq) (S.tok (tk:=tk')) R1 R2 he (hu' (by decide)) fun tk2=>?_
 exact hQ tk2
end
end Mine
end
section
namespace Mine
open PySem PySem.W PyProof.Rows PySem.SeqAt PySem.Calls
structure lS(sc:Scope)(mg:PySem.Str→Option Value)(kN sN dN rN:String)(aI:Addr):Prop where
 ik:sc.names.lookup (Str.ofString "insort_left")=some .globalImplicit
 ig:mg (Str.ofString "insort_left")=some (.ref aI)
 vk:sc.names.lookup (Str.ofString "ValueError")=some .globalImplicit
 vg:mg "ValueError" =none
 tk:sc.names.lookup (Str.ofString "str")=some .globalImplicit
 tg:mg (Str.ofString "str")=none
 kk:sc.names.lookup (Str.ofString kN)=some .local∨sc.names.lookup (Str.ofString kN)=some .cell∨sc.names.lookup (Str.ofString kN)=some .free
 k1:(Str.ofString kN==("__debug__" :PySem.Str))=false
 k2:(Str.ofString kN==("__classdict__" :PySem.Str))=false
 sk:sc.names.lookup (Str.ofString sN)=some .local∨sc.names.lookup (Str.ofString sN)=some .cell∨sc.names.lookup (Str.ofString sN)=some .free
 s1:(Str.ofString sN==("__debug__" :PySem.Str))=false
 s2:(Str.ofString sN==("__classdict__" :PySem.Str))=false
 dk:sc.names.lookup (Str.ofString dN)=some .local∨sc.names.lookup (Str.ofString dN)=some .cell∨sc.names.lookup (Str.ofString dN)=some .free
 d1:(Str.ofString dN==("__debug__" :PySem.Str))=false
 d2:(Str.ofString dN==("__classdict__" :PySem.Str))=false
 rk:sc.names.lookup (Str.ofString rN)=some .local
 r1:(Str.ofString rN==("__debug__" :PySem.Str))=false
 ne:sN≠dN
 nr:sN≠rN
 nd:dN≠rN
section
variable{prog:Program}{w:World}{os:OsState}{C:Ctx}{call:aw}{n k:Nat}{X:aH}{base:Fz}{IC:Addr}{LD:Nat→Option dh}{tabs:List (Addr×PySem.Str)}
variable{A:Around}{W W':Wd}{fx fx0 fx':Fz}{Z:Value→Shared→Prop}{s:Shared}{σ:ah}{sc csc:Scope}{env cenv:PySem.Env}{ρ:Env}
variable{mg mb:PySem.Str→Option Value}{own:List Addr}{frames:List PySem.Env}{m:PySem.Str}{PA:Around→PySem.Env→Prop}
theorem bo.sub{H:bg}{ρ':Env}(er:bo prog w H W fx sc env ρ)(h: ∀x v,aM ρ' x=some v→aM ρ x=some v):bo prog w H W fx sc env ρ':=by
 exact⟨cI er.loc fun o m a b c=>⟨o,m,a,b,fun x v e=>c x v (h x v e)⟩,fun x v e=>er.cel x v (h x v e),er.cin,fun hm y v e=>er.sld hm y v (h _ _ e)⟩
theorem scalm{α β:Type}{o:ay α}{f:α→ay β}{Q:β→Prop}{Y:List Nat→ah→Prop}{P:Prop}(h:(o.calm.bind f).sat Q Y)(k: ∀z,o= .ok z→(f z).sat Q Y→P):P:=match o,h with
 | .ok z,h=>k z rfl h
theorem DS{a b x:String}{u v w:V}{P:Prop}(h:aM [(a,u),(b,v)] x=some w)(k1:a=x→u=w→P)(k2:b=x→v=w→P):P:=by
 by_cases e:a=x
 ·exact k1 e (Option.some.inj ((if_pos e).symm.trans h))
 ·by_cases e2:b=x
  ·exact k2 e2 (Option.some.inj ((if_pos e2).symm.trans ((if_neg e).symm.trans h)))
  ·exact nomatch (if_neg e2).symm.trans ((if_neg e).symm.trans h)
theorem Fp{e:Addr}{kN sN dN rN:String}{aI:Addr}{vs vd:V}{b:Bool}{pv p1 p2 p3 p4 p5 p6 p7 p8 p9 p0 ph:Pos}{k1:Nat}{Q:Flow→Shared→Prop}(K:aK (ai base IC LD tabs) mg mb)(N:lS sc mg kN sN dN rN aI)(rm:bX A n)
  (hfr:A.frames=some [env])(hf:env.frame=some env.locals)(ew:mV sc env)(o:c7 W fx0 fx sc env)(er:bo prog w (ai base IC LD tabs) W fx sc env ρ)(hvs:aM ρ sN=some vs)(hvd:aM ρ dN=some vd)
  {ms:List Nat}(hm:m=⟨ms.toArray⟩)(hml:ms.length≤cP)(he:cT 8 (deref σ vs) (deref σ vd)=some b)
  (hfl:rI prog w (ai base IC LD tabs) W fx σ os [env] m e s)(hQ: ∀s',St prog w (ai base IC LD tabs) W fx0 σ os s'→Q (.ret (.bool b)) s'):
  wpAny (model prog w) A (noteFrame (.ref e) env) (fun _ s₂=>wpAny (model prog w) A (setFlight (.ref e) none) (fun _ s₃=>wpAny (model prog w) A (handleBy (.ref e) env [.ExceptHandler (some (.Name "ValueError" pv)) (some (Str.ofString rN))
   [.Return (some (.BoolOp .And [.Compare (.Call (.Name (Str.ofString "str") p1) [.Name (Str.ofString rN) p2] [] p3) [.Eq] [.Constant (.str m) k1 p4] p5,.Compare (.Name (Str.ofString sN) p6) [.Eq] [.Name (Str.ofString dN) p7] p8] p9)) p0] ph]) Q Z s₃) Z s₂) Z s:=by
 refine un hfl fun b0 t tk r y2_1=>?_;refine oA6 y2_1 fun f1 f2 S f3 f4 f5 f6=>?_
 refine wpAny_looks_onW hfr hf f1 fun h1 g1 u1=>wpAny_landsW g1 fun h2 g2 u2=>?_
 have up2:r.heap.UpToSlots h2:=(f4.trans u1).trans u2
 have t2:h2.TupAt t [.str m tk]:=(f2.of_slots u1).of_slots u2
 refine cf (AW (s:={s with heap:=h2}) S o f3 g2.1 up2 f5 f6) fun jl S2 o2 er2=>?_
 refine wpAny_handleBy_builtin_as (X:= "ValueError") (T:= "ValueError") (b:=true) F.excRaise_ValueError.isExc (by rw[isSubtype_type];kernel_rfl) (by rw[isSubtype_type];kernel_rfl) ?_
 refine gu (v:= .type "ValueError") K S2 ew.toEnvW N.vk N.vg (by decide+kernel) (by decide) ⟨rfl,(FlyingW.excAt g2).typeIs,?_⟩ (by decide)
 refine vE g2 fun g21 g22 g23 g24=>?_
 refine wpAny_setFlight_noneW g21 g23 (Heap.TracedW.at g24) fun h3 c1 c2 c3 c4=>?_
 have u3:h2.UpToSlots h3:=fun b o hb hn=>⟨o.slots,c4 b o hb hn⟩
 have g3:Heap.FlyingW b0 [env] e (.type "ValueError") (.ref t) h3:=⟨c1,g22,c2,c3⟩
 refine cf (AW (s:={s with heap:=h3}) S o f3 c1 (up2.trans u3) f5 f6) fun fx3 S3 o3 er3=>?_
 have t3:=t2.of_slots u3
 have x3:=FlyingW.excAt g3
 refine cz o3.ns fun ob mm n1 n2=>?_
 have k3:h3.get? env.locals=some ob:=S3.keepF _ _ n1
 refine wpAny_storeName_local (ew.toEnvW.kinds _ _ N.rk (by decide)) (n2.ns k3) (fun h4 m4 sb=>?_) (by rw[ew.kind];rfl)
 refine aA (db.of_ns m4) fun ob' e4 n4=>?_
 refine qH (xy (prog:=prog) (w:=w) (H:=ai base IC LD tabs) n1 n2 n4 o3) fun o4 er4=>?_
 have S4:St prog w (ai base IC LD tabs) W (fx3.add env.locals ob') σ os {s with heap:=h4,toks:=s.toks+1}:=
  S3.swapG n1 (fun b x hb _ e=>(sb.2 b hb).trans e) e4 rfl S3.gens
 have er5:=er4 [(sN,vs),(dN,vd)] (fun x v hx=>if_neg fun q=>DS hx (fun e _=>N.nr (e.trans (ch q))) fun e _=>N.nd (e.trans (ch q))) (er3 _ (er.sub fun x v hx=>DS hx (fun e e2=>by rw[←e,←e2];exact hvs) fun e e2=>by rw[←e,←e2];exact hvd))
 have notL: ∀{b x},h3.get? b=some x→(∀es ep,x.data≠ .dict es ep)→h4.get? b=some x:=fun{b x} hb hd=>(sb.2 b fun q=>cz n2 fun es ep d _=>hd es ep (by rw[q,k3] at hb;rw[←Option.some.inj hb,d])).trans hb
 have x4:h4.ExcAt e "ValueError" (.ref t):=nz x3 fun oe ws q1 q2 q3 q4=>⟨oe,ws,notL q1 (fun es ep q=>nomatch q3.symm.trans q),q2,q3,q4⟩
 have t4:h4.TupAt t [.str m tk]:=cI t3 fun oe ws q1 q2 q3=>⟨oe,ws,notL q1 (fun es ep q=>nomatch q3.symm.trans q),q2,q3⟩
 refine sO (A:=A.mark (some (.ref e))) (t:=t) (tk:=tk) (e:=e) (vs:=vs) (vd:=vd) K ew.toEnvW er5 S4 (Nat.lt_of_le_of_lt (Nat.add_le_add_right (Nat.le_add_right _ _) _) rm.u) N.ne hm hml ⟨_,m4,if_pos rfl⟩ x4 t4 N.rk N.r1 N.tk N.tg N.s1 N.s2 N.d1 N.d2 N.sk N.dk he fun tk'=>?_
 refine wpAny_nameGoes (ew.toEnvW.kinds _ _ N.rk (by decide)) m4 (by rw[ew.kind];rfl) fun h5 m5 _ sb5=>?_
 refine hQ _ ((S3.less o3.le).step fun b x nf e=>?_)
 have hb:b≠env.locals:=fun q=>nf (q▸(o3.free S3))
 exact(sb5.2 b hb).trans ((sb.2 b hb).trans e)
theorem Ev{aB aI:Addr}{fdB fdI:FuncData}{bodyB bodyI:List Stmt}{ae xe loe:Mine.E}{ax xx lox:Expr}{kN sN dN rN:String}{bs:List S}{xs:List Stmt}{kwd:Keyword}{q12 pc pi pe pv p1 p2 p3 p4 p5 p6 p7 p8 p9 p0 ph pt:Pos}{k1:Nat}{ms:List Nat}
  (K:aK (ai base IC LD tabs) mg mb)(hcl:qp prog w os call n base IC LD tabs)(FB:lX (ai base IC LD tabs) aB fdB bodyB)(B:jx fdB bodyB m)(FI:lX (ai base IC LD tabs) aI fdI bodyI)(I:lW fdI bodyI)
  (N:lS sc mg kN sN dN rN aI)(hgB:mg (Str.ofString "bisect_left")=some (.ref aB))(hn:2≤n)(hpa: ∀A env,PA A env→A.frames=some [env]∧env.frame=some env.locals)(hm:m=⟨ms.toArray⟩)(hml:ms.length≤cP)
  (ha:SE prog w (ai base IC LD tabs) os C call n X sc ae ax)(hx:SE prog w (ai base IC LD tabs) os C call n X sc xe xx)(hl:SE prog w (ai base IC LD tabs) os C call n X sc loe lox)(hst:[ax,xx,lox].any aR=false)
  (hkw: ∀env,keywordEach [kwd] env=[(some (Str.ofString "key"),eval (.Name (Str.ofString kN) q12) env)])
  (hbindI: ∀(s':Shared) u1 u2 u3 u4,(∀b o,base b=some o→s'.heap.get? b=some o)→BindsTo s' fdI ⟨[u1,u2,u3],[(Str.ofString "key",u4)]⟩ ((["a", "x", "lo", "hi", "key"].map Str.ofString).zip [u1,u2,u3,.none,u4]))
  (hbindB: ∀(s':Shared) u1 u2 u3 u4 u5,(∀b o,base b=some o→s'.heap.get? b=some o)→BindsTo s' fdB ⟨[u1,u2,u3,u4],[(Str.ofString "key",u5)]⟩ ((["a", "x", "lo", "hi", "key"].map Str.ofString).zip [u1,u2,u3,u4,u5])):
  SF prog w (ai base IC LD tabs) os C call n k X PA sc (.tryIns ae xe loe kN sN dN::bs) (.Try [.Expr (.Call (.Name (Str.ofString "insort_left") pi) [ax,xx,lox] [kwd] pc) pe] [.ExceptHandler (some (.Name "ValueError" pv)) (some (Str.ofString rN))
   [.Return (some (.BoolOp .And [.Compare (.Call (.Name (Str.ofString "str") p1) [.Name (Str.ofString rN) p2] [] p3) [.Eq] [.Constant (.str m) k1 p4] p5,.Compare (.Name (Str.ofString sN) p6) [.Eq] [.Name (Str.ofString dN) p7] p8] p9)) p0] ph] [] [] pt::xs):=by
 intro A env ρ W fx0 fx σ s Q Z rm ew pa o er S h
 refine qH (hpa _ _ pa) fun hfr hf=>?_
 have h:=ay.sat_calm.mp (ay.sat_bind.mp (ay.sat_bind.mp h))
 refine wpAny_execs_cons (wpAny_Try_except (wpAny_execs_cons (wpAny_Expr ?_ (by unfold interactive;rw[ew.kind];rfl) (iU rfl))))
 refine wpAny_Call_Name_kw (dF K S ew.toEnvW N.ik N.ig ?_ (by decide))
 refine aA FI.ob fun oI hob hdat=>?_
 refine callWith_function_kw (o:=oI) (fd:=fdI) ?_
 rw[show backToKw pc (keywordEach [kwd] env)=[(some (Str.ofString "key"),do let v←eval (.Name (Str.ofString kN) q12) env;standAt pc;pure v)] by rw[hkw];rfl,bn hst]
 refine evalArgs_kw rfl ?_
 show wpAny _ _ (spliced [(false,eval ax env),(false,eval xx env),(false,eval lox env)]) _ _ _
 refine spliced_cons (ha A env ρ W fx σ s _ _ rm ew.toEnvW er S (ay.sat_mono h (fun u h W1 u1 s1 l1 S1 R1=>?_) fun _ _ f=>f.elim))
 have er1:=er.le l1 fun _ _ e=>e
 refine spliced_cons (hx A env ρ W1 fx _ s1 _ _ rm ew.toEnvW er1 S1 (ay.sat_mono (ay.sat_calm.mp (ay.sat_bind.mp h)) (fun v h W2 u2 s2 l2 S2 R2=>?_) fun _ _ f=>f.elim))
 have er2:=er1.le l2 fun _ _ e=>e
 refine spliced_cons (hl A env ρ W2 fx _ s2 _ _ rm ew.toEnvW er2 S2 (ay.sat_mono (ay.sat_calm.mp (ay.sat_bind.mp h)) (fun y h W3 u3 s3 l3 S3 R3=>?_) fun _ _ f=>f.elim))
 have er3:=er2.le l3 fun _ _ e=>e
 refine spliced_nil (so h fun i hi h=>so h fun c hc h=>ob hc fun kv hkv hc=>Es h fun hi0 h=>scalm h fun z hz h=>so h fun vs hvs h=>so h fun vd hvd h=>so h fun bb hbb h3=>?_)
 rw[qc hc] at hkv
 show wpAny _ _ (evalAll [do let v←eval (.Name (Str.ofString kN) q12) env;standAt pc;pure v]) _ _ _
 refine wpAny_bind (wpAny_bind (rP (s:=s3) ew.toEnvW er3 S3 hkv N.k1 N.k2 N.kk fun u4 R4=>wpAny_bind (wpAny_standAt (wpAny_pure (wpAny_bind (wpAny_holding (wpAny_pure (wpAny_pure ⟨⟨S3.keepP _ _ (S3.base _ _ hob),hdat⟩,?_⟩))))))))
 have l03:=(l1.trans l2).trans l3
 refine qL (A:=A) (frames:=[env]) (v1:=z.1) (σ':=z.2) K hcl FB B FI I N.vg hgB rm hn hfr (fun env' hm'=>(List.mem_singleton.mp hm').symm▸o.frame ew hf) S3 hi0 (R1.le (l2.trans l3)) (R2.le l3) (pD hi▸R3) R4 hz (fun s' hb=>hbindI s' _ _ _ _ hb) hbindB fun W4 e s'' l4 hfl=>?_
 exact Fp K N rm hfr hf ew (o.wd (l03.trans l4)) (er3.le l4 fun _ _ e=>e) hvs hvd hm hml hbb hfl fun s' S'=>h3 W4 fx0 s' (l03.trans l4) (fun _ _ e=>e) S' _ oS
end
end Mine
end
section
namespace Mine
open PySem PySem.W PyProof.Rows PySem.SeqAt PySem.Calls
section
variable{prog:Program}{w:World}{os:OsState}{C:Ctx}{call:aw}{n k:Nat}{X:aH}{base:Fz}{IC:Addr}{LD:Nat→Option dh}{tabs:List (Addr×PySem.Str)}{sc:Scope}{mg mb:PySem.Str→Option Value}{K:Frag}
theorem s_biG{f:String}{v:Value}{es:List Mine.E}{xs:List Expr}{p pos:Pos}(KH:aK (ai base IC LD tabs) mg mb)(hK: ∀a o,K.lookup a=some o→base a=some o)(hk:sc.names.lookup (Str.ofString f)=some .globalImplicit)
  (hg:mg (Str.ofString f)=some v)(hd:(Str.ofString f==("__debug__" :PySem.Str))=false)(hp:xs.any aR=false)(hkp:keepIn K v=true)
  (hc:f8 prog w (ai base IC LD tabs) os n f v)(h:SL prog w (ai base IC LD tabs) os C call n X sc es xs):SE prog w (ai base IC LD tabs) os C call n X sc (.bi f es) (.Call (.Name (Str.ofString f) p) xs [] pos):=by
 intro A env ρ W fx σ s Q Z rm ew er S hs
 refine Call_Name rfl (dF KH S ew hk hg ?_ hd)
 refine callWith_of (P:=K.In) (by rw[dH hp];rfl) (keeps_K hkp) (cJ hp ?_)
 refine h.then rm ew er S hs (fun _ _ x=>x) fun q W' vals s' hq l S' R er' h'=>⟨iz hK S',?_⟩
 exact so h' fun r e hr=>hc A W' fx q.2 s' q.1 vals r Q Z rm S' R e fun W2 val s2 l2 S2 R2=>hr W2 val s2 (l.trans l2) S2 R2
end
end Mine
end
section
namespace Mine
open PySem PySem.W PyProof.Rows PySem.SeqAt PySem.Calls
noncomputable def vK(o:Option NameKind):Bool:=o==some .local||(o==some .cell||o==some .free)
noncomputable def gK(o:Option NameKind):Bool:=o==some .globalImplicit
noncomputable def DB(sc:Scope)(x:String):Bool:=vK (sc.names.lookup (Str.ofString x))&&(!(Str.ofString x==("__debug__" :PySem.Str))&&!(Str.ofString x==("__classdict__" :PySem.Str)))
noncomputable def tB(sc:Scope)(x:String):Bool:=gK (sc.names.lookup (Str.ofString x))&&(!(Str.ofString x==("__debug__" :PySem.Str))&&!(Str.ofString x==("__name__" :PySem.Str)))
theorem mP{b:Bool}(h:(!b)=true):b=false:=by
 cases b with
 |true=>cases h
 |false=>rfl
theorem gK_eq{o:Option NameKind}(h:gK o=true):o=some .globalImplicit:=eq_of_beq h
theorem bor{a b:Bool}(h:(a||b)=true):a=true∨b=true:=by rwa[Bool.or_eq_true] at h
theorem DC{o:Option NameKind}(h:vK o=true):o=some .local∨o=some .cell∨o=some .free:=(bor h).imp eq_of_beq fun h=>(bor h).imp eq_of_beq eq_of_beq
theorem bh{sc:Scope}{x:String}(h:tB sc x=true):sc.names.lookup (Str.ofString x)=some .globalImplicit:=aY h fun a _=>gK_eq a
theorem ji{sc:Scope}{x:String}(h:tB sc x=true):(Str.ofString x==("__debug__" :PySem.Str))=false:=aY h fun _ b=>aY b fun b _=>mP b
theorem ru{sc:Scope}{x:String}(h:tB sc x=true):Str.ofString x≠("__name__" :PySem.Str):=aY h fun _ b=>aY b fun _ b=>ne_of_beq_false (mP b)
theorem me{sc:Scope}{x:String}(h:DB sc x=true):sc.names.lookup (Str.ofString x)=some .local∨sc.names.lookup (Str.ofString x)=some .cell∨sc.names.lookup (Str.ofString x)=some .free:=aY h fun a _=>DC a
theorem wQ{sc:Scope}{x:String}(h:DB sc x=true):(Str.ofString x==("__debug__" :PySem.Str))=false:=aY h fun _ b=>aY b fun b _=>mP b
theorem wR{sc:Scope}{x:String}(h:DB sc x=true):(Str.ofString x==("__classdict__" :PySem.Str))=false:=aY h fun _ b=>aY b fun _ b=>mP b
noncomputable def kF(k:NameKind):Bool:=k== .free
noncomputable def D4(sc scope:Scope)(t:T)(tx:Expr):Bool:=
 decide (scope.kind= .function)&&(decide (scope.names.map (·.1)).Nodup&&(nR (aS scope) t tx&&
 ((aS scope).names.all (fun p=>if CQ (some p.2) then((j3 t).map Str.ofString).contains p.1 else !(kF p.2&&((j3 t).map Str.ofString).contains p.1))&&
 (scope.names.all (fun p=>!kF p.2||vK (sc.names.lookup p.1)&&!(sc.names.lookup p.1==some .local))&&(bU scope.more).isNone))))
theorem aQ{sc scope:Scope}{t:T}{tx:Expr}(h:D4 sc scope t tx=true):f7 sc scope t tx:=aY h fun h1 h=>aY h fun h2 h=>aY h fun h3 h=>aY h fun h5 h=>aY h fun h6 h7=>by
 refine⟨of_decide_eq_true h1,of_decide_eq_true h2,h3,fun x hx=>?_,fun x hx hm=>?_,fun x hx=>?_,?_⟩
 ·have e:=List.all_eq_true.mp h5
  have mem:((j3 t).map Str.ofString).contains (Str.ofString x)=true:=hx.elim (fun hx=>e _ (d7 hx)) fun hx=>e _ (d7 hx)
  exact aA (List.mem_map.mp (List.contains_iff_mem.mp mem)) fun z hz e=>ch e▸hz
 ·have e:=mP (List.all_eq_true.mp h5 _ (d7 hx))
  exact nomatch e.symm.trans (List.contains_iff_mem.mpr (List.mem_map_of_mem hm))
 ·have e:=List.all_eq_true.mp h6 _ (d7 hx)
  exact aY e fun a b=>(DC a).elim (fun q=>absurd (beq_iff_eq.mpr q) (Bool.eq_false_iff.mp (mP b))) id
 ·exact Option.isNone_iff_eq_none.mp h7
noncomputable def pj:List T→Option (List String)
 |[]=>some []
 |t::r=>match t with
  | .name x=>(pj r).bind fun l=>some (x::l)
  | .tup _=>none
theorem nC: ∀{ts:List T} {ns:List String},pj ts=some ns→ts=ns.map .name
 |[],ns,h=>by rw[←Option.some.inj h];rfl
 |t::r,ns,h=>by
  cases t with
  |name x=>exact ob h fun l hl h=>by rw[←Option.some.inj h,nC hl];rfl
  |tup _=>exact dA h
noncomputable def swB(sc:Scope)(tt:List T)(ts vs:List Expr):Bool:=
 (swS sc ts vs).any fun o=>o.elim (oz sc tt ts) fun l=>(pj tt).any fun ns=>l==ns.map Str.ofString&&(ns.all (fun x=>cV sc (Str.ofString x))&&decide ns.Nodup)
noncomputable abbrev kD(mg:PySem.Str→Option Value):Prop:= ∀x:String,["len", "sum", "min", "ord", "abs", "str", "list", "zip", "tuple", "range", "enumerate", "sorted", "isinstance", "ValueError"].contains x=true→mg (Str.ofString x)=none
section
variable{prog:Program}{w:World}{H:bg}{os:OsState}{C:Ctx}{call:aw}{n k:Nat}{X:aH}{sc:Scope}{mg mb:PySem.Str→Option Value}{PA:Around→PySem.Env→Prop}
theorem s_v{x:String}{pos:Pos}(h:DB sc x=true):SE prog w H os C call n X sc (.var x) (.Name (Str.ofString x) pos):=tX (wQ h) (wR h) (me h)
theorem bI{t:T}{e:Mine.E}{x:PySem.Str}{p:Pos}{y:Expr}{pos:Pos}(ht:nR sc t (.Name x p)=true)(hc:sL y=false)(he:SE prog w H os C call n X sc e y):SS prog w H os C call n k X sc (.asg t e) (.Assign [.Name x p] y pos):=
 xl ht (fun _ _=>oH.trans (iU hc)) (fun _ _=>rU) he
theorem jA{t:T}{e:Mine.E}{x:PySem.Str}{p vpos:Pos}{y:Expr}{pos:Pos}{scope:Scope}(ht:nR sc t (.Name x p)=true)(hc:mM y=some (scope,vpos))(hb:vS sc x p vpos scope=false)(he:SE prog w H os C call n X sc e y):SS prog w H os C call n k X sc (.asg t e) (.Assign [.Name x p] y pos):=
 xl ht (fun _ ew=>(wZ ew hc).trans (congrArg pure hb)) (fun _ _=>rU) he
theorem oO{tt:List T}{e:Mine.E}{ts:List Expr}{k1:Nat}{p1:Pos}{y:Expr}{pos:Pos}(ht:oz sc tt ts=true)(hn:(B9 y).isSome=false)(he:SE prog w H os C call n X sc e y):
  SS prog w H os C call n k X sc (.asg (.tup tt) e) (.Assign [.Tuple ts k1 p1] y pos):=
 xl ht (fun _ _=>oF) (fun _ _=>tP hn) he
theorem dZ{tt:List T}{e:Mine.E}{ts vs:List Expr}{k1 k2:Nat}{p1 p2 pos:Pos}(h:swB sc tt ts vs=true)(he:SE prog w H os C call n X sc e (.Tuple vs k2 p2)):
  SS prog w H os C call n k X sc (.asg (.tup tt) e) (.Assign [.Tuple ts k1 p1] (.Tuple vs k2 p2) pos):=by
 refine y9 h fun o hs h=>?_
 cases o with
 |none=>exact xl (t:= .tup tt) (x:= .Tuple ts k1 p1) h (fun _ _=>oF) (fun _ ew=>zU ew.toEnvW ew.scope hs) he
 |some l=>
   refine y9 h fun ns hns h=>aY h fun h1 h=>aY h fun h2 h3=>?_
   rw[nC hns]
   exact yV (by rw[hs,beq_iff_eq.mp h1]) (fun x hx=>List.all_eq_true.mp h2 x hx) (of_decide_eq_true h3) he
theorem vZ{scope:Scope}{y:String}{t:T}{tx elt x:Expr}{el it co:Mine.E}{ifs:List Expr}{p pos spos:Pos}(hy:cV sc (Str.ofString y)=true)(hb:vS sc (Str.ofString y) p pos scope=true)
  (K:D4 sc scope t tx=true)(hs: ∀env v,foldedSetIterable x env v=pure v)(hi:SI prog w H os C call n X sc tx it x)
  (hel:SE prog w H os C call n X (aS scope) el elt)(hco:(co= .no∧ifs=[])∨ ∃c,ifs=[c]∧ST prog w H os C call n X (aS scope) co c):
  SS prog w H os C call n k X sc (.asg (.name y) (.lcomp el t it co)) (.Assign [.Name (Str.ofString y) p] (.ListComp elt [⟨tx,x,ifs,0⟩] scope pos) spos):=
 yW hy (fun _ ew=>(wZ ew rfl).trans (congrArg pure hb)) (aQ K) hs hi hel hco
theorem jU{es:List Mine.E}{xs:List Expr}{p pos:Pos}(K:aK H mg mb)(B:kD mg)(g:tB sc "len" =true)(hp:xs.any aR=false)(h:SL prog w H os C call n X sc es xs):SE prog w H os C call n X sc (.bi "len" es) (.Call (.Name (Str.ofString "len") p) xs [] pos):=
 yU K (bh g) (B "len" rfl) (by decide+kernel) (ru g) (ji g) hp (.inl ⟨_,rfl⟩) c_len h
theorem tY{es:List Mine.E}{xs:List Expr}{p pos:Pos}(K:aK H mg mb)(B:kD mg)(g:tB sc "sum" =true)(hp:xs.any aR=false)(h:SL prog w H os C call n X sc es xs):SE prog w H os C call n X sc (.bi "sum" es) (.Call (.Name (Str.ofString "sum") p) xs [] pos):=
 yU K (bh g) (B "sum" rfl) (by decide+kernel) (ru g) (ji g) hp (.inl ⟨_,rfl⟩) c_sum h
theorem s_min{es:List Mine.E}{xs:List Expr}{p pos:Pos}(K:aK H mg mb)(B:kD mg)(g:tB sc "min" =true)(hp:xs.any aR=false)(h:SL prog w H os C call n X sc es xs):SE prog w H os C call n X sc (.bi "min" es) (.Call (.Name (Str.ofString "min") p) xs [] pos):=
 yU K (bh g) (B "min" rfl) (by decide+kernel) (ru g) (ji g) hp (.inl ⟨_,rfl⟩) c_min h
theorem s_ord{es:List Mine.E}{xs:List Expr}{p pos:Pos}(K:aK H mg mb)(B:kD mg)(g:tB sc "ord" =true)(hp:xs.any aR=false)(h:SL prog w H os C call n X sc es xs):SE prog w H os C call n X sc (.bi "ord" es) (.Call (.Name (Str.ofString "ord") p) xs [] pos):=
 yU K (bh g) (B "ord" rfl) (by decide+kernel) (ru g) (ji g) hp (.inl ⟨_,rfl⟩) c_ord h
theorem s_abs{es:List Mine.E}{xs:List Expr}{p pos:Pos}(K:aK H mg mb)(B:kD mg)(g:tB sc "abs" =true)(hp:xs.any aR=false)(h:SL prog w H os C call n X sc es xs):SE prog w H os C call n X sc (.bi "abs" es) (.Call (.Name (Str.ofString "abs") p) xs [] pos):=
 yU K (bh g) (B "abs" rfl) (by decide+kernel) (ru g) (ji g) hp (.inl ⟨_,rfl⟩) c_abs h
theorem Ex{es:List Mine.E}{xs:List Expr}{p pos:Pos}(K:aK H mg mb)(B:kD mg)(g:tB sc "list" =true)(hp:xs.any aR=false)(h:SL prog w H os C call n X sc es xs):SE prog w H os C call n X sc (.bi "list" es) (.Call (.Name (Str.ofString "list") p) xs [] pos):=
 yU K (bh g) (B "list" rfl) (by decide+kernel) (ru g) (ji g) hp (.inr ⟨_,rfl⟩) Ft h
structure CF(prog:Program)(w:World)(H:bg)(os:OsState)(call:aw)(n:Nat)(X:aH)(mg:PySem.Str→Option Value)(f:String)(a:Addr):Prop where
 g:mg (Str.ofString f)=some (.ref a)
 ob: ∃o fd,H.base a=some o∧o.data= .func fd
 c:cm prog w H os call n X f a
theorem s_c{f:String}{a:Addr}{es:List Mine.E}{xs:List Expr}{p pos:Pos}(c:CF prog w H os call n X mg f a)(K:aK H mg mb)(g:tB sc f=true)(hp:xs.any aR=false)(h:SL prog w H os C call n X sc es xs):
  SE prog w H os C call n X sc (.call f es .no) (.Call (.Name (Str.ofString f) p) xs [] pos):=
 qt c.ob fun o fd q=>Cv K (bh g) c.g ⟨o,q⟩ (ji g) hp c.c h
theorem s_ck{f:String}{a:Addr}{es:List Mine.E}{key:Mine.E}{xs:List Expr}{x:Expr}{p pos:Pos}{kwd:Keyword}(c:CF prog w H os call n X mg f a)(hkf:f∈kg)(K:aK H mg mb)(g:tB sc f=true)(hp:xs.any aR=false)(h0:xs≠[])(h:SL prog w H os C call n X sc es xs)
  (hx:SE prog w H os C call n X sc key x)(hkw: ∀env,keywordEach [kwd] env=[(some (Str.ofString "key"),eval x env)]):SE prog w H os C call n X sc (.call f es key) (.Call (.Name (Str.ofString f) p) xs [kwd] pos):=
 qt c.ob fun o fd q=>Cu (kp:=pos) hkf K (bh g) c.g ⟨o,q⟩ (ji g) hp h0 c.c h hx hkw
end
structure f9(p:Prop):Prop where
 out:p
section
variable{prog:Program}{w:World}{H:bg}{os:OsState}{C:Ctx}{call:aw}{n k:Nat}{X:aH}{sc:Scope}{PA:Around→PySem.Env→Prop}{mg mb:PySem.Str→Option Value}
theorem bS:f9 (SL prog w H os C call n X sc [] []):=⟨aq⟩
theorem av{e:Mine.E}{x:Expr}{es:List Mine.E}{xs:List Expr}(hs:aR x=false)(he:f9 (SE prog w H os C call n X sc e x))(hr:f9 (SL prog w H os C call n X sc es xs)):f9 (SL prog w H os C call n X sc (e::es) (x::xs)):=⟨aa hs he.out hr.out⟩
theorem dp{es:List Mine.E}{xs:List Expr}{k:Nat}{pos:Pos}(h:f9 (SL prog w H os C call n X sc es xs))(hl:es.length≤cP):f9 (SE prog w H os C call n X sc (.tup es) (.Tuple xs k pos)):=⟨bA h.out hl⟩
theorem Bz{es:List Mine.E}{xs:List Expr}{pos:Pos}(h:f9 (SL prog w H os C call n X sc es xs))(hl:es.length≤cP):f9 (SE prog w H os C call n X sc (.lst es) (.List xs pos)):=⟨iK h.out hl⟩
theorem Fx{es:List Mine.E}{xs:List Expr}{pos:Pos}(h:f9 (SL prog w H os C call n X sc es xs))(hl:es.length≤cP):f9 (SE prog w H os C call n X sc (.lstM es) (.List xs pos)):=⟨mt h.out hl⟩
theorem bH{i:Int}{k:Nat}{pos:Pos}:f9 (SE prog w H os C call n X sc (.cst (.int i)) (.Constant (.int i) k pos)):=⟨an⟩
theorem Ea{a:Mine.E}{x:Expr}{pos:Pos}(ha:f9 (SE prog w H os C call n X sc a x)):f9 (SE prog w H os C call n X sc (.neg a) (.UnaryOp .USub x pos)):=⟨nq ha.out⟩
theorem iQ{x:List Nat}{y:PySem.Str}{k:Nat}{pos:Pos}(e:y=⟨x.toArray⟩)(hl:x.length≤cP):f9 (SE prog w H os C call n X sc (.cst (.str x)) (.Constant (.str y) k pos)):=⟨oM e hl⟩
theorem b_ret{e:Mine.E}{x:Expr}{pos:Pos}(he:f9 (SE prog w H os C call n X sc e x)):f9 (SS prog w H os C call n k X sc (.ret e) (.Return (some x) pos)):=⟨b9 he.out⟩
theorem BD{tt:List T}{e:Mine.E}{ts vs:List Expr}{k1 k2:Nat}{p1 p2 pos:Pos}(h:swB sc tt ts vs=true)(he:f9 (SE prog w H os C call n X sc e (.Tuple vs k2 p2))):
  f9 (SS prog w H os C call n k X sc (.asg (.tup tt) e) (.Assign [.Tuple ts k1 p1] (.Tuple vs k2 p2) pos)):=⟨dZ h he.out⟩
theorem By:f9 (SF prog w H os C call n k X PA sc [] []):=⟨eJ aD⟩
theorem bu{b:S}{x:Stmt}{bs:List S}{xs:List Stmt}(h1:f9 (SS prog w H os C call n k X sc b x))(h2:f9 (SF prog w H os C call n k X PA sc bs xs)):f9 (SF prog w H os C call n k X PA sc (b::bs) (x::xs)):=⟨nY h1.out h2.out⟩
theorem tf{cd:Nat×PySem.Str}(hcd: ∀A env,PA A env→env.code= .ref cd.1∧env.qual=cd.2){x:String}{bs:List S}{xs:List Stmt}(hk:sc.names.lookup (Str.ofString x)=some .cell)(hg:sc.names.lookup (Str.ofString (eQ x))=none)
  (hm:bU sc.more≠none∨ ∀y,sc.names.lookup y≠some .free)(h2:f9 (SF prog w H os C call n k X PA (ip cd (Str.ofString x) sc) bs xs)):f9 (SF prog w H os C call n k X PA sc (.seal x::bs) xs):=⟨se hcd hk hg hm h2.out⟩
theorem mn{f:String}{a:Addr}{fd:FuncData}{body:List Stmt}{fn:Fn}{P:zC}(K:aK H mg mb)(hf:P.fns.lookup f=some fn)(hkf:f∈kg→fn.key=true)(D:yw prog w H a fd body fn)
  (hb:f9 (SF prog w H os P.toCtx (ak P n) n n XT PA fd.scope fn.body body))(hpa: ∀A env,env.frame=some env.locals→env.scope=fd.scope→env.code=fd.code→env.qual=fd.qualname++ ".<locals>." →PA A env):cm prog w H os (ak P (n+1)) (n+1) X f a:=
 zY K hf hkf D hb.out hpa
end
section
variable{prog:Program}{w:World}{os:OsState}{C:Ctx}{call:aw}{n k:Nat}{X:aH}{base:Fz}{IC:Addr}{LD:Nat→Option dh}{tabs:List (Addr×PySem.Str)}{sc:Scope}{PA:Around→PySem.Env→Prop}{mg mb:PySem.Str→Option Value}{m:PySem.Str}
theorem Fw{aB aI:Addr}{fdB fdI:FuncData}{bodyB bodyI:List Stmt}{ae xe loe:Mine.E}{ax xx lox:Expr}{kN sN dN rN:String}{bs:List S}{xs:List Stmt}{kwd:Keyword}{q12 pc pi pe pv p1 p2 p3 p4 p5 p6 p7 p8 p9 p0 ph pt:Pos}{k1:Nat}{ms:List Nat}
  (K:aK (ai base IC LD tabs) mg mb)(hcl:qp prog w os call n base IC LD tabs)(FB:lX (ai base IC LD tabs) aB fdB bodyB)(B:jx fdB bodyB m)(FI:lX (ai base IC LD tabs) aI fdI bodyI)(I:lW fdI bodyI)
  (N:lS sc mg kN sN dN rN aI)(hgB:mg (Str.ofString "bisect_left")=some (.ref aB))(hn:2≤n)(hpa: ∀A env,PA A env→A.frames=some [env]∧env.frame=some env.locals)(hm:m=⟨ms.toArray⟩)(hml:ms.length≤cP)
  (ha:SE prog w (ai base IC LD tabs) os C call n X sc ae ax)(hx:SE prog w (ai base IC LD tabs) os C call n X sc xe xx)(hl:SE prog w (ai base IC LD tabs) os C call n X sc loe lox)(hst:[ax,xx,lox].any aR=false)
  (hkw: ∀env,keywordEach [kwd] env=[(some (Str.ofString "key"),eval (.Name (Str.ofString kN) q12) env)])
  (hbindI: ∀(s':Shared) u1 u2 u3 u4,(∀b o,base b=some o→s'.heap.get? b=some o)→BindsTo s' fdI ⟨[u1,u2,u3],[(Str.ofString "key",u4)]⟩ ((["a", "x", "lo", "hi", "key"].map Str.ofString).zip [u1,u2,u3,.none,u4]))
  (hbindB: ∀(s':Shared) u1 u2 u3 u4 u5,(∀b o,base b=some o→s'.heap.get? b=some o)→BindsTo s' fdB ⟨[u1,u2,u3,u4],[(Str.ofString "key",u5)]⟩ ((["a", "x", "lo", "hi", "key"].map Str.ofString).zip [u1,u2,u3,u4,u5])):
  f9 (SF prog w (ai base IC LD tabs) os C call n k X PA sc (.tryIns ae xe loe kN sN dN::bs) (.Try [.Expr (.Call (.Name (Str.ofString "insort_left") pi) [ax,xx,lox] [kwd] pc) pe] [.ExceptHandler (some (.Name "ValueError" pv)) (some (Str.ofString rN))
   [.Return (some (.BoolOp .And [.Compare (.Call (.Name (Str.ofString "str") p1) [.Name (Str.ofString rN) p2] [] p3) [.Eq] [.Constant (.str m) k1 p4] p5,.Compare (.Name (Str.ofString sN) p6) [.Eq] [.Name (Str.ofString dN) p7] p8] p9)) p0] ph] [] [] pt::xs)):=
 ⟨Ev K hcl FB B FI I N hgB hn hpa hm hml ha hx hl hst hkw hbindI hbindB⟩
end
end Mine
end
section
namespace Mine
open PySem PySem.W PyProof.Rows
abbrev RW:=PySem.Challenge.rw_xh0029_01
abbrev PW:=PySem.Challenge.pw_xh0029_01
theorem zf{p q:Program}{loose:List Str}{Xt:Shared→Bool}{α:Type}{Yf:Shared→α}{Ya:World→α}{N m₀:Nat}{g0:Bool}{ann:Option Value}
  (e:opening p=plainProg p.main.scope.names)(hN:Nat.ble 600 N=true)(f: ∀s,fenceModules? p s=some s)
  (size: ∀w:World,((boot_heap w.params).isNs mainGlobals,(boot_heap w.params).objs.size,(boot_heap w.params).nsMap mainGlobals "__annotations__")=(true,m₀,ann))
  (h: ∀(w:World) (os:OsState),(topRun treeTable p w m₀ ann N ⟨boot_heap w.params,Array.mk [],boot_drawn,boot_toks,os⟩ (topStub p)).map (fun s=>((staticsOk (importedModules p.main.body) (boot_heap w.params) s.heap&&namesBound p s.heap&&gensDone s&&laidKept (boot_heap w.params) s.heap),
    openSeen q loose (importedModules p.main.body) Xt g0 s,Yf s))=some (true,openGood q loose,Ya w)):LeftO p q loose Xt Yf Ya N g0:=fun w=>by
 obtain⟨⟨hp,gs,d,k,os⟩,e1,e2⟩:=Option.map_eq_some_iff.mp (boot_open e hN f w)
 obtain⟨rfl,rfl,rfl,rfl⟩:hp=boot_heap w.params∧gs=Array.mk []∧d=boot_drawn∧k=boot_toks:=by simpa using e2
 obtain⟨z1,z2,z3⟩:_∧_∧_:=by simpa only [Prod.mk.injEq] using size w
 obtain⟨s,r1,r2⟩:=Option.map_eq_some_iff.mp (h w os)
 obtain⟨l1,l2,l3⟩:_∧_∧_:=by simpa only [Prod.mk.injEq] using r2
 have t:topFrom treeTable p w N ⟨boot_heap w.params,Array.mk [],boot_drawn,boot_toks,os⟩=some s:=by
  unfold topFrom
  dsimp only
  rw[z1,z2,z3,r1]
  show(match staticsOk _ _ _&&_&&_&&_ with|true=>_|false=>_)=_
  rw[l1]
 unfold openEnds
 rw[e1]
 show(topFrom treeTable p w N _).map _=_
 rw[t]
 exact congrArg some (Prod.ext l2 l3)
end Mine
end
section
namespace Mine
open PySem PySem.W PyProof.Rows
noncomputable def sv(x:String)(t:Nat):Value:= .str (Str.ofString x) t
noncomputable def en(P:Params)(x:String)(t:Nat)(v:Value):DictEntry:={hash:=PyData.keyHash P (Str.ofString x),key:=sv x t,val:=v}
noncomputable def ei(P:Params)(p:String×Nat×Nat×Nat):DictEntry:=en P p.1 p.2.1 (.int p.2.2.1 p.2.2.2)
noncomputable def er(P:Params)(p:String×Nat×Nat):DictEntry:=en P p.1 p.2.1 (.ref p.2.2)
noncomputable def tu(vs:List Value):Obj:={cls:= .type "tuple",data:= .seq vs.toArray}
noncomputable def di(es:List DictEntry)(n:Nat):Obj:={cls:= .type "dict",data:= .dict es.toArray n}
noncomputable def co(x q:String)(t l a k r:Nat)(v:Bool)(z:Nat):Obj:={cls:= .type "code",data:= .fields (#[sv x t,sv q (t+1),sv "/claim/cut.py" (t+2),.int l 0,.int a 0,.int 0 0,.int k 0,.int 3 0,.ref r,.bool true,.int 181 0,.ref (r+1),.none,if v then .ref (r+2) else .none,if v then .ref (r+3) else .none,.ref (if v then r+4 else r+2),.int z 0,.int l 0,sv "/claim/cut.py" (z+1)])}
noncomputable def fdOf(q:String)(df kw pm:Value)(c:Nat):Stmt→FuncData
 | .FunctionDef n ps b _ _ _ sc _ _ _=>{name:=n,qualname:=Str.ofString q,params:=ps,body:= .stmts b,scope:=sc,globals:=3,closure:=[],defaults:=df,kwdefaults:=kw,pyModule:=pm,code:= .ref c}
 |_=>default
noncomputable def stA(l:List Stmt)(i:Nat):Stmt:=l.getD i default
noncomputable def rR(i:Nat):Stmt:=stA PW.main.body i
noncomputable def inC(i:Nat):Stmt:=match rR 4 with
 | .ClassDef _ _ _ b .. =>stA b i
 |s=>s
noncomputable def fu(q:String)(df kw pm:Value)(c:Nat)(s:Stmt):Obj:={cls:= .type "function",data:= .func (fdOf q df kw pm c s)}
noncomputable def gl(P:Params):List DictEntry:=[en P "__name__" 165 (sv "law_xh0029_01" 509),en P "__doc__" 166 (.none),en P "__package__" 167 (.none),en P "__loader__" 168 (.builtin "__main__.__loader__#opaque"),en P "__spec__" 169 (.none),en P "__annotations__" 170 (.ref 6),en P "__builtins__" 171 (.ref 4),en P "__file__" 173 (sv "/claim/cut.py" 172),en P "__cached__" 174 (.none)]++([("insort_left",201,23),("bisect_left",215,32),("TupleComp",259,56),("add_func_stats",277,67),("add_callers",288,74)].map (er P)++([("ENDMARKER",292,0,291),("LPAR",294,7,293),("RPAR",296,8,295),("LSQB",298,9,297),("RSQB",300,10,299),("COLON",302,11,301),("COMMA",304,12,303),("SEMI",306,13,305),("PLUS",308,14,307),("MINUS",310,15,309),("STAR",312,16,311),("SLASH",314,17,313),("VBAR",316,18,315),("AMPER",318,19,317),("LESS",320,20,319),("GREATER",322,21,321),("EQUAL",324,22,323),("DOT",326,23,325),("PERCENT",328,24,327),("LBRACE",330,25,329),("RBRACE",332,26,331),("EQEQUAL",334,27,333),("NOTEQUAL",336,28,335),("LESSEQUAL",338,29,337),("GREATEREQUAL",340,30,339),("TILDE",342,31,341),("CIRCUMFLEX",344,32,343),("LEFTSHIFT",346,33,345),("RIGHTSHIFT",348,34,347),("DOUBLESTAR",350,35,349),("PLUSEQUAL",352,36,351),("MINEQUAL",354,37,353),("STAREQUAL",356,38,355),("SLASHEQUAL",358,39,357),("PERCENTEQUAL",360,40,359),("AMPEREQUAL",362,41,361),("VBAREQUAL",364,42,363),("CIRCUMFLEXEQUAL",366,43,365),("LEFTSHIFTEQUAL",368,44,367),("RIGHTSHIFTEQUAL",370,45,369),("DOUBLESTAREQUAL",372,46,371),("DOUBLESLASH",374,47,373),("DOUBLESLASHEQUAL",376,48,375),("AT",378,49,377),("ATEQUAL",380,50,379),("RARROW",382,51,381),("ELLIPSIS",384,52,383),("COLONEQUAL",386,53,385),("EXCLAMATION",388,54,387),("NT_OFFSET",390,256,389)].map (ei P)++([("EXACT_TOKEN_TYPES",487,75),("ISTERMINAL",494,84),("ISNONTERMINAL",501,91),("ISEOF",508,98),("_law_signs",516,105),("_law_formula",522,110),("_law_node",537,117),("_law_parts",546,124),("_law_joined",552,129),("_law_run",558,134),("_law_drawing",569,141),("_law_told",575,146),("_law_below",581,151),("_law_rests",587,156),("law",593,161)].map (er P))))
noncomputable def tkL:List (String×Nat×Nat×Nat):=[("!",391,54,387),("!=",393,28,335),("%",395,24,327),("%=",397,40,359),("&",399,19,317),("&=",401,41,361),("(",403,7,293),(")",405,8,295),("*",407,16,311),("**",409,35,349),("**=",411,46,371),("*=",413,38,355),("+",415,14,307),("+=",417,36,351),(",",419,12,303),("-",421,15,309),("-=",423,37,353),("->",425,51,381),(".",427,23,325),("...",429,52,383),("/",431,17,313),("//",433,47,373),("//=",435,48,375),("/=",437,39,357),(":",439,11,301),(":=",441,53,385),(";",443,13,305),("<",445,20,319),("<<",447,33,345),("<<=",449,44,367),("<=",451,29,337),("=",453,22,323),("==",455,27,333),(">",457,21,321),(">=",459,30,339),(">>",460,34,347),(">>=",461,45,369),("@",462,49,377),("@=",463,50,379),("[",464,9,297),("]",465,10,299),("^",466,32,343),("^=",467,43,365),("{",468,25,329),("|",469,18,315),("|=",470,42,363),("}",471,26,331),("~",472,31,341)]
noncomputable def tk(P:Params):List DictEntry:=tkL.map (ei P)
noncomputable def K0(P:Params):Frag:=[(3,di (gl P) 79),
 (15,tu [.int 0 189,.none]),
 (16,di [en P "key" 190 .none] 1),
 (22,co "insort_left" "insort_left" 191 2 4 1 17 true 199),
 (23,fu "insort_left" (.ref 15) (.ref 16) (sv "cpy313.bisect" 187) 22 (rR 1)),
 (24,tu [.int 0 202,.none]),
 (25,di [en P "key" 203 .none] 1),
 (31,co "bisect_left" "bisect_left" 204 8 4 1 26 true 213),
 (32,fu "bisect_left" (.ref 24) (.ref 25) (sv "cpy313.bisect" 187) 31 (rR 2)),
 (45,co "__init__" "TupleComp.__init__" 230 31 2 0 40 true 235),
 (46,fu "TupleComp.__init__" .none .none (sv "cpy313.pstats" 216) 45 (inC 0)),
 (52,co "compare" "TupleComp.compare" 238 34 3 0 47 true 248),
 (53,fu "TupleComp.compare" .none .none (sv "cpy313.pstats" 216) 52 (inC 1)),
 (55,di [en P "__module__" 225 (sv "cpy313.pstats" 216),en P "__firstlineno__" 229 (.int 29 228),en P "__init__" 237 (.ref 46),en P "compare" 250 (.ref 53),en P "__static_attributes__" 252 (.ref 54),en P "__dict__" 254 (.ref 57),en P "__weakref__" 256 (.ref 58),en P "__doc__" 257 (.none)] 4),
 (56,{cls:= .type "type",data:= .cls {name:=Str.ofString "TupleComp",bases:=[.type "object"],mro:=[.ref 56,.type "object"],ns:=55,qualname:=Str.ofString "TupleComp" },slots:=#[none,none,some (sv "TupleComp" 218),some (sv "TupleComp" 226),some (.builtin "object.__new__"),some (.bool true)]}),
 (66,co "add_func_stats" "add_func_stats" 260 43 2 0 61 true 275),
 (67,fu "add_func_stats" .none .none (sv "cpy313.pstats" 216) 66 (rR 5)),
 (73,co "add_callers" "add_callers" 278 47 2 0 68 true 286),
 (74,fu "add_callers" .none .none (sv "cpy313.pstats" 216) 73 (rR 6)),
 (75,di (tk P) 48),
 (83,co "ISTERMINAL" "ISTERMINAL" 488 112 1 0 78 true 492),
 (84,fu "ISTERMINAL" .none .none (sv "cpy313.token" 289) 83 (rR 59)),
 (90,co "ISNONTERMINAL" "ISNONTERMINAL" 495 114 1 0 85 true 499),
 (91,fu "ISNONTERMINAL" .none .none (sv "cpy313.token" 289) 90 (rR 60)),
 (97,co "ISEOF" "ISEOF" 502 116 1 0 92 true 506),
 (98,fu "ISEOF" .none .none (sv "cpy313.token" 289) 97 (rR 61)),
 (104,co "_law_signs" "_law_signs" 511 119 0 0 99 true 514),
 (105,fu "_law_signs" .none .none (sv "law_xh0029_01" 509) 104 (rR 63)),
 (109,co "_law_formula" "_law_formula" 517 121 1 0 106 false 520),
 (110,fu "_law_formula" .none .none (sv "law_xh0029_01" 509) 109 (rR 64)),
 (116,co "_law_node" "_law_node" 523 133 4 0 111 true 535),
 (117,fu "_law_node" .none .none (sv "law_xh0029_01" 509) 116 (rR 65)),
 (123,co "_law_parts" "_law_parts" 538 143 3 0 118 true 544),
 (124,fu "_law_parts" .none .none (sv "law_xh0029_01" 509) 123 (rR 66)),
 (128,co "_law_joined" "_law_joined" 547 145 4 0 125 false 550),
 (129,fu "_law_joined" .none .none (sv "law_xh0029_01" 509) 128 (rR 67)),
 (133,co "_law_run" "_law_run" 553 151 3 0 130 false 556),
 (134,fu "_law_run" .none .none (sv "law_xh0029_01" 509) 133 (rR 68)),
 (140,co "_law_drawing" "_law_drawing" 559 163 5 0 135 true 567),
 (141,fu "_law_drawing" .none .none (sv "law_xh0029_01" 509) 140 (rR 69)),
 (145,co "_law_told" "_law_told" 570 167 4 0 142 false 573),
 (146,fu "_law_told" .none .none (sv "law_xh0029_01" 509) 145 (rR 70)),
 (150,co "_law_below" "_law_below" 576 176 2 0 147 false 579),
 (151,fu "_law_below" .none .none (sv "law_xh0029_01" 509) 150 (rR 71)),
 (155,co "_law_rests" "_law_rests" 582 185 3 0 152 false 585),
 (156,fu "_law_rests" .none .none (sv "law_xh0029_01" 509) 155 (rR 72)),
 (160,co "law" "law" 588 190 1 0 157 false 591),
 (161,fu "law" .none .none (sv "law_xh0029_01" 509) 160 (rR 73))]
noncomputable def as0:List Addr:=[3,15,16,22,23,24,25,31,32,45,46,52,53,55,56,66,67,73,74,75,83,84,90,91,97,98,104,105,109,110,116,117,123,124,128,129,133,134,140,141,145,146,150,151,155,156,160,161]
end Mine
end
section
namespace Mine
open PySem PySem.W PyProof.Rows
noncomputable def q0:Program:=view PW [73]
noncomputable def mB:List PySem.Str:=PW.boundNames.filter fun x=>x !=Str.ofString "law"
noncomputable def Xt0(s:Shared):Bool:=xlAt q0 [] s&&recOk (RowW.records RW.row.toRowW) s
noncomputable def Ba:Hook:=kmHook K0 as0 (fun _=>by kernel_rfl) [69,112,158]
theorem op0:opening PW=plainProg PW.main.scope.names:=by kernel_rfl
theorem fe0(s:Shared):fenceModules? PW s=some s:=by kernel_rfl
theorem sz0(w:World):((boot_heap w.params).isNs mainGlobals,(boot_heap w.params).objs.size,(boot_heap w.params).nsMap mainGlobals "__annotations__")=(true,11,some (.ref 6)):=by kernel_rfl
noncomputable def runs(w:World)(os:OsState):Prop:=(topRun treeTable PW w 11 (some (.ref 6)) 3000 ⟨boot_heap w.params,Array.mk [],boot_drawn,boot_toks,os⟩ (topStub PW)).map (fun s=>((staticsOk (importedModules PW.main.body) (boot_heap w.params) s.heap&&namesBound PW s.heap&&gensDone s&&laidKept (boot_heap w.params) s.heap),
    openSeen q0 mB (importedModules PW.main.body) Xt0 true s,Ba.obs s))=some (true,openGood q0 mB,Ba.val w)
theorem run0(w:World)(os:OsState)(b:Bool):runs (w.withFollow "special-get-raises" b) os:=by
 unfold runs
 rw[PySem.W.Fast.te14082659384304107361,PySem.W.Fast.te14364793385576792824,PySem.W.Fast.te4187177175401517315]
 cases b<;>kernel_rfl
theorem left0:LeftO PW q0 mB Xt0 Ba.obs Ba.val 3000 true:=
 zf op0 (by decide) fe0 sz0 fun w os=>by
  have e:=World.withFollow_self w "special-get-raises"
  have r:=run0 w os (w.params.followText "special-get-raises")
  rw[e] at r
  exact r
end Mine
end
section
namespace Mine
open PySem PySem.W PyProof.Rows
theorem said0:OpenLaw.wellSaid RW=true:=by kernel_rfl
theorem hd{d:DefRec}{kwd:List (PySem.Str×Expr)}(hdef:defOf q0 RW.row.name=some (d,kwd))(hp:RW.row.prog.theDef RW.row.name=some (d.params,d.body,d.scope))(hk:kwWritten? d.params.kwonlyargs d.params.kw_defaults=some kwd)
  (h:WalkO q0 mB (XL q0 []) Ba.says RW.row.toRowW d kwd fun f vs=>PySem.call f vs):RW.Holds:=by
 refine holds_law said0 fun said=>?_
 refine holds_open (q:=q0) (loose:=mB) (Xt:=Xt0) (XP:=XL q0 []) (Yf:=Ba.obs) (Ya:=Ba.val) (YP:=Ba.says) (N:=3000) left0 Ba.of Ba.keeps (fun s e=>xl_of s (Bool.and_eq_true_iff.mp e).1) XL.keeps hdef hp hk (fun s e=>recFacts_of (Bool.and_eq_true_iff.mp e).2) (by rfl) said ?_ ⟨rfl,rfl,rfl,rfl,rfl,?_⟩ ?_ h
 ·kernel_rfl
 ·decide+kernel
 ·w_witness2
end Mine
end
section
namespace Mine
open PySem PySem.W PyProof.Rows PySem.SeqAt PySem.Calls
noncomputable abbrev fy(a:Addr):={fd:FuncData// ∀p,(K0 p).lookup a=some {cls:= .type "function",data:= .func fd}}
noncomputable abbrev iH(fd:FuncData):={b:List Stmt//fd.body= .stmts b}
noncomputable def bJ:fy 23:=⟨_,fun p=>rfl⟩
noncomputable def bK:fy 32:=⟨_,fun p=>rfl⟩
noncomputable def Bg:fy 46:=⟨_,fun p=>rfl⟩
noncomputable def cu:fy 53:=⟨_,fun p=>rfl⟩
noncomputable def cZ:fy 67:=⟨_,fun p=>rfl⟩
noncomputable def eC:fy 74:=⟨_,fun p=>rfl⟩
noncomputable def ft:fy 84:=⟨_,fun p=>rfl⟩
noncomputable def dy:fy 91:=⟨_,fun p=>rfl⟩
noncomputable def om:fy 98:=⟨_,fun p=>rfl⟩
noncomputable def gv:fy 105:=⟨_,fun p=>rfl⟩
noncomputable def eA:fy 110:=⟨_,fun p=>rfl⟩
noncomputable def iB:fy 117:=⟨_,fun p=>rfl⟩
noncomputable def gA:fy 124:=⟨_,fun p=>rfl⟩
noncomputable def fl:fy 129:=⟨_,fun p=>rfl⟩
noncomputable def jG:fy 134:=⟨_,fun p=>rfl⟩
noncomputable def eB:fy 141:=⟨_,fun p=>rfl⟩
noncomputable def iA:fy 146:=⟨_,fun p=>rfl⟩
noncomputable def gB:fy 151:=⟨_,fun p=>rfl⟩
noncomputable def gy:fy 156:=⟨_,fun p=>rfl⟩
noncomputable def uQ:fy 161:=⟨_,fun p=>rfl⟩
noncomputable def dj:iH bJ.1:=⟨_,rfl⟩
noncomputable def dl:iH bK.1:=⟨_,rfl⟩
noncomputable def e8:iH cu.1:=⟨_,rfl⟩
noncomputable def gW:iH cZ.1:=⟨_,rfl⟩
noncomputable def jR:iH eC.1:=⟨_,rfl⟩
noncomputable def kG:iH ft.1:=⟨_,rfl⟩
noncomputable def iI:iH dy.1:=⟨_,rfl⟩
noncomputable def wO:iH om.1:=⟨_,rfl⟩
noncomputable def mX:iH gv.1:=⟨_,rfl⟩
noncomputable def jP:iH eA.1:=⟨_,rfl⟩
noncomputable def ii:iH iB.1:=⟨_,rfl⟩
noncomputable def mZ:iH gA.1:=⟨_,rfl⟩
noncomputable def kE:iH fl.1:=⟨_,rfl⟩
noncomputable def qT:iH jG.1:=⟨_,rfl⟩
noncomputable def jQ:iH eB.1:=⟨_,rfl⟩
noncomputable def ox:iH iA.1:=⟨_,rfl⟩
noncomputable def m7:iH gB.1:=⟨_,rfl⟩
noncomputable def mY:iH gy.1:=⟨_,rfl⟩
noncomputable def wM:iH uQ.1:=⟨_,rfl⟩
noncomputable def lamF(q:PySem.Str)(fv:List String):Expr→Option dh
 | .Lambda a b sc _=>some ⟨a,b,sc,q,fv⟩
 |_=>none
noncomputable def xM(q:PySem.Str)(fv:List String)(l:List Stmt):Option dh:=Builtin.CodeAhead.firstStmts true (lamF q fv) (fun _=>none) l
noncomputable def d0:{d:dh//xM "_law_node.<locals>.<lambda>" ["comp", "new"] (ii.1.drop 3)=some d}:=⟨⟨_,_,_,_,_⟩,rfl⟩
noncomputable def d1:{d:dh//xM "_law_node.<locals>.<lambda>" ["comp", "new"] (ii.1.drop 4)=some d}:=⟨⟨_,_,_,_,_⟩,rfl⟩
noncomputable def d2:{d:dh//xM "law.<locals>.<lambda>" ["keys"] (wM.1.drop 14)=some d}:=⟨⟨_,_,_,_,_⟩,rfl⟩
noncomputable def d3:{d:dh//xM "law.<locals>.<lambda>" ["comp", "twin"] (wM.1.drop 19)=some d}:=⟨⟨_,_,_,_,_⟩,rfl⟩
noncomputable def cB:Nat→Option dh
 |0=>some d0.1
 |1=>some d1.1
 |2=>some d2.1
 |3=>some d3.1
 |_=>none
noncomputable def aJ:List (Addr×PySem.Str):=[(69, "add_callers.<locals>.<genexpr>"),(112, "_law_node.<locals>.<lambda>"),(158, "law.<locals>.<lambda>")]
noncomputable def es0(p:Params):Array DictEntry:=match(K0 p).lookup 3 with|some ⟨_,_,.dict es _,_⟩=>es|_=>#[]
noncomputable def vF(p:Params):PySem.Str→Option Value:=fun x=>nsFind (es0 p) x
structure Pl(w:World)(base:Fz)(mb:PySem.Str→Option Value):Prop where
 K:aK (ai base 56 cB aJ) (vF w.params) mb
 hK: ∀a o,(K0 w.params).lookup a=some o→base a=some o
 bm: ∃o,base 4=some o∧o.cls= .type "module" ∧o.dict=some builtinsNs∧o.data= .plain
theorem B0{p:Params}:kD (vF p):=fun x h=>by
 have k: ∀l:List String,(l.all fun x=>(vF p (Str.ofString x)).isNone)=true→l.contains x=true→vF p (Str.ofString x)=none:=fun l h1 h2=>Option.isNone_iff_eq_none.mp (List.all_eq_true.mp h1 x (List.contains_iff_mem.mp h2))
 exact k _ (by kernel_rfl) h
theorem Dc{p:Params}:vF p (Str.ofString "NT_OFFSET")=some (.int 256 389):=by kernel_rfl
theorem Bc{p:Params}:vF p (Str.ofString "ENDMARKER")=some (.int 0 291):=by kernel_rfl
theorem ya{p:Params}:vF p "__builtins__" =some (.ref 4):=by kernel_rfl
theorem Db{p:Params}:vF p (Str.ofString "TupleComp")=some (.ref 56):=by kernel_rfl
theorem D7{p:Params}:codeHdIn (K0 p) 73 69=true:=by kernel_rfl
theorem wz{p:Params}:codeHdIn (K0 p) 116 112=true:=by kernel_rfl
theorem wy{p:Params}:codeHdIn (K0 p) 160 158=true:=by kernel_rfl
noncomputable def AK(sc:Scope):Bool:=sc.names.all fun p=>!kF p.2
theorem g7{sc:Scope}(h:AK sc=true): ∀y,sc.names.lookup y≠some .free:=fun y e=>nomatch (List.all_eq_true.mp h _ (d7 e):(!kF .free)=true)
theorem fC{cd:Nat×PySem.Str}:bU (mark cd)=some cd:=by
 show(if("#" :PySem.Str)= "#" then some (cd.1,cd.2) else none)=_
 exact if_pos rfl
theorem uniqB{l:List (Addr×PySem.Str)}{t:Addr×PySem.Str}(h:(l.all fun u=>l.all fun t=>t.1 !=u.1||t.2==u.2)=true)(ht:t∈l): ∀u∈l,u.1=t.1→u.2=t.2:=fun u hu e=>
 (bor (List.all_eq_true.mp (List.all_eq_true.mp h t ht) u hu)).elim (fun q=>absurd e (bne_iff_ne.mp q)) beq_iff_eq.mp
theorem yF{P:Addr}{q:PySem.Str}(h:(P,q)∈aJ): ∀t∈aJ,t.1=P→t.2=q:=uniqB (by kernel_rfl) h
section
variable{w:World}{base:Fz}{mb:PySem.Str→Option Value}{sc:Scope}
noncomputable def fK(o:Option NameKind):Bool:=o==some .free
noncomputable def lamB(sc:Scope)(d:dh):Bool:=
 d.scope.names.all (fun x=>!kF x.2||fK (sc.names.lookup x.1))&&d.fv.all (fun y=>fK (sc.names.lookup (Str.ofString y))&&d.scope.names.contains (Str.ofString y,.free))
theorem DU(L:Pl w base mb){c:Nat×PySem.Str}{P:Addr}{q:PySem.Str}(hm:bU sc.more=some c)(ht:(P,q)∈aJ)(hc:codeHdIn (K0 w.params) c.1 P=true)(h4:(4:Addr)≠P)(h3:mainGlobals≠P):
  vz (ai base 56 cB aJ) (vF w.params) sc c P q:=
 cN L.bm fun o b=>⟨hm,ht,yF ht,fun h on=>codeHd_of_K (fun a o e=>on _ _ (L.hK _ _ e)) hc,h3,⟨4,o,ya,by decide,by decide,h4,b⟩⟩
theorem xN{d:dh}{c:Nat×PySem.Str}{P:Addr}(L:Pl w base mb)(hm:bU sc.more=some c)(ht:(P,d.qual)∈aJ)(hc:codeHdIn (K0 w.params) c.1 P=true)(h4:(4:Addr)≠P)(h3:mainGlobals≠P)(hb:lamB sc d=true):Eg base aJ (vF w.params) sc c P d:=
 have G:=DU (sc:=sc) L hm ht hc h4 h3
 aY hb fun b1 b2=>⟨hm,ht,G.uniq,G.hd,h3,G.bm,fun x hx hf=>(bor (List.all_eq_true.mp b1 x hx)).elim (fun q=>nomatch (hf▸q:(!kF .free)=true)) eq_of_beq,fun y hy=>aY (List.all_eq_true.mp b2 y hy) fun t1 t2=>⟨eq_of_beq t1,List.contains_iff_mem.mp t2⟩⟩
end
end Mine
end
section
namespace Mine
open PySem PySem.W PyProof.Rows PySem.SeqAt PySem.Calls
theorem Do{k:List Nat}{x:String}:(Str.ofString x==(⟨k.toArray⟩:PySem.Str))=(k==nm x):=by
 have e:Str.ofString x=⟨(nm x).toArray⟩:=Str.ofString_eq_toList x
 rw[e]
 by_cases h:k=nm x
 ·rw[h,beq_self_eq_true,beq_self_eq_true]
 ·rw[beq_eq_false_iff_ne.mpr h]
  exact beq_eq_false_iff_ne.mpr fun q=>h (congrArg (fun s:PySem.Str=>s.cps.toList) q).symm
theorem wV{P:Params}{k:List Nat}: ∀l:List (String×Nat×Nat×Nat),((l.map fun p=>(nm p.1,(p.2.2.1:Int))).lookup k=none→((l.map (ei P)).find? fun e=>Value.isStrOf ⟨k.toArray⟩ e.key).map (·.val)=none)∧
  ∀i,(l.map fun p=>(nm p.1,(p.2.2.1:Int))).lookup k=some i→ ∃t,((l.map (ei P)).find? fun e=>Value.isStrOf ⟨k.toArray⟩ e.key).map (·.val)=some (.int i t)
 |[]=>⟨fun _=>rfl,fun i h=>dA h⟩
 |p::r=>by
  have hs:Value.isStrOf ⟨k.toArray⟩ (ei P p).key=(k==nm p.1):=Do
  rw[List.map_cons,List.map_cons,List.lookup_cons,List.find?_cons,hs]
  cases k==nm p.1 with
  |true=>exact⟨fun q=>(nomatch q),fun i q=>⟨p.2.2.2,by rw[←Option.some.inj q];rfl⟩⟩
  |false=>exact wV r
theorem zP{pg:Program}{w:World}{base:Fz}{mb:PySem.Str→Option Value}(L:Pl w base mb):vt pg w (ai base 56 cB aJ) (vF w.params) prog.ext 75:=by
 have hx:prog.ext=tkL.map fun p=>(nm p.1,(p.2.2.1:Int)):=by kernel_rfl
 refine⟨by kernel_rfl,by decide,⟨_,_,_,L.hK 75 (di (tk w.params) 48) (by kernel_rfl),⟨rfl,rfl,rfl⟩,rfl,fun e he=>?_,fun k=>?_⟩⟩
 ·refine aA (List.mem_map.mp (List.mem_toArray.mp he)) fun p _ e=>?_
  rw[←e]
  exact⟨Str.ofString p.1,beq_self_eq_true _,rfl⟩
 ·have e:findBy (strKind pg w).is (tk w.params).toArray ⟨k.toArray⟩=((tk w.params).find? fun e=>Value.isStrOf ⟨k.toArray⟩ e.key).map (·.val):=by
   unfold findBy
   rw[List.find?_toArray]
   rfl
  rw[e,hx]
  exact wV tkL
theorem C9{w:World}{base:Fz}{mb:PySem.Str→Option Value}(L:Pl w base mb):BN base 46 Bg.1 where
 ob:=⟨_,L.hK _ _ (Bg.2 _),rfl⟩
 body:=⟨_,_,_,_,rfl⟩
 code:=by
  exact⟨45,co "__init__" "TupleComp.__init__" 230 31 2 0 40 true 235,_,231,rfl,L.hK _ _ (by kernel_rfl),rfl,rfl⟩
 bind:=fun u v=>by rfl
 names:=rfl
 co:=rfl
 gen:=rfl
 kind:=rfl
theorem tc_ok{pg:Program}{w:World}{os:OsState}{base:Fz}{mb:PySem.Str→Option Value}{n:Nat}(L:Pl w base mb):f8 pg w (ai base 56 cB aJ) os n "TupleComp" (.ref 56):=
 vj (K:=K0 w.params) L.K L.hK (by kernel_rfl) (by kernel_rfl) (by kernel_rfl) (C9 L) (by kernel_rfl) (by kernel_rfl) (by kernel_rfl) (by kernel_rfl)
section
variable{pg:Program}{w:World}{os:OsState}{C:Ctx}{call:aw}{n k:Nat}{X:aH}{base:Fz}{sc:Scope}{mb:PySem.Str→Option Value}
theorem Af{pos:Pos}(L:Pl w base mb)(g:tB sc "NT_OFFSET" =true):SE pg w (ai base 56 cB aJ) os C call n X sc (.gint "NT_OFFSET" 256) (.Name (Str.ofString "NT_OFFSET") pos):=Ad L.K (bh g) Dc (ji g)
theorem s_END{pos:Pos}(L:Pl w base mb)(g:tB sc "ENDMARKER" =true):SE pg w (ai base 56 cB aJ) os C call n X sc (.gint "ENDMARKER" 0) (.Name (Str.ofString "ENDMARKER") pos):=Ad L.K (bh g) Bc (ji g)
theorem s_TC{es:List Mine.E}{xs:List Expr}{p pos:Pos}(L:Pl w base mb)(g:tB sc "TupleComp" =true)(hp:xs.any aR=false)(h:SL pg w (ai base 56 cB aJ) os C call n X sc es xs):
  SE pg w (ai base 56 cB aJ) os C call n X sc (.bi "TupleComp" es) (.Call (.Name (Str.ofString "TupleComp") p) xs [] pos):=
 s_biG (K:=K0 w.params) L.K L.hK (bh g) Db (ji g) hp (by kernel_rfl) (tc_ok L) h
theorem yS{o a b:Mine.E}{x y z:Expr}{ap pos:Pos}(L:Pl w base mb)(hb:k9 x=true)(hy:aR y=false)(hz:aR z=false)(hline:(ap.endLine==pos.line)=true)
  (hc:cm pg w (ai base 56 cB aJ) os call n X "TupleComp.compare" 53)(ho:SE pg w (ai base 56 cB aJ) os C call n X sc o x)(ha:SE pg w (ai base 56 cB aJ) os C call n X sc a y)(hbb:SE pg w (ai base 56 cB aJ) os C call n X sc b z):
  SE pg w (ai base 56 cB aJ) os C call n X sc (.compare o a b) (.Call (.Attribute x "compare" ap) [y,z] [] pos):=
 yT (K:=K0 w.params) (f:=53) L.hK (by kernel_rfl) (by kernel_rfl) (by kernel_rfl) ⟨_,L.hK _ _ (cu.2 _),rfl⟩ hb hy hz hline hc ho ha hbb
theorem s_sl{o:Mine.E}{x:Expr}{pos:Pos}(L:Pl w base mb)(ho:SE pg w (ai base 56 cB aJ) os C call n X sc o x)
  (he: ∀env,eval (.Attribute x "comp_select_list" pos) env=(do
   let o←eval x env
   standAt pos.atName
   let r←holding [o] (getAttr o "comp_select_list" true)
   letTemporaryGo x o r
   pure r)):SE pg w (ai base 56 cB aJ) os C call n X sc (.selfList o) (.Attribute x "comp_select_list" pos):=
 vX (K:=K0 w.params) L.hK (by kernel_rfl) (by kernel_rfl) (by kernel_rfl) ho he
end
end Mine
end
section
namespace Mine
open PySem PySem.W PyProof.Rows PySem.SeqAt PySem.Calls
theorem ac{α:Type}{P:α→Prop}{a:α}{l:List α}(h:P a)(t: ∀x∈l,P x): ∀x∈a::l,P x:=List.forall_mem_cons.mpr ⟨h,t⟩
noncomputable def pG:List (String×Addr):=[("insort_left",23),("bisect_left",32),("add_func_stats",67),("add_callers",74),("ISTERMINAL",84),("ISNONTERMINAL",91),("ISEOF",98),("_law_signs",105),("_law_formula",110),("_law_node",117),("_law_parts",124),
 ("_law_joined",129),("_law_run",134),("_law_drawing",141),("_law_told",146),("_law_below",151),("_law_rests",156)]
noncomputable def ObT(P:Params)(q:String×Addr):Prop:= ∃fd,(K0 P).lookup q.2=some {cls:= .type "function",data:= .func fd}
theorem EK{P:Params}: ∀q∈pG,ObT P q:=
 ac ⟨_,bJ.2 P⟩ (ac ⟨_,bK.2 P⟩ (ac ⟨_,cZ.2 P⟩ (ac ⟨_,eC.2 P⟩ (ac ⟨_,ft.2 P⟩ (ac ⟨_,dy.2 P⟩ (ac ⟨_,om.2 P⟩ (ac ⟨_,gv.2 P⟩ (ac ⟨_,eA.2 P⟩ (ac ⟨_,iB.2 P⟩ (ac ⟨_,gA.2 P⟩
  (ac ⟨_,fl.2 P⟩ (ac ⟨_,jG.2 P⟩ (ac ⟨_,eB.2 P⟩ (ac ⟨_,iA.2 P⟩ (ac ⟨_,gB.2 P⟩ (ac ⟨_,gy.2 P⟩ (List.forall_mem_nil _)))))))))))))))))
theorem EQ{P:Params}:pG.map (fun q=>vF P (Str.ofString q.1))=pG.map fun q=>some (.ref q.2):=by kernel_rfl
structure Calls(pg:Program)(w:World)(os:OsState)(base:Fz)(n:Nat):Prop where
 c: ∀f a,pG.lookup f=some a→cm pg w (ai base 56 cB aJ) os (ak prog n) n XT f a
 cmp:cm pg w (ai base 56 cB aJ) os (ak prog n) n XT "TupleComp.compare" 53
 clo:qp pg w os (ak prog n) n base 56 cB aJ
 calm: ∀k ws l σ,ak prog n (.clo k ws) l .none σ=(ak prog n (.clo k ws) l .none σ).calm
noncomputable def dg:Around→PySem.Env→Prop:=fun _ _=>True
noncomputable def wG:Around→PySem.Env→Prop:=fun _ env=>env.code= .ref 73∧env.qual= "add_callers.<locals>."
noncomputable def Dy:Around→PySem.Env→Prop:=fun _ env=>env.code= .ref 116∧env.qual= "_law_node.<locals>."
noncomputable def BL:Around→PySem.Env→Prop:=fun A env=>(env.code= .ref 160∧env.qual= "law.<locals>.")∧A.frames=some [env]∧env.frame=some env.locals
section
variable{pg:Program}{w:World}{os:OsState}{n:Nat}{base:Fz}{mb:PySem.Str→Option Value}{X:aH}{sc:Scope}{f:String}{es:List Mine.E}{xs:List Expr}{p pos:Pos}
theorem D6{a:Addr}(L:Pl w base mb)(HC:Calls pg w os base n)(h:pG.lookup f=some a):CF pg w (ai base 56 cB aJ) os (ak prog n) n XT (vF w.params) f a:=
 ⟨List.map_inj_left.mp EQ (f,a) (d7 h),(EK (f,a) (d7 h)).elim fun fd e=>⟨_,fd,L.hK _ _ e,rfl⟩,HC.c f a h⟩
noncomputable def fcB(sc:Scope)(f:String):Bool:=tB sc f&&(pG.lookup f).isSome
theorem fA(L:Pl w base mb)(HC:Calls pg w os base n)(hp:xs.any aR=false)(h:SL pg w (ai base 56 cB aJ) os prog.toCtx (ak prog n) n XT sc es xs)(hb:fcB sc f=true:=by kernel_rfl):
  SE pg w (ai base 56 cB aJ) os prog.toCtx (ak prog n) n XT sc (.call f es .no) (.Call (.Name (Str.ofString f) p) xs [] pos):=
 aY hb fun g h2=>(Option.isSome_iff_exists.mp h2).elim fun a e=>s_c (D6 L HC e) L.K g hp h
theorem tZ{key:Mine.E}{x:Expr}{kwd:Keyword}(L:Pl w base mb)(HC:Calls pg w os base n)(hp:xs.any aR=false)(h0:xs≠[])(h:SL pg w (ai base 56 cB aJ) os prog.toCtx (ak prog n) n XT sc es xs)
  (hx:SE pg w (ai base 56 cB aJ) os prog.toCtx (ak prog n) n XT sc key x)(hkw: ∀env,keywordEach [kwd] env=[(some (Str.ofString "key"),eval x env)])(hb:(fcB sc f&&kg.contains f)=true:=by kernel_rfl):
  SE pg w (ai base 56 cB aJ) os prog.toCtx (ak prog n) n XT sc (.call f es key) (.Call (.Name (Str.ofString f) p) xs [kwd] pos):=
 aY hb fun hb hk=>aY hb fun g h2=>(Option.isSome_iff_exists.mp h2).elim fun a e=>s_ck (D6 L HC e) (List.contains_iff_mem.mp hk) L.K g hp h0 h hx hkw
noncomputable def BA:Nat→(List Value→Prop)→Prop
 |0,P=>P []
 |n+1,P=> ∀v,BA n fun l=>P (v::l)
theorem ba: ∀{l:List Value} {P:List Value→Prop},BA l.length P→P l
 |[],_,h=>h
 |v::l,P,h=>ba (P:=fun l=>P (v::l)) ((h: ∀v,BA l.length fun l=>P (v::l)) v)
theorem nL: ∀{ps:List String} {ds:List (Option V)} {args:List V} {ρ:Env},ds.all (·.isNone)=true→fe ps ds args=some ρ→args.length=ps.length∧ρ.map (·.2)=args
 |[],ds,vs,ρ,_,h=>qG h fun hc e=>by rw[List.isEmpty_iff.mp hc,←e];exact⟨rfl,rfl⟩
 |x::r,[],args,ρ,_,h=>dA h
 |x::r,d::ds,v::vs,ρ,hd,h=>ob h fun b hb h=>by
  rw[←Option.some.inj h]
  have q:=nL (aY hd fun _ z=>z) hb
  exact⟨congrArg (· +1) q.1,congrArg (v:: ·) q.2⟩
 |x::r,d::ds,[],ρ,hd,h=>ob h fun v hv _=>dA ((Option.isNone_iff_eq_none.mp (aY hd fun z _=>z)).symm.trans hv)
noncomputable def fnB(fd:FuncData):Bool:=!fd.scope.isCoroutine&&(!fd.scope.isGenerator&&(decide (fd.globals=mainGlobals)&&(decide (fd.builtins=builtinsNs)&&(fd.closure.isEmpty&&(decide (fd.scope.kind= .function)&&
  (decide (fd.scope.names.map (·.1)).Nodup&&(AK fd.scope&&(bU fd.scope.more).isNone)))))))
noncomputable def ownB(sc:Scope)(ps:List String):Bool:=decide ps.Nodup&&ps.all (fun x=>cV sc (Str.ofString x))
noncomputable def mW(P:Params)(fd:FuncData):Prop:= ∃c oc vs tq,fd.code= .ref c∧(K0 P).lookup c=some oc∧oc.data= .fields vs∧vs[1]? =some (.str fd.qualname tq)
theorem lG{a:Addr}{body:List Stmt}(L:Pl w base mb)(f:fy a)(hb:f.1.body= .stmts body)(hc:mW w.params f.1)(h:fnB f.1=true):lX (ai base 56 cB aJ) a f.1 body:=
 aY h fun h1 h=>aY h fun h2 h=>aY h fun h3 h=>aY h fun h4 h=>aY h fun h5 h=>aY h fun h6 h=>aY h fun h7 h=>aY h fun h8 h9=>
 ⟨⟨_,L.hK _ _ (f.2 _),rfl⟩,mP h1,mP h2,hb,un hc fun c oc vs tq q=>⟨c,oc,vs,tq,q.1,L.hK _ _ q.2.1,q.2.2⟩,of_decide_eq_true h3,of_decide_eq_true h4,List.isEmpty_iff.mp h5,of_decide_eq_true h6,of_decide_eq_true h7,g7 h8,Option.isNone_iff_eq_none.mp h9⟩
noncomputable def defB(fd:FuncData)(fn:Fn):Bool:=fnB fd&&(ownB fd.scope fn.params&&(!fn.key&&fn.dflt.all (·.isNone)))
theorem Fc{a:Addr}{body:List Stmt}{fn:Fn}(L:Pl w base mb)(F:fy a)(hb:F.1.body= .stmts body)(hc:mW w.params F.1)(hB:defB F.1 fn=true)
  (hv:BA fn.params.length fun vals=> ∀S,peek (K0 w.params) S (bindArgs F.1 ⟨vals,[]⟩)=some ((fn.params.map Str.ofString).zip vals)):yw pg w (ai base 56 cB aJ) a F.1 body fn:=
 aY hB fun h1 h=>aY h fun h2 h=>aY h2 fun n1 n2=>aY h fun h3 h4=>
 have nk {P:Prop} (h:fn.key=true):P:=nomatch h.symm.trans (mP h3)
 ⟨lG L F hb hc h1,of_decide_eq_true n1,nk,fun x hx=>List.all_eq_true.mp n2 x hx,nk,fun W fx σ os s args vals ρ kw S R hbp=>⟨fun _ hkw=>by
  have q:=nL h4 hbp
  rw[hkw,q.2]
  refine⟨vals,R,?_⟩
  have hn:(ρ.map fun p=>Str.ofString p.1)=fn.params.map Str.ofString:=by rw[←eU hbp,List.map_map];rfl
  rw[hn]
  rw[←q.1,←R.length] at hv
  exact kp_binds (iz L.hK S) (ba hv),nk⟩⟩
theorem fc{a:Addr}{body:List Stmt}{fn:Fn}{PA:Around→PySem.Env→Prop}(L:Pl w base mb)(F:fy a)(hb:F.1.body= .stmts body)(hc:mW w.params F.1)(hl:prog.fns.lookup f=some fn)(hB:(defB F.1 fn&&!kg.contains f)=true)
  (hv:BA fn.params.length fun vals=> ∀S,peek (K0 w.params) S (bindArgs F.1 ⟨vals,[]⟩)=some ((fn.params.map Str.ofString).zip vals))(hw:f9 (SF pg w (ai base 56 cB aJ) os prog.toCtx (ak prog n) n n XT PA F.1.scope fn.body body))
  (hpa: ∀A env,env.frame=some env.locals→env.scope=F.1.scope→env.code=F.1.code→env.qual=F.1.qualname++ ".<locals>." →PA A env):cm pg w (ai base 56 cB aJ) os (ak prog (n+1)) (n+1) XT f a:=
 aY hB fun h1 h2=>mn L.K hl (fun h=>nomatch (mP h2).symm.trans (List.contains_iff_mem.mpr h)) (Fc L F hb hc h1 hv) hw hpa
noncomputable def BK(P:Params)(f:FuncData)(vals us:List Value):Prop:= ∀S,peek (K0 P) S (bindArgs f ⟨vals,[]⟩)=some ((["a", "x", "lo", "hi", "key"].map Str.ofString).zip (us++[.none]))∧
 ∀k,peek (K0 P) S (bindArgs f ⟨vals,[(Str.ofString "key",k)]⟩)=some ((["a", "x", "lo", "hi", "key"].map Str.ofString).zip (us++[k]))
structure BK3(P:Params)(f:FuncData)(tk:Tok):Prop where
 h2: ∀v u,BK P f [v,u] [v,u,.int 0 tk,.none]
 h3: ∀v u t,BK P f [v,u,t] [v,u,t,.none]
 h4: ∀v u t c,BK P f [v,u,t,c] [v,u,t,c]
theorem bindK{H:bg}{W:Wd}{P:Params}{fd:FuncData}{tk:Tok}(B:BK3 P fd tk){args:List V}{ρ:Env}{vals:List Value}(R:ar pg w H W args vals)(h:fe ["a", "x", "lo", "hi"] [.none,.none,some (.int 0),some .none] args=some ρ):
  ∃us,ar pg w H W (ρ.map (·.2)) us∧BK P fd vals us:=
 match args,h,R with
 |[],h,_=>dA h
 |x::l,h,R=>match l,h,R with
  |[],h,_=>dA h
  |y::l,h,R=>match l,h,R with
   |[],h,R=>by
    rw[←Option.some.inj h]
    apply CM vals R;intro v u r1 r2
    exact⟨_,ar.cons r1 (ar.cons r2 (ar.cons cr (ar.cons eM ar.nil))),B.h2 v u⟩
   |z::l,h,R=>match l,h,R with
    |[],h,R=>by
     rw[←Option.some.inj h]
     apply cy vals R;intro v q r1 R
     apply CM q R;intro u t r2 r3
     exact⟨_,ar.cons r1 (ar.cons r2 (ar.cons r3 (ar.cons eM ar.nil))),B.h3 v u t⟩
    |c::l,h,R=>match l,h,R with
     |[],h,R=>by
      rw[←Option.some.inj h]
      apply cy vals R;intro v q r1 R
      apply cy q R;intro u q r2 R
      apply CM q R;intro t b r3 r4
      exact⟨_,ar.cons r1 (ar.cons r2 (ar.cons r3 (ar.cons r4 ar.nil))),B.h4 v u t b⟩
     |_::_,h,_=>dA h
theorem rA{a:Addr}{body:List Stmt}{b:List S}{tk:Tok}(L:Pl w base mb)(F:fy a)(hb:F.1.body= .stmts body)(hc:mW w.params F.1)(hB:(fnB F.1&&ownB F.1.scope ["a", "x", "lo", "hi", "key"])=true)(B:BK3 w.params F.1 tk):
  yw pg w (ai base 56 cB aJ) a F.1 body {params:=["a", "x", "lo", "hi"],dflt:=[.none,.none,some (.int 0),some .none],key:=true,body:=b}:=
 aY hB fun h1 h=>aY h fun _ n2=>
 ⟨lG L F hb hc h1,(by decide:["a", "x", "lo", "hi"].Nodup),fun _=>(by decide: "key" ∉["a", "x", "lo", "hi"]),fun x hx=>List.all_eq_true.mp n2 x (List.mem_append_left ["key"] hx),fun _=>List.all_eq_true.mp n2 "key" (by decide),fun W fx σ os s args vals ρ kw S R hbp=>⟨fun h=>(nomatch h),fun _ kv (hkw:kw=[]∧kv= .none∨kw=[(Str.ofString "key",kv)])=>aA (bindK B R hbp) fun us r q=>⟨us,r,by
  have e:(ρ.map fun p=>Str.ofString p.1)=["a", "x", "lo", "hi"].map Str.ofString:=by
   have q:ρ.map (·.1)=["a", "x", "lo", "hi"]:=eU hbp
   rw[←q,List.map_map];rfl
  rw[e]
  refine kp_binds (iz L.hK S) fun S=>?_
  refine hkw.elim (fun z=>?_) fun z=>?_
  ·rw[z.1,z.2];exact(q S).1
  ·rw[z];exact(q S).2 kv⟩⟩⟩
end
end Mine
end
section
set_option maxHeartbeats 4000000
namespace Mine
open PySem PySem.W PyProof.Rows PySem.SeqAt PySem.Calls
section
variable{pg:Program}{w:World}{os:OsState}{C:Ctx}{call:aw}{n:Nat}{X:aH}{base:Fz}{sc:Scope}{mb:PySem.Str→Option Value}
theorem v{x:String}{pos:Pos}(h:DB sc x=true:=by kernel_rfl):SE pg w (ai base 56 cB aJ) os C call n X sc (.var x) (.Name (Str.ofString x) pos):=s_v h
theorem sG{cd:Nat×PySem.Str}:bU (mark cd)≠none:=fun e=>nomatch (fC (cd:=cd)).symm.trans e
theorem jr{P:Params}:mW P bK.1:=⟨31,_,_,_,rfl,rfl,rfl,rfl⟩
theorem jq{P:Params}:mW P bJ.1:=⟨22,_,_,_,rfl,rfl,rfl,rfl⟩
end
section
variable{pg:Program}{w:World}{os:OsState}{n:Nat}{base:Fz}{mb:PySem.Str→Option Value}
theorem qx(L:Pl w base mb)(HC:Calls pg w os base n):f9 (SF pg w (ai base 56 cB aJ) os prog.toCtx (ak prog n) n n XT dg bJ.1.scope eE dj.1):=
 ⟨eJ (ao (dY (ST.of_cmp (aV v j7 rfl) rfl rfl) (ao (bI (by kernel_rfl) rfl (fA L HC rfl (aa rfl v (aa rfl v (aa rfl v (aa rfl v aq))))))
  aD) (ao (bI (by kernel_rfl) rfl (tZ L HC rfl (List.cons_ne_nil _ _) (aa rfl v (aa rfl (xk (by decide) (by decide) (me (by kernel_rfl)) rfl HC.calm HC.clo v) (aa rfl v (aa rfl v aq)))) v (fun _=>rfl)))
  aD))
  (ao (t8 rfl (dJ rfl rfl (by decide) rfl v (aa rfl v (aa rfl v aq))))
  aD))⟩
theorem pO{P:Params}:BK3 P bJ.1 189:=⟨fun v u S=>⟨by rfl,fun k=>by rfl⟩,fun v u t S=>⟨by rfl,fun k=>by rfl⟩,fun v u t c S=>⟨by rfl,fun k=>by rfl⟩⟩
theorem pT(L:Pl w base mb)(HC:Calls pg w os base n):cm pg w (ai base 56 cB aJ) os (ak prog (n+1)) (n+1) XT "insort_left" 23:=
 mn L.K (fn:=⟨["a", "x", "lo", "hi"],[.none,.none,some (.int 0),some .none],true,eE⟩) (by kernel_rfl) (fun _=>rfl) (rA L bJ dj.2 jq (by kernel_rfl) pO) (qx L HC) (fun _ _ _ _ _ _=>trivial)
theorem qy(L:Pl w base mb)(HC:Calls pg w os base n):f9 (SF pg w (ai base 56 cB aJ) os prog.toCtx (ak prog n) n n XT dg bK.1.scope eF dl.1):=
 ⟨eJ (ao (dY (ST.of_cmp (aV v an rfl) rfl rfl) (ao (Cr L.K (bh (by kernel_rfl)) (B0 "ValueError" rfl))
  aD) aD)
  (ao (dY (ST.of_cmp (aV v j7 rfl) rfl rfl) (ao (bI (by kernel_rfl) rfl (jU L.K B0 (by kernel_rfl) rfl (aa rfl v aq)))
  aD) aD)
  (ao (dY (ST.of_cmp (aV v j7 rfl) rfl rfl) (ao (Aa (ST.of_cmp (aV v v rfl) rfl rfl) (ao (bI (by kernel_rfl) rfl (az (az v v) an))
  (ao (dY (ST.of_cmp (aV (aL rfl v v) v rfl) rfl rfl) (ao (bI (by kernel_rfl) rfl (az v an))
  aD) (ao (bI (by kernel_rfl) rfl v)
  aD))
  aD)))
  aD) (ao (Aa (ST.of_cmp (aV v v rfl) rfl rfl) (ao (bI (by kernel_rfl) rfl (az (az v v) an))
  (ao (dY (ST.of_cmp (aV (xk (by decide) (by decide) (me (by kernel_rfl)) rfl HC.calm HC.clo (aL rfl v v)) v rfl) rfl rfl) (ao (bI (by kernel_rfl) rfl (az v an))
  aD) (ao (bI (by kernel_rfl) rfl v)
  aD))
  aD)))
  aD))
  (ao (b9 v)
  aD))))⟩
theorem pP{P:Params}:BK3 P bK.1 202:=⟨fun v u S=>⟨by rfl,fun k=>by rfl⟩,fun v u t S=>⟨by rfl,fun k=>by rfl⟩,fun v u t c S=>⟨by rfl,fun k=>by rfl⟩⟩
theorem pU(L:Pl w base mb)(HC:Calls pg w os base n):cm pg w (ai base 56 cB aJ) os (ak prog (n+1)) (n+1) XT "bisect_left" 32:=
 mn L.K (fn:=⟨["a", "x", "lo", "hi"],[.none,.none,some (.int 0),some .none],true,eF⟩) (by kernel_rfl) (fun _=>rfl) (rA L bK dl.2 jr (by kernel_rfl) pP) (qy L HC) (fun _ _ _ _ _ _=>trivial)
theorem jK(L:Pl w base mb)(HC:Calls pg w os base n):f9 (SF pg w (ai base 56 cB aJ) os prog.toCtx (ak prog n) n n XT dg cu.1.scope cx e8.1):=
 ⟨eJ (ao (i8 (by kernel_rfl) (fun _ _=>rfl) (cS L.K (s_sl L v (fun _=>by with_unfolding_all rfl)) rfl) (ao (bI (by kernel_rfl) rfl (aL rfl v v))
  (ao (bI (by kernel_rfl) rfl (aL rfl v v))
  (ao (dY (ST.of_cmp (aV v v rfl) rfl rfl) (ao (b9 (nq v))
  aD) aD)
  (ao (dY (ST.of_cmp (aV v v rfl) rfl rfl) (ao (b9 v)
  aD) aD)
  aD)))))
  (ao (b9 an)
  aD))⟩
theorem jp(L:Pl w base mb)(HC:Calls pg w os base n):cm pg w (ai base 56 cB aJ) os (ak prog (n+1)) (n+1) XT "TupleComp.compare" 53:=
 fc L cu e8.2 ⟨52,_,_,_,rfl,rfl,rfl,rfl⟩ (fn:=⟨["self", "left", "right"],[.none,.none,.none],false,cx⟩) (by kernel_rfl) (by kernel_rfl) (fun v0 v1 v2 S=>by rfl) (jK L HC) (fun _ _ _ _ _ _=>trivial)
theorem md(L:Pl w base mb)(HC:Calls pg w os base n):f9 (SF pg w (ai base 56 cB aJ) os prog.toCtx (ak prog n) n n XT dg cZ.1.scope c6 gW.1):=
 ⟨eJ (ao (oO (by kernel_rfl) rfl v)
  (ao (oO (by kernel_rfl) rfl v)
  (ao (b9 (bA (aa rfl (az v v) (aa rfl (az v v) (aa rfl (az v v) (aa rfl (az v v) (aa rfl (fA L HC rfl (aa rfl v (aa rfl v aq))) aq))))) (by decide)))
  aD)))⟩
theorem lL(L:Pl w base mb)(HC:Calls pg w os base n):cm pg w (ai base 56 cB aJ) os (ak prog (n+1)) (n+1) XT "add_func_stats" 67:=
 fc L cZ gW.2 ⟨66,_,_,_,rfl,rfl,rfl,rfl⟩ (fn:=⟨["target", "source"],[.none,.none],false,c6⟩) (by kernel_rfl) (by kernel_rfl) (fun v0 v1 S=>by rfl) (md L HC) (fun _ _ _ _ _ _=>trivial)
theorem qz(L:Pl w base mb)(HC:Calls pg w os base n):f9 (SF pg w (ai base 56 cB aJ) os prog.toCtx (ak prog n) n n XT wG eC.1.scope eG jR.1):=
 ⟨Cp (cd:=(73, "add_callers.<locals>.")) (fun _ _ h=>h) (g7 (by kernel_rfl)) (eJ (ao (bI (by kernel_rfl) rfl (xj L.K))
  (ao (i8 (by kernel_rfl) (fun _ _=>rfl) (tV rfl rfl v) (ao (kT rfl v v v)
  aD))
  (ao (i8 (by kernel_rfl) (fun _ _=>rfl) (tV rfl rfl v) (ao (dY (ST.of_cmp (aV v v rfl) rfl rfl) (ao (dY (ST.of_SE (Cs L.K (bh (by kernel_rfl)) (B0 "isinstance" rfl) (bh (by kernel_rfl)) (B0 "tuple" rfl) rfl v) rfl (fun _ _=>rfl)) (ao (kT rfl v v (Ab L.K (DU (q:= "add_callers.<locals>.<genexpr>") L fC (.head _) D7 (by decide) (by decide)) (by kernel_rfl) (bh (by kernel_rfl)) (B0 "zip" rfl) (bh (by kernel_rfl)) (B0 "tuple" rfl) rfl rfl rfl (by decide) (by decide) (by decide) (by decide) (by decide) v (aL rfl v v)))
  aD) (ao (Ae rfl v v v)
  aD))
  aD) (ao (kT rfl v v v)
  aD))
  aD))
  (z8 (.inr (g7 (by kernel_rfl))) (ao (b9 v)
  aD))))))⟩
theorem pV(L:Pl w base mb)(HC:Calls pg w os base n):cm pg w (ai base 56 cB aJ) os (ak prog (n+1)) (n+1) XT "add_callers" 74:=
 fc L eC jR.2 ⟨73,_,_,_,rfl,rfl,rfl,rfl⟩ (fn:=⟨["target", "source"],[.none,.none],false,eG⟩) (by kernel_rfl) (by kernel_rfl) (fun v0 v1 S=>by rfl) (qz L HC) (fun _ _ _ _ h3 h4=>⟨h3,h4⟩)
theorem rO(L:Pl w base mb)(HC:Calls pg w os base n):f9 (SF pg w (ai base 56 cB aJ) os prog.toCtx (ak prog n) n n XT dg ft.1.scope iG kG.1):=
 ⟨eJ (ao (b9 (aV v (Af L (by kernel_rfl)) rfl))
  aD)⟩
theorem qO(L:Pl w base mb)(HC:Calls pg w os base n):cm pg w (ai base 56 cB aJ) os (ak prog (n+1)) (n+1) XT "ISTERMINAL" 84:=
 fc L ft kG.2 ⟨83,_,_,_,rfl,rfl,rfl,rfl⟩ (fn:=⟨["x"],[.none],false,iG⟩) (by kernel_rfl) (by kernel_rfl) (fun v0 S=>by rfl) (rO L HC) (fun _ _ _ _ _ _=>trivial)
theorem nQ(L:Pl w base mb)(HC:Calls pg w os base n):f9 (SF pg w (ai base 56 cB aJ) os prog.toCtx (ak prog n) n n XT dg dy.1.scope eZ iI.1):=
 ⟨eJ (ao (b9 (aV v (Af L (by kernel_rfl)) rfl))
  aD)⟩
theorem mK(L:Pl w base mb)(HC:Calls pg w os base n):cm pg w (ai base 56 cB aJ) os (ak prog (n+1)) (n+1) XT "ISNONTERMINAL" 91:=
 fc L dy iI.2 ⟨90,_,_,_,rfl,rfl,rfl,rfl⟩ (fn:=⟨["x"],[.none],false,eZ⟩) (by kernel_rfl) (by kernel_rfl) (fun v0 S=>by rfl) (nQ L HC) (fun _ _ _ _ _ _=>trivial)
theorem B7(L:Pl w base mb)(HC:Calls pg w os base n):f9 (SF pg w (ai base 56 cB aJ) os prog.toCtx (ak prog n) n n XT dg om.1.scope th wO.1):=
 ⟨eJ (ao (b9 (aV v (s_END L (by kernel_rfl)) rfl))
  aD)⟩
theorem Bp(L:Pl w base mb)(HC:Calls pg w os base n):cm pg w (ai base 56 cB aJ) os (ak prog (n+1)) (n+1) XT "ISEOF" 98:=
 fc L om wO.2 ⟨97,_,_,_,rfl,rfl,rfl,rfl⟩ (fn:=⟨["x"],[.none],false,th⟩) (by kernel_rfl) (by kernel_rfl) (fun v0 S=>by rfl) (B7 L HC) (fun _ _ _ _ _ _=>trivial)
theorem tG(L:Pl w base mb)(HC:Calls pg w os base n):f9 (SF pg w (ai base 56 cB aJ) os prog.toCtx (ak prog n) n n XT dg gv.1.scope ju mX.1):=
 (bu (b_ret (Bz (av rfl (dp (av rfl (iQ (by rfl) (by decide)) (av rfl bH (av rfl bH bS))) (by decide)) (av rfl (dp (av rfl (iQ (by rfl) (by decide)) (av rfl bH (av rfl bH bS))) (by decide)) (av rfl (dp (av rfl (iQ (by rfl) (by decide)) (av rfl bH (av rfl bH bS))) (by decide)) (av rfl (dp (av rfl (iQ (by rfl) (by decide)) (av rfl bH (av rfl bH bS))) (by decide)) (av rfl (dp (av rfl (iQ (by rfl) (by decide)) (av rfl bH (av rfl bH bS))) (by decide)) (av rfl (dp (av rfl (iQ (by rfl) (by decide)) (av rfl bH (av rfl bH bS))) (by decide)) (av rfl (dp (av rfl (iQ (by rfl) (by decide)) (av rfl bH (av rfl bH bS))) (by decide)) (av rfl (dp (av rfl (iQ (by rfl) (by decide)) (av rfl bH (av rfl bH bS))) (by decide)) (av rfl (dp (av rfl (iQ (by rfl) (by decide)) (av rfl bH (av rfl bH bS))) (by decide)) bS))))))))) (by decide)))
  By)
theorem sY(L:Pl w base mb)(HC:Calls pg w os base n):cm pg w (ai base 56 cB aJ) os (ak prog (n+1)) (n+1) XT "_law_signs" 105:=
 fc L gv mX.2 ⟨104,_,_,_,rfl,rfl,rfl,rfl⟩ (fn:=⟨[],[],false,ju⟩) (by kernel_rfl) (by kernel_rfl) (fun S=>by rfl) (tG L HC) (fun _ _ _ _ _ _=>trivial)
theorem qv(L:Pl w base mb)(HC:Calls pg w os base n):f9 (SF pg w (ai base 56 cB aJ) os prog.toCtx (ak prog n) n n XT dg eA.1.scope cL jP.1):=
 (bu (BD (by kernel_rfl) (dp (av rfl (Bz (av rfl (dp (av rfl (iQ (by rfl) (by decide)) (av rfl bH bS)) (by decide)) (av rfl (dp (av rfl (iQ (by rfl) (by decide)) (av rfl bH bS)) (by decide)) (av rfl (dp (av rfl (iQ (by rfl) (by decide)) (av rfl bH bS)) (by decide)) bS))) (by decide)) (av rfl (Fx bS (by decide)) bS)) (by decide)))
  (bu ⟨(i8 (by kernel_rfl) (fun _ _=>rfl) (cS L.K (az v (iK (aa rfl (aL rfl v (az (az v an) an)) aq) (by decide))) rfl) (ao (t8 rfl (dJ rfl rfl (by decide) rfl v (aa rfl (oN (ST.of_SE (az v an) rfl (fun _ _=>rfl)) (bA (aa rfl (az (oM (by rfl) (by decide)) v) (aa rfl (az an v) aq)) (by decide)) (bA (aa rfl v (aa rfl v aq)) (by decide))) aq)))
  (ao (bI (by kernel_rfl) rfl (oN (ST.of_cmp (aV (jU L.K B0 (by kernel_rfl) rfl (aa rfl v aq)) an rfl) rfl rfl) (az v an) (az v an)))
  aD)))⟩
  (bu ⟨(i8 (by kernel_rfl) (fun _ _=>rfl) (cS L.K (bA (aa rfl an (aa rfl an (aa rfl an aq))) (by decide)) rfl) (ao (dZ (by kernel_rfl) (bA (aa rfl (az v v) (aa rfl (aL rfl (fA L HC rfl aq) (az (az v v) an)) aq)) (by decide)))
  (ao (oO (by kernel_rfl) rfl (cq v (b7 v) (b7 (az v an))))
  (ao (bI (by kernel_rfl) rfl (tY L.K B0 (by kernel_rfl) rfl (aa rfl (bC (aQ (by kernel_rfl)) (fun _ _=>rfl) (eI L.K (bh (by kernel_rfl)) (B0 "range" rfl) rfl an) (az an v) (.inr ⟨_,rfl,(ST.of_SE (az (az v (az (az an (az (az v v) an)) (az (az v v) an))) an) rfl (fun _ _=>rfl))⟩)) aq)))
  (ao (bI (by kernel_rfl) rfl (az (az (cq v cQ (b7 v)) (iK (aa rfl (bA (aa rfl (az (az (az (az (az (az (oM (by rfl) (by decide)) v) (oM (by rfl) (by decide))) v) (oM (by rfl) (by decide))) v) (oM (by rfl) (by decide))) (aa rfl v aq)) (by decide)) aq) (by decide))) (cq v (b7 (az v an)) cQ)))
  (ao (bI (by kernel_rfl) rfl (az (az v v) an))
  aD))))))⟩
  (bu ⟨(b9 (aL rfl v an))⟩
  By))))
theorem pQ(L:Pl w base mb)(HC:Calls pg w os base n):cm pg w (ai base 56 cB aJ) os (ak prog (n+1)) (n+1) XT "_law_formula" 110:=
 fc L eA jP.2 ⟨109,_,_,_,rfl,rfl,rfl,rfl⟩ (fn:=⟨["shape"],[.none],false,cL⟩) (by kernel_rfl) (by kernel_rfl) (fun v0 S=>by rfl) (qv L HC) (fun _ _ _ _ _ _=>trivial)
theorem vO(L:Pl w base mb)(HC:Calls pg w os base n):f9 (SF pg w (ai base 56 cB aJ) os prog.toCtx (ak prog n) n n XT Dy iB.1.scope dC ii.1):=
 ⟨(nY (oO (by kernel_rfl) rfl v)
  (nY (dY (ST.of_cmp (aV v v rfl) rfl rfl) (ao (b9 v)
  aD) aD)
  (nY (bI (by kernel_rfl) rfl (bA (aa rfl v (aa rfl v (aa rfl v (aa rfl (az (Af L (by kernel_rfl)) (jU L.K B0 (by kernel_rfl) rfl (aa rfl v aq))) aq)))) (by decide)))
  (se (cd:=(116, "_law_node.<locals>.")) (fun _ _ h=>h) (by kernel_rfl) (by kernel_rfl) (.inr (g7 (by kernel_rfl))) (se (cd:=(116, "_law_node.<locals>.")) (fun _ _ h=>h) (by kernel_rfl) (by kernel_rfl) (.inl sG) (eJ (ao (bI (by kernel_rfl) rfl (tZ L HC rfl (List.cons_ne_nil _ _) (aa rfl v (aa rfl an aq)) (xh (d:=d0.1) L.K rfl rfl (xN L fC (.tail _ (.head _)) wz (by decide) (by decide) (by kernel_rfl)) (fun _=>rfl) (by kernel_rfl)) (fun _=>rfl)))
  (ao (dY (kL (ST.of_cmp (aV v (jU L.K B0 (by kernel_rfl) rfl (aa rfl v aq)) rfl) rfl rfl) (nj (ST.of_SE (yS L rfl rfl rfl rfl HC.cmp v (aL rfl v v) v) rfl (fun _ _=>rfl)))) (ao (t8 rfl (tZ L HC rfl (List.cons_ne_nil _ _) (aa rfl v (aa rfl v aq)) (xh (d:=d1.1) L.K rfl rfl (xN L fC (.tail _ (.head _)) wz (by decide) (by decide) (by kernel_rfl)) (fun _=>rfl) (by kernel_rfl)) (fun _=>rfl)))
  (ao (kT rfl v (aL rfl v an) (cq v cQ (b7 an)))
  aD)) aD)
  (ao (b9 (aL rfl (aL rfl v v) an))
  aD)))))))))⟩
theorem uX(L:Pl w base mb)(HC:Calls pg w os base n):cm pg w (ai base 56 cB aJ) os (ak prog (n+1)) (n+1) XT "_law_node" 117:=
 fc L iB ii.2 ⟨116,_,_,_,rfl,rfl,rfl,rfl⟩ (fn:=⟨["book", "place", "off", "on"],[.none,.none,.none,.none],false,dC⟩) (by kernel_rfl) (by kernel_rfl) (fun v0 v1 v2 v3 S=>by rfl) (vO L HC) (fun _ _ _ _ h3 h4=>⟨h3,h4⟩)
theorem tI(L:Pl w base mb)(HC:Calls pg w os base n):f9 (SF pg w (ai base 56 cB aJ) os prog.toCtx (ak prog n) n n XT dg gA.1.scope gH mZ.1):=
 ⟨eJ (ao (b9 (oN (wY (ST.of_SE (fA L HC rfl (aa rfl v aq)) rfl (fun _ _=>rfl)) (rT (ST.of_cmp (aV (aL rfl (aL rfl (aL rfl v an) v) an) v rfl) rfl rfl))) (cq (aL rfl (aL rfl v an) v) (b7 an) cQ) (bA (aa rfl v (aa rfl v aq)) (by decide))))
  aD)⟩
theorem tb(L:Pl w base mb)(HC:Calls pg w os base n):cm pg w (ai base 56 cB aJ) os (ak prog (n+1)) (n+1) XT "_law_parts" 124:=
 fc L gA mZ.2 ⟨123,_,_,_,rfl,rfl,rfl,rfl⟩ (fn:=⟨["book", "node", "place"],[.none,.none,.none],false,gH⟩) (by kernel_rfl) (by kernel_rfl) (fun v0 v1 v2 S=>by rfl) (tI L HC) (fun _ _ _ _ _ _=>trivial)
theorem rM(L:Pl w base mb)(HC:Calls pg w os base n):f9 (SF pg w (ai base 56 cB aJ) os prog.toCtx (ak prog n) n n XT dg fl.1.scope dR kE.1):=
 ⟨eJ (ao (dY (wY (ST.of_SE (fA L HC rfl (aa rfl v aq)) rfl (fun _ _=>rfl)) (rT (ST.of_SE (fA L HC rfl (aa rfl v aq)) rfl (fun _ _=>rfl)))) (ao (b9 (az (az v (az (az an v) v)) an))
  aD) aD)
  (ao (bI (by kernel_rfl) rfl (s_min L.K B0 (by kernel_rfl) rfl (aa rfl (bC (aQ (by kernel_rfl)) (fun _ _=>rfl) (cS L.K (bA (aa rfl v (aa rfl v aq)) (by decide)) rfl) (aL rfl (aL rfl (aL rfl v an) v) an) (.inr ⟨_,rfl,(ST.of_SE (fA L HC rfl (aa rfl v aq)) rfl (fun _ _=>rfl))⟩)) aq)))
  (ao (dZ (by kernel_rfl) (bA (aa rfl (fA L HC rfl (aa rfl v (aa rfl v (aa rfl v aq)))) (aa rfl (fA L HC rfl (aa rfl v (aa rfl v (aa rfl v aq)))) aq)) (by decide)))
  (ao (b9 (fA L HC rfl (aa rfl v (aa rfl v (aa rfl (fA L HC rfl (aa rfl v (aa rfl v (aa rfl v (aa rfl v aq))))) (aa rfl (fA L HC rfl (aa rfl v (aa rfl v (aa rfl v (aa rfl v aq))))) aq))))))
  aD))))⟩
theorem qN(L:Pl w base mb)(HC:Calls pg w os base n):cm pg w (ai base 56 cB aJ) os (ak prog (n+1)) (n+1) XT "_law_joined" 129:=
 fc L fl kE.2 ⟨128,_,_,_,rfl,rfl,rfl,rfl⟩ (fn:=⟨["book", "row", "one", "other"],[.none,.none,.none,.none],false,dR⟩) (by kernel_rfl) (by kernel_rfl) (fun v0 v1 v2 v3 S=>by rfl) (rM L HC) (fun _ _ _ _ _ _=>trivial)
theorem yA(L:Pl w base mb)(HC:Calls pg w os base n):f9 (SF pg w (ai base 56 cB aJ) os prog.toCtx (ak prog n) n n XT dg jG.1.scope fH qT.1):=
 ⟨eJ (ao (dZ (by kernel_rfl) (bA (aa rfl (si L.K (aQ (by kernel_rfl)) (fun _ _=>rfl) (cS L.K (fA L HC rfl aq) rfl) v v) (aa rfl (mt aq (by decide)) (aa rfl (mt aq (by decide)) aq))) (by decide)))
  (ao (i8 (by kernel_rfl) (fun _ _=>rfl) (cS L.K (bC (aQ (by kernel_rfl)) (fun _ _=>rfl) (cS L.K (dJ rfl rfl (by decide) rfl v (aa rfl (oM (by rfl) (by decide)) aq)) rfl) (oN (ST.of_cmp (Ac L.K (zP L) (bh (by kernel_rfl)) v rfl) rfl rfl) (yP L.K (zP L) (bh (by kernel_rfl)) rfl v) (az (az (Af L (by kernel_rfl)) (s_ord L.K B0 (by kernel_rfl) rfl (aa rfl v aq))) an)) (.inl ⟨rfl,rfl⟩)) rfl) (ao (dY (ST.of_SE (fA L HC rfl (aa rfl v aq)) rfl (fun _ _=>rfl)) (ao (t8 rfl (dJ rfl rfl (by decide) rfl v (aa rfl (fA L HC rfl (aa rfl v (aa rfl (dJ rfl rfl (by decide) rfl v (aa rfl (az v (Af L (by kernel_rfl))) aq)) (aa rfl an (aa rfl an aq))))) aq)))
  (ao (dY (ST.of_cmp (aV (cq v (b7 (nq an)) cQ) (iK (aa rfl an aq) (by decide)) rfl) rfl rfl) (ao (t8 rfl (dJ rfl rfl (by decide) rfl v (aa rfl (fA L HC rfl (aa rfl v (aa rfl an (aa rfl (dJ rfl rfl (by decide) rfl v aq) (aa rfl (az (dJ rfl rfl (by decide) rfl v aq) an) aq))))) aq)))
  aD) aD)
  aD)) (ao (dY (ST.of_cmp (aV v an rfl) rfl rfl) (ao (t8 rfl (dJ rfl rfl (by decide) rfl v (aa rfl (fA L HC rfl (aa rfl v (aa rfl (aL rfl v (dJ rfl rfl (by decide) rfl v aq)) (aa rfl (dJ rfl rfl (by decide) rfl v (aa rfl (nq an) aq)) (aa rfl (dJ rfl rfl (by decide) rfl v aq) aq))))) aq)))
  aD) (ao (dY (ST.of_cmp (aV v an rfl) rfl rfl) (ao (t8 rfl (dJ rfl rfl (by decide) rfl v (aa rfl v aq)))
  aD) aD)
  aD))
  aD))
  aD))
  (ao (b9 (aL rfl v an))
  aD)))⟩
theorem wv(L:Pl w base mb)(HC:Calls pg w os base n):cm pg w (ai base 56 cB aJ) os (ak prog (n+1)) (n+1) XT "_law_run" 134:=
 fc L jG qT.2 ⟨133,_,_,_,rfl,rfl,rfl,rfl⟩ (fn:=⟨["book", "text", "order"],[.none,.none,.none],false,fH⟩) (by kernel_rfl) (by kernel_rfl) (fun v0 v1 v2 S=>by rfl) (yA L HC) (fun _ _ _ _ _ _=>trivial)
theorem qw(L:Pl w base mb)(HC:Calls pg w os base n):f9 (SF pg w (ai base 56 cB aJ) os prog.toCtx (ak prog n) n n XT dg eB.1.scope dq jQ.1):=
 ⟨eJ (ao (dY (ST.of_cmp (aV v an rfl) rfl rfl) (ao (b9 (az (az v v) an))
  aD) aD)
  (ao (b9 (fA L HC rfl (aa rfl v (aa rfl v (aa rfl (fA L HC rfl (aa rfl v (aa rfl v (aa rfl v (aa rfl (az v an) (aa rfl v aq)))))) (aa rfl (fA L HC rfl (aa rfl v (aa rfl v (aa rfl v (aa rfl (az v an) (aa rfl (az v (az an (aL rfl v v))) aq)))))) aq))))))
  aD))⟩
theorem pR(L:Pl w base mb)(HC:Calls pg w os base n):cm pg w (ai base 56 cB aJ) os (ak prog (n+1)) (n+1) XT "_law_drawing" 141:=
 fc L eB jQ.2 ⟨140,_,_,_,rfl,rfl,rfl,rfl⟩ (fn:=⟨["book", "bits", "order", "place", "mask"],[.none,.none,.none,.none,.none],false,dq⟩) (by kernel_rfl) (by kernel_rfl) (fun v0 v1 v2 v3 v4 S=>by rfl) (qw L HC) (fun _ _ _ _ _ _=>trivial)
theorem vN(L:Pl w base mb)(HC:Calls pg w os base n):f9 (SF pg w (ai base 56 cB aJ) os prog.toCtx (ak prog n) n n XT dg iA.1.scope fY ox.1):=
 ⟨eJ (ao (dY (ST.of_cmp (aV v an rfl) rfl rfl) (ao (b9 (bA (aa rfl v (aa rfl an (aa rfl an (aa rfl an (aa rfl (Ct L.K) aq))))) (by decide)))
  aD) aD)
  (ao (dZ (by kernel_rfl) (bA (aa rfl (fA L HC rfl (aa rfl v (aa rfl v (aa rfl v aq)))) (aa rfl (az an (aL rfl v v)) aq)) (by decide)))
  (ao (oO (by kernel_rfl) rfl (fA L HC rfl (aa rfl v (aa rfl v (aa rfl v (aa rfl (az v an) aq))))))
  (ao (jA (by kernel_rfl) rfl (by kernel_rfl) (si L.K (aQ (by kernel_rfl)) (fun _ _=>rfl) (cS L.K v rfl) v (oN (ST.of_cmp (aV v an rfl) rfl rfl) (aL rfl v v) (bA (aa rfl (aL rfl (aL rfl v v) an) (aa rfl (az (aL rfl (aL rfl v v) an) (az (aL rfl (aL rfl v v) an) v)) aq)) (by decide)))))
  (ao (dZ (by kernel_rfl) (bA (aa rfl (az v (az v v)) (aa rfl (az (az v (az (az an v) v)) (az (az v v) v)) aq)) (by decide)))
  (ao (bI (by kernel_rfl) rfl (bA (aa rfl v (aa rfl v (aa rfl v (aa rfl v (aa rfl (fA L HC rfl (aa rfl v (aa rfl (Ey L.K rfl rfl (List.cons_ne_nil _ _) (by decide) (xf (X:=XT) (aL rfl v v) v (xf (X:=XT) (az an (aL rfl v v)) (bA (aa rfl v (aa rfl v aq)) (by decide)) Ew))) aq))) aq))))) (by decide)))
  (ao (b9 (fA L HC rfl (aa rfl (fA L HC rfl (aa rfl v (aa rfl v (aa rfl v (aa rfl (az v an) aq))))) (aa rfl v aq))))
  aD)))))))⟩
theorem uW(L:Pl w base mb)(HC:Calls pg w os base n):cm pg w (ai base 56 cB aJ) os (ak prog (n+1)) (n+1) XT "_law_told" 146:=
 fc L iA ox.2 ⟨145,_,_,_,rfl,rfl,rfl,rfl⟩ (fn:=⟨["book", "node", "order", "place"],[.none,.none,.none,.none],false,fY⟩) (by kernel_rfl) (by kernel_rfl) (fun v0 v1 v2 v3 S=>by rfl) (vN L HC) (fun _ _ _ _ _ _=>trivial)
theorem tJ(L:Pl w base mb)(HC:Calls pg w os base n):f9 (SF pg w (ai base 56 cB aJ) os prog.toCtx (ak prog n) n n XT dg gB.1.scope gI m7.1):=
 ⟨eJ (ao (dZ (by kernel_rfl) (bA (aa rfl (mt aq (by decide)) (aa rfl (mt (aa rfl v aq) (by decide)) aq)) (by decide)))
  (ao (Aa (ST.of_SE v rfl (fun _ _=>rfl)) (ao (bI (by kernel_rfl) rfl (dJ rfl rfl (by decide) rfl v aq))
  (ao (bI (by kernel_rfl) rfl (fA L HC rfl (aa rfl v (aa rfl v aq))))
  (ao (dY (wY (ST.of_SE (fA L HC rfl (aa rfl v aq)) rfl (fun _ _=>rfl)) (rT (ST.of_cmp (aV (cq v (b7 v) (b7 (az v an))) (iK (aa rfl v aq) (by decide)) rfl) rfl rfl))) (ao (t8 rfl (fA L HC rfl (aa rfl v (aa rfl v aq))))
  (ao (bI (by kernel_rfl) rfl (Ez v (Ex L.K B0 (by kernel_rfl) rfl (aa rfl (cq (aL rfl (aL rfl v an) v) (b7 an) cQ) aq))))
  aD)) aD)
  aD))))
  (z8 (.inl (by kernel_rfl)) (ao (b9 (bC (aQ (by kernel_rfl)) (fun _ _=>rfl) (eI L.K (bh (by kernel_rfl)) (B0 "range" rfl) rfl an) (jU L.K B0 (by kernel_rfl) rfl (aa rfl (bC (aQ (by kernel_rfl)) (fun _ _=>rfl) (cS L.K v rfl) v (.inr ⟨_,rfl,(ST.of_cmp (aV (aL rfl (aL rfl (aL rfl v an) v) an) v rfl) rfl rfl)⟩)) aq)) (.inl ⟨rfl,rfl⟩)))
  aD))))⟩
theorem tc(L:Pl w base mb)(HC:Calls pg w os base n):cm pg w (ai base 56 cB aJ) os (ak prog (n+1)) (n+1) XT "_law_below" 151:=
 fc L gB m7.2 ⟨150,_,_,_,rfl,rfl,rfl,rfl⟩ (fn:=⟨["book", "node"],[.none,.none],false,gI⟩) (by kernel_rfl) (by kernel_rfl) (fun v0 v1 S=>by rfl) (tJ L HC) (fun _ _ _ _ _ _=>trivial)
theorem tH(L:Pl w base mb)(HC:Calls pg w os base n):f9 (SF pg w (ai base 56 cB aJ) os prog.toCtx (ak prog n) n n XT dg gy.1.scope gG mY.1):=
 ⟨eJ (ao (vZ (by kernel_rfl) (by kernel_rfl) (by kernel_rfl) (fun _ _=>rfl) (eI L.K (bh (by kernel_rfl)) (B0 "range" rfl) rfl an) v (.inr ⟨_,rfl,(ST.of_cmp (aV (bC (aQ (by kernel_rfl)) (fun _ _=>rfl) (cS L.K (cq v (b7 v) cQ) rfl) v (.inr ⟨_,rfl,(ST.of_SE (az (az v v) an) rfl (fun _ _=>rfl))⟩)) (iK aq (by decide)) rfl) rfl rfl)⟩))
  (ao (jA (by kernel_rfl) rfl (by kernel_rfl) (bC (aQ (by kernel_rfl)) (fun _ _=>rfl) (eI L.K (bh (by kernel_rfl)) (B0 "range" rfl) rfl an) v (.inr ⟨_,rfl,(ST.of_cmp (aV (bC (aQ (by kernel_rfl)) (fun _ _=>rfl) (cS L.K (cq v cQ (b7 (az v an))) rfl) v (.inr ⟨_,rfl,(ST.of_SE (az (az v v) an) rfl (fun _ _=>rfl))⟩)) (iK aq (by decide)) rfl) rfl rfl)⟩)))
  (ao (jA (by kernel_rfl) rfl (by kernel_rfl) (bC (aQ (by kernel_rfl)) (fun _ _=>rfl) (cS L.K v rfl) (bC (aQ (by kernel_rfl)) (fun _ _=>rfl) (cS L.K (bA (aa rfl an (aa rfl (az an (aL rfl v v)) aq)) (by decide)) rfl) (bC (aQ (by kernel_rfl)) (fun _ _=>rfl) (cS L.K v rfl) (az (az v (az (az v v) v)) an) (.inl ⟨rfl,rfl⟩)) (.inl ⟨rfl,rfl⟩)) (.inl ⟨rfl,rfl⟩)))
  (ao (b9 (jU L.K B0 (by kernel_rfl) rfl (aa rfl (bC (aQ (by kernel_rfl)) (fun _ _=>rfl) (r9 L.K (bh (by kernel_rfl)) (B0 "enumerate" rfl) rfl v) v (.inr ⟨_,rfl,(wY (ST.of_cmp (aV (aL rfl v an) (aL rfl v an) rfl) rfl rfl) (rT (ST.of_cmp (aV v (cq v cQ (b7 v)) rfl) rfl rfl)))⟩)) aq)))
  aD))))⟩
theorem sZ(L:Pl w base mb)(HC:Calls pg w os base n):cm pg w (ai base 56 cB aJ) os (ak prog (n+1)) (n+1) XT "_law_rests" 156:=
 fc L gy mY.2 ⟨155,_,_,_,rfl,rfl,rfl,rfl⟩ (fn:=⟨["bits", "order", "place"],[.none,.none,.none],false,gG⟩) (by kernel_rfl) (by kernel_rfl) (fun v0 v1 v2 S=>by rfl) (tH L HC) (fun _ _ _ _ _ _=>trivial)
end
end Mine
end
section
set_option maxHeartbeats 4000000
namespace Mine
open PySem PySem.W PyProof.Rows PySem.SeqAt PySem.Calls
noncomputable def tryB(sc:Scope):Bool:=tB sc "insort_left" &&(tB sc "ValueError" &&(tB sc "str" &&(DB sc "key" &&(DB sc "shelf" &&(DB sc "due" &&sc.names.lookup (Str.ofString "refused")==some .local)))))
theorem tryN{sc:Scope}{p:Params}(h:tryB sc=true):lS sc (vF p) "key" "shelf" "due" "refused" 23:=
 aY h fun h1 h=>aY h fun h2 h=>aY h fun h3 h=>aY h fun h4 h=>aY h fun h5 h=>aY h fun h6 h7=>
 ⟨bh h1,by kernel_rfl,bh h2,by kernel_rfl,bh h3,by kernel_rfl,me h4,wQ h4,wR h4,me h5,wQ h5,wR h5,me h6,wQ h6,wR h6,eq_of_beq h7,by decide,by decide,by decide,by decide⟩
section
variable{pg:Program}{w:World}{os:OsState}{n:Nat}{base:Fz}{mb:PySem.Str→Option Value}
theorem uM(L:Pl w base mb):lX (ai base 56 cB aJ) 32 bK.1 dl.1:=lG L bK dl.2 jr (by kernel_rfl)
theorem uL(L:Pl w base mb):lX (ai base 56 cB aJ) 23 bJ.1 dj.1:=lG L bJ dj.2 jq (by kernel_rfl)
theorem sd:jx bK.1 dl.1 "lo must be non-negative" where
 body:=⟨_,_,_,_,_,_,_,_,_,_,_,rfl⟩
 names:=ac rfl (ac rfl (ac rfl (ac rfl (ac rfl (List.forall_mem_nil _)))))
 ve:=rfl
theorem sa:lW bJ.1 dj.1 where
 body:=⟨_,_,_,_,_,_,_,_,_,_,_,_,_,_,_,_,_,_,rfl,_,fun _=>rfl⟩
 names:=ac rfl (ac rfl (ac rfl (ac rfl (ac rfl (List.forall_mem_nil _)))))
 bi:=rfl
theorem DP(L:Pl w base mb){s:Shared}(h: ∀b o,base b=some o→s.heap.get? b=some o):(K0 w.params).In s.heap:=fun a o e=>h _ _ (L.hK _ _ e)
theorem bindI(L:Pl w base mb)(s':Shared)(u1 u2 u3 u4:Value)(h: ∀b o,base b=some o→s'.heap.get? b=some o):BindsTo s' bJ.1 ⟨[u1,u2,u3],[(Str.ofString "key",u4)]⟩ ((["a", "x", "lo", "hi", "key"].map Str.ofString).zip [u1,u2,u3,.none,u4]):=
 kp_binds (DP L h) fun S=>by rfl
theorem bindB(L:Pl w base mb)(s':Shared)(u1 u2 u3 u4 u5:Value)(h: ∀b o,base b=some o→s'.heap.get? b=some o):BindsTo s' bK.1 ⟨[u1,u2,u3,u4],[(Str.ofString "key",u5)]⟩ ((["a", "x", "lo", "hi", "key"].map Str.ofString).zip [u1,u2,u3,u4,u5]):=
 kp_binds (DP L h) fun S=>by rfl
theorem w_law(L:Pl w base mb)(HC:Calls pg w os base n)(hn:2≤n):f9 (SF pg w (ai base 56 cB aJ) os prog.toCtx (ak prog n) n n XT BL uQ.1.scope gJ wM.1):=
 (bu ⟨(jA (by kernel_rfl) rfl (by kernel_rfl) (bC (aQ (by kernel_rfl)) (fun _ _=>rfl) (r9 L.K (bh (by kernel_rfl)) (B0 "enumerate" rfl) rfl (bA (aa rfl an (aa rfl an (aa rfl an (aa rfl an aq)))) (by decide))) (az v (tY L.K B0 (by kernel_rfl) rfl (aa rfl (bC (aQ (by kernel_rfl)) (fun _ _=>rfl) (r9 L.K (bh (by kernel_rfl)) (B0 "enumerate" rfl) rfl (cq v cQ (b7 an))) (az v an) (.inr ⟨_,rfl,(ST.of_cmp (aV (az v an) v rfl) rfl rfl)⟩)) aq))) (.inl ⟨rfl,rfl⟩)))⟩
  (bu (BD (by kernel_rfl) (dp (av rfl (Bz (av rfl (dp (av rfl bH (av rfl bH (av rfl bH bS))) (by decide)) (av rfl (dp (av rfl bH (av rfl bH (av rfl bH bS))) (by decide)) (av rfl (dp (av rfl bH (av rfl bH (av rfl bH bS))) (by decide)) (av rfl (dp (av rfl bH (av rfl bH (av rfl bH bS))) (by decide)) (av rfl (dp (av rfl bH (av rfl bH (av rfl bH bS))) (by decide)) (av rfl (dp (av rfl bH (av rfl bH (av rfl bH bS))) (by decide)) bS)))))) (by decide)) (av rfl (dp (av rfl bH (av rfl (Ea bH) (av rfl bH (av rfl (Ea bH) bS)))) (by decide)) bS)) (by decide)))
  (bu ⟨(dZ (by kernel_rfl) (bA (aa rfl (aL rfl v (az (aL rfl v an) an)) (aa rfl (az an (az (aL rfl v an) an)) aq)) (by decide)))⟩
  (bu ⟨(jA (by kernel_rfl) rfl (by kernel_rfl) (bC (aQ (by kernel_rfl)) (fun _ _=>rfl) (z7 L.K (bh (by kernel_rfl)) (B0 "zip" rfl) rfl rfl (aL rfl v (az (az (aL rfl v an) an) an)) (bA (aa rfl an (aa rfl an (aa rfl an aq))) (by decide))) (bA (aa rfl v (aa rfl (aL rfl v (az (az (aL rfl v an) v) an)) aq)) (by decide)) (.inl ⟨rfl,rfl⟩)))⟩
  (bu ⟨(dZ (by kernel_rfl) (bA (aa rfl (mt aq (by decide)) (aa rfl (s_TC L (by kernel_rfl) rfl (aa rfl v aq)) aq)) (by decide)))⟩
  (bu ⟨(bI (by kernel_rfl) rfl (bA (aa rfl (xj L.K) (aa rfl v (aa rfl v aq))) (by decide)))⟩
  (bu ⟨(dZ (by kernel_rfl) (bA (aa rfl (fA L HC rfl (aa rfl (aL rfl v an) aq)) (aa rfl (fA L HC rfl (aa rfl (aL rfl v an) aq)) aq)) (by decide)))⟩
  (bu ⟨(bI (by kernel_rfl) rfl (iK (aa rfl (fA L HC rfl (aa rfl v (aa rfl v (aa rfl v aq)))) (aa rfl (fA L HC rfl (aa rfl v (aa rfl v (aa rfl v aq)))) aq)) (by decide)))⟩
  (bu ⟨(dY (kL (ST.of_cmp (aV v (iK (aa rfl (fA L HC rfl (aa rfl v (aa rfl v (aa rfl v (aa rfl an (aa rfl an aq)))))) (aa rfl (fA L HC rfl (aa rfl v (aa rfl v (aa rfl v (aa rfl an (aa rfl an aq)))))) aq)) (by decide)) rfl) rfl rfl) (nj (ST.of_cmp (aV (aV (aL rfl v an) (aL rfl v an) rfl) (aV v v rfl) rfl) rfl rfl))) (ao (b9 j8)
  aD) aD)⟩
  (bu ⟨(i8 (by kernel_rfl) (fun _ _=>rfl) (z7 L.K (bh (by kernel_rfl)) (B0 "zip" rfl) rfl rfl v (bA (aa rfl v (aa rfl v aq)) (by decide))) (ao (dY (kL (ST.of_cmp (aV (fA L HC rfl (aa rfl v aq)) (aV v an rfl) rfl) rfl rfl) (kL (ST.of_cmp (aV (fA L HC rfl (aa rfl v aq)) (aV v (bA (aa rfl an (aa rfl an aq)) (by decide)) rfl) rfl) rfl rfl) (kL (ST.of_cmp (aV (fA L HC rfl (aa rfl v aq)) (aV v (bA (aa rfl an (aa rfl an aq)) (by decide)) rfl) rfl) rfl rfl) (nj (ST.of_cmp (aV (fA L HC rfl (aa rfl v (aa rfl v aq))) (bC (aQ (by kernel_rfl)) (fun _ _=>rfl) (eI L.K (bh (by kernel_rfl)) (B0 "range" rfl) rfl an) (fA L HC rfl (aa rfl v (aa rfl v (aa rfl v aq)))) (.inl ⟨rfl,rfl⟩)) rfl) rfl rfl))))) (ao (b9 j8)
  aD) aD)
  (ao (dZ (by kernel_rfl) (bA (aa rfl (bC (aQ (by kernel_rfl)) (fun _ _=>rfl) (eI L.K (bh (by kernel_rfl)) (B0 "range" rfl) rfl an) v (.inr ⟨_,rfl,(ST.of_SE (az (az v v) an) rfl (fun _ _=>rfl))⟩)) (aa rfl (fA L HC rfl (aa rfl v (aa rfl v (aa rfl v (aa rfl an aq))))) aq)) (by decide)))
  (ao (jA (by kernel_rfl) rfl (by kernel_rfl) (bC (aQ (by kernel_rfl)) (fun _ _=>rfl) (eI L.K (bh (by kernel_rfl)) (B0 "range" rfl) rfl an) (bC (aQ (by kernel_rfl)) (fun _ _=>rfl) (cS L.K v rfl) v (.inr ⟨_,rfl,(ST.of_SE (az (az v v) an) rfl (fun _ _=>rfl))⟩)) (.inl ⟨rfl,rfl⟩)))
  (ao (vZ (by kernel_rfl) (by kernel_rfl) (by kernel_rfl) (fun _ _=>rfl) (cS L.K (bA (aa rfl an (aa rfl an aq)) (by decide)) rfl) (si L.K (aQ (by kernel_rfl)) (fun _ _=>rfl) (eI L.K (bh (by kernel_rfl)) (B0 "range" rfl) rfl an) v (oN (ST.of_cmp (aV v an rfl) rfl rfl) (az v (jU L.K B0 (by kernel_rfl) rfl (aa rfl (aL rfl v v) aq))) (bA (aa rfl (az v (jU L.K B0 (by kernel_rfl) rfl (aa rfl (aL rfl v (az v an)) aq))) (aa rfl (az v (tY L.K B0 (by kernel_rfl) rfl (aa rfl (aL rfl v (az v an)) aq))) aq)) (by decide)))) (.inl ⟨rfl,rfl⟩))
  (ao (dY (kL (ST.of_cmp (aV (fA L HC rfl (aa rfl (aL rfl v an) (aa rfl (aL rfl v an) aq))) (aL rfl v an) rfl) rfl rfl) (nj (ST.of_cmp (aV v (bA (aa rfl (jU L.K B0 (by kernel_rfl) rfl (aa rfl v aq)) (aa rfl an (aa rfl (tY L.K B0 (by kernel_rfl) rfl (aa rfl v aq)) (aa rfl (tY L.K B0 (by kernel_rfl) rfl (aa rfl (bC (aQ (by kernel_rfl)) (fun _ _=>rfl) (cS L.K v rfl) (az v v) (.inl ⟨rfl,rfl⟩)) aq)) (aa rfl (aL rfl v an) aq))))) (by decide)) rfl) rfl rfl))) (ao (b9 j8)
  aD) aD)
  aD))))))⟩
  (bu ⟨(bI (by kernel_rfl) rfl (fA L HC rfl (aa rfl v (aa rfl v (aa rfl v (aa rfl an (aa rfl an aq)))))))⟩
  (bu ⟨(bI (by kernel_rfl) rfl (fA L HC rfl (aa rfl v (aa rfl an (aa rfl (aL rfl v an) (aa rfl v aq))))))⟩
  (bu ⟨(dY (kL (ST.of_cmp (aV v (aL rfl v an) rfl) rfl rfl) (kL (ST.of_cmp (aV v (fA L HC rfl (aa rfl v (aa rfl (az v v) (aa rfl v (aa rfl an (aa rfl an aq)))))) rfl) rfl rfl) (nj (ST.of_cmp (aV (fA L HC rfl (aa rfl v (aa rfl an (aa rfl v (aa rfl v aq))))) (aL rfl v an) rfl) rfl rfl)))) (ao (b9 j8)
  aD) aD)⟩
  (bu ⟨(dY (ST.of_SE (bC (aQ (by kernel_rfl)) (fun _ _=>rfl) (cS L.K (bA (aa rfl (az (nq an) (aL rfl v an)) (aa rfl an (aa rfl (az (aL rfl v an) an) (aa rfl an (aa rfl an (aa rfl (az an (aL rfl v an)) aq)))))) (by decide)) rfl) v (.inr ⟨_,rfl,(kL (ST.of_cmp (aV (fA L HC rfl (aa rfl v aq)) (aV v an rfl) rfl) rfl rfl) (kL (ST.of_cmp (aV (fA L HC rfl (aa rfl v aq)) (aV v an rfl) rfl) rfl rfl) (nj (ST.of_cmp (aV (fA L HC rfl (aa rfl v aq)) (aV v an rfl) rfl) rfl rfl))))⟩)) rfl (fun _ _=>rfl)) (ao (b9 j8)
  aD) aD)⟩
  (tf (cd:=(160, "law.<locals>.")) (fun _ _ h=>h.1) (by kernel_rfl) (by kernel_rfl) (.inr (g7 (by kernel_rfl))) (bu ⟨(dZ (by kernel_rfl) (bA (aa rfl (yQ L.K (bh (by kernel_rfl)) (B0 "sorted" rfl) rfl (fun _=>rfl) HC.clo v (xh (d:=d2.1) L.K rfl rfl (xN L fC (.tail _ (.tail _ (.head _))) wy (by decide) (by decide) (by kernel_rfl)) (fun _=>rfl) (by kernel_rfl))) (aa rfl (yR L.K (bh (by kernel_rfl)) (B0 "zip" rfl) (bh (by kernel_rfl)) (B0 "list" rfl) rfl rfl v (cq v (b7 an) cQ)) aq)) (by decide)))⟩
  (bu ⟨(vZ (by kernel_rfl) (by kernel_rfl) (by kernel_rfl) (fun _ _=>rfl) (cS L.K v rfl) (aL rfl (az (bC (aQ (by kernel_rfl)) (fun _ _=>rfl) (cS L.K v rfl) (s_abs L.K B0 (by kernel_rfl) rfl (aa rfl v aq)) (.inr ⟨_,rfl,(ST.of_cmp (aV (aL rfl v v) (aL rfl v v) rfl) rfl rfl)⟩)) (iK (aa rfl an aq) (by decide))) an) (.inl ⟨rfl,rfl⟩))⟩
  (bu ⟨(dY (kL (ST.of_cmp (aV v v rfl) rfl rfl) (kL (ST.of_cmp (aV an v rfl) rfl rfl) (nj (ST.of_cmp (aV (bC (aQ (by kernel_rfl)) (fun _ _=>rfl) (cS L.K v rfl) (bA (aa rfl (yS L rfl rfl rfl rfl HC.cmp v v v) (aa rfl (yS L rfl rfl rfl rfl HC.cmp v v v) aq)) (by decide)) (.inl ⟨rfl,rfl⟩)) (bC (aQ (by kernel_rfl)) (fun _ _=>rfl) (cS L.K v rfl) (bA (aa rfl (nq v) (aa rfl v aq)) (by decide)) (.inl ⟨rfl,rfl⟩)) rfl) rfl rfl)))) (ao (b9 j8)
  aD) aD)⟩
  (bu ⟨(bI (by kernel_rfl) rfl (az (aL rfl v an) (jU L.K B0 (by kernel_rfl) rfl (aa rfl v aq))))⟩
  (bu ⟨(dZ (by kernel_rfl) (bA (aa rfl (az (cq (aL rfl v v) cQ (b7 an)) (bA (aa rfl an aq) (by decide))) (aa rfl (iK (aa rfl (sf L.K (bh (by kernel_rfl)) (B0 "list" rfl) rfl v) (aa rfl (sf L.K (bh (by kernel_rfl)) (B0 "list" rfl) rfl v) (aa rfl (sf L.K (bh (by kernel_rfl)) (B0 "list" rfl) rfl v) aq))) (by decide)) aq)) (by decide)))⟩
  (tf (cd:=(160, "law.<locals>.")) (fun _ _ h=>h.1) (by kernel_rfl) (by kernel_rfl) (.inl sG) (tf (cd:=(160, "law.<locals>.")) (fun _ _ h=>h.1) (by kernel_rfl) (by kernel_rfl) (.inl sG) (bu ⟨(bI (by kernel_rfl) rfl (xh (d:=d3.1) L.K rfl rfl (xN L fC (.tail _ (.tail _ (.head _))) wy (by decide) (by decide) (by kernel_rfl)) (fun _=>rfl) (by kernel_rfl)))⟩
  (bu ⟨(bI (by kernel_rfl) rfl (bA (aa rfl (tZ L HC rfl (List.cons_ne_nil _ _) (aa rfl v (aa rfl an (aa rfl (az v an) aq))) v (fun _=>rfl)) (aa rfl (tZ L HC rfl (List.cons_ne_nil _ _) (aa rfl v (aa rfl an (aa rfl an (aa rfl (az v an) aq)))) v (fun _=>rfl)) aq)) (by decide)))⟩
  (bu ⟨(bI (by kernel_rfl) rfl (bA (aa rfl (tZ L HC rfl (List.cons_ne_nil _ _) (aa rfl (aL rfl v an) (aa rfl v aq)) v (fun _=>rfl)) (aa rfl (tZ L HC rfl (List.cons_ne_nil _ _) (aa rfl (aL rfl v an) (aa rfl v (aa rfl (az v an) aq))) v (fun _=>rfl)) (aa rfl (tZ L HC rfl (List.cons_ne_nil _ _) (aa rfl (aL rfl v an) (aa rfl v (aa rfl an (aa rfl (az v an) aq)))) v (fun _=>rfl)) aq))) (by decide)))⟩
  (bu ⟨(dY (kL (ST.of_cmp (aV v (bA (aa rfl (az v an) (aa rfl (az v an) aq)) (by decide)) rfl) rfl rfl) (kL (ST.of_cmp (aV v (bA (aa rfl j7 (aa rfl j7 (aa rfl j7 aq))) (by decide)) rfl) rfl rfl) (nj (ST.of_cmp (aV v (bC (aQ (by kernel_rfl)) (fun _ _=>rfl) (cS L.K (bA (aa rfl v (aa rfl (az v an) (aa rfl (az v an) aq))) (by decide)) rfl) (az (az (cq v cQ (b7 v)) (iK (aa rfl v aq) (by decide))) (cq v (b7 v) cQ)) (.inl ⟨rfl,rfl⟩)) rfl) rfl rfl)))) (ao (b9 j8)
  aD) aD)⟩
  (Fw (kN:= "key") (sN:= "shelf") (dN:= "due") (rN:= "refused") (aB:=32) (aI:=23) L.K HC.clo (uM L) sd (uL L) sa (tryN (by kernel_rfl)) (by kernel_rfl) hn (fun _ _ h=>h.2) rfl (by decide) v v (az (nq an) (az (aL rfl v an) an)) rfl (fun _=>rfl) (bindI L) (bindB L))))))))))))))))))))))))))))
end
end Mine
end
section
set_option maxHeartbeats 4000000
namespace Mine
open PySem PySem.W PyProof.Rows PySem.SeqAt PySem.Calls
noncomputable def EV(d:dh)(x:String):Bool:=
 decide (d.scope.kind= .function)&&(!d.scope.isCoroutine&&(!d.scope.isGenerator&&(decide (d.scope.names.map (·.1)).Nodup&&((bU d.scope.more).isNone&&(cV d.scope (Str.ofString x)&&
 (d.scope.names.all (fun p=>!CQ (some p.2)||p.1==Str.ofString x)&&(d.scope.names.all (fun p=>!kF p.2||(d.fv.map Str.ofString).contains p.1)&&
 d.fv.all (fun z=>fK (d.scope.names.lookup (Str.ofString z))))))))))
section
variable{pg:Program}{w:World}{os:OsState}{n:Nat}{base:Fz}{mb:PySem.Str→Option Value}
noncomputable def yt(d:dh)(x:String):Prop:= ∀(fd:FuncData) (v:Value),fd.params=d.params→fd.defaults= .none→fd.kwdefaults= .none→bindArgs fd ⟨[v],[]⟩=pure [(Str.ofString x,v)]
theorem lx{d:dh}{x:String}{e:Mine.E}(h:EV d x=true)(hb:yt d x)
  (he:SE pg w (ai base 56 cB aJ) os prog.toCtx (ak prog n) n XT d.scope e d.body):Ef pg w os base 56 cB aJ prog n d x e:=
 aY h fun h1 h=>aY h fun h2 h=>aY h fun h3 h=>aY h fun h4 h=>aY h fun h5 h=>aY h fun h6 h=>aY h fun h7 h=>aY h fun h8 h9=>
 have own {y:String} {k:NameKind} (hy:d.scope.names.lookup (Str.ofString y)=some k) (hk:CQ (some k)=true):y=x:=
  ch ((bor (List.all_eq_true.mp h7 _ (d7 hy))).elim (fun q=>nomatch hk.symm.trans (mP q)) eq_of_beq)
 ⟨of_decide_eq_true h1,mP h2,mP h3,of_decide_eq_true h4,Option.isNone_iff_eq_none.mp h5,h6,fun y hy=>hy.elim (fun hy=>own hy rfl) fun hy=>own hy rfl,fun y hy=>
  (bor (List.all_eq_true.mp h8 _ (d7 hy))).elim (fun q=>nomatch q) fun q=>aA (List.mem_map.mp (List.contains_iff_mem.mp q)) fun z hz e=>⟨z,hz,e.symm⟩,
  fun z hz=>eq_of_beq (List.all_eq_true.mp h9 z hz),hb,he⟩
theorem wl_0(L:Pl w base mb)(HC:Calls pg w os base n):SE pg w (ai base 56 cB aJ) os prog.toCtx (ak prog n) n XT d0.1.scope l_0 d0.1.body:=
 (yS L rfl rfl rfl rfl HC.cmp v v v)
theorem wl_1(L:Pl w base mb)(HC:Calls pg w os base n):SE pg w (ai base 56 cB aJ) os prog.toCtx (ak prog n) n XT d1.1.scope l_1 d1.1.body:=
 (yS L rfl rfl rfl rfl HC.cmp v v v)
theorem wl_2(L:Pl w base mb)(HC:Calls pg w os base n):SE pg w (ai base 56 cB aJ) os prog.toCtx (ak prog n) n XT d2.1.scope l_2 d2.1.body:=
 (bC (aQ (by kernel_rfl)) (fun _ _=>rfl) (cS L.K v rfl) (az (oN (ST.of_cmp (aV v an rfl) rfl rfl) an (nq an)) (aL rfl v v)) (.inl ⟨rfl,rfl⟩))
theorem wl_3(L:Pl w base mb)(HC:Calls pg w os base n):SE pg w (ai base 56 cB aJ) os prog.toCtx (ak prog n) n XT d3.1.scope l_3 d3.1.body:=
 (yS L rfl rfl rfl rfl HC.cmp v v v)
theorem od{d:dh}{x:String}(h: ∀v (fd:FuncData),bindArgs {fd with params:=d.params,defaults:= .none,kwdefaults:= .none} ⟨[v],[]⟩=pure [(Str.ofString x,v)]):yt d x:=fun fd v h1 h2 h3=>
 (congrArg (fun z:Arguments×Value×Value=>bindArgs {fd with params:=z.1,defaults:=z.2.1,kwdefaults:=z.2.2} ⟨[v],[]⟩) (Prod.ext h1 (Prod.ext h2 h3):(fd.params,fd.defaults,fd.kwdefaults)=(d.params,.none,.none))).trans (h v fd)
theorem clos(L:Pl w base mb)(HC:Calls pg w os base n):qp pg w os (ak prog (n+1)) (n+1) base 56 cB aJ:=
 yI L.K fun k d hd=>match k,hd with
  |0,hd=>Option.some.inj hd▸⟨_,l_0,rfl,lx (by kernel_rfl) (od fun v fd=>by rfl) (wl_0 L HC)⟩
  |1,hd=>Option.some.inj hd▸⟨_,l_1,rfl,lx (by kernel_rfl) (od fun v fd=>by rfl) (wl_1 L HC)⟩
  |2,hd=>Option.some.inj hd▸⟨_,l_2,rfl,lx (by kernel_rfl) (od fun v fd=>by rfl) (wl_2 L HC)⟩
  |3,hd=>Option.some.inj hd▸⟨_,l_3,rfl,lx (by kernel_rfl) (od fun v fd=>by rfl) (wl_3 L HC)⟩
  |_+4,hd=>dA hd
theorem zy{α:Type}: ∀o:ay α,o.calm=o.calm.calm
 | .ok _=>rfl
 | .exc _ _=>rfl
 | .stuck=>rfl
theorem vc{α β:Type}{f:α→ay β}(h: ∀a,f a=(f a).calm): ∀o:Option α,(ay.ofOpt o).bind f=((ay.ofOpt o).bind f).calm
 |some a=>h a
 |none=>rfl
theorem zx(k:Nat)(ws l:List V)(σ:ah):ak prog (n+1) (.clo k ws) l .none σ=(ak prog (n+1) (.clo k ws) l .none σ).calm:=by
 show(ay.ofOpt _).bind _=((ay.ofOpt _).bind _).calm
 refine vc (fun l=>vc (fun v=>?_) _) _
 by_cases h:l.2.2.length=ws.length
 ·rw[if_pos h];exact zy _
 ·rw[if_neg h];rfl
theorem wA(L:Pl w base mb)(HC:Calls pg w os base n):Calls pg w os base (n+1) where
 c:=fun f a h=>(ac (pT L HC) (ac (pU L HC) (ac (lL L HC) (ac (pV L HC) (ac (qO L HC) (ac (mK L HC) (ac (Bp L HC) (ac (sY L HC) (ac (pQ L HC) (ac (uX L HC) (ac (tb L HC) (ac (qN L HC) (ac (wv L HC) (ac (pR L HC) (ac (uW L HC) (ac (tc L HC) (ac (sZ L HC) (List.forall_mem_nil _))))))))))))))))): ∀q∈pG,cm pg w (ai base 56 cB aJ) os (ak prog (n+1)) (n+1) XT q.1 q.2) (f,a) (d7 h)
 cmp:=jp L HC
 clo:=clos L HC
 calm:=zx
theorem rG(L:Pl w base mb): ∀n,Calls pg w os base n
 |0=>⟨fun _ _ _ _ _ _ _ _ _ _ _ _ _ _ _ _ _ _ h=>h.elim,fun _ _ _ _ _ _ _ _ _ _ _ _ _ _ _ h=>h.elim,fun _ _ _ _ _ _ _ _ _ _ _ _ _ _ _ _ h=>h.elim,fun _ _ _ _=>rfl⟩
 |n+1=>wA L (rG L n)
end
end Mine
end
section
namespace Mine
open PySem PySem.W PyProof.Rows PySem.SeqAt PySem.Calls
section
variable{pg:Program}{w:World}{os:OsState}{N:Nat}{base:Fz}{mb:PySem.Str→Option Value}{A:Around}{W:Wd}{fx:Fz}{σ σ':ah}{s:Shared}{v:V}{val:Value}{R:Result→Shared→Prop}
theorem At{C:Ctx}{call:aw}{n:Nat}{b:List S}{ρ:Env}{σ σ':ah}(h:y5 C call n b ρ σ= .ok (.bool true,σ')): ∃ρ',bk C call n b ρ σ= .ok (.ret (.bool true),ρ',σ'):=by
 have h:(bk C call n b ρ σ).calm.bind _=ay.ok (V.bool true,σ'):=h
 cases e:bk C call n b ρ σ with
 |exc m τ=>rw[e] at h;exact nomatch h
 |stuck=>rw[e] at h;exact nomatch h
 |ok q=>
  rw[e] at h
  exact match q,h with
   |(.next,_,_),h=>nomatch h
   |(.ret u,ρ',τ),h=>by
    have z:u= .bool true∧τ=σ':=Prod.mk.inj (ay.ok.inj h)
    rw[z.1,z.2];exact⟨ρ',rfl⟩
theorem AV(L:Pl w base mb)(hN:2≤N)(rm:bX A (N+1))(hfr:A.frames=some [])(S:St pg w (ai base 56 cB aJ) W fx σ os s)(hv:bj pg w (ai base 56 cB aJ) W v val)
  (hc:ak prog (N+1) (.fn "law") [v] .none σ= .ok (.bool true,σ'))(hR: ∀W' s',W.le W'→St pg w (ai base 56 cB aJ) W' fx σ' os s'→R (.ok (.ret (.bool true))) s'):
  codeAny (model pg w) A (.call (.ref 161) ⟨[val],[]⟩) R s:=by
 have ok:=lG (w:=w) L uQ wM.2 ⟨160,_,_,_,rfl,rfl,rfl,rfl⟩ (by kernel_rfl)
 have hc:y5 prog.toCtx (ak prog N) N gJ [("script",v)] σ= .ok (.bool true,σ'):=hc
 refine cN (At hc) fun ρ' hs=>?_
 have hb:BindsTo s uQ.1 ⟨[val],[]⟩ (([("script",v)].map fun p=>Str.ofString p.1).zip [val]):=kp_binds (iz L.hK S) fun S=>by rfl
 refine vi (bs:=[("script",v)]) (vals:=[val]) (ρ:=[("script",v)]) (PA:=BL) L.K ok rm S hb rfl (by decide:["script"].Nodup) (fun p hp=>?_) (ar.cons hv ar.nil) (w_law L (rG L N) hN (pg:=pg) (os:=os)).out (fun env e1 e2 e3 e4=>⟨⟨e3,e4⟩,?_,e1⟩) ?_ (fun x=>fS (bs:=[("script",v)]) (by decide:["script"].Nodup) x)
 ·rw[List.mem_singleton.mp hp]
  exact(by kernel_rfl:cV uQ.1.scope (Str.ofString "script")=true)
 ·rw[Around.frames_deeper hfr]
 ·rw[hs]
  intro W' fx' s' l lf S' u hu
  rw[(hu:u= .bool true)]
  exact hR W' s' l (S'.less lf)
end
end Mine
end
section
namespace Mine
open PySem PySem.W PyProof.Rows PySem.SeqAt PySem.Calls
noncomputable def qi(h:Heap):Fz:=fun a=>if a=69∨a=112∨a=158 then none else h.get? a
section
variable{pg:Program}{w:World}{p:Program}{loose:List PySem.Str}{mean:ExcName→Option Value}{mg mb:PySem.Str→Option Value}{h:Heap}
theorem zA{a:Addr}{o:Obj}(e:qi h a=some o):h.get? a=some o:=by
 by_cases q:a=69∨a=112∨a=158
 ·exact dA ((if_pos q).symm.trans e)
 ·exact(if_neg q).symm.trans e
theorem fX{a:Addr}{o:Obj}(e:h.get? a=some o)(n: ¬(a=69∨a=112∨a=158)):qi h a=some o:=(if_neg n).trans e
noncomputable def keyS(v:Value):Bool:=v matches .str _ _
theorem C7{v:Value}(h:keyS v=true): ∃x t,v= .str x t:=by
 cases v with
 |str x t=>exact⟨x,t,rfl⟩
 |_=>cases h
theorem uH(KX:(K0 w.params).In h):h.get? mainGlobals=some (di (gl w.params) 79)∧StrKeys (es0 w.params):=by
 have e:es0 w.params=(gl w.params).toArray:=by kernel_rfl
 refine⟨KX 3 _ (by kernel_rfl),fun x hx=>C7 (List.all_eq_true.mp (by kernel_rfl:((gl w.params).all fun e=>keyS e.key)=true) x ?_)⟩
 rw[e] at hx
 exact List.mem_toArray.mp hx
theorem DO(KX:(K0 w.params).In h)(T:Top p loose mean mg mb h):mg=vF w.params:=by
 refine gq T.g fun o es ep h1 h2 _ h4=>?_
 have e:=Option.some.inj (h1.symm.trans (uH KX).1)
 rw[e] at h2
 have e2:es0 w.params=es:=Data.dict.inj h2|>.1
 funext x
 rw[←h4 x,←e2]
 rfl
theorem pl_of(KX:(K0 w.params).In h)(T:Top p loose mean mg mb h):Pl w (qi h) mb:=by
 have G:=uH KX
 refine⟨⟨⟨_,fX G.1 (by decide),es0 w.params,79,by kernel_rfl,G.2,fun _=>rfl⟩,?_,T.builtins,?_⟩,fun a o e=>fX (KX _ _ e) fun q=>?_,?_⟩
 ·exact aA (db.of_ns T.b) fun o h1 h2=>⟨o,fX h1 (by decide),h2⟩
 ·exact aA T.nolimit fun mc h1 h2=>aA (db.of_ns h1) fun o h3 h4=>⟨o,mc,fX h3 (by decide),h4,h2⟩
 ·have n: ∀b∈[69,112,158],(K0 w.params).lookup b=none:=ac (by kernel_rfl) (ac (by kernel_rfl) (ac (by kernel_rfl) (List.forall_mem_nil _)))
  exact dA ((n a (by rcases q with q|q|q<;>rw[q]<;>decide)).symm.trans e)
 ·refine DM T.bmain fun bm ob h1 h2 h3 h4 y8_1=>?_
  rw[DO KX T,ya] at h1
  rw[←Value.ref.inj (Option.some.inj h1)] at h3
  exact⟨ob,fX h3 (by decide),h4,y8_1⟩
theorem vR{c P:Addr}(KX:(K0 w.params).In h)(cb:codeHdIn (K0 w.params) c P=true)(hP:h.get? P=some (tabObj #[])):h.TableAt c P #[]:=by
 refine oE6 (codeHd_of_K KX cb) fun oc vs _ _ _ _ y9_1=>?_;refine jC y9_1 fun _ _ _ y9_2=>?_;refine oA4 y9_2 fun k1 k2 k3 k4 _=>?_
 exact⟨⟨oc,vs,k1,k2,k3,k4⟩,hP⟩
theorem st0{s:Shared}(t1:s.heap.TableAt 73 69 #[])(t2:s.heap.TableAt 116 112 #[])(t3:s.heap.TableAt 160 158 #[])(hg:s.gens=#[]):
  St pg w (ai (qi s.heap) 56 cB aJ) ⟨qi s.heap,[]⟩ (fun _=>none) [] s.os s:=
 have tk {c P:Addr} {q:PySem.Str} (x:s.heap.TableAt c P #[]):nO ⟨qi s.heap,[]⟩ (P,q) s.heap:=⟨#[],x.2,trivial,fun _ _ e=>dA e⟩
 ⟨fun _ _ e=>e,fun a o e=>zA e,fun _ _ e=>dA e,fun _ _ e=>dA e,rfl,fun _ _ e=>dA e,fun _ _ _ e=>dA e,fun _ _ _ e=>dA e,fun _ _ _ e=>dA e,fun _ _ _=>rfl,
  ac ⟨tk t1,rfl,rfl,fun _ e=>nomatch e⟩ (ac ⟨tk t2,rfl,rfl,fun _ e=>nomatch e⟩ (ac ⟨tk t3,rfl,rfl,fun _ e=>nomatch e⟩ (List.forall_mem_nil _))),rfl,by rw[hg];exact AllBare.of_eq rfl⟩
theorem qU{P:Params}{H:bg}{W:Wd}: ∀{vs:List Value} {l:List Int},WellAll P h vs (l.map WData.int)→ar pg w H W (l.map V.int) vs
 |vs,[],x=>by cases x;exact ar.nil
 |vs,i::l,x=>by
  apply Ag vs (wellAll_cons_inv x);intro v vs' y z
  cases y
  exact ar.cons cr (qU z)
theorem oX: ∀l:List Int,ofPys (l.map PyData.int)=l.map WData.int
 |[]=>rfl
 |i::l=>congrArg (WData.int i:: ·) (oX l)
theorem tE{P:Params}{H:bg}{W:Wd}{v:Value}{l:List Int}(x:Well P h v (ofPy (.list (l.map PyData.int))))(hW: ∀a o,h.get? a=some o→o.cls≠ .none→W.P a=some o)(hl:l.length≤cP):bj pg w H W (.lst (l.map V.int)) v:=by
 have e:ofPy (.list (l.map PyData.int))= .list (l.map WData.int):=congrArg WData.list (oX l)
 rw[e] at x
 cases x with
 |list h1 h2=>exact⟨_,_,_,rfl,hW _ _ h1 (fun e=>nomatch e),⟨rfl,rfl,rfl,_,rfl⟩,qU h2,by rwa[List.length_map]⟩
end
end Mine
end
section
set_option maxHeartbeats 8000000
namespace Mine
open PySem PySem.W PyProof.Rows PySem.SeqAt PySem.Calls
noncomputable def vw:Prop:= ∀script:List Int,script.length≤63→ ∃N σ',2≤N∧N≤90∧ak prog (N+1) (.fn "law") [.lst (script.map V.int)] .none []= .ok (.bool true,σ')
theorem ends{pg:Program}{w:World}{c:ClaimW}{cl:PySem.Str→Option Addr}{mean:ExcName→Option Value}{args:List WData}{s₁ s':Shared}{W:Wd}{fx:Fz}{σ:ah}
  (t1:s₁.heap.TableAt 73 69 #[])(t2:s₁.heap.TableAt 116 112 #[])(t3:s₁.heap.TableAt 160 158 #[])(S:St pg w (ai (qi s₁.heap) 56 cB aJ) W fx σ s₁.os s')
  (hr: ∀cls,c.raises args cls=false)(hrd:ReadsW c.records cl s'.heap (.bool true) (.bool true) [])(hp:c.post args (.bool true) args=true):
  GoodWG c cl mean args s₁ (.ok (.ret (.bool true))) s':=by
 have tk: ∀{c P:Addr} {q:PySem.Str} {o:Obj},s₁.heap.TableAt c P #[]→(P,q)∈aJ→s₁.heap.get? P=some o→asItWas s₁.heap s'.heap P o∧ ∃o',s'.heap.get? P=some o':=fun{c P q o} x hm e=>
  qH (S.tab (P,q) hm) fun z1 _=>aA z1 fun ps h1 _=>⟨by
   rw[←Option.some.inj (x.2.symm.trans e)]
   exact .inr (.inl ⟨x.isCodeTable,rfl,#[],ps,rfl,by simpa using h1⟩),_,h1⟩
 have all: ∀b o,s₁.heap.get? b=some o→asItWas s₁.heap s'.heap b o∧ ∃o',s'.heap.get? b=some o':=fun b o e=>by
  by_cases hb:b=69∨b=112∨b=158
  ·rcases hb with hb|hb|hb<;>rw[hb] at e⊢
   ·exact tk t1 (.head _) e
   ·exact tk t2 (.tail _ (.head _)) e
   ·exact tk t3 (.tail _ (.tail _ (.head _))) e
  ·have k:=S.keepP _ _ (S.base _ _ (fX e hb))
   exact⟨.inl k,o,k⟩
 exact⟨.inl ⟨_,_,[],rfl,hr,hrd,hp,fun _=>⟨List.nodup_nil,fun a h=>nomatch h⟩⟩,⟨fun b o e=>(all b o e).1,fun b o e=>(all b o e).2⟩,S.os,S.gens⟩
theorem args0{w:World}{h h0:Heap}{args:List WData}{vals:List Value}{as:List Addr}(hpre:RW.row.claim.pre args=true)(hlay:WData.layableAll args=true)(hrd:ReadsAllW RW.row.records (classAt h0) h vals args as)
  (hwl:WellAll w.params h vals args)(hlo: ∀a:Addr,a∈as→(a==sysModules)=false): ∃(li:List Int) (a:Addr),li.length≤63∧args=[ofPy (.list (li.map PyData.int))]∧vals=[.ref a]∧Well w.params h (.ref a) (ofPy (.list (li.map PyData.int))):=by
 wrow_args hpre hlay hrd hwl hlo
 rename_i li h_s h_l h_L h_r h_l2 as1 as2 a0 vs0 as0 hL ra w1 r0 hI hr hcond hcond2
 exact⟨li,a0,Int.ofNat_le.mp (Int.not_lt.mp hcond),rfl,rfl,w1⟩
theorem core{w:World}{s₀ s₁:Shared}{mg mb:PySem.Str→Option Value}{fa:Addr}{args:List WData}{vals:List Value}{as:List Addr}(hpl:vw)(G:Ground q0 mB RW.row.records (XL q0 []) w s₀ mg mb s₁.heap)(Y:Ba.says w s₁.heap)(hmg:mg "law" =some (.ref fa))(hg:s₁.gens=#[])
  (hpre:RW.row.claim.pre args=true)(hlay:WData.layableAll args=true)(hrd:ReadsAllW RW.row.records (classAt s₀.heap) s₁.heap vals args as)(hwl:WellAll w.params s₁.heap vals args)(hlo: ∀a:Addr,a∈as→(a==sysModules)=false):
  wpAny (model RW.row.prog w) callerA (PySem.call (Value.ref fa) vals) (fun v s'=>GoodWG RW.row.claim (classAt s₀.heap) (ExcName.means s₀.heap) args s₁ (.ok (.ret v)) s') (fun e s'=>GoodWG RW.row.claim (classAt s₀.heap) (ExcName.means s₀.heap) args s₁ (.error e) s') s₁:=by
 have KX:(K0 w.params).In s₁.heap:=Y.1
 have TY: ∀P∈[69,112,158],s₁.heap.get? P=some (tabObj #[]):=Y.2
 refine nz (args0 hpre hlay hrd hwl hlo) fun li a0 hlen ea ev w1=>?_
 rw[ea,ev]
 refine Ground.open G fun T _ _ _ _=>?_
 have t1:s₁.heap.TableAt 73 69 #[]:=vR KX D7 (TY _ (.head _))
 have t2:s₁.heap.TableAt 116 112 #[]:=vR KX wz (TY _ (.tail _ (.head _)))
 have t3:s₁.heap.TableAt 160 158 #[]:=vR KX wy (TY _ (.tail _ (.tail _ (.head _))))
 have hfa:161=fa:=by
  have h:vF w.params "law" =some (.ref 161):=by kernel_rfl
  rw[←DO KX T] at h
  exact Value.ref.inj (Option.some.inj (h.symm.trans hmg))
 rw[←hfa]
 refine enter_call ?_
 refine cI (hpl li hlen) fun N σ' hN hN2 hc=>?_
 have ne: ∀P∈[69,112,158],∀o:Obj,s₁.heap.get? P=some o→o.cls= .none:=fun P hP o e=>by rw[←Option.some.inj ((TY P hP).symm.trans e)]
 refine AV (N:=N) (A:=callerA) (pl_of KX T) hN ⟨rfl,?_,?_⟩ rfl (st0 (pg:=RW.row.prog) (w:=w) t1 t2 t3 hg)
  (tE w1 (fun a o e hcl=>fX e fun q=>hcl (ne a (by rcases q with q|q|q<;>rw[q]<;>decide) o e)) (Nat.le_trans hlen (by decide))) hc fun W' s' l S'=>ends t1 t2 t3 S' (fun cls=>rfl) (.bool true) (by kernel_rfl)
 ·show 1+claimMargin+4*(N+1)+8<recursionLimit
  unfold claimMargin recursionLimit;omega
 ·show 4+100*(N+1)+300<cLine
  unfold cLine;omega
theorem yh:(defOf q0 RW.row.name).isSome=true:=by kernel_rfl
noncomputable def dk:DefRec×List (PySem.Str×Expr):=(defOf q0 RW.row.name).get yh
theorem dk_eq:defOf q0 RW.row.name=some (dk.1,dk.2):=(Option.some_get yh).symm
theorem Dj:dk.1.name= "law" :=by kernel_rfl
theorem claim_of(hpl:vw):PySem.Challenge.rw_xh0029_01.Holds:=
 hd (d:=dk.1) (kwd:=dk.2) dk_eq (by kernel_rfl) (by kernel_rfl) fun w s₀ s₁ mg mb G Y fa o pm cd doc dV kV _ _ _ _ hmg hg args vals as hpre hlay hrd hwl hlo=>core hpl G Y (Dj▸hmg) hg hpre hlay hrd hwl hlo
end Mine
end
theorem PySem.Challenge.cw_xh0029_01_holds : PySem.Challenge.rw_xh0029_01.Holds :=
 Mine.claim_of fun s _=>Mine.P.plain s
