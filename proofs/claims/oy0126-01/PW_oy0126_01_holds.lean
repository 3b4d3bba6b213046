import PyProof.Rows.All
import Wide.All
import OpenK.AllK
import Wide.FinOn
import KE.KUnpack
import KE.KBytesWalk
import KE.KSortAsk
import PySem.Challenge.RW_oy0126_01
set_option Elab.async false
set_option tactic.hygienic false
set_option linter.all false
set_option maxRecDepth 100000
set_option genSizeOf false
set_option bootstrap.genMatcherCode false
set_option backward.eqns.nonrecursive false
set_option backward.eqns.deepRecursiveSplit false
section -- Z0
namespace Mine
theorem ret1 {α:Type} {P:α→Prop} {a b:α} (h:some a=some b) (p:P a):P b:=by cases h; exact p
theorem ret2 {α β:Type} {P:α→β→Prop} {a a':α} {b b':β} (h:some (a,b)=some (a',b')) (p:P a b):P a' b':=by cases h; exact p
theorem ret3 {α β γ:Type} {P:α→β→γ→Prop} {a a':α} {b b':β} {c c':γ} (h:some (a,b,c)=some (a',b',c')) (p:P a b c):P a' b' c':=by cases h; exact p
theorem bI {α β:Type} {o:Option α} {a:α} {f:α→Option β} {r:Option β} (h:o=some a) (k:f a=r):o.bind f=r:=h▸k
theorem retP {α β:Type} {P:α→β→Prop} {a a':α} {b b':β} (h:(a,b)=(a',b')) (p:P a b):P a' b':=by cases h; exact p
theorem hide {G:Prop} (h:∀ P:Prop,(G→P)→P):G:=h G id
theorem bs {α β:Type} {o:Option α} {f:α→Option β} {r:β} (e:o.bind f=some r):∃ a,o=some a∧f a=some r:=Option.bind_eq_some_iff.mp e
theorem bE {α β:Type} {P:Prop} {o:Option α} {f:α→Option β} {r:β} (e:o.bind f=some r) (k:∀ a,o=some a→f a=some r→P):P:=(bs e).elim fun a h=>k a h.1 h.2
theorem bF {α β γ:Type} {P:Prop} {o:Option (α×β)} {f:α×β→Option γ} {r:γ} (e:o.bind f=some r) (k:∀ a b,o=some (a,b)→f (a,b)=some r→P):P:=(bs e).elim fun a h=>k a.1 a.2 h.1 h.2
theorem mE {α β:Type} {P:Prop} {o:Option α} {f:α→β} {r:β} (e:o.map f=some r) (k:∀ a,o=some a→f a=r→P):P:=(Option.map_eq_some_iff.mp e).elim fun a h=>k a h.1 h.2
theorem nn {α:Type} {P:Prop} {a:α} (h:none=some a):P:=nomatch h
theorem mapS {α β:Type} {o:Option α} {s s':β} {d:α} (h:o.map (fun x=>(x,s))=some (d,s')):o=some d∧s=s':=by
 cases o with
 | none=>exact nn h
 | some x=>cases h; exact⟨rfl,rfl⟩
theorem and2 {a b:Bool} (h:(a&&b)=true):a=true∧b=true:=(Bool.and_eq_true a b).mp h
theorem no {a:Bool} (h:(!a)=true):a=false:=by cases a <;> first | rfl | cases h
theorem ifE.{u} {α:Type u} {P c:Prop} [Decidable c] {a b:α} {r:α} (e:(if c then a else b)=r) (k:c→a=r→P) (l:¬ c→b=r→P):P :=
 if h:c then k h ((if_pos h).symm.trans e) else l h ((if_neg h).symm.trans e)
theorem ifS {α:Type} {P c:Prop} [Decidable c] {a:Option α} {r:α} (e:(if c then a else none)=some r) (k:c→a=some r→P):P:=ifE e k fun _ h=>nn h
theorem ifN {α:Type} {P c:Prop} [Decidable c] {a:Option α} {r:α} (e:(if c then none else a)=some r) (k:¬ c→a=some r→P):P:=ifE e (fun _ h=>nn h) k
@[elab_as_elim] theorem rwl.{u} {α:Sort u} {a b:α} {P:α→Prop} (h:a=b) (k:P b):P a:=h▸k
@[elab_as_elim] theorem rwr.{u} {α:Sort u} {a b:α} {P:α→Prop} (h:b=a) (k:P b):P a:=h▸k
end Mine
end
section -- E1
open PySem
namespace Mine
inductive D where
 | none
 | bool (b:Bool)
 | int (i:Int)
 | str (l:List Nat)
 | bytes (l:List Nat)
 | list (l:List D)
 | tuple (l:List D)
 | cell (k:Nat)
 | type (n:String)
 | builtin (id:String)
 | obj (a:Nat)
 | range (a b c:Int)
 deriving Inhabited
noncomputable def aRp (d:D):Option Bool:=by
 induction d using D.casesOn with
 | bool b=>exact some b
 | _=>exact none
noncomputable def intD (d:D):Option Int:=by
 induction d using D.casesOn with
 | int i=>exact some i
 | _=>exact none
noncomputable def strD (d:D):Option (List Nat):=by
 induction d using D.casesOn with
 | str l=>exact some l
 | _=>exact none
noncomputable def bytD (d:D):Option (List Nat):=by
 induction d using D.casesOn with
 | bytes l=>exact some l
 | _=>exact none
noncomputable def dE (d:D):Option (List D):=by
 induction d using D.casesOn with
 | list l=>exact some l
 | _=>exact none
noncomputable def tupD (d:D):Option (List D):=by
 induction d using D.casesOn with
 | tuple l=>exact some l
 | _=>exact none
noncomputable def nG (d:D):Option Nat:=by
 induction d using D.casesOn with
 | cell k=>exact some k
 | _=>exact none
noncomputable def typD (d:D):Option String:=by
 induction d using D.casesOn with
 | type n=>exact some n
 | _=>exact none
noncomputable def objD (d:D):Option Nat:=by
 induction d using D.casesOn with
 | obj a=>exact some a
 | _=>exact none
noncomputable def isNone (d:D):Bool:=by
 induction d using D.casesOn with
 | none=>exact true
 | _=>exact false
noncomputable def aAw (d:D):Bool:=by
 induction d using D.casesOn with
 | bool=>exact true
 | int=>exact true
 | str=>exact true
 | bytes=>exact true
 | _=>exact false
theorem xJ {d:D} {x:Bool} (h:aRp d=some x):d=.bool x:=by
 induction d using D.casesOn with
 | bool=>exact congrArg _ (Option.some.inj h)
 | _=>exact nn h
theorem aR {d:D} {x:Int} (h:intD d=some x):d=.int x:=by
 induction d using D.casesOn with
 | int=>exact congrArg _ (Option.some.inj h)
 | _=>exact nn h
theorem eY {d:D} {x:List Nat} (h:strD d=some x):d=.str x:=by
 induction d using D.casesOn with
 | str=>exact congrArg _ (Option.some.inj h)
 | _=>exact nn h
theorem nR {d:D} {x:List Nat} (h:bytD d=some x):d=.bytes x:=by
 induction d using D.casesOn with
 | bytes=>exact congrArg _ (Option.some.inj h)
 | _=>exact nn h
theorem bS {d:D} {x:List D} (h:dE d=some x):d=.list x:=by
 induction d using D.casesOn with
 | list=>exact congrArg _ (Option.some.inj h)
 | _=>exact nn h
theorem kU {d:D} {x:List D} (h:tupD d=some x):d=.tuple x:=by
 induction d using D.casesOn with
 | tuple=>exact congrArg _ (Option.some.inj h)
 | _=>exact nn h
theorem zB {d:D} {x:Nat} (h:nG d=some x):d=.cell x:=by
 induction d using D.casesOn with
 | cell=>exact congrArg _ (Option.some.inj h)
 | _=>exact nn h
theorem fS {d:D} {x:String} (h:typD d=some x):d=.type x:=by
 induction d using D.casesOn with
 | type=>exact congrArg _ (Option.some.inj h)
 | _=>exact nn h
theorem nT {d:D} {x:Nat} (h:objD d=some x):d=.obj x:=by
 induction d using D.casesOn with
 | obj=>exact congrArg _ (Option.some.inj h)
 | _=>exact nn h
theorem gM {d:D} (h:isNone d=true):d=.none:=by
 induction d using D.casesOn with
 | none=>rfl
 | _=>exact absurd h Bool.false_ne_true
noncomputable abbrev Store:=List (List D)
noncomputable abbrev Vars:=List (Str×D)
set_option genInjectivity false in
structure Cx where
 names:List (Str×NameKind)
 stor:List (Str×NameKind)
inductive Res where
 | ret (d:D)
 | exc (a:Nat) (d:D)
 deriving Inhabited
set_option genInjectivity false in
structure Gx where
 exc:Nat→Bool
 gl:Str→Option D
 fn:Nat→List D→List (Str×D)→Store→Option (Res×Store)
inductive FD where
 | next | brk | cont
 | ret (d:D)
 | exc (a:Nat) (d:D)
 deriving Inhabited
noncomputable def deqL (f:D→D→Option Bool):List D→List D→Option Bool
 | [],l=>some l.isEmpty
 | a::as,l=>by
  induction l using List.casesOn with
  | nil=>exact some false
  | cons b bs=>exact (f a b).bind fun x=>(deqL f as bs).map (x&&·)
noncomputable def deqF (a b:D):Option Bool:=by
 induction a using D.casesOn with
 | none=>exact if isNone b then some true else none
 | bool x=>exact (aRp b).map (x == ·)
 | int x=>exact (intD b).map (x == ·)
 | str x=>exact (strD b).map fun y=>decide (x=y)
 | bytes x=>exact (bytD b).map fun y=>decide (x=y)
 | _=>exact none
noncomputable def seq2 (a b:D):Option (Bool×List D×List D):=match dE a with
 | some x=>(dE b).map fun y=>(false,x,y)
 | none=>(tupD a).bind fun x=>(tupD b).map fun y=>(true,x,y)
noncomputable def deq1 (f:D→D→Option Bool) (a b:D):Option Bool:=match seq2 a b with
 | some q=>if q.2.1.length=q.2.2.length then deqL f q.2.1 q.2.2 else if q.1 then none else some false
 | none=>deqF a b
noncomputable def deqN:Nat→D→D→Option Bool
 | 0=>fun _ _=>none
 | n+1=>deq1 (deqN n)
noncomputable def dltL (f g:D→D→Option Bool):List D→List D→Option Bool
 | [],l=>some (!l.isEmpty)
 | a::as,l=>by
  induction l using List.casesOn with
  | nil=>exact some false
  | cons b bs=>exact (f a b).bind fun e=>if e then dltL f g as bs else g a b
noncomputable def dlt1 (f g:D→D→Option Bool) (a b:D):Option Bool:=by
 induction a using D.casesOn with
 | int x=>exact (intD b).map fun y=>decide (x < y)
 | str x=>exact (strD b).map fun y=>decide (x < y)
 | list x=>exact (dE b).bind fun y=>dltL f g x y
 | _=>exact none
noncomputable def dltN:Nat→D→D→Option Bool
 | 0=>fun _ _=>none
 | n+1=>dlt1 (deqN n) (dltN n)
noncomputable def dlt:D→D→Option Bool:=dltN 6
mutual
noncomputable def noCell:D→Bool
 | .list l | .tuple l=>noCells l
 | .cell _=>false
 | _=>true
noncomputable def noCells:List D→Bool
 | []=>true
 | a::as=>noCell a&&noCells as
end
noncomputable def small (i:Int):Bool:=decide (-1000000000000000000 < i)&&decide (i < 1000000000000000000)
noncomputable def fits (n:Nat):Bool:=decide (n≤16000000)
noncomputable def decN (n:Nat):List Nat:=(toString n).toList.map Char.toNat
noncomputable def decI (i:Int):List Nat:=(toString i).toList.map Char.toNat
noncomputable def undec (l:List Nat):Nat:=l.foldl (fun acc c=>acc * 10+(c - 48)) 0
noncomputable def isDig (c:Nat):Bool:=decide (48≤c)&&decide (c≤57)
noncomputable def place (n:Nat) (i:Int):Option Nat :=
 if decide (0≤i)&&decide (i < n)&&decide (i < 1000000000) then some i.toNat else none
noncomputable def findFrom (c:Nat):List Nat→Nat→Option Nat
 | [],_=>none
 | x::xs,i=>if x=c then some i else findFrom c xs (i+1)
noncomputable def sfind (l:List Nat) (c:Nat) (i:Nat):Int:=match findFrom c (l.drop i) i with
 | some k=>(k:Int)
 | none=>-1
noncomputable def aI (c:Nat):List Nat→List (List Nat)
 | []=>[[]]
 | x::xs=>if x=c then []::aI c xs else match aI c xs with
  | []=>[[x]]
  | p::ps=>(x::p)::ps
noncomputable def replC (c:Nat) (z:List Nat) (l:List Nat):List Nat:=l.flatMap fun x=>if x=c then z else [x]
noncomputable def cut {α:Type} (l:List α) (lo hi:Nat):List α:=(l.drop lo).take (hi - lo)
noncomputable def binI (op:Operator) (a b:Int):Option D:=match op with
 | .Add=>some (.int (a+b))
 | .Sub=>some (.int (a - b))
 | .Mult=>if small a&&small b then some (.int (a * b)) else none
 | .FloorDiv=>if small b&&!(b == 0) then some (.int (a.fdiv b)) else none
 | .Mod=>if b == 0 then none else some (.int (a.fmod b))
 | .Pow=>if decide (0≤b)&&decide (b≤1000)&&small a then some (.int (a ^ b.toNat)) else none
 | .LShift=>if decide (0≤b)&&decide (b≤1000)&&small a then some (.int (a * 2 ^ b.toNat)) else none
 | .RShift=>if 0≤b then some (.int (a.fdiv (2 ^ b.toNat))) else none
 | .BitAnd=>some (.int (Builtin.bitAnd a b))
 | .BitOr=>some (.int (Builtin.bitOr a b))
 | _=>none
noncomputable def strop (op:Operator) (a:List Nat) (y:D):Option D:=match op with
 | .Add=>(strD y).bind fun b=>if fits (a.length+b.length) then some (.str (a++b)) else none
 | .Mult=>(intD y).bind fun n=>if decide (0≤n)&&decide (n≤1000)&&decide (a.length≤1000) then some (.str (List.replicate n.toNat a).flatten) else none
 | _=>none
noncomputable def listop (op:Operator) (a:List D) (y:D):Option D:=match op with
 | .Add=>(dE y).bind fun b=>if fits (a.length+b.length) then some (.list (a++b)) else none
 | _=>none
noncomputable def binop (op:Operator) (x y:D):Option D:=by
 induction x using D.casesOn with
 | int a=>exact (intD y).bind (binI op a)
 | str a=>exact strop op a y
 | list a=>exact listop op a y
 | _=>exact none
noncomputable def eT (l:List D):Bool:=by
 induction l using List.casesOn with
 | nil=>exact false
 | cons d r =>
  induction d using D.casesOn with
  | cell k=>exact k == 0&&r.isEmpty
  | _=>exact false
noncomputable def look (st:Store) (k:Nat):Option (List D):=(st[k]?).bind fun l=>if eT l then none else some l
noncomputable def cQ (st:Store) (d:D):Option (List D):=by
 induction d using D.casesOn with
 | list l=>exact some l
 | cell k=>exact look st k
 | _=>exact none
noncomputable def deqS (st:Store) (a b:D):Option Bool:=match cQ st a with
 | some x=>(cQ st b).bind fun y=>if x.length=y.length then deqL (deqN 6) x y else some false
 | none=>deqF a b
noncomputable def nV (a b:D):Option Bool:=if isNone a then (if isNone b then some true else if aAw b then some false else none)
 else if isNone b then (if aAw a then some false else none) else (typD a).bind fun x=>(typD b).map (x == ·)
noncomputable def wC (x:D):List D→Option Bool
 | []=>some false
 | y::ys=>(deqN 6 y x).bind fun a=>(wC x ys).map (a || ·)
noncomputable def int2 (f:Int→Int→Bool) (a b:D):Option Bool:=(intD a).bind fun x=>(intD b).map (f x)
noncomputable def cmpop (st:Store) (op:CmpOp) (a b:D):Option Bool:=match op with
 | .Eq=>deqS st a b
 | .NotEq=>(deqS st a b).map (!·)
 | .Lt=>dlt a b
 | .LtE=>int2 (fun x y=>decide (x≤y)) a b
 | .Gt=>int2 (fun x y=>decide (y < x)) a b
 | .GtE=>int2 (fun x y=>decide (y≤x)) a b
 | .Is=>nV a b
 | .IsNot=>(nV a b).map (!·)
 | .In=>(intD a).bind fun x=>(dE b).bind (wC (.int x))
 | _=>none
noncomputable def truth (st:Store) (d:D):Option Bool:=by
 induction d using D.casesOn with
 | bool b=>exact some b
 | int i=>exact some (i != 0)
 | cell k=>exact (look st k).bind fun l=>if fits l.length then some (!l.isEmpty) else none
 | _=>exact none
noncomputable def index (st:Store) (d j:D):Option D:=(intD j).bind fun i=>by
 induction d using D.casesOn with
 | list l=>exact (place l.length i).bind fun k=>l[k]?
 | tuple l=>exact (place l.length i).bind fun k=>l[k]?
 | cell c=>exact (look st c).bind fun l=>(place l.length i).bind fun k=>l[k]?
 | str l=>exact (place l.length i).bind fun k=>(l[k]?).map fun c=>.str [c]
 | bytes l=>exact (if fits l.length then place l.length i else none).bind fun k=>(l[k]?).map fun (c:Nat)=>.int (c:Int)
 | _=>exact none
noncomputable def nonneg:Option Int→Bool
 | some i=>decide (0≤i)
 | none=>true
noncomputable def loOf:Option Int→Nat
 | some i=>i.toNat
 | none=>0
noncomputable def hiOf (n:Nat):Option Int→Nat
 | some i=>min i.toNat n
 | none=>n
noncomputable def slice (d:D) (lo hi:Option Int):Option D :=
 if nonneg lo&&nonneg hi then by
  induction d using D.casesOn with
  | str l=>exact if fits l.length then some (.str (cut l (loOf lo) (hiOf l.length hi))) else none
  | list l=>exact if fits l.length then some (.list (cut l (loOf lo) (hiOf l.length hi))) else none
  | _=>exact none
 else none
noncomputable def bM:List D→Option (List Int)
 | []=>some []
 | d::r=>(intD d).bind fun i=>(bM r).map (i::·)
noncomputable def iE:List D→Option (List (List Nat))
 | []=>some []
 | d::r=>(strD d).bind fun i=>(iE r).map (i::·)
noncomputable def octs:List Int→Option (List Nat)
 | []=>some []
 | i::r=>if decide (0≤i)&&decide (i < 256) then (octs r).map (i.toNat::·) else none
noncomputable def insD (x:D):List D→Option (List D)
 | []=>some [x]
 | y::ys=>(dlt x y).bind fun c=>if c then some (x::y::ys) else (insD x ys).map (y::·)
noncomputable def dG:List D→Option (List D)
 | []=>some []
 | x::xs=>(dG xs).bind (insD x)
noncomputable def isLd (d:D):Bool:=(dE d).isSome
noncomputable def ltD (a b:D):Bool:=decide (dlt a b=some true)
noncomputable def fM (l:List D):Bool :=
 l.all fun a=>isLd a&&!ltD a a&&l.all fun b=>(dlt a b).isSome&&(!ltD a b || !ltD b a)&&(ltD a b || ltD b a || decide (deqN 6 a b=some true))&&l.all fun c=>ltD b a || ltD c b || !ltD c a
noncomputable def bV (a b c:Int):List Int :=
 if c == 1 then (List.range (b - a).toNat).map fun (k:Nat)=>a+(k:Int)
 else (List.range (a - b).toNat).map fun (k:Nat)=>a - (k:Int)
noncomputable def aAb (c:Int):Bool:=c == 1 || c == -1
noncomputable def drawn (d:D):Option (List D):=by
 induction d using D.casesOn with
 | list l=>exact some l
 | bytes l=>exact some (l.map fun (c:Nat)=>.int (c:Int))
 | range a b c=>exact if small a&&small b&&aAb c then some ((bV a b c).map .int) else none
 | _=>exact none
noncomputable def tyOf (d:D):Option String:=by
 induction d using D.casesOn with
 | bool=>exact some "bool"
 | str=>exact some "str"
 | bytes=>exact some "bytes"
 | _=>exact none
noncomputable def trTable (x y:List Nat):List Nat:=(x.zip y).foldl (fun t p=>t.set p.1 p.2) (List.range 256)
noncomputable def lenD (n:Nat):Option D:=if fits n then some (.int n) else none
noncomputable def aQz (st:Store) (d:D):Option D:=by
 induction d using D.casesOn with
 | str l=>exact lenD l.length
 | bytes l=>exact lenD l.length
 | list l=>exact lenD l.length
 | cell k=>exact (look st k).bind fun l=>lenD l.length
 | _=>exact none
noncomputable def one {α:Type}:List α→Option α
 | [a]=>some a
 | _=>none
noncomputable def two {α:Type}:List α→Option (α×α)
 | [a,b]=>some (a,b)
 | _=>none
noncomputable def oF (ts:List D):Bool:=decide ((two ts).bind (fun q=>(typD q.1).bind fun a=>(typD q.2).map fun b=>(a,b))=some ("bytes","bytearray"))
noncomputable def aRd (d t:D):Option D:=by
 induction d using D.casesOn with
 | str=>exact if typD t=some "str" then some (.bool true) else none
 | bytes=>exact if typD t=some "str" then some (.bool false) else (tupD t).bind fun ts=>if oF ts then some (.bool true) else none
 | _=>exact none
noncomputable def aRl (d:D):Option D:=(dE d).bind fun l=>(bM l).map fun is=>.int is.sum
noncomputable def aLd (d e:D):Option D:=(intD d).bind fun a=>(intD e).map fun b=>.int (max a b)
noncomputable def aMm (st:Store) (n:String) (d:D):Option D :=
 if n = "len" then aQz st d
 else if n = "sum" then aRl d
 else if n = "sorted" then (cQ st d).bind fun l=>if decide (l.length < 64)&&fM l then (dG l).map .list else none
 else none
noncomputable def aJv (n:String) (d e:D):Option D :=
 if n = "max" then aLd d e else if n = "isinstance" then aRd d e else none
noncomputable def strOf (d:D):Option D:=(intD d).bind fun i=>if small i then some (.str (decI i)) else none
noncomputable def intOf (d:D):Option D:=(strD d).bind fun l=>if !l.isEmpty&&l.all isDig&&decide (l.length≤600) then some (.int (undec l)) else none
noncomputable def aLm (d:D):Option D:=(intD d).bind fun b=>if small b then some (.range 0 b 1) else none
noncomputable def aNi (d e:D):Option D:=(intD d).bind fun a=>(intD e).bind fun b=>if small a&&small b then some (.range a b 1) else none
noncomputable def aHi (d e g:D):Option D:=(intD d).bind fun a=>(intD e).bind fun b=>(intD g).bind fun c=>if small a&&small b&&aAb c then some (.range a b c) else none
noncomputable def aNm (st:Store) (n:String) (d:D):Option D :=
 if n = "type" then (tyOf d).map .type
 else if n = "range" then aLm d
 else if n = "str" then strOf d
 else if n = "int" then intOf d
 else if n = "bytes" then (cQ st d).bind fun l=>(bM l).bind fun is=>(octs is).bind fun os=>if fits os.length then some (.bytes os) else none
 else none
noncomputable def qO (f:D→Option D) (g:D→D→Option D) (h:D→D→D→Option D) (ds:List D):Option D:=by
 induction ds using List.casesOn with
 | nil=>exact none
 | cons a r =>
  induction r using List.casesOn with
  | nil=>exact f a
  | cons b r =>
   induction r using List.casesOn with
   | nil=>exact g a b
   | cons c r=>exact if r.isEmpty then h a b c else none
noncomputable def bcall (st:Store) (f:D) (ds:List D):Option D:=by
 induction f using D.casesOn with
 | builtin n=>exact qO (aMm st n) (aJv n) (fun _ _ _=>none) ds
 | type n=>exact qO (aNm st n) (fun d e=>if n = "range" then aNi d e else none) (fun d e g=>if n = "range" then aHi d e g else none) ds
 | _=>exact none
noncomputable def uR:List Nat:=[97,115,99,105,105]
noncomputable def aRn (name:Str) (l:List Nat) (t:D):Option D:=by
 induction t using D.casesOn with
 | str cs=>exact if name == "find" then (one cs).map fun c=>.int (sfind l c 0)
  else if name == "split" then (one cs).bind fun c=>if fits l.length then some (.list ((aI c l).map .str)) else none
  else if name == "encode"&&decide (cs=uR)&&l.all (· < 128)&&fits l.length then some (.bytes l) else none
 | list ts=>exact if name == "join"&&l.isEmpty then (iE ts).bind fun ss=>if fits ss.flatten.length&&ss.all (·.length == 1) then some (.str ss.flatten) else none else none
 | _=>exact none
noncomputable def aRx (name:Str) (l:List Nat) (t i:D):Option D:=(strD t).bind fun cs=>(one cs).bind fun c=>(intD i).bind fun i=>if name == "find"&&decide (0≤i) then some (.int (sfind l c i.toNat)) else none
noncomputable def aRr (name:Str) (l:List Nat) (t:D):Option D:=by
 induction t using D.casesOn with
 | str cs=>exact if name == "decode"&&decide (cs=uR)&&l.all (· < 128)&&fits l.length&&!l.isEmpty then some (.str l) else none
 | bytes t=>exact if name == "translate"&&t.length == 256&&fits l.length then some (.bytes (l.map fun c=>t.getD c 0)) else none
 | _=>exact none
noncomputable def aUy (name:Str) (n:String) (t u:D):Option D:=(bytD t).bind fun x=>(bytD u).bind fun y=>if decide (n = "bytes")&&name == "maketrans"&&x.length == y.length then some (.bytes (trTable x y)) else none
noncomputable def meth (name:Str) (d:D) (ds:List D):Option D:=by
 induction d using D.casesOn with
 | str l=>exact qO (aRn name l) (aRx name l) (fun _ _ _=>none) ds
 | bytes l=>exact qO (aRr name l) (fun _ _=>none) (fun _ _ _=>none) ds
 | type n=>exact qO (fun _=>none) (aUy name n) (fun _ _ _=>none) ds
 | _=>exact none
noncomputable def vset (x:Str) (d:D):Vars→Vars
 | []=>[(x,d)]
 | (y,e)::r=>if y=x then (y,d)::r else (y,e)::vset x d r
noncomputable def turns:Nat:=100000
noncomputable def mF (x:Str):Bool:=!(x == ("__debug__":Str))&&!(x == ("__classdict__":Str))
noncomputable def stored (cx:Cx) (x:Str):Bool:=match cx.stor.lookup x with
 | some .local | some .cell=>true
 | _=>false
end Mine
end
section -- S0
open PySem
namespace Mine
theorem runs_size {M:Model} {Γ:Ctx} {p:Pos} {t:Sem Fin} {fs:List Frame} {s s':Shared} {e:End} (h:Runs M Γ p t fs s e s'):s.heap.objs.size≤s'.heap.objs.size:=by
 induction h <;> (try simp only [Shared.setGen,Heap.size_push,Heap.size_after_update] at *) <;> omega
theorem wakes_size {M:Model} {Γ:Ctx} {p:Pos} {g:Nat} {r:Resume} {s s':Shared} {res:GenResult} (h:Wakes M Γ p g r s res s'):s.heap.objs.size≤s'.heap.objs.size:=by
 unfold Wakes at h
 split at h
 ·exact h.elim
 ·split at h
  ·obtain⟨_,s₁,q,_,_,rfl⟩:=h; exact (runs_size q:(s.setGen g .running).heap.objs.size≤s₁.heap.objs.size)
  all_goals (rw [h.2]; exact Nat.le_refl _)
 ·obtain⟨_,s₁,q,_,_,rfl⟩:=h; exact (runs_size q:(s.setGen g .running).heap.objs.size≤s₁.heap.objs.size)
 all_goals (rw [h.2]; exact Nat.le_refl _)
theorem aNv {α:Type} (M:Model) (Γ:Ctx) (n:Nat) (t:Sem α):∀ (Q:α→Pos→Shared→Prop) (E:Value→Pos→Shared→Prop) (p:Pos) (s:Shared),n≤s.heap.objs.size→Sem.wp M Γ t Q E p s →
  Sem.wp M Γ t (fun a p' s'=>n≤s'.heap.objs.size∧Q a p' s') (fun e p' s'=>n≤s'.heap.objs.size∧E e p' s') p s:=by
 induction t with
 | pure a=>intro Q E p s hn h; exact⟨hn,h⟩
 | raise e=>intro Q E p s hn h; exact⟨hn,h⟩
 | unsupported _=>intro Q E p s _ h; exact h
 | finish _=>intro Q E p s _ h; exact h
 | register _ _=>intro Q E p s _ h; exact h
 | yield _ _ _ _=>intro Q E p s _ h; exact h
 | fork _ _=>intro Q E p s _ h; exact h
 | await _ _ _ _ _=>intro Q E p s _ h; exact h
 | rule _ k ih=>intro Q E p s hn h; exact ih () Q E p s hn h
 | «at» p' k ih=>intro Q E p s hn h; exact ih () Q E p' s hn h
 | point _ k ih=>intro Q E p s hn h; exact ih () Q E p s hn h
 | load a _ k ih=>intro Q E p s hn ⟨o,ho,h⟩; exact⟨o,ho,ih o Q E p s hn h⟩
 | update a _ f k ih=>intro Q E p s hn h; exact⟨h.1,ih () Q E p _ (by simpa using hn) h.2⟩
 | loadIfAlive a k ih=>intro Q E p s hn h; exact ih _ Q E p s hn h
 | alloc o k ih=>intro Q E p s hn h; exact ih _ Q E p _ (by simp; lia) h
 | fresh k ih=>intro Q E p s hn h; exact ih _ Q E p _ hn h
 | ask k ih=>intro Q E p s hn h; exact ih _ Q E p s hn h
 | handled own k ih=>intro Q E p s hn h; exact ih _ Q E p s hn h
 | stack k ih=>intro Q E p s hn h; exact ih _ Q E p s hn h
 | thread k ih=>intro Q E p s hn h; exact ih _ Q E p s hn h
 | choose src m k ih=>intro Q E p s hn h; exact⟨h.1,ih _ Q E p _ hn h.2⟩
 | os q _ k ih=>intro Q E p s hn h; exact ih _ Q E p _ hn h
 | newGen c k ih=>intro Q E p s hn h; exact ih _ Q E p _ hn h
 | genState g k ih=>intro Q E p s hn ⟨st,hs,h⟩; exact⟨st,hs,ih _ Q E p s hn h⟩
 | call c hd _ _ k ih=>intro Q E p s hn ⟨r,s',hr,h⟩; exact⟨r,s',hr,ih r Q E p s' (Nat.le_trans hn (runs_size hr)) h⟩
 | resume g r _ k ih=>intro Q E p s hn ⟨res,s',hw,h⟩; exact⟨res,s',hw,ih res Q E p s' (Nat.le_trans hn (wakes_size hw)) h⟩
section
variable {α:Type} {M:Model} {A:Around} {s:Shared}
theorem aM {t:Sem α} {Q:α→Shared→Prop} {E:Value→Shared→Prop}
  (h:wpAny M A t (fun a s'=>s.toks≤s'.toks→s.heap.objs.size≤s'.heap.objs.size→Q a s') (fun e s'=>s.toks≤s'.toks→s.heap.objs.size≤s'.heap.objs.size→E e s') s):wpAny M A t Q E s :=
 wpAny_mono (wpAny_toks (show wpAny M A t (fun a s'=>s.heap.objs.size≤s'.heap.objs.size∧(s.toks≤s'.toks→s.heap.objs.size≤s'.heap.objs.size→Q a s'))
   (fun e s'=>s.heap.objs.size≤s'.heap.objs.size∧(s.toks≤s'.toks→s.heap.objs.size≤s'.heap.objs.size→E e s')) s from fun Γ p hΓ=>aNv M Γ _ t _ _ p s (Nat.le_refl _) (h Γ p hΓ)))
  (fun _ _ x=>x.2.2 x.1 x.2.1) (fun _ _ x=>x.2.2 x.1 x.2.1)
theorem aNo {c:Code} {R:Result→Shared→Prop} (h:codeAny M A c (fun r s'=>s.toks≤s'.toks→s.heap.objs.size≤s'.heap.objs.size→R r s') s):codeAny M A c R s :=
 fun Γ p hc hΓ=>by obtain⟨r,s',hr,hR⟩:=h Γ p hc hΓ; exact⟨r,s',hr,hR hr.toks_le (runs_size hr)⟩
end
end Mine
end
section -- S1
open PySem
namespace Mine
mutual
noncomputable def Rep (ms:List Addr) (h:Heap):D→Value→Prop
 | .none,v=>v=.none
 | .bool b,v=>v=.bool b
 | .int i,v=>∃ t,v=.int i t
 | .str l,v=>∃ t,v=.str ⟨l.toArray⟩ t
 | .bytes l,v=>∃ b t,v=.bytes b t∧b.toList.map UInt8.toNat=l
 | .list ds,v=>∃ a vs,v=.ref a∧a∉ms∧h.IsList a vs.toArray∧Reps ms h ds vs
 | .tuple ds,v=>∃ a vs,v=.ref a∧a∉ms∧h.IsTuple a vs.toArray∧Reps ms h ds vs
 | .cell k,v=>∃ a,v=.ref a∧ms[k]? = some a
 | .type n,v=>v=.type n
 | .builtin n,v=>v=.builtin n
 | .obj a,v=>v=.ref a
 | .range a b c,v=>∃ r t u w,v=.ref r∧r∉ms∧IsRange h r a b c t u w
noncomputable def Reps (ms:List Addr) (h:Heap):List D→List Value→Prop
 | [],vs=>vs=[]
 | d::ds,vs=>∃ v r,vs=v::r∧Rep ms h d v∧Reps ms h ds r
end
theorem Reps.nil {ms:List Addr} {h:Heap}:Reps ms h [] []:=by simp [Reps]
theorem Reps.cons {ms:List Addr} {h:Heap} {d:D} {ds:List D} {v:Value} {vs:List Value} (x:Rep ms h d v) (y:Reps ms h ds vs):Reps ms h (d::ds) (v::vs):=by
 rw [Reps]; exact⟨v,vs,rfl,x,y⟩
theorem Reps.length {ms:List Addr} {h:Heap}:∀ {ds:List D} {vs:List Value},Reps ms h ds vs→vs.length=ds.length
 | [],vs,x=>by subst x; rfl
 | d::ds,vs,x=>by
  skip
  obtain⟨v,r,rfl,_,y⟩:=x
  simp [Reps.length y]
theorem Reps.get {ms:List Addr} {h:Heap}:∀ {ds:List D} {vs:List Value} {i:Nat} {d:D},Reps ms h ds vs→ds[i]? = some d→∃ v,vs[i]? = some v∧Rep ms h d v
 | [],_,_,_,_,e=>by simp at e
 | d::ds,vs,i,d',x,e=>by
  skip
  obtain⟨v,r,rfl,p,y⟩:=x
  induction i using Nat.casesOn with
  | zero=>simp at e; subst e; exact⟨v,by simp,p⟩
  | succ i =>
   simp at e
   obtain⟨v',hv,hp⟩:=Reps.get y e
   exact⟨v',by simpa using hv,hp⟩
theorem Reps.append {ms:List Addr} {h:Heap}:∀ {ds es:List D} {vs ws:List Value},Reps ms h ds vs→Reps ms h es ws→Reps ms h (ds++es) (vs++ws)
 | [],es,vs,ws,x,y=>by subst x; exact y
 | d::ds,es,vs,ws,x,y=>by
  skip
  obtain⟨v,r,rfl,p,q⟩:=x
  exact .cons p (Reps.append q y)
theorem Reps.set {ms:List Addr} {h:Heap}:∀ {ds:List D} {vs:List Value} {d:D} {v:Value} (i:Nat),Reps ms h ds vs→Rep ms h d v→Reps ms h (ds.set i d) (vs.set i v)
 | [],vs,d,v,i,x,_=>by subst x; simpa using Reps.nil
 | e::ds,vs,d,v,i,x,y=>by
  skip
  obtain⟨v',r,rfl,p,q⟩:=x
  induction i using Nat.casesOn with
  | zero=>exact .cons y q
  | succ i=>exact .cons p (Reps.set i q y)
theorem Reps.take {ms:List Addr} {h:Heap}:∀ {ds:List D} {vs:List Value} (i:Nat),Reps ms h ds vs→Reps ms h (ds.take i) (vs.take i)
 | [],vs,i,x=>by subst x; simpa using Reps.nil
 | e::ds,vs,i,x=>by
  skip
  obtain⟨v',r,rfl,p,q⟩:=x
  induction i using Nat.casesOn with
  | zero=>exact .nil
  | succ i=>exact .cons p (Reps.take i q)
theorem Reps.drop {ms:List Addr} {h:Heap}:∀ {ds:List D} {vs:List Value} (i:Nat),Reps ms h ds vs→Reps ms h (ds.drop i) (vs.drop i)
 | [],vs,i,x=>by subst x; simpa using Reps.nil
 | e::ds,vs,i,x=>by
  induction i using Nat.casesOn with
  | zero=>exact x
  | succ i =>
   skip
   obtain⟨v',r,rfl,p,q⟩:=x
   exact Reps.drop i q
theorem Reps.mem {ms:List Addr} {h:Heap}:∀ {ds:List D} {vs:List Value},Reps ms h ds vs→∀ v∈vs,∃ d∈ds,Rep ms h d v
 | [],vs,x,v,hv=>by subst x; cases hv
 | e::ds,vs,x,v,hv=>by
  skip
  obtain⟨v',r,rfl,p,q⟩:=x
  cases hv with
  | head=>exact⟨e,.head _,p⟩
  | tail _ hv=>obtain⟨d,hd,hp⟩:=Reps.mem q v hv; exact⟨d,.tail _ hd,hp⟩
noncomputable def isSeqData (o:Obj):Prop:=(∃ vs n,o.data=.seq vs n)∨(o.cls=.type "range"∧∃ vs:{ vs:Array Value // vs.size=3 },o.data=.fields vs.1)
theorem isSeqData_seq {o:Obj} {vs n} (h:o.data=.seq vs n):isSeqData o:=.inl ⟨vs,n,h⟩
theorem mO {o:Obj} {vs} (hc:o.cls=.type "range") (h:o.data=.fields vs) (hz:vs.size=3):isSeqData o:=.inr ⟨hc,⟨vs,hz⟩,h⟩
section
variable {ms ms':List Addr} {h h':Heap}
mutual
theorem Rep.mono (hk:∀ a o,a∉ms→isSeqData o→h.get? a=some o→a∉ms'∧h'.get? a=some o) (hp:∀ (k:Nat) a,ms[k]? = some a→ms'[k]? = some a) :
  ∀ (d:D) (v:Value),Rep ms h d v→Rep ms' h' d v
 | .none,v,x=>by simpa only [Rep] using x
 | .bool b,v,x=>by simpa only [Rep] using x
 | .int i,v,x=>by simpa only [Rep] using x
 | .str l,v,x=>by simpa only [Rep] using x
 | .bytes l,v,x=>by simpa only [Rep] using x
 | .list ds,v,x=>by
  rw [Rep] at x ⊢
  obtain⟨a,vs,rfl,ha,⟨o,ho,hc,n,hd⟩,hr⟩:=x
  obtain⟨h1,h2⟩:=hk a o ha (isSeqData_seq hd) ho
  exact⟨a,vs,rfl,h1,⟨o,h2,hc,n,hd⟩,Reps.mono hk hp ds vs hr⟩
 | .tuple ds,v,x=>by
  rw [Rep] at x ⊢
  obtain⟨a,vs,rfl,ha,⟨o,ho,hc,n,hd⟩,hr⟩:=x
  obtain⟨h1,h2⟩:=hk a o ha (isSeqData_seq hd) ho
  exact⟨a,vs,rfl,h1,⟨o,h2,hc,n,hd⟩,Reps.mono hk hp ds vs hr⟩
 | .cell k,v,x=>by
  rw [Rep] at x ⊢
  obtain⟨a,rfl,ha⟩:=x
  exact⟨a,rfl,hp k a ha⟩
 | .type n,v,x=>by simpa only [Rep] using x
 | .builtin n,v,x=>by simpa only [Rep] using x
 | .obj a,v,x=>by simpa only [Rep] using x
 | .range a b c,v,x=>by
  rw [Rep] at x ⊢
  obtain⟨r,t,u,w,rfl,hr,hx⟩:=x
  obtain⟨h1,h2⟩:=hk r _ hr (mO rfl rfl rfl) hx
  exact⟨r,t,u,w,rfl,h1,h2⟩
theorem Reps.mono (hk:∀ a o,a∉ms→isSeqData o→h.get? a=some o→a∉ms'∧h'.get? a=some o) (hp:∀ (k:Nat) a,ms[k]? = some a→ms'[k]? = some a) :
  ∀ (ds:List D) (vs:List Value),Reps ms h ds vs→Reps ms' h' ds vs
 | [],vs,x=>by rw [Reps] at x ⊢; exact x
 | d::ds,vs,x=>by
  rw [Reps] at x ⊢
  obtain⟨v,r,rfl,p,q⟩:=x
  exact⟨v,r,rfl,Rep.mono hk hp d v p,Reps.mono hk hp ds r q⟩
end
-- where no cell stands, the addresses' places play no part
mutual
theorem Rep.less (hk:∀ a∈ms',a∈ms):∀ (d:D) (v:Value),noCell d=true→Rep ms h d v→Rep ms' h d v
 | .none,v,_,x=>by simpa only [Rep] using x
 | .bool b,v,_,x=>by simpa only [Rep] using x
 | .int i,v,_,x=>by simpa only [Rep] using x
 | .str l,v,_,x=>by simpa only [Rep] using x
 | .bytes l,v,_,x=>by simpa only [Rep] using x
 | .list ds,v,n,x=>by
  rw [Rep] at x ⊢
  rw [noCell] at n
  obtain⟨a,vs,rfl,ha,hl,hr⟩:=x
  exact⟨a,vs,rfl,fun q=>ha (hk a q),hl,Reps.less hk ds vs n hr⟩
 | .tuple ds,v,n,x=>by
  rw [Rep] at x ⊢
  rw [noCell] at n
  obtain⟨a,vs,rfl,ha,hl,hr⟩:=x
  exact⟨a,vs,rfl,fun q=>ha (hk a q),hl,Reps.less hk ds vs n hr⟩
 | .cell k,v,n,x=>by rw [noCell] at n; cases n
 | .type n,v,_,x=>by simpa only [Rep] using x
 | .builtin n,v,_,x=>by simpa only [Rep] using x
 | .obj a,v,_,x=>by simpa only [Rep] using x
 | .range a b c,v,_,x=>by
  rw [Rep] at x ⊢
  obtain⟨r,t,u,w,rfl,hr,hx⟩:=x
  exact⟨r,t,u,w,rfl,fun q=>hr (hk r q),hx⟩
theorem Reps.less (hk:∀ a∈ms',a∈ms):∀ (ds:List D) (vs:List Value),noCells ds=true→Reps ms h ds vs→Reps ms' h ds vs
 | [],vs,_,x=>by rw [Reps] at x ⊢; exact x
 | d::ds,vs,n,x=>by
  rw [Reps] at x ⊢
  rw [noCells,Bool.and_eq_true] at n
  obtain⟨v,r,rfl,p,q⟩:=x
  exact⟨v,r,rfl,Rep.less hk d v n.1 p,Reps.less hk ds r n.2 q⟩
end
end
theorem dL:∀ (l:List D),noCells l=true↔∀ d∈l,noCell d=true
 | []=>by simp [noCells]
 | d::ds=>by rw [noCells,Bool.and_eq_true,dL ds]; simp
noncomputable def isFr (o:Obj):Prop:=∃ es n,o.data=.dict es n
noncomputable def SameO (o o':Obj):Prop:=o'=o∨(isFr o∧∃ sl,o'={ o with slots:=sl })
theorem SameO.refl (o:Obj):SameO o o:=.inl rfl
theorem SameO.data {o o':Obj} (x:SameO o o'):o'.data=o.data:=by
 rcases x with rfl | ⟨_,_,rfl⟩ <;> rfl
theorem SameO.fr {o o':Obj} (x:SameO o o') (h:isFr o):isFr o':=by
 obtain⟨es,n,hd⟩:=h
 exact⟨es,n,x.data.trans hd⟩
theorem SameO.trans {o o' o'':Obj} (x:SameO o o') (y:SameO o' o''):SameO o o'':=by
 rcases x with rfl | ⟨h,sl,rfl⟩
 ·exact y
 ·rcases y with rfl | ⟨_,sl',rfl⟩
  ·exact .inr ⟨h,sl,rfl⟩
  ·exact .inr ⟨h,sl',rfl⟩
theorem SameO.exact {o o':Obj} (x:SameO o o') (h:¬ isFr o):o'=o:=by
 rcases x with rfl | ⟨h',_⟩
 ·rfl
 ·exact absurd h' h
theorem lF {o:Obj} (h:isSeqData o):¬ isFr o:=fun⟨es,n,hd⟩=>by
 rcases h with ⟨_,_,q⟩ | ⟨_,_,q⟩ <;> rw [hd] at q <;> cases q
theorem noFr {o:Obj} {dt:Data} (h:o.data=dt) (hd:∀ es n,dt≠.dict es n):¬ isFr o:=fun⟨es,n,q⟩=>hd es n (h.symm.trans q)
noncomputable def Kept (h':Heap) (a:Addr) (o:Obj):Prop:=∃ o',h'.get? a=some o'∧SameO o o'
theorem Kept.of {h':Heap} {a:Addr} {o:Obj} (e:h'.get? a=some o):Kept h' a o:=⟨o,e,.refl o⟩
theorem Kept.andThen {h₁ h₂:Heap} {a:Addr} {o:Obj} (x:Kept h₁ a o) (k:∀ o',h₁.get? a=some o'→Kept h₂ a o'):Kept h₂ a o:=by
 obtain⟨o',e,s⟩:=x
 obtain⟨o'',e'',s''⟩:=k o' e
 exact⟨o'',e'',s.trans s''⟩
theorem Kept.lt {h':Heap} {a:Addr} {o:Obj} (x:Kept h' a o):a < h'.objs.size:=by
 obtain⟨o',e,_⟩:=x
 exact Heap.lt_size e
theorem Kept.exact {h':Heap} {a:Addr} {o:Obj} (x:Kept h' a o) (h:¬ isFr o):h'.get? a=some o:=by
 obtain⟨o',e,s⟩:=x
 rw [s.exact h] at e; exact e
theorem ns_kept {h h':Heap} {a:Addr} {m:Str→Option Value} (x:h.Ns a m) (k:∀ o,h.get? a=some o→Kept h' a o):h'.Ns a m:=by
 obtain⟨o,es,ep,ho,hd,r⟩:=x
 obtain⟨o',e,s⟩:=k o ho
 exact⟨o',es,ep,e,s.data.trans hd,r⟩
theorem mQ {h h':Heap} {a:Addr} {v:Option Value} (x:h.IsCell a v) (k:∀ o,h.get? a=some o→Kept h' a o):h'.IsCell a v:=by
 obtain⟨o,ho,hd⟩:=x
 obtain⟨o',e,s⟩:=k o ho
 exact⟨o',e,s.data.trans hd⟩
set_option genInjectivity false in
structure Base where
 heap:Heap
 fr:List Addr
noncomputable abbrev Base.get? (B:Base) (a:Addr):Option Obj:=B.heap.get? a
set_option genInjectivity false in
structure Ext (W:Addr→Prop) (s:Shared) (ms:List Addr) (s':Shared) (ms':List Addr):Prop where
 gens:s'.gens=s.gens
 os:s'.os=s.os
 toks:s.toks≤s'.toks
 size:s.heap.objs.size≤s'.heap.objs.size
 pre:∀ (k:Nat) a,ms[k]? = some a→ms'[k]? = some a
 fresh:∀ a∈ms',a∈ms∨s.heap.objs.size≤a
 keep:∀ a o,a∉ms→¬ W a→s.heap.get? a=some o→Kept s'.heap a o
 wk:∀ a o,W a→s.heap.get? a=some o→¬ isSeqData o
noncomputable def No:Addr→Prop:=fun _=>False
theorem Ext.refl (s:Shared) (ms:List Addr):Ext No s ms s ms :=
 ⟨rfl,rfl,Nat.le_refl _,Nat.le_refl _,fun _ _ e=>e,fun _ h=>.inl h,fun _ _ _ _ e=>.of e,fun _ _ f=>f.elim⟩
theorem Ext.away {W s ms s' ms'} (x:Ext W s ms s' ms') {a:Addr} {o:Obj} (ha:a∉ms) (e:s.heap.get? a=some o):a∉ms':=fun q =>
 (x.fresh a q).elim ha fun l=>absurd (Heap.lt_size e) (Nat.not_lt.mpr l)
theorem Ext.trans {W s ms s₁ ms₁ s₂ ms₂} (x : Ext W s ms s₁ ms₁) (y : Ext W s₁ ms₁ s₂ ms₂) : Ext W s ms s₂ ms₂ :=
  ⟨y.gens.trans x.gens, y.os.trans x.os, Nat.le_trans x.toks y.toks, Nat.le_trans x.size y.size, fun k a e => y.pre k a (x.pre k a e),
   fun a h => (y.fresh a h).elim (x.fresh a) fun l => .inr (Nat.le_trans x.size l),
   fun a o ha hw e => by
    obtain ⟨o', e', s'⟩ := x.keep a o ha hw e
    obtain ⟨o'', e'', s''⟩ := y.keep a o' (x.away ha e) hw e'
    exact ⟨o'', e'', s'.trans s''⟩, x.wk⟩
theorem Ext.widen {W W':Addr→Prop} {s ms s' ms'} (x:Ext W s ms s' ms') (hw:∀ a,W a→W' a) (hk:∀ a o,W' a→s.heap.get? a=some o→¬ isSeqData o):Ext W' s ms s' ms' :=
 { x with keep:=fun a o ha hn e=>x.keep a o ha (fun q=>hn (hw a q)) e,wk:=hk }
theorem Ext.ofNo {W:Addr→Prop} {s ms s' ms'} (x:Ext No s ms s' ms') (hk:∀ a o,W a→s.heap.get? a=some o→¬ isSeqData o):Ext W s ms s' ms' :=
 x.widen (fun _ f=>f.elim) hk
theorem Ext.get {W s ms s' ms'} (x:Ext W s ms s' ms') {a:Addr} {o:Obj} (ha:a∉ms) (hs:isSeqData o) (e:s.heap.get? a=some o):a∉ms'∧s'.heap.get? a=some o :=
 ⟨x.away ha e,(x.keep a o ha (fun q=>x.wk a o q e hs) e).exact (lF hs)⟩
theorem Rep.ext {W s ms s' ms'} {d:D} {v:Value} (r:Rep ms s.heap d v) (x:Ext W s ms s' ms'):Rep ms' s'.heap d v :=
 Rep.mono (fun _ _ ha hs e=>x.get ha hs e) x.pre d v r
theorem Reps.ext {W s ms s' ms'} {d:List D} {v:List Value} (r:Reps ms s.heap d v) (x:Ext W s ms s' ms'):Reps ms' s'.heap d v :=
 Reps.mono (fun _ _ ha hs e=>x.get ha hs e) x.pre d v r
set_option tactic.hygienic true in
theorem aN {st:Store} {k:Nat} {l:List D}:look st k=some l↔st[k]? = some l∧eT l=false:=by
 unfold look
 rw [Option.bind_eq_some_iff]
 constructor
 ·rintro⟨l',h1,h2⟩
  split at h2 <;> cases h2
  rename_i h
  exact⟨h1,by simpa using h⟩
 ·rintro⟨h1,h2⟩
  exact⟨l,h1,by simp [h2]⟩
set_option genInjectivity false in
structure SR (base:Base) (ms:List Addr) (st:Store) (s:Shared):Prop where
 keepx:∀ a o,base.get? a=some o→s.heap.get? a=some o
 fresh:∀ a∈ms,base.get? a=none
 nodup:ms.Nodup
 len:ms.length=st.length
 lists:∀ (k:Nat) l,look st k=some l→∃ a vs n,ms[k]? = some a∧IsL s.heap a vs.toArray n∧Reps ms s.heap l vs
 clean:∀ k l,look st k=some l→noCells l=true
 toks:0 < s.toks
 seqs:∀ a∈ms,∃ o vs n,s.heap.get? a=some o∧o.data=.seq vs n
 hids:∀ (k:Nat) a l,ms[k]? = some a→st[k]? = some l→eT l=true→∃ x y,s.heap.get? a=some { cls:=.type "tuple",data:=.seq #[x,y] }
 frs:∀ L∈base.fr,base.get? L=none∧∃ o,s.heap.get? L=some o∧isFr o
theorem SR.keep {base ms st s} (r:SR base ms st s) (a:Addr) (o:Obj) (e:base.get? a=some o):Kept s.heap a o:=.of (r.keepx a o e)
theorem SR.frAway {base ms st s} (r:SR base ms st s) {L:Addr} (h:L∈base.fr):L∉ms:=fun q=>by
 obtain⟨o,vs,n,ho,hd⟩:=r.seqs L q
 obtain⟨_,o',ho',es,ep,hd'⟩:=r.frs L h
 rw [ho] at ho'; cases ho'
 rw [hd] at hd'; cases hd'
theorem SR.frNew {base ms st s} (r:SR base ms st s) {a:Addr} (h:s.heap.objs.size≤a):a∉base.fr:=fun q=>by
 obtain⟨_,o,ho,_⟩:=r.frs a q
 exact absurd (Heap.lt_size ho) (Nat.not_lt.mpr h)
theorem SR.lt {base ms st s} (r:SR base ms st s) {a:Addr} {o:Obj} (e:base.get? a=some o):a < s.heap.objs.size:=by
 obtain⟨o',e',_⟩:=r.keep a o e
 exact Heap.lt_size e'
theorem isHid_eq {l:List D} (h:eT l=true):l=[.cell 0]:=by
 induction l using List.casesOn with
 | nil=>exact absurd h Bool.false_ne_true
 | cons d r =>
  induction d using D.casesOn with
  | cell k=>rw [eq_of_beq (and2 h).1,List.isEmpty_iff.mp (and2 h).2]
  | _=>exact absurd h Bool.false_ne_true
theorem nH {l:List D} (h:noCells l=true):eT l=false:=Bool.eq_false_iff.mpr fun q=>by rw [isHid_eq q] at h; exact absurd h Bool.false_ne_true
theorem dQ {W:Addr→Prop} {s:Shared} {ms:List Addr} (o:Obj) {tk:Nat} (ht:s.toks≤tk) (hk:∀ a o,W a→s.heap.get? a=some o→¬ isSeqData o):Ext W s ms { s with heap:=s.heap.push o,toks:=tk } ms :=
 ⟨rfl,rfl,ht,by simp,fun _ _ e=>e,fun _ h=>.inl h,fun _ _ _ _ e=>.of (Heap.get?_push_of_some _ e),hk⟩
theorem dN {s:Shared} {ms:List Addr} {tk:Nat} (ht:s.toks≤tk):Ext No s ms { s with toks:=tk } ms :=
 ⟨rfl,rfl,ht,Nat.le_refl _,fun _ _ e=>e,fun _ h=>.inl h,fun _ _ _ _ e=>.of e,fun _ _ f=>f.elim⟩
theorem SR.ext {W base ms st s s'} (r:SR base ms st s) (x:Ext W s ms s' ms) (hw:∀ a,W a→base.get? a=none) (hk:∀ a∈ms,∀ o,s.heap.get? a=some o→s'.heap.get? a=some o)
  (hx:∀ a o,base.get? a=some o→s.heap.get? a=some o→s'.heap.get? a=some o) (hf:∀ L∈base.fr,W L→∃ o,s'.heap.get? L=some o∧isFr o:=by intro _ _ f; exact f.elim):SR base ms st s' :=
 { r with
  keepx:=fun a o e=>hx a o e (r.keepx a o e)
  frs:=fun L hL=>by
   obtain⟨h1,o,ho,hd⟩:=r.frs L hL
   refine⟨h1,?_⟩
   by_cases hWL:W L
   ·exact hf L hL hWL
   ·obtain⟨o',e',s'⟩:=x.keep L o (r.frAway hL) hWL ho
    exact⟨o',e',s'.fr hd⟩
  lists:=fun k l e=>by
   obtain⟨a,vs,n,hm,ho,hr⟩:=r.lists k l e
   exact⟨a,vs,n,hm,hk a (List.mem_of_getElem? hm) _ ho,hr.ext x⟩
  toks:=Nat.lt_of_lt_of_le r.toks x.toks
  seqs:=fun a ha=>by
   obtain⟨o,vs,n,ho,hd⟩:=r.seqs a ha
   exact⟨o,vs,n,hk a ha o ho,hd⟩
  hids:=fun k a l h1 h2 h3=>by
   obtain⟨x,y,ho⟩:=r.hids k a l h1 h2 h3
   exact⟨x,y,hk a (List.mem_of_getElem? h1) _ ho⟩ }
theorem SR.push {base ms st s} (r:SR base ms st s) (o:Obj) {tk:Nat} (ht:s.toks≤tk):SR base ms st { s with heap:=s.heap.push o,toks:=tk } :=
 r.ext (dQ (W:=No) o ht fun _ _ f=>f.elim) (fun _ f=>f.elim) (fun _ _ _ e=>Heap.get?_push_of_some _ e) fun _ _ _ e=>Heap.get?_push_of_some _ e
theorem SR.toks' {base ms st s} (r:SR base ms st s) {tk:Nat} (ht:s.toks≤tk):SR base ms st { s with toks:=tk } :=
 r.ext (dN ht) (fun _ f=>f.elim) (fun _ _ _ e=>e) fun _ _ _ e=>e
theorem gF {s:Shared} {ms:List Addr} {h:Heap} {tk:Nat} (ht:s.toks≤tk) (hz:s.heap.objs.size≤h.objs.size) (hk:∀ a o,s.heap.get? a=some o→h.get? a=some o):Ext No s ms { s with heap:=h,toks:=tk } ms :=
 ⟨rfl,rfl,ht,hz,fun _ _ e=>e,fun _ h=>.inl h,fun a o _ _ e=>.of (hk a o e),fun _ _ f=>f.elim⟩
theorem SR.heap' {base ms st s} (r:SR base ms st s) {h:Heap} {tk:Nat} (ht:s.toks≤tk) (hz:s.heap.objs.size≤h.objs.size) (hk:∀ a o,s.heap.get? a=some o→h.get? a=some o):SR base ms st { s with heap:=h,toks:=tk } :=
 r.ext (gF ht hz hk) (fun _ f=>f.elim) (fun a _ o e=>hk a o e) fun a o _ e=>hk a o e
theorem aV {ms:List Addr} {k:Nat} {a:Addr} (h:ms[k]? = some a):a∈ms:=List.mem_of_getElem? h
theorem SR.update {base ms st s} (r:SR base ms st s) {k:Nat} {a:Addr} {h:Heap} {l:List D} {vs:List Value} {tk n:Nat} (hk:k < st.length) (ht:s.toks≤tk) (hm:ms[k]? = some a) (hs:Heap.SameBut a s.heap h)
  (hl:IsL h a vs.toArray n) (hr:Reps ms s.heap l vs) (hc:noCells l=true):Ext No s ms { s with heap:=h,toks:=tk } ms∧SR base ms (st.set k l) { s with heap:=h,toks:=tk }:=by
 have x:Ext No s ms { s with heap:=h,toks:=tk } ms :=
  ⟨rfl,rfl,ht,Nat.le_of_eq hs.1.symm,fun _ _ e=>e,fun _ h=>.inl h,fun b o hb _ e=>.of ((hs.2 b (fun q=>hb (q▸aV hm))).trans e),fun _ _ f=>f.elim⟩
 refine⟨x,⟨fun b o e=>?_,r.fresh,r.nodup,by rw [r.len,List.length_set],fun j l' e=>?_,fun j l' e=>?_,Nat.lt_of_lt_of_le r.toks ht,fun b hb=>?_,fun j b l' h1 h2 h3=>?_,fun L hL=>?_⟩⟩
 ·exact (hs.2 b (fun q=>by rw [q,r.fresh a (aV hm)] at e; exact nn e)).trans (r.keepx b o e)
 ·rw [aN] at e
  by_cases hj:k=j
  ·subst hj
   rw [List.getElem?_set_self hk] at e
   cases e.1
   exact⟨a,vs,n,hm,hl,hr.ext x⟩
  ·rw [List.getElem?_set_ne hj,← aN] at e
   obtain⟨b,ws,n',hb,ho,hr'⟩:=r.lists j l' e
   refine⟨b,ws,n',hb,(hs.2 b (fun q=>hj ?_)).trans ho,hr'.ext x⟩
   subst q
   exact (List.getElem?_inj (by rw [r.len]; exact hk) r.nodup).mp (hm.trans hb.symm)
 ·rw [aN] at e
  by_cases hj:k=j
  ·subst hj
   rw [List.getElem?_set_self hk] at e
   cases e.1
   exact hc
  ·rw [List.getElem?_set_ne hj,← aN] at e
   exact r.clean j l' e
 ·by_cases hba:b=a
  ·subst hba
   exact⟨_,_,_,hl,rfl⟩
  ·obtain⟨o,ws,m,ho,hd⟩:=r.seqs b hb
   exact⟨o,ws,m,(hs.2 b hba).trans ho,hd⟩
 ·by_cases hj:k=j
  ·subst hj
   rw [List.getElem?_set_self hk] at h2
   cases h2
   rw [nH hc] at h3; cases h3
  ·rw [List.getElem?_set_ne hj] at h2
   obtain⟨x',y',ho⟩:=r.hids j b l' h1 h2 h3
   refine⟨x',y',(hs.2 b (fun q=>hj ?_)).trans ho⟩
   subst q
   exact (List.getElem?_inj (by rw [r.len]; exact hk) r.nodup).mp (hm.trans h1.symm)
 ·obtain⟨h1,o,ho,hd⟩:=r.frs L hL
  exact⟨h1,o,(hs.2 L (fun q=>r.frAway hL (q▸aV hm))).trans ho,hd⟩
theorem SR.grow' {base ms st s} (r:SR base ms st s) {h:Heap} {tk:Nat} {a:Addr} {l:List D} (ht:s.toks≤tk) (ha:s.heap.objs.size≤a) (hz:s.heap.objs.size≤h.objs.size) (hk:∀ b o,s.heap.get? b=some o→h.get? b=some o)
  (hl:eT l=false→∃ vs n,IsL h a vs.toArray n∧Reps ms s.heap l vs) (hq:∃ o vs n,h.get? a=some o∧o.data=.seq vs n) (hc:eT l=false→noCells l=true) (hp:eT l=true→∃ x y,h.get? a=some { cls:=.type "tuple",data:=.seq #[x,y] }):Ext No s ms { s with heap:=h,toks:=tk } (ms++[a])∧SR base (ms++[a]) (st++[l]) { s with heap:=h,toks:=tk }:=by
 have hn:a∉ms:=fun q=>by
  obtain⟨o,vs,n,ho,_⟩:=r.seqs a q
  exact absurd (Heap.lt_size ho) (Nat.not_lt.mpr ha)
 have hb:base.get? a=none:=by
  cases q:base.get? a with
  | none=>rfl
  | some o=>exact absurd (r.lt q) (Nat.not_lt.mpr ha)
 have x:Ext No s ms { s with heap:=h,toks:=tk } (ms++[a]) :=
  ⟨rfl,rfl,ht,hz,fun k b e=>by
   have:=(List.getElem?_eq_some_iff.mp e).1
   rw [List.getElem?_append_left this]; exact e,fun b hb=>by
   rcases List.mem_append.mp hb with q | q
   ·exact .inl q
   ·rw [List.mem_singleton.mp q]; exact .inr ha,fun b o _ _ e=>.of (hk b o e),fun _ _ f=>f.elim⟩
 refine⟨x,⟨fun b o e=>?k0,fun b q=>?_,?_,by simp [r.len],fun k l' e=>?_,fun k l' e=>?_,Nat.lt_of_lt_of_le r.toks ht,fun b q=>?_,fun k b l' h1 h2 h3=>?_,fun L hL=>?k9⟩⟩
 case k0 =>
  exact hk b o (r.keepx b o e)
 case k9 =>
  obtain⟨h1,o,ho,hd⟩:=r.frs L hL
  exact⟨h1,o,hk L o ho,hd⟩
 ·rcases List.mem_append.mp q with q | q
  ·exact r.fresh b q
  ·rw [List.mem_singleton.mp q]; exact hb
 ·rw [List.nodup_append]
  exact⟨r.nodup,by simp,fun b hb' c hc' e=>by rw [List.mem_singleton.mp hc'] at e; subst e; exact hn hb'⟩
 ·rw [aN] at e
  by_cases hk':k < st.length
  ·rw [List.getElem?_append_left hk',← aN] at e
   obtain⟨b,ws,n',hm,ho,hr'⟩:=r.lists k l' e
   exact⟨b,ws,n',x.pre k b hm,hk b _ ho,hr'.ext x⟩
  ·have hk2:k=st.length:=by
    have:=(List.getElem?_eq_some_iff.mp e.1).1
    simp at this; lia
   subst hk2
   have e1:l=l':=by have:=e.1; simpa using this
   subst e1
   obtain⟨vs,n,hl,hr⟩:=hl e.2
   exact⟨a,vs,n,by rw [← r.len]; simp,hl,hr.ext x⟩
 ·rw [aN] at e
  by_cases hk':k < st.length
  ·rw [List.getElem?_append_left hk',← aN] at e
   exact r.clean k l' e
  ·have hk2:k=st.length:=by
    have:=(List.getElem?_eq_some_iff.mp e.1).1
    simp at this; lia
   subst hk2
   have e1:l=l':=by have:=e.1; simpa using this
   subst e1
   exact hc e.2
 ·rcases List.mem_append.mp q with q | q
  ·obtain⟨o,vs,n,ho,hd⟩:=r.seqs b q
   exact⟨o,vs,n,hk b o ho,hd⟩
  ·rw [List.mem_singleton.mp q]; exact hq
 ·by_cases hk':k < st.length
  ·rw [List.getElem?_append_left hk'] at h2
   rw [List.getElem?_append_left (by rw [r.len]; exact hk')] at h1
   obtain⟨x',y',ho⟩:=r.hids k b l' h1 h2 h3
   exact⟨x',y',hk b _ ho⟩
  ·have hk2:k=st.length:=by
    have:=(List.getElem?_eq_some_iff.mp h2).1
    simp at this; lia
   subst hk2
   have e1:l=l':=by simpa using h2
   subst e1
   have e2:a=b:=by rw [← r.len] at h1; simpa using h1
   subst e2
   exact hp h3
theorem SR.grow {base ms st s} (r:SR base ms st s) {h:Heap} {tk:Nat} {a:Addr} {vs:List Value} {l:List D} {n:Nat} (ht:s.toks≤tk) (ha:s.heap.objs.size≤a) (hz:s.heap.objs.size≤h.objs.size) (hk:∀ b o,s.heap.get? b=some o→h.get? b=some o)
  (hl:IsL h a vs.toArray n) (hr:Reps ms s.heap l vs) (hc:noCells l=true):Ext No s ms { s with heap:=h,toks:=tk } (ms++[a])∧SR base (ms++[a]) (st++[l]) { s with heap:=h,toks:=tk } :=
 r.grow' ht ha hz hk (fun _=>⟨vs,n,hl,hr⟩) ⟨_,_,_,hl,rfl⟩ (fun _=>hc) (fun q=>by rw [nH hc] at q; cases q)
theorem SR.take {base ms st s} (r:SR base ms st s) (n:Nat) (hn:n≤st.length):SR base (ms.take n) (st.take n) s:=by
 refine⟨r.keepx,fun a ha=>r.fresh a (List.mem_of_mem_take ha),List.Sublist.nodup (List.take_sublist _ _) r.nodup,by simp [r.len],fun k l e=>?_,fun k l e=>?_,r.toks,fun a ha=>r.seqs a (List.mem_of_mem_take ha),fun k a l h1 h2 h3=>?_,r.frs⟩
 rotate_left
 ·rw [aN] at e
  have hk:k < n:=by
   have:=(List.getElem?_eq_some_iff.mp e.1).1
   simp at this; lia
  rw [List.getElem?_take_of_lt hk] at e
  exact r.clean k l (aN.mpr e)
 ·have hk:k < n:=by
   have:=(List.getElem?_eq_some_iff.mp h2).1
   simp at this; lia
  rw [List.getElem?_take_of_lt hk] at h1 h2
  exact r.hids k a l h1 h2 h3
 rw [aN] at e
 have hk:k < n:=by
  have:=(List.getElem?_eq_some_iff.mp e.1).1
  simp at this; lia
 rw [List.getElem?_take_of_lt hk] at e
 obtain⟨a,vs,n',hm,hl,hr⟩:=r.lists k l (aN.mpr e)
 refine⟨a,vs,n',by rw [List.getElem?_take_of_lt hk]; exact hm,hl,Reps.less (fun a ha=>List.mem_of_mem_take ha) _ _ ?_ hr⟩
 exact r.clean k l (aN.mpr e)
set_option genInjectivity false in
structure AOk (n:Nat) (A:Around):Prop where
 handled:A.handled=none
 depth:A.depth+n < 900
 units:A.units+10 * n < 9000
theorem AOk.in1 {n A} (x:AOk (n+1) A):AOk n A.in1:=⟨x.handled,by have:=x.depth; simp; lia,by have:=x.units; simp; lia⟩
theorem AOk.less {n m A} (x:AOk n A) (h:m≤n):AOk m A:=⟨x.handled,by have:=x.depth; lia,by have:=x.units; lia⟩
theorem AOk.room {n A} (x:AOk n A):A.depth < recursionLimit:=by have:=x.depth; unfold recursionLimit; lia
theorem AOk.deeper {n A} (x:AOk (n+1) A) (env:Env):AOk n (A.deeper env):=⟨x.handled,by have:=x.depth; simp [Around.deeper]; lia,by have:=x.units; simp; lia⟩
theorem AOk.cline {n A} (x:AOk n A):A.units < cLine:=by have:=x.units; unfold cLine; lia
end Mine
end
section -- S2
open PySem PyProof.Rows
namespace Mine
section
variable {prog:Program} {w:World} {A:Around} {s:Shared} {base:Base} {ms:List Addr} {st:Store}
noncomputable def Makes (prog:Program) (w:World) (A:Around) (base:Base) (ms:List Addr) (st:Store) (s:Shared) (t:Sem Value) (d:D):Prop :=
 ∀ (Q:Value→Shared→Prop) (E:Value→Shared→Prop),(∀ v s',Ext No s ms s' ms→SR base ms st s'→Rep ms s'.heap d v→Q v s')→wpAny (model prog w) A t Q E s
noncomputable def Grows (s s':Shared):Prop:=s.toks≤s'.toks∧s.heap.objs.size≤s'.heap.objs.size
theorem Makes.of {t:Sem Value} {d:D}
  (h:∀ (Q:Value→Shared→Prop) (E:Value→Shared→Prop),(∀ v s',(Grows s s'→Ext No s ms s' ms)→(Grows s s'→SR base ms st s')→Rep ms s'.heap d v→Q v s')→wpAny (model prog w) A t Q E s) :
  Makes prog w A base ms st s t d:=fun Q E hQ =>
 aM (h _ _ fun v s' x r p ht hz=>hQ v s' (x ⟨ht,hz⟩) (r ⟨ht,hz⟩) p)
noncomputable abbrev Back (base:Base) (ms:List Addr) (st:Store) (s:Shared) (d:D) (Q:Value→Shared→Prop):Prop :=
 ∀ v s',(Grows s s'→Ext No s ms s' ms)→(Grows s s'→SR base ms st s')→Rep ms s'.heap d v→Q v s'
theorem fB (r:SR base ms st s) {d:D} {v:Value} {h:Heap} {tk:Nat} {Q:Value→Shared→Prop} (hk:∀ a o,s.heap.get? a=some o→h.get? a=some o) (hp:Rep ms h d v)
  (hQ:Back base ms st s d Q):Q v { s with heap:=h,toks:=tk } :=
 hQ v _ (fun ht=>gF ht.1 ht.2 hk) (fun ht=>r.heap' ht.1 ht.2 hk) hp
theorem aJ (r:SR base ms st s) {d:D} {v:Value} {tk:Nat} {Q:Value→Shared→Prop} (hp:Rep ms s.heap d v) (hQ:Back base ms st s d Q):Q v { s with toks:=tk } :=
 fB r (h:=s.heap) (fun _ _ e=>e) hp hQ
theorem fA (r:SR base ms st s) {d:D} {v:Value} {Q:Value→Shared→Prop} (hp:Rep ms s.heap d v) (hQ:Back base ms st s d Q):Q v s :=
 aJ r hp hQ (tk:=s.toks)
theorem dD (r:SR base ms st s) {d:D} {v:Value} {o:Obj} {tk:Nat} {Q:Value→Shared→Prop} (hp:Rep ms (s.heap.push o) d v)
  (hQ:Back base ms st s d Q):Q v { s with heap:=s.heap.push o,toks:=tk } :=
 fB r (fun _ _ e=>Heap.get?_push_of_some _ e) hp hQ
theorem cP (i:Int) (t:Tok) (h:Heap):Rep ms h (.int i) (.int i t):=by rw [Rep]; exact⟨t,rfl⟩
theorem dP (b:Bool) (h:Heap):Rep ms h (.bool b) (.bool b):=by rw [Rep]
theorem kQ (h:Heap):Rep ms h .none .none:=by rw [Rep]
theorem eX (l:List Nat) (t:Tok) (h:Heap):Rep ms h (.str l) (.str ⟨l.toArray⟩ t):=by rw [Rep]; exact⟨t,rfl⟩
theorem aMz (x:Str) (t:Tok) (h:Heap):Rep ms h (.str x.cps.toList) (.str x t):=by rw [Rep]; exact⟨t,by simp⟩
theorem iL (n:String) (h:Heap):Rep ms h (.type n) (.type n):=by rw [Rep]
theorem dS (r:SR base ms st s):s.heap.objs.size∉ms:=fun q=>by
 obtain⟨o,vs,n,ho,_⟩:=r.seqs _ q
 exact absurd (Heap.lt_size ho) (Nat.lt_irrefl _)
theorem sM (r:SR base ms st s) {ds:List D} {vs:List Value} (o:Obj) (h:Reps ms s.heap ds vs):Reps ms (s.heap.push o) ds vs :=
 h.ext (dQ (W:=No) (s:=s) (tk:=s.toks) o (Nat.le_refl _) fun _ _ f=>f.elim)
theorem aVr (r:SR base ms st s) {ds:D} {vs:Value} (o:Obj) (h:Rep ms s.heap ds vs):Rep ms (s.heap.push o) ds vs :=
 h.ext (dQ (W:=No) (s:=s) (tk:=s.toks) o (Nat.le_refl _) fun _ _ f=>f.elim)
theorem bW (r:SR base ms st s) {ds:List D} {vs:List Value} {n:Nat} (h:Reps ms s.heap ds vs) :
  Rep ms (s.heap.push { cls:=.type "list",data:=.seq vs.toArray n }) (.list ds) (.ref s.heap.objs.size):=by
 rw [Rep]
 exact⟨_,vs,rfl,dS r,⟨_,Heap.get?_push_size _ rfl,rfl,_,rfl⟩,sM r _ h⟩
theorem jO (r:SR base ms st s) {ds:List D} {vs:List Value} {n:Nat} (h:Reps ms s.heap ds vs) :
  Rep ms (s.heap.push { cls:=.type "tuple",data:=.seq vs.toArray n }) (.tuple ds) (.ref s.heap.objs.size):=by
 rw [Rep]
 exact⟨_,vs,rfl,dS r,⟨_,Heap.get?_push_size _ rfl,rfl,_,rfl⟩,sM r _ h⟩
theorem aO {ds:List D} {v:Value} {h:Heap} (x:Rep ms h (.list ds) v):∃ a vs,v=.ref a∧a∉ms∧h.IsList a vs.toArray∧Reps ms h ds vs:=by exact x
theorem mX {i:Int}:small i=true↔-1000000000000000000 < i∧i < 1000000000000000000:=by simp [small]
theorem aZ {n:Nat}:fits n=true↔n≤16000000:=by simp [fits]
theorem eD {i:Int} (h:small i=true):Builtin.Int.intBits i≤64:=by
 rw [mX] at h
 exact intBits_le_64 (by lia) (by omega)
theorem zK {l b:Addr} {vs ws:List Value} {Q:Value→Shared→Prop} {E:Value→Shared→Prop} (hl:s.heap.IsList l vs.toArray) (hb:s.heap.IsList b ws.toArray)
  (h:Q (.ref s.heap.objs.size) { s with heap:=s.heap.push { cls:=.type "list",data:=.seq (vs++ws).toArray } })
  (hsz:vs.length+ws.length≤sizeLine) :
  wpAny (model prog w) A (binaryOp .Add (.ref l) (.ref b)) Q E s:=by
 obtain⟨⟨cls,dd,data,sl⟩,ho,hc,n,hd⟩:=id hl
 obtain⟨⟨cls2,dd2,data2,sl2⟩,ho2,hc2,n2,hd2⟩:=id hb
 simp only at hc hd hc2 hd2
 subst hc hd hc2 hd2
 have e:vs.toArray++ws.toArray=(vs++ws).toArray:=by simp
 refine concat_meets ⟨_,ho,rfl⟩ ⟨_,ho2,rfl⟩ noFill_list_add seq_list_add PySem.F.slot_list_add PySem.F.entry_list_add (PySem.F.args_list_add_2 _ _) (list_addW l b vs.toArray ws.toArray n n2 dd dd2 sl sl2 (by simpa using hsz)) ⟨ho,ho2,?_⟩
 rw [e]
 exact h
theorem aQj {op:Operator} {a b:Int} {d:D} {v₁ v₂:Value} (e:binI op a b=some d) (r:SR base ms st s) (p₁:Rep ms s.heap (.int a) v₁) (p₂:Rep ms s.heap (.int b) v₂):Makes prog w A base ms st s (binaryOp op v₁ v₂) d:=by
 obtain⟨t,rfl⟩:=p₁; obtain⟨u,rfl⟩:=p₂
 have m:∀ {x:Int} {t:Tok} {tk:Nat} {Q:Value→Shared→Prop} (hQ:Back base ms st s (.int x) Q),Q (.int x t) { s with toks:=tk }:=fun hQ=>aJ r (cP _ _ _) hQ
 have e27:(2:Int) ^ 27=134217728:=by decide
 induction op using PySem.Operator.casesOn with
 | Add=>exact ret1 e (Makes.of fun Q E hQ=>add_int (m hQ))
 | Sub=>exact ret1 e (Makes.of fun Q E hQ=>sub_int (m hQ))
 | Mult=>exact ifS e fun h e=>ret1 e (Makes.of fun Q E hQ=>mul_int (m hQ) (IntMulOk.of_left (eD (and2 h).1)))
 | FloorDiv =>
  refine ifS e fun h e=>ret1 e (Makes.of fun Q E hQ=>?_)
  have hb:=eD (and2 h).1
  have hb0:b≠0:=beq_eq_false_iff_ne.mp (no (and2 h).2)
  refine floordiv_int hb0 (m hQ) (Or.inl (PyProof.noPylong_of_log2 ?_))
  unfold Builtin.Int.intBits at hb
  rw [if_neg (by simpa using hb0)] at hb
  lia
 | Mod=>exact ifN e fun h e=>ret1 e (Makes.of fun Q E hQ=>mod_int (fun q=>h (q▸beq_self_eq_true _)) (m hQ))
 | Pow =>
  refine ifS e fun h e=>ret1 e (Makes.of fun Q E hQ=>?_)
  have h0:=of_decide_eq_true (and2 (and2 h).1).1
  refine pow_int h0 ?_ (m hQ)
  rw [e27]
  exact Int.le_trans (Int.mul_le_mul_of_nonneg_right (Int.ofNat_le.mpr (eD (and2 h).2)) h0) (Int.le_trans (Int.mul_le_mul_of_nonneg_left (of_decide_eq_true (and2 (and2 h).1).2) (by decide)) (by decide))
 | LShift =>
  refine ifS e fun h e=>ret1 e (Makes.of fun Q E hQ=>lshift_int (of_decide_eq_true (and2 (and2 h).1).1) ?_ (m hQ))
  have:=eD (and2 h).2
  have:=of_decide_eq_true (and2 (and2 h).1).2
  lia
 | RShift=>exact ifS e fun h e=>ret1 e (Makes.of fun Q E hQ=>rshift_int h (m hQ))
 | BitAnd=>exact ret1 e (Makes.of fun Q E hQ=>and_int (m hQ))
 | BitOr=>exact ret1 e (Makes.of fun Q E hQ=>or_int (m hQ))
 | _=>exact nn e
theorem aOm {a b:List Nat} {v₁ v₂:Value} (h:fits (a.length+b.length)=true) (r:SR base ms st s) (p₁:Rep ms s.heap (.str a) v₁) (p₂:Rep ms s.heap (.str b) v₂):Makes prog w A base ms st s (binaryOp .Add v₁ v₂) (.str (a++b)):=by
 refine Makes.of fun Q E hQ=>?_
 rw [aZ] at h
 obtain⟨t,rfl⟩:=p₁; obtain⟨u,rfl⟩:=p₂
 refine add_str (fun t' tk=>?_) (by unfold sizeLine; simp [Str.length]; lia)
 have e:(⟨a.toArray⟩:Str)++⟨b.toArray⟩=⟨(a++b).toArray⟩:=by show Str.mk _=_; simp
 rw [e]
 exact aJ r (eX _ _ _) hQ
set_option tactic.hygienic true in
theorem aQg {a:List Nat} {n:Int} {v₁ v₂:Value} (h:(decide (0≤n)&&decide (n≤1000)&&decide (a.length≤1000))=true) (r:SR base ms st s) (p₁:Rep ms s.heap (.str a) v₁) (p₂:Rep ms s.heap (.int n) v₂):Makes prog w A base ms st s (binaryOp .Mult v₁ v₂) (.str (List.replicate n.toNat a).flatten):=by
 refine Makes.of fun Q E hQ=>?_
 simp only [Bool.and_eq_true,decide_eq_true_eq] at h
 obtain⟨t,rfl⟩:=p₁; obtain⟨u,rfl⟩:=p₂
 refine SB.mul (mulOk_of 1000 1000 (by simpa [Str.length] using h.2) (by omega) (by lia) (by decide) (by decide)) fun t' k=>?_
 have e:Txt.mul ⟨a.toArray⟩ n=⟨((List.replicate n.toNat a).flatten).toArray⟩:=by
  unfold Txt.mul
  split
  ·have:n.toNat=0:=by lia
   rw [this]; rfl
  ·split
   ·rename_i h1 h2
    rw [Bool.or_eq_true] at h2
    rcases h2 with h2 | h2
    ·have:n=1:=by simpa using h2
     subst this; simp
    ·have:a=[]:=by simpa [Str.length] using h2
     subst this; simp
   ·congr 1
    apply Array.ext'
    have key:∀ (k:Nat) (acc:Array Nat),((List.replicate k a.toArray).foldl (·++·) acc).toList=acc.toList++(List.replicate k a).flatten:=by
     intro k
     induction k with
     | zero=>intro acc; simp
     | succ k ih=>intro acc; rw [List.replicate_succ,List.foldl_cons,ih]; simp [List.replicate_succ]
    rw [key]; simp
 rw [e]
 exact aJ r (eX _ _ _) hQ
theorem aJq {a b:List D} {v₁ v₂:Value} (h:fits (a.length+b.length)=true) (r:SR base ms st s) (p₁:Rep ms s.heap (.list a) v₁) (p₂:Rep ms s.heap (.list b) v₂):Makes prog w A base ms st s (binaryOp .Add v₁ v₂) (.list (a++b)):=by
 refine Makes.of fun Q E hQ=>?_
 rw [aZ] at h
 obtain⟨x,vs,rfl,hx,hl,hr⟩:=aO p₁
 obtain⟨y,ws,rfl,hy,hl',hr'⟩:=aO p₂
 refine zK hl hl' ?_ (by rw [hr.length,hr'.length]; unfold sizeLine; lia)
 exact dD r (bW r (hr.append hr')) hQ
theorem aKw {op:Operator} {a b d:D} {v₁ v₂:Value} (e:binop op a b=some d) (r:SR base ms st s) (p₁:Rep ms s.heap a v₁) (p₂:Rep ms s.heap b v₂):Makes prog w A base ms st s (binaryOp op v₁ v₂) d:=by
 induction a using D.casesOn with
 | int a=>exact bE (o:=intD b) e fun b hb e=>aQj e r p₁ (aR hb▸p₂)
 | str a=>induction op using PySem.Operator.casesOn with
  | Add=>exact bE (o:=strD b) e fun b hb e=>ifS e fun h e=>ret1 e (aOm h r p₁ (eY hb▸p₂))
  | Mult=>exact bE (o:=intD b) e fun b hb e=>ifS e fun h e=>ret1 e (aQg h r p₁ (aR hb▸p₂))
  | _=>exact nn e
 | list a=>induction op using PySem.Operator.casesOn with
  | Add=>exact bE (o:=dE b) e fun b hb e=>ifS e fun h e=>ret1 e (aJq h r p₁ (bS hb▸p₂))
  | _=>exact nn e
 | _=>exact nn e
end
end Mine
end
section -- S3
open PySem PyProof.Rows PySem.SeqAt
namespace Mine
section
variable {prog:Program} {w:World} {A:Around} {s:Shared} {base:Base} {ms:List Addr} {st:Store}
theorem EqAt.bytes (a:Array UInt8) (t:Tok) (b:Array UInt8) (u:Tok):EqAt A s (.bytes a t) (.bytes b u) (a.toList == b.toList):=fun prog w E Q h=>by
 unfold eqBool
 refine wpAny_holding ?_
 refine wpAny_ite_split (fun hab=>?_) (fun _=>?_)
 ·have e:=eq_of_beq hab
  injection e with e1 e2
  subst e1
  exact wpAny_bind (wpAny_rule (wpAny_pure (by simpa using h)))
 ·exact wpAny_bind (PySem.W.eq_bytes (wpAny_truthy_bool h))
theorem rC {a b:List UInt8}:a.map UInt8.toNat=b.map UInt8.toNat↔a=b:=by
 constructor
 ·intro h
  exact List.map_inj_right (fun x y e=>UInt8.toNat.inj e) |>.mp h
 ·rintro rfl; rfl
theorem aGu {a b:List UInt8}:(a == b)=decide (a.map UInt8.toNat=b.map UInt8.toNat):=by
 by_cases h:a=b
 ·subst h; simp
 ·rw [decide_eq_false (fun e=>h (rC.mp e))]
  simpa using h
theorem gU {ds:List D} {v:Value} {h:Heap} (x:Rep ms h (.tuple ds) v):∃ a vs,v=.ref a∧a∉ms∧h.IsTuple a vs.toArray∧Reps ms h ds vs:=by exact x
noncomputable def aDv (x:Bool) (e:Nat→Bool) (n:Nat):Bool:=by
 induction n using Nat.casesOn with
 | zero=>exact x
 | succ n=>exact e n
theorem nK (x:Bool) (e:Nat→Bool) (n:Nat):(List.range (n+1)).all (aDv x e)=(x&&(List.range n).all e)∧(List.range (n+1)).any (aDv x e)=(x || (List.range n).any e):=by
 rw [List.range_succ_eq_map,List.all_cons,List.all_map,List.any_cons,List.any_map]
 exact⟨rfl,rfl⟩
theorem oV {f:D→D→Option Bool} (as:List D):∀ {bs:List D} {b:Bool},as.length=bs.length→deqL f as bs=some b →
  ∃ e:Nat→Bool,(∀ (j:Nat) x y,as[j]? = some x→bs[j]? = some y→f x y=some (e j))∧(List.range as.length).all e=b:=by
 induction as with
 | nil =>
  intro bs b hl h
  cases List.length_eq_zero_iff.mp hl.symm
  exact⟨fun _=>true,fun j x y hx=>nn hx,Option.some.inj h⟩
 | cons a as ih =>
  intro bs b hl h
  induction bs using List.casesOn with
  | nil=>exact nomatch hl
  | cons c cs =>
   refine bE (o:=f a c) h fun x hx h=>mE (o:=deqL f as cs) h fun y hy h=>?_
   obtain⟨e,h1,h2⟩:=ih (Nat.succ.inj hl) hy
   refine⟨aDv x e,fun j p q hp hq=>?_,((nK x e _).1.trans (congrArg _ h2)).trans h⟩
   induction j using Nat.casesOn with
   | zero=>cases Option.some.inj hp; cases Option.some.inj hq; exact hx
   | succ j=>exact h1 j p q hp hq
inductive AtomEq:Value→Value→Bool→Prop
 | none:AtomEq .none .none true
 | bool (a b:Bool):AtomEq (.bool a) (.bool b) (a == b)
 | int (a b:Int) (t u:Tok):AtomEq (.int a t) (.int b u) (a == b)
 | str (x y:Str) (t u:Tok):AtomEq (.str x t) (.str y u) (x == y)
 | bytes (x y:Array UInt8) (t u:Tok):AtomEq (.bytes x t) (.bytes y u) (x.toList == y.toList)
theorem aOp (x y:List Nat):((⟨x.toArray⟩:Str) == ⟨y.toArray⟩)=decide (x=y):=by rw [Bool.eq_iff_iff]; simp
theorem deqF_inv {h:Heap} {a b:D} {v₁ v₂:Value} {c:Bool} (e:deqF a b=some c) (p₁:Rep ms h a v₁) (p₂:Rep ms h b v₂):AtomEq v₁ v₂ c:=by
 induction a using D.casesOn with
 | none =>
  refine ifS e fun hb e=>?_
  subst p₁
  cases gM hb
  subst p₂
  exact ret1 e .none
 | bool x =>
  refine mE e fun y hy e=>?_
  rw [xJ hy] at p₂
  subst p₁ p₂ e
  exact .bool x y
 | int x =>
  refine mE e fun y hy e=>?_
  rw [aR hy] at p₂
  obtain⟨t,rfl⟩:=p₁; obtain⟨u,rfl⟩:=p₂
  subst e
  exact .int x y t u
 | str x =>
  refine mE e fun y hy e=>?_
  rw [eY hy] at p₂
  obtain⟨t,rfl⟩:=p₁; obtain⟨u,rfl⟩:=p₂
  exact ((aOp x y).trans e)▸.str _ _ t u
 | bytes x =>
  refine mE e fun y hy e=>?_
  rw [nR hy] at p₂
  obtain⟨x,t,rfl,rfl⟩:=p₁; obtain⟨y,u,rfl,rfl⟩:=p₂
  exact (aGu.trans e)▸.bytes x y t u
 | _=>exact nn e
theorem AtomEq.same {v u:Value} {c:Bool} (x:AtomEq v u c):v=u→c=true:=by
 induction x with
 | none=>exact fun _=>rfl
 | bool a b=>exact fun h=>beq_iff_eq.mpr (Value.bool.inj h)
 | int a b=>exact fun h=>beq_iff_eq.mpr (Value.int.inj h).1
 | str a b=>exact fun h=>beq_iff_eq.mpr (Value.str.inj h).1
 | bytes a b=>exact fun h=>beq_iff_eq.mpr (congrArg _ (Value.bytes.inj h).1)
theorem AtomEq.eqAt {v u:Value} {c:Bool} (x:AtomEq v u c):EqAt A s v u c:=by
 induction x with
 | none=>exact EqAt.same _
 | bool a b=>exact EqAt.bool_bool a b
 | int a b t u=>exact EqAt.int_int a t b u
 | str a b t u=>exact EqAt.str_str a t b u
 | bytes a b t u=>exact EqAt.bytes a t b u
noncomputable def xD (h:Heap) (a:Addr) (vs:List Value):Prop:=∃ o n,h.get? a=some o∧o.data=.seq vs.toArray n
theorem aJj {h:Heap} {a:Addr} {xs ys:List Value} (x:xD h a xs) (y:xD h a ys):xs=ys:=by
 obtain⟨o,n1,ho,hd⟩:=x
 obtain⟨o',n2,ho',hd'⟩:=y
 rw [Option.some.inj (ho.symm.trans ho')] at hd
 exact congrArg Array.toList (Data.seq.inj (hd.symm.trans hd')).1
theorem aLw {h:Heap} {a:Addr} {vs:List Value} (x:h.IsList a vs.toArray):xD h a vs:=x.elim fun o p=>p.2.2.elim fun n q=>⟨o,n,p.1,q⟩
set_option genInjectivity false in
structure Twins (ms:List Addr) (h:Heap) (q:Bool×List D×List D) (x y:Addr) (vs ws:List Value):Prop where
 r:Reps ms h q.2.1 vs
 r':Reps ms h q.2.2 ws
 k:xD h x vs∧xD h y ws
 of:q.1=false∧h.IsList x vs.toArray∧h.IsList y ws.toArray∨q.1=true∧h.IsTuple x vs.toArray∧h.IsTuple y ws.toArray
theorem yU {h:Heap} {a b:D} {v₁ v₂:Value} {q:Bool×List D×List D} (e:seq2 a b=some q) (p₁:Rep ms h a v₁) (p₂:Rep ms h b v₂):∃ x y vs ws,v₁=.ref x∧v₂=.ref y∧Twins ms h q x y vs ws:=by
 unfold seq2 at e
 cases ha:dE a with
 | some l =>
  rw [ha] at e
  refine mE (o:=dE b) e fun l' hb e=>?_
  rw [bS ha] at p₁
  rw [bS hb] at p₂
  obtain⟨x,vs,rfl,hx,hl,hr⟩:=aO p₁
  obtain⟨y,ws,rfl,hy,hl',hr'⟩:=aO p₂
  exact⟨x,y,vs,ws,rfl,rfl,e▸⟨hr,hr',⟨aLw hl,aLw hl'⟩,.inl ⟨rfl,hl,hl'⟩⟩⟩
 | none =>
  rw [ha] at e
  refine bE (o:=tupD a) e fun l ha e=>mE (o:=tupD b) e fun l' hb e=>?_
  rw [kU ha] at p₁
  rw [kU hb] at p₂
  obtain⟨x,vs,rfl,hx,hl,hr⟩:=gU p₁
  obtain⟨y,ws,rfl,hy,hl',hr'⟩:=gU p₂
  exact⟨x,y,vs,ws,rfl,rfl,e▸⟨hr,hr',⟨hl.elim fun o p=>p.2.2.elim fun n q=>⟨o,n,p.1,q⟩,hl'.elim fun o p=>p.2.2.elim fun n q=>⟨o,n,p.1,q⟩⟩,.inr ⟨rfl,hl,hl'⟩⟩⟩
theorem aIt {h:Heap} (n:Nat):∀ (a b:D) (v:Value) (c:Bool),deqN n a b=some c→Rep ms h a v→Rep ms h b v→c=true:=by
 induction n with
 | zero=>exact fun _ _ _ _ e=>nn e
 | succ n ih =>
  intro a b v c e p₁ p₂
  have e:deq1 (deqN n) a b=some c:=e
  unfold deq1 at e
  cases hs:seq2 a b with
  | none=>rw [hs] at e; exact (deqF_inv e p₁ p₂).same rfl
  | some q =>
   rw [hs] at e
   obtain⟨x,y,vs,ws,rfl,hy,T⟩:=yU hs p₁ p₂
   cases Value.ref.inj hy
   have r':=T.r'
   rw [aJj T.k.2 T.k.1] at r'
   have hlen:=T.r.length.symm.trans r'.length
   obtain⟨f,h1,h2⟩:=oV _ hlen ((if_pos hlen).symm.trans e)
   rw [← h2,List.all_eq_true]
   intro j hj
   have hj:=List.mem_range.mp hj
   obtain⟨v,hv,pv⟩:=T.r.get (List.getElem?_eq_getElem hj)
   obtain⟨v',hv',pv'⟩:=r'.get (List.getElem?_eq_getElem (hlen▸hj))
   cases hv.symm.trans hv'
   exact ih _ _ v _ (h1 j _ _ (List.getElem?_eq_getElem hj) (List.getElem?_eq_getElem (hlen▸hj))) pv pv'
theorem arr_at {vs:List Value} {j:Nat} {v:Value} (h:vs[j]? = some v) (hj:j < vs.toArray.size):vs.toArray[j]=v:=by
 have:=List.getElem?_eq_some_iff.mp h
 simpa using this.2
theorem bA {h:Heap} {ds:List D} {vs:List Value} (r:Reps ms h ds vs):vs.toArray.size=ds.length:=List.size_toArray.trans r.length
theorem wV {A':Around} {n:Nat} {as bs:List D} {vs ws:List Value} {f:Nat→Bool} (r:Reps ms s.heap as vs) (r':Reps ms s.heap bs ws) (h1:∀ (j:Nat) x y,as[j]? = some x→bs[j]? = some y→deqN n x y=some (f j))
  (IH:∀ (a b:D) (v₁ v₂:Value) (c:Bool),deqN n a b=some c→Rep ms s.heap a v₁→Rep ms s.heap b v₂→EqAt A' s v₁ v₂ c) (j:Nat) (hj:j < vs.toArray.size) (hj':j < ws.toArray.size):EqAt A' s vs.toArray[j] ws.toArray[j] (f j):=by
 obtain⟨v,hv,pv⟩:=r.get (List.getElem?_eq_getElem (bA r▸hj))
 obtain⟨v',hv',pv'⟩:=r'.get (List.getElem?_eq_getElem (bA r'▸hj'))
 rw [arr_at hv,arr_at hv']
 exact IH _ _ v v' _ (h1 j _ _ (List.getElem?_eq_getElem _) (List.getElem?_eq_getElem _)) pv pv'
theorem aKo (n:Nat):∀ (A:Around) (a b:D) (v₁ v₂:Value) (c:Bool),A.units+n < cLine→deqN n a b=some c→Rep ms s.heap a v₁→Rep ms s.heap b v₂→EqAt A s v₁ v₂ c:=by
 induction n with
 | zero=>exact fun _ _ _ _ _ _ _ e=>nn e
 | succ n ih =>
  intro A a b v₁ v₂ c hu e p₁ p₂
  have hs0:=fun v (q:v₁=v) (q':v₂=v)=>aIt (n+1) _ _ v _ e (q▸p₁) (q'▸p₂)
  have e:deq1 (deqN n) a b=some c:=e
  unfold deq1 at e
  cases hs:seq2 a b with
  | none=>rw [hs] at e; exact (deqF_inv e p₁ p₂).eqAt
  | some q =>
   rw [hs] at e
   obtain⟨x,y,vs,ws,rfl,rfl,T⟩:=yU hs p₁ p₂
   by_cases hxy:x=y
   ·rw [hs0 (.ref y) (congrArg _ hxy) rfl,hxy]
    exact EqAt.same _
   ·have hu0:A.units < cLine:=Nat.lt_of_le_of_lt (Nat.le_add_right _ _) hu
    refine EqAt.of_refs hxy (ifE e (fun hlen e=>?_) fun hlen e=>ifN e fun ht e=>?_)
    ·obtain⟨f,h1,h2⟩:=oV _ hlen e
     have q:=wV (A':=A.in1) T.r T.r' h1 fun a b v u c=>ih A.in1 a b v u c (by rw [Around.in1_units]; lia)
     have hz:vs.toArray.size=ws.toArray.size:=(bA T.r).trans (hlen.trans (bA T.r').symm)
     rw [← bA T.r] at h2
     rcases T.of with ⟨_,hl,hl'⟩ | ⟨_,hl,hl'⟩
     ·exact h2▸RcAt.lists hl hl' hz hu0 q
     ·have w:=RcAt.tuples hl hl' hu0 q
      rw [← hz,Nat.min_self,h2,beq_self_eq_true,Bool.and_true] at w
      exact w
    ·rcases T.of with ⟨_,hl,hl'⟩ | ⟨h,_⟩
     ·exact ret1 e (RcAt.lists_lengths hl hl' (bne_iff_ne.mpr fun q=>hlen ((bA T.r).symm.trans (q.trans (bA T.r')))) hu0)
     ·exact absurd h ht
theorem aSq {as bs:List D} {i:Nat} (h:as.length≤i) (h':i≤as.length):decide (as.length < bs.length)=!(bs.drop i).isEmpty:=by
 rw [Nat.le_antisymm h' h,Bool.eq_iff_iff,decide_eq_true_iff,Bool.not_eq_true',List.isEmpty_eq_false_iff,ne_eq,List.drop_eq_nil_iff,Nat.not_le]
theorem aQi (l b:Addr) (vs ws:List Value) (as bs:List D) (n:Nat) (c:Bool)
  (hlt:∀ (A:Around) (x y:D) (v₁ v₂:Value) (c:Bool),A.units+n < cLine→dltN n x y=some c→Rep ms s.heap x v₁→Rep ms s.heap y v₂ →
   ∀ (Q:Value→Shared→Prop) (E:Value→Shared→Prop),Q (.bool c) s→wpAny (model prog w) A (richCompare .Lt v₁ v₂) Q E s) (R:Result→Shared→Prop) (hl:s.heap.IsList l vs.toArray) (hb:s.heap.IsList b ws.toArray)
  (hr:Reps ms s.heap as vs) (hr':Reps ms s.heap bs ws) (A:Around) (hu:A.units+n+1 < cLine) (hR:R (.ok (.ret (.bool c))) s) :
  ∀ (k i:Nat),as.length - i=k→i≤as.length→i≤bs.length→dltL (deqN n) (dltN n) (as.drop i) (bs.drop i)=some c →
   codeAny (model prog w) A (.builtin "list.__eq__.loop" ⟨[.ref l,.ref b,rawInt i,rawInt 0],[]⟩) R s:=by
 obtain⟨⟨cls,dd,data,sl⟩,ho,hc,e1,hd⟩:=hl
 obtain⟨⟨cls2,dd2,data2,sl2⟩,ho2,hc2,e2,hd2⟩:=hb
 simp only at hc hd hc2 hd2
 subst hc hd hc2 hd2
 intro k
 induction k with
 | zero =>
  intro i hk hi hj hd
  refine codeAny_builtin MeetsSeq3.entry_eq_loop ?_
  rw [Around.under_plainId MeetsSeq3.plain_eq_loop _]
  obtain⟨hp,g,dw,tk,os⟩:=s
  wp_walk using AutoSeq1.wpAny_loadPart' ho,AutoSeq1.wpAny_loadPart' ho2
  have h0:vs.toArray[((i:Nat):Int).toNat]? = none:=by simp [hr.length]; lia
  rw [h0]
  wp_walk using AutoSeq1.wpAny_loadPart' ho,AutoSeq1.wpAny_loadPart' ho2
  refine (?_:R (.ok (.ret (.bool (decide (vs.toArray.size < ws.toArray.size))))) _)
  rw [List.drop_eq_nil_of_le (Nat.le_of_sub_eq_zero hk)] at hd
  rw [bA hr,bA hr',aSq (Nat.le_of_sub_eq_zero hk) hi]
  exact Option.some.inj (show some (!(bs.drop i).isEmpty)=some c from hd)▸hR
 | succ k ih =>
  intro i hk hi hj hd
  refine codeAny_builtin MeetsSeq3.entry_eq_loop ?_
  rw [Around.under_plainId MeetsSeq3.plain_eq_loop _]
  have hia:i < as.length:=by omega
  obtain⟨v₁,hv₁,pv₁⟩:=hr.get (List.getElem?_eq_getElem hia)
  have h1:vs.toArray[((i:Nat):Int).toNat]? = some v₁:=by simpa using hv₁
  by_cases hib:i < bs.length
  ·obtain⟨v₂,hv₂,pv₂⟩:=hr'.get (List.getElem?_eq_getElem hib)
   have h2:ws.toArray[((i:Nat):Int).toNat]? = some v₂:=by simpa using hv₂
   rw [List.drop_eq_getElem_cons hia,List.drop_eq_getElem_cons hib] at hd
   have hc:((i:Int)+1)=((i+1:Nat):Int):=by push_cast; rfl
   refine bE (o:=deqN n as[i] bs[i]) hd fun q hq hd=>?_
   ·have he:=aKo n A.in1 _ _ v₁ v₂ q (by simp; lia) hq pv₁ pv₂
    obtain⟨hp,g,dw,tk,os⟩:=s
    wp_walk using AutoSeq1.wpAny_loadPart' ho,AutoSeq1.wpAny_loadPart' ho2
    rw [h1,h2]
    refine wpAny_bind (he prog w _ _ ?_)
    cases q with
    | true =>
     simp only [if_true]
     wp_walk
     rw [hc]
     exact⟨plainId_quiet MeetsSeq3.plain_eq_loop _,ih (i+1) (by lia) (by lia) (by lia) hd⟩
    | false =>
     wp_walk using AutoSeq1.wpAny_loadPart' ho,AutoSeq1.wpAny_loadPart' ho2
     rw [h1,h2]
     refine wpAny_bind (hlt A.in1 _ _ v₁ v₂ c (by simp; lia) hd pv₁ pv₂ _ _ ?_)
     exact wpAny_pure hR
  ·have h2:ws.toArray[((i:Nat):Int).toNat]? = none:=by simp [hr'.length]; lia
   obtain⟨hp,g,dw,tk,os⟩:=s
   wp_walk using AutoSeq1.wpAny_loadPart' ho,AutoSeq1.wpAny_loadPart' ho2
   rw [h1,h2]
   wp_walk using AutoSeq1.wpAny_loadPart' ho,AutoSeq1.wpAny_loadPart' ho2
   refine (?_:R (.ok (.ret (.bool (decide (vs.toArray.size < ws.toArray.size))))) _)
   rw [List.drop_eq_getElem_cons hia,List.drop_eq_nil_of_le (as:=bs) (Nat.le_of_not_lt hib)] at hd
   rw [bA hr,bA hr',decide_eq_false (by lia)]
   exact Option.some.inj (show some false=some c from hd)▸hR
theorem kP (l b : Addr) (vs ws : List Value) (as bs : List D) (n : Nat) (c : Bool) (hlt : ∀ (A : Around) (x y : D) (v₁ v₂ : Value) (c : Bool), A.units + n < cLine → dltN n x y = some c → Rep ms s.heap x v₁ → Rep ms s.heap y v₂ →
      ∀ (Q : Value → Shared → Prop) (E : Value → Shared → Prop), Q (.bool c) s → wpAny (model prog w) A (richCompare .Lt v₁ v₂) Q E s)
    (hl : s.heap.IsList l vs.toArray) (hb : s.heap.IsList b ws.toArray) (hr : Reps ms s.heap as vs) (hr' : Reps ms s.heap bs ws) (A : Around) (hu : A.units + n + 1 < cLine) (hd : dltL (deqN n) (dltN n) as bs = some c)
    (Q : Value → Shared → Prop) (E : Value → Shared → Prop) (hQ : Q (.bool c) s) : wpAny (model prog w) A (call (.builtin "list.__lt__") [.ref l, .ref b]) Q E s := by
  have hl' := hl
  have hb' := hb
  obtain ⟨⟨cls, dd, data, sl⟩, ho, hc, e1, hdd⟩ := hl
  obtain ⟨⟨cls2, dd2, data2, sl2⟩, ho2, hc2, e2, hdd2⟩ := hb
  simp only at hc hdd hc2 hdd2
  subst hc hdd hc2 hdd2
  refine wpAny_call (codeAny_call_builtin F.slot_list_lt.plain F.entry_list_lt (F.slot_list_lt.check _ _ _ _ _ _ _ _ ⟨_, ho, rfl⟩ (F.args_list_lt_2 _ _) ?_))
  have f3 := AutoSeq1.sub_list_list
  have hloop := aQi (prog := prog) (w := w) l b vs ws as bs n c hlt (fun r s' => match r with | .ok (.ret v) => Q v s' | .ok _ => False | .error e => E e s') hl' hb' hr hr' A hu hQ _ 0 rfl (Nat.zero_le _) (Nat.zero_le _) hd
  obtain ⟨hp, g, dw, tk, os⟩ := s
  wp_walk using AutoSeq1.wpAny_loadPart' ho, AutoSeq1.wpAny_loadPart' ho2
  exact ⟨plainId_quiet MeetsSeq3.plain_eq_loop _, hloop⟩
theorem qS (l b : Addr) (vs ws : List Value) (as bs : List D) (n : Nat) (c : Bool) (hlt : ∀ (A : Around) (x y : D) (v₁ v₂ : Value) (c : Bool), A.units + n < cLine → dltN n x y = some c → Rep ms s.heap x v₁ → Rep ms s.heap y v₂ →
      ∀ (Q : Value → Shared → Prop) (E : Value → Shared → Prop), Q (.bool c) s → wpAny (model prog w) A (richCompare .Lt v₁ v₂) Q E s)
    (hl : s.heap.IsList l vs.toArray) (hb : s.heap.IsList b ws.toArray) (hr : Reps ms s.heap as vs) (hr' : Reps ms s.heap bs ws) (A : Around) (hu : A.units + n + 1 < cLine) (hd : dltL (deqN n) (dltN n) as bs = some c)
    (Q : Value → Shared → Prop) (E : Value → Shared → Prop) (hQ : Q (.bool c) s) : wpAny (model prog w) A (richCompare .Lt (.ref l) (.ref b)) Q E s := by
  obtain ⟨o1, ho, hc, _⟩ := id hl
  obtain ⟨o2, ho2, hc2, _⟩ := id hb
  exact wpAny_richCompare_same_room ⟨_, ho, hc⟩ ⟨_, ho2, hc2⟩ F.slot_list_lt (kP l b vs ws as bs n c hlt hl hb hr hr' A hu hd _ _ ⟨(fun x => nomatch x), hQ⟩) (by lia)
theorem aRi (n:Nat):∀ (A:Around) (a b:D) (v₁ v₂:Value) (c:Bool),A.units+n < cLine→dltN n a b=some c→Rep ms s.heap a v₁→Rep ms s.heap b v₂ →
  ∀ (Q:Value→Shared→Prop) (E:Value→Shared→Prop),Q (.bool c) s→wpAny (model prog w) A (richCompare .Lt v₁ v₂) Q E s:=by
 induction n with
 | zero=>exact fun _ _ _ _ _ _ _ e=>nn e
 | succ n ih =>
  intro A a b v₁ v₂ c hu e p₁ p₂ Q E hQ
  have e:dlt1 (deqN n) (dltN n) a b=some c:=e
  induction a using D.casesOn with
  | int x =>
   refine mE e fun y hy e=>?_
   rw [aR hy] at p₂
   obtain⟨t,rfl⟩:=p₁; obtain⟨u,rfl⟩:=p₂
   exact lt_int (e▸hQ)
  | str x =>
   refine mE e fun y hy e=>?_
   rw [eY hy] at p₂
   obtain⟨t,rfl⟩:=p₁; obtain⟨u,rfl⟩:=p₂
   exact PyProof.Rows.lt_str (by subst e; simpa using hQ)
  | list x =>
   refine bE (o:=dE b) e fun y hy e=>?_
   rw [bS hy] at p₂
   obtain⟨x,vs,rfl,hx,hl,hr⟩:=aO p₁
   obtain⟨y,ws,rfl,hy,hl',hr'⟩:=aO p₂
   exact qS x y vs ws _ _ n c ih hl hl' hr hr' A hu e Q E hQ
  | _=>exact nn e
end
end Mine
end
section -- S4
open PySem PyProof.Rows PySem.SeqAt
namespace Mine
section
variable {prog:Program} {w:World} {A:Around} {s:Shared} {base:Base} {ms:List Addr} {st:Store}
theorem fJ (r:SR base ms st s) {d:D} {v:Value} {l:List D} (h:cQ st d=some l) (p:Rep ms s.heap d v):∃ a vs,v=.ref a∧s.heap.IsList a vs.toArray∧Reps ms s.heap l vs:=by
 induction d using D.casesOn with
 | list l' =>
  obtain⟨x,vs,rfl,hx,hl,hr⟩:=aO p
  exact⟨x,vs,rfl,hl,Option.some.inj h▸hr⟩
 | cell k =>
  obtain⟨a,rfl,ha⟩:=p
  obtain⟨a',vs,n,hm,hl,hr⟩:=r.lists _ _ h
  cases hm.symm.trans ha
  exact⟨_,vs,rfl,hl.isList,hr⟩
 | _=>exact nn h
theorem RcNeAt.atom {v u:Value} {c:Bool} (x:AtomEq v u c):RcAt A s v u c∧RcNeAt A s v u (!c):=by
 induction x with
 | none=>exact⟨RcAt.none_none,RcNeAt.none_none⟩
 | bool a b=>exact⟨RcAt.bool_bool a b,RcNeAt.bool_bool a b⟩
 | int a b t u=>exact⟨RcAt.int_int a t b u,RcNeAt.int_int a t b u⟩
 | str a b t u=>exact⟨RcAt.str_str a t b u,RcNeAt.str_str a t b u⟩
 | bytes a b t u=>exact⟨fun prog w E Q h=>PySem.W.eq_bytes h,fun prog w E Q h=>PySem.W.ne_bytes h⟩
theorem aRo (r:SR base ms st s) {a b:D} {v₁ v₂:Value} {c:Bool} (hu:A.units+8 < cLine) (e:deqS st a b=some c) (p₁:Rep ms s.heap a v₁) (p₂:Rep ms s.heap b v₂):RcAt A s v₁ v₂ c∧RcNeAt A s v₁ v₂ (!c):=by
 unfold deqS at e
 cases ha:cQ st a with
 | none=>rw [ha] at e; exact RcNeAt.atom (deqF_inv e p₁ p₂)
 | some as =>
  rw [ha] at e
  refine bE (o:=cQ st b) e fun bs hb e=>?_
  obtain⟨x,vs,rfl,hl,hr⟩:=fJ r ha p₁
  obtain⟨y,ws,rfl,hl',hr'⟩:=fJ r hb p₂
  have hu0:A.units < cLine:=Nat.lt_of_le_of_lt (Nat.le_add_right _ _) hu
  refine ifE e (fun hlen e=>?_) fun hlen e=>?_
  ·obtain⟨f,h1,h2⟩:=oV _ hlen e
   have hz:vs.toArray.size=ws.toArray.size:=(bA hr).trans (hlen.trans (bA hr').symm)
   have q:=wV (A':=A.in1) hr hr' h1 fun a b v u c=>aKo 6 A.in1 a b v u c (by rw [Around.in1_units]; exact Nat.lt_of_succ_lt hu)
   rw [← bA hr] at h2
   exact h2▸⟨RcAt.lists hl hl' hz hu0 q,RcNeAt.lists hl hl' hz hu0 q⟩
  ·have hne:=bne_iff_ne.mpr fun q=>hlen ((bA hr).symm.trans (q.trans (bA hr')))
   exact Option.some.inj e▸⟨RcAt.lists_lengths hl hl' hne hu0,RcNeAt.lists_lengths hl hl' hne hu0⟩
theorem aCd {b:D} {v:Value} (h:aAw b=true) (p:Rep ms s.heap b v):(plainIs .none v=true∧(Value.none == v)=false)∧plainIs v .none=true∧(v == Value.none)=false:=by
 induction b using D.casesOn with
 | bool=>subst p; exact⟨⟨rfl,rfl⟩,rfl,rfl⟩
 | int=>obtain⟨t,rfl⟩:=p; exact⟨⟨rfl,rfl⟩,rfl,rfl⟩
 | str=>obtain⟨t,rfl⟩:=p; exact⟨⟨rfl,rfl⟩,rfl,rfl⟩
 | bytes=>obtain⟨x,t,rfl,_⟩:=p; exact⟨⟨rfl,rfl⟩,rfl,rfl⟩
 | _=>exact absurd h Bool.false_ne_true
theorem jM {a b:D} {v₁ v₂:Value} {c:Bool} (e:nV a b=some c) (p₁:Rep ms s.heap a v₁) (p₂:Rep ms s.heap b v₂):plainIs v₁ v₂=true∧(v₁ == v₂)=c:=by
 refine ifE e (fun ha e=>?_) fun _ e=>ifE e (fun hb e=>?_) fun _ e=>?_
 ·rw [gM ha] at p₁
  subst p₁
  refine ifE e (fun hb e=>?_) fun _ e=>ifS e fun hb e=>Option.some.inj e▸(aCd hb p₂).1
  rw [gM hb] at p₂
  subst p₂
  exact Option.some.inj e▸⟨rfl,rfl⟩
 ·rw [gM hb] at p₂
  subst p₂
  exact ifS e fun ha e=>Option.some.inj e▸(aCd ha p₁).2
 ·refine bE (o:=typD a) e fun x hx e=>mE (o:=typD b) e fun y hy e=>?_
  rw [fS hx] at p₁
  rw [fS hy] at p₂
  subst p₁ p₂
  refine⟨rfl,(Bool.eq_iff_iff.mpr ?_).trans e⟩
  rw [beq_iff_eq,beq_iff_eq]
  exact⟨Value.type.inj,congrArg _⟩
theorem aFh {x:D} (l:List D):∀ {c:Bool},wC x l=some c→∃ e:Nat→Bool,(∀ (j:Nat) y,l[j]? = some y→deqN 6 y x=some (e j))∧(List.range l.length).any e=c:=by
 induction l with
 | nil=>exact fun h=>⟨fun _=>true,fun j y hy=>nn hy,Option.some.inj h⟩
 | cons a as ih =>
  intro c h
  refine bE (o:=deqN 6 a x) h fun p hp h=>mE (o:=wC x as) h fun q hq h=>?_
  obtain⟨e,h1,h2⟩:=ih hq
  refine⟨aDv p e,fun j y hy=>?_,((nK p e _).2.trans (congrArg _ h2)).trans h⟩
  induction j using Nat.casesOn with
  | zero=>cases Option.some.inj hy; exact hp
  | succ j=>exact h1 j y hy
noncomputable def isIv (a:Int) (v:Value):Bool:=by
 induction v using PySem.Value.casesOn with
 | int i=>exact i == a
 | _=>exact false
theorem wE {d:D} {a:Int} {c:Bool} {v:Value} {h:Heap} (e:deqN 6 d (.int a)=some c) (p:Rep ms h d v):isIv a v=c:=by
 induction d using D.casesOn with
 | int i =>
  obtain⟨t,rfl⟩:=p
  exact Option.some.inj e
 | _=>exact nn e
theorem aVd {a:Int} {l:List D} {v₁ v₂:Value} {c:Bool} {Q:Value→Shared→Prop} {E:Value→Shared→Prop} (hu:A.units+8 < cLine) (e:wC (.int a) l=some c) (p₁:Rep ms s.heap (.int a) v₁) (p₂:Rep ms s.heap (.list l) v₂) (hQ:Q (.bool c) s) :
  wpAny (model prog w) A (compareOp .In v₁ v₂) Q E s:=by
 obtain⟨x,vs,rfl,hx,hl,hr⟩:=aO p₂
 obtain⟨f,h1,h2⟩:=aFh l e
 have key:∀ (j:Nat) v,vs[j]? = some v→isIv a v=f j∧EqAt A.in1 s v v₁ (f j):=by
  intro j v hv
  have hj:j < l.length:=hr.length▸(List.getElem?_eq_some_iff.mp hv).1
  obtain⟨v',hv',pv'⟩:=hr.get (List.getElem?_eq_getElem hj)
  cases hv.symm.trans hv'
  have q:=h1 j _ (List.getElem?_eq_getElem hj)
  exact⟨wE q pv',aKo 6 _ _ _ v v₁ _ (by rw [Around.in1_units]; exact Nat.lt_of_succ_lt hu) q pv' p₁⟩
 refine in_listAt (isIv a) hl (fun y hy=>?_) ?_
 ·obtain⟨j,hj,rfl⟩:=List.mem_iff_getElem.mp (List.mem_toArray.mp hy)
  have k:=key j _ (List.getElem?_eq_getElem hj)
  rw [k.1]
  exact k.2
 ·have e:vs.any (isIv a)=c:=by
   rw [← h2,Bool.eq_iff_iff,List.any_eq_true,List.any_eq_true]
   refine⟨fun⟨v,hv,hg⟩=>?_,fun⟨i,hi,hg⟩=>?_⟩
   ·obtain⟨j,hj,rfl⟩:=List.mem_iff_getElem.mp hv
    exact⟨j,List.mem_range.mpr (hr.length▸hj),(key j _ (List.getElem?_eq_getElem hj)).1▸hg⟩
   ·have hi':i < vs.length:=hr.length.symm▸List.mem_range.mp hi
    exact⟨vs[i],List.getElem_mem hi',(key i _ (List.getElem?_eq_getElem hi')).1.trans hg⟩
  rw [List.any_toArray,e]
  exact hQ
theorem pG {f:Int→Int→Bool} {a b:D} {v₁ v₂:Value} {c:Bool} {P:Prop} (e:int2 f a b=some c) (p₁:Rep ms s.heap a v₁) (p₂:Rep ms s.heap b v₂) (k:∀ x t y u,v₁=.int x t→v₂=.int y u→f x y=c→P):P :=
 bE (o:=intD a) e fun x hx e=>mE (o:=intD b) e fun y hy e=>by
 rw [aR hx] at p₁
 rw [aR hy] at p₂
 exact p₁.elim fun t h=>p₂.elim fun u h'=>k x t y u h h' e
theorem lX {op:CmpOp} {a b:D} {v₁ v₂:Value} {c:Bool} (e:cmpop st op a b=some c) (r:SR base ms st s) (hu:A.units+8 < cLine) (p₁:Rep ms s.heap a v₁) (p₂:Rep ms s.heap b v₂)
  (Q:Value→Shared→Prop) (E:Value→Shared→Prop) (hQ:Q (.bool c) s):wpAny (model prog w) A (compareOp op v₁ v₂) Q E s:=by
 induction op using PySem.CmpOp.casesOn with
 | Eq=>exact (aRo r hu e p₁ p₂).1 prog w E Q hQ
 | NotEq=>exact mE (o:=deqS st a b) e fun c' h e=>(aRo r hu h p₁ p₂).2 prog w E Q (e▸hQ)
 | Lt=>exact aRi 6 A _ _ _ _ _ (Nat.lt_trans (Nat.add_lt_add_left (by decide) _) hu) e p₁ p₂ Q E hQ
 | LtE=>exact pG e p₁ p₂ fun x t y u h h' e=>by subst h h' e; exact le_int hQ
 | Gt=>exact pG e p₁ p₂ fun x t y u h h' e=>by subst h h' e; exact gt_int hQ
 | GtE=>exact pG e p₁ p₂ fun x t y u h h' e=>by subst h h' e; exact ge_int hQ
 | Is=>exact wpAny_is_plain (jM e p₁ p₂).1 ((jM e p₁ p₂).2▸hQ)
 | IsNot=>exact mE (o:=nV a b) e fun c' h e=>wpAny_isNot_plain (jM h p₁ p₂).1 ((jM h p₁ p₂).2▸e▸hQ)
 | In=>exact bE (o:=intD a) e fun x hx e=>bE (o:=dE b) e fun l hl e=>aVd hu e (aR hx▸p₁) (bS hl▸p₂) hQ
 | _=>exact nn e
theorem lG {d:D} {v:Value} {c:Bool} (e:truth st d=some c) (r:SR base ms st s) (p:Rep ms s.heap d v)
  (Q:Bool→Shared→Prop) (E:Value→Shared→Prop) (hQ:∀ s',Ext No s ms s' ms→SR base ms st s'→Q c s'):wpAny (model prog w) A (truthy v) Q E s:=by
 induction d using D.casesOn with
 | bool b =>
  subst p
  cases Option.some.inj e
  exact wpAny_truthy_bool (hQ s (.refl _ _) r)
 | int i =>
  obtain⟨t,rfl⟩:=p
  cases Option.some.inj e
  exact P.truthy_int (hQ s (.refl _ _) r)
 | cell k =>
  refine bE (o:=look st k) e fun l hl e=>ifS e fun hf e=>?_
  obtain⟨a,vs,rfl,hL,hr⟩:=fJ r (d:=.cell k) hl p
  have hz:=bA hr
  refine wpAny_truthy_list hL (by rw [aZ] at hf; rw [hz]; lia) ?_
  have e2:(!vs.toArray.isEmpty)=c:=by
   rw [← Option.some.inj e,Array.isEmpty,hz]
   cases l <;> rfl
  rw [e2]
  exact hQ _ (dN (by lia)) (r.toks' (by lia))
 | _=>exact nn e
theorem gS {n:Nat} {i:Int} {k:Nat} (h:place n i=some k):0≤i∧i < n∧i < 1000000000∧k=i.toNat :=
 ifS h fun c e=>⟨of_decide_eq_true (and2 (and2 c).1).1,of_decide_eq_true (and2 (and2 c).1).2,of_decide_eq_true (and2 c).2,(Option.some.inj e).symm⟩
theorem aIy {d j x:D} {v₁ v₂:Value} (e:index st d j=some x) (r:SR base ms st s) (p₁:Rep ms s.heap d v₁) (p₂:Rep ms s.heap j v₂):Makes prog w A base ms st s (getItem v₁ v₂) x:=by
 refine bE (o:=intD j) e fun i hi e=>?_
 rw [aR hi] at p₂
 obtain⟨t,rfl⟩:=p₂
 have nat:∀ {n k:Nat},i < n→0≤i→i.toNat < n:=fun h h0=>(Int.toNat_lt h0).mpr h
 have ls:∀ {l:List D} {a:Addr} {vs:List Value},((place l.length i).bind fun k=>l[k]?)=some x→s.heap.IsList a vs.toArray→Reps ms s.heap l vs→Makes prog w A base ms st s (getItem (.ref a) (.int i t)) x:=fun {l a vs} e hl hr=>bE (o:=place l.length i) e fun k hk hx=>Makes.of fun Q E hQ=>by
  obtain⟨h0,h1,h2,rfl⟩:=gS hk
  obtain⟨v,hv,pv⟩:=hr.get hx
  exact wpAny_getItem_list hl h0 (by lia) (by simpa using hv) (fA r pv hQ)
 induction d using D.casesOn with
 | list l =>
  obtain⟨a,vs,rfl,ha,hl,hr⟩:=aO p₁
  exact ls e hl hr
 | cell k =>
  refine bE (o:=look st k) e fun l hl e=>?_
  obtain⟨a,vs,rfl,hL,hr⟩:=fJ r (d:=.cell _) hl p₁
  exact ls e hL hr
 | tuple l =>
  refine bE (o:=place l.length i) e fun k hk hx=>Makes.of fun Q E hQ=>?_
  obtain⟨h0,h1,h2,rfl⟩:=gS hk
  obtain⟨a,vs,rfl,ha,hl,hr⟩:=gU p₁
  obtain⟨v,hv,pv⟩:=hr.get hx
  refine getItem_tuple hl (by lia) (by lia) (j:=_) ?_ (x:=v) (by simpa using hv) (fA r pv hQ)
  have hn:¬ i < 0:=Int.not_lt.mpr h0
  have hl':=hr.length
  simp [seqIndex?,hn,h0]; lia
 | str l =>
  refine bE (o:=place l.length i) e fun k hk e=>mE e fun c hx ec=>?_
  obtain⟨h0,h1,h2,rfl⟩:=gS hk
  obtain⟨t',rfl⟩:=p₁
  subst ec
  refine Makes.of fun Q E hQ=>?_
  have hn:¬ i < 0:=Int.not_lt.mpr h0
  refine P.getItem_str (c:=c) ?_ ?_ (aJ r (eX [c] _ _) hQ)
  ·rw [Bool.or_eq_false_iff]; exact⟨decide_eq_false (by lia),decide_eq_false (by lia)⟩
  ·have:seqIndex? i (Str.length ⟨l.toArray⟩)=some i.toNat:=by simp [seqIndex?,hn,h0,Str.length]; omega
   rw [this]
   simpa using hx
 | bytes l =>
  refine bE (o:=if fits l.length then place l.length i else none) e fun k hk e=>ifS hk fun hf hk=>mE e fun c hx ec=>?_
  obtain⟨h0,h1,h2,rfl⟩:=gS hk
  obtain⟨b,t',rfl,rfl⟩:=p₁
  subst ec
  refine Makes.of fun Q E hQ=>?_
  rw [List.length_map] at h1 hf
  have hi:i.toNat < b.toList.length:=(Int.toNat_lt h0).mpr h1
  have e:(b.toList.getD i.toNat 0).toNat=c:=by
   rw [List.getElem?_map,List.getElem?_eq_getElem hi] at hx
   rw [← Option.some.inj hx,List.getD_eq_getElem?_getD,List.getElem?_eq_getElem hi]; rfl
  rw [aZ] at hf
  refine PySem.W.getItem_bytes (l:=b.toList) (Nat.le_trans hf (by decide)) h0 h1 ?_
  rw [e]
  exact aJ r (cP _ _ _) hQ
 | _=>exact nn e
theorem pK {α:Type} (l:List α) (a n:Nat):((List.range n).map (fun k=>a+k)).filterMap (l[·]?)=(l.drop a).take n:=by
 induction n generalizing a with
 | zero=>simp
 | succ n ih =>
  rw [List.range_succ_eq_map,List.map_cons,List.map_map]
  have e:(List.range n).map ((fun k=>a+k) ∘ Nat.succ)=(List.range n).map (fun k=>(a+1)+k):=by
   apply List.map_congr_left; intro k _; simp; exact (Nat.succ_add _ _).symm
  rw [e,List.filterMap_cons,ih (a+1)]
  by_cases h:a < l.length
  ·simp only [Nat.add_zero,List.getElem?_eq_getElem h]
   rw [List.drop_eq_getElem_cons h,List.take_succ_cons]
  ·have h1:l[a]? = none:=by simp; exact Nat.le_of_not_lt (by assumption)
   simp only [Nat.add_zero,h1]
   rw [List.drop_eq_nil_of_le (as:=l) (i:=a) (by exact Nat.le_of_not_lt (by assumption)),List.drop_eq_nil_of_le (as:=l) (by lia)]
   simp
theorem fF (a b:Nat):sliceRange (a:Int) (b:Int) 1=(List.range (b - a)).map (fun k=>a+k):=by
 have e:∀ x:Int,(if (1:Int) > 0 then (if (a:Int) < (b:Int) then ((b:Int) - a+1 - 1) / 1 else 0) else x).toNat=b - a:=by
  intro x
  rw [if_pos (by decide)]
  split <;> lia
 unfold sliceRange
 refine (?_:List.map (fun (k:Nat)=>((a:Int)+1 * (k:Int)).toNat) (List.range (if (1:Int) > 0 then (if (a:Int) < (b:Int) then ((b:Int) - a+1 - 1) / 1 else 0) else _).toNat)=_)
 rw [e]
 apply List.map_congr_left
 intro k _
 lia
noncomputable def jR (n:Nat):Option Int→Int
 | none=>0
 | some i=>max 0 (min (if i < 0 then i+n else i) (n:Int))
noncomputable def mJ (n:Nat):Option Int→Int
 | none=>n
 | some i=>max 0 (min (if i < 0 then i+n else i) (n:Int))
theorem tY (lo:Option Int) (n:Nat) (h:nonneg lo=true):jR n lo=((min (loOf lo) n:Nat):Int):=by
 cases lo with
 | none=>simp [jR,loOf]
 | some i =>
  simp only [nonneg,decide_eq_true_eq] at h
  have hn:¬ i < 0:=by exact Int.not_lt.mpr (by assumption)
  simp only [jR,loOf,hn,if_false]
  lia
theorem tX (hi:Option Int) (n:Nat) (h:nonneg hi=true):mJ n hi=(hiOf n hi:Int):=by
 cases hi with
 | none=>rfl
 | some i =>
  simp only [nonneg,decide_eq_true_eq] at h
  have hn:¬ i < 0:=by exact Int.not_lt.mpr (by assumption)
  simp only [mJ,hiOf,hn,if_false]
  lia
theorem kJ (n:Nat) (hi:Option Int):hiOf n hi≤n:=by cases hi <;> simp [hiOf]; lia
theorem tS {α:Type} (l:List α) (a b:Nat) (hb:b≤l.length):cut l (min a l.length) b=cut l a b:=by
 unfold cut
 by_cases h:a≤l.length
 ·rw [Nat.min_eq_left h]
 ·rw [Nat.min_eq_right (by lia),List.drop_eq_nil_of_le (as:=l) (i:=a) (by lia),List.drop_eq_nil_of_le (as:=l) (Nat.le_refl _)]; simp
theorem qX (vs:List Value) (lo hi:Option Int) (h1:nonneg lo=true) (h2:nonneg hi=true):slicePick vs.toArray lo hi none=(cut vs (loOf lo) (hiOf vs.length hi)).toArray:=by
 have a1:=tY lo vs.length h1
 have a2:=tX hi vs.length h2
 rw [← tS _ _ _ (kJ _ _)]
 unfold slicePick cut
 rw [← pK,← fF,← a1,← a2]
 cases lo <;> cases hi <;> simp [sliceBounds,jR,mJ]
theorem wP (l:List Nat) (lo hi:Option Int) (h1:nonneg lo=true) (h2:nonneg hi=true):(Builtin.Str.strSliceIndices lo hi 1 l.length).filterMap (l[·]?)=cut l (loOf lo) (hiOf l.length hi):=by
 have a1:=tY lo l.length h1
 have a2:=tX hi l.length h2
 rw [← tS _ _ _ (kJ _ _)]
 unfold cut
 rw [← pK,← fF,← a1,← a2]
 cases lo <;> cases hi <;> simp [Builtin.Str.strSliceIndices,jR,mJ]
theorem xT (l:List Nat) (lo hi:Option Int) (h1:nonneg lo=true) (h2:nonneg hi=true):(Builtin.Str.strSliceIndices lo hi 1 l.length).length=(cut l (loOf lo) (hiOf l.length hi)).length:=by
 have a1:=tY lo l.length h1
 have a2:=tX hi l.length h2
 rw [← tS _ _ _ (kJ _ _)]
 have e:Builtin.Str.strSliceIndices lo hi 1 l.length=sliceRange (jR l.length lo) (mJ l.length hi) 1:=by
  cases lo <;> cases hi <;> simp [Builtin.Str.strSliceIndices,jR,mJ]
 rw [e,a1,a2,fF]
 unfold cut
 have:=kJ l.length hi
 simp; lia
noncomputable def partOf (t:Tok):Option Int→Value
 | none=>.none
 | some i=>.int i t
theorem sQ (t:Tok) (x:Option Int):IsPart (partOf t x) x:=by cases x <;> constructor
theorem lD {e:Expr} {o i:Value} (h:∀ lo hi p,e≠.Slice lo hi none p):subscripted e false o i=operate [o,i] (getItem o i):=by
 cases e with
 | Slice lo hi st p=>cases st with
  | none=>exact absurd rfl (h lo hi p)
  | some x=>rfl
 | _=>rfl
set_option tactic.hygienic true in
theorem aHd {d x:D} {v₁:Value} {lo hi:Option Int} {t u:Tok} {sl:Addr} (e:slice d lo hi=some x) (r:SR base ms st s) (p₁:Rep ms s.heap d v₁)
  (hs:s.heap.IsSliceOf sl (partOf t lo) (partOf u hi) .none):Makes prog w A base ms st s (getItem v₁ (.ref sl)) x:=by
 refine ifS e fun hn e=>?_
 have hn:=and2 hn
 induction d using D.casesOn with
 | str l =>
  refine ifS e fun hf e=>ret1 e (Makes.of fun Q E hQ=>?_)
  rw [aZ] at hf
  obtain⟨tt,rfl⟩:=p₁
  have hs':s.heap.IsSlice sl (lo.map (·,t)) (hi.map (·,u)) none:=by
   obtain⟨o,h1,h2,h3⟩:=hs
   refine⟨o,h1,h2,h3.trans ?_⟩
   cases lo <;> cases hi <;> rfl
  refine wpAny_getItem_str_slice hs' rfl ?_
  have el:(lo.map (·,t)).map (·.1)=lo:=by cases lo <;> rfl
  have eh:(hi.map (·,u)).map (·.1)=hi:=by cases hi <;> rfl
  have hp:=wP l lo hi hn.1 hn.2
  have hpl:=xT l lo hi hn.1 hn.2
  have e1:slicePicked ⟨l.toArray⟩ (lo.map (·,t)) (hi.map (·,u)) none=Builtin.Str.strSliceIndices lo hi 1 l.length:=by
   unfold slicePicked; rw [el,eh]; rfl
  unfold sliceMade
  rw [e1]
  split
  ·rename_i hc
   have hc':(cut l (loOf lo) (hiOf l.length hi)).length=l.length:=hpl.symm.trans (eq_of_beq (and2 hc).2)
   have hc2:cut l (loOf lo) (hiOf l.length hi)=l:=by
    have h1:(cut l (loOf lo) (hiOf l.length hi)).length≤l.length - loOf lo:=by unfold cut; simp; lia
    have h2:hiOf l.length hi - loOf lo=l.length∨l.length=0:=by
     unfold cut at hc'
     have:=kJ l.length hi
     simp at hc'; omega
    by_cases hl0:l.length=0
    ·have:l=[]:=List.length_eq_zero_iff.mp hl0
     subst this; simp [cut]
    ·have h3:loOf lo=0:=by lia
     have h4:hiOf l.length hi=l.length:=by lia
     unfold cut; rw [h3,h4]; simp
   exact fA r (eX l tt s.heap) (Q:=Q) (hc2▸hQ)
  ·have e2:((Builtin.Str.strSliceIndices lo hi 1 l.length).filterMap ((Str.mk l.toArray).cps[·]?))=cut l (loOf lo) (hiOf l.length hi):=by
    rw [← hp]; simp
   dsimp only [Made.post]
   rw [e2]
   refine⟨?_,aJ r (eX _ _ _) hQ⟩
   unfold cut sizeLine
   simp [Str.length]; lia
 | list l =>
  refine ifS e fun hf e=>ret1 e (Makes.of fun Q E hQ=>?_)
  rw [aZ] at hf
  obtain⟨a,vs,rfl,ha,hl,hr⟩:=aO p₁
  refine wpAny_getItem_list_slice hl hs (sQ _ _) (sQ _ _) IsPart.none (by simp) ?_ (by simp [hr.length]; unfold sizeLine; lia)
  rw [qX _ _ _ hn.1 hn.2,hr.length]
  refine dD r (bW r ?_) hQ
  exact (hr.drop _).take _
 | _=>exact nn e
end
end Mine
end
section -- S5
open PySem PyProof.Rows PySem.SeqAt
namespace Mine
section
variable {prog:Program} {w:World} {A:Around} {s:Shared} {base:Base} {ms:List Addr} {st:Store}
theorem cH {a:D} {vs:List Value} {h:Heap} (p:Reps ms h [a] vs):∃ v,vs=[v]∧Rep ms h a v:=by
 obtain⟨v,r,rfl,x,y⟩:=p; subst y; exact⟨v,rfl,x⟩
theorem fE {a b:D} {vs:List Value} {h:Heap} (p:Reps ms h [a,b] vs):∃ v u,vs=[v,u]∧Rep ms h a v∧Rep ms h b u:=by
 obtain⟨v,r,rfl,x,y⟩:=p; obtain⟨u,rfl,z⟩:=cH y; exact⟨v,u,rfl,x,z⟩
theorem aAv {a b c:D} {vs:List Value} {h:Heap} (p:Reps ms h [a,b,c] vs):∃ v u x,vs=[v,u,x]∧Rep ms h a v∧Rep ms h b u∧Rep ms h c x:=by
 obtain⟨v,r,rfl,x,y⟩:=p; obtain⟨u,x',rfl,z,z'⟩:=fE y; exact⟨v,u,x',rfl,x,z,z'⟩
theorem oO {h:Heap} (l:List D):∀ {vs:List Value} {is:List Int},bM l=some is→Reps ms h l vs→IntsAre vs is:=by
 induction l with
 | nil=>exact fun e p=>p▸Option.some.inj e▸.nil
 | cons d l ih =>
  intro vs is e p
  obtain⟨v,r,rfl,x,y⟩:=p
  refine bE (o:=intD d) e fun i hi e=>mE (o:=bM l) e fun js hj e=>?_
  rw [aR hi] at x
  obtain⟨t,rfl⟩:=x
  exact e▸.cons i t (ih hj y)
theorem aOc (is:List Int):∀ {os:List Nat},octs is=some os→(∀ n∈is,0≤n∧n < 256)∧os=is.map Int.toNat:=by
 induction is with
 | nil=>exact fun e=>⟨fun n hn=>(nomatch hn),(Option.some.inj e).symm⟩
 | cons i is ih =>
  intro os e
  refine ifS e fun h e=>mE (o:=octs is) e fun js hj e=>?_
  obtain⟨h1,h2⟩:=ih hj
  exact⟨List.forall_mem_cons.mpr ⟨⟨of_decide_eq_true (and2 h).1,of_decide_eq_true (and2 h).2⟩,h1⟩,e.symm.trans (congrArg (i.toNat::·) h2)⟩
theorem rA {is:List Int} {t:Tok} {h:Heap} (hr:∀ n∈is,0≤n∧n < 256):Rep ms h (.bytes (is.map Int.toNat)) (.bytes (byteArr is) t):=by
 rw [Rep]
 refine⟨_,t,rfl,?_⟩
 unfold byteArr
 simp only [List.map_map]
 apply List.map_congr_left
 intro n hn
 have:=hr n hn
 simp only [Function.comp]
 show (n.toNat.toUInt8).toNat=n.toNat
 simp [Nat.toUInt8]
 lia
theorem xN (i:Int):(Str.ofString (toString i))=⟨(decI i).toArray⟩:=by
 rw [Str.ofString_eq_toList]; rfl
theorem aUa {l:Addr} {vs:List Value} {ns:List Int} {Q:Value→Shared→Prop} {E:Value→Shared→Prop} (hh:A.handled=none) (hl:s.heap.IsList l vs.toArray) (hi:IntsAre vs ns)
  (h:∀ h' tk t',(∀ b o,s.heap.get? b=some o→h'.get? b=some o)→Q (.int ns.sum t') { s with heap:=h',toks:=tk }) :
  wpAny (model prog w) A (call (.builtin "sum") [.ref l]) Q E s:=by
 have hn:=hi.numsOf
 obtain⟨xs,e⟩:=hi.allInts.items
 rw [e] at hl
 have e2:xs.toList.map (·.1)=ns:=by
  rw [← nums_intItems,← e]; exact hn
 refine sum_intListG hh hl fun h' tk t' hk=>?_
 rw [preSum_eq,List.take_of_length_le (by simp),e2]
 exact h h' tk t' hk
theorem aMu {n:Nat} {v:Value} {d:D} (e:lenD n=some d) (r:SR base ms st s) (k:n≤16000000→∀ (Q:Value→Shared→Prop) (E:Value→Shared→Prop),(∀ t tk,Q (.int n t) { s with toks:=tk })→wpAny (model prog w) A (call (.builtin "len") [v]) Q E s):Makes prog w A base ms st s (call (.builtin "len") [v]) d :=
 ifS e fun hf e=>ret1 e (Makes.of fun Q E hQ=>k (aZ.mp hf) Q E fun t tk=>aJ r (cP _ _ _) hQ)
theorem pU {x d:D} {v:Value} {l:List D} (hl:cQ st x=some l) (e:lenD l.length=some d) (r:SR base ms st s) (p:Rep ms s.heap x v):Makes prog w A base ms st s (call (.builtin "len") [v]) d:=by
 -- len of a list
 obtain⟨a,us,rfl,hL,hr⟩:=fJ r hl p
 refine aMu e r fun hf Q E k=>PyProof.Rows.len_list hL (by rw [bA hr]; lia) ?_
 rw [bA hr]
 exact k _ _
theorem aLf {x d:D} {v:Value} (e:aQz st x=some d) (r:SR base ms st s) (p:Rep ms s.heap x v):Makes prog w A base ms st s (call (.builtin "len") [v]) d:=by
 induction x using D.casesOn with
 | str l =>
  obtain⟨t,rfl⟩:=p
  exact aMu e r fun hf Q E k=>PyProof.Rows.len_str (by simp [Str.length]; lia) (k _ _)
 | bytes l =>
  obtain⟨b,t,rfl,rfl⟩:=p
  refine aMu e r fun hf Q E k=>?_
  rw [List.length_map,Array.length_toList] at hf k
  exact PySem.W.len_bytes (by lia) (k _ _)
 | list l=>exact pU (x:=.list l) rfl e r p
 | cell c=>exact bE (o:=look st c) e fun l hl e=>pU (x:=.cell c) hl e r p
 | _=>exact nn e
theorem aUv {x d:D} {v:Value} (e:aRl x=some d) (r:SR base ms st s) (ha:AOk 2 A) (p:Rep ms s.heap x v):Makes prog w A base ms st s (call (.builtin "sum") [v]) d :=
 -- sum
 bE (o:=dE x) e fun l hl e=>mE (o:=bM l) e fun is hi e=>by
 rw [bS hl] at p
 obtain⟨a,us,rfl,hx,hL,hr⟩:=aO p
 exact e▸Makes.of fun Q E hQ=>aUa ha.handled hL (oO _ hi hr) fun h' tk t' hk=>fB r hk (cP _ _ _) hQ
theorem aUs {x y d:D} {v u:Value} (e:aLd x y=some d) (r:SR base ms st s) (ha:AOk 2 A) (p:Rep ms s.heap x v) (q:Rep ms s.heap y u):Makes prog w A base ms st s (call (.builtin "max") [v,u]) d :=
 -- max
 bE (o:=intD x) e fun a hx e=>mE (o:=intD y) e fun b hy e=>by
 rw [aR hx] at p
 rw [aR hy] at q
 obtain⟨t,rfl⟩:=p; obtain⟨u,rfl⟩:=q
 refine e▸Makes.of fun Q E hQ=>max_two_ints ha.handled fun h' tk hk=>?_
 by_cases hab:b > a
 ·rw [if_pos hab]
  rw [Int.max_eq_right (Int.le_of_lt hab)] at hQ
  exact fB r hk (cP _ _ _) hQ
 ·rw [if_neg hab]
  rw [Int.max_eq_left (Int.not_lt.mp hab)] at hQ
  exact fB r hk (cP _ _ _) hQ
noncomputable def uA (prog:Program) (w:World) (A:Around) (base:Base) (ms:List Addr) (st:Store) (s:Shared):Prop:=∀ l:List D,l.length < 64→fM l=true→∀ x,dG l=some x→∀ a us,s.heap.IsList a us.toArray→Reps ms s.heap l us→Makes prog w A base ms st s (call (.builtin "sorted") [.ref a]) (.list x)
theorem aLi {x0 d:D} {v:Value} (e:((cQ st x0).bind fun l=>if decide (l.length < 64)&&fM l then (dG l).map .list else none)=some d) (r:SR base ms st s) (p:Rep ms s.heap x0 v) (hsort:uA prog w A base ms st s):Makes prog w A base ms st s (call (.builtin "sorted") [v]) d :=
 -- sorted
 bE (o:=cQ st x0) e fun l hl e=>ifS e fun h64 e=>mE (o:=dG l) e fun x hx e=>by
 obtain⟨a,us,rfl,hL,hr⟩:=fJ r hl p
 exact e▸hsort l (of_decide_eq_true (and2 h64).1) (and2 h64).2 x hx a us hL hr
theorem zN {l:List Nat} {v u:Value} (r:SR base ms st s) (p:Rep ms s.heap (.str l) v) (q:Rep ms s.heap (.type "str") u):Makes prog w A base ms st s (call (.builtin "isinstance") [v,u]) (.bool true):=by
 -- isinstance of a str
 subst q
 obtain⟨t,rfl⟩:=p
 refine Makes.of fun Q E hQ=>?_
 exact PySem.W.kia_one (K:=[]) PySem.W.kitx_str (fun _ _ h=>by exact nn h) trivial (by decide +kernel) (fun h=>nomatch h) fun tk=>aJ r (dP _ _) hQ
theorem uT {l:List Nat} {v u:Value} (r:SR base ms st s) (p:Rep ms s.heap (.bytes l) v) (q:Rep ms s.heap (.type "str") u):Makes prog w A base ms st s (call (.builtin "isinstance") [v,u]) (.bool false):=by
 -- isinstance of bytes
 subst q
 obtain⟨b,t,rfl,rfl⟩:=p
 refine Makes.of fun Q E hQ=>?_
 exact PySem.W.kia_one (K:=[]) PySem.W.kitx_bytes (fun _ _ h=>by exact nn h) trivial (by decide +kernel) (fun h=>nomatch h) fun tk=>aJ r (dP _ _) hQ
theorem aBf {l:List Nat} {v u:Value} (r:SR base ms st s) (p:Rep ms s.heap (.bytes l) v) (q:Rep ms s.heap (.tuple [.type "bytes",.type "bytearray"]) u):Makes prog w A base ms st s (call (.builtin "isinstance") [v,u]) (.bool true):=by
 -- isinstance of bytes, two classes
 obtain⟨a,us,rfl,hx,⟨⟨c,dd,da,sl⟩,ho,hc,n,hd⟩,hr⟩:=gU q
 simp only at hc hd
 subst hc hd
 obtain⟨v1,v2,rfl,p1,p2⟩:=fE hr
 subst p1 p2
 obtain⟨b,t,rfl,rfl⟩:=p
 refine Makes.of fun Q E hQ=>?_
 exact PySem.W.kia_tup (K:=[]) PySem.W.kitx_bytes (fun _ _ h=>by exact nn h) trivial ho (by decide +kernel) (fun h=>nomatch h) fun tk=>aJ r (dP _ _) hQ
theorem aTm {x d:D} {v:Value} (e:(tyOf x).map .type=some d) (r:SR base ms st s) (p:Rep ms s.heap x v):Makes prog w A base ms st s (call (.type "type") [v]) d :=
 -- type
 mE (o:=tyOf x) e fun n hn e=>by
 refine e▸Makes.of fun Q E hQ=>?_
 induction x using D.casesOn with
 | bool =>
  cases Option.some.inj hn
  subst p
  exact call_type_of (x:=.bool _) rfl (by decide) (fA r (iL _ _) hQ)
 | str =>
  cases Option.some.inj hn
  obtain⟨t,rfl⟩:=p
  exact call_type_of (typeIs_str s _ t) (by decide) (fA r (iL _ _) hQ)
 | bytes =>
  cases Option.some.inj hn
  obtain⟨b,t,rfl,_⟩:=p
  exact call_type_of (PySem.W.typeIs_bytes s _ t) (by decide) (fA r (iL _ _) hQ)
 | _=>exact nn hn
theorem aIv {x d:D} {v:Value} (e:aLm x=some d) (r:SR base ms st s) (p:Rep ms s.heap x v):Makes prog w A base ms st s (call (.type "range") [v]) d :=
 -- range of one
 bE (o:=intD x) e fun b hx e=>ifS e fun _ e=>by
 rw [aR hx] at p
 obtain⟨t,rfl⟩:=p
 exact ret1 e (Makes.of fun Q E hQ=>call_range_1 (dD (d:=.range 0 b 1) r ⟨_,_,_,_,rfl,dS r,IsRange.new ..⟩ hQ))
theorem aJs {x y d:D} {v u:Value} (e:aNi x y=some d) (r:SR base ms st s) (p:Rep ms s.heap x v) (q:Rep ms s.heap y u):Makes prog w A base ms st s (call (.type "range") [v,u]) d :=
 bE (o:=intD x) e fun a hx e=>bE (o:=intD y) e fun b hy e=>ifS e fun _ e=>by
 rw [aR hx] at p
 rw [aR hy] at q
 obtain⟨t,rfl⟩:=p; obtain⟨u,rfl⟩:=q
 exact ret1 e (Makes.of fun Q E hQ=>call_range_2 (dD (d:=.range a b 1) r ⟨_,_,_,_,rfl,dS r,IsRange.new ..⟩ hQ))
theorem aMk {x y z d:D} {v u o:Value} (e:aHi x y z=some d) (r:SR base ms st s) (p:Rep ms s.heap x v) (q:Rep ms s.heap y u) (q':Rep ms s.heap z o):Makes prog w A base ms st s (call (.type "range") [v,u,o]) d :=
 bE (o:=intD x) e fun a hx e=>bE (o:=intD y) e fun b hy e=>bE (o:=intD z) e fun c hz e=>ifS e fun h e=>by
 rw [aR hx] at p
 rw [aR hy] at q
 rw [aR hz] at q'
 obtain⟨t,rfl⟩:=p; obtain⟨u,rfl⟩:=q; obtain⟨u',rfl⟩:=q'
 have hc:=(Bool.or_eq_true _ _).mp (and2 h).2
 have h1:c≠0:=by rcases hc with q | q <;> rw [eq_of_beq q] <;> decide
 exact ret1 e (Makes.of fun Q E hQ=>call_range_3 h1 (dD (d:=.range a b c) r ⟨_,_,_,_,rfl,dS r,IsRange.new ..⟩ hQ) (Or.inl (PyProof.noPylong_small (by rcases hc with q | q <;> rw [eq_of_beq q] <;> decide))))
set_option tactic.hygienic true in
theorem aUo {x d:D} {v:Value} (e:strOf x=some d) (r:SR base ms st s) (p:Rep ms s.heap x v):Makes prog w A base ms st s (call (.type "str") [v]) d :=
 -- str of an int
 bE (o:=intD x) e fun i hx e=>ifS e fun hs e=>by
 rw [aR hx] at p
 obtain⟨t,rfl⟩:=p
 refine ret1 e (Makes.of fun Q E hQ=>?_)
 have hb:=eD hs
 refine P.str_of_int ?_ ?_
 ·unfold Builtin.Int.intBits at hb
  split at hb
  ·rename_i h0
   have h0:=beq_iff_eq.mp h0
   rw [h0]; decide
  ·lia
 ·rw [xN]; exact aJ r (eX _ _ _) hQ
theorem aVf {x d:D} {v:Value} (e:intOf x=some d) (r:SR base ms st s) (p:Rep ms s.heap x v):Makes prog w A base ms st s (call (.type "int") [v]) d :=
 -- int of a str
 bE (o:=strD x) e fun l hx e=>ifS e fun hc e=>by
 rw [eY hx] at p
 obtain⟨t,rfl⟩:=p
 have h6:=of_decide_eq_true (and2 hc).2
 have hd:NumText.AllDigits l:=fun c hc'=>by
  have h:=and2 (List.all_eq_true.mp (and2 (and2 hc).1).2 c hc')
  exact⟨of_decide_eq_true h.1,of_decide_eq_true h.2⟩
 have h1:l≠[]:=fun q=>nomatch (no (and2 (and2 hc).1).1).symm.trans (List.isEmpty_iff.mpr q)
 exact ret1 e (Makes.of fun Q E hQ=>PySem.W.KIN.call_text (n:=(undec l:Int)) (PySem.intText_digits (x:=⟨l.toArray⟩) hd h1 (by show l.length≤_; lia)) (by show l.length≤_; lia) (aJ r (cP _ _ _) hQ))
theorem aPv {x d:D} {v:Value} (e:((cQ st x).bind fun l=>(bM l).bind fun is=>(octs is).bind fun os=>if fits os.length then some (D.bytes os) else none)=some d) (r:SR base ms st s) (ha:AOk 2 A) (p:Rep ms s.heap x v):Makes prog w A base ms st s (call (.type "bytes") [v]) d :=
 -- bytes of a list
 bE (o:=cQ st x) e fun l hl e=>bE (o:=bM l) e fun is hi e=>bE (o:=octs is) e fun os ho e=>ifS e fun hf e=>by
 rw [aZ] at hf
 obtain⟨a,us,rfl,hL,hr⟩:=fJ r hl p
 obtain⟨h1,rfl⟩:=aOc _ ho
 have hI:=oO _ hi hr
 rw [List.length_map,← hI.length] at hf
 exact ret1 e (Makes.of fun Q E hQ=>call_bytes_ints hL hI h1 (by unfold sizeLine; lia) ha.handled fun h' t k hk=>fB r hk (rA h1) hQ)
theorem eE {α:Type} {l:List α} {a:α} (h:one l=some a):l=[a]:=by
 induction l using List.casesOn with
 | nil=>exact nn h
 | cons b l=>induction l using List.casesOn with
  | nil=>exact congrArg (fun x=>[x]) (Option.some.inj h)
  | cons=>exact nn h
theorem jE {α:Type} {l:List α} {a:α×α} (h:two l=some a):l=[a.1,a.2]:=by
 induction l using List.casesOn with
 | nil=>exact nn h
 | cons b l=>induction l using List.casesOn with
  | nil=>exact nn h
  | cons c l=>induction l using List.casesOn with
   | nil=>exact congrArg (fun x:α×α=>[x.1,x.2]) (Option.some.inj h)
   | cons=>exact nn h
theorem nN {ts:List D} (h:oF ts=true):ts=[.type "bytes",.type "bytearray"] :=
 bE (of_decide_eq_true h) fun q hq h=>bE (o:=typD q.1) h fun a ha h=>mE (o:=typD q.2) h fun b hb h=>by
 rw [jE hq,fS ha,fS hb,show a=_ from congrArg Prod.fst h,show b=_ from congrArg Prod.snd h]
theorem aJo {x t d:D} {v u:Value} (e:aRd x t=some d) (r:SR base ms st s) (p:Rep ms s.heap x v) (q:Rep ms s.heap t u):Makes prog w A base ms st s (call (.builtin "isinstance") [v,u]) d:=by
 induction x using D.casesOn with
 | str l=>exact ifS e fun h e=>ret1 e (zN r p (fS h▸q))
 | bytes l=>exact ifE e (fun h e=>ret1 e (uT r p (fS h▸q))) fun _ e=>bE (o:=tupD t) e fun ts ht e=>ifS e fun h e=>ret1 e (aBf r p (nN h▸kU ht▸q))
 | _=>exact nn e
theorem aFd {n:String} {x d:D} {v:Value} (e:aMm st n x=some d) (r:SR base ms st s) (ha:AOk 2 A) (p:Rep ms s.heap x v) (hsort:uA prog w A base ms st s):Makes prog w A base ms st s (call (.builtin n) [v]) d :=
 ifE e (fun h e=>h▸aLf e r p) fun _ e=>ifE e (fun h e=>h▸aUv e r ha p) fun _ e=>ifS e fun h e=>h▸aLi e r p hsort
theorem aEm {n:String} {x y d:D} {v u:Value} (e:aJv n x y=some d) (r:SR base ms st s) (ha:AOk 2 A) (p:Rep ms s.heap x v) (q:Rep ms s.heap y u):Makes prog w A base ms st s (call (.builtin n) [v,u]) d :=
 ifE e (fun h e=>h▸aUs e r ha p q) fun _ e=>ifS e fun h e=>h▸aJo e r p q
theorem aFa {n:String} {x d:D} {v:Value} (e:aNm st n x=some d) (r:SR base ms st s) (ha:AOk 2 A) (p:Rep ms s.heap x v):Makes prog w A base ms st s (call (.type n) [v]) d :=
 ifE e (fun h e=>h▸aTm e r p) fun _ e=>ifE e (fun h e=>h▸aIv e r p) fun _ e=>ifE e (fun h e=>h▸aUo e r p) fun _ e=>ifE e (fun h e=>h▸aVf e r p) fun _ e=>ifS e fun h e=>h▸aPv e r ha p
theorem lT {f:D→Option D} {g:D→D→Option D} {k:D→D→D→Option D} {d:D} {P:List D→Prop} (ds:List D) (e:qO f g k ds=some d) (h1:∀ a,f a=some d→P [a]) (h2:∀ a b,g a b=some d→P [a,b]) (h3:∀ a b c,k a b c=some d→P [a,b,c]):P ds:=by
 induction ds using List.casesOn with
 | nil=>exact nn e
 | cons a r=>induction r using List.casesOn with
  | nil=>exact h1 a e
  | cons b r=>induction r using List.casesOn with
   | nil=>exact h2 a b e
   | cons c r=>exact ifS e fun hr e=>List.isEmpty_iff.mp hr▸h3 a b c e
theorem wM {f:D→Option D} {g:D→D→Option D} {k:D→D→D→Option D} {h:Heap} {d:D} {P:List Value→Prop} (ds:List D) {vs:List Value} (e:qO f g k ds=some d) (p:Reps ms h ds vs) (h1:∀ a v,f a=some d→Rep ms h a v→P [v]) (h2:∀ a b v u,g a b=some d→Rep ms h a v→Rep ms h b u→P [v,u]) (h3:∀ a b c v u x,k a b c=some d→Rep ms h a v→Rep ms h b u→Rep ms h c x→P [v,u,x]):P vs :=
 lT (P:=fun ds=>Reps ms h ds vs→P vs) ds e (fun a e p=>by
  obtain⟨v,rfl,p'⟩:=cH p
  exact h1 a v e p') (fun a b e p=>by
  obtain⟨v,u,rfl,p',q⟩:=fE p
  exact h2 a b v u e p' q) (fun a b c e p=>by
  obtain⟨v,u,x,rfl,p',q,q'⟩:=aAv p
  exact h3 a b c v u x e p' q q') p
theorem aIn {f d:D} {ds:List D} {vf:Value} {vs:List Value} (e:bcall st f ds=some d) (r:SR base ms st s) (ha:AOk 2 A) (pf:Rep ms s.heap f vf) (ps:Reps ms s.heap ds vs) (hsort:uA prog w A base ms st s):Makes prog w A base ms st s (call vf vs) d:=by
 induction f using D.casesOn with
 | builtin n =>
  subst pf
  exact wM (P:=fun vs=>Makes prog w A base ms st s (call (.builtin n) vs) d) ds e ps (fun a v e p=>aFd e r ha p hsort) (fun a b v u e p q=>aEm e r ha p q) fun _ _ _ _ _ _ e=>nn e
 | type n =>
  subst pf
  exact wM (P:=fun vs=>Makes prog w A base ms st s (call (.type n) vs) d) ds e ps (fun a v e p=>aFa e r ha p) (fun a b v u e p q=>ifS e fun h e=>h▸aJs e r p q) fun _ _ _ _ _ _ e p q q'=>ifS e fun h e=>h▸aMk e r p q q'
 | _=>exact nn e
end
end Mine
end
section -- S6
open PySem PyProof.Rows PySem.SeqAt
namespace Mine
noncomputable def glue (z:List Nat):List (List Nat)→List Nat
 | []=>[]
 | [p]=>p
 | p::q::r=>p++z++glue z (q::r)
theorem gN (c:Nat):∀ l:List Nat,aI c l≠[]
 | []=>by simp [aI]
 | x::xs=>by
  rw [aI]
  split
  ·simp
  ·split <;> simp
set_option tactic.hygienic true in
theorem iT (c:Nat):∀ l:List Nat,∀ p∈aI c l,c∉p
 | [],p,hp=>by simp [aI] at hp; subst hp; simp
 | x::xs,p,hp=>by
  rw [aI] at hp
  split at hp
  ·rcases List.mem_cons.mp hp with rfl | hp
   ·simp
   ·exact iT c xs p hp
  ·rename_i hx
   split at hp
   ·exact absurd ‹_› (gN c xs)
   ·rename_i q qs hq
    have ih:=iT c xs
    rw [hq] at ih
    rcases List.mem_cons.mp hp with rfl | hp
    ·intro h
     rcases List.mem_cons.mp h with h | h
     ·exact hx h.symm
     ·exact ih q (.head _) h
    ·exact ih p (.tail _ hp)
theorem aGe (z p:List Nat) {qs:List (List Nat)} (h:qs≠[]):glue z (p::qs)=p++z++glue z qs:=by
 induction qs using List.casesOn with
 | nil=>exact absurd rfl h
 | cons q r=>rfl
set_option tactic.hygienic true in
theorem hK (c:Nat) (z:List Nat):∀ l:List Nat,glue z (aI c l)=replC c z l
 | []=>by simp [aI,glue,replC]
 | x::xs=>by
  rw [aI]
  split
  ·rename_i hx
   rw [aGe _ _ (gN c xs),hK c z xs]
   simp [replC,hx]
  ·rename_i hx
   have ih:=hK c z xs
   split
   ·exact absurd ‹_› (gN c xs)
   ·rename_i q qs hq
    rw [hq] at ih
    have:glue z ((x::q)::qs)=x::glue z (q::qs):=by
     induction qs using List.casesOn with
     | nil=>rfl
     | cons a b=>simp [glue]
    rw [this,ih]
    simp [replC,hx]
theorem wY (c:Nat):∀ (ps qs:List (List Nat)),ps≠[]→qs≠[]→(∀ p∈ps,c∉p)→(∀ q∈qs,c∉q)→glue [c] ps=glue [c] qs→ps=qs
 | [],_,h,_,_,_,_=>absurd rfl h
 | _,[],_,h,_,_,_=>absurd rfl h
 | [p],[q],_,_,_,_,e=>by simpa [glue] using e
 | [p],q::q'::r,_,_,hp,_,e=>by
  simp only [glue] at e
  have:c∈p:=by rw [e]; simp
  exact absurd this (hp p (.head _))
 | p::p'::r,[q],_,_,_,hq,e=>by
  simp only [glue] at e
  have:c∈q:=by rw [← e]; simp
  exact absurd this (hq q (.head _))
 | p::p'::r,q::q'::r',_,_,hp,hq,e=>by
  simp only [glue] at e
  have key:∀ (a b x y:List Nat),c∉a→c∉b→a++[c]++x=b++[c]++y→a=b∧x=y:=by
   intro a
   induction a with
   | nil =>
    intro b x y _ hb e
    induction b using List.casesOn with
    | nil=>simpa using e
    | cons d b =>
     simp at e
     exact absurd (by rw [e.1]; simp) hb
   | cons d a ih =>
    intro b x y ha hb e
    induction b using List.casesOn with
    | nil =>
     simp at e
     exact absurd (by rw [e.1]; simp) ha
    | cons d' b =>
     simp at e
     obtain⟨h1,h2⟩:=ih b x y (fun h=>ha (.tail _ h)) (fun h=>hb (.tail _ h)) (by simpa using e.2)
     exact⟨by rw [e.1,h1],h2⟩
  obtain⟨h1,h2⟩:=key p q _ _ (hp p (.head _)) (hq q (.head _)) e
  have:=wY c (p'::r) (q'::r') (by simp) (by simp) (fun x hx=>hp x (.tail _ hx)) (fun x hx=>hq x (.tail _ hx)) h2
  rw [h1,this]
theorem iX (z:List Nat):∀ ps:List (List Nat),Str.join ⟨z.toArray⟩ (ps.map fun p=>⟨p.toArray⟩)=⟨(glue z ps).toArray⟩
 | []=>rfl
 | [p]=>rfl
 | p::q::r=>by
  have ih:=iX z (q::r)
  simp only [List.map_cons] at ih ⊢
  rw [Str.join,ih]
  ·show Str.mk ((p.toArray++z.toArray)++(glue z (q::r)).toArray)=Str.mk _
   simp [glue]
  ·simp
set_option tactic.hygienic true in
theorem yW (l:List Nat) (c:Nat):Txt.split ⟨l.toArray⟩ ⟨#[c]⟩=(aI c l).map fun p=>⟨p.toArray⟩:=by
 have hj:=StrLaws.join_split ⟨l.toArray⟩ ⟨#[c]⟩
 have hf:=StrLaws.split_free ⟨l.toArray⟩ c
 generalize hT:Txt.split ⟨l.toArray⟩ ⟨#[c]⟩=T at hj hf
 have hT2:T=(T.map fun p=>p.cps.toList).map fun p=>(⟨p.toArray⟩:Str):=by
  rw [List.map_map]
  conv=>lhs; rw [← List.map_id T]
  apply List.map_congr_left
  intro p _; rfl
 rw [hT2] at hj ⊢
 congr 1
 have e:glue [c] (T.map fun p=>p.cps.toList)=l:=by
  have:=iX [c] (T.map fun p=>p.cps.toList)
  have h2:(⟨[c].toArray⟩:Str)=⟨#[c]⟩:=rfl
  rw [h2] at this
  rw [this] at hj
  injection hj with hj
  simpa using hj
 have e2:glue [c] (aI c l)=l:=by
  rw [hK]
  unfold replC
  have:(fun x=>if x=c then [c] else [x])=fun x=>[x]:=by
   funext x
   split
   ·rename_i h; rw [h]
   ·rfl
  rw [this]; simp
 refine wY c _ _ ?_ (gN c l) ?_ (iT c l) (e.trans e2.symm)
 ·intro h
  have h3:T=[]:=by simpa using h
  rw [h3] at hT
  unfold Txt.split at hT
  split at hT
  ·cases hT
  ·split at hT
   ·cases hT
   ·rename_i h1 h2
    have:=congrArg List.length hT
    simp [Builtin.Str.partsBetween] at this
 ·intro p hp
  obtain⟨q,hq,rfl⟩:=List.mem_map.mp hp
  exact hf q hq
theorem aAu (l z:List Nat) (c:Nat):Txt.replace ⟨l.toArray⟩ ⟨#[c]⟩ ⟨z.toArray⟩=⟨(replC c z l).toArray⟩:=by
 rw [StrLaws.replace_one,yW,iX,hK]
theorem jP (c:Nat):∀ (l:List Nat) (i:Nat),match findFrom c l i with
  | some k=>i≤k∧l[k - i]? = some c∧∀ j:Nat,j < k - i→l[j]?≠some c
  | none=>∀ j:Nat,l[j]?≠some c
 | [],i=>by simp [findFrom]
 | x::xs,i=>by
  rw [findFrom]
  by_cases h:x=c
  ·rw [if_pos h]; simp [h]
  ·rw [if_neg h]
   have ih:=jP c xs (i+1)
   cases hk:findFrom c xs (i+1) with
   | some k =>
    rw [hk] at ih
    obtain⟨h1,h2,h3⟩:=ih
    refine⟨by lia,?_,fun j hj=>?_⟩
    ·have:k - i=(k - (i+1))+1:=by lia
     rw [this]; simpa using h2
    ·induction j using Nat.casesOn with
     | zero=>simpa using h
     | succ j=>simpa using h3 j (by omega)
   | none =>
    rw [hk] at ih
    intro j
    induction j using Nat.casesOn with
    | zero=>simpa using h
    | succ j=>simpa using ih j
set_option tactic.hygienic true in
theorem wD (l:List Nat) (c i:Nat):Txt.find3 ⟨l.toArray⟩ ⟨#[c]⟩ (i:Int)=sfind l c i:=by
 have h1:=StrLaws.find3_spec ⟨l.toArray⟩ c (i:Int)
 have hfr:fromIndex (Str.length ⟨l.toArray⟩) (i:Int)=i:=by
  unfold fromIndex
  rw [if_neg (by lia)]; omega
 rw [hfr] at h1
 have hg:∀ v,(Str.mk l.toArray).cps.getD v 0=(l[v]?).getD 0:=fun v=>by simp [Array.getD_eq_getD_getElem?]
 have hlen:Str.length ⟨l.toArray⟩=l.length:=by simp [Str.length]
 simp only [hg,hlen] at h1
 have h2:=jP c (l.drop i) i
 unfold sfind
 split at h2
 ·rename_i k hk
  obtain⟨a1,a2,a3⟩:=h2
  try rw [hk]
  rw [List.getElem?_drop] at a2
  have hki:i+(k - i)=k:=by lia
  rw [hki] at a2
  have hkl:k < l.length:=(List.getElem?_eq_some_iff.mp a2).1
  rcases h1 with ⟨e,hn⟩ | ⟨k',e,b1,b2,b3,b4⟩
  ·exact absurd (by rw [a2]; rfl) (hn k a1 hkl)
  ·rw [e]
   have:k'=k:=by
    rcases Nat.lt_trichotomy k' k with h | h | h
    ·have:=a3 (k' - i) (by lia)
     rw [List.getElem?_drop] at this
     have e2:i+(k' - i)=k':=by lia
     rw [e2] at this
     rw [List.getElem?_eq_getElem b2] at this b3
     simp at b3
     exact absurd (by rw [b3]) this
    ·exact h
    ·exact absurd (by rw [a2]; rfl) (b4 k a1 h)
   rw [this]
 ·rename_i hk
  try rw [hk]
  rcases h1 with ⟨e,hn⟩ | ⟨k',e,b1,b2,b3,b4⟩
  ·rw [e]
  ·have:=h2 (k' - i)
   rw [List.getElem?_drop] at this
   have e2:i+(k' - i)=k':=by lia
   rw [e2] at this
   rw [List.getElem?_eq_getElem b2] at this b3
   simp at b3
   exact absurd (by rw [b3]) this
set_option tactic.hygienic true in
theorem qK (c:Nat):∀ l:List Nat,(aI c l).length≤l.length+1
 | []=>by simp [aI]
 | x::xs=>by
  have ih:=qK c xs
  rw [aI]
  split
  ·simp; omega
  ·split
   ·simp
   ·rename_i q qs hq
    rw [hq] at ih
    simp at ih ⊢; lia
set_option tactic.hygienic true in
theorem nE (c:Nat):∀ l:List Nat,∀ p∈aI c l,p.length≤l.length
 | [],p,hp=>by simp [aI] at hp; subst hp; simp
 | x::xs,p,hp=>by
  rw [aI] at hp
  split at hp
  ·rcases List.mem_cons.mp hp with rfl | hp
   ·simp
   ·have:=nE c xs p hp; simp; lia
  ·split at hp
   ·exact absurd ‹_› (gN c xs)
   ·rename_i q qs hq
    have ih:=nE c xs
    rw [hq] at ih
    rcases List.mem_cons.mp hp with rfl | hp
    ·have:=ih q (.head _); simp; omega
    ·have:=ih p (.tail _ hp); simp; lia
section
variable {prog:Program} {w:World} {A:Around} {s:Shared} {base:Base} {ms:List Addr} {st:Store}
noncomputable def aCk (prog:Program) (w:World) (A:Around) (s:Shared) (v:Value) (name:Str) (id:String) (first:List Value):Prop :=
 ∀ (pl:Sem Bool) (Q:Value×List Value→Shared→Prop) (E:Value→Shared→Prop),(∀ tk,s.toks≤tk→Q (.builtin id,first) { s with toks:=tk })→wpAny (model prog w) A (getMethod v name pl) Q E s
noncomputable def gW (prog:Program) (w:World) (A:Around) (base:Base) (ms:List Addr) (st:Store) (s:Shared) (vs:List Value) (d:D) (id:String) (first:List Value):Prop :=
 ∀ tk,s.toks≤tk→Makes prog w A base ms st { s with toks:=tk } (call (.builtin id) (first++vs)) d
theorem aUx:KeptByPush (fun s':Shared=>(∀ a o,s.heap.get? a=some o→s'.heap.get? a=some o)∧s'.gens=s.gens∧s'.os=s.os) :=
 fun s' ob k h=>⟨fun a o e=>Heap.get?_push_of_some _ (h.1 a o e),h.2.1,h.2.2⟩
theorem mI {h:Heap}:∀ (l:List (Str×Tok)) (ps:List (List Nat)),l.map (·.1)=(ps.map fun p=>(⟨p.toArray⟩:Str))→Reps ms h (ps.map .str) (strValues l)
 | [],[],_=>by simpa [strValues] using Reps.nil
 | [],_::_,e=>by simp at e
 | _::_,[],e=>by simp at e
 | (x,t)::l,p::ps,e=>by
  simp only [List.map_cons,List.cons.injEq] at e
  have ih:=mI (h:=h) l ps e.2
  have e1:x=⟨p.toArray⟩:=e.1
  subst e1
  exact .cons (by rw [Rep]; exact⟨t,rfl⟩) ih
end
end Mine
end
section -- S6b
open PySem PyProof.Rows PySem.SeqAt
namespace Mine
section
variable {prog:Program} {w:World} {A:Around} {s:Shared} {base:Base} {ms:List Addr} {st:Store}
theorem wZ:∀ ps:List (List Nat),glue [] ps=ps.flatten
 | []=>rfl
 | [p]=>by simp [glue]
 | p::q::r=>by rw [glue,wZ (q::r)]; simp
theorem aOn {h:Heap} (ts:List D):∀ {ss:List (List Nat)} {vs:List Value},iE ts=some ss→Reps ms h ts vs→∃ l:List (Str×Tok),vs=strValues l∧l.map (·.1)=ss.map fun p=>(⟨p.toArray⟩:Str):=by
 induction ts with
 | nil=>exact fun e p=>⟨[],p,Option.some.inj e▸rfl⟩
 | cons d ts ih =>
  intro ss vs e p
  obtain⟨v,r,rfl,x,y⟩:=p
  refine bE (o:=strD d) e fun i hi e=>mE (o:=iE ts) e fun js hj e=>?_
  rw [eY hi] at x
  obtain⟨t,rfl⟩:=x
  obtain⟨l,rfl,hl⟩:=ih hj y
  exact⟨(⟨i.toArray⟩,t)::l,rfl,e▸congrArg (_::·) hl⟩
theorem aQh {l:List Nat} {c:Nat} {v:Value} {vs:List Value} (r:SR base ms st s) (p:Rep ms s.heap (.str l) v) (ps:Reps ms s.heap [.str [c]] vs):gW prog w A base ms st s vs (.int (sfind l c 0)) "str.find" [v]:=by
 obtain⟨u,rfl,q⟩:=cH ps
 obtain⟨t,rfl⟩:=p; obtain⟨t',rfl⟩:=q
 intro tk ht
 refine Makes.of fun Q E hQ=>?_
 refine SC.find ?_
 have e:Txt.find ⟨l.toArray⟩ ⟨[c].toArray⟩=sfind l c 0:=by
  rw [← wD]; rfl
 rw [e]
 exact aJ (r.toks' ht) (cP _ _ _) hQ
theorem aMh {l:List Nat} {c:Nat} {i:Int} {v:Value} {vs:List Value} (hi:0≤i) (r:SR base ms st s) (p:Rep ms s.heap (.str l) v) (ps:Reps ms s.heap [.str [c],.int i] vs):gW prog w A base ms st s vs (.int (sfind l c i.toNat)) "str.find" [v]:=by
 obtain⟨u,u',rfl,q,q'⟩:=fE ps
 obtain⟨t,rfl⟩:=p; obtain⟨t',rfl⟩:=q; obtain⟨t'',rfl⟩:=q'
 intro tk ht
 refine Makes.of fun Q E hQ=>?_
 refine SC.find3 ?_
 have e:Txt.find3 ⟨l.toArray⟩ ⟨[c].toArray⟩ i=sfind l c i.toNat:=by
  rw [← wD]
  have:((i.toNat:Nat):Int)=i:=by lia
  rw [this]
 rw [e]
 exact aJ (r.toks' ht) (cP _ _ _) hQ
theorem aLk {l:List Nat} {c:Nat} {v:Value} {vs:List Value} (hf:fits l.length=true) (r:SR base ms st s) (p:Rep ms s.heap (.str l) v) (ps:Reps ms s.heap [.str [c]] vs):gW prog w A base ms st s vs (.list ((aI c l).map .str)) "str.split" [v]:=by
 obtain⟨u,rfl,q⟩:=cH ps
 rw [aZ] at hf
 obtain⟨t,rfl⟩:=p; obtain⟨t',rfl⟩:=q
 intro tk ht
 refine Makes.of fun Q E hQ=>?_
 have hs:=yW l c
 have r':=r.toks' ht
 have itself:Txt.split ⟨l.toArray⟩ ⟨[c].toArray⟩=[⟨l.toArray⟩]→Reps ms s.heap ((aI c l).map .str) [.str ⟨l.toArray⟩ t]:=fun e=>by
  have e2:((aI c l).map fun p=>(⟨p.toArray⟩:Str))=[(⟨l.toArray⟩:Str)]:=by rw [← hs]; exact e
  exact mI [(⟨l.toArray⟩,t)] (aI c l) (by rw [e2]; rfl)
 cases h1:(decide (Str.length ⟨l.toArray⟩ < Str.length ⟨[c].toArray⟩) || decide (Builtin.Str.strKind ⟨l.toArray⟩ < Builtin.Str.strKind ⟨[c].toArray⟩))
 ·cases h2:(Builtin.Str.occurrences ⟨l.toArray⟩ ⟨[c].toArray⟩ 0 (Str.length ⟨l.toArray⟩) (Str.length ⟨l.toArray⟩+1)).isEmpty
  ·have e:Txt.split ⟨l.toArray⟩ ⟨[c].toArray⟩=Builtin.Str.partsBetween ⟨l.toArray⟩ (Builtin.Str.occurrences ⟨l.toArray⟩ ⟨[c].toArray⟩ 0 (Str.length ⟨l.toArray⟩) (Str.length ⟨l.toArray⟩+1)) (Str.length ⟨[c].toArray⟩):=by
    unfold Txt.split; rw [h1,h2]; rfl
   have e3:Builtin.Str.partsBetween ⟨l.toArray⟩ (Builtin.Str.occurrences ⟨l.toArray⟩ ⟨[c].toArray⟩ 0 (Str.length ⟨l.toArray⟩) (Str.length ⟨l.toArray⟩+1)) (Str.length ⟨[c].toArray⟩)=(aI c l).map fun p=>(⟨p.toArray⟩:Str):=by
    rw [← e]; exact hs
   refine call_meets F.slot_str_split (typeIs_str _ _ _) F.entry_str_split (F.args_str_split_2 _ _) (meets_str_split_sep _ _ t t' h1 rfl h2 (by simp [Str.length]; unfold sizeLine; lia) ?_) ?_
   ·rw [e3]
    have:=qK c l
    simp; unfold sizeLine; lia
   ·rw [e3,strsFrom_eq]
    exact dD r' (bW r' (mI _ _ (numbered_texts _ _))) hQ
  ·refine call_meets F.slot_str_split (typeIs_str _ _ _) F.entry_str_split (F.args_str_split_2 _ _) (meets_str_split_not_found _ _ t t' h1 rfl h2) ?_
   exact dD r' (bW r' (vs:=[.str ⟨l.toArray⟩ t]) (itself (by unfold Txt.split; rw [h1,h2]; rfl))) hQ
 ·refine call_meets F.slot_str_split (typeIs_str _ _ _) F.entry_str_split (F.args_str_split_2 _ _) (meets_str_split_cannot_occur _ _ t t' h1) ?_
  exact dD r' (bW r' (vs:=[.str ⟨l.toArray⟩ t]) (itself (by unfold Txt.split; rw [h1]; rfl))) hQ
theorem aHk (l:List Str):∀ n:Nat,l.foldl (fun a b=>a+b.length+(Str.length ⟨([]:List Nat).toArray⟩)) n=n+(l.map (·.length)).sum:=by
 induction l with
 | nil=>intro n; simp
 | cons x r ih=>intro n; rw [List.foldl_cons,ih]; simp [Str.length]; lia
theorem aQf {ts:List D} {ss:List (List Nat)} {v:Value} {vs:List Value} (h1:iE ts=some ss) (hf:fits ss.flatten.length=true) (r:SR base ms st s) (p:Rep ms s.heap (.str []) v) (ps:Reps ms s.heap [.list ts] vs) :
  gW prog w A base ms st s vs (.str ss.flatten) "str.join" [v]:=by
 obtain⟨u,rfl,q⟩:=cH ps
 rw [aZ] at hf
 obtain⟨t,rfl⟩:=p
 obtain⟨a,us,rfl,ha,hl,hr⟩:=aO q
 obtain⟨l,rfl,hlm⟩:=aOn _ h1 hr
 intro tk ht
 refine Makes.of fun Q E hQ=>?_
 refine SC.join (s:={ s with toks:=tk }) hl hlm ?_ fun t' k=>?_
 ·unfold JoinOk
  rw [Bool.not_eq_true']
  unfold Builtin.Str.tooLong
  refine decide_eq_false ?_
  rw [← Array.foldl_toList]
  simp only []
  rw [aHk]
  have:(ss.map fun p=>(⟨p.toArray⟩:Str)).map (·.length)=ss.map List.length:=by simp [Str.length]
  rw [this,← List.length_flatten]
  unfold sizeLine; lia
 ·have e:Txt.join ⟨([]:List Nat).toArray⟩ (ss.map fun p=>(⟨p.toArray⟩:Str))=⟨ss.flatten.toArray⟩:=by
   unfold Txt.join
   rw [StrLaws.glued_eq_join,iX,wZ]
  rw [e]
  exact aJ (r.toks' ht) (eX _ _ _) hQ
end
end Mine
end
section -- S6c
open PySem PyProof.Rows PySem.SeqAt
open PySem.Builtin
namespace Mine
section
variable {c:UInt8} {cs:List UInt8} {t u:Tok} {b:Array UInt8}
theorem aFc:«bytes.decode» ⟨[.bytes (c::cs).toArray t,.str ⟨#[97,115,99,105,105]⟩ u],[]⟩=(mkStr (PySem.Str.ofString "utf-8") >>= fun _=>mkStr ⟨#[97,115,99,105,105]⟩ >>= fun e=>mkStr (PySem.Str.ofString "bytes.decode") >>= fun d =>
  call (.builtin "_codecs.decode.text") [.bytes (c::cs).toArray t,e,.none,d] >>= fun v=>ret v):=by kernel_rfl
theorem aHq {id:String}:_codecs.decodeRoad id b ⟨#[97,115,99,105,105]⟩ none []=(_codecs.runDecoder id _codecs.asciiDecoder none true b 0 [] >>= fun r=>mkStr ⟨r.1⟩):=by kernel_rfl
theorem aGk {x:PySem.Str}:«str.encode» ⟨[.str x t,.str ⟨#[97,115,99,105,105]⟩ u],[]⟩=((_codecs.encodeNarrow "str.encode" _codecs.asciiCodec none (.str x t) x >>= fun r=>mkBytes r) >>= fun v=>ret v):=by kernel_rfl
variable {prog:Program} {w:World} {A:Around} {E:Value→Shared→Prop} {s:Shared}
theorem vA {M:Model} {d:Array UInt8} {id:String} {Q:Array UInt8→Shared→Prop} (h:Q d s):wpAny M A (Bytes.bytesLike id (.bytes d u)) Q E s:=wpAny_of_eq PySem.W.KBd.like_eq h
theorem aIe {d:Array UInt8} (h:d.size=256) (hz:b.size≤sizeLine):Meets («bytes.translate» ⟨[.bytes b t,.bytes d u],[]⟩) (fun _ R s=>∀ t' k,R (.ok (.ret (.bytes (b.map fun c=>d.getD c.toNat c) t'))) { s with toks:=k }):=by
 refine .of_wp fun prog w A R s hS=>?_
 refine (?_:wpAny _ _ (Bytes.translateM .bytes ⟨[.bytes b t,.bytes d u],[]⟩) _ _ s)
 unfold Bytes.translateM
 wp_walk using vA
 have hf:b.filter (fun x=>!(#[]:Array UInt8).contains x)=b:=by
  rw [Array.filter_eq_self]; intro a _; simp
 rw [hf]
 refine wpAny_ite_split (fun he=>?_) (fun he=>?_)
 ·have e:Array.map (fun c=>d.getD c.toNat c) b=b:=eq_of_beq he
  refine wpAny_bind (wpAny_rule ?_)
  refine wpAny_bind (m:=Bytes.Kind.bytes.same (.bytes b t)) (wpAny_of_eq (a:=Value.bytes b t) (by kernel_rfl) ?_)
  refine wpAny_pure ⟨_,rfl,?_⟩
  have:=hS t s.toks
  rw [e] at this
  exact this
 ·refine wpAny_bind (wpAny_mkBytes ?_ (by simpa using hz))
  exact wpAny_pure ⟨_,rfl,hS _ _⟩
theorem aPb (x y:Array UInt8) (t u:Tok):∃ raising:Array UInt8→Array UInt8→Sem PySem.Fin,«bytes.maketrans» ⟨[.bytes x t,.bytes y u],[]⟩ =
  (Bytes.bytesLike "bytes.maketrans" (.bytes x t) >>= fun f=>Bytes.bytesLike "bytes.maketrans" (.bytes y u) >>= fun g=>if (f.size != g.size)=true then raising f g else (mkBytes ((f.toList.zip g.toList).foldl (fun t (f,x)=>t.setIfInBounds f.toNat x) ((Array.range 256).map (·.toUInt8))) >>= fun v=>ret v)) :=
 ⟨_,by rfl⟩
theorem aKx {x y:Array UInt8} (h:x.size=y.size):Meets («bytes.maketrans» ⟨[.bytes x t,.bytes y u],[]⟩) (fun _ R s=>∀ t' k,R (.ok (.ret (.bytes ((x.toList.zip y.toList).foldl (fun t (p:UInt8×UInt8)=>t.setIfInBounds p.1.toNat p.2) ((Array.range 256).map (·.toUInt8))) t'))) { s with toks:=k }):=by
 refine .of_wp fun prog w A R s hS=>?_
 obtain⟨raising,e⟩:=aPb x y t u
 rw [e]
 refine wpAny_bind (vA (wpAny_bind (vA ?_)))
 rw [if_neg (by simp [h])]
 refine wpAny_bind (wpAny_mkBytes (wpAny_pure ⟨_,rfl,hS _ _⟩) ?_)
 have key:∀ (l:List (UInt8×UInt8)) (a:Array UInt8),(l.foldl (fun t (p:UInt8×UInt8)=>t.setIfInBounds p.1.toNat p.2) a).size=a.size:=by
  intro l
  induction l with
  | nil=>intro a; rfl
  | cons p l ih=>intro a; rw [List.foldl_cons,ih]; simp
 refine (?_:(List.foldl (fun t (p:UInt8×UInt8)=>t.setIfInBounds p.1.toNat p.2) ((Array.range 256).map (·.toUInt8)) (x.toList.zip y.toList)).size≤sizeLine)
 rw [key]
 simp
 unfold sizeLine
 lia
end
end Mine
end
section -- S6d
open PySem PyProof.Rows PySem.SeqAt
open PySem.Builtin
namespace Mine
theorem mZ {σ:Type} (f:Nat→σ→Sem (ForInStep σ)) (S:Nat→σ):∀ (l:List Nat) (i:Nat),(∀ j x,i≤j→j < i+l.length→f x (S j)=pure (.yield (S (j+1))))→forIn l (S i) f=pure (S (i+l.length))
 | [],i,_=>by simp
 | x::r,i,h=>by
  rw [List.forIn_cons,h i x (Nat.le_refl _) (by simp)]
  have ih:=mZ f S r (i+1) (fun j y h1 h2=>h j y (by lia) (by simp at h2 ⊢; lia))
  refine (?_:forIn r (S (i+1)) f=_)
  rw [ih,List.length_cons]
  congr 2; lia
theorem zP {σ:Type} (f:Nat→σ→Sem (ForInStep σ)) (S:σ) (h:∀ x,f x S=pure (.done S)):∀ l:List Nat,forIn l S f=pure S
 | []=>by simp
 | x::r=>by rw [List.forIn_cons,h x]; rfl
theorem aCw (id:String) (b:Array UInt8) (h:∀ c∈b.toList,c.toNat < 128) (hz:b.size≤sizeLine):_codecs.runDecoder id _codecs.asciiDecoder none true b 0 []=pure ((b.map UInt8.toNat),b.size):=by
 unfold _codecs.runDecoder
 simp only [Std.Legacy.Range.forIn_eq_forIn_range',Std.Legacy.Range.size]
 let S:Nat→Nat×Array Nat×_codecs.Faults:=fun i=>(i,(((b.toList.take i).map UInt8.toNat).toArray),{})
 have h0:S 0=(0,#[],{}):=rfl
 rw [← h0,mZ _ S]
 ·refine (?_:(pure ((S _).2.1,(S _).1):Sem _)=_)
  have e:0+(List.range' 0 ((b.size - 0+1 - 1) / 1)).length=b.size:=by simp
  rw [e]
  refine (?_:(pure (((b.toList.take b.size).map UInt8.toNat).toArray,b.size):Sem _)=_)
  have e2:((b.toList.take b.size).map UInt8.toNat).toArray=b.map UInt8.toNat:=by
   have:b.size=b.toList.length:=by simp
   rw [this,List.take_length]
   apply Array.ext'
   simp
  rw [e2]
 ·intro j x hj1 hj2
  have hj:j < b.size:=by simp at hj2; omega
  have hs:¬ ((S j).2.1.size > sizeLine):=by simp [S]; lia
  rw [if_neg hs]
  have hp:¬ ((S j).1 ≥ b.size):=by simp [S]; omega
  rw [if_neg hp]
  have hc:(b.getD j 0).toNat < 128:=by
   have:b.getD j 0=b.toList[j]'(by simpa using hj):=by simp [Array.getD,hj]
   rw [this]
   exact h _ (List.getElem_mem _)
  have hf:_codecs.asciiDecoder.find true b (S j).1=.char (b.getD j 0).toNat (j+1):=by
   refine (?_:(if (b.getD j 0).toNat < 128 then _ else _)=_)
   rw [if_pos hc]
  rw [hf]
  refine (?_:(pure (ForInStep.yield (j+1,(S j).2.1++_,(S j).2.2)):Sem _)=_)
  congr 2
  refine (?_:(j+1,_,_)=(j+1,((b.toList.take (j+1)).map UInt8.toNat).toArray,_))
  congr 2
  rw [List.take_succ_eq_append_getElem (by simpa using hj)]
  simp [Array.getD,hj,S]
theorem aDc {α β:Type} {x:Sem α} {k:α→Sem β} {a:α} {r:Sem β} (h:x=pure a) (hk:k a=r):x >>= k=r:=by rw [h]; exact hk
theorem aEr {σ:Type} {F:Nat→σ→Sem (ForInStep σ)} {a b:σ} (n:Nat) (h0:∀ x,F x a=pure (.yield b)) (h1:∀ x,F x b=pure (.done b)) :
  forIn (⟨0,n+1,1,Nat.one_pos⟩:Std.Legacy.Range) a F=pure b:=by
 rw [Std.Legacy.Range.forIn_eq_forIn_range',show Std.Legacy.Range.size ⟨0,n+1,1,Nat.one_pos⟩=n+1 from (Nat.div_one _).trans rfl,List.range'_succ,List.forIn_cons,h0 0]
 exact zP F b h1 _
theorem zS {σ:Type} {F:Nat→σ→Sem (ForInStep σ)} {a:σ}:forIn (⟨0,0,1,Nat.one_pos⟩:Std.Legacy.Range) a F=pure a:=by
 rw [Std.Legacy.Range.forIn_eq_forIn_range']; rfl
theorem aPy (l:List Nat) (acc:Array UInt8):l.foldl (fun acc y=>acc++(_codecs.asciiCodec.bytesOf y).toArray) acc=acc++(l.map (·.toUInt8)).toArray:=by
 induction l generalizing acc with
 | nil=>simp
 | cons x l ih=>rw [List.foldl_cons,ih]; apply Array.ext'; simp [show _codecs.asciiCodec.bytesOf x=[x.toUInt8] from rfl]
theorem aEj {l:List Nat} (hb:∀ c∈l,_codecs.asciiCodec.bad c=false):(l.toArray.findIdx? _codecs.asciiCodec.bad).getD l.toArray.size=l.length:=by
 rw [Array.findIdx?_eq_none_iff.mpr fun c hc=>hb c (by simpa using hc)]; rfl
theorem aCj (l:List Nat):l.toArray.extract 0 l.toArray.size=l.toArray:=by simp
theorem aNj {l:List Nat} (hb:∀ c∈l,_codecs.asciiCodec.bad c=false) :
  ((0+((l.toArray.extract 0 l.toArray.size).findIdx? _codecs.asciiCodec.bad).getD (l.toArray.extract 0 l.toArray.size).size,((l.toArray.extract 0 l.toArray.size).extract 0 (((l.toArray.extract 0 l.toArray.size).findIdx? _codecs.asciiCodec.bad).getD (l.toArray.extract 0 l.toArray.size).size)).foldl (fun acc y=>acc++(_codecs.asciiCodec.bytesOf y).toArray) #[]):Nat×Array UInt8)=(l.length,(l.map (·.toUInt8)).toArray):=by
 rw [aCj,aEj hb,Nat.zero_add,show l.length=l.toArray.size from rfl,aCj,← Array.foldl_toList,aPy,Array.empty_append]
theorem opt_none.{u} {β:Sort u} {o:Option Nat} (h:o=none) (f:Nat→β) (g:Option Nat→β):_codecs.encodeNarrow.match_10 (fun _=>β) o f g=g none:=by rw [h]
theorem aQs (id:String) (v:Value) (l:List Nat) (h:∀ c∈l,c < 128) (hz:l.length≤sizeLine):_codecs.encodeNarrow id _codecs.asciiCodec none v ⟨l.toArray⟩=pure ((l.map (·.toUInt8)).toArray):=by
 have hb:∀ c∈l,_codecs.asciiCodec.bad c=false:=fun c hc=>decide_eq_false (Nat.not_le_of_lt (h c hc))
 induction l using List.casesOn with
 | nil=>exact aDc zS rfl
 | cons a r =>
  refine aDc (aEr r.length (b:=((a::r).length,((a::r).map (·.toUInt8)).toArray,{})) (fun x=>?_) fun x=>?_) rfl
  ·exact (if_neg (Nat.not_lt_zero _)).trans ((if_pos (c:=(!_codecs.asciiCodec.bad a)=true) (congrArg not (hb a (.head _)))).trans (congrArg (fun q:Nat×Array UInt8=>pure (ForInStep.yield (q.1,q.2,({}:_codecs.Faults)))) (aNj hb)))
  ·exact (if_neg (Nat.not_lt_of_le (Nat.le_trans (Nat.le_of_eq (List.length_map _)) hz))).trans (opt_none (o:=(a::r).toArray[(a::r).length]?) (Array.getElem?_eq_none (Nat.le_refl _)) _ _)
end Mine
end
section -- S6e
open PySem PyProof.Rows PySem.SeqAt
open PySem.Builtin
namespace Mine
namespace FB
theorem slot_translate:Slot "bytes" "translate" "bytes.translate" :=
 .of (owner:="bytes") (n:="translate") (by rw [typeLookup_type,builtinLookup_eq_fast]; kernel_rfl) (by decide +kernel) (by decide +kernel) (by decide +kernel)
  (by first | exact .inl (by decide +kernel) | exact .inr (by decide +kernel)) (by rw [isSubtype_type]; kernel_rfl)
theorem type_translate:typeOf (.builtin "bytes.translate")=pure (.type "method_descriptor"):=by show builtinType _=_; rw [builtinType_eq_fast]; kernel_rfl
theorem entry_translate:entryFor table "bytes.translate" = some Builtin.«bytes.translate»:=entryFor_of_tree (by kernel_rfl)
theorem args_translate (a b:Value):argsOk "bytes.translate" ⟨[a,b],[]⟩:=by
 unfold argsOk; rw [signature?_of (id:="bytes.translate") (n:="translate".toList.reverse) (o:="bytes".toList.reverse) (by kernel_rfl) PySem.W.FB.owner_bytes]; kernel_rfl
theorem args_decode2 (a b:Value):argsOk "bytes.decode" ⟨[a,b],[]⟩:=by
 unfold argsOk; rw [signature?_of (id:="bytes.decode") (n:="decode".toList.reverse) (o:="bytes".toList.reverse) (by kernel_rfl) PySem.W.FB.owner_bytes]; kernel_rfl
theorem find_maketrans:PySem.W.findCls [] (.type "bytes") (.type "type") "maketrans" = some (.val (.builtin "bytes.maketrans")):=by kernel_rfl
theorem handed_maketrans:PySem.W.handedIn (.builtin "bytes.maketrans")=true:=by decide +kernel
theorem entry_maketrans:entryFor table "bytes.maketrans" = some Builtin.«bytes.maketrans»:=entryFor_of_tree (by kernel_rfl)
theorem plain_maketrans:plainId "bytes.maketrans" = true:=by decide +kernel
theorem check_maketrans (a b:Value):checkBuiltinCall "bytes.maketrans" ⟨[a,b],[]⟩=pure ():=by kernel_rfl
theorem meta_bytes:typeOf (.type "bytes")=pure (.type "type"):=by kernel_rfl
theorem stub_bytes:Manifest.isStub "bytes" = false:=by decide +kernel
end FB
section
variable {prog:Program} {w:World} {A:Around} {s:Shared} {base:Base} {ms:List Addr} {st:Store}
theorem aKm (d:Array UInt8) (hd:d.size=256) (c:UInt8):(d.getD c.toNat c).toNat=(d.toList.map UInt8.toNat).getD c.toNat 0:=by
 have hc:c.toNat < d.size:=by rw [hd]; exact c.toNat_lt
 simp [Array.getD,hc,List.getD]
theorem vB {l t':List Nat} {v:Value} {vs:List Value} (ht:t'.length=256) (hf:fits l.length=true) (r:SR base ms st s) (p:Rep ms s.heap (.bytes l) v) (ps:Reps ms s.heap [.bytes t'] vs) :
  gW prog w A base ms st s vs (.bytes (l.map fun c=>t'.getD c 0)) "bytes.translate" [v]:=by
 obtain⟨u,rfl,q⟩:=cH ps
 rw [aZ] at hf
 obtain⟨b,t,rfl,rfl⟩:=p; obtain⟨d,u',rfl,rfl⟩:=q
 have hd:d.size=256:=by simpa using ht
 intro tk htk
 refine Makes.of fun Q E hQ=>?_
 refine call_meets FB.slot_translate (PySem.W.typeIs_bytes _ _ _) FB.entry_translate (FB.args_translate _ _) (aIe hd (by simp at hf; unfold sizeLine; lia)) fun t'' k=>?_
 refine aJ (r.toks' htk) ?_ hQ
 rw [Rep]
 refine⟨_,t'',rfl,?_⟩
 simp only [Array.toList_map,List.map_map]
 apply List.map_congr_left
 intro c _
 exact aKm d hd c
theorem aFb {l:List Nat} {v:Value} {vs:List Value} (ha:l.all (· < 128)=true) (hf:fits l.length=true) (hn:l.isEmpty=false) (r:SR base ms st s) (p:Rep ms s.heap (.bytes l) v) (ps:Reps ms s.heap [.str uR] vs) :
  gW prog w A base ms st s vs (.str l) "bytes.decode" [v]:=by
 obtain⟨u,rfl,q⟩:=cH ps
 rw [aZ] at hf
 obtain⟨b,t,rfl,rfl⟩:=p; obtain⟨u',rfl⟩:=q
 have hbz:b.size≤sizeLine:=by simp at hf; unfold sizeLine; lia
 have hall:∀ c∈b.toList,c.toNat < 128:=fun c hc=>by
  have:=List.all_eq_true.mp ha c.toNat (List.mem_map_of_mem hc)
  simpa using this
 intro tk htk
 refine Makes.of fun Q E hQ=>?_
 have run:=aCw
 have key:Meets («bytes.decode» ⟨[.bytes b t,.str ⟨#[97,115,99,105,105]⟩ u'],[]⟩) (fun _ R s=>∀ t' k,R (.ok (.ret (.str ⟨(b.toList.map UInt8.toNat).toArray⟩ t'))) { s with toks:=k }):=by
  have hb:∃ c cs,b=(c::cs).toArray:=by
   cases hbl:b.toList with
   | nil=>rw [hbl] at hn; cases hn
   | cons c cs=>exact⟨c,cs,by rw [← hbl]⟩
  obtain⟨c,cs,rfl⟩:=hb
  refine .of_wp fun prog w A R s hS=>?_
  rw [aFc]
  refine wpAny_bind (wpAny_mkStr ?_ (by decide))
  refine wpAny_bind (wpAny_mkStr ?_ (by decide))
  refine wpAny_bind (wpAny_mkStr ?_ (by decide))
  refine wpAny_bind (call_function_meets (S:=fun _ R s=>∀ t' k,R (.ok (.ret (.str ⟨((c::cs).map UInt8.toNat).toArray⟩ t'))) { s with toks:=k }) PySem.W.KBd.kind_text PySem.W.KBd.plain_text PySem.W.KBd.entry_text (PySem.W.KBd.args_text _ _ _ _) (.of_wp fun prog w A R s hS=>?_) fun t' k=>wpAny_pure ⟨_,rfl,hS _ _⟩)
  refine (?_:wpAny _ _ (Bytes.bytesLike _ (.bytes _ t) >>= fun r=>_) _ _ s)
  refine wpAny_bind (wpAny_of_eq PySem.W.KBd.like_eq ?_)
  refine wpAny_bind (wpAny_of_eq PySem.W.KBd.held_eq ?_)
  refine (?_:wpAny _ _ (_codecs.decodeRoad _ _ ⟨#[97,115,99,105,105]⟩ none [] >>= fun v=>_) _ _ s)
  rw [aHq,aCw _ _ hall hbz]
  refine wpAny_bind (wpAny_bind (wpAny_pure ?_))
  refine wpAny_mkStr (wpAny_pure ⟨_,rfl,?_⟩) (by simpa [Str.length] using hbz)
  have:=hS s.toks (s.toks+1)
  simpa using this
 refine call_meets PySem.W.FB.slot_bytes_decode (PySem.W.typeIs_bytes _ _ _) PySem.W.FB.entry_bytes_decode (FB.args_decode2 _ _) key fun t'' k=>?_
 exact aJ (r.toks' htk) (eX _ _ _) hQ
theorem aFu {l:List Nat} {v:Value} {vs:List Value} (ha:l.all (· < 128)=true) (hf:fits l.length=true) (r:SR base ms st s) (p:Rep ms s.heap (.str l) v) (ps:Reps ms s.heap [.str uR] vs) :
  gW prog w A base ms st s vs (.bytes l) "str.encode" [v]:=by
 obtain⟨u,rfl,q⟩:=cH ps
 rw [aZ] at hf
 obtain⟨t,rfl⟩:=p; obtain⟨u',rfl⟩:=q
 have hz:l.length≤sizeLine:=by unfold sizeLine; lia
 have hall:∀ c∈l,c < 128:=fun c hc=>by
  have:=List.all_eq_true.mp ha c hc
  simpa using this
 intro tk htk
 refine Makes.of fun Q E hQ=>?_
 have key:Meets («str.encode» ⟨[.str ⟨l.toArray⟩ t,.str ⟨#[97,115,99,105,105]⟩ u'],[]⟩) (fun _ R s=>∀ t' k,R (.ok (.ret (.bytes ((l.map (·.toUInt8)).toArray) t'))) { s with toks:=k }):=by
  refine .of_wp fun prog w A R s hS=>?_
  rw [aGk,aQs _ _ _ hall hz]
  refine wpAny_bind (wpAny_bind (wpAny_pure (wpAny_mkBytes ?_ (by simpa using hz))))
  exact wpAny_pure ⟨_,rfl,hS _ _⟩
 refine call_meets F.slot_str_encode (typeIs_str _ _ _) F.entry_str_encode (F.args_str_encode_2 _ _) key fun t'' k=>?_
 refine aJ (r.toks' htk) ?_ hQ
 rw [Rep]
 refine⟨_,t'',rfl,?_⟩
 simp only [List.map_map]
 conv=>rhs; rw [← List.map_id l]
 apply List.map_congr_left
 intro c hc
 have:=hall c hc
 simp [Nat.toUInt8]
 lia
theorem yM:∀ (l:List (UInt8×UInt8)) (a:Array UInt8),(l.foldl (fun t (p:UInt8×UInt8)=>t.setIfInBounds p.1.toNat p.2) a).toList.map UInt8.toNat=(l.map fun p=>(p.1.toNat,p.2.toNat)).foldl (fun t p=>t.set p.1 p.2) (a.toList.map UInt8.toNat)
 | [],a=>rfl
 | p::l,a=>by
  rw [List.foldl_cons,yM l,List.map_cons,List.foldl_cons]
  congr 1
  simp [List.map_set]
theorem aQc (x y:List UInt8):((x.zip y).foldl (fun t (p:UInt8×UInt8)=>t.setIfInBounds p.1.toNat p.2) ((Array.range 256).map (·.toUInt8))).toList.map UInt8.toNat=trTable (x.map UInt8.toNat) (y.map UInt8.toNat):=by
 rw [yM]
 unfold trTable
 have e1:((Array.range 256).map (·.toUInt8)).toList.map UInt8.toNat=List.range 256:=by decide +kernel
 have e2:(x.map UInt8.toNat).zip (y.map UInt8.toNat)=(x.zip y).map fun p=>(p.1.toNat,p.2.toNat):=by
  rw [List.zip_map]; rfl
 rw [e1,e2]
theorem qU {v:Value} (hb:∃ L m,base.heap.Ns L m) (r:SR base ms st s) (p:Rep ms s.heap (.type "bytes") v):aCk prog w A s v "maketrans" "bytes.maketrans" []:=by
 subst p
 obtain⟨L,m,hn⟩:=hb
 have F:Fr {} L s.heap m:=⟨ns_kept hn fun o e=>r.keep _ o e,fun a o e=>by simp [Heap.get?] at e,Nat.zero_le _⟩
 intro pl Q E h
 have X:PySem.W.Frag.In [] ({}:Heap):=fun _ _ e=>by exact nn e
 have h1:=h (s.toks+1) (by lia)
 with_reducible exact PySem.W.method_type (K:=[]) F X FB.meta_bytes FB.stub_bytes FB.find_maketrans FB.handed_maketrans h1
theorem tW {x y:List Nat} {v:Value} {vs:List Value} (hxy:x.length=y.length) (hb:∃ L m,base.heap.Ns L m) (r:SR base ms st s) (p:Rep ms s.heap (.type "bytes") v) (ps:Reps ms s.heap [.bytes x,.bytes y] vs) :
  gW prog w A base ms st s vs (.bytes (trTable x y)) "bytes.maketrans" []:=by
 obtain⟨u,u',rfl,q,q'⟩:=fE ps
 subst p
 obtain⟨b,t,rfl,rfl⟩:=q; obtain⟨d,t',rfl,rfl⟩:=q'
 intro tk htk
 ·refine Makes.of fun Q E hQ=>?_
  refine wpAny_call (codeAny_call_builtin FB.plain_maketrans FB.entry_maketrans ?_)
  have hm:=aKx (t:=t) (u:=t') (x:=b) (y:=d) (by simpa using hxy)
  have hb:=hm prog w A (fun r s'=>match r with | .ok (.ret v)=>Q v s' | .ok _=>False | .error e=>E e s') { s with toks:=tk } (fun t'' k=>by
   refine aJ (r.toks' htk) ?_ hQ
   rw [Rep]
   exact⟨_,t'',rfl,aQc b.toList d.toList⟩)
  exact wpAny_of_eq (FB.check_maketrans _ _) hb
noncomputable def sU (prog:Program) (w:World) (A:Around) (base:Base) (name:Str) (d:D) (ds:List D) (x:D):Prop:=∃ id,∃ first:Value→List Value,
  (∀ {ms:List Addr} {st:Store} {s:Shared} {v:Value},SR base ms st s→Rep ms s.heap d v→aCk prog w A s v name id (first v)) ∧
  (∀ {ms:List Addr} {st:Store} {s:Shared} {v:Value} {vs:List Value},SR base ms st s→Rep ms s.heap d v→Reps ms s.heap ds vs→gW prog w A base ms st s vs x id (first v))
theorem kT {l:List Nat} {v:Value} {m id:String} (p:Rep ms s.heap (.str l) v) (hs:Slot "str" m id) (ht:typeOf (.builtin id)=pure (.type "method_descriptor")):aCk prog w A s v m id [v]:=fun pl Q E hh=>by
 obtain⟨t,rfl⟩:=p
 with_reducible exact getMethod_builtin (typeIs_str _ _ _) F.plainAttrs_str hs ht (fun _ e=>nomatch e) (hh _ (Nat.le_refl _))
theorem sR {l:List Nat} {v:Value} {m id:String} (p:Rep ms s.heap (.bytes l) v) (hs:Slot "bytes" m id) (ht:typeOf (.builtin id)=pure (.type "method_descriptor")):aCk prog w A s v m id [v]:=fun pl Q E hh=>by
 obtain⟨b,t,rfl,rfl⟩:=p
 with_reducible exact getMethod_builtin (PySem.W.typeIs_bytes _ _ _) PySem.W.FB.plainAttrs_bytes hs ht (fun _ e=>nomatch e) (hh _ (Nat.le_refl _))
theorem aMg {name:Str} {l:List Nat} {t x:D} (e:aRn name l t=some x):sU prog w A base name (.str l) [t] x:=by
 induction t using D.casesOn with
 | str cs =>
  refine ifE e (fun h e=>mE (o:=one cs) e fun c hc e=>?_) fun _ e=>ifE e (fun h e=>bE (o:=one cs) e fun c hc e=>ifS e fun hf e=>ret1 e ?_) fun _ e=>ifS e fun h e=>ret1 e ?_
  ·rw [eq_of_beq h,eE hc]
   exact e▸⟨"str.find",fun v=>[v],fun r p=>kT p F.slot_str_find F.type_str_find,fun r p ps=>aQh r p ps⟩
  ·rw [eq_of_beq h,eE hc]
   exact⟨"str.split",fun v=>[v],fun r p=>kT p F.slot_str_split F.type_str_split,fun r p ps=>aLk hf r p ps⟩
  ·rw [eq_of_beq (and2 (and2 (and2 h).1).1).1,of_decide_eq_true (and2 (and2 (and2 h).1).1).2]
   exact⟨"str.encode",fun v=>[v],fun r p=>kT p F.slot_str_encode F.type_str_encode,fun r p ps=>aFu (and2 (and2 h).1).2 (and2 h).2 r p ps⟩
 | list ts =>
  refine ifS e fun h e=>bE (o:=iE ts) e fun ss hs e=>ifS e fun hf e=>ret1 e ?_
  rw [eq_of_beq (and2 h).1,List.isEmpty_iff.mp (and2 h).2]
  exact⟨"str.join",fun v=>[v],fun r p=>kT p F.slot_str_join F.type_str_join,fun r p ps=>aQf hs (and2 hf).1 r p ps⟩
 | _=>exact nn e
theorem aJf {name:Str} {l:List Nat} {t x:D} (e:aRr name l t=some x):sU prog w A base name (.bytes l) [t] x:=by
 induction t using D.casesOn with
 | str cs =>
  refine ifS e fun h e=>ret1 e ?_
  have h1:=and2 (and2 h).1
  have h2:=and2 h1.1
  have h3:=and2 h2.1
  rw [eq_of_beq h3.1,of_decide_eq_true h3.2]
  exact⟨"bytes.decode",fun v=>[v],fun r p=>sR p PySem.W.FB.slot_bytes_decode PySem.W.FB.type_bytes_decode,fun r p ps=>aFb h2.2 h1.2 (no (and2 h).2) r p ps⟩
 | bytes t =>
  refine ifS e fun h e=>ret1 e ?_
  rw [eq_of_beq (and2 (and2 h).1).1]
  exact⟨"bytes.translate",fun v=>[v],fun r p=>sR p FB.slot_translate FB.type_translate,fun r p ps=>vB (eq_of_beq (and2 (and2 h).1).2) (and2 h).2 r p ps⟩
 | _=>exact nn e
theorem aPz (prog:Program) (w:World) (A:Around) {name:Str} {d x:D} {ds:List D} (e:meth name d ds=some x) (hb:∃ L m,base.heap.Ns L m):sU prog w A base name d ds x:=by
 induction d using D.casesOn with
 | str l =>
  refine lT (P:=fun ds=>sU prog w A base name (.str l) ds x) ds e (fun a e=>aMg e) (fun t i e=>bE (o:=strD t) e fun cs hcs e=>bE (o:=one cs) e fun c hc e=>bE (o:=intD i) e fun i hi e=>ifS e fun h e=>ret1 e ?_) fun _ _ _ e=>nn e
  rw [eq_of_beq (and2 h).1,eY hcs,eE hc,aR hi]
  exact⟨"str.find",fun v=>[v],fun r p=>kT p F.slot_str_find F.type_str_find,fun r p ps=>aMh (of_decide_eq_true (and2 h).2) r p ps⟩
 | bytes l=>exact lT (P:=fun ds=>sU prog w A base name (.bytes l) ds x) ds e (fun a e=>aJf e) (fun _ _ e=>nn e) fun _ _ _ e=>nn e
 | type n =>
  refine lT (P:=fun ds=>sU prog w A base name (.type n) ds x) ds e (fun a e=>nn e) (fun t i e=>bE (o:=bytD t) e fun u hu e=>bE (o:=bytD i) e fun u' hu' e=>ifS e fun h e=>ret1 e ?_) fun _ _ _ e=>nn e
  rw [nR hu,nR hu',of_decide_eq_true (and2 (and2 h).1).1,eq_of_beq (and2 (and2 h).1).2]
  exact⟨"bytes.maketrans",fun _=>[],fun r p=>qU hb r p,fun r p ps=>tW (eq_of_beq (and2 h).2) hb r p ps⟩
 | _=>exact nn e
end
end Mine
end
section -- S7
open PySem PyProof.Rows PySem.SeqAt
namespace Mine
section
variable {prog:Program} {w:World} {A:Around} {s:Shared} {base:Base} {ms:List Addr} {st st':Store}
noncomputable def Acts (prog:Program) (w:World) (A:Around) (base:Base) (ms:List Addr) (s:Shared) (t:Sem Value) (d:D) (st':Store):Prop :=
 ∀ (Q:Value→Shared→Prop) (E:Value→Shared→Prop),(∀ v s' ms',Ext No s ms s' ms'→SR base ms' st' s'→Rep ms' s'.heap d v→Q v s')→wpAny (model prog w) A t Q E s
theorem Makes.acts {t:Sem Value} {d:D} (h:Makes prog w A base ms st s t d):Acts prog w A base ms s t d st:=fun Q E hQ=>h Q E fun v s' x r p=>hQ v s' ms x r p
theorem aPh (r:SR base ms st s) {k:Nat} {v:Value} {l:List D} (h:look st k=some l) (p:Rep ms s.heap (.cell k) v):∃ a vs n,v=.ref a∧ms[k]? = some a∧IsL s.heap a vs.toArray n∧Reps ms s.heap l vs:=by
 skip
 obtain⟨a,rfl,ha⟩:=p
 obtain⟨a',vs,n,hm,hl,hr⟩:=r.lists _ _ h
 rw [ha] at hm; cases hm
 exact⟨a,vs,n,rfl,ha,hl,hr⟩
theorem pM {a b:List D}:noCells (a++b)=(noCells a&&noCells b):=by
 rw [Bool.eq_iff_iff,Bool.and_eq_true,dL,dL,dL]
 constructor
 ·intro h; exact⟨fun d hd=>h d (List.mem_append_left _ hd),fun d hd=>h d (List.mem_append_right _ hd)⟩
 ·rintro⟨h1,h2⟩ d hd; exact (List.mem_append.mp hd).elim (h1 d) (h2 d)
theorem xL {l:List D} {i:Nat} {d:D} (h:noCells l=true) (hd:noCell d=true):noCells (l.set i d)=true:=by
 rw [dL] at h ⊢
 intro x hx
 rcases List.mem_or_eq_of_mem_set hx with q | q
 ·exact h x q
 ·subst q; exact hd
theorem yB {a b:List D} (h:noCells b=true) (hs:∀ d∈a,d∈b):noCells a=true:=by
 rw [dL] at h ⊢; exact fun d hd=>h d (hs d hd)
theorem nD {a:Addr} {vs:List Value} {n:Nat} {name:Str} {id:String} (hl:IsL s.heap a vs.toArray n) (slot:Slot "list" name id) (ty:typeOf (.builtin id)=pure (.type "method_descriptor")) (pl:Sem Bool)
  (Q:Value×List Value→Shared→Prop) (E:Value→Shared→Prop) (h:Q (.builtin id,[.ref a]) s):wpAny (model prog w) A (getMethod (.ref a) name pl) Q E s :=
 getMethod_builtin hl.isList.typeIs F.plainAttrs_list slot ty (fun b e=>by cases e; exact⟨_,hl,rfl⟩) h
theorem nC {k:Nat} {a:Addr} {l:List D} {x:D} {v:Value} (r:SR base ms st s) (hk:look st k=some l) (hm:ms[k]? = some a) (hx:noCell x=true) (hf:fits l.length=true) (p:Rep ms s.heap x v) :
  Acts prog w A base ms s (call (.builtin "list.append") [.ref a,v]) .none (st.set k (l++[x])):=by
 intro Q E hQ
 rw [aZ] at hf
 obtain⟨a',vs,n,hm',hl,hr⟩:=r.lists _ _ hk
 rw [hm] at hm'; cases hm'
 refine aM ?_
 refine call_meets F.slot_list_append hl.isList.typeIs F.entry_list_append (F.args_list_append_2 _ _) (list_append a vs.toArray n v (by simp [hr.length]; unfold sizeLine; lia)) ⟨hl,?_⟩
 intro ht hz
 have hlt:k < st.length:=(List.getElem?_eq_some_iff.mp (aN.mp hk).1).1
 have hl':=IsL.update hl (fun xs=>xs.push v)
 have e:(vs.toArray.push v)=(vs++[v]).toArray:=by simp
 rw [e] at hl'
 obtain⟨x1,x2⟩:=r.update (l:=l++[x]) (vs:=vs++[v]) (tk:=s.toks) hlt (Nat.le_refl _) hm (Heap.SameBut.update ..) hl' (hr.append (.cons p .nil)) (by
  rw [pM,r.clean _ l hk]; simp [noCells,hx])
 exact hQ .none _ ms x1 x2 (kQ _)
theorem aJc {k:Nat} {a:Addr} {l:List D} {x:D} (r:SR base ms st s) (hk:look st k=some l) (hm:ms[k]? = some a) (hx:l.getLast? = some x) (hf:fits l.length=true) :
  Acts prog w A base ms s (call (.builtin "list.pop") [.ref a]) x (st.set k l.dropLast):=by
 intro Q E hQ
 rw [aZ] at hf
 obtain⟨a',vs,n,hm',hl,hr⟩:=r.lists _ _ hk
 rw [hm] at hm'; cases hm'
 have hlen:=hr.length
 rw [List.getLast?_eq_getElem?] at hx
 obtain⟨y,hy,py⟩:=hr.get hx
 have hlt:l.length - 1 < l.length:=(List.getElem?_eq_some_iff.mp hx).1
 refine aM ?_
 refine call_meets F.slot_list_pop hl.isList.typeIs F.entry_list_pop (F.args_list_pop_1 _) (MeetsSeq.list_pop_last a vs.toArray n y (by simpa [hlen] using hy) (by simp [hlen]; unfold sizeLine; lia)) ⟨hl,?_⟩
 intro ht hz
 have hkl:k < st.length:=(List.getElem?_eq_some_iff.mp (aN.mp hk).1).1
 have hl':=IsL.update hl (fun xs=>xs.eraseIdxIfInBounds (vs.toArray.size - 1))
 have e:(vs.toArray.eraseIdxIfInBounds (vs.toArray.size - 1))=(vs.dropLast).toArray:=by
  apply Array.ext'
  simp
 rw [e] at hl'
 have hdl:Reps ms s.heap l.dropLast vs.dropLast:=by
  rw [List.dropLast_eq_take,List.dropLast_eq_take,hlen]; exact hr.take _
 obtain⟨x1,x2⟩:=r.update (l:=l.dropLast) (vs:=vs.dropLast) (tk:=s.toks) hkl (Nat.le_refl _) hm (Heap.SameBut.update ..) hl' hdl (yB (r.clean _ l hk) fun d hd=>(List.dropLast_sublist l).mem hd)
 exact hQ y _ ms x1 x2 (py.ext x1)
theorem aIf {k j:Nat} {a:Addr} {l:List D} {x:D} {i:Int} {v vi:Value} (r:SR base ms st s) (hk:look st k=some l) (hm:ms[k]? = some a) (hj:place l.length i=some j) (hx:noCell x=true) (p:Rep ms s.heap x v) (pi:Rep ms s.heap (.int i) vi)
  (Q:Unit→Shared→Prop) (E:Value→Shared→Prop) (hQ:∀ s',Ext No s ms s' ms→SR base ms (st.set k (l.set j x)) s'→Q () s'):wpAny (model prog w) A (setItem (.ref a) vi v) Q E s:=by
 obtain⟨h0,h1,h2,rfl⟩:=gS hj
 skip
 obtain⟨t,rfl⟩:=pi
 obtain⟨a',vs,n,hm',hl,hr⟩:=r.lists _ _ hk
 rw [hm] at hm'; cases hm'
 have hlen:=hr.length
 refine PySem.W.ki_setAt (n:=n) hl h0 (by lia) (by simp [hlen]; omega) ?_
 have hkl:k < st.length:=(List.getElem?_eq_some_iff.mp (aN.mp hk).1).1
 have hl':=IsL.update hl (fun xs=>xs.setIfInBounds i.toNat v)
 have e:(vs.toArray.setIfInBounds i.toNat v)=(vs.set i.toNat v).toArray:=by
  apply Array.ext'
  simp
 rw [e] at hl'
 obtain⟨x1,x2⟩:=r.update (l:=l.set i.toNat x) (vs:=vs.set i.toNat v) (tk:=s.toks) hkl (Nat.le_refl _) hm (Heap.SameBut.update ..) hl' (hr.set _ p) (xL (r.clean _ l hk) hx)
 exact hQ _ x1 x2
end
end Mine
end
section -- S9
open PySem PyProof.Rows PySem.SeqAt
namespace Mine
set_option genInjectivity false in
structure GlOk (G:Gx) (base:Base) (mg mb:Str→Option Value):Prop where
 g:base.heap.Ns mainGlobals mg
 b:base.heap.Ns builtinsNs mb
 lim:base.heap.NoLimit
 gl:∀ x d,G.gl x=some d→∃ v,(mg x=some v∨(mg x=none∧mb x=some v))∧Rep [] base.heap d v∧noCell d=true
noncomputable def FrOk (base:Base) (A:Around):Prop:=∃ l,A.frames=some l∧∀ e∈l,e.scope.kind≠.module∧∃ L∈base.fr,e.frame=some L
set_option genInjectivity false in
structure EnvOk (base:Base) (cx:Cx) (env:Env) (own:List Addr):Prop where
 kind:env.scope.kind=.function
 glob:env.globals=mainGlobals
 blt:env.builtins=builtinsNs
 names:env.scope.names=cx.names
 inj:∀ x y c,env.cells.lookup x=some c→env.cells.lookup y=some c→x=y
 freshL:base.get? env.locals=none
 freshC:∀ c∈own,base.get? c=none
 storL:∀ x,cx.stor.lookup x=some .local→env.kindOf x=some .local
 storC:∀ x,cx.stor.lookup x=some .cell→env.kindOf x=some .cell∧∃ c∈own,env.cells.lookup x=some c
noncomputable def Wr (env:Env) (own:List Addr):Addr→Prop:=fun a=>a=env.locals∨a∈own
set_option genInjectivity false in
structure VOk (env:Env) (own:List Addr) (ms:List Addr) (h:Heap) (vars:Vars):Prop where
 ns:∃ m,h.Ns env.locals m∧∀ x d,vars.lookup x=some d→env.kindOf x=some .local→∃ v,m x=some v∧Rep ms h d v
 cel:∀ x d,vars.lookup x=some d→env.kindOf x=some .cell∨env.kindOf x=some .free→∃ c v,env.cells.lookup x=some c∧h.IsCell c (some v)∧Rep ms h d v
 own:∀ c∈own,∃ v,h.IsCell c v
section
variable {base:Base} {cx:Cx} {env:Env} {own:List Addr} {ms ms':List Addr} {s s':Shared} {vars:Vars} {st:Store}
theorem SR.no_dict (r:SR base ms st s) {a:Addr} {o:Obj} (e:s.heap.get? a=some o) (hd:¬ isSeqData o):a∉ms:=fun q=>by
 obtain⟨o',vs,n,ho,hd'⟩:=r.seqs _ q
 rw [e] at ho; cases ho
 exact hd (isSeqData_seq hd')
theorem cL {h:Heap} {a:Addr} {m:Str→Option Value} (x:h.Ns a m):∃ o,h.get? a=some o∧¬ isSeqData o:=by
 obtain⟨o,es,ep,ho,hd,_⟩:=x
 exact⟨o,ho,fun q=>by rcases q with ⟨_,_,q⟩ | ⟨_,_,q⟩ <;> rw [hd] at q <;> cases q⟩
theorem dM {h:Heap} {a:Addr} {v:Option Value} (x:h.IsCell a v):∃ o,h.get? a=some o∧¬ isSeqData o:=by
 obtain⟨o,ho,hd⟩:=x
 exact⟨o,ho,fun q=>by rcases q with ⟨_,_,q⟩ | ⟨_,_,q⟩ <;> rw [hd] at q <;> cases q⟩
theorem VOk.wk (v:VOk env own ms s.heap vars):∀ a o,Wr env own a→s.heap.get? a=some o→¬ isSeqData o:=fun a o hw e=>by
 rcases hw with rfl | hc
 ·obtain⟨m,hn,_⟩:=v.ns
  obtain⟨o',ho,hd⟩:=cL hn
  rw [e] at ho; cases ho; exact hd
 ·obtain⟨x,hx⟩:=v.own a hc
  obtain⟨o',ho,hd⟩:=dM hx
  rw [e] at ho; cases ho; exact hd
theorem VOk.ext (v:VOk env own ms s.heap vars) (r:SR base ms st s) (x:Ext No s ms s' ms'):VOk env own ms' s'.heap vars:=by
 have kc:∀ c v,s.heap.IsCell c v→s'.heap.IsCell c v:=fun c v hc=>by
  obtain⟨o,ho,hd⟩:=dM hc
  obtain⟨o',ho',hd'⟩:=hc
  rw [ho] at ho'; cases ho'
  exact mQ ⟨o,ho,hd'⟩ fun o₂ e₂=>x.keep c o₂ (by rw [ho] at e₂; cases e₂; exact r.no_dict ho hd) (fun f=>f) e₂
 refine⟨?_,fun y d hy hk=>?_,fun c hc=>?_⟩
 ·obtain⟨m,hn,hm⟩:=v.ns
  obtain⟨o,ho,hd⟩:=cL hn
  refine⟨m,?_,fun y d hy hk=>?_⟩
  ·exact ns_kept hn fun o₂ e₂=>x.keep _ o₂ (by rw [ho] at e₂; cases e₂; exact r.no_dict ho hd) (fun f=>f) e₂
  ·obtain⟨u,hu,pu⟩:=hm y d hy hk
   exact⟨u,hu,pu.ext x⟩
 ·obtain⟨c,u,h1,h2,h3⟩:=v.cel y d hy hk
  exact⟨c,u,h1,kc _ _ h2,h3.ext x⟩
 ·obtain⟨u,hu⟩:=v.own c hc
  exact⟨u,kc _ _ hu⟩
theorem eH (x:Str) (d:D):∀ (vars:Vars) (y:Str),(vset x d vars).lookup y=if y=x then some d else vars.lookup y
 | [],y=>by
  simp only [vset,List.lookup]
  by_cases h:y=x
  ·subst h; simp
  ·rw [if_neg h]
   have:(y == x)=false:=by simpa using h
   rw [this]
 | (z,e)::r,y=>by
  unfold vset
  by_cases hz:z=x
  ·rw [if_pos hz]
   subst hz
   simp only [List.lookup]
   by_cases h:y=z
   ·subst h; simp
   ·rw [if_neg h]
    have:(y == z)=false:=by simpa using h
    rw [this]
  ·rw [if_neg hz]
   simp only [List.lookup]
   by_cases h:y=z
   ·subst h
    simp [hz]
   ·have:(y == z)=false:=by simpa using h
    rw [this]
    exact eH x d r y
theorem VOk.setL (v:VOk env own ms s.heap vars) (E:EnvOk base cx env own) (r:SR base ms st s) {x:Str} {d:D} {u:Value} {h:Heap} {m:Str→Option Value} {tk:Nat} (ht:s.toks≤tk) (hx:env.kindOf x=some .local) (hm:∀ x d,vars.lookup x=some d→env.kindOf x=some .local→∃ v,m x=some v∧Rep ms s.heap d v)
  (h0:s.heap.Ns env.locals m) (hn:h.Ns env.locals (fun y=>if y=x then some u else m y)) (hs:Heap.SameBut env.locals s.heap h) (p:Rep ms s.heap d u) :
  Ext (Wr env own) s ms { s with heap:=h,toks:=tk } ms∧SR base ms st { s with heap:=h,toks:=tk }∧VOk env own ms h (vset x d vars):=by
 have X:Ext (Wr env own) s ms { s with heap:=h,toks:=tk } ms :=
  ⟨rfl,rfl,ht,Nat.le_of_eq hs.1.symm,fun _ _ e=>e,fun _ q=>.inl q,fun b o hb hw e=>.of ((hs.2 b (fun q=>hw (.inl q))).trans e),v.wk⟩
 obtain⟨oL,hoL,hdL⟩:=cL h0
 have kc:∀ c w,s.heap.IsCell c w→h.IsCell c w:=fun c w hc=>by
  obtain⟨o',ho',hd'⟩:=hc
  refine⟨o',(hs.2 c (fun q=>?_)).trans ho',hd'⟩
  subst q
  obtain⟨o,es,ep,ho,hd,_⟩:=h0
  rw [ho] at ho'; cases ho'
  rw [hd] at hd'; cases hd'
 have hfr:∀ L∈base.fr,Wr env own L→∃ o,h.get? L=some o∧isFr o:=fun L hL hw=>by
  rcases hw with rfl | hc
  ·obtain⟨o,es,ep,ho,hd,_⟩:=hn
   exact⟨o,ho,es,ep,hd⟩
  ·obtain⟨w,o,ho,hd⟩:=v.own L hc
   obtain⟨_,o',ho',es,ep,hd'⟩:=r.frs L hL
   rw [ho] at ho'; cases ho'
   rw [hd] at hd'; cases hd'
 refine⟨X,r.ext X (fun a hw=>?_) (fun a ha o e=>(hs.2 a (fun q=>?_)).trans e) (fun a o hb e=>(hs.2 a (fun q=>by subst q; rw [E.freshL] at hb; exact nn hb)).trans e) hfr,⟨⟨_,hn,fun y e hy hk=>?_⟩,fun y e hy hk=>?_,fun c hc=>?_⟩⟩
 ·rcases hw with rfl | hc
  ·exact E.freshL
  ·exact E.freshC a hc
 ·subst q
  exact r.no_dict hoL hdL ha
 ·rw [eH] at hy
  by_cases hyx:y=x
  ·rw [if_pos hyx] at hy
   cases hy
   exact⟨u,by simp [hyx],p.ext X⟩
  ·rw [if_neg hyx] at hy
   obtain⟨w,hw,pw⟩:=hm y e hy hk
   exact⟨w,by simp [hyx,hw],pw.ext X⟩
 ·rw [eH] at hy
  by_cases hyx:y=x
  ·subst hyx
   rw [hx] at hk
   rcases hk with hk | hk <;> cases hk
  ·rw [if_neg hyx] at hy
   obtain⟨c,w,h1,h2,h3⟩:=v.cel y e hy hk
   exact⟨c,w,h1,kc _ _ h2,h3.ext X⟩
 ·obtain⟨w,hw⟩:=v.own c hc
  exact⟨w,kc _ _ hw⟩
theorem VOk.setC (v:VOk env own ms s.heap vars) (E:EnvOk base cx env own) (r:SR base ms st s) {x:Str} {d:D} {u:Value} {h:Heap} {c:Addr} (hx:env.kindOf x=some .cell) (hc:env.cells.lookup x=some c) (ho:c∈own)
  (hn:h.IsCell c (some u)) (hs:Heap.SameBut c s.heap h) (p:Rep ms s.heap d u) :
  Ext (Wr env own) s ms { s with heap:=h } ms∧SR base ms st { s with heap:=h }∧VOk env own ms h (vset x d vars):=by
 have X:Ext (Wr env own) s ms { s with heap:=h } ms :=
  ⟨rfl,rfl,Nat.le_refl _,Nat.le_of_eq hs.1.symm,fun _ _ e=>e,fun _ q=>.inl q,fun b o hb hw e=>.of ((hs.2 b (fun q=>hw (.inr (q▸ho)))).trans e),v.wk⟩
 obtain⟨w₀,hw₀⟩:=v.own c ho
 obtain⟨oC,hoC,hdC⟩:=dM hw₀
 have kc:∀ b w,b≠c→s.heap.IsCell b w→h.IsCell b w:=fun b w hb hc=>by
  obtain⟨o',ho',hd'⟩:=hc
  exact⟨o',(hs.2 b hb).trans ho',hd'⟩
 have X':SR base ms st { s with heap:=h }:=r.ext X (fun a hw=>by
  rcases hw with rfl | hc
  ·exact E.freshL
  ·exact E.freshC a hc) (fun a ha o e=>(hs.2 a (fun q=>by subst q; exact r.no_dict hoC hdC ha)).trans e) (fun a o hb e=>(hs.2 a (fun q=>by subst q; rw [E.freshC _ ho] at hb; exact nn hb)).trans e) (fun L hL hw=>by
   obtain⟨_,o',ho',hd'⟩:=r.frs L hL
   refine⟨o',(hs.2 L (fun q=>?_)).trans ho',hd'⟩
   subst q
   obtain⟨o,ho,hd⟩:=hw₀
   rw [ho] at ho'; cases ho'
   obtain⟨es,ep,hd'⟩:=hd'
   rw [hd] at hd'; cases hd')
 refine⟨X,X',⟨?_,fun y e hy hk=>?_,fun b hb=>?_⟩⟩
 ·obtain⟨m,h0,hm⟩:=v.ns
  refine⟨m,h0.sameBut hs (fun q=>?_),fun y e hy hk=>?_⟩
  ·obtain⟨o,es,ep,ho',hd,_⟩:=h0
   obtain⟨o',ho'',hd'⟩:=hw₀
   rw [q,ho''] at ho'; cases ho'
   rw [hd] at hd'; cases hd'
  ·rw [eH] at hy
   by_cases hyx:y=x
   ·subst hyx; rw [hx] at hk; cases hk
   ·rw [if_neg hyx] at hy
    obtain⟨w,hw,pw⟩:=hm y e hy hk
    exact⟨w,hw,pw.ext X⟩
 ·rw [eH] at hy
  by_cases hyx:y=x
  ·rw [if_pos hyx] at hy
   cases hy
   subst hyx
   exact⟨c,u,hc,hn,p.ext X⟩
  ·rw [if_neg hyx] at hy
   obtain⟨b,w,h1,h2,h3⟩:=v.cel y e hy hk
   exact⟨b,w,h1,kc _ _ (fun q=>hyx (E.inj y x c (q▸h1) hc)) h2,h3.ext X⟩
 ·by_cases hbc:b=c
  ·subst hbc; exact⟨_,hn⟩
  ·obtain⟨w,hw⟩:=v.own b hb
   exact⟨w,kc _ _ hbc hw⟩
end
section
variable {prog:Program} {w:World} {A:Around} {s:Shared} {base:Base} {ms:List Addr} {st:Store} {cx:Cx} {env:Env} {own:List Addr} {vars:Vars} {G:Gx} {mg mb:Str→Option Value}
theorem Ext.wr {W:Addr→Prop} {s s':Shared} {ms ms':List Addr} (x:Ext No s ms s' ms') (hk:∀ a o,W a→s.heap.get? a=some o→¬ isSeqData o):Ext W s ms s' ms':=x.ofNo hk
set_option tactic.hygienic true in
theorem pD {x:Str} {d:D} {u:Value} (E:EnvOk base cx env own) (r:SR base ms st s) (v:VOk env own ms s.heap vars) (hx:stored cx x=true) (p:Rep ms s.heap d u)
  (Q:Unit→Shared→Prop) (Ex:Value→Shared→Prop) (hQ:∀ s',Ext (Wr env own) s ms s' ms→SR base ms st s'→VOk env own ms s'.heap (vset x d vars)→Q () s'):wpAny (model prog w) A (storeName env x u) Q Ex s:=by
 unfold stored at hx
 split at hx
 ·rename_i h
  have hk:=E.storL x h
  obtain⟨m,hn,hm⟩:=v.ns
  refine wpAny_storeName_local hk hn (fun h' hn' hs'=>?_) (by rw [E.kind]; rfl)
  obtain⟨a,b,c⟩:=v.setL E r (tk:=s.toks+1) (by lia) hk hm hn hn' hs' p
  exact hQ _ a b c
 ·rename_i h
  obtain⟨hk,c,hc,hl⟩:=E.storC x h
  obtain⟨w₀,hw₀⟩:=v.own c hc
  refine wpAny_storeName_cell E.kind hk hl hw₀ fun h' hn' hs'=>?_
  obtain⟨a,b,c⟩:=v.setC E r hk hl hc hn' hs' p
  exact hQ _ a b c
 ·cases hx
theorem yH {d:D} {v:Value} (r:SR base ms st s) (p:Rep [] base.heap d v):Rep ms s.heap d v :=
 Rep.mono (fun a o _ hs e=>⟨fun q=>(by have:=r.fresh a q; exact absurd (e.symm.trans this) (by simp)),(r.keep a o e).exact (lF hs)⟩) (fun k a e=>by simp at e) d v p
end
end Mine
end
section -- E2
open PySem
namespace Mine
set_option genInjectivity false in
structure Ops where
 ev:Cx→Vars→Expr→Store→Option (D×Store)
 tr:Cx→Vars→Expr→Store→Option (Bool×Store)
 asg:Cx→Vars→Expr→D→Store→Option (Vars×Store)
 ex:Cx→Vars→Stmt→Store→Option (FD×Vars×Store)
 comp:Cx→Expr→List Comprehension→D→Vars→Store→Nat→Option (Vars×Store)
noncomputable def bot:Ops:=⟨fun _ _ _ _=>none,fun _ _ _ _=>none,fun _ _ _ _ _=>none,fun _ _ _ _=>none,fun _ _ _ _ _ _ _=>none⟩
section
variable (G:Gx) (o:Ops)
noncomputable def isStar (e:Expr):Bool:=by
 induction e using PySem.Expr.casesOn with
 | Starred=>exact true
 | _=>exact false
noncomputable def evs (cx:Cx) (vars:Vars):List Expr→Store→Option (List D×Store)
 | [],st=>some ([],st)
 | e::r,st=>if isStar e then none else do
  let (d,st) ← o.ev cx vars e st
  let (ds,st) ← evs cx vars r st
  pure (d::ds,st)
noncomputable def kws (cx:Cx) (vars:Vars):List Keyword→Store→Option (List (Str×D)×Store)
 | [],st=>some ([],st)
 | ⟨some n,e,_⟩::r,st=>do
  let (d,st) ← o.ev cx vars e st
  let (ds,st) ← kws cx vars r st
  pure ((n,d)::ds,st)
 | ⟨none,_,_⟩::_,_=>none
noncomputable def exs (cx:Cx):Vars→List Stmt→Store→Option (FD×Vars×Store)
 | vars,[],st=>some (.next,vars,st)
 | vars,s::r,st=>do
  let (f,vars,st) ← o.ex cx vars s st
  match f with
  | .next=>exs cx vars r st
  | f=>some (f,vars,st)
noncomputable def asgs (cx:Cx):Vars→List Expr→List D→Store→Option (Vars×Store)
 | vars,[],[],st=>some (vars,st)
 | vars,t::ts,d::ds,st=>do
  let (vars,st) ← o.asg cx vars t d st
  asgs cx vars ts ds st
 | _,_,_,_=>none
noncomputable def chain (cx:Cx) (vars:Vars) (left:D):List CmpOp→List Expr→Store→Option (Bool×Store)
 | op::ops,r::rs,st=>do
  let (d,st) ← o.ev cx vars r st
  let b ← cmpop st op left d
  if ops.isEmpty&&rs.isEmpty then pure (b,st)
  else if b then chain cx vars d ops rs st else pure (false,st)
 | _,_,_=>none
noncomputable def allT (cx:Cx) (vars:Vars):BoolOp→List Expr→Store→Option (Bool×Store)
 | op,[],st=>some (op == .And,st)
 | .And,e::r,st=>do
  let (b,st) ← o.tr cx vars e st
  if b then allT cx vars .And r st else pure (false,st)
 | .Or,e::r,st=>do
  let (b,st) ← o.tr cx vars e st
  if b then pure (true,st) else allT cx vars .Or r st
noncomputable def optI (cx:Cx) (vars:Vars) (e:Option Expr) (st:Store):Option (Option Int×Store):=match e with
 | none=>some (none,st)
 | some e=>(o.ev cx vars e st).bind fun q=>(intD q.1).map fun i=>(some i,q.2)
noncomputable def aNw (st:Store) (l:List D):D×Store:=(.cell st.length,st++[l])
noncomputable def aL (n:Nat) (st:Store) (d:D):Option (D×Store):=match nG d with
 | some k=>if k < n then some (.cell k,st.take n) else (look st k).bind fun l=>if noCells l then some (.list l,st.take n) else none
 | none=>if noCell d then some (d,st.take n) else none
noncomputable def retR (r:Res):Option D:=by
 induction r using Res.casesOn with
 | ret d=>exact some d
 | _=>exact none
noncomputable def sW (f:D) (ds:List D) (ks:List (Str×D)) (st:Store):Option (D×Store) :=
 match objD f with
 | some a=>(G.fn a ds ks st).bind fun q=>(retR q.1).map fun d=>(d,q.2)
 | none=>if ks.isEmpty then (bcall st f ds).map fun d=>(d,st) else none
noncomputable def fZ (name:Str) (d:D) (ds:List D) (st:Store):Option (D×Store) :=
 match nG d with
 | some k=>(look st k).bind fun l =>
   match ds with
   | []=>if name == "pop"&&fits l.length then (l.getLast?).map fun x=>(x,st.set k l.dropLast) else none
   | x::r=>if r.isEmpty&&(name == "append"&&noCell x&&fits l.length) then some (.none,st.set k (l++[x])) else none
 | none=>(meth name d ds).map fun r=>(r,st)
noncomputable def jF (cx:Cx) (sc:Scope):List (Str×NameKind):=sc.names.map fun p=>if p.2 == .free&&cx.names.lookup p.1 == some .cell then (p.1,.cell) else p
noncomputable def compCx (cx:Cx) (sc:Scope):Cx:=⟨jF cx sc,sc.names⟩
noncomputable def dZ (cx:Cx) (vars:Vars) (sc:Scope):Bool :=
 sc.kind == .function&&decide ((sc.names.map (·.1)).Nodup)&&sc.names.all fun p=>match p.2 with
  | .free=>(vars.lookup p.1).isSome&&(match cx.names.lookup p.1 with
   | some .cell | some .free=>true
   | _=>false)
  | _=>true
noncomputable def bY (sc:Scope) (vars:Vars):Vars:=vars.filter fun p=>sc.names.lookup p.1 == some .free
noncomputable def ifsT (cx:Cx) (vars:Vars):List Expr→Store→Option (Bool×Store)
 | [],st=>some (true,st)
 | e::r,st=>do
  let (b,st) ← o.tr cx vars e st
  if b then ifsT cx vars r st else pure (false,st)
noncomputable def compGo (cx:Cx) (elt:Expr) (g:Comprehension) (rest:List Comprehension) (acc:Nat):List D→Vars→Store→Option (Vars×Store)
 | [],vars,st=>some (vars,st)
 | d::ds,vars,st=>do
  let (vars,st) ← o.asg cx vars g.target d st
  let (b,st) ← ifsT o cx vars g.ifs st
  if b then
   match rest with
   | []=>do
    let (x,st) ← o.ev cx vars elt st
    let l ← look st acc
    if noCell x&&fits l.length then compGo cx elt g rest acc ds vars (st.set acc (l++[x])) else none
   | g'::more=>do
    let (src,st) ← o.ev cx vars g'.iter st
    let (vars,st) ← o.comp cx elt (g'::more) src vars st acc
    compGo cx elt g rest acc ds vars st
  else compGo cx elt g rest acc ds vars st
noncomputable def xI (g:FD) (vars:Vars) (st:Store) (L:Option (FD×Vars×Store)):Option (FD×Vars×Store):=by
 induction g using FD.casesOn with
 | brk=>exact some (.next,vars,st)
 | ret d=>exact some (.ret d,vars,st)
 | exc=>exact none
 | _=>exact L
noncomputable def forGo (cx:Cx) (target:Expr) (body:List Stmt):List D→Vars→Store→Option (FD×Vars×Store)
 | [],vars,st=>some (.next,vars,st)
 | d::ds,vars,st=>do
  let (vars,st) ← o.asg cx vars target d st
  let (f,vars,st) ← exs o cx vars body st
  xI f vars st (forGo cx target body ds vars st)
noncomputable def sP (st:Store) (k:Nat):Bool:=(st[k]?).any eT
noncomputable def zipGo (cx:Cx) (target:Expr) (body:List Stmt) (kh:Nat):List D→List D→Vars→Store→Option (FD×Vars×Store)
 | [],_,vars,st=>some (.next,vars,st)
 | x::xs,l,vars,st=>if sP st kh then match l with
  | []=>none
  | y::ys=>do
   let (vars,st) ← o.asg cx vars target (.tuple [x,y]) st
   let (f,vars,st) ← exs o cx vars body st
   xI f vars st (zipGo cx target body kh xs ys vars st)
  else none
noncomputable def whileGo (cx:Cx) (test:Expr) (body:List Stmt):Nat→Vars→Store→Option (FD×Vars×Store)
 | 0,_,_=>none
 | n+1,vars,st=>do
  let (b,st) ← o.tr cx vars test st
  if b then
   let (f,vars,st) ← exs o cx vars body st
   xI f vars st (whileGo cx test body n vars st)
  else some (.next,vars,st)
noncomputable def mA (st:Store):D→Bool
 | .cell k=>(look st k).isSome
 | _=>true
noncomputable def dA (v:Expr) (args:List Expr) (apos pos:Pos):Bool :=
 (match v with
  | .Call (.Name _ _) [] [] _=>false
  | _=>true)&&apos.endLine == pos.line&&decide (args.length < 29)
noncomputable def lQ (e:Expr):Option (Str×Pos):=by
 induction e using PySem.Expr.casesOn with
 | Name x p=>exact some (x,p)
 | _=>exact none
noncomputable def lE (e:Expr):Option (Expr×List Expr×List Keyword×Pos):=by
 induction e using PySem.Expr.casesOn with
 | Call f args ks p=>exact some (f,args,ks,p)
 | _=>exact none
noncomputable def strE (e:Expr):Option (Str×Nat×Pos):=by
 induction e using PySem.Expr.casesOn with
 | Constant c k p =>
  induction c using PySem.Const.casesOn with
  | str z=>exact some (z,k,p)
  | _=>exact none
 | _=>exact none
noncomputable def aKq (c:Str) (e:Expr):Option (Str×(Str ⊕ Str×Pos×Expr)):=match strE e with
 | some z=>some (c,.inl z.1)
 | none=>(lE e).bind fun q=>(lQ q.1).bind fun f=>(one q.2.1).bind fun x=>(lQ x).bind fun _=>if q.2.2.1.isEmpty then some (c,.inr (f.1,f.2,x)) else none
noncomputable def dU (name:Str) (args:List Expr):Option (Str×(Str ⊕ Str×Pos×Expr)) :=
 if name == "replace" then (two args).bind fun ke=>(strE ke.1).bind fun c=>aKq c.1 ke.2 else none
noncomputable def replD (d:D) (c:Str) (z:Str):Option D :=
 (strD d).bind fun l=>(one c.cps.toList).bind fun c=>if fits (l.length+(l.length+1) * z.cps.toList.length)&&!(decide (z.cps.toList=[c])) then some (.str (replC c z.cps.toList l)) else none
noncomputable def strI (fd i:D):Option Str:=if typD fd=some "str" then (intD i).bind fun i=>if small i then some ⟨(decI i).toArray⟩ else none else none
noncomputable def qG (i:Expr):Option (Option Expr×Option Expr):=by
 induction i using PySem.Expr.casesOn with
 | Slice lo hi st=>exact st.casesOn (some (lo,hi)) fun _=>none
 | _=>exact none
noncomputable def nL (f:Expr):Option (Expr×Str×Pos):=by
 induction f using PySem.Expr.casesOn with
 | Attribute v name apos=>exact some (v,name,apos)
 | _=>exact none
noncomputable def negD (r:Option (D×Store)):Option (D×Store):=r.bind fun p=>(intD p.1).bind fun i=>some (.int (-i),p.2)
noncomputable def aJx (c:Const) (st:Store):Option (D×Store):=match c with
 | .none=>some (.none,st)
 | .bool b=>some (.bool b,st)
 | .int i=>some (.int i,st)
 | .str s=>some (.str s.cps.toList,st)
 | .bytes b=>some (.bytes (b.map UInt8.toNat),st)
 | _=>none
noncomputable def stepEv (cx:Cx) (vars:Vars) (e:Expr) (st:Store):Option (D×Store):=match e with
 | .Constant c _ _=>aJx c st
 | .Name x _=>if mF x then
   (match cx.names.lookup x with
   | some .local=>(vars.lookup x).map fun d=>(d,st)
   | some .cell=>(vars.lookup x).map fun d=>(d,st)
   | some .free=>(vars.lookup x).map fun d=>(d,st)
   | some .globalImplicit=>(G.gl x).map fun d=>(d,st)
   | _=>none)
  else none
 | .BinOp l op r _=>do
  let (a,st) ← o.ev cx vars l st
  let (b,st) ← o.ev cx vars r st
  let d ← binop op a b
  pure (d,st)
 | .UnaryOp op x _=>(match op with
  | .USub=>negD (o.ev cx vars x st)
  | _=>none)
 | .IfExp t a b _=>do
  let (c,st) ← o.tr cx vars t st
  if c then o.ev cx vars a st else o.ev cx vars b st
 | .Compare l ops rs _=>do
  let (d,st) ← o.ev cx vars l st
  let op ← one ops
  let r ← one rs
  let (e,st) ← o.ev cx vars r st
  let b ← cmpop st op d e
  pure (.bool b,st)
 | .List es _=>do
  let (ds,st) ← evs o cx vars es st
  if noCells ds&&fits ds.length then pure (.list ds,st) else none
 | .Tuple es _ _=>do
  let (ds,st) ← evs o cx vars es st
  if fits ds.length then pure (.tuple ds,st) else none
 | .Subscript v i _=>(match qG i with
  | some (lo,hi)=>do
   let (d,st) ← o.ev cx vars v st
   let (a,st) ← optI o cx vars lo st
   let (b,st) ← optI o cx vars hi st
   let r ← slice d a b
   pure (r,st)
  | none=>do
   let (d,st) ← o.ev cx vars v st
   let (j,st) ← o.ev cx vars i st
   let r ← index st d j
   pure (r,st))
 | .ListComp elt gens sc _=>(match gens with
  | g::gs=>if dZ cx vars sc&&g.is_async == 0 then do
   let (src,st) ← o.ev cx vars g.iter st
   let _ ← drawn src
   let n:=st.length
   let (_,st) ← o.comp (compCx cx sc) elt (g::gs) src (bY sc vars) (st++[[]]) n
   let l ← look st n
   if noCells l then pure (.list l,st.take n) else none
   else none
  | []=>none)
 | .Call f args ks pos=>(match nL f with
  | some (v,name,apos)=>(match ks with
   | []=>if dA v args apos pos then (match dU name args with
    | some (c,.inl z)=>do
     let (d,st) ← o.ev cx vars v st
     let r ← replD d c z
     pure (r,st)
    | some (c,.inr (f,fp,x))=>do
     let (d,st) ← o.ev cx vars v st
     let (fd,st) ← o.ev cx vars (.Name f fp) st
     let (i,st) ← o.ev cx vars x st
     let z ← strI fd i
     let r ← replD d c z
     pure (r,st)
    | none=>do
     let (d,st) ← o.ev cx vars v st
     if mA st d then do
      let (ds,st) ← evs o cx vars args st
      fZ name d ds st
     else none) else none
   | _=>none)
  | none=>do
   let (fd,st) ← o.ev cx vars f st
   let (ds,st) ← evs o cx vars args st
   let (kd,st) ← kws o cx vars ks st
   sW G fd ds kd st)
 | _=>none
noncomputable def isLC (e:Expr):Bool:=by
 induction e using PySem.Expr.casesOn with
 | ListComp=>exact true
 | _=>exact false
noncomputable def aRb (e:Expr):Bool:=by
 induction e using PySem.Expr.casesOn with
 | List es=>exact es.isEmpty
 | _=>exact false
noncomputable def tupE (e:Expr):Option (List Expr):=by
 induction e using PySem.Expr.casesOn with
 | Tuple es=>exact some es
 | _=>exact none
noncomputable def aBv (e:Expr):Bool:=(tupE e).isSome
noncomputable def evA1 (cx:Cx) (vars:Vars) (e:Expr) (st:Store):Option (D×Store) :=
 if aRb e then some (aNw st []) else if isLC e then stepEv G o cx vars e st else o.ev cx vars e st
noncomputable def evA1s (cx:Cx) (vars:Vars):List Expr→Store→Option (List D×Store)
 | [],st=>some ([],st)
 | e::r,st=>if isStar e then none else do
  let (d,st) ← evA1 G o cx vars e st
  let (ds,st) ← evA1s cx vars r st
  pure (d::ds,st)
noncomputable def evA (cx:Cx) (vars:Vars) (e:Expr) (st:Store):Option (D×Store):=match tupE e with
 | some es=>do
  let (ds,st) ← evA1s G o cx vars es st
  if fits ds.length then pure (.tuple ds,st) else none
 | none=>evA1 G o cx vars e st
noncomputable def envD (names:List (Str×NameKind)):Env:={ scope:=⟨.function,names,false,false,[]⟩,locals:=0,globals:=0,cells:=[] }
noncomputable def tM {α:Type} (t:Sem α):Option α:=by
 induction t using PySem.Sem.casesOn with
 | pure a=>exact some a
 | _=>exact none
noncomputable def jG (cx:Cx) (t e:Expr) (l:Nat):Option (Option (List Str)) :=
 (tM (swapsWith e (some t) l (envD cx.names))).bind fun b=>if b then (if isLC e then some none else none) else tM (swappedStores [t] e (envD cx.names))
noncomputable def iM (cx:Cx):Vars→List Str→List D→Option Vars
 | vars,[],[]=>some vars
 | vars,x::xs,d::ds=>if stored cx x then iM cx (vset x d vars) xs ds else none
 | _,_,_=>none
noncomputable def nW (cx:Cx) (vars:Vars) (e:Expr) (st:Store):Option (Bool×Store):=do
 let (d,st) ← o.ev cx vars e st
 let b ← truth st d
 pure (b,st)
noncomputable def aKc (cx:Cx) (vars:Vars) (e:Expr) (st:Store):Option (Bool×Store):=match e with
 | .UnaryOp op x p=>(match op with
  | .Not=>do
   let (b,st) ← o.tr cx vars x st
   pure (!b,st)
  | _=>nW o cx vars e st)
 | .BoolOp op es _=>allT o cx vars op es st
 | .Compare l ops rs _=>do
  let (d,st) ← o.ev cx vars l st
  chain o cx vars d ops rs st
 | .IfExp _ _ _ _=>none
 | _=>nW o cx vars e st
noncomputable def seqD (d:D):Option (List D):=by
 induction d using D.casesOn with
 | list l=>exact some l
 | tuple l=>exact some l
 | _=>exact none
noncomputable def aIm (vars:Vars) (c j d:D) (st:Store):Option (Vars×Store) :=
 (nG c).bind fun k=>(intD j).bind fun j=>(look st k).bind fun l=>(place l.length j).bind fun p=>if noCell d then some (vars,st.set k (l.set p d)) else none
noncomputable def aCv (cx:Cx) (vars:Vars) (t:Expr) (d:D) (st:Store):Option (Vars×Store):=match t with
 | .Name x _=>if stored cx x then some (vset x d vars,st) else none
 | .Tuple ts _ _=>(seqD d).bind fun ds=>asgs o cx vars ts ds st
 | .Subscript v i _=>do
  let (c,st) ← o.ev cx vars v st
  let (j,st) ← o.ev cx vars i st
  aIm vars c j d st
 | _=>none
noncomputable def dO (cx:Cx) (vars:Vars) (t e:Expr) (l:Nat) (st:Store):Option (FD×Vars×Store):=match jG cx t e l with
  | some none=>do
   let (d,st) ← evA G o cx vars e st
   let (vars,st) ← o.asg cx vars t d st
   pure (.next,vars,st)
  | some (some xs)=>do
   let (d,st) ← evA G o cx vars e st
   match d with
   | .tuple ds=>if ds.length == xs.length then (iM cx vars xs.reverse ds.reverse).bind fun vars=>some (.next,vars,st) else none
   | _=>none
  | none=>none
noncomputable def mG (cx:Cx) (vars:Vars) (t it:Expr) (body:List Stmt) (st:Store):Option (FD×Vars×Store):=do
 let (src,st) ← o.ev cx vars it st
 let ds ← drawn src
 forGo o cx t body ds vars st
noncomputable def wW (it:Expr):Option (Str×Pos×Expr×Expr) :=
 (lE it).bind fun q=>(lQ q.1).bind fun f=>(two q.2.1).bind fun x=>if q.2.2.1.isEmpty then some (f.1,f.2,x) else none
noncomputable def aBp (it:Expr):Option (Str×Pos×Expr) :=
 (lE it).bind fun q=>(lQ q.1).bind fun f=>(one q.2.1).bind fun x=>if q.2.2.1.isEmpty then some (f.1,f.2,x) else none
noncomputable def aIo (d:D):Bool:=by
 induction d using D.casesOn with
 | type n=>exact decide (n = "zip")
 | _=>exact false
noncomputable def aTk (cx:Cx) (vars:Vars) (t:Expr) (body:List Stmt) (ds:List D) (st:Store):Option (FD×Vars×Store) :=
 (two ds).bind fun q=>(dE q.1).bind fun x=>(dE q.2).bind fun y=>if aBv t&&decide (x.length≤y.length) then zipGo o cx t body st.length x y vars (st++[[.cell 0]]) else none
noncomputable def hM (cx:Cx) (vars:Vars) (t it:Expr) (body:List Stmt) (st:Store):Option (FD×Vars×Store):=match wW it with
 | some (z,zp,a,b)=>do
  let (f,st₁) ← o.ev cx vars (.Name z zp) st
  if aIo f then do
   let (ds,st) ← evs o cx vars [a,b] st₁
   aTk o cx vars t body ds st
  else mG o cx vars t it body st
 | none=>mG o cx vars t it body st
noncomputable def raised (a:Expr) (f d:D) (vars:Vars) (st:Store):Option (FD×Vars×Store) :=
 (objD f).bind fun c=>if G.exc c&&!(isStar a) then some (.exc c d,vars,st) else none
noncomputable def gO (cx:Cx) (vars:Vars) (e:Expr) (st:Store):Option (FD×Vars×Store):=match aBp e with
 | some (x,xp,a)=>do
  let (f,st) ← o.ev cx vars (.Name x xp) st
  let (d,st) ← o.ev cx vars a st
  raised G a f d vars st
 | none=>none
noncomputable def aKe (f:FD):Bool:=by
 induction f using FD.casesOn with
 | exc=>exact true
 | _=>exact false
noncomputable def quiet (r:FD×Vars×Store):Option (FD×Vars×Store):=if aKe r.1 then none else some r
noncomputable def uC (e:Expr):Bool:=(lE e).isSome
noncomputable def jZ (cx:Cx) (vars:Vars) (s:Stmt) (st:Store):Option (FD×Vars×Store):=match s with
 | .Pass _=>some (.next,vars,st)
 | .Break _=>some (.brk,vars,st)
 | .Continue _=>some (.cont,vars,st)
 | .Return r _=>(match r with
  | some e=>do
   let (d,st) ← o.ev cx vars e st
   pure (.ret d,vars,st)
  | none=>some (.ret .none,vars,st))
 | .Expr e _=>if uC e then do
   let (_,st) ← o.ev cx vars e st
   pure (.next,vars,st)
  else none
 | .Assign ts e p=>(match ts with
  | [t]=>dO G o cx vars t e p.line st
  | _=>none)
 | .If t a b _=>do
  let (c,st) ← o.tr cx vars t st
  if c then exs o cx vars a st else exs o cx vars b st
 | .While t body els _=>(match els with
  | []=>whileGo o cx t body turns vars st
  | _=>none)
 | .For t it body els _=>(match els with
  | []=>hM o cx vars t it body st
  | _=>none)
 | .Assert t _ _=>do
  let (c,st) ← o.tr cx vars t st
  if c then some (.next,vars,st) else none
 | .Raise e c _=>(match e with
  | some e=>(match c with
   | none=>gO G o cx vars e st
   | _=>none)
  | none=>none)
 | .Try body _ els fin _=>if els.isEmpty&&fin.isEmpty then (exs o cx vars body st).bind quiet else none
 | _=>none
noncomputable def xE (cx:Cx) (elt:Expr) (gens:List Comprehension) (src:D) (vars:Vars) (st:Store) (acc:Nat):Option (Vars×Store) :=
 match gens with
 | g::gs=>if g.is_async == 0 then do
  let ds ← drawn src
  compGo o cx elt g gs acc ds vars st
  else none
 | []=>none
noncomputable def step:Ops:=⟨stepEv G o,aKc o,aCv o,jZ G o,xE o⟩
end
noncomputable def ops (G:Gx):Nat→Ops
 | 0=>bot
 | n+1=>step G (ops G n)
noncomputable def finR (n:Nat) (st:Store) (f:FD):Option (Res×Store):=by
 induction f using FD.casesOn with
 | next=>exact (aL n st .none).map fun p=>(.ret p.1,p.2)
 | ret d=>exact (aL n st d).map fun p=>(.ret p.1,p.2)
 | exc a d=>exact (aL n st d).map fun p=>(.exc a p.1,p.2)
 | _=>exact none
noncomputable def finF (n:Nat) (r:Option (FD×Vars×Store)):Option (Res×Store):=r.bind fun q=>finR n q.2.2 q.1
noncomputable def runF (G:Gx) (sc:Scope) (body:List Stmt) (binds:Vars) (st:Store):Option (Res×Store):=finF st.length (exs (ops G 24) ⟨sc.names,sc.names⟩ binds body st)
end Mine
end
section -- S10
open PySem PyProof.Rows PySem.SeqAt
namespace Mine
set_option genInjectivity false in
structure Sit (G:Gx) (base:Base) (mg mb:Str→Option Value) (n:Nat) (A:Around) (cx:Cx) (env:Env) (own:List Addr):Prop where
 gl:GlOk G base mg mb
 en:EnvOk base cx env own
 ar:AOk n A
 fs:FrOk base A
section
variable (prog:Program) (w:World) (G:Gx) (base:Base) (mg mb:Str→Option Value) (n:Nat) (o:Ops)
noncomputable def EvOk:Prop:=∀ {A:Around} {cx:Cx} {env:Env} {own:List Addr} {vars:Vars} {ms:List Addr} {st:Store} {s:Shared} {e:Expr} {d:D} {st':Store},
 Sit G base mg mb n A cx env own→SR base ms st s→VOk env own ms s.heap vars→o.ev cx vars e st=some (d,st')→Acts prog w A base ms s (eval e env) d st'
noncomputable def gQ (A:Around) (ms:List Addr) (s:Shared) (t:Sem Bool) (b:Bool) (st':Store):Prop :=
 ∀ (Q:Bool→Shared→Prop) (E:Value→Shared→Prop),(∀ s' ms',Ext No s ms s' ms'→SR base ms' st' s'→Q b s')→wpAny (model prog w) A t Q E s
noncomputable def TrOk:Prop:=∀ {A:Around} {cx:Cx} {env:Env} {own:List Addr} {vars:Vars} {ms:List Addr} {st:Store} {s:Shared} {e:Expr} {b:Bool} {st':Store},
 Sit G base mg mb n A cx env own→SR base ms st s→VOk env own ms s.heap vars→o.tr cx vars e st=some (b,st')→gQ prog w base A ms s (isTrue e env (eval e env)) b st'
noncomputable def Stores (A:Around) (env:Env) (own:List Addr) (ms:List Addr) (s:Shared) (t:Sem Unit) (vars':Vars) (st':Store):Prop :=
 ∀ (Q:Unit→Shared→Prop) (E:Value→Shared→Prop),(∀ s' ms',Ext (Wr env own) s ms s' ms'→SR base ms' st' s'→VOk env own ms' s'.heap vars'→Q () s')→wpAny (model prog w) A t Q E s
noncomputable def eN:Prop:=∀ {A:Around} {cx:Cx} {env:Env} {own:List Addr} {vars:Vars} {ms:List Addr} {st:Store} {s:Shared} {t:Expr} {d:D} {v:Value} {vars':Vars} {st':Store},
 Sit G base mg mb n A cx env own→SR base ms st s→VOk env own ms s.heap vars→Rep ms s.heap d v→o.asg cx vars t d st=some (vars',st')→Stores prog w base A env own ms s (assign t env v) vars' st'
end
section
variable {prog:Program} {w:World} {A:Around} {s:Shared} {base:Base} {ms:List Addr} {st st':Store} {cx:Cx} {env:Env} {own:List Addr} {vars:Vars} {G:Gx} {mg mb:Str→Option Value} {n:Nat} {o:Ops}
theorem Acts.of {t:Sem Value} {d:D} (h:∀ (Q:Value→Shared→Prop) (E:Value→Shared→Prop),(∀ v s' ms',Ext No s ms s' ms'→SR base ms' st' s'→Rep ms' s'.heap d v→Q v s')→wpAny (model prog w) A t Q E s):Acts prog w A base ms s t d st':=h
theorem oR {t:Sem Value} {v:Value} {d:D} (r:SR base ms st s) (h:∀ (Q E:Value→Shared→Prop),Q v { s with toks:=s.toks+1 }→wpAny (model prog w) A t Q E s) (p:Rep ms s.heap d v):Acts prog w A base ms s t d st :=
 fun Q E hQ=>h Q E (hQ _ _ ms (dN (Nat.le_succ _)) (r.toks' (Nat.le_succ _)) p)
theorem rU {t:Sem Value} {v:Value} {d:D} (r:SR base ms st s) (h:∀ (Q E:Value→Shared→Prop),Q v s→wpAny (model prog w) A t Q E s) (p:Rep ms s.heap d v):Acts prog w A base ms s t d st :=
 fun Q E hQ=>h Q E (hQ _ _ ms (Ext.refl _ _) r p)
theorem aLh {c:Const} {k:Nat} {pos:Pos} {d:D} (r:SR base ms st s) (e:aJx c st=some (d,st')):Acts prog w A base ms s (eval (.Constant c k pos) env) d st':=by
 induction c with
 | none=>refine ret2 e ?_; exact rU r (fun _ _=>wpAny_Constant_none) (kQ _)
 | bool b=>refine ret2 e ?_; exact rU r (fun _ _=>wpAny_Constant_bool) (dP _ _)
 | int i=>refine ret2 e ?_; exact oR r (fun _ _=>wpAny_Constant_int) (cP _ _ _)
 | str x=>refine ret2 e ?_; exact oR r (fun _ _=>wpAny_Constant_str) (aMz _ _ _)
 | bytes b=>refine ret2 e ?_; exact oR (v:=.bytes _ s.toks) r (fun _ _ h _ _ _=>h) ⟨_,_,rfl,by simp⟩
 | _=>nomatch (show none=some _ from e)
theorem aGa (E:EnvOk base cx env own) (x:Str):env.kindOf x=cx.names.lookup x:=by unfold Env.kindOf; rw [E.names]
theorem gG {x:Str} {pos:Pos} {d:D} (gl:GlOk G base mg mb) (en:EnvOk base cx env own) (r:SR base ms st s) (v:VOk env own ms s.heap vars) (e:stepEv G o cx vars (.Name x pos) st=some (d,st'))
  {Q:Value→Shared→Prop} {E:Value→Shared→Prop} (hQ:∀ u,Rep ms s.heap d u→st=st'→Q u s):wpAny (model prog w) A (eval (.Name x pos) env) Q E s:=by
 refine ifS (c:=mF x=true) e fun hok e=>?_
 have ho:=and2 hok
 have hd:=no ho.1
 cases h:cx.names.lookup x with
 | none=>rw [h] at e; exact nn e
 | some k =>
  rw [h] at e
  have hk:env.kindOf x=some k:=(aGa en x).trans h
  induction k with
  | «local» =>
   have q:=mapS e
   obtain⟨m,hn,hm⟩:=v.ns
   obtain⟨u,hu,pu⟩:=hm x _ q.1 hk
   exact wpAny_Name (wpAny_loadName_local en.kind hk hn hu (hQ _ pu q.2)) hd
  | cell =>
   have q:=mapS e
   obtain⟨c,u,hc,hu,pu⟩:=v.cel x _ q.1 (.inl hk)
   exact wpAny_Name (wpAny_loadName_cell en.kind hk hc hu (hQ _ pu q.2)) hd
  | free =>
   have q:=mapS e
   obtain⟨c,u,hc,hu,pu⟩:=v.cel x _ q.1 (.inr hk)
   exact wpAny_Name (wpAny_loadName_free en.kind hk hc hu (hQ _ pu q.2) (no ho.2)) hd
  | globalImplicit =>
   have q:=mapS e
   obtain⟨u,hu,pu⟩:=gl.gl x _ q.1
   refine Calls.Name_function_global en.kind hk ?_ hd
   have hg:s.heap.Ns env.globals mg:=en.glob▸ns_kept gl.g fun o e=>r.keep _ o e
   rcases hu with hu | ⟨h0,hu⟩
   ·exact Calls.loadGlobal_global hg hu (hQ _ (yH r pu.1) q.2)
   ·exact Calls.loadGlobal_builtin hg h0 (en.blt▸ns_kept gl.b fun o e=>r.keep _ o e) hu (hQ _ (yH r pu.1) q.2)
  | _=>exact nn e
theorem aQo {x:Str} {pos:Pos} {d:D} (S:Sit G base mg mb n A cx env own) (r:SR base ms st s) (v:VOk env own ms s.heap vars) (e:stepEv G o cx vars (.Name x pos) st=some (d,st')):Acts prog w A base ms s (eval (.Name x pos) env) d st':=fun Q E hQ =>
 gG S.gl S.en r v e fun u p q=>by subst q; exact hQ _ _ ms (Ext.refl _ _) r p
theorem Sit.cl (S:Sit G base mg mb n A cx env own):A.units+8 < cLine:=by have:=S.ar.units; unfold cLine; lia
theorem aFs {l r':Expr} {op:Operator} {pos:Pos} {d:D} (H:EvOk prog w G base mg mb n o) (S:Sit G base mg mb n A cx env own) (r:SR base ms st s) (v:VOk env own ms s.heap vars)
  (e:stepEv G o cx vars (.BinOp l op r' pos) st=some (d,st')):Acts prog w A base ms s (eval (.BinOp l op r' pos) env) d st':=by
 refine bF (o:=o.ev cx vars l st) e fun a st₁ h1 e=>?_
 refine bF (o:=o.ev cx vars r' st₁) e fun b st₂ h2 e=>?_
 refine bE (o:=binop op a b) e fun d' h3 e=>?_
 refine ret2 e ?_
 intro Q E hQ
 refine wpAny_BinOp (H S r v h1 _ _ fun v₁ s₁ ms₁ x₁ r₁ p₁=>H S r₁ (v.ext r x₁) h2 _ _ fun v₂ s₂ ms₂ x₂ r₂ p₂=>?_)
 exact (aKw h3 r₂ (p₁.ext x₂) p₂).acts _ _ fun u s₃ ms₃ x₃ r₃ p₃=>hQ _ _ _ (x₁.trans (x₂.trans x₃)) r₃ p₃
theorem aPw {l:Expr} {pos:Pos} {d:D} (H:EvOk prog w G base mg mb n o) (S:Sit G base mg mb n A cx env own) (r:SR base ms st s) (v:VOk env own ms s.heap vars)
  (e:stepEv G o cx vars (.UnaryOp .USub l pos) st=some (d,st')):Acts prog w A base ms s (eval (.UnaryOp .USub l pos) env) d st':=by
 refine bF (o:=o.ev cx vars l st) e fun x st₁ h e=>bE (o:=intD x) e fun i hi e=>ret2 (a:=.int (-i)) (b:=st₁) e fun Q E hQ=>?_
 rw [aR hi] at h
 refine wpAny_UnaryOp (H S r v h _ _ fun v₁ s₁ ms₁ x₁ r₁ p₁=>?_)
 obtain⟨t,rfl⟩:=p₁
 exact neg_int (hQ _ _ _ (x₁.trans (dN (Nat.le_succ _))) (r₁.toks' (Nat.le_succ _)) (cP _ _ _))
theorem aFr {t a b:Expr} {pos:Pos} {d:D} (H:EvOk prog w G base mg mb n o) (HT:TrOk prog w G base mg mb n o) (S:Sit G base mg mb n A cx env own) (r:SR base ms st s) (v:VOk env own ms s.heap vars)
  (e:stepEv G o cx vars (.IfExp t a b pos) st=some (d,st')):Acts prog w A base ms s (eval (.IfExp t a b pos) env) d st':=by
 refine bF (o:=o.tr cx vars t st) e fun c st₁ h1 h2=>?_
 intro Q E hQ
 refine wpAny_IfExp (HT S r v h1 _ _ fun s₁ ms₁ x₁ r₁=>?_)
 cases c
 ·exact H S r₁ (v.ext r x₁) h2 _ _ fun v₂ s₂ ms₂ x₂ r₂ p₂=>hQ _ _ _ (x₁.trans x₂) r₂ p₂
 ·exact H S r₁ (v.ext r x₁) h2 _ _ fun v₂ s₂ ms₂ x₂ r₂ p₂=>hQ _ _ _ (x₁.trans x₂) r₂ p₂
theorem sH {op:CmpOp} {r:Expr} (h:∀ es k p,r≠.Set es k p):behindInMarks op r=false:=by
 induction r using PySem.Expr.casesOn with
 | Set es k p=>exact absurd rfl (h es k p)
 | _=>rfl
noncomputable def cW (o:Ops):Prop:=∀ cx vars es k p st,o.ev cx vars (.Set es k p) st=none
theorem vT {l:Expr} {ops:List CmpOp} {rs:List Expr} {pos:Pos} {d:D} (H:EvOk prog w G base mg mb n o) (hn:cW o) (S:Sit G base mg mb n A cx env own) (r:SR base ms st s) (v:VOk env own ms s.heap vars)
  (e:stepEv G o cx vars (.Compare l ops rs pos) st=some (d,st')):Acts prog w A base ms s (eval (.Compare l ops rs pos) env) d st':=by
 refine bF (o:=o.ev cx vars l st) e fun a st₁ h1 e=>bE (o:=one ops) e fun op h2 e=>bE (o:=one rs) e fun r' h2' e=>bF (o:=o.ev cx vars r' st₁) e fun b st₂ h3 e=>bE (o:=cmpop st₂ op a b) e fun c h4 e=>ret2 (a:=.bool c) (b:=st₂) e fun Q E hQ=>?_
 rw [eE h2,eE h2']
 refine wpAny_Compare1 (H S r v h1 _ _ fun v₁ s₁ ms₁ x₁ r₁ p₁=>H S r₁ (v.ext r x₁) h3 _ _ fun v₂ s₂ ms₂ x₂ r₂ p₂=>?_) (sH fun es k p q=>by subst q; rw [hn] at h3; exact nn h3)
 exact lX h4 r₂ S.cl (p₁.ext x₂) p₂ _ _ (hQ _ _ _ (x₁.trans x₂) r₂ (dP _ _))
theorem gL {e:Expr} {q:Str×Pos} (h:lQ e=some q):.Name q.1 q.2=e:=by
 induction e using PySem.Expr.casesOn with
 | Name x p=>exact ret1 (P:=fun q=>Expr.Name q.1 q.2=_) h rfl
 | _=>exact nn h
theorem iV {e:Expr} {q:Expr×List Expr×List Keyword×Pos} (h:lE e=some q):e=.Call q.1 q.2.1 q.2.2.1 q.2.2.2:=by
 induction e using PySem.Expr.casesOn with
 | Call f args ks p=>exact ret1 (P:=fun q=>_=Expr.Call q.1 q.2.1 q.2.2.1 q.2.2.2) h rfl
 | _=>exact nn h
theorem uY {e:Expr} {q:Str×Nat×Pos} (h:strE e=some q):e=.Constant (.str q.1) q.2.1 q.2.2:=by
 induction e using PySem.Expr.casesOn with
 | Constant c k p =>
  induction c using PySem.Const.casesOn with
  | str z=>exact ret1 (P:=fun q=>_=Expr.Constant (.str q.1) q.2.1 q.2.2) h rfl
  | _=>exact nn h
 | _=>exact nn h
noncomputable def kS (prog:Program) (w:World) (A:Around) (base:Base) (ms:List Addr) (s:Shared) (t:Sem (List Value)) (ds:List D) (st':Store):Prop :=
 ∀ (Q:List Value→Shared→Prop) (E:Value→Shared→Prop),(∀ vs s' ms',Ext No s ms s' ms'→SR base ms' st' s'→Reps ms' s'.heap ds vs→Q vs s')→wpAny (model prog w) A t Q E s
theorem iY {x:Expr} {es:List Expr} (h:isStar x=false):starEach (x::es) env=(false,eval x env)::starEach es env:=by
 induction x using PySem.Expr.casesOn with
 | Starred=>exact absurd h.symm Bool.false_ne_true
 | _=>rfl
theorem uS {x:Expr} {es:List Expr} {ds:List D} {P:List D→Store→Prop} (e:evs o cx vars (x::es) st=some (ds,st')) (k:∀ d st₁ ds' st₂,isStar x=false→o.ev cx vars x st=some (d,st₁)→evs o cx vars es st₁=some (ds',st₂)→P (d::ds') st₂):P ds st' :=
 ifN (c:=isStar x=true) e fun hs e=>bF (o:=o.ev cx vars x st) e fun d st₁ e1 e=>bF (o:=evs o cx vars es st₁) e fun ds' st₂ e2 e=>ret2 (a:=d::ds') (b:=st₂) e (k d st₁ ds' st₂ (Bool.eq_false_iff.mpr hs) e1 e2)
theorem cJ {pos:Pos} (H:EvOk prog w G base mg mb n o) (S:Sit G base mg mb n A cx env own) (es:List Expr):∀ {ds:List D} {st st':Store} {s:Shared} {ms:List Addr},SR base ms st s→VOk env own ms s.heap vars →
  evs o cx vars es st=some (ds,st')→kS prog w A base ms s (spliced (backTo pos (starEach es env))) ds st':=by
 induction es with
 | nil =>
  intro ds st st' s ms r v e
  exact ret2 (a:=[]) (b:=st) e fun Q E hQ=>Calls.spliced_nil (hQ _ _ _ (Ext.refl _ _) r Reps.nil)
 | cons x es ih =>
  intro ds st st' s ms r v e
  refine uS e fun d st₁ ds' st₂ hs e1 e2 Q E hQ=>?_
  rw [iY hs]
  exact Calls.spliced_cons (H S r v e1 _ _ fun u s₁ ms₁ x₁ r₁ p₁=>ih r₁ (v.ext r x₁) e2 _ _ fun vs s₂ ms₂ x₂ r₂ p₂=>hQ _ _ _ (x₁.trans x₂) r₂ (Reps.cons (p₁.ext x₂) p₂))
theorem tV {ds:List D} {h:Heap} {vs:List Value} (hf:fits ds.length=true) (p:Reps ms h ds vs):vs.length≤sizeLine:=by
 rw [aZ] at hf; rw [p.length]; unfold sizeLine; lia
theorem aIu {es:List Expr} {pos:Pos} {d:D} (H:EvOk prog w G base mg mb n o) (S:Sit G base mg mb n A cx env own) (r:SR base ms st s) (v:VOk env own ms s.heap vars)
  (e:stepEv G o cx vars (.List es pos) st=some (d,st')):Acts prog w A base ms s (eval (.List es pos) env) d st':=by
 refine bF (o:=evs o cx vars es st) e fun ds st₁ h1 h2=>ifS (c:=(noCells ds&&fits ds.length)=true) h2 fun hc h2=>ret2 (a:=.list ds) (b:=st₁) h2 fun Q E hQ=>?_
 have hc:=and2 hc
 refine wpAny_List_spliced (cJ H S es r v h1 _ _ fun vs s₁ ms₁ x₁ r₁ p₁=>⟨tV hc.2 p₁,?_⟩)
 exact hQ _ _ ms₁ (x₁.trans (dQ (s:=s₁) _ (Nat.le_refl _) (fun _ _ f=>f.elim))) (r₁.push _ (Nat.le_refl _)) (bW (n:=0) r₁ p₁)
theorem aGw {es:List Expr} {k:Nat} {pos:Pos} {d:D} (H:EvOk prog w G base mg mb n o) (S:Sit G base mg mb n A cx env own) (r:SR base ms st s) (v:VOk env own ms s.heap vars)
  (e:stepEv G o cx vars (.Tuple es k pos) st=some (d,st')):Acts prog w A base ms s (eval (.Tuple es k pos) env) d st':=by
 refine bF (o:=evs o cx vars es st) e fun ds st₁ h1 h2=>ifS (c:=fits ds.length=true) h2 fun hc h2=>ret2 (a:=.tuple ds) (b:=st₁) h2 fun Q E hQ=>?_
 refine wpAny_Tuple_spliced (cJ H S es r v h1 _ _ fun vs s₁ ms₁ x₁ r₁ p₁=>⟨tV hc p₁,?_⟩)
 exact hQ _ _ ms₁ (x₁.trans (dQ (s:=s₁) _ (Nat.le_refl _) (fun _ _ f=>f.elim))) (r₁.push _ (Nat.le_refl _)) (jO (n:=0) r₁ p₁)
theorem aGx {c b:Bool} {ops:List CmpOp} {rs:List Expr} {d:D} {P:Prop} (e:(if (ops.isEmpty&&rs.isEmpty)=true then some (c,st) else if c=true then chain o cx vars d ops rs st else some (false,st))=some (b,st'))
  (k:ops=[]→rs=[]→c=b→st=st'→P) (l:¬ (ops.isEmpty&&rs.isEmpty)=true→c=false→false=b→st=st'→P) (m:¬ (ops.isEmpty&&rs.isEmpty)=true→c=true→chain o cx vars d ops rs st=some (b,st')→P):P:=by
 refine ifE e (fun h e=>?_) fun h e=>ifE e (fun hc e=>m h hc e) fun hc e=>?_
 ·rw [Bool.and_eq_true,List.isEmpty_iff,List.isEmpty_iff] at h
  have q:=Prod.mk.inj (Option.some.inj e)
  exact k h.1 h.2 q.1 q.2
 ·have q:=Prod.mk.inj (Option.some.inj e)
  exact l h (Bool.eq_false_iff.mpr hc) q.1 q.2
theorem sI {pos : Pos} {op : CmpOp} {r : Expr} {lv : Value} {ops : List CmpOp} {rs : List Expr} (h : ¬ (ops.isEmpty && rs.isEmpty) = true) : testChain pos lv (op :: ops) (markedEach (op :: ops) (r :: rs) (evalEach (r :: rs) env)) = (do
          let rv ← holding [lv] (eval r env)
          standAt pos
          let c ← holding [lv, rv] (compareOp op lv rv)
          release [lv, rv] [c]
          if ← holding [c, rv] (truthy c) then testChain pos rv ops (markedEach ops rs (evalEach rs env)) else pure false) := by
  induction ops using List.casesOn with
  | nil => induction rs using List.casesOn with
    | nil => exact absurd rfl h
    | cons => rfl
  | cons => induction rs using List.casesOn with
    | nil => rfl
    | cons => rfl
theorem aEi {pos:Pos} (H:EvOk prog w G base mg mb n o) (hn:cW o) (S:Sit G base mg mb n A cx env own) (ops:List CmpOp):∀ (rs:List Expr) {left:D} {lv:Value} {b:Bool} {st:Store} {s:Shared} {ms:List Addr},SR base ms st s→VOk env own ms s.heap vars→Rep ms s.heap left lv →
  chain o cx vars left ops rs st=some (b,st')→gQ prog w base A ms s (testChain pos lv ops (markedEach ops rs (evalEach rs env))) b st':=by
 induction ops with
 | nil=>exact fun rs _ _ _ _ _ _ _ _ _ e=>nn e
 | cons op ops ih =>
  intro rs left lv b st s ms r v p e
  induction rs using List.casesOn with
  | nil=>exact nn e
  | cons r' rs =>
   refine bF (o:=o.ev cx vars r' st) e fun d st₁ h1 e=>bE (o:=cmpop st₁ op left d) e fun c h2 e=>aGx e (fun ho hr hb ht=>?_) (fun hh hc hb ht=>?_) (fun hh hc h3=>?_)
   ·subst ho hr hb ht
    intro Q E hQ
    show wpAny _ _ (testChain pos lv [op] [markedBehindIn op r' (eval r' env)]) _ _ _
    rw [markedBehindIn_of_false (sH fun es k p q=>by subst q; rw [hn] at h1; exact nn h1)]
    refine wpAny_bind (wpAny_holding (H S r v h1 _ _ fun u s₁ ms₁ x₁ r₁ p₁=>wpAny_bind (wpAny_standAt (wpAny_bind (wpAny_operating ?_)))))
    exact lX h2 r₁ S.cl (p.ext x₁) p₁ _ _ (wpAny_holding (lG (st:=st₁) (d:=.bool c) rfl r₁ (dP _ _) _ _ fun s' x' r'=>hQ _ _ (x₁.trans x') r'))
   ·subst hc hb ht
    intro Q E hQ
    rw [sI hh]
    refine wpAny_bind (wpAny_holding (H S r v h1 _ _ fun u s₁ ms₁ x₁ r₁ p₁=>wpAny_bind (wpAny_standAt (wpAny_bind (wpAny_holding ?_)))))
    refine lX h2 r₁ S.cl (p.ext x₁) p₁ _ _ (wpAny_bind (wpAny_release (wpAny_bind (wpAny_holding ?_))))
    exact lG (st:=st₁) (d:=.bool false) rfl r₁ (dP _ _) _ _ fun s₂ x₂ r₂=>wpAny_pure (hQ _ _ (x₁.trans x₂) r₂)
   ·subst hc
    intro Q E hQ
    rw [sI hh]
    refine wpAny_bind (wpAny_holding (H S r v h1 _ _ fun u s₁ ms₁ x₁ r₁ p₁=>wpAny_bind (wpAny_standAt (wpAny_bind (wpAny_holding ?_)))))
    refine lX h2 r₁ S.cl (p.ext x₁) p₁ _ _ (wpAny_bind (wpAny_release (wpAny_bind (wpAny_holding ?_))))
    refine lG (st:=st₁) (d:=.bool true) rfl r₁ (dP _ _) _ _ fun s₂ x₂ r₂=>?_
    exact ih rs r₂ ((v.ext r x₁).ext r₁ x₂) (p₁.ext x₂) h3 _ _ fun s₃ ms₃ x₃ r₃=>hQ _ _ (x₁.trans (x₂.trans x₃)) r₃
theorem aLr (HT:TrOk prog w G base mg mb n o) (S:Sit G base mg mb n A cx env own) (op:BoolOp) (es:List Expr):∀ {b:Bool} {st:Store} {s:Shared} {ms:List Addr},SR base ms st s→VOk env own ms s.heap vars →
  allT o cx vars op es st=some (b,st')→gQ prog w base A ms s (allTrue op es env) b st':=by
 induction es with
 | nil =>
  intro b st s ms r v e
  have e:some (op == .And,st)=some (b,st'):=by induction op <;> exact e
  exact ret2 e fun Q E hQ=>wpAny_pure (hQ _ _ (Ext.refl _ _) r)
 | cons x es ih =>
  intro b st s ms r v e
  induction op with
  | And =>
   refine bF (o:=o.tr cx vars x st) e fun c st₁ h1 h2=>?_
   cases c
   ·exact ret2 (a:=false) (b:=st₁) h2 fun Q E hQ=>by
     rw [arm_allTrue_cons]
     exact wpAny_bind (HT S r v h1 _ _ fun s₁ ms₁ x₁ r₁=>wpAny_pure (hQ _ _ x₁ r₁))
   ·intro Q E hQ
    rw [arm_allTrue_cons]
    exact wpAny_bind (HT S r v h1 _ _ fun s₁ ms₁ x₁ r₁=>ih r₁ (v.ext r x₁) h2 _ _ fun s₃ ms₃ x₃ r₃=>hQ _ _ (x₁.trans x₃) r₃)
  | Or =>
   refine bF (o:=o.tr cx vars x st) e fun c st₁ h1 h2=>?_
   cases c
   ·intro Q E hQ
    rw [arm_allTrue_cons]
    exact wpAny_bind (HT S r v h1 _ _ fun s₁ ms₁ x₁ r₁=>ih r₁ (v.ext r x₁) h2 _ _ fun s₃ ms₃ x₃ r₃=>hQ _ _ (x₁.trans x₃) r₃)
   ·exact ret2 (a:=true) (b:=st₁) h2 fun Q E hQ=>by
     rw [arm_allTrue_cons]
     exact wpAny_bind (HT S r v h1 _ _ fun s₁ ms₁ x₁ r₁=>wpAny_pure (hQ _ _ x₁ r₁))
theorem yS {e:Expr} {b:Bool} (H:EvOk prog w G base mg mb n o) (S:Sit G base mg mb n A cx env own) (r:SR base ms st s) (v:VOk env own ms s.heap vars)
  (hi:isTrue e env (eval e env)=(do
    let v ← eval e env
    standAt e.pos
    holding [v] (truthy v))) (h:nW o cx vars e st=some (b,st')):gQ prog w base A ms s (isTrue e env (eval e env)) b st':=by
 refine bF (o:=o.ev cx vars e st) h fun d st₁ h1 h=>?_
 refine bE (o:=truth st₁ d) h fun c h2 h=>?_
 refine ret2 h ?_
 intro Q E hQ
 rw [hi]
 refine wpAny_bind (H S r v h1 _ _ fun u s₁ ms₁ x₁ r₁ p₁=>wpAny_bind (wpAny_standAt (wpAny_holding ?_)))
 exact lG h2 r₁ p₁ _ _ fun s₂ x₂ r₂=>hQ _ _ (x₁.trans x₂) r₂
theorem aTe {e:Expr} {b:Bool} (H:EvOk prog w G base mg mb n o) (HT:TrOk prog w G base mg mb n o) (hn:cW o) (S:Sit G base mg mb n A cx env own) (r:SR base ms st s) (v:VOk env own ms s.heap vars)
  (h:aKc o cx vars e st=some (b,st')):gQ prog w base A ms s (isTrue e env (eval e env)) b st':=by
 induction e using PySem.Expr.casesOn with
 | UnaryOp op x p=>induction op with
  | Not =>
   refine bF (o:=o.tr cx vars x st) h fun c st₁ h1 h=>ret2 (a:=!c) (b:=st₁) h fun Q E hQ=>?_
   exact wpAny_isTrue_Not (HT S r v h1 _ _ fun s₁ ms₁ x₁ r₁=>hQ _ _ x₁ r₁)
  | _=>exact yS H S r v rfl h
 | BoolOp op es p =>
  intro Q E hQ
  rw [arm_isTrue_BoolOp]
  exact aLr HT S _ _ r v h _ _ hQ
 | Compare l ops rs p =>
  refine bF (o:=o.ev cx vars l st) h fun d st₁ h1 h2 Q E hQ=>?_
  rw [arm_isTrue_Compare]
  refine wpAny_bind (H S r v h1 _ _ fun u s₁ ms₁ x₁ r₁ p₁=>?_)
  exact aEi H hn S _ _ r₁ (v.ext r x₁) p₁ h2 _ _ fun s₃ ms₃ x₃ r₃=>hQ _ _ (x₁.trans x₃) r₃
 | IfExp l ops rs p=>exact nn h
 | _=>exact yS H S r v rfl h
end
end Mine
end
section -- S11
open PySem PyProof.Rows PySem.SeqAt
namespace Mine
section
variable {prog:Program} {w:World} {A:Around} {s:Shared} {base:Base} {ms:List Addr} {st st':Store} {cx:Cx} {env:Env} {own:List Addr} {vars:Vars} {G:Gx} {mg mb:Str→Option Value} {n:Nat} {o:Ops}
noncomputable def Gets (s:Shared) (v:Value):Prop:=∃ T id,s.TypeIs v T∧typeLookup (.type T) "__getitem__" = pure (some (.builtin id))
theorem aBa {d j x:D} {v:Value} (e:index st d j=some x) (r:SR base ms st s) (p:Rep ms s.heap d v):Gets s v :=
 bE (o:=intD j) e fun i _ e=>by
 induction d using D.casesOn with
 | list =>
  obtain⟨a,vs,rfl,ha,hl,_⟩:=aO p
  exact⟨_,_,hl.typeIs,slot_list_getitem.lookup⟩
 | tuple =>
  obtain⟨a,vs,rfl,ha,hl,_⟩:=gU p
  exact⟨_,_,hl.typeIs,slot_tuple_getitem.lookup⟩
 | cell k =>
  refine bE (o:=look st k) e fun l hl _=>?_
  obtain⟨a,vs,n,rfl,hm,hl,_⟩:=aPh r hl p
  exact⟨_,_,hl.isList.typeIs,slot_list_getitem.lookup⟩
 | str =>
  obtain⟨t,rfl⟩:=p
  exact⟨_,_,typeIs_str _ _ _,F.slot_str_getitem.lookup⟩
 | bytes =>
  obtain⟨b,t,rfl,_⟩:=p
  exact⟨_,_,PySem.W.typeIs_bytes _ _ _,PySem.W.FB.slot_bytes_getitem.lookup⟩
 | _=>exact nn e
theorem aAf {d x:D} {lo hi:Option Int} {v:Value} (e:slice d lo hi=some x) (p:Rep ms s.heap d v):Gets s v :=
 ifS e fun _ e=>by
 induction d using D.casesOn with
 | str =>
  obtain⟨t,rfl⟩:=p
  exact⟨_,_,typeIs_str _ _ _,F.slot_str_getitem.lookup⟩
 | list =>
  obtain⟨a,vs,rfl,ha,hl,_⟩:=aO p
  exact⟨_,_,hl.typeIs,slot_list_getitem.lookup⟩
 | _=>exact nn e
theorem aOu {v' i:Expr} {pos:Pos} {d:D} (H:EvOk prog w G base mg mb n o) (S:Sit G base mg mb n A cx env own) (r:SR base ms st s) (v:VOk env own ms s.heap vars)
  (hs:qG i=none) (e:stepEv G o cx vars (.Subscript v' i pos) st=some (d,st')):Acts prog w A base ms s (eval (.Subscript v' i pos) env) d st':=by
 unfold stepEv at e
 dsimp only at e
 rw [hs] at e
 refine bF (o:=o.ev cx vars v' st) e fun a st₁ h1 e=>bF (o:=o.ev cx vars i st₁) e fun j st₂ h2 e=>bE (o:=index st₂ a j) e fun x h3 e=>ret2 (a:=x) (b:=st₂) e fun Q E hQ=>?_
 refine Subscript_ (H S r v h1 _ _ fun v₁ s₁ ms₁ x₁ r₁ p₁=>H S r₁ (v.ext r x₁) h2 _ _ fun v₂ s₂ ms₂ x₂ r₂ p₂=>?_)
 obtain⟨T,id,hT,hl⟩:=aBa h3 r₂ (p₁.ext x₂)
 exact tail_any hT hl ((aIy h3 r₂ (p₁.ext x₂) p₂).acts _ _ fun u s₃ ms₃ x₃ r₃ p₃=>hQ _ _ _ (x₁.trans (x₂.trans x₃)) r₃ p₃) (lD fun lo hi p q=>by subst q; exact nn hs.symm)
theorem yX (H:EvOk prog w G base mg mb n o) (S:Sit G base mg mb n A cx env own) (r:SR base ms st s) (v:VOk env own ms s.heap vars) {e:Option Expr} {i:Option Int} (h:optI o cx vars e st=some (i,st')) (Q:Value→Shared→Prop) (E:Value→Shared→Prop)
  (hQ:∀ t s' ms',Ext No s ms s' ms'→SR base ms' st' s'→Q (partOf t i) s'):wpAny (model prog w) A (evalPart e env) Q E s:=by
 induction e using Option.casesOn with
 | none =>
  cases congrArg (fun q:Option Int×Store=>q.1) (Option.some.inj h)
  cases congrArg (fun q:Option Int×Store=>q.2) (Option.some.inj h)
  exact evalPart_none_step (hQ 0 _ _ (Ext.refl _ _) r)
 | some e =>
  refine bF (o:=o.ev cx vars e st) h fun d st₁ h1 h=>mE (o:=intD d) h fun k hk h=>?_
  rw [aR hk] at h1
  refine evalPart_some_step (H S r v h1 _ _ fun u s₁ ms₁ x₁ r₁ p₁=>?_)
  obtain⟨t,rfl⟩:=p₁
  exact retP (P:=fun i st'=>(∀ t s' ms',Ext No s ms s' ms'→SR base ms' st' s'→Q (partOf t i) s')→Q (.int k t) s₁) h (fun hQ=>hQ t _ _ x₁ r₁) hQ
theorem aGl {v':Expr} {lo hi:Option Expr} {p pos:Pos} {d:D} (H:EvOk prog w G base mg mb n o) (S:Sit G base mg mb n A cx env own) (r:SR base ms st s) (v:VOk env own ms s.heap vars)
  (e:stepEv G o cx vars (.Subscript v' (.Slice lo hi none p) pos) st=some (d,st')):Acts prog w A base ms s (eval (.Subscript v' (.Slice lo hi none p) pos) env) d st':=by
 refine bF (o:=o.ev cx vars v' st) e fun a st₁ h1 e=>bF (o:=optI o cx vars lo st₁) e fun i st₂ h2 e=>bF (o:=optI o cx vars hi st₂) e fun j st₃ h3 e=>bE (o:=slice a i j) e fun x h4 e=>ret2 (a:=x) (b:=st₃) e fun Q E hQ=>?_
 refine Subscript_ (H S r v h1 _ _ fun v₁ s₁ ms₁ x₁ r₁ p₁=>wpAny_Slice ?_)
 refine yX H S r₁ (v.ext r x₁) h2 _ _ fun t s₂ ms₂ x₂ r₂=>?_
 refine yX H S r₂ ((v.ext r x₁).ext r₁ x₂) h3 _ _ fun u s₃ ms₃ x₃ r₃=>evalPart_none_step ?_
 have x₄:Ext No s₃ ms₃ { s₃ with heap:=s₃.heap.push { cls:=.type "slice",data:=.fields #[partOf t i,partOf u j,.none] } } ms₃:=dQ (s:=s₃) _ (Nat.le_refl _) (fun _ _ f=>f.elim)
 have p₄:=((p₁.ext x₂).ext x₃).ext x₄
 obtain⟨T,id,hT,hl⟩:=aAf (s:={ s₃ with heap:=s₃.heap.push { cls:=.type "slice",data:=.fields #[partOf t i,partOf u j,.none] } }) h4 p₄
 exact tail_any hT hl ((aHd h4 (r₃.push { cls:=.type "slice",data:=.fields #[partOf t i,partOf u j,.none] } (Nat.le_refl s₃.toks)) p₄ (Heap.IsSliceOf.new _ _ _ _)).acts _ _ fun y s₅ ms₅ x₅ r₅ p₅=>hQ _ _ _ (x₁.trans (x₂.trans (x₃.trans (x₄.trans x₅)))) r₅ p₅) rfl
noncomputable def RepK (ms:List Addr) (h:Heap) (kd:List (Str×D)) (kv:List (Str×Value)):Prop:=kv.map (·.1)=kd.map (·.1)∧Reps ms h (kd.map (·.2)) (kv.map (·.2))
theorem gZ {pos:Pos} (es:List Expr):∀ {ds:List D} {st st':Store},evs o cx vars es st=some (ds,st')→(backTo pos (starEach es env)).any (·.1)=false∧(backTo pos (starEach es env)).all (fun x=>!x.1)=true:=by
 induction es with
 | nil=>exact fun _=>⟨rfl,rfl⟩
 | cons x es ih=>exact fun e=>uS (P:=fun _ _=>_) e fun d st₁ ds' st₂ hs e1 e2=>by rw [iY hs]; exact ih e2
theorem dR {pos:Pos} {f:Value} {es:List Expr} {keywords:List (Option Str×Sem Value)} {ds:List D} {Q:Args→Shared→Prop} {E:Value→Shared→Prop} (e:evs o cx vars es st=some (ds,st')) (hall:keywords.all (·.1.isSome)=true)
  (h:wpAny (model prog w) A (spliced (backTo pos (starEach es env))) (fun vs s₁=>wpAny (model prog w) A (evalAll (keywords.map (·.2))) (fun ks s₂=>Q ⟨vs,(keywords.filterMap (·.1)).zip ks⟩ s₂) E s₁) E s) :
  wpAny (model prog w) A (evalArgs f true (backTo pos (starEach es env)) keywords) Q E s:=by
 induction es using List.casesOn with
 | nil =>
  refine evalArgs_kw_nil hall fun Γ p hΓ=>?_
  have:=h Γ p hΓ
  rw [show spliced (backTo pos (starEach [] env))=pure [] from rfl,Sem.wp_pure'] at this
  exact this Γ p hΓ
 | cons x es =>
  refine uS (P:=fun _ _=>_) e fun d st₁ ds' st₂ hs _ _=>?_
  rw [iY hs] at h ⊢
  exact evalArgs_kw hall h
theorem aDb {n:Option Str} {x:Expr} {p:Pos} {ks:List Keyword} {kd:List (Str×D)} {P:List (Str×D)→Store→Prop} (e:kws o cx vars (⟨n,x,p⟩::ks) st=some (kd,st')) (k:∀ y d st₁ ds st₂,n=some y→o.ev cx vars x st=some (d,st₁)→kws o cx vars ks st₁=some (ds,st₂)→P ((y,d)::ds) st₂):P kd st':=by
 induction n with
 | none=>exact nn e
 | some y=>exact bF (o:=o.ev cx vars x st) e fun d st₁ e1 e=>bF (o:=kws o cx vars ks st₁) e fun ds st₂ e2 e=>ret2 (a:=(y,d)::ds) (b:=st₂) e (k y d st₁ ds st₂ rfl e1 e2)
theorem aOs (pos:Pos) (ks:List Keyword):∀ {kd:List (Str×D)} {st st':Store},kws o cx vars ks st=some (kd,st')→(backToKw pos (keywordEach ks env)).all (·.1.isSome)=true∧(backToKw pos (keywordEach ks env)).any (·.1.isNone)=false∧(backToKw pos (keywordEach ks env)).filterMap (·.1)=kd.map (·.1):=by
 induction ks with
 | nil=>exact fun e=>ret2 (a:=[]) (P:=fun kd _=>_∧_∧_=List.map Prod.fst kd) e ⟨rfl,rfl,rfl⟩
 | cons k ks ih =>
  obtain⟨n,x,p⟩:=k
  refine fun e=>aDb (P:=fun kd _=>_∧_∧_=List.map Prod.fst kd) e fun y d st₁ ds st₂ hn _ e2=>?_
  subst hn
  obtain⟨h1,h2,h3⟩:=ih e2
  exact⟨h1,h2,congrArg (List.cons y) h3⟩
theorem wR {pos:Pos} (H:EvOk prog w G base mg mb n o) (S:Sit G base mg mb n A cx env own) (ks:List Keyword):∀ {kd:List (Str×D)} {st st':Store} {s:Shared} {ms:List Addr},SR base ms st s→VOk env own ms s.heap vars →
  kws o cx vars ks st=some (kd,st')→kS prog w A base ms s (evalAll ((backToKw pos (keywordEach ks env)).map (·.2))) (kd.map (·.2)) st':=by
 induction ks with
 | nil=>exact fun r v e=>ret2 (a:=[]) (P:=fun kd st'=>kS prog w A base _ _ _ (List.map Prod.snd kd) st') e fun Q E hQ=>wpAny_evalAll_nil (hQ _ _ _ (Ext.refl _ _) r Reps.nil)
 | cons k ks ih =>
  intro kd st st' s ms r v e
  obtain⟨n,x,p⟩:=k
  refine aDb (P:=fun kd st'=>kS prog w A base ms s _ (List.map Prod.snd kd) st') e fun y d st₁ ds st₂ hn e1 e2 Q E hQ=>?_
  subst hn
  refine wpAny_evalAll_cons (x:=(do let v ← eval x env; standAt pos; pure v)) (rest:=(backToKw pos (keywordEach ks env)).map (·.2)) (wpAny_bind (H S r v e1 _ _ fun u s₁ ms₁ x₁ r₁ p₁=>wpAny_bind (wpAny_standAt (wpAny_pure ?_))))
  exact ih r₁ (v.ext r x₁) e2 _ _ fun vs s₂ ms₂ x₂ r₂ p₂=>hQ _ _ _ (x₁.trans x₂) r₂ (Reps.cons (p₁.ext x₂) p₂)
theorem aKp {h:Heap} {kd:List (Str×D)} {vs:List Value} (p:Reps ms h (kd.map (·.2)) vs):RepK ms h kd ((kd.map (·.1)).zip vs):=by
 have hl:vs.length=kd.length:=by have:=p.length; simpa using this
 refine⟨?_,?_⟩
 ·rw [List.map_fst_zip]; simp [hl]
 ·rw [List.map_snd_zip]
  ·exact p
  ·simp [hl]
set_option genInjectivity false in
structure Flown (ms:List Addr) (h₀ h:Heap) (c:Addr) (v:Value) (e:Addr):Prop where
 new:h₀.get? e=none
 at_:∃ oe vs T oT ts t,h.get? e=some oe∧oe.cls=.ref c∧oe.data=.fields vs∧vs[0]? = some (.ref t)∧vs[1]? = some (.ref T)∧h₀.get? T=none∧T≠e∧h.get? T=some oT∧oT.data=.fields ts∧ts[3]? = some .none∧h.TupAt t [v]∧t∉ms
noncomputable def Throws (prog:Program) (w:World) (A:Around) (base:Base) (ms:List Addr) (s:Shared) (t:Sem Value) (c:Nat) (d:D) (st':Store):Prop :=
 ∀ (Q:Value→Shared→Prop) (E:Value→Shared→Prop),(∀ e v s' ms',Ext No s ms s' ms'→SR base ms' st' s'→Rep ms' s'.heap d v→Flown ms' s.heap s'.heap c v e→E (.ref e) s')→wpAny (model prog w) A t Q E s
set_option genInjectivity false in
structure FnOk (prog:Program) (w:World) (G:Gx) (H:Heap) (n:Nat):Prop where
 isFn:∀ {a ds ks st res},G.fn a ds ks st=some res→∃ ob fd,H.get? a=some ob∧ob.data=.func fd
 acts:∀ {fr:List Addr} {A:Around} {ms:List Addr} {st:Store} {s:Shared} {a:Nat} {ds:List D} {ks:List (Str×D)} {vs:List Value} {kv:List (Str×Value)} {d:D} {st':Store},
  AOk n A→FrOk ⟨H,fr⟩ A→SR ⟨H,fr⟩ ms st s→Reps ms s.heap ds vs→RepK ms s.heap ks kv→G.fn a ds ks st=some (.ret d,st')→Acts prog w A ⟨H,fr⟩ ms s (call (.ref a) vs kv) d st'
 throws:∀ {fr:List Addr} {A:Around} {ms:List Addr} {st:Store} {s:Shared} {a:Nat} {ds:List D} {ks:List (Str×D)} {vs:List Value} {kv:List (Str×Value)} {c:Nat} {d:D} {st':Store},
  AOk n A→FrOk ⟨H,fr⟩ A→SR ⟨H,fr⟩ ms st s→Reps ms s.heap ds vs→RepK ms s.heap ks kv→G.fn a ds ks st=some (.exc c d,st')→Throws prog w A ⟨H,fr⟩ ms s (call (.ref a) vs kv) c d st'
noncomputable def SortOk (prog:Program) (w:World) (base:Base):Prop:=∀ {A:Around} {ms:List Addr} {st:Store} {s:Shared} {l x:List D} {a:Addr} {us:List Value},
 AOk 2 A→SR base ms st s→l.length < 64→fM l=true→dG l=some x→s.heap.IsList a us.toArray→Reps ms s.heap l us→Makes prog w A base ms st s (call (.builtin "sorted") [.ref a]) (.list x)
theorem bQ {pos:Pos} {f:Value} {first:List Value} {args:List (Bool×Sem Value)} {keywords:List (Option Str×Sem Value)} {Q:Value→Shared→Prop} {E:Value→Shared→Prop} (hf:∀ a,f≠.ref a) (hplain:(args.any (·.1) || keywords.any (·.1.isNone))=false)
  (h:wpAny (model prog w) A (evalArgs f true args keywords) (fun a s₁=>wpAny (model prog w) A (call f (first++a.pos) a.kw) Q E s₁) E s):wpAny (model prog w) A (callWith pos f first args keywords) Q E s:=by
 unfold callWith
 refine wpAny_bind (wpAny_holding (wpAny_mono h (fun a s₁ h₁=>wpAny_bind (wpAny_standAt ?_)) fun _ _ x=>x))
 have hk:keeperOf f=pure .machine:=by
  unfold keeperOf
  split
  ·exact absurd rfl (hf _)
  ·rfl
 simp only [hplain]
 refine wpAny_bind (wpAny_of_eq hk ?_)
 exact wpAny_bind (wpAny_mono h₁ (fun r s₂ hr=>wpAny_bind (wpAny_holding (wpAny_point (wpAny_pure hr)))) fun _ _ x=>x)
theorem aJp {f d:D} {ds:List D} {v:Value} {h:Heap} (e:bcall st f ds=some d) (p:Rep ms h f v):∀ a,v≠.ref a:=by
 induction f using D.casesOn with
 | builtin=>subst p; exact fun _=>nofun
 | type=>subst p; exact fun _=>nofun
 | _=>exact nn e
theorem aQn {r:Res} {d:D} (h:retR r=some d):r=.ret d:=by
 induction r using Res.casesOn with
 | ret=>exact congrArg _ (Option.some.inj h)
 | _=>exact nn h
theorem aAq {f d:D} {ds:List D} {ks:List (Str×D)} (h:sW G f ds ks st=some (d,st')):(∃ a,f=.obj a∧G.fn a ds ks st=some (.ret d,st'))∨(ks=[]∧bcall st f ds=some d∧st'=st):=by
 unfold sW at h
 cases hf:objD f with
 | some a =>
  rw [hf] at h
  refine bF (o:=G.fn a ds ks st) h fun r s' hg h=>mE (o:=retR r) h fun d' hr h=>.inl ⟨a,nT hf,?_⟩
  rw [hg,aQn hr]
  exact congrArg (fun q:D×Store=>some (Res.ret q.1,q.2)) h
 | none =>
  rw [hf] at h
  exact ifS h fun hk h=>mE h fun y hy h=>.inr ⟨List.isEmpty_iff.mp hk,(show y=d from congrArg Prod.fst h)▸hy,(show st=st' from congrArg Prod.snd h).symm⟩
theorem aLx {f:Expr} {args:List Expr} {ks:List Keyword} {pos:Pos} {d:D} (H:EvOk prog w G base mg mb n o) (HF:FnOk prog w G base.heap n) (HS:SortOk prog w base) (h2:2≤n) (S:Sit G base mg mb n A cx env own) (r:SR base ms st s) (v:VOk env own ms s.heap vars)
  (ha:nL f=none) (e:stepEv G o cx vars (.Call f args ks pos) st=some (d,st')):Acts prog w A base ms s (eval (.Call f args ks pos) env) d st':=by
 have e'':eval (.Call f args ks pos) env=(do callWith pos (← eval f env) [] (backTo pos (starEach args env)) (backToKw pos (keywordEach ks env))):=by
  induction f using PySem.Expr.casesOn with
  | Attribute o name p=>exact nn ha.symm
  | _=>rfl
 unfold stepEv at e
 dsimp only at e
 rw [ha] at e
 rw [e'']
 refine bF (o:=o.ev cx vars f st) e fun fd st₁ h1 e=>bF (o:=evs o cx vars args st₁) e fun ds st₂ h3 e=>bF (o:=kws o cx vars ks st₂) e fun kd st₃ h4 h5=>?_
 obtain⟨k1,k2,k3⟩:=aOs (env:=env) pos ks h4
 have hc:(∃ a,fd=.obj a∧G.fn a ds kd st₃=some (.ret d,st'))∨(kd=[]∧bcall st₃ fd ds=some d∧st'=st₃):=aAq h5
 refine fun Q E hQ=>wpAny_bind (H S r v h1 _ _ fun u s₁ ms₁ x₁ r₁ p₁=>?_)
 rcases hc with ⟨a,rfl,h6⟩ | ⟨rfl,h6,rfl⟩
 ·subst p₁
  obtain⟨ob,fo,hb,hd⟩:=HF.isFn h6
  refine callWith_function_kw (o:=ob) (fd:=fo) (dR h3 k1 (cJ H S args r₁ (v.ext r x₁) h3 _ _ fun vs s₂ ms₂ x₂ r₂ p₂=>wR H S ks r₂ ((v.ext r x₁).ext r₁ x₂) h4 _ _ fun kv s₃ ms₃ x₃ r₃ p₃=>⟨⟨(r₃.keep _ _ hb).exact (noFr hd (by intro _ _ q; cases q)),hd⟩,?_⟩))
  rw [k3]
  exact HF.acts S.ar S.fs r₃ (p₂.ext x₃) (aKp p₃) h6 _ _ fun y s₄ ms₄ x₄ r₄ p₄=>hQ _ _ _ (x₁.trans (x₂.trans (x₃.trans x₄))) r₄ p₄
 ·refine bQ (aJp h6 p₁) (by rw [(gZ args h3).1,k2]; rfl:((backTo pos (starEach args env)).any (·.1) || (backToKw pos (keywordEach ks env)).any (·.1.isNone))=false) (dR h3 k1 (cJ H S args r₁ (v.ext r x₁) h3 _ _ fun vs s₂ ms₂ x₂ r₂ p₂=>wR H S ks r₂ ((v.ext r x₁).ext r₁ x₂) h4 _ _ fun kv s₃ ms₃ x₃ r₃ p₃=>?_))
  rw [k3]
  exact (aIn h6 r₃ (S.ar.less h2) ((p₁.ext x₂).ext x₃) (p₂.ext x₃) (fun l hl ho x hx a us ha hr=>HS (S.ar.less h2) r₃ hl ho hx ha hr)).acts _ _ fun y s₄ ms₄ x₄ r₄ p₄=>hQ _ _ _ (x₁.trans (x₂.trans (x₃.trans x₄))) r₄ p₄
end
end Mine
end
section -- S12
open PySem PyProof.Rows PySem.SeqAt
namespace Mine
section
variable {prog:Program} {w:World} {A:Around} {s:Shared} {base:Base} {ms:List Addr} {st st':Store} {cx:Cx} {env:Env} {own:List Addr} {vars:Vars} {G:Gx} {mg mb:Str→Option Value} {n:Nat} {o:Ops}
theorem iI {v:Expr} {name:Str} {apos pos:Pos} {args:List Expr} {Q:Value→Shared→Prop} {E:Value→Shared→Prop} (hk:dA v args apos pos=true) (hs:(backTo pos (starEach args env)).all (fun x=>!x.1)=true)
  (h:wpAny (model prog w) A (eval v env) (fun ov s₁=>∀ pl,wpAny (model prog w) A (getMethod ov name pl) (fun fx s₂=>wpAny (model prog w) A (callWith pos fx.1 fx.2 (backTo pos (starEach args env)) []) Q E s₂) E s₁) E s) :
  wpAny (model prog w) A (eval (.Call (.Attribute v name apos) args [] pos) env) Q E s:=by
 unfold dA at hk
 rw [Bool.and_eq_true,Bool.and_eq_true,decide_eq_true_eq] at hk
 obtain⟨⟨h1,h2⟩,h3⟩:=hk
 have hbase:attributeBase v name env (eval v env)=eval v env:=by
  unfold attributeBase
  split
  ·simp at h1
  ·rfl
 rw [arm_eval_Call,hbase]
 refine wpAny_bind (wpAny_mono h (fun ov s₁ h₁=>wpAny_bind (wpAny_standAt ?_)) fun _ _ e=>e)
 have hform:methodCallForm (args.length+([]:List Keyword).length) (backTo pos (starEach args env)) (backToKw pos (keywordEach [] env))=true:=by
  unfold methodCallForm
  rw [hs]
  have:(backToKw pos (keywordEach [] env))=[]:=rfl
  rw [this]
  simp; exact Nat.lt_succ_of_lt (by assumption)
 unfold methodCall
 rw [hform]
 refine wpAny_bind (wpAny_holding ?_)
 show wpAny _ _ (getMethod ov name _) _ _ _
 refine wpAny_mono (h₁ _) (fun fx s₂ h₂=>?_) fun _ _ e=>e
 exact wpAny_bind (wpAny_of_eq (by unfold methodCallPos; simp [h2]:methodCallPos true v env apos pos=pure pos) h₂)
theorem kE (id:String):∀ a,(.builtin id:Value)≠.ref a:=fun a q=>by cases q
theorem mT {pos:Pos} {id:String} {first:List Value} {es:List Expr} {ds:List D} (H:EvOk prog w G base mg mb n o) (S:Sit G base mg mb n A cx env own) (r:SR base ms st s) (v:VOk env own ms s.heap vars) (h:evs o cx vars es st=some (ds,st'))
  {Q:Value→Shared→Prop} {E:Value→Shared→Prop} (hQ:∀ vs s' ms',Ext No s ms s' ms'→SR base ms' st' s'→Reps ms' s'.heap ds vs→wpAny (model prog w) A (call (.builtin id) (first++vs)) Q E s') :
  wpAny (model prog w) A (callWith pos (.builtin id) first (backTo pos (starEach es env)) []) Q E s:=by
 refine bQ (kE id) (by rw [(gZ es h).1]; rfl) (dR h rfl (cJ H S es r v h _ _ fun vs s₂ ms₂ x₂ r₂ p₂=>wpAny_evalAll_nil ?_))
 exact hQ _ _ _ x₂ r₂ p₂
theorem zH {name:Str} {k:Nat} {ds:List D} {d:D} {st st':Store} (e:fZ name (.cell k) ds st=some (d,st')) :
  ∃ l,look st k=some l∧((∃ x,ds=[x]∧name = "append"∧noCell x=true∧fits l.length=true∧d=.none∧st'=st.set k (l++[x]))∨(ds=[]∧name = "pop"∧fits l.length=true∧l.getLast? = some d∧st'=st.set k l.dropLast)):=by
 refine bE (o:=look st k) e fun l hl e=>⟨l,hl,?_⟩
 induction ds using List.casesOn with
 | nil =>
  refine ifS (c:=(name == "pop"&&fits l.length)=true) e fun h e=>?_
  rw [Bool.and_eq_true] at h
  obtain⟨y,hy,e⟩:=Option.map_eq_some_iff.mp e
  have q:=Prod.mk.inj e
  exact .inr ⟨rfl,eq_of_beq h.1,h.2,q.1▸hy,q.2.symm⟩
 | cons x ds=>induction ds using List.casesOn with
  | cons=>exact nn e
  | nil =>
   refine ifS (c:=(name == "append"&&noCell x&&fits l.length)=true) e fun h e=>?_
   rw [Bool.and_eq_true,Bool.and_eq_true] at h
   have q:=Prod.mk.inj (Option.some.inj e)
   exact .inl ⟨x,rfl,eq_of_beq h.1.1,h.1.2,h.2,q.1.symm,q.2.symm⟩
theorem yG {name:Str} {a d:D} {ds:List D} {st st':Store} (ha:∀ k,a≠.cell k) (e:fZ name a ds st=some (d,st')):meth name a ds=some d∧st'=st:=by
 have e:(meth name a ds).map (fun r=>(r,st))=some (d,st'):=by
  induction a using D.casesOn with
  | cell k=>exact absurd rfl (ha k)
  | _=>exact e
 obtain⟨y,hy,e⟩:=Option.map_eq_some_iff.mp e
 have q:=Prod.mk.inj e
 exact⟨q.1▸hy,q.2.symm⟩
theorem Ext.place {W:Addr→Prop} {s s':Shared} {ms ms':List Addr} (x:Ext W s ms s' ms') {k:Nat} {a:Addr} (h:ms[k]? = some a):ms'[k]? = some a:=x.pre k a h
theorem zT {v':Expr} {name:Str} {apos pos:Pos} {args:List Expr} {d:D} (H:EvOk prog w G base mg mb n o) (S:Sit G base mg mb n A cx env own) (r:SR base ms st s) (v:VOk env own ms s.heap vars)
  (hk:dA v' args apos pos=true) {a:D} {ds:List D} {st₁ st₂:Store} (h1:o.ev cx vars v' st=some (a,st₁)) (hck:mA st₁ a=true) (h2:evs o cx vars args st₁=some (ds,st₂)) (h3:fZ name a ds st₂=some (d,st')) :
  Acts prog w A base ms s (eval (.Call (.Attribute v' name apos) args [] pos) env) d st':=fun Q E hQ=>by
 refine iI hk (gZ args h2).2 (H S r v h1 _ _ fun ov s₁ ms₁ x₁ r₁ p₁ pl=>?_)
 by_cases hc:∃ k,a=.cell k
 ·obtain⟨k,rfl⟩:=hc
  obtain⟨l,hl,h4⟩:=zH h3
  skip
  obtain⟨ad,rfl,hm⟩:=p₁
  obtain⟨l₀,hl₀'⟩:=Option.isSome_iff_exists.mp hck
  obtain⟨ad',vs₀,n₀,hm',hl₀,_⟩:=r₁.lists k _ hl₀'
  rw [hm] at hm'; cases hm'
  rcases h4 with ⟨x,rfl,rfl,hx,hf,rfl,rfl⟩ | ⟨rfl,rfl,hf,hx,rfl⟩
  ·refine nD hl₀ slot_list_append type_list_append pl _ _ (mT H S r₁ (v.ext r x₁) h2 fun vs s₂ ms₂ x₂ r₂ p₂=>?_)
   obtain⟨u,rfl,pu⟩:=cH p₂
   exact nC r₂ hl (x₂.place hm) hx hf pu _ _ fun y s₃ ms₃ x₃ r₃ p₃=>hQ _ _ _ (x₁.trans (x₂.trans x₃)) r₃ p₃
  ·refine nD hl₀ F.slot_list_pop F.type_list_pop pl _ _ (mT H S r₁ (v.ext r x₁) h2 fun vs s₂ ms₂ x₂ r₂ p₂=>?_)
   subst p₂
   exact aJc r₂ hl (x₂.place hm) hx hf _ _ fun y s₃ ms₃ x₃ r₃ p₃=>hQ _ _ _ (x₁.trans (x₂.trans x₃)) r₃ p₃
 ·obtain⟨h4,rfl⟩:=yG (fun k q=>hc ⟨k,q⟩) h3
  obtain⟨id,first,hg,hm⟩:=aPz prog w A h4 ⟨_,_,S.gl.g⟩
  refine hg r₁ p₁ pl _ _ fun tk htk=>?_
  have x₁':Ext No s₁ ms₁ { s₁ with toks:=tk } ms₁:=dN htk
  refine mT H S (r₁.toks' htk) ((v.ext r x₁).ext r₁ x₁') h2 fun vs s₂ ms₂ x₂ r₂ p₂=>?_
  exact (hm r₂ ((p₁.ext x₁').ext x₂) p₂ s₂.toks (Nat.le_refl _)).acts _ _ fun y s₃ ms₃ x₃ r₃ p₃=>hQ _ _ _ (x₁.trans (x₁'.trans (x₂.trans x₃))) r₃ p₃
theorem jU {d r:D} {c z:Str} (e:replD d c z=some r):∃ l c',d=.str l∧c=⟨#[c']⟩∧(l.length+(l.length+1) * z.cps.toList.length≤16000000)∧z.cps.toList≠[c']∧r=.str (replC c' z.cps.toList l) :=
 bE (o:=strD d) e fun l hl e=>bE (o:=one c.cps.toList) e fun c' hc e=>ifS e fun h e=>⟨l,c',eY hl,by
  induction c with | mk a=>exact congrArg _ (Array.toList_inj.mp (eE hc)),aZ.mp (and2 h).1,of_decide_eq_false (no (and2 h).2),(Option.some.inj e).symm⟩
theorem sS {d x:D} {c z:Str} {t u u':Tok} {v:Value} (e:replD d c z=some x) (r:SR base ms st s) (p:Rep ms s.heap d v) (hu:u≠0) (hu':u'≠0) (huu:u≠u') :
  Makes prog w A base ms st s (call (.builtin "str.replace") [v,.str c u,.str z u']) x:=by
 obtain⟨l,c',rfl,rfl,hf,hz,rfl⟩:=jU e
 obtain⟨t,rfl⟩:=p
 refine Makes.of fun Q E hQ=>?_
 refine SC.replace hu hu' huu ?_ ?_ fun t' k=>?_
 ·rw [beq_eq_false_iff_ne]
  rintro rfl
  exact hz rfl
 ·have h1:(⟨l.toArray⟩:Str).length=l.length:=rfl
  rw [h1,(rfl:z.length=z.cps.toList.length)]; exact Nat.le_trans (by assumption) (by decide)
 ·have h1:z=⟨z.cps.toList.toArray⟩:=by cases z; simp
  have:=aAu l z.cps.toList c'
  rw [← h1] at this
  rw [this]
  exact aJ r (eX _ _ _) hQ
set_option tactic.hygienic true in
theorem aBe {i:Int} (h:small i=true):i.natAbs.log2 < 1920:=by
 have hb:=eD h
 unfold Builtin.Int.intBits at hb
 split at hb
 ·rename_i h0
  rw [(beq_iff_eq.mp h0)]; decide
 ·exact Nat.lt_of_lt_of_le (by assumption) (by decide)
theorem vF {name:Str} {args:List Expr} {c z:Str} (h:dU name args=some (c,.inl z)):name = "replace"∧∃ k p k' p',args=[.Constant (.str c) k p,.Constant (.str z) k' p'] :=
 ifS (c:=(name == "replace")=true) h fun hn h=>bE (o:=two args) h fun ke h1 h=>bE (o:=strE ke.1) h fun c' h2 h=>by
  unfold aKq at h
  cases h3:strE ke.2 with
  | some y =>
   rw [h3] at h
   cases h
   exact⟨eq_of_beq hn,_,_,_,_,by rw [jE h1,uY h2,uY h3]⟩
  | none =>
   rw [h3] at h
   exact bE h fun _ _ h=>bE h fun _ _ h=>bE h fun _ _ h=>bE h fun _ _ h=>ifS h fun _ h=>nomatch h
theorem vD {name f:Str} {fp:Pos} {args:List Expr} {c:Str} {x:Expr} (h:dU name args=some (c,.inr (f,fp,x))):name = "replace"∧∃ k p y yp p',x=.Name y yp∧args=[.Constant (.str c) k p,.Call (.Name f fp) [.Name y yp] [] p'] :=
 ifS (c:=(name == "replace")=true) h fun hn h=>bE (o:=two args) h fun ke h1 h=>bE (o:=strE ke.1) h fun c' h2 h=>by
  unfold aKq at h
  cases h3:strE ke.2 with
  | some y=>rw [h3] at h; nomatch h
  | none =>
   rw [h3] at h
   refine bE h fun q h4 h=>bE h fun f' h5 h=>bE h fun x' h6 h=>bE h fun y h7 h=>ifS (c:=q.2.2.1.isEmpty=true) h fun h8 h=>?_
   cases h
   exact⟨eq_of_beq hn,_,_,_,_,_,(gL h7).symm,by rw [jE h1,uY h2,iV h4,eE h6,List.isEmpty_iff.mp h8,← gL h5,← gL h7]⟩
theorem pJ {h:Heap} {l:List Nat} {v:Value} (p:Rep ms h (.str l) v):∃ t,v=.str ⟨l.toArray⟩ t:=by exact p
theorem xH {v':Expr} {name:Str} {apos pos:Pos} {args:List Expr} {d:D} (H:EvOk prog w G base mg mb n o) (S:Sit G base mg mb n A cx env own) (r:SR base ms st s) (v:VOk env own ms s.heap vars)
  (hk:dA v' args apos pos=true) {c z:Str} {a:D} (hr:dU name args=some (c,.inl z)) (h1:o.ev cx vars v' st=some (a,st')) (h2:replD a c z=some d) :
  Acts prog w A base ms s (eval (.Call (.Attribute v' name apos) args [] pos) env) d st':=fun Q E hQ=>by
 obtain⟨rfl,k,p,k',p',rfl⟩:=vF hr
 refine iI hk rfl (H S r v h1 _ _ fun ov s₁ ms₁ x₁ r₁ p₁ pl=>?_)
 obtain⟨l,c',rfl,rfl,hf,hz,rfl⟩:=jU h2
 obtain⟨t,rfl⟩:=pJ p₁
 refine (fun hs=>by with_reducible exact GM.replace hs:wpAny (model prog w) A (callWith pos (.builtin "str.replace") [.str ⟨l.toArray⟩ t] (backTo pos (starEach [.Constant (.str ⟨#[c']⟩) k p,.Constant (.str z) k' p'] env)) []) Q E s₁→_) ?_
 show wpAny _ _ (callWith pos _ _ [(false,eval (.Constant (.str ⟨#[c']⟩) k p) env),(false,eval (.Constant (.str z) k' p') env)] []) _ _ _
 refine bQ (kE _) rfl (evalArgs_kw rfl (Calls.spliced_cons (wpAny_Constant_str (Calls.spliced_cons (wpAny_Constant_str (Calls.spliced_nil (wpAny_evalAll_nil ?_)))))))
 have tk:=r₁.toks
 have x₂:Ext No s₁ ms₁ { s₁ with toks:=s₁.toks+1+1 } ms₁:=dN (by lia)
 have r₂:SR base ms₁ st' { s₁ with toks:=s₁.toks+1+1 }:=r₁.toks' (by lia)
 exact (sS (t:=t) h2 r₂ (p₁.ext x₂) (show s₁.toks≠0 by exact Nat.ne_of_gt (by assumption)) (show s₁.toks+1≠0 by lia) (show s₁.toks≠s₁.toks+1 by lia)).acts _ _ fun y s₃ ms₃ x₃ r₃ p₃=>hQ _ _ _ (x₁.trans (x₂.trans x₃)) r₃ p₃
theorem aFm {f i:D} {z:Str} (h:strI f i=some z):∃ j,f=.type "str"∧i=.int j∧small j=true∧z=⟨(decI j).toArray⟩ :=
 ifS h fun hf h=>bE (o:=intD i) h fun j hj h=>ifS h fun hs h=>⟨j,fS hf,aR hj,hs,(Option.some.inj h).symm⟩
theorem uV {v':Expr} {name:Str} {apos pos:Pos} {args:List Expr} {d:D} (H:EvOk prog w G base mg mb n o) (S:Sit G base mg mb n A cx env own) (r:SR base ms st s) (v:VOk env own ms s.heap vars)
  (hk:dA v' args apos pos=true) {c z f:Str} {fp:Pos} {x:Expr} {a fd i:D} {st₁ st₂:Store} (hr:dU name args=some (c,.inr (f,fp,x))) (h1:o.ev cx vars v' st=some (a,st₁)) (h2:o.ev cx vars (.Name f fp) st₁=some (fd,st₂)) (h3:o.ev cx vars x st₂=some (i,st'))
  (h4:strI fd i=some z) (h5:replD a c z=some d) :
  Acts prog w A base ms s (eval (.Call (.Attribute v' name apos) args [] pos) env) d st':=fun Q E hQ=>by
 obtain⟨rfl,k,p,y,yp,p',rfl,rfl⟩:=vD hr
 obtain⟨j,rfl,rfl,hj,rfl⟩:=aFm h4
 obtain⟨l,c',rfl,rfl,hf,hz,rfl⟩:=jU h5
 refine iI hk rfl (H S r v h1 _ _ fun ov s₁ ms₁ x₁ r₁ p₁ pl=>?_)
 obtain⟨t,rfl⟩:=pJ p₁
 refine (fun hs=>by with_reducible exact GM.replace hs:wpAny (model prog w) A (callWith pos (.builtin "str.replace") [.str ⟨l.toArray⟩ t] (backTo pos (starEach [.Constant (.str ⟨#[c']⟩) k p,.Call (.Name f fp) [.Name y yp] [] p'] env)) []) Q E s₁→_) ?_
 show wpAny _ _ (callWith pos _ _ [(false,eval (.Constant (.str ⟨#[c']⟩) k p) env),(false,eval (.Call (.Name f fp) [.Name y yp] [] p') env)] []) _ _ _
 refine bQ (kE _) rfl (evalArgs_kw rfl (Calls.spliced_cons (wpAny_Constant_str (Calls.spliced_cons ?_))))
 have tk:=r₁.toks
 have x₂:Ext No s₁ ms₁ { s₁ with toks:=s₁.toks+1 } ms₁:=dN (by exact Nat.le_succ _)
 have r₂:SR base ms₁ st₁ { s₁ with toks:=s₁.toks+1 }:=r₁.toks' (by exact Nat.le_succ _)
 refine wpAny_Call_Name_kw (H S r₂ ((v.ext r x₁).ext r₁ x₂) h2 _ _ fun fv s₃ ms₃ x₃ r₃ p₃=>?_)
 subst p₃
 refine bQ (fun a q=>by cases q) rfl (evalArgs_kw rfl (Calls.spliced_cons (H S r₃ (((v.ext r x₁).ext r₁ x₂).ext r₂ x₃) h3 _ _ fun iv s₄ ms₄ x₄ r₄ p₄=>Calls.spliced_nil (wpAny_evalAll_nil ?_))))
 obtain⟨tj,rfl⟩:=p₄
 refine P.str_of_int (aBe hj) (Calls.spliced_nil (wpAny_evalAll_nil ?_))
 have h34:s₁.toks+1≤s₄.toks:=Nat.le_trans x₃.toks x₄.toks
 have x₅:Ext No s₄ ms₄ { s₄ with toks:=s₄.toks+1 } ms₄:=dN (by exact Nat.le_succ _)
 have r₅:SR base ms₄ st' { s₄ with toks:=s₄.toks+1 }:=r₄.toks' (by exact Nat.le_succ _)
 have p₅:=(((p₁.ext x₂).ext x₃).ext x₄).ext x₅
 rw [xN]
 exact (sS (t:=t) h5 r₅ p₅ (show s₁.toks≠0 by exact Nat.ne_of_gt (by assumption)) (show s₄.toks≠0 by lia) (show s₁.toks≠s₄.toks by exact Nat.ne_of_lt (by assumption))).acts _ _ fun y s₆ ms₆ x₆ r₆ p₆=>hQ _ _ _ (x₁.trans (x₂.trans (x₃.trans (x₄.trans (x₅.trans x₆))))) r₆ p₆
theorem aKk {v':Expr} {name:Str} {apos pos:Pos} {args:List Expr} {ks:List Keyword} {d:D} (H:EvOk prog w G base mg mb n o) (S:Sit G base mg mb n A cx env own) (r:SR base ms st s) (v:VOk env own ms s.heap vars)
  (e:stepEv G o cx vars (.Call (.Attribute v' name apos) args ks pos) st=some (d,st')):Acts prog w A base ms s (eval (.Call (.Attribute v' name apos) args ks pos) env) d st':=by
 induction ks using List.casesOn with
 | cons k ks=>exact nn e
 | nil =>
  refine ifS (c:=dA v' args apos pos=true) e fun hk e=>?_
  cases hr:dU name args with
  | none =>
   rw [hr] at e
   exact bF (o:=o.ev cx vars v' st) e fun a st₁ h1 e=>ifS (c:=mA st₁ a=true) e fun hck e=>bF (o:=evs o cx vars args st₁) e fun ds st₂ h2 h3=>zT H S r v hk h1 hck h2 h3
  | some q =>
   rw [hr] at e
   obtain⟨c,z | ⟨f,fp,x⟩⟩:=q
   ·exact bF (o:=o.ev cx vars v' st) e fun a st₁ h1 e=>bE (o:=replD a c z) e fun x h2 e=>ret2 (a:=x) (b:=st₁) e (xH H S r v hk hr h1 h2)
   ·exact bF (o:=o.ev cx vars v' st) e fun a st₁ h1 e=>bF (o:=o.ev cx vars (.Name f fp) st₁) e fun fd st₂ h2 e=>bF (o:=o.ev cx vars x st₂) e fun i st₃ h3 e=>bE (o:=strI fd i) e fun z h4 e=>bE (o:=replD a c z) e fun x h5 e=>ret2 (a:=x) (b:=st₃) e (uV H S r v hk hr h1 h2 h3 h4 h5)
end
end Mine
end
section -- S13
open PySem PyProof.Rows PySem.SeqAt
namespace Mine
section
variable {prog:Program} {w:World} {A:Around} {s:Shared} {base:Base} {ms:List Addr} {st st':Store} {cx:Cx} {env:Env} {own:List Addr} {vars:Vars} {G:Gx} {mg mb:Str→Option Value} {n:Nat} {o:Ops}
theorem aPx {s:Shared} {ms:List Addr} {h:Heap} {tk:Nat} {a:Addr} (ht:s.toks≤tk) (ha:s.heap.objs.size≤a) (hz:s.heap.objs.size≤h.objs.size) (hk:Heap.ExtBut a s.heap h):Ext No s ms { s with heap:=h,toks:=tk } ms :=
 gF ht hz (fun b o e=>hk b o (Nat.ne_of_lt (Nat.lt_of_lt_of_le (Heap.lt_size e) ha)) e)
theorem SR.but (r:SR base ms st s) {h:Heap} {tk:Nat} {a:Addr} (ht:s.toks≤tk) (ha:s.heap.objs.size≤a) (hz:s.heap.objs.size≤h.objs.size) (hk:Heap.ExtBut a s.heap h):SR base ms st { s with heap:=h,toks:=tk } :=
 r.heap' ht hz (fun b o e=>hk b o (Nat.ne_of_lt (Nat.lt_of_lt_of_le (Heap.lt_size e) ha)) e)
theorem iW {d:D} {ds:List D} {v:Value} (hd:d=.list ds∨d=.tuple ds) (ha:AOk n A) (r:SR base ms st s) (p:Rep ms s.heap d v) (Q:List Value→Shared→Prop) (E:Value→Shared→Prop)
  (hQ:∀ vs s',Ext No s ms s' ms→SR base ms st s'→Reps ms s'.heap ds vs→Q vs s'):wpAny (model prog w) A (unpackItems v ds.length none) Q E s:=by
 have fin:∀ (vs:List Value) h,Reps ms s.heap ds vs→s.heap.objs.size≤h.objs.size→Heap.ExtBut s.heap.objs.size s.heap h→Q vs { s with heap:=h }:=fun vs h pv hz hk=>by
  have x:Ext No s ms { s with heap:=h,toks:=s.toks } ms:=aPx (Nat.le_refl _) (Nat.le_refl _) hz hk
  exact hQ vs _ x (r.but (Nat.le_refl _) (Nat.le_refl _) hz hk) (pv.ext x)
 refine aM ?_
 rcases hd with rfl | rfl
 ·obtain⟨a,vs,rfl,_,hl,hr⟩:=aO p
  rw [(by simp [hr.length]:ds.length=vs.toArray.size)]
  exact PySem.W.kun_itemsOf ha.handled hl fun h' hk=>fun _ hz=>fin vs h' hr hz hk
 ·skip
  obtain⟨a,vs,rfl,_,hl,hr⟩:=p
  rw [(by simp [hr.length]:ds.length=vs.toArray.size)]
  exact wpAny_unpackItems_tuple ha.handled hl fun h' hk=>fun _ hz=>fin vs h' hr hz hk
theorem qN {t:Expr} {ts:List Expr} {ds:List D} {vars':Vars} {P:Prop} (e:asgs o cx vars (t::ts) ds st=some (vars',st')) (k:∀ d ds' v1 st1,ds=d::ds'→o.asg cx vars t d st=some (v1,st1)→asgs o cx v1 ts ds' st1=some (vars',st')→P):P:=by
 induction ds using List.casesOn with
 | nil=>exact nn e
 | cons d ds'=>exact bF (o:=o.asg cx vars t d st) e fun v1 st1 h1 h2=>k d ds' v1 st1 rfl h1 h2
theorem yC {ds:List D} {vars':Vars} (e:asgs o cx vars [] ds st=some (vars',st')):ds=[]∧vars=vars'∧st=st':=by
 induction ds using List.casesOn with
 | nil=>have q:=Prod.mk.inj (Option.some.inj (show some (vars,st)=_ from e)); exact⟨rfl,q.1,q.2⟩
 | cons=>exact nn e
theorem aNg (ts:List Expr):∀ (ds:List D) {vars vars':Vars} {st st':Store},asgs o cx vars ts ds st=some (vars',st')→ts.length=ds.length:=by
 induction ts with
 | nil=>exact fun ds _ _ _ _ e=>(yC e).1▸rfl
 | cons t ts ih=>exact fun ds _ _ _ _ e=>qN e fun d ds' v1 st1 hd _ h2=>by rw [hd]; exact congrArg Nat.succ (ih ds' h2)
noncomputable def cD (o:Ops):Prop:=∀ cx vars e p d st,o.asg cx vars (.Starred e p) d st=none
theorem iG {t:Expr} {ts:List Expr} (h:∀ e p,t≠.Starred e p):assignEach (t::ts) env=(false,assign t env)::assignEach ts env:=by
 induction t using PySem.Expr.casesOn with
 | Starred e p=>exact absurd rfl (h e p)
 | _=>rfl
theorem jQ {t:Expr} {ts:List Expr} {d:D} {r:Vars×Store} (hns:cD o) (h1:o.asg cx vars t d st=some r):assignEach (t::ts) env=(false,assign t env)::assignEach ts env :=
 iG fun e p q=>by subst q; rw [hns] at h1; exact nn h1
theorem aGb (hns:cD o) (ts:List Expr):∀ (ds:List D) {vars vars':Vars} {st st':Store},asgs o cx vars ts ds st=some (vars',st')→(assignEach ts env).findIdx? (·.1)=none∧(assignEach ts env).length=ts.length:=by
 induction ts with
 | nil=>exact fun _ _ _ _ _ _=>⟨rfl,rfl⟩
 | cons t ts ih =>
  refine fun ds _ _ _ _ e=>qN e fun d ds' v1 st1 hd h1 h2=>?_
  rw [jQ hns h1]
  exact⟨by rw [List.findIdx?_cons,(ih ds' h2).1]; rfl,congrArg Nat.succ (ih ds' h2).2⟩
theorem aId (H:eN prog w G base mg mb n o) (hns:cD o) (S:Sit G base mg mb n A cx env own) (ts:List Expr):∀ (ds:List D) {vars vars':Vars} {vs:List Value} {st st':Store} {s:Shared} {ms:List Addr},SR base ms st s→VOk env own ms s.heap vars→Reps ms s.heap ds vs →
  asgs o cx vars ts ds st=some (vars',st')→Stores prog w base A env own ms s (assignInOrder ((assignEach ts env).map (·.2)) vs) vars' st':=by
 induction ts with
 | nil =>
  intro ds vars vars' vs st st' s ms r v p e
  obtain⟨rfl,rfl,rfl⟩:=yC e
  cases (show vs=[] from p)
  exact fun Q E hQ=>wpAny_pure (hQ _ _ ((Ext.refl _ _).ofNo v.wk) r v)
 | cons t ts ih =>
  intro ds vars vars' vs st st' s ms r v p e
  refine qN e fun d ds' v1 st1 hd h1 h2 Q E hQ=>?_
  subst hd
  obtain⟨u,us,rfl,pu,pus⟩:=p
  rw [jQ hns h1]
  exact wpAny_bind (wpAny_holding (H S r v pu h1 _ _ fun s₁ ms₁ x₁ r₁ v₁=>ih ds' r₁ v₁ (pus.ext x₁) h2 _ _ fun s₂ ms₂ x₂ r₂ v₂=>hQ _ _ (x₁.trans x₂) r₂ v₂))
theorem aAd {ts:List Expr} {d:D} {ds:List D} {v:Value} {vars':Vars} (H:eN prog w G base mg mb n o) (hns:cD o) (S:Sit G base mg mb n A cx env own) (r:SR base ms st s) (vk:VOk env own ms s.heap vars) (hd:d=.list ds∨d=.tuple ds) (p:Rep ms s.heap d v)
  (e:asgs o cx vars ts ds st=some (vars',st')):Stores prog w base A env own ms s (unpack v (assignEach ts env)) vars' st':=fun Q E hQ=>by
 obtain⟨h1,h2⟩:=aGb (env:=env) hns ts ds e
 unfold unpack
 rw [h1,h2,(aNg ts ds e)]
 refine wpAny_bind (wpAny_holding (iW hd S.ar r p _ _ fun vs s₁ x₁ r₁ p₁=>?_))
 exact aId H hns S ts ds r₁ (vk.ext r x₁) p₁ e _ _ fun s₂ ms₂ x₂ r₂ v₂=>hQ _ _ ((x₁.ofNo vk.wk).trans x₂) r₂ v₂
theorem aNu {d:D} {l:List D} (h:seqD d=some l):d=.list l∨d=.tuple l:=by
 induction d using D.casesOn with
 | list x=>exact .inl (congrArg _ (Option.some.inj h))
 | tuple x=>exact .inr (congrArg _ (Option.some.inj h))
 | _=>exact nn h
theorem aQl {t:Expr} {d:D} {v:Value} {vars':Vars} (HE:EvOk prog w G base mg mb n o) (H:eN prog w G base mg mb n o) (hns:cD o) (S:Sit G base mg mb n A cx env own) (r:SR base ms st s) (vk:VOk env own ms s.heap vars) (p:Rep ms s.heap d v)
  (e:aCv o cx vars t d st=some (vars',st')):Stores prog w base A env own ms s (assign t env v) vars' st':=by
 induction t using PySem.Expr.casesOn with
 | Name x pos =>
  refine ifS (c:=stored cx x=true) e fun hx e=>ret2 (a:=vset x d vars) (b:=st) e fun Q E hQ=>?_
  rw [arm_assign_Name]
  exact wpAny_bind (wpAny_standAt (wpAny_bindName (pD S.en r vk hx p _ _ fun s₁ x₁ r₁ v₁=>hQ _ _ x₁ r₁ v₁)))
 | Tuple ts k pos =>
  refine bE (o:=seqD d) e fun ds hd e Q E hQ=>?_
  rw [arm_assign_Tuple]
  exact wpAny_bind (wpAny_standAt (aAd H hns S r vk (aNu hd) p e _ _ hQ))
 | Subscript v' i pos =>
  refine bF (o:=o.ev cx vars v' st) e fun c st₁ h1 e=>bF (o:=o.ev cx vars i st₁) e fun j st₂ h2 e=>bE (o:=nG c) e fun k hk e=>bE (o:=intD j) e fun j' hj e=>bE (o:=look st₂ k) e fun l hl e=>bE (o:=place l.length j') e fun pp hp e=>ifS (c:=noCell d=true) e fun hc e=>ret2 (a:=vars) (b:=st₂.set k (l.set pp d)) e fun Q E hQ=>?_
  rw [zB hk] at h1
  rw [aR hj] at h2
  rw [arm_assign_Subscript]
  refine wpAny_bind (wpAny_holding (HE S r vk h1 _ _ fun ov s₁ ms₁ x₁ r₁ p₁=>wpAny_bind (wpAny_holding (HE S r₁ (vk.ext r x₁) h2 _ _ fun iv s₂ ms₂ x₂ r₂ p₂=>wpAny_bind (wpAny_standAt (wpAny_bind (wpAny_holding ?_)))))))
  obtain⟨a,rfl,hm⟩:=(p₁.ext x₂)
  exact aIf r₂ hl hm hp hc ((p.ext x₁).ext x₂) p₂ _ _ fun s₃ x₃ r₃=>wpAny_release (hQ _ _ ((x₁.trans (x₂.trans x₃)).ofNo vk.wk) r₃ (((vk.ext r x₁).ext r₁ x₂).ext r₂ x₃))
 | _=>exact nn e
end
end Mine
end
section -- S14
open PySem PyProof.Rows PySem.SeqAt
namespace Mine
noncomputable def holders:List String:=["enumerate","zip","dict_itemiterator","dict_reverseitemiterator","odict_iterator","itertools.zip_longest","itertools.pairwise"]
set_option genInjectivity false in
structure Src (prog:Program) (w:World) (A:Around) (base:Base) (ms:List Addr) (s:Shared) (I:Addr) (ds:List D) (fp:List Addr) (P:Nat→Value→Prop) (St:Nat→Heap→Prop) (k:Nat):Prop where
 walks:Walks prog w A I fp [I] ds.length P St
 st:St k s.heap
 items:∀ i v,i < ds.length→P i v→∃ d,ds[i]? = some d∧Rep ms s.heap d v
 fp:∀ b∈fp,b=I∨(b∉ms∧∃ o,s.heap.get? b=some o∧isSeqData o)
 away:I∉ms
 nonseq:∀ i h,St i h→∃ o,h.get? I=some o∧¬ isSeqData o∧∃ c,o.cls=.type c∧holders.contains c=false∧∃ vs,o.data=.fields vs
 new:base.get? I=none
section
variable {prog:Program} {w:World} {A:Around} {s:Shared} {base:Base} {ms:List Addr} {st st':Store} {cx:Cx} {env:Env} {own:List Addr} {vars:Vars} {G:Gx} {mg mb:Str→Option Value} {n:Nat} {o:Ops}
variable {I:Addr} {ds:List D} {fp:List Addr} {P:Nat→Value→Prop} {St:Nat→Heap→Prop} {k:Nat}
theorem Src.ext {W:Addr→Prop} {s':Shared} {ms':List Addr} (h:Src prog w A base ms s I ds fp P St k) (x:Ext W s ms s' ms') (hw:¬ W I):Src prog w A base ms' s' I ds fp P St k:=by
 obtain⟨o,ho,hn,_⟩:=h.nonseq _ _ h.st
 refine⟨h.walks,h.walks.frame _ _ _ h.st (fun b hb o' e=>?_),fun i v hi hp=>?_,fun b hb=>?_,x.away h.away ho,h.nonseq,h.new⟩
 ·rcases h.fp b hb with rfl | ⟨h1,o₂,h2,h3⟩
  ·have ⟨o₃,ho₃,_,c₃,_,_,v₃,hd₃⟩:=h.nonseq _ _ h.st
   rw [e] at ho₃; cases ho₃
   exact (x.keep _ _ h.away hw e).exact (noFr hd₃ (by intro _ _ q; cases q))
  ·rw [h2] at e; cases e
   exact (x.get h1 h3 h2).2
 ·obtain⟨d,hd,pd⟩:=h.items i v hi hp
  exact⟨d,hd,pd.ext x⟩
 ·rcases h.fp b hb with rfl | ⟨h1,o₂,h2,h3⟩
  ·exact .inl rfl
  ·exact .inr ⟨(x.get h1 h3 h2).1,o₂,(x.get h1 h3 h2).2,h3⟩
theorem dB (r:SR base ms st s) {a:Addr} (ha:s.heap.objs.size≤a):base.get? a=none:=by
 cases e:base.get? a with
 | none=>rfl
 | some o=>exact absurd (r.lt e) (Nat.not_lt.mpr ha)
theorem jS {h:Heap} {a:Addr} {o:Obj} {c:String} {vs} (e:h.get? a=some o) (hc:o.cls=.type c) (hd:o.data=.fields vs) (hne:c≠"range") (hh:holders.contains c=false):∃ o,h.get? a=some o∧¬ isSeqData o∧∃ c,o.cls=.type c∧holders.contains c=false∧∃ vs,o.data=.fields vs :=
 ⟨o,e,fun q=>by
  rcases q with ⟨_,_,q⟩ | ⟨q,_⟩
  ·rw [hd] at q; cases q
  ·rw [hc] at q; cases q; exact hne rfl,c,hc,hh,vs,hd⟩
theorem uZ {a b:Int} (ha:small a=true) (hb:small b=true):Builtin.Range.small a b 1=true:=by
 rw [mX] at ha hb
 exact small_one (by lia) (by omega) (by lia) (by omega)
theorem uM {a b:Int} (ha:small a=true) (hb:small b=true):Builtin.Range.small a b (-1)=true:=by
 rw [mX] at ha hb
 unfold Builtin.Range.small Builtin.Range.rangeFitsLong Builtin.Range.rangeSize
 simp
 split <;> omega
theorem yL (a b:Int):Builtin.Range.rangeSize a b (-1)=((a - b).toNat:Int):=by
 unfold Builtin.Range.rangeSize
 simp
 split <;> lia
theorem yY (a b:Int):Builtin.Range.rangeSize a b 1=((b - a).toNat:Int):=by
 rw [rangeSize_one]; split <;> lia
theorem tZ {d:D} {v:Value} (e:drawn d=some ds) (ha:AOk n A) (r:SR base ms st s) (p:Rep ms s.heap d v) (Q:Value→Shared→Prop) (E:Value→Shared→Prop)
  (hQ:∀ I s₁ fp P St,Ext No s ms s₁ ms→SR base ms st s₁→s.heap.objs.size≤I→Src prog w A base ms s₁ I ds fp P St 0→Q (.ref I) s₁):wpAny (model prog w) A (pyIter v) Q E s:=by
 have hnew:=dB r (Nat.le_refl s.heap.objs.size)
 have hx:∀ ob,Ext No s ms { s with heap:=s.heap.push ob,toks:=s.toks } ms:=fun ob=>dQ (s:=s) ob (Nat.le_refl _) (fun _ _ f=>f.elim)
 induction d using D.casesOn with
 | list =>
  cases Option.some.inj e
  obtain⟨a,vs,rfl,hm,hl,hr⟩:=aO p
  have hne:a≠s.heap.objs.size:=by obtain⟨o,ho,_⟩:=hl; exact Nat.ne_of_lt (Heap.lt_size ho)
  refine wpAny_pyIter_list hl ?_
  refine hQ s.heap.objs.size _ [s.heap.objs.size,a] (fun i v=>vs.toArray[i]? = some v) (fun i h=>h.IsListIter s.heap.objs.size a i∧h.IsList a vs.toArray) (hx _) (r.push _ (Nat.le_refl _)) (Nat.le_refl _) ?_
  refine⟨?_,⟨⟨_,Heap.get?_push_size _ rfl,rfl,rfl⟩,hl.push _⟩,?_,?_,dS r,?_,hnew⟩
  ·have:=Walks.list (prog:=prog) (w:=w) ha.handled s.heap.objs.size a hne vs.toArray
   simp only [List.size_toArray,hr.length] at this
   exact this
  ·intro i v hi hp
   have hi':i < vs.length:=by rw [hr.length]; exact hi
   obtain⟨v',hv',pv⟩:=hr.get (List.getElem?_eq_getElem hi)
   simp only [List.getElem?_toArray] at hp
   rw [hp] at hv'; cases hv'
   exact⟨_,List.getElem?_eq_getElem hi,pv.ext (hx _)⟩
  ·intro b hb
   simp only [List.mem_cons,List.not_mem_nil,or_false] at hb
   rcases hb with rfl | rfl
   ·exact .inl rfl
   ·obtain⟨o,ho,hc,nn,hd⟩:=hl
    exact .inr ⟨hm,o,Heap.get?_push_of_some _ ho,isSeqData_seq hd⟩
  ·rintro i h ⟨⟨o,ho,hc,hd⟩,_⟩
   exact jS ho hc hd (by decide) (by decide)
 | bytes =>
  cases Option.some.inj e
  obtain⟨b,t,rfl,rfl⟩:=p
  refine PySem.W.KBw.pyIter_bytes ?_
  refine hQ s.heap.objs.size _ [s.heap.objs.size] (fun i v=>∃ c u,b[i]? = some c∧v=.int (c.toNat:Int) u) (fun i h=>PySem.W.KBw.IsBytesIter h s.heap.objs.size b t i) (hx _) (r.push _ (Nat.le_refl _)) (Nat.le_refl _) ?_
  refine⟨?_,⟨_,Heap.get?_push_size _ rfl,rfl,rfl⟩,?_,fun b hb=>.inl (by simpa using hb),dS r,?_,hnew⟩
  ·have:=PySem.W.KBw.walks (prog:=prog) (w:=w) ha.handled s.heap.objs.size b t
   simp only [List.length_map,Array.length_toList]
   exact this
  ·rintro i v hi ⟨c,u,hc,rfl⟩
   have hc':b.toList[i]? = some c:=by simpa using hc
   exact⟨.int (c.toNat:Int),by simp [hc'],cP _ _ _⟩
  ·rintro i h ⟨o,ho,hc,hd⟩
   exact jS ho hc hd (by decide) (by decide)
 | range a b c =>
  refine ifS e fun hs e=>?_
  cases Option.some.inj e
  have hs:=(and2 hs).imp_left and2
  obtain⟨rg,t,u,w',rfl,hm,hrg⟩:=p
  have hcc:c=1∨c=-1:=by have:=hs.2; unfold aAb at this; simpa using this
  have hsm:Builtin.Range.small a b c=true:=by
   rcases hcc with rfl | rfl
   ·exact uZ hs.1.1 hs.1.2
   ·exact uM hs.1.1 hs.1.2
  have hsz:Builtin.Range.rangeSize a b c=(((bV a b c).map D.int).length:Int):=by
   rcases hcc with rfl | rfl
   ·rw [yY]; simp [bV]
   ·rw [yL]; simp [bV]
  have hit:∀ i,i < ((bV a b c).map D.int).length→((bV a b c).map D.int)[i]? = some (.int (a+i * c)):=fun i hi=>by
   rcases hcc with rfl | rfl
   ·simp only [bV,beq_self_eq_true,if_true,List.length_map,List.length_range] at hi
    simp [bV,hi]
   ·simp [bV] at hi
    simp [bV,hi]; rfl
  generalize ((bV a b c).map D.int)=l at hsz hit hQ
  refine wpAny_pyIter_range hrg hsm ?_
  refine hQ s.heap.objs.size _ [s.heap.objs.size] (fun i v=>∃ t,v=.int (a+i * c) t) (fun i h=>IsRangeIter h s.heap.objs.size (a+(i:Nat) * c) ((l.length:Int) - (i:Nat)) c) (hx _) (r.push _ (Nat.le_refl _)) (Nat.le_refl _) ?_
  refine⟨Walks.range ha.handled s.heap.objs.size a c l.length,?_,?_,fun b hb=>.inl (by simpa using hb),dS r,?_,hnew⟩
  ·show IsRangeIter _ _ (a+((0:Nat):Int) * c) ((l.length:Int) - ((0:Nat):Int)) c
   rw [hsz]
   simp only [Int.natCast_zero,Int.zero_mul,Int.add_zero,Int.sub_zero]
   exact Heap.get?_push_size _ rfl
  ·rintro i v hi ⟨t,rfl⟩
   exact⟨_,hit i hi,cP _ _ _⟩
  ·intro i h hi
   exact jS hi rfl rfl (by decide) (by decide)
 | _=>exact nn e
theorem SR.atI {h:Heap} {tk:Nat} (r:SR base ms st s) (hI:Src prog w A base ms s I ds fp P St k) (ht:s.toks≤tk) (hz:s.heap.objs.size≤h.objs.size) (hk:∀ b o,b∉[I]→s.heap.get? b=some o→h.get? b=some o) :
  Ext (·=I) s ms { s with heap:=h,toks:=tk } ms∧SR base ms st { s with heap:=h,toks:=tk }:=by
 have x:Ext (·=I) s ms { s with heap:=h,toks:=tk } ms:=⟨rfl,rfl,ht,hz,fun _ _ e=>e,fun _ q=>.inl q,fun b o hb hw e=>.of (hk b o (by simpa using hw) e),fun a o ha e=>by
  subst ha
  obtain⟨o',ho',hn,_⟩:=hI.nonseq _ _ hI.st
  rw [e] at ho'; cases ho'; exact hn⟩
 refine⟨x,r.ext x (fun a ha=>by subst ha; exact hI.new) (fun a ha o e=>hk a o (fun q=>?_) e) (fun a o hb e=>hk a o (fun q=>by
  simp only [List.mem_cons,List.not_mem_nil,or_false] at q
  rw [q,hI.new] at hb; exact nn hb) e) (fun L hL hW=>by
  subst hW
  obtain⟨o',ho',_,_,_,_,vs,hd⟩:=hI.nonseq _ _ hI.st
  obtain⟨_,o'',ho'',hf⟩:=r.frs L hL
  rw [ho'] at ho''; cases ho''
  exact absurd hf (noFr hd (by intro _ _ q; cases q)))⟩
 simp only [List.mem_cons,List.not_mem_nil,or_false] at q
 subst q
 exact hI.away ha
theorem aBr (hI:Src prog w A base ms s I ds fp P St k) (hk:k < ds.length) (r:SR base ms st s) (Q:Option Value→Shared→Prop) (E:Value→Shared→Prop)
  (hQ:∀ v d s',ds[k]? = some d→Ext (·=I) s ms s' ms→SR base ms st s'→Src prog w A base ms s' I ds fp P St (k+1)→Rep ms s'.heap d v→Q (some v) s'):wpAny (model prog w) A (pyNext (.ref I)) Q E s:=by
 refine aM (hI.walks.item k s _ _ hk hI.st fun v h' tk hp hst hkeep ht hz=>?_)
 obtain⟨x,r'⟩:=r.atI hI ht hz hkeep
 obtain⟨d,hd,pd⟩:=hI.items k v hk hp
 refine hQ v d _ hd x r' ⟨hI.walks,hst,fun i v hi hp=>?_,fun b hb=>?_,hI.away,hI.nonseq,hI.new⟩ (pd.ext x)
 ·obtain⟨d,hd,pd⟩:=hI.items i v hi hp
  exact⟨d,hd,pd.ext x⟩
 ·rcases hI.fp b hb with rfl | ⟨h1,o₂,h2,h3⟩
  ·exact .inl rfl
  ·exact .inr ⟨(x.get h1 h3 h2).1,o₂,(x.get h1 h3 h2).2,h3⟩
theorem aIs (hI:Src prog w A base ms s I ds fp P St ds.length) (r:SR base ms st s) (Q:Option Value→Shared→Prop) (E:Value→Shared→Prop)
  (hQ:∀ s',Ext (·=I) s ms s' ms→SR base ms st s'→Q none s'):wpAny (model prog w) A (pyNext (.ref I)) Q E s:=by
 refine aM (hI.walks.done s _ _ hI.st fun h' tk hkeep ht hz=>?_)
 obtain⟨x,r'⟩:=r.atI hI ht hz hkeep
 exact hQ _ x r'
end
end Mine
end
section -- S15
open PySem PyProof.Rows PySem.SeqAt
namespace Mine
section
variable (prog:Program) (w:World) (G:Gx) (base:Base) (mg mb:Str→Option Value) (n:Nat) (o:Ops)
noncomputable def WrI (env:Env) (own:List Addr) (I:Addr):Addr→Prop:=fun a=>Wr env own a∨a=I
noncomputable def cZ:Prop:=∀ {A:Around} {cx:Cx} {env:Env} {own:List Addr} {vars vars':Vars} {ms:List Addr} {st st':Store} {s:Shared} {elt:Expr} {gens:List Comprehension} {src:D} {acc:Nat},
 Sit G base mg mb n A cx env own→SR base ms st s→VOk env own ms s.heap vars→o.comp cx elt gens src vars st acc=some (vars',st')→∃ ds,drawn src=some ds∧(∀ g∈gens.head?,g.is_async=0) ∧
  ∀ {all:List Comprehension} {scope:Scope} {pos:Pos} {depth:Nat} {I D:Addr} {fp:List Addr} {P:Nat→Value→Prop} {St:Nat→Heap→Prop} {R:Result→Shared→Prop},all.drop depth=gens→ms[acc]? = some D →
   Src prog w A base ms s I ds fp P St 0→¬ Wr env own I→(∀ s' ms',Ext (WrI env own I) s ms s' ms'→SR base ms' st' s'→VOk env own ms' s'.heap vars'→R (.ok .next) s') →
   codeAny (model prog w) A (.compStart (.ListComp elt all scope pos) depth (.ref I) (.ref D) env) R s
end
section
variable {prog:Program} {w:World} {A:Around} {s:Shared} {base:Base} {ms:List Addr} {st st':Store} {cx:Cx} {env:Env} {own:List Addr} {vars:Vars} {G:Gx} {mg mb:Str→Option Value} {n:Nat} {o:Ops}
variable {I:Addr} {ds:List D} {fp:List Addr} {P:Nat→Value→Prop} {St:Nat→Heap→Prop} {k:Nat}
theorem nO {t:Expr} {v:Value} {Q:Unit→Shared→Prop} {E:Value→Shared→Prop} {o:Obj} {c:String} {vs:Array Value} (ho:s.heap.get? I=some o) (hc:o.cls=.type c)
  (hn:holders.contains c=false) (hd:o.data=.fields vs) (hQ:Q () s):wpAny (model prog w) A (letOwnedTupleGo t (.ref I) v) Q E s:=by
 have key:wpAny (model prog w) A (letOwnedTupleGo (.Tuple [] 0 ⟨0,0,0,0⟩) (.ref I) v) Q E s:=by
  unfold letOwnedTupleGo
  induction v with
  | ref a =>
   refine wpAny_bind (wpAny_load ho ?_)
   rw [hc,hd]
   exact wpAny_of_eq (if_neg fun q=>Bool.false_ne_true (hn.symm.trans (and2 q).1)) hQ
  | _=>exact wpAny_pure hQ
 induction t using PySem.Expr.casesOn with
 | Tuple=>exact key
 | List=>exact key
 | _=>exact wpAny_pure hQ
theorem wkI (v:VOk env own ms s.heap vars) (hI:Src prog w A base ms s I ds fp P St k):∀ a o,WrI env own I a→s.heap.get? a=some o→¬ isSeqData o:=fun a o hw e=>by
 rcases hw with hw | rfl
 ·exact v.wk a o hw e
 ·obtain⟨o',ho',hn,_⟩:=hI.nonseq _ _ hI.st
  rw [e] at ho'; cases ho'; exact hn
theorem VOk.extI (v:VOk env own ms s.heap vars) (r:SR base ms st s) (hI:Src prog w A base ms s I ds fp P St k) {s':Shared} (x:Ext (·=I) s ms s' ms):VOk env own ms s'.heap vars:=by
 obtain⟨oI,hoI,_,_,_,_,vI,hdI⟩:=hI.nonseq _ _ hI.st
 have kc:∀ c v,s.heap.IsCell c v→s'.heap.IsCell c v:=fun c v hc=>by
  obtain⟨o,ho,hd⟩:=dM hc
  obtain⟨o',ho',hd'⟩:=hc
  rw [ho] at ho'; cases ho'
  refine mQ ⟨o,ho,hd'⟩ fun o₂ e₂=>x.keep c o₂ (by rw [ho] at e₂; cases e₂; exact r.no_dict ho hd) (fun q=>?_) e₂
  subst q
  rw [hoI] at ho; cases ho
  rw [hdI] at hd'; cases hd'
 refine⟨?_,fun y d hy hk=>?_,fun c hc=>?_⟩
 ·obtain⟨m,hn,hm⟩:=v.ns
  obtain⟨o,ho,hd⟩:=cL hn
  refine⟨m,?_,fun y d hy hk=>?_⟩
  ·refine ns_kept hn fun o₂ e₂=>x.keep _ o₂ (by rw [ho] at e₂; cases e₂; exact r.no_dict ho hd) (fun q'=>?_) e₂
   obtain⟨o',es,ep,ho',q⟩:=hn
   rw [ho] at ho'; cases ho'
   rw [q',hoI] at ho; cases ho
   rw [hdI] at q; cases q.1
  ·obtain⟨u,hu,pu⟩:=hm y d hy hk
   exact⟨u,hu,pu.ext x⟩
 ·obtain⟨c,u,h1,h2,h3⟩:=v.cel y d hy hk
  exact⟨c,u,h1,kc _ _ h2,h3.ext x⟩
 ·obtain⟨u,hu⟩:=v.own c hc
  exact⟨u,kc _ _ hu⟩
theorem wH {α:Type} {l:List α} {k:Nat} {d:α} (h:k < l.length) (hd:l[k]? = some d):l.drop k=d::l.drop (k+1):=by
 rw [List.drop_eq_getElem_cons h,Option.some.inj ((List.getElem?_eq_getElem h).symm.trans hd)]
theorem oB:∀ a,Wr env own a→WrI env own I a:=fun a h=>.inl h
theorem aBy:∀ a,a=I→WrI env own I a:=fun a h=>.inr h
theorem iS (A:Around):A.mark none=A:=by cases A; rfl
theorem aLp {es:List Expr} {Q:Bool→Shared→Prop} {E:Value→Shared→Prop} (h:Q false s):wpAny (model prog w) A (forIn es false fun c r=>if r=true then do let ok ← isTrue c env (eval c env); pure (ForInStep.yield ok) else pure (ForInStep.yield r)) Q E s:=by
 induction es with
 | nil=>exact wpAny_pure h
 | cons y l ih=>rw [List.forIn_cons,if_neg Bool.false_ne_true]; exact wpAny_bind (wpAny_pure ih)
theorem aQv (HT:TrOk prog w G base mg mb n o) (S:Sit G base mg mb n A cx env own) (es:List Expr):∀ {b:Bool} {st st':Store} {s:Shared} {ms:List Addr},SR base ms st s→VOk env own ms s.heap vars →
  ifsT o cx vars es st=some (b,st')→gQ prog w base A ms s (forIn es true fun c r=>if r=true then do let ok ← isTrue c env (eval c env); pure (ForInStep.yield ok) else pure (ForInStep.yield r)) b st':=by
 induction es with
 | nil=>exact fun r v e=>ret2 (a:=true) e fun Q E hQ=>wpAny_pure (hQ _ _ (Ext.refl _ _) r)
 | cons x es ih =>
  intro b st st' s ms r v e
  refine bF (o:=o.tr cx vars x st) e fun c st₁ h1 h2=>?_
  rw [List.forIn_cons,if_pos rfl]
  cases c
  ·exact ret2 (a:=false) (b:=st₁) h2 fun Q E hQ=>wpAny_bind (wpAny_bind (HT S r v h1 _ _ fun s₁ ms₁ x₁ r₁=>wpAny_pure (aLp (hQ _ _ x₁ r₁))))
  ·exact fun Q E hQ=>wpAny_bind (wpAny_bind (HT S r v h1 _ _ fun s₁ ms₁ x₁ r₁=>wpAny_pure (ih r₁ (v.ext r x₁) h2 _ _ fun s₂ ms₂ x₂ r₂=>hQ _ _ (x₁.trans x₂) r₂)))
theorem Ext.forget {s₁ s₂:Shared} {ms₂:List Addr} (x₁:Ext No s ms s₁ ms) (x₂:Ext (WrI env own I) s₁ ms s₂ ms₂) (hI:s.heap.objs.size≤I) (hwk:∀ a o,Wr env own a→s.heap.get? a=some o→¬ isSeqData o):Ext (Wr env own) s ms s₂ ms₂ :=
 ⟨x₂.gens.trans x₁.gens,x₂.os.trans x₁.os,Nat.le_trans x₁.toks x₂.toks,Nat.le_trans x₁.size x₂.size,x₂.pre,fun a ha=>(x₂.fresh a ha).imp id (fun h=>Nat.le_trans x₁.size h),
  fun a ob ha hw e=>by
   obtain⟨o₁,e₁,s₁⟩:=x₁.keep a ob ha (fun f=>f) e
   obtain⟨o₂,e₂,s₂⟩:=x₂.keep a o₁ ha (fun q=>q.elim hw (fun q=>by subst q; exact absurd (Heap.lt_size e) (Nat.not_lt.mpr hI))) e₁
   exact⟨o₂,e₂,s₁.trans s₂⟩,hwk⟩
theorem eU (v:VOk env own ms s.heap vars) (hI:s.heap.objs.size≤I):¬ Wr env own I:=fun q=>by
 rcases q with q | q
 ·obtain⟨m,hn,_⟩:=v.ns
  have:=hn.lt
  rw [← q] at this
  exact absurd this (Nat.not_lt.mpr hI)
 ·obtain⟨u,o,ho,_⟩:=v.own I q
  exact absurd (Heap.lt_size ho) (Nat.not_lt.mpr hI)
theorem jJ {e:Expr} {x:Value} (h:∀ es k p,e≠.Set es k p):foldedSetIterable e env x=pure x:=by
 induction e using PySem.Expr.casesOn with
 | Set es k p=>exact absurd rfl (h es k p)
 | _=>rfl
noncomputable def aRk (acc:Value) (elt:Expr) (env:Env):Sem Unit:=do let _ ← call (.builtin "list.append") [acc,← eval elt env]
noncomputable def gH (elt:Expr) (all:List Comprehension) (scope:Scope) (pos:Pos) (depth:Nat) (it acc:Value) (env:Env) (ok:Bool):Sem Fin:=do
 if ok then
  match all[depth+1]? with
  | some g' =>
   let x ← eval g'.iter env
   standAt g'.iter.pos
   let x ← if g'.is_async != 0 then foldedIterable g'.iter x else foldedSetIterable g'.iter env x
   let _ ← runOwn (.compStart (.ListComp elt all scope pos) (depth+1) (← holding [x] (if g'.is_async != 0 then asyncIter x else pyIter x)) acc env) env
  | none=>aRk acc elt env
 again (.compLoop (.ListComp elt all scope pos) depth it acc env)
noncomputable def aTv (elt:Expr) (all:List Comprehension) (scope:Scope) (pos:Pos) (depth:Nat) (it acc:Value) (env:Env) (t:Expr) (ifs:List Expr):Option Value→Sem Fin
 | none=>pure (.done .next)
 | some v=>do
  letOwnedTupleGo t it v
  assign t env v
  let ok ← forIn ifs true fun c r=>if r=true then do let ok ← isTrue c env (eval c env); pure (ForInStep.yield ok) else pure (ForInStep.yield r)
  gH elt all scope pos depth it acc env ok
theorem aBx {elt t i:Expr} {all:List Comprehension} {scope:Scope} {pos:Pos} {depth:Nat} {it acc:Value} {ifs:List Expr} (h:all[depth]? = some ⟨t,i,ifs,0⟩) :
  compTurn (.ListComp elt all scope pos) depth it acc env=(do standAt i.pos; aTv elt all scope pos depth it acc env t ifs (← pyNext it)):=by
 unfold compTurn
 dsimp only
 rw [h]
 kernel_rfl
noncomputable def aAz (prog:Program) (w:World) (A:Around) (R:Result→Shared→Prop):Fin→Shared→Prop:=fun fin s'=>match fin with
 | .done f=>R (.ok f) s'
 | .again c'=>c'.quiet=true∧codeAny (model prog w) A c' R s'
theorem dH {c:Code} {m:Sem Fin} {R:Result→Shared→Prop} (hm:(model prog w).den c=m.onRaise (fun x=>do noteFrame x env; theTreesLotGoes x)) (h:∀ E,wpAny (model prog w) (A.under c) m (aAz prog w A R) E s):codeAny (model prog w) A c R s:=by
 refine codeAny_of_tree ?_
 rw [hm]
 exact wpAny_noted (h _)
theorem aEg {elt:Expr} {all:List Comprehension} {scope:Scope} {pos:Pos} {depth:Nat} {it acc:Value} (h:all[depth+1]? = none) :
  gH elt all scope pos depth it acc env true=(do aRk acc elt env; again (.compLoop (.ListComp elt all scope pos) depth it acc env)):=by
 unfold gH
 rw [h]
 rfl
theorem aAg {elt:Expr} {g':Comprehension} {all:List Comprehension} {scope:Scope} {pos:Pos} {depth:Nat} {it acc:Value} (h:all[depth+1]? = some g') :
  gH elt all scope pos depth it acc env true=(do
   let x ← eval g'.iter env
   standAt g'.iter.pos
   let x ← if g'.is_async != 0 then foldedIterable g'.iter x else foldedSetIterable g'.iter env x
   let _ ← runOwn (.compStart (.ListComp elt all scope pos) (depth+1) (← holding [x] (if g'.is_async != 0 then asyncIter x else pyIter x)) acc env) env
   again (.compLoop (.ListComp elt all scope pos) depth it acc env)):=by
 unfold gH
 rw [h]
 rfl
noncomputable def yZ (prog:Program) (w:World) (A:Around) (base:Base) (o:Ops) (cx:Cx) (env:Env) (own:List Addr) (I:Addr) (ds:List D) (fp:List Addr) (P:Nat→Value→Prop) (St:Nat→Heap→Prop) (elt:Expr) (all:List Comprehension) (scope:Scope) (pos:Pos) (depth acc:Nat) (D:Addr) (g:Comprehension) (rest:List Comprehension) (R:Result→Shared→Prop) (vars':Vars) (st':Store) (k:Nat):Prop :=
 ∀ {vars:Vars} {ms:List Addr} {st:Store} {s:Shared},SR base ms st s→VOk env own ms s.heap vars→ms[acc]? = some D→Src prog w A base ms s I ds fp P St k →
   compGo o cx elt g rest acc (ds.drop k) vars st=some (vars',st')→(∀ s' ms',Ext (WrI env own I) s ms s' ms'→SR base ms' st' s'→VOk env own ms' s'.heap vars'→R (.ok .next) s') →
   codeAny (model prog w) A (.compLoop (.ListComp elt all scope pos) depth (.ref I) (.ref D) env) R s
theorem aEb {elt t i:Expr} {ifs:List Expr} {all:List Comprehension} {scope:Scope} {pos:Pos} {depth acc:Nat} {D:Addr} {rest:List Comprehension} {R:Result→Shared→Prop} {vars':Vars} {E:Value→Shared→Prop} {b:Bool} (HE:EvOk prog w G base mg mb n o) (HC:cZ prog w G base mg mb n o) (hns:cW o)
  (S:Sit G base mg mb n A cx env own) (hg:all.drop depth=⟨t,i,ifs,0⟩::rest) (hw:¬ Wr env own I) (K:yZ prog w A base o cx env own I ds fp P St elt all scope pos depth acc D ⟨t,i,ifs,0⟩ rest R vars' st' (k+1))
  (r:SR base ms st s) (v:VOk env own ms s.heap vars) (hD:ms[acc]? = some D) (hI:Src prog w A base ms s I ds fp P St (k+1))
  (e:(if b=true then (match rest with
   | []=>do
    let (x,st) ← o.ev cx vars elt st
    let l ← look st acc
    if noCell x&&fits l.length then compGo o cx elt ⟨t,i,ifs,0⟩ rest acc (ds.drop (k+1)) vars (st.set acc (l++[x])) else none
   | g'::more=>do
    let (src,st) ← o.ev cx vars g'.iter st
    let (vars,st) ← o.comp cx elt (g'::more) src vars st acc
    compGo o cx elt ⟨t,i,ifs,0⟩ rest acc (ds.drop (k+1)) vars st) else compGo o cx elt ⟨t,i,ifs,0⟩ rest acc (ds.drop (k+1)) vars st)=some (vars',st'))
  (hR:∀ s' ms',Ext (WrI env own I) s ms s' ms'→SR base ms' st' s'→VOk env own ms' s'.heap vars'→R (.ok .next) s') :
  wpAny (model prog w) A (gH elt all scope pos depth (.ref I) (.ref D) env b) (aAz prog w A R) E s:=by
 cases b
 ·exact wpAny_pure ⟨rfl,K r v hD hI e hR⟩
 ·have hnext:all[depth+1]? = rest.head?:=by
   have:=congrArg (List.drop 1) hg
   rw [List.drop_drop] at this
   have:=congrArg List.head? this
   simpa [Nat.add_comm] using this
  induction rest using List.casesOn with
  | nil =>
   refine bF (o:=o.ev cx vars elt st) e fun x st₃ h4 e=>bE (o:=look st₃ acc) e fun l h5 e=>ifS (c:=(noCell x&&fits l.length)=true) e fun hc e=>?_
   rw [aEg hnext]
   refine wpAny_bind (wpAny_bind (HE S r v h4 _ _ fun xv s₄ ms₄ x₄ r₄ p₄=>?_))
   have y₄:=x₄.ofNo (W:=WrI env own I) (wkI v hI)
   refine wpAny_bind (nC r₄ h5 (y₄.place hD) (and2 hc).1 (and2 hc).2 p₄ _ _ fun _ s₅ ms₅ x₅ r₅ _=>wpAny_pure ?_)
   have y₅:=x₅.ofNo (W:=WrI env own I) (wkI (v.ext r x₄) (hI.ext x₄ (fun f=>f)))
   exact wpAny_pure ⟨rfl,K r₅ ((v.ext r x₄).ext r₄ x₅) (y₅.place (y₄.place hD)) ((hI.ext x₄ (fun f=>f)).ext x₅ (fun f=>f)) e fun s' ms' x'=>hR s' ms' (y₄.trans (y₅.trans x'))⟩
  | cons g' more =>
   refine bF (o:=o.ev cx vars g'.iter st) e fun src st₃ h4 e=>bF (o:=o.comp cx elt (g'::more) src vars st₃ acc) e fun vars₂ st₄ h5 e=>?_
   obtain⟨t',i',ifs',ga⟩:=g'
   have hg2:all.drop (depth+1)=⟨t',i',ifs',ga⟩::more:=by
    have:=congrArg (List.drop 1) hg
    rw [List.drop_drop] at this
    simpa [Nat.add_comm] using this
   rw [aAg hnext]
   refine wpAny_bind (HE S r v h4 _ _ fun xv s₄ ms₄ x₄ r₄ p₄=>wpAny_bind (wpAny_standAt ?_))
   have y₄:=x₄.ofNo (W:=WrI env own I) (wkI v hI)
   have v₄:=v.ext r x₄
   have I₄:=hI.ext x₄ (fun f=>f)
   obtain⟨ds',hdr,has,_⟩:=HC S r₄ v₄ h5
   cases (show ga=0 from has _ rfl)
   refine wpAny_bind (wpAny_of_eq (jJ (fun es k p (q:i'=_)=>by subst q; rw [hns] at h4; exact nn h4)) (wpAny_bind (wpAny_holding ?_)))
   refine tZ hdr S.ar r₄ p₄ _ _ fun I' s₅ fp' P' St' x₅ r₅ hI' src'=>?_
   obtain⟨ds'',hdr',_,K'⟩:=HC S r₅ (v₄.ext r₄ x₅) h5
   cases Option.some.inj (hdr.symm.trans hdr')
   refine wpAny_bind (wpAny_runOwn ?_)
   rw [iS]
   refine K' hg2 (x₅.place (y₄.place hD)) src' (eU v₄ hI') fun s₆ ms₆ x₆ r₆ v₆=>?_
   have x₄₆:=Ext.forget x₅ x₆ hI' v₄.wk
   have y₆:=x₄₆.widen (W':=WrI env own I) oB (wkI v₄ I₄)
   exact wpAny_pure ⟨rfl,K r₆ v₆ (y₆.place (y₄.place hD)) (I₄.ext x₄₆ hw) e fun s' ms' x'=>hR s' ms' (y₄.trans (y₆.trans x'))⟩
theorem uK {elt t i:Expr} {ifs:List Expr} {all:List Comprehension} {scope:Scope} {pos:Pos} {depth acc:Nat} {D:Addr} {rest:List Comprehension} {R:Result→Shared→Prop} {vars':Vars} (HE:EvOk prog w G base mg mb n o) (HT:TrOk prog w G base mg mb n o) (HA:eN prog w G base mg mb n o) (HC:cZ prog w G base mg mb n o) (hns:cW o)
  (S:Sit G base mg mb n A cx env own) (hg:all.drop depth=⟨t,i,ifs,0⟩::rest) (hw:¬ Wr env own I) (m:Nat):∀ {k:Nat},m+k=ds.length→yZ prog w A base o cx env own I ds fp P St elt all scope pos depth acc D ⟨t,i,ifs,0⟩ rest R vars' st' k:=by
 have hgd:all[depth]? = some ⟨t,i,ifs,0⟩:=by have:=congrArg List.head? hg; simpa using this
 induction m with
 | zero =>
  intro k hk vars ms st s r v hD hI e hR
  cases (Nat.zero_add k).symm.trans hk
  refine dH rfl fun E=>?_
  rw [aBx hgd]
  rw [List.drop_length] at e
  have q:=Prod.mk.inj (Option.some.inj (show some (vars,st)=_ from e))
  cases q.1; cases q.2
  exact wpAny_bind (wpAny_standAt (wpAny_bind (aIs hI r _ _ fun s₁ x₁ r₁=>wpAny_pure (hR _ _ (x₁.widen aBy (wkI v hI)) r₁ (v.extI r hI x₁)))))
 | succ m ih =>
  intro k hk vars ms st s r v hD hI e hR
  have hk':k < ds.length:=by lia
  refine dH rfl fun E=>?_
  rw [aBx hgd]
  refine wpAny_bind (wpAny_standAt (wpAny_bind (aBr hI hk' r _ _ fun u d s₁ hd x₁ r₁ I₁ p₁=>?_)))
  obtain⟨oI,hoI,_,cI,hcI,hhI,vI,hdI⟩:=I₁.nonseq _ _ I₁.st
  rw [wH hk' hd] at e
  refine bF (o:=o.asg cx vars t d st) e fun vars₁ st₁ h1 e=>bF (o:=ifsT o cx vars₁ ifs st₁) e fun b st₂ h2 h3=>?_
  have v₁:=v.extI r hI x₁
  have y₁:=x₁.widen (W':=WrI env own I) aBy (wkI v hI)
  refine wpAny_bind (nO hoI hcI hhI hdI (wpAny_bind (HA S r₁ v₁ p₁ h1 _ _ fun s₂ ms₂ x₂ r₂ v₂=>wpAny_bind (aQv HT S ifs r₂ v₂ h2 _ _ fun s₃ ms₃ x₃ r₃=>?_))))
  have y₂:=x₂.widen (W':=WrI env own I) oB (wkI v₁ I₁)
  have I₂:=I₁.ext x₂ hw
  have y₃:=x₃.ofNo (W:=WrI env own I) (wkI v₂ I₂)
  exact aEb HE HC hns S hg hw (ih (by lia)) r₃ (v₂.ext r₂ x₃) (y₃.place (y₂.place (y₁.place hD))) (I₂.ext x₃ (fun f=>f)) h3 fun s' ms' x'=>hR s' ms' (y₁.trans (y₂.trans (y₃.trans x')))
theorem aJu {elt:Expr} {gens:List Comprehension} {src:D} {acc:Nat} {vars':Vars} (HE:EvOk prog w G base mg mb n o) (HT:TrOk prog w G base mg mb n o) (HA:eN prog w G base mg mb n o) (HC:cZ prog w G base mg mb n o) (hns:cW o)
  (S:Sit G base mg mb n A cx env own) (r:SR base ms st s) (v:VOk env own ms s.heap vars) (e:xE o cx elt gens src vars st acc=some (vars',st')):∃ ds,drawn src=some ds∧(∀ g∈gens.head?,g.is_async=0) ∧
  ∀ {all:List Comprehension} {scope:Scope} {pos:Pos} {depth:Nat} {I D:Addr} {fp:List Addr} {P:Nat→Value→Prop} {St:Nat→Heap→Prop} {R:Result→Shared→Prop},all.drop depth=gens→ms[acc]? = some D →
   Src prog w A base ms s I ds fp P St 0→¬ Wr env own I→(∀ s' ms',Ext (WrI env own I) s ms s' ms'→SR base ms' st' s'→VOk env own ms' s'.heap vars'→R (.ok .next) s') →
   codeAny (model prog w) A (.compStart (.ListComp elt all scope pos) depth (.ref I) (.ref D) env) R s:=by
 induction gens using List.casesOn with
 | nil=>exact nn e
 | cons g rest =>
  obtain⟨t,i,ifs,ga⟩:=g
  refine ifS (c:=(ga == 0)=true) e fun ha e=>bE (o:=drawn src) e fun ds hds e=>?_
  cases (eq_of_beq ha:ga=0)
  refine⟨ds,hds,fun g' hg'=>by cases (Option.some.inj hg'); rfl,fun {all scope pos depth I D fp P St R} hg hD hI hw hR=>?_⟩
  have hgd:all[depth]? = some ⟨t,i,ifs,0⟩:=by have:=congrArg List.head? hg; simpa using this
  have loop:codeAny (model prog w) A (.compLoop (.ListComp elt all scope pos) depth (.ref I) (.ref D) env) R s :=
   uK HE HT HA HC hns S hg hw ds.length (k:=0) rfl r v hD hI e hR
  refine codeAny_of_tree ?_
  show wpAny _ _ ((PySem.compStart (.ListComp elt all scope pos) depth (.ref I) (.ref D) env).onRaise (fun x=>do noteFrame x env; standAt theWindowsPlace)) _ _ s
  refine wpAny_notedAt ?_
  unfold PySem.compStart
  rw [show (clausesOf (.ListComp elt all scope pos))[depth]? = some ⟨t,i,ifs,0⟩ from hgd]
  refine wpAny_bind (wpAny_askSetting (wpAny_ite ?_))
  split
  ·first
    | exact wpAny_bind (wpAny_pure (wpAny_pure (And.intro rfl loop)))
    | exact wpAny_pure (And.intro rfl loop)
  ·refine wpAny_bind (wpAny_rule (wpAny_bind (wpAny_standAt (wpAny_bind ?_))))
   exact hI.walks.self 0 s _ _ hI.st (wpAny_pure (And.intro rfl loop))
end
end Mine
end
section -- S16
open PySem PyProof.Rows PySem.SeqAt
namespace Mine
theorem gC {α:Type}:∀ {l:List (Str×α)} {x:Str} {c:α},(x,c)∈l→∃ c',l.lookup x=some c'
 | (y,d)::r,x,c,h=>by
  rw [List.lookup_cons]
  cases hb:x == y with
  | true=>exact⟨d,rfl⟩
  | false =>
   rcases List.mem_cons.mp h with e | h
   ·cases e; simp at hb
   ·exact gC h
theorem mC {α:Type}:∀ {l:List (Str×α)} {x:Str} {c d:α},(l.map (·.1)).Nodup→(x,c)∈l→(x,d)∈l→c=d
 | (y,e)::r,x,c,d,hn,h1,h2=>by
  rw [List.map_cons,List.nodup_cons] at hn
  rcases List.mem_cons.mp h1 with q1 | q1 <;> rcases List.mem_cons.mp h2 with q2 | q2
  ·cases q1; cases q2; rfl
  ·cases q1; exact absurd (List.mem_map_of_mem (f:=(·.1)) q2) hn.1
  ·cases q2; exact absurd (List.mem_map_of_mem (f:=(·.1)) q1) hn.1
  ·exact mC hn.2 q1 q2
theorem iD {α:Type} {l:List (Str×α)} {x:Str} {c:α} (hn:(l.map (·.1)).Nodup):l.lookup x=some c↔(x,c)∈l:=by
 constructor
 ·exact mem_of_lookup
 ·intro h
  obtain⟨c',hc⟩:=gC h
  rw [mC hn h (mem_of_lookup hc)]; exact hc
theorem gB {α:Type}:∀ (a b:List (Str×α)) (x:Str),(a++b).lookup x=(a.lookup x).or (b.lookup x)
 | [],b,x=>by simp
 | (y,d)::r,b,x=>by
  rw [List.cons_append,List.lookup_cons,List.lookup_cons]
  cases x == y with
  | true=>simp
  | false=>exact gB r b x
theorem bB:∀ (names:List (Str×NameKind)) (n:Nat) (acc:List (Str×Addr)),cellsFrom n names acc=cellsFrom n names []++acc
 | [],_,_=>rfl
 | (x,k)::r,n,acc=>by
  rw [cellsFrom,cellsFrom]
  split
  ·rw [bB r _ ((x,n)::acc),bB r _ [(x,n)]]; simp
  ·exact bB r n acc
set_option tactic.hygienic true in
theorem aT:∀ {names:List (Str×NameKind)} {n:Nat} {x:Str} {c:Addr},(x,c)∈cellsFrom n names []→(x,.cell)∈names∧n≤c
 | [],_,_,_,h=>by simp [cellsFrom] at h
 | (y,k)::r,n,x,c,h=>by
  rw [cellsFrom] at h
  split at h
  ·rename_i hk
   rw [bB] at h
   rcases List.mem_append.mp h with h | h
   ·obtain⟨a,b⟩:=aT h
    exact⟨List.mem_cons_of_mem _ a,by lia⟩
   ·simp only [List.mem_cons,List.not_mem_nil,or_false] at h
    cases h
    have:k=.cell:=by cases k <;> first | rfl | (simp at hk)
    subst this
    exact⟨List.mem_cons_self,Nat.le_refl _⟩
  ·obtain⟨a,b⟩:=aT h
   exact⟨List.mem_cons_of_mem _ a,b⟩
theorem cE:∀ {names:List (Str×NameKind)} {n:Nat} {x:Str},(x,.cell)∈names→∃ c,(x,c)∈cellsFrom n names []
 | (y,k)::r,n,x,h=>by
  rw [cellsFrom]
  rcases List.mem_cons.mp h with e | h
  ·cases e
   rw [if_pos (show (NameKind.cell == NameKind.cell)=true from rfl),bB]
   exact⟨n,by simp⟩
  ·split
   ·obtain⟨c,hc⟩:=cE (n:=n+1) h
    rw [bB]
    exact⟨c,List.mem_append_left _ hc⟩
   ·exact cE h
theorem cB:∀ {names:List (Str×NameKind)} {n:Nat},(names.map (·.1)).Nodup→((cellsFrom n names []).map (·.1)).Nodup
 | [],_,_=>by simp [cellsFrom]
 | (y,k)::r,n,h=>by
  rw [List.map_cons,List.nodup_cons] at h
  rw [cellsFrom]
  split
  ·rw [bB,List.map_append,List.nodup_append]
   refine⟨cB h.2,by simp,fun a ha b hb q=>?_⟩
   obtain⟨⟨a',c⟩,hm,rfl⟩:=List.mem_map.mp ha
   simp only [List.map_cons,List.map_nil,List.mem_cons,List.not_mem_nil,or_false] at hb
   rw [hb] at q
   have q':a'=y:=q
   rw [q'] at hm
   exact h.1 (List.mem_map_of_mem (f:=(·.1)) (aT hm).1)
  ·exact cB h.2
section
variable {prog:Program} {w:World} {A:Around} {s:Shared} {base:Base} {ms:List Addr} {st st':Store} {cx:Cx} {env:Env} {own:List Addr} {vars:Vars} {G:Gx} {mg mb:Str→Option Value} {n:Nat} {o:Ops}
theorem kD:∀ (names:List (Str×NameKind)) (acc:List (Str×Addr)),(∀ x,(x,.free)∈names→∃ c,env.cells.lookup x=some c)→∃ cl,
  (forIn names acc (fun (p:Str×NameKind) cs=>if (p.2 == NameKind.free)=true then (do let a ← cellOf env p.1; pure (ForInStep.yield ((p.1,a)::cs))) else pure (ForInStep.yield cs)):Sem (List (Str×Addr)))=pure (cl++acc) ∧
  (∀ x c,(x,c)∈cl→env.cells.lookup x=some c∧(x,.free)∈names)∧(∀ x,(x,.free)∈names→∃ c,(x,c)∈cl)
 | [],acc,_=>⟨[],by rw [List.forIn_nil]; rfl,by simp,by simp⟩
 | (y,k)::r,acc,h=>by
  rw [List.forIn_cons]
  by_cases hk:k=.free
  ·subst hk
   obtain⟨c,hc⟩:=h y List.mem_cons_self
   obtain⟨cl,h1,h2,h3⟩:=kD r ((y,c)::acc) (fun x hx=>h x (List.mem_cons_of_mem _ hx))
   refine⟨cl++[(y,c)],?_,fun x d hd=>?_,fun x hx=>?_⟩
   ·rw [if_pos (show (NameKind.free == NameKind.free)=true from rfl)]
    have:cellOf env y=pure c:=by unfold cellOf; rw [hc]
    show (cellOf env y >>= _) >>= _=_
    rw [this,List.append_assoc]
    exact h1
   ·rcases List.mem_append.mp hd with hd | hd
    ·exact⟨(h2 x d hd).1,List.mem_cons_of_mem _ (h2 x d hd).2⟩
    ·simp only [List.mem_cons,List.not_mem_nil,or_false] at hd
     cases hd; exact⟨hc,List.mem_cons_self⟩
   ·rcases List.mem_cons.mp hx with e | hx
    ·cases e; exact⟨c,by simp⟩
    ·obtain⟨d,hd⟩:=h3 x hx; exact⟨d,List.mem_append_left _ hd⟩
  ·obtain⟨cl,h1,h2,h3⟩:=kD r acc (fun x hx=>h x (List.mem_cons_of_mem _ hx))
   refine⟨cl,?_,fun x d hd=>⟨(h2 x d hd).1,List.mem_cons_of_mem _ (h2 x d hd).2⟩,fun x hx=>?_⟩
   ·rw [if_neg (by simpa using hk)]
    exact h1
   ·rcases List.mem_cons.mp hx with e | hx
    ·cases e; exact absurd rfl hk
    ·exact h3 x hx
theorem aAh {scope:Scope} (h:∀ x,(x,.free)∈scope.names→∃ c,env.cells.lookup x=some c):∃ cl,closureFor scope env=pure cl∧(∀ x c,(x,c)∈cl→env.cells.lookup x=some c∧(x,.free)∈scope.names)∧(∀ x,(x,.free)∈scope.names→∃ c,(x,c)∈cl):=by
 obtain⟨cl,h1,h2,h3⟩:=kD scope.names [] h
 refine⟨cl,?_,h2,h3⟩
 rw [List.append_nil] at h1
 have:closureFor scope env=((forIn scope.names [] (fun (p:Str×NameKind) cs=>if (p.2 == NameKind.free)=true then (do let a ← cellOf env p.1; pure (ForInStep.yield ((p.1,a)::cs))) else pure (ForInStep.yield cs)):Sem (List (Str×Addr))) >>= fun cs=>pure cs):=rfl
 rw [this,h1]
 rfl
theorem aAi {scope:Scope} {cl:List (Str×Addr)} {globals:Addr} {qual:Str} {Q:Env→Shared→Prop} {E:Value→Shared→Prop}
  (hQ:Q (newEnv scope s.heap.objs.size globals (cellsFrom (s.heap.objs.size+1) scope.names cl) qual none .none (some env) builtinsNs) { s with heap:=pushCells (s.heap.push { cls:=.type "dict",data:=.dict #[] }) scope.names }) :
  wpAny (model prog w) A (newFunctionEnv scope globals cl [] qual none .none (some env)) Q E s:=by
 simp only [newFunctionEnv,Option.isSome_some,if_true]
 refine wpAny_bind (wpAny_alloc ?_)
 refine wpAny_bind (wpAny_layCells _ (fun name kind cells=>by cases hkc:kind == NameKind.cell <;> simp [hkc]) _ _ _ _ ?_)
 rw [show ({ s with heap:=s.heap.push { cls:=.type "dict",data:=.dict #[] } }:Shared).heap.objs.size=s.heap.objs.size+1 from Heap.size_push ..]
 simp only [List.forIn_nil]
 exact wpAny_bind (wpAny_pure (wpAny_pure hQ))
theorem fO:∀ (names:List (Str×NameKind)) (h:Heap),h.objs.size≤(pushCells h names).objs.size
 | [],h=>Nat.le_refl _
 | (x,k)::r,h=>by
  unfold pushCells
  split
  ·exact Nat.le_trans (by rw [Heap.size_push]; lia) (fO r _)
  ·exact fO r h
theorem iH (f:Str→NameKind→NameKind):∀ (names:List (Str×NameKind)) (x:Str),(names.map fun p=>(p.1,f p.1 p.2)).lookup x=(names.lookup x).map (f x)
 | [],x=>rfl
 | (y,k)::r,x=>by
  rw [List.map_cons,List.lookup_cons,List.lookup_cons]
  cases hb:x == y with
  | true=>rw [eq_of_beq hb]; rfl
  | false=>exact iH f r x
noncomputable def relab (cx:Cx) (x:Str) (k:NameKind):NameKind:=if k == .free&&cx.names.lookup x == some .cell then .cell else k
theorem lS (sc:Scope):jF cx sc=sc.names.map fun p=>(p.1,relab cx p.1 p.2):=by
 unfold jF relab
 refine List.map_congr_left fun p _=>?_
 split <;> rfl
theorem pI (E:EnvOk base cx env own) (sc:Scope):(relabel sc env).names=jF cx sc:=by
 rw [lS]
 unfold relabel relab
 refine List.map_congr_left fun p _=>?_
 have hk:(env.scope.kind == ScopeKind.function)=true:=by rw [E.kind]; rfl
 have hn:env.kindOf p.1=cx.names.lookup p.1:=by unfold Env.kindOf; rw [E.names]
 simp only [hk,Bool.and_true,hn]
 split <;> rfl
set_option tactic.hygienic true in
theorem cU {p:Str×D→Bool} (hp:∀ x d e,p (x,d)=p (x,e)):∀ (vars:Vars) {x:Str} {d:D},(vars.filter p).lookup x=some d→vars.lookup x=some d∧p (x,d)=true
 | [],x,d,h=>by simp at h
 | (y,e)::r,x,d,h=>by
  rw [List.filter_cons] at h
  rw [List.lookup_cons]
  cases hb:x == y with
  | true =>
   have hxy:=eq_of_beq hb
   subst hxy
   split at h
   ·rename_i hq
    rw [List.lookup_cons,hb] at h
    cases h
    exact⟨rfl,hq⟩
   ·rename_i hq
    obtain⟨h1,h2⟩:=cU hp r h
    exact absurd ((hp x e d).trans h2) hq
  | false =>
   split at h
   ·rw [List.lookup_cons,hb] at h
    exact cU hp r h
   ·exact cU hp r h
noncomputable def iC (sc:Scope) (env:Env) (L:Addr) (cl:List (Str×Addr)):Env:={ newEnv sc L env.globals (cellsFrom (L+1) sc.names cl) env.qual none .none (some env) builtinsNs with scope:=relabel sc env }
noncomputable def aBm (sc:Scope) (L:Addr):List Addr:=(cellsFrom (L+1) sc.names []).map (·.2)
set_option genInjectivity false in
structure CompUp (base:Base) (cx:Cx) (sc:Scope) (env:Env) (cl:List (Str×Addr)) (vars:Vars) (ms:List Addr) (st:Store) (s s':Shared):Prop where
 en:EnvOk base (compCx cx sc) (iC sc env s.heap.objs.size cl) (aBm sc s.heap.objs.size)
 ext:Ext No s ms s' ms
 sr:SR base ms st s'
 vok:VOk (iC sc env s.heap.objs.size cl) (aBm sc s.heap.objs.size) ms s'.heap (bY sc vars)
theorem aPj {sc:Scope} {cl:List (Str×Addr)} (E:EnvOk base cx env own) (r:SR base ms st s) (v:VOk env own ms s.heap vars) (hc:dZ cx vars sc=true)
  (h2:∀ x c,(x,c)∈cl→env.cells.lookup x=some c∧(x,.free)∈sc.names) (h3:∀ x,(x,.free)∈sc.names→∃ c,(x,c)∈cl) :
  CompUp base cx sc env cl vars ms st s { s with heap:=pushCells (s.heap.push { cls:=.type "dict",data:=.dict #[] }) sc.names }:=by
 unfold dZ at hc
 simp only [Bool.and_eq_true,decide_eq_true_eq] at hc
 obtain⟨⟨hk,hnd⟩,hfree⟩:=hc
 have hkind:sc.kind=.function:=by cases h:sc.kind <;> rw [h] at hk <;> first | rfl | (exact absurd hk (by decide))
 have keep:∀ a o,s.heap.get? a=some o→(pushCells (s.heap.push { cls:=.type "dict",data:=.dict #[] }) sc.names).get? a=some o:=fun a o e=>pushCells_keeps _ _ _ _ (Heap.get?_push_of_some _ e)
 have hsz:s.heap.objs.size≤(pushCells (s.heap.push { cls:=.type "dict",data:=.dict #[] }) sc.names).objs.size:=Nat.le_trans (by rw [Heap.size_push]; lia) (fO sc.names _)
 have x:Ext No s ms { s with heap:=pushCells (s.heap.push { cls:=.type "dict",data:=.dict #[] }) sc.names,toks:=s.toks } ms:=gF (Nat.le_refl _) hsz keep
 have r':=r.heap' (Nat.le_refl s.toks) hsz keep
 have ok:=cellsFrom_ok sc.names (s.heap.push { cls:=.type "dict",data:=.dict #[] }) (s.heap.objs.size+1) [] ⟨fun _ _ hm=>(nomatch hm),List.Pairwise.nil⟩ (by rw [Heap.size_push]; exact Nat.le_refl _)
 rw [Heap.size_push] at ok
 have hcells:(iC sc env s.heap.objs.size cl).cells=cellsFrom (s.heap.objs.size+1) sc.names []++cl:=bB sc.names _ cl
 have nown:=cB (n:=s.heap.objs.size+1) hnd
 -- where a name's cell lies
 have lcell:∀ y,(y,.cell)∈sc.names→∃ c,(y,c)∈cellsFrom (s.heap.objs.size+1) sc.names []∧(iC sc env s.heap.objs.size cl).cells.lookup y=some c:=fun y hy=>by
  obtain⟨c,hc⟩:=cE (n:=s.heap.objs.size+1) hy
  refine⟨c,hc,?_⟩
  rw [hcells,gB,(iD nown).mpr hc]; rfl
 have lfree:∀ y c,(y,.free)∈sc.names→env.cells.lookup y=some c→(iC sc env s.heap.objs.size cl).cells.lookup y=some c:=fun y c hy he=>by
  have hno:(cellsFrom (s.heap.objs.size+1) sc.names []).lookup y=none:=by
   cases hq:(cellsFrom (s.heap.objs.size+1) sc.names []).lookup y with
   | none=>rfl
   | some d=>exact absurd (mC hnd hy (aT (mem_of_lookup hq)).1) (by decide)
  obtain⟨d,hd⟩:=h3 y hy
  obtain⟨d',hd'⟩:=gC hd
  have:=(h2 y d' (mem_of_lookup hd')).1
  rw [he] at this; cases this
  rw [hcells,gB,hno,hd']; rfl
 have split:∀ y c,(iC sc env s.heap.objs.size cl).cells.lookup y=some c→(y,c)∈cellsFrom (s.heap.objs.size+1) sc.names []∨((y,c)∈cl∧env.cells.lookup y=some c):=fun y c hq=>by
  rw [hcells] at hq
  rcases List.mem_append.mp (mem_of_lookup hq) with h | h
  ·exact .inl h
  ·exact .inr ⟨h,(h2 y c h).1⟩
 have kof:∀ y,(iC sc env s.heap.objs.size cl).kindOf y=(sc.names.lookup y).map (relab cx y):=fun y=>by
  show (relabel sc env).names.lookup y=_
  rw [pI E,lS]
  exact iH (relab cx) sc.names y
 have below:∀ y d,vars.lookup y=some d→(y,.free)∈sc.names→∃ c u,env.cells.lookup y=some c∧s.heap.IsCell c (some u)∧Rep ms s.heap d u:=fun y d hd hy=>by
  have hq:=List.all_eq_true.mp hfree _ hy
  simp only [Bool.and_eq_true] at hq
  have hkk:env.kindOf y=some .cell∨env.kindOf y=some .free:=by
   unfold Env.kindOf; rw [E.names]
   have:=hq.2
   split at this
   ·left; assumption
   ·right; assumption
   ·cases this
  exact v.cel y d hd hkk
 have fcell:∀ y c,(y,c)∈cl→c < s.heap.objs.size:=fun y c hm=>by
  obtain⟨he,hy⟩:=h2 y c hm
  have hq:=List.all_eq_true.mp hfree _ hy
  simp only [Bool.and_eq_true,Option.isSome_iff_exists] at hq
  obtain⟨⟨d,hd⟩,_⟩:=hq
  obtain⟨c',u,h1,h2,_⟩:=below y d hd hy
  rw [he] at h1; cases h1
  exact h2.lt
 refine⟨⟨?_,E.glob,E.blt,pI E sc,fun y z c hy hz=>?_,dB r (Nat.le_refl _),fun c hc=>?_,fun y hy=>?_,fun y hy=>?_⟩,x,r',⟨?_,fun y d hd hkk=>?_,fun c hc=>?_⟩⟩
 ·show (relabel sc env).kind=_
  exact hkind
 ·rcases split y c hy with hy' | ⟨hy',ey⟩ <;> rcases split z c hz with hz' | ⟨hz',ez⟩
  ·exact name_of_addr ok.apart hy' hz'
  ·have h8:s.heap.objs.size+1≤c:=(aT hy').2
   have h9:c < s.heap.objs.size:=fcell z c hz'
   exact absurd (Nat.lt_of_lt_of_le h9 (Nat.le_of_succ_le h8)) (Nat.lt_irrefl _)
  ·have h8:s.heap.objs.size+1≤c:=(aT hz').2
   have h9:c < s.heap.objs.size:=fcell y c hy'
   exact absurd (Nat.lt_of_lt_of_le h9 (Nat.le_of_succ_le h8)) (Nat.lt_irrefl _)
  ·exact E.inj y z c ey ez
 ·obtain⟨⟨y,c'⟩,hm,rfl⟩:=List.mem_map.mp hc
  have:=(aT hm).2
  exact dB r (by show s.heap.objs.size≤c'; lia)
 ·rw [kof,show sc.names.lookup y=some .local from hy]; rfl
 ·obtain⟨c,hc,hl⟩:=lcell y (mem_of_lookup hy)
  refine⟨?_,c,List.mem_map_of_mem (f:=(·.2)) hc,hl⟩
  rw [kof,show sc.names.lookup y=some .cell from hy]; rfl
 ·refine⟨_,(Heap.Ns.new s.heap (.type "dict")).keeps (pushCells_keeps _ _),fun y d hd hkk=>?_⟩
  exfalso
  obtain⟨h1,h2⟩:=cU (fun _ _ _=>rfl) vars hd
  rw [kof] at hkk
  have h2':sc.names.lookup y=some .free:=by simpa using h2
  rw [h2'] at hkk
  simp only [Option.map_some,Option.some.injEq,relab] at hkk
  split at hkk <;> cases hkk
 ·obtain⟨h1,h2⟩:=cU (fun _ _ _=>rfl) vars hd
  have h2':sc.names.lookup y=some .free:=by simpa using h2
  obtain⟨c,u,e1,e2,e3⟩:=below y d h1 (mem_of_lookup h2')
  exact⟨c,u,lfree y c (mem_of_lookup h2') e1,e2.keeps keep,e3.ext x⟩
 ·obtain⟨⟨y,c'⟩,hm,rfl⟩:=List.mem_map.mp hc
  exact⟨_,(ok.empty y c' hm).1⟩
end
end Mine
end
section -- S17
open PySem PyProof.Rows PySem.SeqAt
namespace Mine
section
variable {prog:Program} {w:World} {A:Around} {s:Shared} {base:Base} {ms:List Addr} {st st':Store} {cx:Cx} {env:Env} {own:List Addr} {vars:Vars} {G:Gx} {mg mb:Str→Option Value} {n:Nat} {o:Ops}
theorem aKg {ms ms':List Addr} (h:∀ (k:Nat) a,ms[k]? = some a→ms'[k]? = some a):ms'.take ms.length=ms:=by
 apply List.ext_getElem?
 intro k
 by_cases hk:k < ms.length
 ·rw [List.getElem?_take_of_lt hk,List.getElem?_eq_getElem hk]
  exact h k _ (List.getElem?_eq_getElem hk)
 ·rw [List.getElem?_eq_none (by simp; lia),List.getElem?_eq_none (by exact Nat.le_of_not_lt (by assumption))]
theorem aDg {h:Heap} {C:Addr} (r:SR base ms st s) {m:Str→Option Value} (hn:s.heap.Ns C m) (hb:base.get? C=none) (hbf:C∉base.fr) (hs:Heap.SameBut C s.heap h):Ext (·=C) s ms { s with heap:=h } ms∧SR base ms st { s with heap:=h }:=by
 obtain⟨oC,hoC,hdC⟩:=cL hn
 have x:Ext (·=C) s ms { s with heap:=h } ms:=⟨rfl,rfl,Nat.le_refl _,Nat.le_of_eq hs.1.symm,fun _ _ e=>e,fun _ q=>.inl q,fun b o' hb' hw e=>.of ((hs.2 b hw).trans e),fun a o' ha e=>by
  subst ha; rw [hoC] at e; cases e; exact hdC⟩
 exact⟨x,r.ext x (fun a ha=>by subst ha; exact hb) (fun a ha o' e=>(hs.2 a (fun q=>by subst q; exact r.no_dict hoC hdC ha)).trans e) (fun a o' hb' e=>(hs.2 a (fun q=>by subst q; rw [hb] at hb'; exact nn hb')).trans e) (fun L hL hW=>by subst hW; exact absurd hL hbf)⟩
theorem rZ {elt:Expr} {g:Comprehension} {gs:List Comprehension} {sc:Scope} {pos p:Pos} {src:D} {ds l:List D} {vars':Vars} {st₁ st₂:Store} {use:Option (Value→Sem Unit)} {Q:Value→Shared→Prop} {E:Value→Shared→Prop}
  (H:EvOk prog w G base mg mb n o) (HC:cZ prog w G base mg mb n o) (hns:cW o) (S:Sit G base mg mb n A cx env own) (r:SR base ms st s) (v:VOk env own ms s.heap vars)
  (hc:dZ cx vars sc=true) (ha:g.is_async=0) (h1:o.ev cx vars g.iter st=some (src,st₁)) (hd:drawn src=some ds) (h2:o.comp (compCx cx sc) elt (g::gs) src (bY sc vars) (st₁++[[]]) st₁.length=some (vars',st₂)) (h3:look st₂ st₁.length=some l) (h4:noCells l=true)
  (hR:∀ (D C:Addr) (s₅:Shared) (ms₁:List Addr),Ext No s ms s₅ ms₁→SR base ms₁ (st₂.take st₁.length) s₅→Rep ms₁ s₅.heap (.list l) (.ref D)→s.heap.objs.size≤C→(∃ m,s₅.heap.Ns C m)→base.get? C=none→compPost (model prog w) A E use Q (.ref D) C (.ok .next) s₅) :
  wpAny (model prog w) A (comprehension (.ListComp elt (g::gs) sc pos) sc env p (newList []) (firstAsync (g::gs)) (firstIter (g::gs) env) use) Q E s:=by
 have hc':=hc
 unfold dZ at hc'
 simp only [Bool.and_eq_true,decide_eq_true_eq] at hc'
 obtain⟨⟨hk,hnd⟩,hfree⟩:=hc'
 have hcl:∀ x,(x,.free)∈sc.names→∃ c,env.cells.lookup x=some c:=fun y hy=>by
  have hq:=List.all_eq_true.mp hfree _ hy
  simp only [Bool.and_eq_true,Option.isSome_iff_exists] at hq
  obtain⟨⟨d,hd⟩,hq⟩:=hq
  have hkk:env.kindOf y=some .cell∨env.kindOf y=some .free:=by
   unfold Env.kindOf; rw [S.en.names]
   split at hq
   ·left; assumption
   ·right; assumption
   ·cases hq
  obtain⟨c,_,e1,_⟩:=v.cel y d hd hkk
  exact⟨c,e1⟩
 obtain⟨cl,hclos,c2,c3⟩:=aAh hcl
 have hasy:firstAsync (g::gs)=false:=by
  obtain⟨t,i,f,a⟩:=g
  show (a != 0)=false
  have:a=0:=ha
  rw [this]; rfl
 rw [hasy,(by obtain⟨t,i,f,a⟩:=g; rfl:firstIter (g::gs) env=eval g.iter env)]
 refine wpAny_comprehension_free (cl:=cl) rfl (fun x=>jJ (fun es k p q=>by rw [q,hns] at h1; exact nn h1)) hclos (by cases h:sc.kind <;> rw [h] at hk <;> first | rfl | (exact absurd hk (by decide)):sc.kind=.function) (fun x hx hl=>by
  have:=(iD hnd (x:=x.1) (c:=x.2)).mpr hx
  rw [hl] at this; exact this) ?_
 refine H S r v h1 _ _ fun xv s₁ ms₁ x₁ r₁ p₁=>?_
 refine tZ hd S.ar r₁ p₁ _ _ fun I s₂ fp P St x₂ r₂ hI I₂=>?_
 obtain⟨oI,hoI,_⟩:=I₂.nonseq _ _ I₂.st
 refine wpAny_newList ?_ (by simp)
 obtain⟨x₃,r₃⟩:=r₂.grow (h:=s₂.heap.push { cls:=.type "list",data:=.seq ([]:List Value).toArray }) (tk:=s₂.toks) (a:=s₂.heap.objs.size) (vs:=[]) (l:=[]) (n:=0) (Nat.le_refl _) (Nat.le_refl _) (by rw [Heap.size_push]; exact Nat.le_succ _)
  (fun b o' e=>Heap.get?_push_of_some _ e) (Heap.get?_push_size _ rfl) Reps.nil rfl
 have v₃:=((v.ext r x₁).ext r₁ x₂).ext r₂ x₃
 have I₃:=I₂.ext x₃ (fun f=>f)
 have hz3:({ s₂ with heap:=s₂.heap.push { cls:=.type "list",data:=.seq ([]:List Value).toArray },toks:=s₂.toks }:Shared).heap.objs.size=s₂.heap.objs.size+1:=by simp [Heap.size_push]
 generalize hs3:({ s₂ with heap:=s₂.heap.push { cls:=.type "list",data:=.seq ([]:List Value).toArray },toks:=s₂.toks }:Shared)=s₃ at x₃ r₃ v₃ I₃ hz3
 refine aAi ?_
 have up:=aPj S.en r₃ v₃ hc c2 c3
 obtain⟨ds',hd',_,K⟩:=HC (⟨S.gl,up.en,S.ar,S.fs⟩:Sit G base mg mb n A (compCx cx sc) (iC sc env s₃.heap.objs.size cl) (aBm sc s₃.heap.objs.size)) up.sr up.vok h2
 rw [hd] at hd'; cases hd'
 have hown:∀ a,Wr (iC sc env s₃.heap.objs.size cl) (aBm sc s₃.heap.objs.size) a→s₃.heap.objs.size≤a:=fun a q=>by
  rcases q with q | q
  ·have:a=s₃.heap.objs.size:=q
   exact Nat.le_of_eq this.symm
  ·obtain⟨⟨y,c⟩,hm,rfl⟩:=List.mem_map.mp q
   exact Nat.le_of_succ_le ((aT hm).2:s₃.heap.objs.size+1≤c)
 have hlen:ms₁.length=st₁.length:=r₁.len
 refine K (by rfl) (by rw [← hlen]; simp) (I₃.ext up.ext (fun f=>f)) (fun q=>absurd (by rw [hz3]; exact Nat.lt_succ_of_lt (Heap.lt_size hoI):I < s₃.heap.objs.size) (Nat.not_lt.mpr (hown I q))) fun s₅ ms₅ x₅ r₅ v₅=>?_
 have htake:=aKg (fun k a e=>x₅.pre k a (x₃.pre k a e):∀ (k:Nat) a,ms₁[k]? = some a→ms₅[k]? = some a)
 have hD5:ms₅[st₁.length]? = some s₂.heap.objs.size:=x₅.pre _ _ (by rw [← hlen]; simp)
 obtain⟨D',vs,nn,hD',hl,hr⟩:=r₅.lists _ _ h3
 rw [hD5] at hD'; cases hD'
 have r₅':=r₅.take st₁.length (by have:=(List.getElem?_eq_some_iff.mp (aN.mp h3).1).1; exact Nat.le_of_lt (by assumption):st₁.length≤st₂.length)
 rw [← hlen,htake,hlen] at r₅'
 have hz12:=x₂.size
 have hz01:=x₁.size
 refine hR s₂.heap.objs.size s₃.heap.objs.size s₅ ms₁ ?_ r₅' ?_ (by rw [hz3]; lia) ?_ up.en.freshL
 ·refine⟨?_,?_,?_,?_,x₁.pre,x₁.fresh,fun a o' ha' hw e=>?_,fun a o' f=>f.elim⟩
  ·rw [x₅.gens,up.ext.gens,x₃.gens,x₂.gens,x₁.gens]
  ·rw [x₅.os,up.ext.os,x₃.os,x₂.os,x₁.os]
  ·exact Nat.le_trans x₁.toks (Nat.le_trans x₂.toks (Nat.le_trans x₃.toks (Nat.le_trans up.ext.toks x₅.toks)))
  ·exact Nat.le_trans x₁.size (Nat.le_trans x₂.size (Nat.le_trans x₃.size (Nat.le_trans up.ext.size x₅.size)))
  ·have a1:=x₁.away ha' e
   have hlt1:=(x₁.keep a o' ha' (fun f=>f) e).lt
   refine (x₁.keep a o' ha' (fun f=>f) e).andThen fun o₁ e1=>(x₂.keep a o₁ a1 (fun f=>f) e1).andThen fun o₂ e2=>(x₃.keep a o₂ a1 (fun f=>f) e2).andThen fun o₃ e3=>?_
   have a3:=x₃.away a1 e2
   refine (up.ext.keep a o₃ a3 (fun f=>f) e3).andThen fun o₄ e4=>?_
   refine x₅.keep a o₄ a3 (fun q=>?_) e4
   rcases q with q | q
   ·exact absurd (Nat.lt_of_lt_of_le hlt1 (Nat.le_trans hz12 (Nat.le_trans (by rw [hz3]; exact Nat.le_succ _) (hown a q)))) (Nat.lt_irrefl _)
   ·subst q; exact absurd hlt1 (Nat.not_lt.mpr hI)
 ·rw [Rep]
  refine⟨_,vs,rfl,fun q=>?_,hl.isList,?_⟩
  ·have hnd:=r₅.nodup
   rw [← htake] at q
   obtain⟨k,hk,hkk⟩:=List.mem_iff_getElem?.mp q |>.imp fun k hk=>(⟨(List.getElem?_eq_some_iff.mp hk).1,hk⟩:_∧_)
   rw [List.getElem?_take_of_lt (by simp at hk; lia:k < ms₁.length)] at hkk
   have:=(List.getElem_inj (h₀:=((List.getElem?_eq_some_iff.mp hkk).1)) (h₁:=((List.getElem?_eq_some_iff.mp hD5).1)) hnd).mp (by rw [(List.getElem?_eq_some_iff.mp hkk).2,(List.getElem?_eq_some_iff.mp hD5).2])
   lia
  ·refine Reps.less (ms:=ms₅) (fun a ha'=>?_) _ _ h4 hr
   rw [← htake] at ha'
   exact List.mem_of_mem_take ha'
 ·obtain⟨m,hm,_⟩:=v₅.ns
  exact⟨m,hm⟩
theorem lC {elt:Expr} {gens:List Comprehension} {sc:Scope} {pos:Pos} {d:D} {P:D→Store→Prop} (e:stepEv G o cx vars (.ListComp elt gens sc pos) st=some (d,st')) (k:∀ g gs src st₁ ds vars' st₂ l,gens=g::gs→dZ cx vars sc=true→g.is_async=0→o.ev cx vars g.iter st=some (src,st₁)→drawn src=some ds →
  o.comp (compCx cx sc) elt (g::gs) src (bY sc vars) (st₁++[[]]) st₁.length=some (vars',st₂)→look st₂ st₁.length=some l→noCells l=true→P (.list l) (st₂.take st₁.length)):P d st':=by
 induction gens using List.casesOn with
 | nil=>exact nn e
 | cons g gs =>
  refine ifS (c:=(dZ cx vars sc&&g.is_async == 0)=true) e fun hc e=>bF (o:=o.ev cx vars g.iter st) e fun src st₁ h1 e=>bE (o:=drawn src) e fun ds hd e=>bF (o:=o.comp (compCx cx sc) elt (g::gs) src (bY sc vars) (st₁++[[]]) st₁.length) e fun vars' st₂ h2 e=>bE (o:=look st₂ st₁.length) e fun l h3 e=>ifS (c:=noCells l=true) e fun h4 e=>?_
  exact ret2 (a:=.list l) (b:=st₂.take st₁.length) e (k g gs src st₁ ds vars' st₂ l rfl (and2 hc).1 (eq_of_beq (and2 hc).2) h1 hd h2 h3 h4)
theorem aLt {s₅ s₆:Shared} {ms₁:List Addr} {C:Addr} (x:Ext No s ms s₅ ms₁) (y:Ext (·=C) s₅ ms₁ s₆ ms₁) (hC:s.heap.objs.size≤C):Ext No s ms s₆ ms₁ :=
 ⟨y.gens.trans x.gens,y.os.trans x.os,Nat.le_trans x.toks y.toks,Nat.le_trans x.size y.size,x.pre,x.fresh,fun a o' ha hw e=>(x.keep a o' ha (fun f=>f) e).andThen fun o₁ e₁=>y.keep a o₁ (x.away ha e) (fun q=>by subst q; exact absurd (Heap.lt_size e) (Nat.not_lt.mpr hC)) e₁,fun _ _ f=>f.elim⟩
theorem lO {elt:Expr} {gens:List Comprehension} {sc:Scope} {pos:Pos} {d:D} (H:EvOk prog w G base mg mb n o) (HC:cZ prog w G base mg mb n o) (hns:cW o) (S:Sit G base mg mb n A cx env own) (r:SR base ms st s) (v:VOk env own ms s.heap vars)
  (e:stepEv G o cx vars (.ListComp elt gens sc pos) st=some (d,st')):Acts prog w A base ms s (eval (.ListComp elt gens sc pos) env) d st':=by
 refine lC e fun g gs src st₁ ds vars' st₂ l hg hc ha h1 hd h2 h3 h4 Q E hQ=>?_
 subst hg
 rw [arm_eval_ListComp]
 refine rZ H HC hns S r v hc ha h1 hd h2 h3 h4 fun D C s₅ ms₁ x r₅ p hC hm hb=>?_
 obtain⟨m,hm⟩:=hm
 refine⟨m,hm,fun h' hs=>?_⟩
 obtain⟨y,r₆⟩:=aDg r₅ hm hb (r.frNew hC) hs
 exact hQ _ _ _ (aLt x y hC) r₆ (p.ext y)
theorem vM {elt:Expr} {gens:List Comprehension} {sc:Scope} {pos:Pos} {d:D} {vars₂:Vars} {st₂:Store} {t:Expr} (H:EvOk prog w G base mg mb n o) (HA:eN prog w G base mg mb n o) (HC:cZ prog w G base mg mb n o) (hns:cW o) (S:Sit G base mg mb n A cx env own) (r:SR base ms st s) (v:VOk env own ms s.heap vars)
  (e:stepEv G o cx vars (.ListComp elt gens sc pos) st=some (d,st')) (h:o.asg cx vars t d st'=some (vars₂,st₂)):Stores prog w base A env own ms s (evalThenUse (.ListComp elt gens sc pos) env (fun v=>assign t env v)) vars₂ st₂:=fun Q E hQ=>by
 revert h
 refine lC (P:=fun d st'=>o.asg cx vars t d st'=some (vars₂,st₂)→_) e fun g gs src st₁ ds vars' st₃ l hg hc ha h1 hd h2 h3 h4 h=>?_
 subst hg
 rw [arm_evalThenUse_ListComp]
 refine wpAny_bind (rZ (use:=some fun v=>assign t env v) H HC hns S r v hc ha h1 hd h2 h3 h4 fun D C s₅ ms₁ x r₅ p hC hm hb=>?_)
 refine HA S r₅ (v.ext r x) p h _ _ fun s₆ ms₆ x₆ r₆ v₆=>?_
 obtain⟨m,hm⟩:=hm
 obtain⟨oC,hoC,hdC⟩:=cL hm
 have hwC:¬ Wr env own C:=eU v hC
 have hC6:s₆.heap.Ns C m:=ns_kept hm fun o' ho'=>x₆.keep _ _ (by rw [hoC] at ho'; cases ho'; exact r₅.no_dict hoC hdC) hwC ho'
 refine⟨m,hC6,fun h' hs=>wpAny_pure ?_⟩
 obtain⟨y,r₇⟩:=aDg r₆ hC6 hb (r.frNew hC) hs
 have x':Ext (Wr env own) s ms s₆ ms₆:=(x.ofNo v.wk).trans x₆
 have X:Ext (Wr env own) s ms { s₆ with heap:=h' } ms₆:=⟨y.gens.trans x'.gens,y.os.trans x'.os,Nat.le_trans x'.toks y.toks,Nat.le_trans x'.size y.size,x'.pre,x'.fresh,
  fun a o' ha hw e=>(x'.keep a o' ha hw e).andThen fun o₁ e₁=>y.keep a o₁ (x'.away ha e) (fun q=>by subst q; exact absurd (Heap.lt_size e) (Nat.not_lt.mpr hC)) e₁,x'.wk⟩
 have kc:∀ c v,s₆.heap.IsCell c v→h'.IsCell c v:=fun c v hc=>by
  obtain⟨o',ho',hd'⟩:=hc
  refine⟨o',(hs.2 c (fun q=>?_)).trans ho',hd'⟩
  subst q
  obtain⟨o2,es,ep,ho2,hd2,_⟩:=hC6
  rw [ho'] at ho2; cases ho2
  rw [hd'] at hd2; cases hd2
 refine hQ _ _ X r₇ ⟨?_,fun y' d' hy hk=>?_,fun c hc=>?_⟩
 ·obtain⟨m',hm',hv'⟩:=v₆.ns
  refine⟨m',hm'.sameBut hs (fun q=>hwC (.inl q.symm)),fun y' d' hy hk=>?_⟩
  obtain⟨u,hu,pu⟩:=hv' y' d' hy hk
  exact⟨u,hu,pu.ext y⟩
 ·obtain⟨c,u,e1,e2,e3⟩:=v₆.cel y' d' hy hk
  exact⟨c,u,e1,kc _ _ e2,e3.ext y⟩
 ·obtain⟨u,hu⟩:=v₆.own c hc
  exact⟨u,kc _ _ hu⟩
theorem aEy {i:Expr} {q:Option Expr×Option Expr} (h:qG i=some q):∃ p,i=.Slice q.1 q.2 none p:=by
 induction i using PySem.Expr.casesOn with
 | Slice lo hi st p=>induction st with
  | none=>exact⟨p,congrArg (fun q:Option Expr×Option Expr=>Expr.Slice q.1 q.2 none p) (Option.some.inj h)⟩
  | some=>exact nn h
 | _=>exact nn h
theorem aHf {f:Expr} {q:Expr×Str×Pos} (h:nL f=some q):.Attribute q.1 q.2.1 q.2.2=f:=by
 induction f using PySem.Expr.casesOn with
 | Attribute v n p=>exact (congrArg (fun q:Expr×Str×Pos=>Expr.Attribute q.1 q.2.1 q.2.2) (Option.some.inj h)).symm
 | _=>exact nn h
theorem aNy (H:EvOk prog w G base mg mb n o) (HT:TrOk prog w G base mg mb n o) (HC:cZ prog w G base mg mb n o) (hns:cW o) (HF:FnOk prog w G base.heap n) (HS:SortOk prog w base) (h2:2≤n):EvOk prog w G base mg mb n (step G o):=by
 intro A cx env own vars ms st s e d st' S r v h
 replace h:stepEv G o cx vars e st=some (d,st'):=h
 induction e using PySem.Expr.casesOn with
 | Constant c k p=>exact aLh r h
 | Name x p=>exact aQo S r v h
 | BinOp l op r' p=>exact aFs H S r v h
 | UnaryOp op x p=>induction op with
  | USub=>exact aPw H S r v h
  | _=>exact nn h
 | IfExp t a b p=>exact aFr H HT S r v h
 | Compare l ops rs p=>exact vT H hns S r v h
 | List es p=>exact aIu H S r v h
 | Tuple es k p=>exact aGw H S r v h
 | Subscript v' i p =>
  cases hs:qG i with
  | none=>exact aOu H S r v hs h
  | some q =>
   obtain⟨p',rfl⟩:=aEy hs
   exact aGl H S r v h
 | ListComp elt gens sc p=>exact lO H HC hns S r v h
 | Call f args ks p =>
  cases hf:nL f with
  | none=>exact aLx H HF HS h2 S r v hf h
  | some q =>
   cases aHf hf
   exact aKk H S r v h
 | _=>exact nn h
theorem aAs:cW (step G o):=fun cx vars es k p st=>rfl
theorem wI:cD (step G o):=fun cx vars e p d st=>rfl
theorem aQb (H:EvOk prog w G base mg mb n o) (HT:TrOk prog w G base mg mb n o) (hns:cW o):TrOk prog w G base mg mb n (step G o):=fun S r v h=>aTe H HT hns S r v h
theorem aHw (H:EvOk prog w G base mg mb n o) (HA:eN prog w G base mg mb n o) (hst:cD o):eN prog w G base mg mb n (step G o):=fun S r v p h=>aQl H HA hst S r v p h
theorem aGh (HE:EvOk prog w G base mg mb n o) (HT:TrOk prog w G base mg mb n o) (HA:eN prog w G base mg mb n o) (HC:cZ prog w G base mg mb n o) (hns:cW o):cZ prog w G base mg mb n (step G o):=fun S r v h=>aJu HE HT HA HC hns S r v h
end
end Mine
end
section -- S18
open PySem PyProof.Rows PySem.SeqAt
namespace Mine
noncomputable def FlowIs (ms:List Addr) (h:Heap) (f:FD) (fl:Flow):Prop:=by
 induction f using FD.casesOn with
 | next=>exact fl=.next
 | brk=>exact fl=.brk
 | cont=>exact fl=.cont
 | ret d=>exact ∃ v,fl=.ret v∧Rep ms h d v
 | exc=>exact False
noncomputable def Thrown (prog:Program) (w:World) (c:Nat) (v:Value) (s₁:Shared) (x:Value) (s':Shared):Prop :=
 ∃ h' e,x=.ref e∧s'={ s₁ with heap:=h' }∧Heap.MadeExcOf s₁.heap h' e (.ref c) [v]
section
variable (prog:Program) (w:World) (G:Gx) (base:Base) (mg mb:Str→Option Value) (n:Nat) (o:Ops)
noncomputable def Runs (A:Around) (env:Env) (own:List Addr) (ms:List Addr) (s:Shared) (t:Sem Flow) (f:FD) (vars':Vars) (st':Store):Prop :=
 ∀ (Q:Flow→Shared→Prop) (E:Value→Shared→Prop),
  (∀ fl s' ms',Ext (Wr env own) s ms s' ms'→SR base ms' st' s'→VOk env own ms' s'.heap vars'→FlowIs ms' s'.heap f fl→Q fl s') →
  (∀ c d,f=.exc c d→∀ x v s₁ s' ms',Ext (Wr env own) s ms s₁ ms'→SR base ms' st' s₁→Rep ms' s₁.heap d v→Thrown prog w c v s₁ x s'→E x s') →
  wpAny (model prog w) A t Q E s
noncomputable def ExOk:Prop:=∀ {A:Around} {cx:Cx} {env:Env} {own:List Addr} {vars:Vars} {ms:List Addr} {st:Store} {s:Shared} {e:Stmt} {f:FD} {vars':Vars} {st':Store},
 Sit G base mg mb n A cx env own→SR base ms st s→VOk env own ms s.heap vars→o.ex cx vars e st=some (f,vars',st')→Runs prog w base A env own ms s (exec e env) f vars' st'
noncomputable def RaiseOk (H:Heap) (c:Nat):Prop:=∀ {A:Around} {env:Env} {x:Str} {np cpos pos:Pos} {arg:Expr} {s:Shared} {Q:Flow→Shared→Prop} {E:Value→Shared→Prop},AOk 2 A→isStar arg=false →
 wpAny (model prog w) A (eval (.Name x np) env) (fun f s₁=>f=.ref c∧wpAny (model prog w) A (eval arg env) (fun v s₂=>(∀ a o,H.get? a=some o→Kept s₂.heap a o)∧∀ h' e,Heap.MadeExcOf s₂.heap h' e (.ref c) [v]→E (.ref e) { s₂ with heap:=h' }) E s₁) E s →
 wpAny (model prog w) A (exec (.Raise (some (.Call (.Name x np) [arg] [] cpos)) none pos) env) Q E s
end
section
variable {prog:Program} {w:World} {A:Around} {s:Shared} {base:Base} {ms:List Addr} {st st':Store} {cx:Cx} {env:Env} {own:List Addr} {vars vars':Vars} {G:Gx} {mg mb:Str→Option Value} {n:Nat} {o:Ops} {f:FD}
theorem nx {P:Prop} {f:FD} {c:Nat} {d:D} (h:aKe f=false) (q:f=.exc c d):P:=by subst q; cases h
theorem fR (HX:ExOk prog w G base mg mb n o) (S:Sit G base mg mb n A cx env own) (b:List Stmt):∀ {vars vars':Vars} {st st':Store} {s:Shared} {ms:List Addr} {f:FD},SR base ms st s→VOk env own ms s.heap vars →
  exs o cx vars b st=some (f,vars',st')→Runs prog w base A env own ms s (execs b env) f vars' st':=by
 induction b with
 | nil =>
  intro vars vars' st st' s ms f r v e
  exact ret3 (a:=FD.next) (b:=vars) (c:=st) e fun Q E hQ _=>wpAny_execs_nil (hQ _ _ _ ((Ext.refl _ _).ofNo v.wk) r v rfl)
 | cons x b ih =>
  intro vars vars' st st' s ms f r v e
  refine bF (o:=o.ex cx vars x st) e fun g q h1 h2=>?_
  obtain⟨vars₁,st₁⟩:=q
  induction g with
  | next=>exact fun Q E hQ hE=>wpAny_execs_cons (HX S r v h1 _ _ (fun fl s₁ ms₁ x₁ r₁ v₁ hf=>by
    subst hf
    exact ih r₁ v₁ h2 _ _ (fun fl s₂ ms₂ x₂=>hQ fl s₂ ms₂ (x₁.trans x₂)) fun c d hc y u s₂ s' ms₂ x₂=>hE c d hc y u s₂ s' ms₂ (x₁.trans x₂)) fun c d=>nx rfl)
  | brk=>exact ret3 (a:=FD.brk) (b:=vars₁) (c:=st₁) h2 fun Q E hQ hE=>wpAny_execs_cons (HX S r v h1 _ _ (fun fl s₁ ms₁ x₁ r₁ v₁ hf=>by subst hf; exact hQ _ _ _ x₁ r₁ v₁ rfl) fun c d=>nx rfl)
  | cont=>exact ret3 (a:=FD.cont) (b:=vars₁) (c:=st₁) h2 fun Q E hQ hE=>wpAny_execs_cons (HX S r v h1 _ _ (fun fl s₁ ms₁ x₁ r₁ v₁ hf=>by subst hf; exact hQ _ _ _ x₁ r₁ v₁ rfl) fun c d=>nx rfl)
  | ret d=>exact ret3 (a:=FD.ret d) (b:=vars₁) (c:=st₁) h2 fun Q E hQ hE=>wpAny_execs_cons (HX S r v h1 _ _ (fun fl s₁ ms₁ x₁ r₁ v₁ hf=>by obtain⟨u,rfl,p⟩:=hf; exact hQ _ _ _ x₁ r₁ v₁ (show FlowIs _ _ (.ret d) _ from⟨u,rfl,p⟩)) fun c d=>nx rfl)
  | exc c d=>exact ret3 (a:=FD.exc c d) (b:=vars₁) (c:=st₁) h2 fun Q E hQ hE=>wpAny_execs_cons (HX S r v h1 _ _ (fun _ _ _ _ _ _ hf=>hf.elim) hE)
theorem aTr {t:Expr} {a b:List Stmt} {pos:Pos} (HT:TrOk prog w G base mg mb n o) (HX:ExOk prog w G base mg mb n o) (S:Sit G base mg mb n A cx env own) (r:SR base ms st s) (v:VOk env own ms s.heap vars)
  (e:jZ G o cx vars (.If t a b pos) st=some (f,vars',st')):Runs prog w base A env own ms s (exec (.If t a b pos) env) f vars' st':=fun Q E hQ hE=>by
 refine bF (o:=o.tr cx vars t st) e fun c st₁ h1 h2=>wpAny_If (HT S r v h1 _ _ fun s₁ ms₁ x₁ r₁=>?_)
 have y₁:=x₁.ofNo v.wk
 cases c
 ·exact fR HX S b r₁ (v.ext r x₁) h2 _ _ (fun fl s₂ ms₂ x₂=>hQ _ _ _ (y₁.trans x₂)) fun c d hc y u s₂ s' ms₂ x₂=>hE c d hc y u s₂ s' ms₂ (y₁.trans x₂)
 ·exact fR HX S a r₁ (v.ext r x₁) h2 _ _ (fun fl s₂ ms₂ x₂=>hQ _ _ _ (y₁.trans x₂)) fun c d hc y u s₂ s' ms₂ x₂=>hE c d hc y u s₂ s' ms₂ (y₁.trans x₂)
theorem aAr {e':Expr} {pos:Pos} (H:EvOk prog w G base mg mb n o) (S:Sit G base mg mb n A cx env own) (r:SR base ms st s) (v:VOk env own ms s.heap vars)
  (e:jZ G o cx vars (.Return (some e') pos) st=some (f,vars',st')):Runs prog w base A env own ms s (exec (.Return (some e') pos) env) f vars' st' :=
 bF (o:=o.ev cx vars e' st) e fun d st₁ h1 e=>ret3 (a:=FD.ret d) (b:=vars) (c:=st₁) e fun Q E hQ hE=>wpAny_Return_some (H S r v h1 _ _ fun u s₁ ms₁ x₁ r₁ p₁=>hQ _ _ _ (x₁.ofNo v.wk) r₁ (v.ext r x₁) ⟨_,rfl,p₁⟩)
theorem aOe {f:Expr} {args:List Expr} {ks:List Keyword} {p pos:Pos} {v:Value} {Q:Flow→Shared→Prop} {E:Value→Shared→Prop} (h:Q .next s):wpAny (model prog w) A (dropValue (.Call f args ks p) pos v) Q E s:=by
 induction v using PySem.Value.casesOn with
 | ref a=>exact wpAny_bind (wpAny_standAt (wpAny_bind (wpAny_runValue (codeAny_builtin entry_let_go (show wpAny _ _ (ret .none) _ _ s from wpAny_pure (wpAny_pure h))))))
 | _=>exact wpAny_pure h
theorem aHx {f':Expr} {args:List Expr} {ks:List Keyword} {p pos:Pos} (H:EvOk prog w G base mg mb n o) (S:Sit G base mg mb n A cx env own) (r:SR base ms st s) (v:VOk env own ms s.heap vars)
  (e:jZ G o cx vars (.Expr (.Call f' args ks p) pos) st=some (f,vars',st')):Runs prog w base A env own ms s (exec (.Expr (.Call f' args ks p) pos) env) f vars' st':=by
 refine bF (o:=o.ev cx vars (.Call f' args ks p) st) e fun d st₁ h1 e=>ret3 (a:=FD.next) (b:=vars) (c:=st₁) e fun Q E hQ hE=>?_
 rw [arm_exec_Expr,(by unfold interactive; rw [S.en.kind]; rfl:interactive env=false)]
 refine wpAny_bind (wpAny_standAt ?_)
 rw [if_neg Bool.false_ne_true]
 refine wpAny_bind (wpAny_of_eq (rfl:swapsWith (.Call f' args ks p) none pos.line env=pure false) ?_)
 exact wpAny_bind (H S r v h1 _ _ fun u s₁ ms₁ x₁ r₁ p₁=>aOe (hQ _ _ _ (x₁.ofNo v.wk) r₁ (v.ext r x₁) rfl))
theorem aBj {t:Expr} {m:Option Expr} {pos:Pos} (HT:TrOk prog w G base mg mb n o) (S:Sit G base mg mb n A cx env own) (r:SR base ms st s) (v:VOk env own ms s.heap vars)
  (e:jZ G o cx vars (.Assert t m pos) st=some (f,vars',st')):Runs prog w base A env own ms s (exec (.Assert t m pos) env) f vars' st':=by
 refine bF (o:=o.tr cx vars t st) e fun c st₁ h1 h2=>?_
 cases c
 ·exact nn h2
 ·exact ret3 (a:=FD.next) (b:=vars) (c:=st₁) h2 fun Q E hQ hE=>wpAny_Assert_holds (HT S r v h1 _ _ fun s₁ ms₁ x₁ r₁=>⟨rfl,hQ _ _ _ (x₁.ofNo v.wk) r₁ (v.ext r x₁) rfl⟩)
theorem oG {c:Code} {R:Result→Shared→Prop} {g f:FD} {vars₂:Vars} {st₂:Store} {L:Option (FD×Vars×Store)} {fl:Flow} {E:Value→Shared→Prop} (hf:FlowIs ms s.heap g fl) (e:xI g vars₂ st₂ L=some (f,vars',st')) (r:SR base ms st₂ s) (v:VOk env own ms s.heap vars₂)
  (hc:L=some (f,vars',st')→c.quiet=true∧codeAny (model prog w) A c R s) (hd:∀ fl',SR base ms st' s→VOk env own ms s.heap vars'→FlowIs ms s.heap f fl'→R (.ok fl') s) :
  wpAny (model prog w) A (PySem.whileTurn.match_1 (fun _=>Sem Fin) fl (fun _=>again c) (fun _=>again c) (fun _=>pure (.done .next)) (fun v=>pure (.done (.ret v)))) (aAz prog w A R) E s:=by
 induction g with
 | next=>subst hf; exact wpAny_pure (hc e)
 | cont=>subst hf; exact wpAny_pure (hc e)
 | brk=>subst hf; exact wpAny_pure (ret3 (P:=fun f vars' st'=>(∀ fl',SR base ms st' s→VOk env own ms s.heap vars'→FlowIs ms s.heap f fl'→R (.ok fl') s)→R (.ok .next) s) e (fun k=>k _ r v rfl) hd)
 | ret d=>obtain⟨u,rfl,p⟩:=hf; exact wpAny_pure (ret3 (P:=fun f vars' st'=>(∀ fl',SR base ms st' s→VOk env own ms s.heap vars'→FlowIs ms s.heap f fl'→R (.ok fl') s)→R (.ok (.ret u)) s) e (fun k=>k _ r v (show FlowIs _ _ (.ret d) _ from⟨u,rfl,p⟩)) hd)
 | exc=>exact nn e
theorem pN {P:Prop} {g f:FD} {c:Nat} {d:D} {vars₂:Vars} {st₂:Store} {L:Option (FD×Vars×Store)} (hc:g=.exc c d) (e:xI g vars₂ st₂ L=some (f,vars',st')):P:=by subst hc; exact nn e
noncomputable def pR (prog:Program) (w:World) (base:Base) (A:Around) (env:Env) (own:List Addr) (W:Addr→Prop) (ms:List Addr) (s:Shared) (c:Code) (R:Result→Shared→Prop) (f:FD) (vars':Vars) (st':Store):Prop :=
 (∀ fl s' ms',Ext W s ms s' ms'→SR base ms' st' s'→VOk env own ms' s'.heap vars'→FlowIs ms' s'.heap f fl→R (.ok fl) s')→codeAny (model prog w) A c R s
theorem aLv {t:Expr} {b:List Stmt} {R:Result→Shared→Prop} (HT:TrOk prog w G base mg mb n o) (HX:ExOk prog w G base mg mb n o) (S:Sit G base mg mb n A cx env own) (m:Nat):∀ {vars vars':Vars} {st st':Store} {s:Shared} {ms:List Addr} {f:FD},SR base ms st s→VOk env own ms s.heap vars →
  whileGo o cx t b m vars st=some (f,vars',st')→pR prog w base A env own (Wr env own) ms s (.whileLoop t b [] env) R f vars' st':=by
 induction m with
 | zero=>exact fun _ _ e=>nn e
 | succ m ih =>
  intro vars vars' st st' s ms f r v e
  refine bF (o:=o.tr cx vars t st) e fun c st₁ h1 h2=>?_
  cases c
  ·refine ret3 (a:=FD.next) (b:=vars) (c:=st₁) h2 fun hR=>dH rfl fun E=>wpAny_bind (HT S r v h1 _ _ fun s₁ ms₁ x₁ r₁=>?_)
   exact wpAny_bind (wpAny_execs_nil (wpAny_pure (hR _ _ _ (x₁.ofNo v.wk) r₁ (v.ext r x₁) rfl)))
  ·refine bF (o:=exs o cx vars b st₁) h2 fun g q h3 h4 hR=>dH rfl fun E=>wpAny_bind (HT S r v h1 _ _ fun s₁ ms₁ x₁ r₁=>?_)
   refine wpAny_bind (fR HX S b r₁ (v.ext r x₁) h3 _ _ (fun fl s₂ ms₂ x₂ r₂ v₂ hf=>?_) fun c d hc=>pN hc h4)
   have x:=(x₁.ofNo v.wk).trans x₂
   exact oG hf h4 r₂ v₂ (fun e=>⟨rfl,ih r₂ v₂ e fun fl s₃ ms₃ x₃=>hR _ _ _ (x.trans x₃)⟩) fun fl=>hR _ _ _ x
theorem aGz {t:Expr} {b:List Stmt} {pos:Pos} (HT:TrOk prog w G base mg mb n o) (HX:ExOk prog w G base mg mb n o) (S:Sit G base mg mb n A cx env own) (r:SR base ms st s) (v:VOk env own ms s.heap vars)
  (e:jZ G o cx vars (.While t b [] pos) st=some (f,vars',st')):Runs prog w base A env own ms s (exec (.While t b [] pos) env) f vars' st':=fun Q E hQ hE=>by
 exact wpAny_While (aLv HT HX S turns r v e hQ)
variable {I:Addr} {ds:List D} {fp:List Addr} {P:Nat→Value→Prop} {St:Nat→Heap→Prop} {k:Nat}
theorem aSj {t:Expr} {b:List Stmt} {R:Result→Shared→Prop} (HA:eN prog w G base mg mb n o) (HX:ExOk prog w G base mg mb n o) (S:Sit G base mg mb n A cx env own) (hw:¬ Wr env own I) (m:Nat) :
  ∀ {k:Nat} {vars vars':Vars} {ms:List Addr} {st st':Store} {s:Shared} {f:FD},m+k=ds.length→SR base ms st s→VOk env own ms s.heap vars→Src prog w A base ms s I ds fp P St k →
   forGo o cx t b (ds.drop k) vars st=some (f,vars',st')→pR prog w base A env own (WrI env own I) ms s (.forLoop t (.ref I) b [] env) R f vars' st':=by
 induction m with
 | zero =>
  intro k vars vars' ms st st' s f hk r v hI e
  cases (Nat.zero_add k).symm.trans hk
  rw [List.drop_length] at e
  refine ret3 (a:=FD.next) (b:=vars) (c:=st) e fun hR=>dH rfl fun E=>wpAny_bind (wpAny_standAt (wpAny_bind (wpAny_onRaise (aIs hI r _ _ fun s₁ x₁ r₁=>?_))))
  exact wpAny_pure ⟨rfl,codeAny_block (wpAny_execs_nil (hR _ _ _ (x₁.widen aBy (wkI v hI)) r₁ (v.extI r hI x₁) rfl))⟩
 | succ m ih =>
  intro k vars vars' ms st st' s f hk r v hI e
  have hk':k < ds.length:=by lia
  refine fun hR=>dH rfl fun E=>wpAny_bind (wpAny_standAt (wpAny_bind (wpAny_onRaise (aBr hI hk' r _ _ fun u d s₁ hd x₁ r₁ I₁ p₁=>?_))))
  obtain⟨oI,hoI,_,cI,hcI,hhI,vI,hdI⟩:=I₁.nonseq _ _ I₁.st
  rw [wH hk' hd] at e
  refine bF (o:=o.asg cx vars t d st) e fun vars₁ st₁ h1 e=>bF (o:=exs o cx vars₁ b st₁) e fun g q h2 h3=>?_
  have v₁:=v.extI r hI x₁
  refine wpAny_bind (nO hoI hcI hhI hdI (wpAny_bind (HA S r₁ v₁ p₁ h1 _ _ fun s₂ ms₂ x₂ r₂ v₂=>?_)))
  have I₂:=I₁.ext x₂ hw
  refine wpAny_bind (fR HX S b r₂ v₂ h2 _ _ (fun fl s₃ ms₃ x₃ r₃ v₃ hf=>?_) fun c d hc=>pN hc h3)
  have Y:=(x₁.widen (W':=WrI env own I) aBy (wkI v hI)).trans ((x₂.widen (W':=WrI env own I) oB (wkI v₁ I₁)).trans (x₃.widen (W':=WrI env own I) oB (wkI v₂ I₂)))
  exact oG hf h3 r₃ v₃ (fun e=>⟨rfl,ih (by lia) r₃ v₃ (I₂.ext x₃ hw) e fun fl s₄ ms₄ x₄=>hR _ _ _ (Y.trans x₄)⟩) fun fl=>hR _ _ _ Y
theorem aHv {t it:Expr} {b:List Stmt} {pos:Pos} {src:D} {st₁:Store} (H:EvOk prog w G base mg mb n o) (HA:eN prog w G base mg mb n o) (HX:ExOk prog w G base mg mb n o) (hns:cW o) (S:Sit G base mg mb n A cx env own) (r:SR base ms st s) (v:VOk env own ms s.heap vars)
  (h1:o.ev cx vars it st=some (src,st₁)) (h2:drawn src=some ds) (h3:forGo o cx t b ds vars st₁=some (f,vars',st')):Runs prog w base A env own ms s (exec (.For t it b [] pos) env) f vars' st':=fun Q E hQ hE=>by
 rw [arm_exec_For]
 refine wpAny_bind (wpAny_standAt (wpAny_bind (H S r v h1 _ _ fun u s₁ ms₁ x₁ r₁ p₁=>?_)))
 refine wpAny_bind (wpAny_of_eq (jJ (fun es k p q=>by rw [q,hns] at h1; exact nn h1)) (wpAny_bind (wpAny_standAt (wpAny_bind (wpAny_holding ?_)))))
 have v₁:=v.ext r x₁
 refine tZ h2 S.ar r₁ p₁ _ _ fun I s₂ fp P St x₂ r₂ hI src₂=>wpAny_runOwn ?_
 rw [iS]
 exact aSj HA HX S (eU v₁ hI) ds.length (k:=0) rfl r₂ (v₁.ext r₁ x₂) src₂ h3 fun fl s₃ ms₃ x₃=>hQ _ _ _ ((x₁.ofNo v.wk).trans (Ext.forget x₂ x₃ hI v₁.wk))
end
end Mine
end
section -- S19
open PySem PyProof.Rows PySem.SeqAt
namespace Mine
section
variable {prog:Program} {w:World} {A:Around} {s:Shared} {base:Base} {ms:List Addr} {st st':Store} {cx:Cx} {env:Env} {own:List Addr} {vars vars':Vars} {G:Gx} {mg mb:Str→Option Value} {n:Nat} {o:Ops} {f:FD}
theorem aJe (r:SR base ms st s):let s':Shared:={ s with heap:=s.heap.push { cls:=.type "list",data:=.seq ([]:List Value).toArray } }
  Ext No s ms s' (ms++[s.heap.objs.size])∧SR base (ms++[s.heap.objs.size]) (st++[[]]) s'∧Rep (ms++[s.heap.objs.size]) s'.heap (.cell st.length) (.ref s.heap.objs.size):=by
 obtain⟨x,r'⟩:=r.grow (h:=s.heap.push { cls:=.type "list",data:=.seq ([]:List Value).toArray }) (tk:=s.toks) (a:=s.heap.objs.size) (vs:=[]) (l:=[]) (n:=0) (Nat.le_refl _) (Nat.le_refl _) (by rw [Heap.size_push]; lia)
  (fun b o' e=>Heap.get?_push_of_some _ e) (Heap.get?_push_size _ rfl) Reps.nil rfl
 refine⟨x,r',?_⟩
 rw [Rep]
 exact⟨_,rfl,by rw [← r.len]; simp⟩
theorem tE {α:Type} {t:Sem α} {a:α} (h:tM t=some a):t=pure a:=by
 induction t using PySem.Sem.casesOn with
 | pure b=>exact ret1 (P:=fun x=>Sem.pure b=pure x) h rfl
 | _=>exact nn h
theorem aCa {e:Expr} {es:List Expr} (h:tupE e=some es):∃ k p,e=.Tuple es k p:=by
 induction e using PySem.Expr.casesOn with
 | Tuple es k p=>exact ret1 (P:=fun x=>∃ k' p',Expr.Tuple es k p=.Tuple x k' p') h ⟨k,p,rfl⟩
 | _=>exact nn h
theorem aKu {e:Expr} (h:aRb e=true):∃ p,e=.List [] p:=by
 induction e using PySem.Expr.casesOn with
 | List es p=>cases es with
  | nil=>exact⟨p,rfl⟩
  | cons=>exact absurd h Bool.false_ne_true
 | _=>exact absurd h Bool.false_ne_true
theorem aCo {e:Expr} (h:isLC e=true):∃ a b c p,e=.ListComp a b c p:=by
 induction e using PySem.Expr.casesOn with
 | ListComp a b c p=>exact⟨a,b,c,p,rfl⟩
 | _=>exact absurd h Bool.false_ne_true
theorem evA1_act {e:Expr} {d:D} (H:EvOk prog w G base mg mb n o) (HC:cZ prog w G base mg mb n o) (hns:cW o) (S:Sit G base mg mb n A cx env own) (r:SR base ms st s) (v:VOk env own ms s.heap vars)
  (h:evA1 G o cx vars e st=some (d,st')):Acts prog w A base ms s (eval e env) d st':=by
 unfold evA1 at h
 refine ifE h (fun hn h=>?_) fun _ h=>ifE h (fun hl h=>?_) fun _ h=>H S r v h
 ·obtain⟨p,rfl⟩:=aKu hn
  refine ret2 h fun Q E hQ=>wpAny_List_spliced (Calls.spliced_nil ⟨Nat.zero_le _,?_⟩)
  obtain⟨x,r',p⟩:=aJe r
  exact hQ _ _ _ x r' p
 ·obtain⟨a,b,c,p,rfl⟩:=aCo hl
  exact lO H HC hns S r v h
theorem aFf {pos:Pos} (H:EvOk prog w G base mg mb n o) (HC:cZ prog w G base mg mb n o) (hns:cW o) (S:Sit G base mg mb n A cx env own) (es:List Expr):∀ {ds:List D} {st st':Store} {s:Shared} {ms:List Addr},SR base ms st s→VOk env own ms s.heap vars →
  evA1s G o cx vars es st=some (ds,st')→kS prog w A base ms s (spliced (backTo pos (starEach es env))) ds st':=by
 induction es with
 | nil =>
  intro ds st st' s ms r v e
  refine ret2 (a:=[]) (b:=st) e fun Q E hQ=>?_
  exact Calls.spliced_nil (hQ _ _ _ (Ext.refl _ _) r Reps.nil)
 | cons x es ih =>
  intro ds st st' s ms r v e
  refine ifN (c:=isStar x=true) e fun hs e=>?_
  refine bF (o:=evA1 G o cx vars x st) e fun d st₁ e1 e=>?_
  refine bF (o:=evA1s G o cx vars es st₁) e fun ds' st₂ e2 e=>?_
  refine ret2 (a:=d::ds') (b:=st₂) e fun Q E hQ=>?_
  rw [iY (Bool.eq_false_iff.mpr hs)]
  exact Calls.spliced_cons (evA1_act H HC hns S r v e1 _ _ fun u s₁ ms₁ x₁ r₁ p₁=>ih r₁ (v.ext r x₁) e2 _ _ fun vs s₂ ms₂ x₂ r₂ p₂=>hQ _ _ _ (x₁.trans x₂) r₂ (Reps.cons (p₁.ext x₂) p₂))
theorem aCg {e:Expr} {d:D} (H:EvOk prog w G base mg mb n o) (HC:cZ prog w G base mg mb n o) (hns:cW o) (S:Sit G base mg mb n A cx env own) (r:SR base ms st s) (v:VOk env own ms s.heap vars)
  (h:evA G o cx vars e st=some (d,st')):Acts prog w A base ms s (eval e env) d st':=by
 unfold evA at h
 cases ht:tupE e with
 | none=>rw [ht] at h; exact evA1_act H HC hns S r v h
 | some es =>
  rw [ht] at h
  obtain⟨k,p,rfl⟩:=aCa ht
  refine bF (o:=evA1s G o cx vars es st) h fun ds st₁ h1 h=>?_
  refine ifS (c:=fits ds.length=true) h fun hc h=>ret2 (a:=.tuple ds) (b:=st₁) h fun Q E hQ=>?_
  refine wpAny_Tuple_spliced (aFf H HC hns S _ r v h1 _ _ fun vs s₁ ms₁ x₁ r₁ p₁=>⟨tV hc p₁,?_⟩)
  exact hQ _ _ ms₁ (x₁.trans (dQ (s:=s₁) _ (Nat.le_refl _) (fun _ _ f=>f.elim))) (r₁.push _ (Nat.le_refl _)) (jO (n:=0) r₁ p₁)
theorem Reps.reverse {h:Heap} {ds:List D} {vs:List Value} (p:Reps ms h ds vs):Reps ms h ds.reverse vs.reverse:=by
 induction ds generalizing vs with
 | nil=>subst p; exact Reps.nil
 | cons d ds ih =>
  skip
  obtain⟨u,us,rfl,pu,pus⟩:=p
  rw [List.reverse_cons,List.reverse_cons]
  exact (ih pus).append (Reps.cons pu Reps.nil)
set_option tactic.hygienic true in
theorem kZ (S:Sit G base mg mb n A cx env own):∀ (xs:List Str) (ds:List D) {vars vars':Vars} {vs:List Value} {s:Shared},SR base ms st s→VOk env own ms s.heap vars→Reps ms s.heap ds vs→iM cx vars xs ds=some vars' →
  Stores prog w base A env own ms s (assignInOrder (xs.map fun x=>bindName env x) vs) vars' st
 | [],[],vars,vars',vs,s,r,v,p,e=>fun Q E hQ=>by
  cases (show some vars=some _ from e)
  exact wpAny_pure (hQ _ _ ((Ext.refl _ _).ofNo v.wk) r v)
 | [],_::_,_,_,_,_,_,_,_,e=>nomatch (show none=some _ from e)
 | _::_,[],_,_,_,_,_,_,_,e=>nomatch (show none=some _ from e)
 | x::xs,d::ds,vars,vars',vs,s,r,v,p,e=>fun Q E hQ=>by
  have e:(if stored cx x then iM cx (vset x d vars) xs ds else none)=some vars':=e
  split at e
  case isFalse=>exact nn e
  rename_i hx
  skip
  obtain⟨u,us,rfl,pu,pus⟩:=p
  show wpAny _ _ (holding us (bindName env x u) >>= fun _=>assignInOrder (xs.map fun x=>bindName env x) us) _ _ _
  refine wpAny_bind (wpAny_holding (wpAny_bindName (pD S.en r v hx pu _ _ fun s₁ x₁ r₁ v₁=>?_)))
  exact kZ S xs ds r₁ v₁ (pus.ext x₁) e _ _ fun s₂ ms₂ x₂ r₂ v₂=>hQ _ _ (x₁.trans x₂) r₂ v₂
theorem aTx {t e:Expr} {l:Nat} {nm:List (Str×NameKind)} (h1:env.scope.kind=.function) (h2:env.scope.names=nm):swapsWith e (some t) l env=swapsWith e (some t) l (envD nm)∧swappedStores [t] e env=swappedStores [t] e (envD nm):=by
 obtain⟨⟨k,nm',_,_,_⟩,_,_,_,_,_,_,_,_⟩:=env
 subst h2
 cases (show k=.function from h1)
 exact⟨rfl,rfl⟩
theorem zM {t e:Expr} {l:Nat} {k:Option (List Str)} {P:Prop} (E:EnvOk base cx env own) (h:jG cx t e l=some k) (p:swapsWithSole [t] e l env=pure false→swappedStores [t] e env=pure k→P)
  (q:k=none→isLC e=true→swapsWithSole [t] e l env=pure true→P):P:=by
 have W:=aTx (t:=t) (e:=e) (l:=l) E.kind E.names
 refine bE (o:=tM (swapsWith e (some t) l (envD cx.names))) h fun b h1 h=>?_
 have h1:=W.1.trans (tE h1)
 cases b
 ·exact p h1 (W.2.trans (tE h))
 ·exact ifS (c:=isLC e=true) h fun hl h=>q (Option.some.inj h).symm hl h1
end
end Mine
end
section -- S20
open PySem PyProof.Rows PySem.SeqAt
namespace Mine
section
variable {prog:Program} {w:World} {A:Around} {s:Shared} {base:Base} {ms:List Addr} {st st':Store} {cx:Cx} {env:Env} {own:List Addr} {vars vars':Vars} {G:Gx} {mg mb:Str→Option Value} {n:Nat} {o:Ops} {f:FD}
theorem qQ (t:Expr) (h:∀ e p,t≠.Starred e p):(assignEach [t] env).map (·.2)=[assign t env]:=by rw [iG h]; rfl
theorem aAa {t e':Expr} {pos:Pos} (H:EvOk prog w G base mg mb n o) (HA:eN prog w G base mg mb n o) (HC:cZ prog w G base mg mb n o) (hns:cW o) (hst:cD o) (S:Sit G base mg mb n A cx env own) (r:SR base ms st s) (v:VOk env own ms s.heap vars)
  (e:jZ G o cx vars (.Assign [t] e' pos) st=some (f,vars',st')):Runs prog w base A env own ms s (exec (.Assign [t] e' pos) env) f vars' st':=by
 have e:dO G o cx vars t e' pos.line st=some (f,vars',st'):=e
 unfold dO at e
 cases hk:jG cx t e' pos.line with
 | none=>rw [hk] at e; exact nn e
 | some k =>
  rw [hk] at e
  refine zM S.en hk (fun hb hsw=>?_) fun hn hl hb=>?_
  ·cases k with
   | none =>
    refine bF (o:=evA G o cx vars e' st) e fun d st₁ h1 e=>bF (o:=o.asg cx vars t d st₁) e fun vars₁ st₂ h2 e=>ret3 (a:=FD.next) (b:=vars₁) (c:=st₂) e fun Q E hQ _=>?_
    rw [arm_exec_Assign,qQ t fun e p q=>by subst q; rw [hst] at h2; exact nn h2]
    refine wpAny_bind (wpAny_standAt (wpAny_bind (wpAny_of_eq hb ?_)))
    refine wpAny_bind (aCg H HC hns S r v h1 _ _ fun u s₁ ms₁ x₁ r₁ p₁=>wpAny_bind (wpAny_of_eq hsw ?_))
    exact wpAny_bind (HA S r₁ (v.ext r x₁) p₁ h2 _ _ fun s₂ ms₂ x₂ r₂ v₂=>wpAny_pure (hQ _ _ _ ((x₁.ofNo v.wk).trans x₂) r₂ v₂ rfl))
   | some xs =>
    refine bF (o:=evA G o cx vars e' st) e fun d st₁ h1 h2=>?_
    cases d with
    | tuple ds =>
     refine ifS (c:=(ds.length == xs.length)=true) h2 fun hlen h2=>bE h2 fun vars₁ h3 h2=>ret3 (a:=FD.next) (b:=vars₁) (c:=st₁) h2 fun Q E hQ _=>?_
     rw [arm_exec_Assign]
     refine wpAny_bind (wpAny_standAt (wpAny_bind (wpAny_of_eq hb ?_)))
     refine wpAny_bind (aCg H HC hns S r v h1 _ _ fun u s₁ ms₁ x₁ r₁ p₁=>wpAny_bind (wpAny_of_eq hsw (wpAny_bind (wpAny_rule (wpAny_bind ?_)))))
     rw [← (eq_of_beq hlen:ds.length=xs.length)]
     refine iW (.inr rfl) S.ar r₁ p₁ _ _ fun us s₂ x₂ r₂ p₂=>?_
     have v₂:=(v.ext r x₁).ext r₁ x₂
     exact wpAny_bind (kZ S xs.reverse ds.reverse r₂ v₂ p₂.reverse h3 _ _ fun s₃ ms₃ x₃ r₃ v₃=>wpAny_pure (hQ _ _ _ (((x₁.trans x₂).ofNo v.wk).trans x₃) r₃ v₃ rfl))
    | _=>exact nn h2
  ·subst hn
   obtain⟨elt,gens,sc,p,rfl⟩:=aCo hl
   refine bF (o:=evA G o cx vars (.ListComp elt gens sc p) st) e fun d st₁ h1 e=>bF (o:=o.asg cx vars t d st₁) e fun vars₁ st₂ h2 e=>ret3 (a:=FD.next) (b:=vars₁) (c:=st₂) e fun Q E hQ _=>?_
   rw [arm_exec_Assign,qQ t fun e p q=>by subst q; rw [hst] at h2; exact nn h2]
   refine wpAny_bind (wpAny_standAt (wpAny_bind (wpAny_of_eq hb ?_)))
   exact wpAny_bind (vM H HA HC hns S r v h1 h2 _ _ fun s₂ ms₂ x₂ r₂ v₂=>wpAny_pure (hQ _ _ _ x₂ r₂ v₂ rfl))
theorem aFp {x:Str} {xp cp pos:Pos} {a:Expr} (H:EvOk prog w G base mg mb n o) (HR:∀ c,G.exc c=true→RaiseOk prog w base.heap c) (h2n:2≤n) (S:Sit G base mg mb n A cx env own) (r:SR base ms st s) (v:VOk env own ms s.heap vars)
  (e:(o.ev cx vars (.Name x xp) st).bind (fun q=>(o.ev cx vars a q.2).bind fun q'=>raised G a q.1 q'.1 vars q'.2)=some (f,vars',st')):Runs prog w base A env own ms s (exec (.Raise (some (.Call (.Name x xp) [a] [] cp)) none pos) env) f vars' st' :=
 bF (o:=o.ev cx vars (.Name x xp) st) e fun g st₁ h1 e=>bF (o:=o.ev cx vars a st₁) e fun d st₂ h2 e=>bE (o:=objD g) e fun c hg e=>ifS (c:=(G.exc c&&!(isStar a))=true) e fun hc e=>by
 rw [nT hg] at h1
 refine ret3 (a:=FD.exc c d) (b:=vars) (c:=st₂) e fun Q E hQ hE=>?_
 refine HR c (and2 hc).1 (S.ar.less h2n) (no (and2 hc).2) (H S r v h1 _ _ fun u s₁ ms₁ x₁ r₁ p₁=>?_)
 exact⟨p₁,H S r₁ (v.ext r x₁) h2 _ _ fun y s₂ ms₂ x₂ r₂ p₂=>⟨r₂.keep,fun h' ex hm=>hE c d rfl (.ref ex) y s₂ _ ms₂ ((x₁.trans x₂).ofNo v.wk) r₂ p₂ ⟨h',ex,rfl,rfl,hm⟩⟩⟩
theorem aPr {b:List Stmt} {hs:List ExceptHandler} {pos:Pos} (HX:ExOk prog w G base mg mb n o) (S:Sit G base mg mb n A cx env own) (r:SR base ms st s) (v:VOk env own ms s.heap vars)
  (e:(exs o cx vars b st).bind quiet=some (f,vars',st')):Runs prog w base A env own ms s (exec (.Try b hs [] [] pos) env) f vars' st' :=
 bF (o:=exs o cx vars b st) e fun g q h1 e=>ifN (c:=aKe g=true) e fun hg e=>by
 obtain⟨vars₁,st₁⟩:=q
 refine ret3 (a:=g) (b:=vars₁) (c:=st₁) e fun Q E hQ hE=>?_
 rw [arm_exec_Try]
 refine wpAny_bind (wpAny_standAt (wpAny_bind (wpAny_attempt (fR HX S b r v h1 _ _ (fun fl s₁ ms₁ x₁ r₁ v₁ hf=>?_) fun c d=>nx (Bool.eq_false_iff.mpr hg)))))
 induction g with
 | next=>subst hf; exact wpAny_execs_nil (hQ _ _ _ x₁ r₁ v₁ rfl)
 | brk=>subst hf; exact wpAny_pure (hQ _ _ _ x₁ r₁ v₁ rfl)
 | cont=>subst hf; exact wpAny_pure (hQ _ _ _ x₁ r₁ v₁ rfl)
 | ret d=>obtain⟨u,rfl,p⟩:=hf; exact wpAny_pure (hQ _ _ _ x₁ r₁ v₁ (show FlowIs _ _ (.ret d) _ from⟨u,rfl,p⟩))
 | exc=>exact hf.elim
end
end Mine
end
section -- S21
open PySem PyProof.Rows PySem.SeqAt
namespace Mine
set_option genInjectivity false in
structure Zip (base:Base) (ms:List Addr) (st:Store) (s:Shared) (z TI TO i1 i2 l1 l2:Addr) (xs ys:List Value) (dx dy:List D) (kh k:Nat):Prop where
 apart:ZipApart z TI TO i1 i2 l1 l2
 hz:IsZip s.heap z TI TO .none
 hTI:IsPair s.heap TI (.ref i1) (.ref i2)
 h1:s.heap.IsListIter i1 l1 k
 h2:s.heap.IsListIter i2 l2 k
 hl1:s.heap.IsList l1 xs.toArray
 hl2:s.heap.IsList l2 ys.toArray
 px:Reps ms s.heap dx xs
 py:Reps ms s.heap dy ys
 m:ms[kh]? = some TO
 mz:z∉ms
 mTI:TI∉ms
 m1:i1∉ms
 m2:i2∉ms
 ml1:l1∉ms
 ml2:l2∉ms
 bz:base.get? z=none
 b1:base.get? i1=none
 b2:base.get? i2=none
 bO:base.get? TO=none
section
variable {prog:Program} {w:World} {A:Around} {s:Shared} {base:Base} {ms:List Addr} {st st':Store} {cx:Cx} {env:Env} {own:List Addr} {vars vars':Vars} {G:Gx} {mg mb:Str→Option Value} {n:Nat} {o:Ops} {f:FD}
variable {z TI TO i1 i2 l1 l2:Addr} {xs ys:List Value} {dx dy:List D} {kh k:Nat}
noncomputable def Zw (z i1 i2:Addr):Addr→Prop:=fun a=>a=z∨a=i1∨a=i2
theorem aAy (h:Zip base ms st s z TI TO i1 i2 l1 l2 xs ys dx dy kh k):∀ a o',Zw z i1 i2 a→s.heap.get? a=some o'→¬ isSeqData o':=fun a o' hw e q=>by
 have fin:∀ {o'':Obj} {c:String} {vs},o''.cls=.type c→o''.data=.fields vs→c≠"range"→¬ isSeqData o'':=fun hc hd hne q=>by
  rcases q with ⟨_,_,q⟩ | ⟨q,_⟩
  ·rw [hd] at q; cases q
  ·rw [hc] at q; cases q; exact hne rfl
 rcases hw with rfl | rfl | rfl
 ·have this:s.heap.get? a=some _:=h.hz
  rw [e] at this; cases this
  exact fin rfl rfl (by decide) q
 ·obtain⟨o'',ho,hc,hd⟩:=h.h1
  rw [e] at ho; cases ho
  exact fin hc hd (by decide) q
 ·obtain⟨o'',ho,hc,hd⟩:=h.h2
  rw [e] at ho; cases ho
  exact fin hc hd (by decide) q
theorem wG (h:Zip base ms st s z TI TO i1 i2 l1 l2 xs ys dx dy kh k) {a:Addr} {o':Obj} (hw:Zw z i1 i2 a) (e:s.heap.get? a=some o'):¬ isFr o':=by
 rcases hw with rfl | rfl | rfl
 ·have this:s.heap.get? a=some _:=h.hz
  rw [e] at this; cases this
  exact noFr rfl (by intro _ _ q; cases q)
 ·obtain⟨o'',ho,hc,hd⟩:=h.h1
  rw [e] at ho; cases ho
  exact noFr hd (by intro _ _ q; cases q)
 ·obtain⟨o'',ho,hc,hd⟩:=h.h2
  rw [e] at ho; cases ho
  exact noFr hd (by intro _ _ q; cases q)
theorem Zip.ext {W:Addr→Prop} {s':Shared} {ms':List Addr} {st':Store} (h:Zip base ms st s z TI TO i1 i2 l1 l2 xs ys dx dy kh k) (x:Ext W s ms s' ms') (hw:¬ W z∧¬ W i1∧¬ W i2):Zip base ms' st' s' z TI TO i1 i2 l1 l2 xs ys dx dy kh k:=by
 obtain⟨o1,ho1,r1⟩:=h.h1
 obtain⟨o2,ho2,r2⟩:=h.h2
 obtain⟨p1,hp1,c1,n1,d1⟩:=h.hl1
 obtain⟨p2,hp2,c2,n2,d2⟩:=h.hl2
 exact⟨h.apart,(x.keep _ _ h.mz hw.1 h.hz).exact (noFr rfl (by intro _ _ q; cases q)),(x.get h.mTI (isSeqData_seq rfl) h.hTI).2,⟨o1,(x.keep _ _ h.m1 hw.2.1 ho1).exact (noFr r1.2 (by intro _ _ q; cases q)),r1⟩,⟨o2,(x.keep _ _ h.m2 hw.2.2 ho2).exact (noFr r2.2 (by intro _ _ q; cases q)),r2⟩,
  ⟨p1,(x.get h.ml1 (isSeqData_seq d1) hp1).2,c1,n1,d1⟩,⟨p2,(x.get h.ml2 (isSeqData_seq d2) hp2).2,c2,n2,d2⟩,h.px.ext x,h.py.ext x,x.pre _ _ h.m,x.away h.mz h.hz,x.away h.mTI h.hTI,x.away h.m1 ho1,x.away h.m2 ho2,x.away h.ml1 hp1,x.away h.ml2 hp2,h.bz,h.b1,h.b2,h.bO⟩
theorem aKh {h':Heap} {tk:Nat} (h:Zip base ms st s z TI TO i1 i2 l1 l2 xs ys dx dy kh k) (r:SR base ms st s) (hh:st[kh]? = some [.cell 0]) (ht:s.toks≤tk) (hz:s.heap.objs.size≤h'.objs.size)
  (hk:∀ b o',b∉[z,TO,i1,i2]→s.heap.get? b=some o'→h'.get? b=some o') (hO:∃ a b,IsPair h' TO a b) :
  Ext (Zw z i1 i2) s ms { s with heap:=h',toks:=tk } ms∧SR base ms st { s with heap:=h',toks:=tk }:=by
 have hTOm:TO∈ms:=aV h.m
 have hk':∀ b o',¬ Zw z i1 i2 b→b≠TO→s.heap.get? b=some o'→h'.get? b=some o':=fun b o' hw hne e=>hk b o' (fun q=>by
  simp only [List.mem_cons,List.not_mem_nil,or_false] at q
  rcases q with q | q | q | q
  ·exact hw (.inl q)
  ·exact hne q
  ·exact hw (.inr (.inl q))
  ·exact hw (.inr (.inr q))) e
 have x:Ext (Zw z i1 i2) s ms { s with heap:=h',toks:=tk } ms:=⟨rfl,rfl,ht,hz,fun _ _ e=>e,fun _ q=>.inl q,fun b o' hb hw e=>.of (hk' b o' hw (fun q=>hb (q▸hTOm)) e),aAy h⟩
 have hmw:∀ a∈ms,¬ Zw z i1 i2 a:=fun a ha q=>by
  rcases q with rfl | rfl | rfl
  ·exact h.mz ha
  ·exact h.m1 ha
  ·exact h.m2 ha
 refine⟨x,⟨fun a o' e=>?_,r.fresh,r.nodup,r.len,fun j l e=>?_,r.clean,Nat.lt_of_lt_of_le r.toks ht,fun a ha=>?_,fun j a l h1 h2 h3=>?_,fun L hL=>?_⟩⟩
 ·refine hk' a o' (fun q=>?_) (fun q=>?_) (r.keepx a o' e)
  ·rcases q with rfl | rfl | rfl
   ·rw [h.bz] at e; exact nn e
   ·rw [h.b1] at e; exact nn e
   ·rw [h.b2] at e; exact nn e
  ·rw [q,h.bO] at e; exact nn e
 ·obtain⟨a,vs,nn,hm,hl,hr⟩:=r.lists j l e
  refine⟨a,vs,nn,hm,hk' a _ (hmw a (aV hm)) (fun q=>?_) hl,hr.ext x⟩
  subst q
  have hj:j=kh:=(List.getElem?_inj (by have:=(List.getElem?_eq_some_iff.mp hm).1; exact this) r.nodup).mp (hm.trans h.m.symm)
  subst hj
  have:=aN.mp e
  rw [hh] at this
  cases this.1
  exact absurd this.2 (by decide)
 ·by_cases haT:a=TO
  ·subst haT
   obtain⟨u,v,hO⟩:=hO
   exact⟨_,_,_,hO,rfl⟩
  ·obtain⟨o',vs,nn,ho,hd⟩:=r.seqs a ha
   exact⟨o',vs,nn,hk' a o' (hmw a ha) haT ho,hd⟩
 ·by_cases haT:a=TO
  ·subst haT; exact hO
  ·obtain⟨x',y',ho⟩:=r.hids j a l h1 h2 h3
   exact⟨x',y',hk' a _ (hmw a (aV h1)) haT ho⟩
 ·obtain⟨h1,o',ho',hd'⟩:=r.frs L hL
  exact⟨h1,o',hk' L o' (fun q=>wG h q ho' hd') (fun q=>r.frAway hL (q▸hTOm)) ho',hd'⟩
noncomputable def WrZ (env:Env) (own:List Addr) (z i1 i2:Addr):Addr→Prop:=fun a=>Wr env own a∨Zw z i1 i2 a
theorem VOk.extZ (v:VOk env own ms s.heap vars) (r:SR base ms st s) (h:Zip base ms st s z TI TO i1 i2 l1 l2 xs ys dx dy kh k) {s':Shared} (x:Ext (Zw z i1 i2) s ms s' ms):VOk env own ms s'.heap vars:=by
 have nz:∀ a o',s.heap.get? a=some o'→Zw z i1 i2 a→∃ vs,o'.data=.fields vs:=fun a o' e hw=>by
  rcases hw with rfl | rfl | rfl
  ·have this:s.heap.get? a=some _:=h.hz
   rw [e] at this; cases this; exact⟨_,rfl⟩
  ·obtain⟨o'',ho,hc,hd⟩:=h.h1
   rw [e] at ho; cases ho; exact⟨_,hd⟩
  ·obtain⟨o'',ho,hc,hd⟩:=h.h2
   rw [e] at ho; cases ho; exact⟨_,hd⟩
 have kc:∀ c v,s.heap.IsCell c v→s'.heap.IsCell c v:=fun c v hc=>by
  obtain⟨o,ho,hd⟩:=dM hc
  obtain⟨o',ho',hd'⟩:=hc
  rw [ho] at ho'; cases ho'
  refine mQ ⟨o,ho,hd'⟩ fun o₂ e₂=>x.keep c o₂ (by rw [ho] at e₂; cases e₂; exact r.no_dict ho hd) (fun q=>?_) e₂
  obtain⟨vs,hv⟩:=nz c o ho q
  rw [hd'] at hv; cases hv
 refine⟨?_,fun y d hy hk=>?_,fun c hc=>?_⟩
 ·obtain⟨m,hn,hm⟩:=v.ns
  obtain⟨o,ho,hd⟩:=cL hn
  refine⟨m,?_,fun y d hy hk=>?_⟩
  ·refine ns_kept hn fun o₂ e₂=>x.keep _ o₂ (by rw [ho] at e₂; cases e₂; exact r.no_dict ho hd) (fun q'=>?_) e₂
   obtain⟨o',es,ep,ho',q⟩:=hn
   rw [ho] at ho'; cases ho'
   obtain⟨vs,hv⟩:=nz _ o ho q'
   rw [hv] at q; cases q.1
  ·obtain⟨u,hu,pu⟩:=hm y d hy hk
   exact⟨u,hu,pu.ext x⟩
 ·obtain⟨c,u,h1,h2,h3⟩:=v.cel y d hy hk
  exact⟨c,u,h1,kc _ _ h2,h3.ext x⟩
 ·obtain⟨u,hu⟩:=v.own c hc
  exact⟨u,kc _ _ hu⟩
theorem wkZ (v:VOk env own ms s.heap vars) (h:Zip base ms st s z TI TO i1 i2 l1 l2 xs ys dx dy kh k):∀ a o',WrZ env own z i1 i2 a→s.heap.get? a=some o'→¬ isSeqData o':=fun a o' hw e=>by
 rcases hw with hw | hw
 ·exact v.wk a o' hw e
 ·exact aAy h a o' hw e
end
end Mine
end
section -- S22
open PySem PyProof.Rows PySem.SeqAt
namespace Mine
section
variable {prog:Program} {w:World} {A:Around} {E:Value→Shared→Prop} {s:Shared}
theorem aHo {z TI TO i1 i2 l1 l2:Addr} {k1:Nat} {xs:Array Value} {Q:Option Value→Shared→Prop} (hh:A.handled=none) (D:ZipApart z TI TO i1 i2 l1 l2)
  (hz:IsZip s.heap z TI TO .none) (hTI:IsPair s.heap TI (.ref i1) (.ref i2)) (h1:s.heap.IsListIter i1 l1 k1) (hl1:s.heap.IsList l1 xs) (hx:xs[k1]? = none)
  (hQ:∀ h',(∀ c o,c≠z→c≠i1→s.heap.get? c=some o→h'.get? c=some o)→Q none { s with heap:=h' }):wpAny (model prog w) A (pyNext (.ref z)) Q E s:=by
 have hT:s.TypeIs (.ref z) "zip":=⟨_,hz,rfl⟩
 unfold pyNext
 refine wpAny_bind (wpAny_attempt (wpAny_callSpecial?_slot (name:=Str.ofString "__next__") hT F.slot_zip_next
  (wpAny_call_entry F.slot_zip_next hT F.entry_zip_next ?_ (F.args_zip_next_1 _))))
 show wpAny _ _ (field (.ref z) 2 >>= _) _ _ _
 refine wpAny_bind (wpAny_field hz rfl (x:=.bool false) rfl ?_)
 show wpAny _ _ (field (.ref z) 3 >>= _) _ _ _
 refine wpAny_bind (wpAny_field hz rfl (x:=.ref TI) rfl ?_)
 refine wpAny_bind (wpAny_seqItems hTI rfl ?_)
 show wpAny _ _ (Builtin.SmallTypes.ownedTupleIsFree (.ref z) >>= _) _ _ _
 refine wpAny_bind ?_
 unfold Builtin.SmallTypes.ownedTupleIsFree
 refine wpAny_bind (wpAny_field hz rfl (x:=.none) rfl (wpAny_pure ?_))
 simp only [if_true]
 refine wpAny_bind (wpAny_rule ?_)
 refine wpAny_bind (wpAny_field hz rfl (x:=.ref TO) rfl ?_)
 refine wpAny_bind (wpAny_setField_rec hz (by simp) fun h₁ hz₁ hs₁=>?_)
 replace hz₁:IsZip h₁ z TI TO .ellipsis:=hz₁
 refine wpAny_bind ?_
 simp only [List.zipIdx_cons,List.zipIdx_nil,List.forIn_cons,List.forIn_nil]
 refine wpAny_bind (wpAny_bind (wpAny_onRaise ?_))
 show wpAny _ _ (Builtin.SmallTypes.nextOf (.ref i1) >>= _) _ _ _
 refine wpAny_bind (wpAny_nextOf_list_end hh (h1.extBut hs₁.extBut D.i1z) (hl1.extBut hs₁.extBut D.l1z) hx fun h₂ e hs₂ he=>?_)
 obtain⟨oe,hoe,hce⟩:=he
 have hz₂:IsZip h₂ z TI TO .ellipsis:=hs₂ _ _ D.i1z.symm hz₁
 have hez:e≠z:=fun x=>by subst x; rw [hz₂] at hoe; cases hoe; simp at hce
 refine wpAny_setField_rec hz₂ (by simp) fun h₃ _ hs₃=>?_
 refine wpAny_bind (wpAny_isInstance (T:="StopIteration") (b:=true) ⟨oe,hs₃.extBut _ _ hez hoe,hce⟩ isSubtype_stop ?_)
 exact wpAny_pure (hQ _ fun c o c1 c3 x=>hs₃.extBut _ _ c1 (hs₂ _ _ c3 (hs₁.extBut _ _ c1 x)))
end
section
variable {prog:Program} {w:World} {A:Around} {s:Shared} {base:Base} {ms:List Addr} {st st':Store} {cx:Cx} {env:Env} {own:List Addr} {vars vars':Vars} {G:Gx} {mg mb:Str→Option Value} {n:Nat} {o:Ops} {f:FD}
variable {z TI TO i1 i2 l1 l2:Addr} {xs ys:List Value} {dx dy:List D} {kh k:Nat}
theorem aSm (h:sP st k=true):st[k]? = some [.cell 0]:=by
 have h:(st[k]?).any eT=true:=h
 cases hk:st[k]? with
 | none=>rw [hk] at h; exact absurd h Bool.false_ne_true
 | some l=>rw [hk] at h; rw [isHid_eq h]
theorem aTa {ts:List Expr} {tk:Nat} {tp:Pos} {b:List Stmt} {R:Result→Shared→Prop} (HA:eN prog w G base mg mb n o) (HX:ExOk prog w G base mg mb n o) (S:Sit G base mg mb n A cx env own) (hw:¬ Wr env own z∧¬ Wr env own i1∧¬ Wr env own i2) (hlen:dx.length≤dy.length) (m:Nat) :
  ∀ {k:Nat} {vars vars':Vars} {ms:List Addr} {st st':Store} {s:Shared} {f:FD},m+k=dx.length→SR base ms st s→VOk env own ms s.heap vars→Zip base ms st s z TI TO i1 i2 l1 l2 xs ys dx dy kh k →
   zipGo o cx (.Tuple ts tk tp) b kh (dx.drop k) (dy.drop k) vars st=some (f,vars',st')→pR prog w base A env own (WrZ env own z i1 i2) ms s (.forLoop (.Tuple ts tk tp) (.ref z) b [] env) R f vars' st':=by
 have subW:∀ a,Wr env own a→WrZ env own z i1 i2 a:=fun a h=>.inl h
 have subZ:∀ a,Zw z i1 i2 a→WrZ env own z i1 i2 a:=fun a h=>.inr h
 induction m with
 | zero =>
  intro k vars vars' ms st st' s f hk r v hZ e
  cases (Nat.zero_add k).symm.trans hk
  rw [List.drop_length] at e
  refine ret3 (a:=FD.next) (b:=vars) (c:=st) e fun hR=>dH rfl fun E=>?_
  refine wpAny_bind (wpAny_standAt (wpAny_bind (wpAny_onRaise (aM (aHo S.ar.handled hZ.apart hZ.hz hZ.hTI hZ.h1 hZ.hl1 (List.getElem?_toArray.trans (List.getElem?_eq_none (Nat.le_of_eq hZ.px.length))) fun h' hkeep ht hz=>?_)))))
  have hkm:∀ a∈ms,∀ o',s.heap.get? a=some o'→h'.get? a=some o':=fun a ha o'=>hkeep a o' (fun q=>hZ.mz (q▸ha)) (fun q=>hZ.m1 (q▸ha))
  have x:Ext (Zw z i1 i2) s ms { s with heap:=h' } ms:=⟨rfl,rfl,Nat.le_refl _,hz,fun _ _ e=>e,fun _ q=>.inl q,fun c o' _ hc e=>.of (hkeep c o' (fun q=>hc (.inl q)) (fun q=>hc (.inr (.inl q))) e),aAy hZ⟩
  have r':=r.ext x (fun a ha=>ha.elim (fun q=>q▸hZ.bz) fun q=>q.elim (fun q=>q▸hZ.b1) fun q=>q▸hZ.b2) hkm (fun a o' hb=>hkeep a o' (fun q=>nn (hZ.bz.symm.trans (q▸hb))) (fun q=>nn (hZ.b1.symm.trans (q▸hb)))) (fun L hL hW=>by
    obtain⟨_,o',ho',hd'⟩:=r.frs L hL
    exact absurd hd' (wG hZ hW ho'))
  exact wpAny_pure ⟨rfl,codeAny_block (wpAny_execs_nil (hR _ _ _ (x.widen subZ (wkZ v hZ)) r' (v.extZ r hZ x) rfl))⟩
 | succ m ih =>
  intro k vars vars' ms st st' s f hk r v hZ e
  have hkx:k < dx.length:=by lia
  have hky:k < dy.length:=by lia
  rw [List.drop_eq_getElem_cons hkx,List.drop_eq_getElem_cons hky] at e
  refine ifS (c:=sP st kh=true) e fun hhid e=>bF (o:=o.asg cx vars (.Tuple ts tk tp) (.tuple [dx[k],dy[k]]) st) e fun vars₁ st₁ h1 e=>bF (o:=exs o cx vars₁ b st₁) e fun g q h2 h3 hR=>dH rfl fun E=>?_
  obtain⟨x,hx,px⟩:=hZ.px.get (List.getElem?_eq_getElem hkx)
  obtain⟨y,hy,py⟩:=hZ.py.get (List.getElem?_eq_getElem hky)
  have hlh':=aSm hhid
  obtain⟨a,b',hTO⟩:=r.hids kh TO _ hZ.m hlh' rfl
  refine wpAny_bind (wpAny_standAt (wpAny_bind (wpAny_onRaise (wpAny_pyNext_zip_item hZ.apart hZ.hz hZ.hTI hTO hZ.h1 hZ.h2 hZ.hl1 hZ.hl2 (x:=x) (y:=y) (List.getElem?_toArray.trans hx) (List.getElem?_toArray.trans hy) fun h₁ z1 o1 a1 a2 t1 sz1 keep1=>?_))))
  refine wpAny_bind (wpAny_letOwnedTupleGo_zip z1 fun h₂ z2 sb2=>?_)
  have hTz:s.heap.objs.size≠z:=Nat.ne_of_gt (Heap.lt_size hZ.hz)
  have keep:∀ c o',c∉[z,TO,i1,i2]→s.heap.get? c=some o'→h₂.get? c=some o':=fun c o' hc e=>by
   simp only [List.mem_cons,List.not_mem_nil,or_false,not_or] at hc
   exact sb2.extBut _ _ hc.1 (keep1 c o' hc.1 hc.2.1 hc.2.2.1 hc.2.2.2 e)
  have sz2:s.heap.objs.size≤h₂.objs.size:=by rw [sb2.1,sz1]; exact Nat.le_succ _
  have hO2:IsPair h₂ TO x y:=sb2.extBut _ _ hZ.apart.TOz o1
  obtain⟨xx,r₂⟩:=aKh (tk:=s.toks) hZ r hlh' (Nat.le_refl _) sz2 keep ⟨x,y,hO2⟩
  have D:=hZ.apart
  have Z₂:Zip base ms st { s with heap:=h₂,toks:=s.toks } z TI TO i1 i2 l1 l2 xs ys dx dy kh (k+1) :=
   ⟨hZ.apart,z2,keep TI _ (by simp [D.TIz,D.TITO,D.TIi1,D.TIi2]) hZ.hTI,a1.extBut sb2.extBut D.i1z,a2.extBut sb2.extBut D.i2z,
    hZ.hl1.at fun o' e=>keep l1 o' (by simp [D.l1z,D.l1TO,D.l1i1,D.l1i2]) e,hZ.hl2.at fun o' e=>keep l2 o' (by simp [D.l2z,D.l2TO,D.l2i1,D.l2i2]) e,
    hZ.px.ext xx,hZ.py.ext xx,hZ.m,hZ.mz,hZ.mTI,hZ.m1,hZ.m2,hZ.ml1,hZ.ml2,hZ.bz,hZ.b1,hZ.b2,hZ.bO⟩
  have p₂:Rep ms h₂ (.tuple [dx[k],dy[k]]) (.ref s.heap.objs.size) :=
   ⟨_,[x,y],rfl,dS r,⟨_,sb2.extBut _ _ hTz t1,rfl,_,rfl⟩,Reps.cons (px.ext xx) (Reps.cons (py.ext xx) Reps.nil)⟩
  have v₂:=v.extZ r hZ xx
  refine wpAny_bind (HA S r₂ v₂ p₂ h1 _ _ fun s₃ ms₃ x₃ r₃ v₃=>?_)
  have Z₃:=Z₂.ext (st':=st₁) x₃ hw
  refine wpAny_bind (fR HX S b r₃ v₃ h2 _ _ (fun fl s₄ ms₄ x₄ r₄ v₄ hf=>?_) fun c d hc=>pN hc h3)
  have Y:=(xx.widen (W':=WrZ env own z i1 i2) subZ (wkZ v hZ)).trans ((x₃.widen (W':=WrZ env own z i1 i2) subW (wkZ v₂ Z₂)).trans (x₄.widen (W':=WrZ env own z i1 i2) subW (wkZ v₃ Z₃)))
  exact oG hf h3 r₄ v₄ (fun e=>⟨rfl,ih (by lia) r₄ v₄ (Z₃.ext x₄ hw) e fun fl s₅ ms₅ x₅=>hR _ _ _ (Y.trans x₅)⟩) fun fl=>hR _ _ _ Y
end
end Mine
end
section -- S23
open PySem PyProof.Rows PySem.SeqAt
namespace Mine
section
variable {prog:Program} {w:World} {A:Around} {s:Shared} {base:Base} {ms:List Addr} {st st':Store} {cx:Cx} {env:Env} {own:List Addr} {vars vars':Vars} {G:Gx} {mg mb:Str→Option Value} {n:Nat} {o:Ops} {f:FD}
theorem Ext.forgetW {W W':Addr→Prop} {s₁ s₂:Shared} {ms₁ ms₂:List Addr} (x₁:Ext No s ms s₁ ms₁) (x₂:Ext W' s₁ ms₁ s₂ ms₂) (hW:∀ a,W' a→W a∨s.heap.objs.size≤a) (hwk:∀ a o,W a→s.heap.get? a=some o→¬ isSeqData o):Ext W s ms s₂ ms₂ :=
 ⟨x₂.gens.trans x₁.gens,x₂.os.trans x₁.os,Nat.le_trans x₁.toks x₂.toks,Nat.le_trans x₁.size x₂.size,fun k a e=>x₂.pre k a (x₁.pre k a e),fun a ha=>by
  rcases x₂.fresh a ha with h | h
  ·exact x₁.fresh a h
  ·exact .inr (Nat.le_trans x₁.size h),
  fun a ob ha hw e=>(x₁.keep a ob ha (fun f=>f) e).andThen fun o₁ e₁=>x₂.keep a o₁ (x₁.away ha e) (fun q=>(hW a q).elim hw (fun q=>absurd (Heap.lt_size e) (Nat.not_lt.mpr q))) e₁,hwk⟩
theorem aMy {l N:Nat} (h:l < N) (j:Nat):l≠N+j:=by lia
theorem aQp {ts:List Expr} {tk:Nat} {tp zp cp pos:Pos} {zn:Str} {a b:Expr} {body:List Stmt} {st₁ st₂:Store} {dx dy:List D} (H:EvOk prog w G base mg mb n o) (HA:eN prog w G base mg mb n o) (HX:ExOk prog w G base mg mb n o) (S:Sit G base mg mb n A cx env own) (r:SR base ms st s) (v:VOk env own ms s.heap vars)
  (h1:o.ev cx vars (.Name zn zp) st=some (.type "zip",st₁)) (h2:evs o cx vars [a,b] st₁=some ([.list dx,.list dy],st₂)) (hlen:dx.length≤dy.length) (h3:zipGo o cx (.Tuple ts tk tp) body st₂.length dx dy vars (st₂++[[.cell 0]])=some (f,vars',st')) :
  Runs prog w base A env own ms s (exec (.For (.Tuple ts tk tp) (.Call (.Name zn zp) [a,b] [] cp) body [] pos) env) f vars' st':=fun Q E hQ hE=>by
 rw [arm_exec_For]
 refine wpAny_bind (wpAny_standAt (wpAny_bind (wpAny_Call_Name_kw (H S r v h1 _ _ fun fv s₁ ms₁ x₁ r₁ p₁=>?_))))
 subst p₁
 have v₁:=v.ext r x₁
 refine bQ (fun a q=>by cases q) (by rw [(gZ [a,b] h2).1]; rfl) (dR h2 rfl (cJ H S [a,b] r₁ v₁ h2 _ _ fun vs s₂ ms₂ x₂ r₂ p₂=>wpAny_evalAll_nil ?_))
 have v₂:=v₁.ext r₁ x₂
 obtain⟨u1,u2,rfl,q1,q2⟩:=fE p₂
 obtain⟨l1,us1,rfl,m1,hl1,hr1⟩:=aO q1
 obtain⟨l2,us2,rfl,m2,hl2,hr2⟩:=aO q2
 refine call_zip_2 hl1 hl2 fun h' hz hTI hTO hi1 hi2 hsz keep=>?_
 have lt1:l1 < s₂.heap.objs.size:=by obtain⟨o',ho,_⟩:=hl1; exact Heap.lt_size ho
 have lt2:l2 < s₂.heap.objs.size:=by obtain⟨o',ho,_⟩:=hl2; exact Heap.lt_size ho
 obtain⟨x₃,r₃⟩:=r₂.grow' (h:=h') (tk:=s₂.toks) (a:=s₂.heap.objs.size+3) (l:=[.cell 0]) (Nat.le_refl _) (Nat.le_add_right _ _) (by rw [hsz]; exact Nat.le_add_right _ _) keep (fun q=>by cases q) ⟨_,_,_,hTO,rfl⟩ (fun q=>by cases q) (fun _=>⟨_,_,hTO⟩)
 have v₃:=v₂.ext r₂ x₃
 have out:∀ j,s₂.heap.objs.size≤j→j≠s₂.heap.objs.size+3→j∉ms₂++[s₂.heap.objs.size+3]:=fun j hj hne q=>by
  rcases List.mem_append.mp q with q | q
  ·obtain⟨o',_,_,ho,_⟩:=r₂.seqs j q
   exact absurd (Heap.lt_size ho) (Nat.not_lt.mpr hj)
  ·exact hne (List.mem_singleton.mp q)
 have inn:∀ j,j < s₂.heap.objs.size→j∉ms₂→j∉ms₂++[s₂.heap.objs.size+3]:=fun j hj hn q=>by
  rcases List.mem_append.mp q with q | q
  ·exact hn q
  ·have:=List.mem_singleton.mp q
   rw [this] at hj
   exact absurd hj (Nat.not_lt.mpr (Nat.le_add_right _ _))
 have lo:∀ j,base.get? (s₂.heap.objs.size+j)=none:=fun j=>dB r₂ (Nat.le_add_right _ _)
 generalize hN:s₂.heap.objs.size=N at *
 have Z:Zip base (ms₂++[N+3]) (st₂++[[.cell 0]]) { s₂ with heap:=h',toks:=s₂.toks } (N+4) (N+2) (N+3) N (N+1) l1 l2 us1 us2 dx dy st₂.length 0:=by
  refine⟨?_,hz,hTI,hi1,hi2,hl1.at fun o' e=>keep l1 o' e,hl2.at fun o' e=>keep l2 o' e,hr1.ext x₃,hr2.ext x₃,by rw [← r₂.len]; simp,out _ (Nat.le_add_right _ _) (by simp),out _ (Nat.le_add_right _ _) (by simp),out _ (Nat.le_refl _) (Nat.ne_of_lt (Nat.lt_add_of_pos_right (by decide))),out _ (Nat.le_add_right _ _) (by simp),inn _ lt1 m1,inn _ lt2 m2,lo 4,lo 0,lo 1,lo 3⟩
  constructor <;> first | exact aMy lt1 _ | exact aMy lt2 _ | exact Nat.ne_of_lt lt1 | exact Nat.ne_of_lt lt2 | (show (_:Nat)≠(_:Nat); lia)
 refine wpAny_bind (wpAny_of_eq (jJ (fun es k p q=>by cases q)) (wpAny_bind (wpAny_standAt (wpAny_bind (wpAny_holding (wpAny_pyIter_zip hz ?_))))))
 refine wpAny_runOwn ?_
 rw [iS]
 have nw:∀ j,¬ Wr env own (N+j):=fun j=>eU v₂ (by rw [hN]; exact Nat.le_add_right _ _)
 refine aTa HA HX S ⟨nw 4,nw 0,nw 1⟩ hlen dx.length (k:=0) (by lia) r₃ v₃ Z (by rw [List.drop_zero,List.drop_zero]; exact h3) fun fl s₄ ms₄ x₄ r₄ v₄ hf=>?_
 refine hQ _ _ _ (Ext.forgetW (W:=Wr env own) (x₁.trans (x₂.trans x₃)) x₄ (fun c hc=>?_) v.wk) r₄ v₄ hf
 have hle:s.heap.objs.size≤N:=Nat.le_trans x₁.size (hN▸x₂.size)
 rcases hc with hc | hc | hc | hc
 ·exact .inl hc
 ·exact .inr (by rw [hc]; exact Nat.le_trans hle (Nat.le_add_right _ _))
 ·exact .inr (by rw [hc]; exact hle)
 ·exact .inr (by rw [hc]; exact Nat.le_trans hle (Nat.le_add_right _ _))
end
end Mine
end
section -- S24
open PySem PyProof.Rows PySem.SeqAt
namespace Mine
section
variable {prog:Program} {w:World} {base:Base} {G:Gx} {mg mb:Str→Option Value} {n:Nat} {o:Ops}
theorem aJd {d:D} (h:aIo d=true):d=.type "zip":=by
 induction d using D.casesOn with
 | type n=>rw [of_decide_eq_true h]
 | _=>exact absurd h Bool.false_ne_true
theorem aMn {it:Expr} {q:Str×Pos×Expr×Expr} (h:wW it=some q):∃ cp,it=.Call (.Name q.1 q.2.1) [q.2.2.1,q.2.2.2] [] cp :=
 bE (o:=lE it) h fun c h1 h=>bE (o:=lQ c.1) h fun f h2 h=>bE (o:=two c.2.1) h fun x h3 h=>ifS (c:=c.2.2.1.isEmpty=true) h fun h4 h=>by
  cases Option.some.inj h
  exact⟨c.2.2.2,(iV h1).trans (by rw [gL h2,jE h3,List.isEmpty_iff.mp h4])⟩
theorem aNl {it:Expr} {q:Str×Pos×Expr} (h:aBp it=some q):∃ cp,it=.Call (.Name q.1 q.2.1) [q.2.2] [] cp :=
 bE (o:=lE it) h fun c h1 h=>bE (o:=lQ c.1) h fun f h2 h=>bE (o:=one c.2.1) h fun x h3 h=>ifS (c:=c.2.2.1.isEmpty=true) h fun h4 h=>by
  cases Option.some.inj h
  exact⟨c.2.2.2,(iV h1).trans (by rw [gL h2,eE h3,List.isEmpty_iff.mp h4])⟩
theorem aOx {t it:Expr} {b:List Stmt} {pos:Pos} {A:Around} {cx:Cx} {env:Env} {own:List Addr} {vars vars':Vars} {ms:List Addr} {st st':Store} {s:Shared} {f:FD} (H:EvOk prog w G base mg mb n o) (HA:eN prog w G base mg mb n o) (HX:ExOk prog w G base mg mb n o) (hns:cW o)
  (S:Sit G base mg mb n A cx env own) (r:SR base ms st s) (v:VOk env own ms s.heap vars) (e:hM o cx vars t it b st=some (f,vars',st')):Runs prog w base A env own ms s (exec (.For t it b [] pos) env) f vars' st':=by
 have pl:mG o cx vars t it b st=some (f,vars',st')→Runs prog w base A env own ms s (exec (.For t it b [] pos) env) f vars' st':=fun e =>
  bF (o:=o.ev cx vars it st) e fun src st₁ h1 e=>bE (o:=drawn src) e fun ds h2=>aHv H HA HX hns S r v h1 h2
 unfold hM at e
 cases hc:wW it with
 | none=>rw [hc] at e; exact pl e
 | some q =>
  rw [hc] at e
  obtain⟨z,zp,x,y⟩:=q
  refine bF (o:=o.ev cx vars (.Name z zp) st) e fun g st₁ h1 e=>ifE (c:=aIo g=true) e (fun hz e=>?_) fun _=>pl
  obtain⟨cp,rfl⟩:=aMn hc
  cases aJd hz
  refine bF (o:=evs o cx vars [x,y] st₁) e fun ds st₂ h2 e=>bE (o:=two ds) e fun q h3 e=>bE (o:=dE q.1) e fun dx h4 e=>bE (o:=dE q.2) e fun dy h5 e=>ifS (c:=(aBv t&&decide (dx.length≤dy.length))=true) e fun h6 e=>?_
  rw [jE h3,bS h4,bS h5] at h2
  obtain⟨es,he⟩:=Option.isSome_iff_exists.mp (and2 h6).1
  obtain⟨ts,tk,rfl⟩:=aCa he
  exact aQp H HA HX S r v h1 h2 (of_decide_eq_true (and2 h6).2) e
theorem aOi (H:EvOk prog w G base mg mb n o) (HT:TrOk prog w G base mg mb n o) (HA:eN prog w G base mg mb n o) (HC:cZ prog w G base mg mb n o) (HX:ExOk prog w G base mg mb n o) (hns:cW o) (hst:cD o)
  (HR:∀ c,G.exc c=true→RaiseOk prog w base.heap c) (h2:2≤n):ExOk prog w G base mg mb n (step G o):=by
 intro A cx env own vars ms st s e f vars' st' S r v h
 induction e using PySem.Stmt.casesOn with
 | Pass p=>exact ret3 (a:=FD.next) (b:=vars) (c:=st) h fun Q E hQ hE=>wpAny_Pass (hQ _ _ _ ((Ext.refl _ _).ofNo v.wk) r v rfl)
 | Break p=>exact ret3 (a:=FD.brk) (b:=vars) (c:=st) h fun Q E hQ hE=>wpAny_Break (hQ _ _ _ ((Ext.refl _ _).ofNo v.wk) r v rfl)
 | Continue p=>exact ret3 (a:=FD.cont) (b:=vars) (c:=st) h fun Q E hQ hE=>wpAny_Continue (hQ _ _ _ ((Ext.refl _ _).ofNo v.wk) r v rfl)
 | Return x p=>induction x using Option.casesOn with
  | some e=>exact aAr H S r v h
  | none=>exact ret3 (a:=FD.ret .none) (b:=vars) (c:=st) h fun Q E hQ hE=>wpAny_Return_none (hQ _ _ _ ((Ext.refl _ _).ofNo v.wk) r v ⟨_,rfl,rfl⟩)
 | Expr e p =>
  refine ifS (c:=uC e=true) h fun hc h=>?_
  obtain⟨q,hq⟩:=Option.isSome_iff_exists.mp hc
  cases iV hq
  exact aHx H S r v h
 | Assign ts e p=>induction ts using List.casesOn with
  | nil=>exact nn h
  | cons t ts=>induction ts using List.casesOn with
   | nil=>exact aAa H HA HC hns hst S r v h
   | cons=>exact nn h
 | If t a b p=>exact aTr HT HX S r v h
 | While t b els p=>induction els using List.casesOn with
  | nil=>exact aGz HT HX S r v h
  | cons=>exact nn h
 | For t it b els p=>induction els using List.casesOn with
  | nil=>exact aOx H HA HX hns S r v h
  | cons=>exact nn h
 | Assert t m p=>exact aBj HT S r v h
 | Raise x c p=>induction x using Option.casesOn with
  | none=>exact nn h
  | some e=>induction c using Option.casesOn with
   | some=>exact nn h
   | none =>
    have h:gO G o cx vars e st=some (f,vars',st'):=h
    unfold gO at h
    cases hc:aBp e with
    | none=>rw [hc] at h; exact nn h
    | some q =>
     rw [hc] at h
     obtain⟨cp,rfl⟩:=aNl hc
     exact aFp H HR h2 S r v h
 | Try b hs els fin p =>
  refine ifS (c:=(els.isEmpty&&fin.isEmpty)=true) h fun hc h=>?_
  rw [List.isEmpty_iff.mp (and2 hc).1,List.isEmpty_iff.mp (and2 hc).2]
  exact aPr HX S r v h
 | _=>exact nn h
end
end Mine
end
section -- S25
open PySem PyProof.Rows PySem.SeqAt
namespace Mine
section
variable {prog:Program} {w:World} {base:Base} {G:Gx} {mg mb:Str→Option Value} {n:Nat}
set_option genInjectivity false in
structure Sound (prog:Program) (w:World) (G:Gx) (base:Base) (mg mb:Str→Option Value) (n:Nat) (o:Ops):Prop where
 ev:EvOk prog w G base mg mb n o
 tr:TrOk prog w G base mg mb n o
 asg:eN prog w G base mg mb n o
 ex:ExOk prog w G base mg mb n o
 comp:cZ prog w G base mg mb n o
 noSet:cW o
 noStar:cD o
theorem iZ (HF:FnOk prog w G base.heap n) (HS:SortOk prog w base) (HR:∀ c,G.exc c=true→RaiseOk prog w base.heap c) (h2:2≤n):∀ k,Sound prog w G base mg mb n (ops G k)
 | 0=>⟨fun _ _ _ e=>(by exact nn e),fun _ _ _ e=>(by exact nn e),fun _ _ _ _ e=>(by exact nn e),fun _ _ _ e=>(by exact nn e),fun _ _ _ e=>(by exact nn e),fun _ _ _ _ _ _=>rfl,fun _ _ _ _ _ _=>rfl⟩
 | k+1=>by
  have x:=iZ HF HS HR h2 k
  exact⟨aNy x.ev x.tr x.comp x.noSet HF HS h2,aQb x.ev x.tr x.noSet,aHw x.ev x.asg x.noStar,aOi x.ev x.tr x.asg x.comp x.ex x.noSet x.noStar HR h2,aGh x.ev x.tr x.asg x.comp x.noSet,aAs,wI⟩
end
end Mine
end
section -- S26
open PySem PyProof.Rows PySem.SeqAt
namespace Mine
theorem rN {kindOf:Str→Option NameKind}:∀ (binds:List (Str×Value)) (m:Str→Option Value),(binds.map (·.1)).Nodup→∀ x,kindOf x=some .local→bindL kindOf binds m x=((binds.lookup x).or (m x))
 | [],m,_,x,_=>by simp [bindL]
 | (y,v)::r,m,hn,x,hx=>by
  rw [List.map_cons,List.nodup_cons] at hn
  rw [bindL,rN r _ hn.2 x hx,List.lookup_cons]
  cases hb:x == y with
  | true =>
   have:=eq_of_beq hb
   subst this
   have hno:r.lookup x=none:=by
    cases hq:r.lookup x with
    | none=>rfl
    | some u=>exact absurd (List.mem_map_of_mem (f:=(·.1)) (mem_of_lookup hq)) hn.1
   rw [hno,if_pos hx]; simp
  | false =>
   have hne:x≠y:=by simpa using hb
   split <;> simp [hne]
theorem rL {kindOf:Str→Option NameKind}:∀ (binds:List (Str×Value)) (m:Str→Option Value),(binds.map (·.1)).Nodup→∀ x,kindOf x≠some .local→bindC kindOf binds m x=((binds.lookup x).or (m x))
 | [],m,_,x,_=>by simp [bindC]
 | (y,v)::r,m,hn,x,hx=>by
  rw [List.map_cons,List.nodup_cons] at hn
  rw [bindC,rL r _ hn.2 x hx,List.lookup_cons]
  cases hb:x == y with
  | true =>
   have:=eq_of_beq hb
   subst this
   have hno:r.lookup x=none:=by
    cases hq:r.lookup x with
    | none=>rfl
    | some u=>exact absurd (List.mem_map_of_mem (f:=(·.1)) (mem_of_lookup hq)) hn.1
   rw [hno,if_neg hx]; simp
  | false =>
   have hne:x≠y:=by simpa using hb
   split <;> simp [hne]
theorem repK_get {ms:List Addr} {h:Heap}:∀ {kd:List (Str×D)} {kv:List (Str×Value)},RepK ms h kd kv→∀ {x d},kd.lookup x=some d→∃ v,kv.lookup x=some v∧Rep ms h d v
 | [],_,_,x,d,e=>by simp at e
 | (y,e)::kd,kv,p,x,d,hx=>by
  obtain⟨h1,h2⟩:=p
  induction kv using List.casesOn with
  | nil=>simp at h1
  | cons q kv =>
   obtain⟨y',v⟩:=q
   simp only [List.map_cons,List.cons.injEq] at h1
   obtain⟨rfl,h1⟩:=h1
   rw [List.map_cons,List.map_cons,Reps] at h2
   obtain⟨u,us,h3,pu,pus⟩:=h2
   cases h3
   rw [List.lookup_cons] at hx ⊢
   cases hb:x == y' with
   | true=>rw [hb] at hx; cases hx; exact⟨v,rfl,pu⟩
   | false=>rw [hb] at hx; exact repK_get ⟨h1,pus⟩ hx
set_option genInjectivity false in
structure FnAt (base:Heap) (a:Addr) (fd:FuncData) (body:List Stmt):Prop where
 fn:∃ o,base.get? a=some o∧o.data=.func fd
 co:fd.scope.isCoroutine=false
 gen:fd.scope.isGenerator=false
 body:fd.body=.stmts body
 code:base.CodeRec fd.code fd.qualname
 clo:fd.closure=[]
 glob:fd.globals=mainGlobals
 blt:fd.builtins=builtinsNs
 kind:fd.scope.kind=.function
 nodup:(fd.scope.names.map (·.1)).Nodup
section
variable {prog:Program} {w:World} {A:Around} {s s₁:Shared} {base:Base} {ms:List Addr} {st st':Store} {G:Gx} {mg mb:Str→Option Value} {n:Nat}
variable {a:Addr} {fd:FuncData} {body:List Stmt} {binds:List (Str×Value)} {vd:Vars}
theorem SR.addFr (r:SR base ms st s) {L:Addr} (hb:base.get? L=none) (h:∃ o,s.heap.get? L=some o∧isFr o):SR ⟨base.heap,L::base.fr⟩ ms st s :=
 ⟨r.keepx,r.fresh,r.nodup,r.len,r.lists,r.clean,r.toks,r.seqs,r.hids,fun L' hL=>by
  rcases List.mem_cons.mp hL with rfl | hL
  ·exact⟨hb,h⟩
  ·exact r.frs L' hL⟩
theorem SR.dropFr {H:Heap} {L:Addr} {fr:List Addr} (r:SR ⟨H,L::fr⟩ ms st s):SR ⟨H,fr⟩ ms st s :=
 ⟨r.keepx,r.fresh,r.nodup,r.len,r.lists,r.clean,r.toks,r.seqs,r.hids,fun L' hL=>r.frs L' (List.mem_cons_of_mem _ hL)⟩
noncomputable def ownF (fd:FuncData) (L:Addr):List Addr:=(cellsFrom (L+1) fd.scope.names []).map (·.2)
theorem xO (F:FnAt base.heap a fd body) (r:SR base ms st s) (pb:RepK ms s.heap vd binds) (hnd:(vd.map (·.1)).Nodup) (hst:∀ p∈vd,stored ⟨fd.scope.names,fd.scope.names⟩ p.1=true)
  (x:InCallC s (callEnvC fd s.heap.objs.size a).locals (bindL (callEnvC fd s.heap.objs.size a).kindOf binds fun _=>none) (callEnvC fd s.heap.objs.size a).cells (bindC (callEnvC fd s.heap.objs.size a).kindOf binds fun _=>none) s₁)
  (hz:s.heap.objs.size≤s₁.heap.objs.size) (ht:s.toks≤s₁.toks) :
  EnvOk ⟨base.heap,s.heap.objs.size::base.fr⟩ ⟨fd.scope.names,fd.scope.names⟩ (callEnvC fd s.heap.objs.size a) (ownF fd s.heap.objs.size)∧Ext No s ms s₁ ms∧SR ⟨base.heap,s.heap.objs.size::base.fr⟩ ms st s₁∧VOk (callEnvC fd s.heap.objs.size a) (ownF fd s.heap.objs.size) ms s₁.heap vd:=by
 obtain⟨h,tk,rfl⟩:=x.toInCall.same
 have X:Ext No s ms { s with heap:=h,toks:=tk } ms:=gF ht hz x.toInCall.keep
 have r':=(r.heap' ht hz x.toInCall.keep).addFr (L:=s.heap.objs.size) (dB r (Nat.le_refl _)) (by
  obtain⟨o,es,ep,ho,hd,_⟩:=x.toInCall.ns
  exact⟨o,ho,es,ep,hd⟩)
 have nown:=cB (n:=s.heap.objs.size+1) F.nodup
 have hbn:(binds.map (·.1)).Nodup:=by rw [pb.1]; exact hnd
 have hcl:∀ y c,(callEnvC fd s.heap.objs.size a).cells.lookup y=some c↔(y,c)∈cellsFrom (s.heap.objs.size+1) fd.scope.names []:=fun y c=>iD nown
 have hkind:∀ y,(callEnvC fd s.heap.objs.size a).kindOf y=fd.scope.names.lookup y:=fun y=>rfl
 have sto:∀ y d,vd.lookup y=some d→fd.scope.names.lookup y=some .local∨fd.scope.names.lookup y=some .cell:=fun y d hy=>by
  have:=hst _ (mem_of_lookup hy)
  unfold stored at this
  split at this
  ·left; assumption
  ·right; assumption
  ·cases this
 refine⟨⟨F.kind,F.glob,F.blt,rfl,fun y z c hy hz'=>?_,dB r (Nat.le_refl _),fun c hc=>?_,fun y hy=>hy,fun y hy=>?_⟩,X,r',⟨⟨_,x.toInCall.ns,fun y d hy hk=>?_⟩,fun y d hy hk=>?_,fun c hc=>?_⟩⟩
 ·exact name_of_addr x.apart (mem_of_lookup hy) (mem_of_lookup hz')
 ·obtain⟨⟨y,c'⟩,hm,rfl⟩:=List.mem_map.mp hc
  exact dB r (Nat.le_of_succ_le (aT hm).2)
 ·obtain⟨c,hc⟩:=cE (n:=s.heap.objs.size+1) (mem_of_lookup hy)
  exact⟨hy,c,List.mem_map_of_mem (f:=(·.2)) hc,(hcl y c).mpr hc⟩
 ·obtain⟨u,hu,pu⟩:=repK_get pb hy
  refine⟨u,?_,pu.ext X⟩
  rw [rN binds _ hbn y hk,hu]; rfl
 ·obtain⟨u,hu,pu⟩:=repK_get pb hy
  have hc:fd.scope.names.lookup y=some .cell:=by
   rcases sto y d hy with q | q
   ·rcases hk with hk | hk <;> (rw [hkind,q] at hk; cases hk)
   ·exact q
  obtain⟨c,hcm⟩:=cE (n:=s.heap.objs.size+1) (mem_of_lookup hc)
  refine⟨c,u,(hcl y c).mpr hcm,?_,pu.ext X⟩
  have:=x.cell y c ((hcl y c).mpr hcm)
  rw [rL binds _ hbn y (by rw [hkind,hc]; intro q; cases q),hu] at this
  exact this
 ·obtain⟨⟨y,c'⟩,hm,rfl⟩:=List.mem_map.mp hc
  exact⟨_,x.cell y c' ((hcl y c').mpr hm)⟩
end
end Mine
end
section -- S27
open PySem PyProof.Rows PySem.SeqAt
namespace Mine
noncomputable def thin (h:Heap):List Addr→Heap
 | []=>h
 | a::l=>(thin h l).update a fun o=>{ o with data:=.freed }
theorem zZ (h:Heap) (a:Addr):(h.update a fun o=>{ o with data:=.freed }).get? a=none:=by
 cases q:(h.update a fun o=>{ o with data:=.freed }).get? a with
 | none=>rfl
 | some o =>
  obtain⟨h1,h2⟩:=Heap.get?_some_iff.mp q
  obtain⟨objs,l⟩:=h
  simp only [Heap.update,Array.getElem?_modify,if_true] at h1
  cases hx:objs[a]? with
  | none=>rw [hx] at h1; exact nn h1
  | some x=>rw [hx] at h1; cases h1; simp [Obj.isFreed] at h2
theorem fG {h:Heap}:∀ {l:List Addr} {b:Addr},b∈l→(thin h l).get? b=none
 | a::l,b,hb=>by
  by_cases q:a=b
  ·subst q; exact zZ _ _
  ·rw [thin,Heap.get?_update_other _ _ q]
   exact fG ((List.mem_cons.mp hb).resolve_left (fun e=>q e.symm))
theorem jL {h:Heap}:∀ {l:List Addr} {b:Addr},b∉l→(thin h l).get? b=h.get? b
 | [],b,_=>rfl
 | a::l,b,hb=>by
  rw [thin,Heap.get?_update_other _ _ (fun e=>hb (by rw [e]; exact List.mem_cons_self))]
  exact jL fun q=>hb (List.mem_cons_of_mem _ q)
section
variable {prog:Program} {w:World} {A:Around} {s s₁:Shared} {base:Base} {ms ms':List Addr} {st st':Store} {G:Gx} {mg mb:Str→Option Value} {n:Nat}
theorem rI (r:SR base ms st s):∀ (l:List Env),(∀ e∈l,e.scope.kind≠.module∧∃ L∈base.fr,e.frame=some L)→s.heap.FunFrames (thin s.heap base.fr) l
 | [],_=>trivial
 | e::l,h=>by
  obtain⟨hk,L,hL,hf⟩:=h e List.mem_cons_self
  obtain⟨_,o,ho,es,ep,hd⟩:=r.frs L hL
  exact⟨hk,⟨L,o,hf,fG hL,ho,fun vs q=>by rw [hd] at q; cases q⟩,rI r l fun e he=>h e (List.mem_cons_of_mem _ he)⟩
theorem zO (r:SR base ms st s):(thin s.heap base.fr).StaysIn s.heap:=fun b o e=>by
 by_cases q:b∈base.fr
 ·rw [fG q] at e; exact nn e
 ·rw [jL q] at e; exact e
theorem aEf (r:SR base ms st s) {h h':Heap} (hk:∀ b o,s.heap.get? b=some o→h.get? b=some o) (k:(thin s.heap base.fr).StaysIn h') (u:h.UpToSlots h') :
  (∀ a o,s.heap.get? a=some o→Kept h' a o)∧(∀ d v,Rep ms s.heap d v→Rep ms h' d v)∧SR base ms st { s with heap:=h' }:=by
 have ex:∀ a o,a∉base.fr→s.heap.get? a=some o→h'.get? a=some o:=fun a o ha e=>k a o (by rw [jL ha]; exact e)
 have kp:∀ a o,s.heap.get? a=some o→Kept h' a o:=fun a o e=>by
  by_cases q:a∈base.fr
  ·obtain⟨_,o',ho,es,ep,hd⟩:=r.frs a q
   rw [e] at ho; cases ho
   obtain⟨sl,hs⟩:=u a o (hk a o e) fun vs q=>by rw [hd] at q; cases q
   exact⟨_,hs,.inr ⟨⟨es,ep,hd⟩,sl,rfl⟩⟩
  ·exact .of (ex a o q e)
 have sq:∀ a o,a∉ms→isSeqData o→s.heap.get? a=some o→a∉ms∧h'.get? a=some o:=fun a o ha hs e=>⟨ha,(kp a o e).exact (lF hs)⟩
 have rp:∀ d v,Rep ms s.heap d v→Rep ms h' d v:=fun d v p=>Rep.mono sq (fun _ _ e=>e) d v p
 have inn:∀ a∈ms,∀ o,s.heap.get? a=some o→h'.get? a=some o:=fun a ha o e=>ex a o (fun q=>r.frAway q ha) e
 refine⟨kp,rp,⟨fun a o e=>ex a o (fun m=>by rw [(r.frs a m).1] at e; exact nn e) (r.keepx a o e),r.fresh,r.nodup,r.len,fun c l e=>?_,r.clean,r.toks,fun a ha=>?_,fun c a l h1 h2 h3=>?_,fun L hL=>?_⟩⟩
 ·obtain⟨a,vs,m,hm,ho,hr⟩:=r.lists c l e
  exact⟨a,vs,m,hm,inn a (aV hm) _ ho,Reps.mono sq (fun _ _ e=>e) _ _ hr⟩
 ·obtain⟨o,vs,m,ho,hd⟩:=r.seqs a ha
  exact⟨o,vs,m,inn a ha o ho,hd⟩
 ·obtain⟨x,y,ho⟩:=r.hids c a l h1 h2 h3
  exact⟨x,y,inn a (aV h1) _ ho⟩
 ·obtain⟨h1,o,ho,hd⟩:=r.frs L hL
  obtain⟨o',e',s'⟩:=kp L o ho
  exact⟨h1,o',e',s'.fr hd⟩
theorem vJ {h h':Heap} (x:h.NoLimit) (k:∀ a o,h.get? a=some o→Kept h' a o):h'.NoLimit:=by
 obtain⟨mc,hn,hm⟩:=x
 exact⟨mc,ns_kept hn fun o e=>k _ o e,hm⟩
theorem iA (x:Ext No s ms s₁ ms') (r:SR base ms' st' s₁) {a:Addr} (h:s₁.heap.get? a=none):s.heap.get? a=none:=by
 cases e:s.heap.get? a with
 | none=>rfl
 | some o =>
  by_cases q:a∈ms
  ·obtain⟨k,hk⟩:=List.getElem?_of_mem q
   obtain⟨o',_,_,ho,_⟩:=r.seqs a (aV (x.pre k a hk))
   rw [h] at ho; exact nn ho
  ·obtain⟨o',e',_⟩:=x.keep a o q (fun f=>f) e
   rw [h] at e'; exact nn e'
theorem iN {d d':D} {v:Value} {k:Nat} {st'':Store} (r:SR base ms st s) (p:Rep ms s.heap d v) (hk:k≤st.length) (e:aL k st d=some (d',st'')):SR base (ms.take k) st'' s∧Rep (ms.take k) s.heap d' v:=by
 have hr:=r.take k hk
 unfold aL at e
 cases hc:nG d with
 | none=>rw [hc] at e; exact ifS e fun hn e=>ret2 (P:=fun d' st''=>SR base (ms.take k) st'' s∧Rep (ms.take k) s.heap d' v) e ⟨hr,Rep.less (fun a ha=>List.mem_of_mem_take ha) _ _ hn p⟩
 | some c =>
  rw [hc] at e
  cases zB hc
  obtain⟨a,rfl,ha⟩:=p
  refine ifE e (fun hlt e=>ret2 (P:=fun d' st''=>SR base (ms.take k) st'' s∧Rep (ms.take k) s.heap d' (.ref a)) e ⟨hr,a,rfl,(List.getElem?_take_of_lt hlt).trans ha⟩) fun hlt e=>bE e fun l hl e=>ifS e fun hn e=>ret2 (P:=fun d' st''=>SR base (ms.take k) st'' s∧Rep (ms.take k) s.heap d' (.ref a)) e ⟨hr,?_⟩
  obtain⟨b,vs,m,hb,hL,hrs⟩:=r.lists _ _ hl
  cases hb.symm.trans ha
  refine⟨a,vs,rfl,fun q=>?_,⟨_,hL,rfl,m,rfl⟩,Reps.less (fun a ha=>List.mem_of_mem_take ha) _ _ hn hrs⟩
  obtain⟨j,hj⟩:=List.getElem?_of_mem q
  have hjk:j < k:=Nat.lt_of_lt_of_le (List.getElem?_eq_some_iff.mp hj).1 (List.length_take_le _ _)
  rw [List.getElem?_take_of_lt hjk] at hj
  exact hlt ((List.getElem?_inj (List.getElem?_eq_some_iff.mp hj).1 r.nodup).mp (hj.trans ha.symm)▸hjk)
theorem Ext.take {W:Addr→Prop} (x:Ext W s ms s₁ ms'):Ext W s ms s₁ (ms'.take ms.length) :=
 ⟨x.gens,x.os,x.toks,x.size,fun k a e=>by
  have:=(List.getElem?_eq_some_iff.mp e).1
  rw [List.getElem?_take_of_lt this]; exact x.pre k a e,fun a ha=>x.fresh a (List.mem_of_mem_take ha),x.keep,x.wk⟩
theorem Ext.longer {W:Addr→Prop} (x:Ext W s ms s₁ ms'):ms.length≤ms'.length:=by
 cases q:ms.length with
 | zero=>exact Nat.zero_le _
 | succ k =>
  have hk:k < ms.length:=by lia
  have:=x.pre k ms[k] (List.getElem?_eq_getElem hk)
  exact (List.getElem?_eq_some_iff.mp this).1
theorem GlOk.more {H:Heap} {fr fr':List Addr} (x:GlOk G ⟨H,fr⟩ mg mb):GlOk G ⟨H,fr'⟩ mg mb:=⟨x.g,x.b,x.lim,x.gl⟩
theorem FrOk.push' {env:Env} {L:Addr} {H:Heap} {fr:List Addr} (x:FrOk ⟨H,fr⟩ A) (hk:env.scope.kind=.function) (hf:env.frame=some L):∃ l,(A.deeper env).frames=some (env::l)∧∀ e∈env::l,e.scope.kind≠.module∧∃ L'∈L::fr,e.frame=some L':=by
 obtain⟨l,hl,h⟩:=x
 refine⟨l,congrArg (Option.map (env::·)) hl,fun e he=>(List.mem_cons.mp he).elim (fun q=>?_) fun he=>?_⟩
 ·rw [q]; exact⟨by rw [hk]; decide,L,List.mem_cons_self,hf⟩
 ·obtain⟨h1,L',h2,h3⟩:=h e he
  exact⟨h1,L',List.mem_cons_of_mem _ h2,h3⟩
theorem FrOk.push {env:Env} {L:Addr} {H:Heap} {fr:List Addr} (x:FrOk ⟨H,fr⟩ A) (hk:env.scope.kind=.function) (hf:env.frame=some L):FrOk ⟨H,L::fr⟩ (A.deeper env) :=
 (x.push' hk hf).elim fun _ h=>⟨_,h⟩
theorem vH {h:Heap} {T:Addr} {o:Obj} {dt:Data} (r:SR base ms st s) (e:(thin h base.fr).get? T=none) (ho:s.heap.get? T=some o) (hd:o.data=dt) (hn:∀ es n,dt≠.dict es n):h.get? T=none:=by
 by_cases q:T∈base.fr
 ·obtain⟨_,o',ho',hf⟩:=r.frs T q
  exact absurd (Option.some.inj (ho.symm.trans ho')▸hf) (noFr hd hn)
 ·exact (jL q).symm.trans e
end
end Mine
end
section -- S28
open PySem PyProof.Rows PySem.SeqAt
namespace Mine
section
variable {prog:Program} {w:World} {A:Around} {s s₁:Shared} {ms ms':List Addr} {st st':Store} {G:Gx} {mg mb:Str→Option Value} {n:Nat}
variable {H:Heap} {fr:List Addr} {a:Addr} {fd:FuncData} {body:List Stmt} {binds:List (Str×Value)} {vd:Vars} {vs:List Value} {kv:List (Str×Value)}
theorem aMp {sc:Scope} {x:Str} (h:stored ⟨sc.names,sc.names⟩ x=true):sc.names.lookup x=some .local∨sc.names.lookup x=some .cell:=by
 unfold stored at h
 split at h
 ·exact .inl (by assumption)
 ·exact .inr (by assumption)
 ·exact absurd h Bool.false_ne_true
theorem nI (lim₀:H.NoLimit)
  (F:FnAt H a fd body) (ar:AOk (n+1) A) (fs:FrOk ⟨H,fr⟩ A) (r:SR ⟨H,fr⟩ ms st s) (hb:BindsTo s fd ⟨vs,kv⟩ binds) (pb:RepK ms s.heap vd binds) (hnd:(vd.map (·.1)).Nodup)
  (hst:∀ p∈vd,stored ⟨fd.scope.names,fd.scope.names⟩ p.1=true) {res:Res} {f:FD} {vars':Vars} {st₂:Store} (e:finF st.length (some (f,vars',st₂))=some (res,st'))
  (HB:∀ {s₁:Shared} {env:Env} {own:List Addr} {L:Addr},env.frame=some L→env.locals=L→EnvOk ⟨H,L::fr⟩ ⟨fd.scope.names,fd.scope.names⟩ env own→AOk n (A.deeper env)→FrOk ⟨H,L::fr⟩ (A.deeper env)→SR ⟨H,L::fr⟩ ms st s₁→VOk env own ms s₁.heap vd →
   Runs prog w ⟨H,L::fr⟩ (A.deeper env) env own ms s₁ (execs body env) f vars' st₂)
  (Q:Value→Shared→Prop) (E:Value→Shared→Prop)
  (hQ:∀ d,res=.ret d→∀ v s' ms',Ext No s ms s' ms'→SR ⟨H,fr⟩ ms' st' s'→Rep ms' s'.heap d v→Q v s')
  (hE:∀ c d,res=.exc c d→∀ e v s' ms',Ext No s ms s' ms'→SR ⟨H,fr⟩ ms' st' s'→Rep ms' s'.heap d v→Flown ms' s.heap s'.heap c v e→E (.ref e) s') :
  wpAny (model prog w) A (call (.ref a) vs kv) Q E s:=by
 obtain⟨ob,hob,hdata⟩:=F.fn
 have hob':s.heap.get? a=some ob:=(r.keep _ _ hob).exact (noFr hdata (by intro _ _ q; cases q))
 have kcode:s.heap.CodeRec fd.code fd.qualname:=by
  obtain⟨c,oc,cvs,tq,hc,hoc,hdc,hq⟩:=F.code
  exact⟨c,oc,cvs,tq,hc,(r.keep _ _ hoc).exact (noFr hdc (by intro _ _ q; cases q)),hdc,hq⟩
 refine aM (wpAny_call (codeAny_call_function ar.room hob' hdata F.co F.gen F.body kcode (hb _ _ _ _ ?_)))
 rw [F.clo]
 have hbn:∀ x∈binds,fd.scope.names.lookup x.1=some .local∨(fd.scope.names.lookup x.1=some .cell∧((cellsFrom (s.heap.objs.size+1) fd.scope.names []).lookup x.1).isSome=true):=fun x hx=>by
  have hm:x.1∈vd.map (·.1):=by rw [← pb.1]; exact List.mem_map_of_mem (f:=(·.1)) hx
  obtain⟨p,hp,he⟩:=List.mem_map.mp hm
  refine (aMp (he▸hst p hp)).imp id fun hc=>⟨hc,?_⟩
  obtain⟨c,hcm⟩:=cE (n:=s.heap.objs.size+1) (mem_of_lookup hc)
  rw [(iD (cB (n:=s.heap.objs.size+1) F.nodup)).mpr hcm]; rfl
 refine aM (wpAny_newFunctionEnv_cells F.kind hbn fun env he s₁ x ht hz=>?_)
 obtain⟨E₁,X₁,r₁,v₁⟩:=xO (a:=a) F r pb hnd hst (by subst he; exact x) hz ht
 subst he
 have lim:s₁.heap.NoLimit:=vJ lim₀ r₁.keep
 refine⟨lim,codeAny_func ?_⟩
 have fs':FrOk ⟨H,s.heap.objs.size::fr⟩ (A.deeper (callEnvC fd s.heap.objs.size a)):=fs.push F.kind rfl
 have hwn:∀ b,Wr (callEnvC fd s.heap.objs.size a) (ownF fd s.heap.objs.size) b→No b∨s.heap.objs.size≤b:=fun b hb=>by
  rcases hb with rfl | hb
  ·exact .inr (Nat.le_refl _)
  ·obtain⟨⟨y,c'⟩,hm,rfl⟩:=List.mem_map.mp hb
   exact .inr (Nat.le_of_succ_le (aT hm).2)
 have e:finR st.length st₂ f=some (res,st'):=e
 have ret:∀ {d v s' ms'},Ext (Wr (callEnvC fd s.heap.objs.size a) (ownF fd s.heap.objs.size)) s₁ ms s' ms'→SR ⟨H,s.heap.objs.size::fr⟩ ms' st₂ s'→Rep ms' s'.heap d v→(aL st.length st₂ d).map (fun p=>(Res.ret p.1,p.2))=some (res,st')→Q v s':=fun {d v s' ms'} x r' p e'=>mE e' fun y e' q=>by
  have X:=X₁.forgetW x hwn fun _ _ f=>f.elim
  have hl:=X.longer
  rw [r.len,r'.len] at hl
  obtain⟨r'',p'⟩:=iN r'.dropFr p hl e'
  rw [← r.len] at r'' p'
  exact hQ y.1 (congrArg Prod.fst q).symm _ _ _ X.take (retP (P:=fun _ st'=>SR ⟨H,fr⟩ (ms'.take ms.length) st' s') q r'') p'
 refine HB rfl rfl E₁ (ar.deeper _) fs' r₁ v₁ _ _ (fun fl s' ms' x r' v' hf _ _=>?_) fun c d hc y u s₂ s' ms' x r' p ht'=>?_
 ·induction f with
  | next=>subst hf; exact ret x r' (kQ _) e
  | ret d=>obtain⟨u,rfl,p⟩:=hf; exact ret x r' p e
  | exc=>exact hf.elim
  | _=>exact nn e
 ·subst hc
  refine mE (o:=aL st.length st₂ d) e fun y e q=>?_
  obtain⟨h₃,e₃,rfl,rfl,hm⟩:=ht'
  obtain⟨l',hfl,hl⟩:=fs.push' (env:=callEnvC fd s.heap.objs.size a) (L:=s.heap.objs.size) F.kind rfl
  have X:=X₁.forgetW x hwn fun _ _ f=>f.elim
  refine wpAny_leaves_madeW (base:=thin s₂.heap (s.heap.objs.size::fr)) (L:=s.heap.objs.size) (outer:=l') hfl rfl (zO r') (rI r' _ hl) hm fun h' t hF hT htn hU hk4 hk5=>?_
  obtain⟨kp,rp,r₃⟩:=aEf r' hm.keeps hF.1 (.trans (.of_keeps fun _ _ e=>e) hU)
  have X₂:Ext No s ms { s₂ with heap:=h' } ms':=⟨X.gens,X.os,X.toks,hk5,X.pre,X.fresh,fun a o ha hw e=>(X.keep a o ha hw e).andThen fun o' e'=>kp a o' e',X.wk⟩
  have hl:=X₂.longer
  rw [r.len,r₃.len] at hl
  obtain⟨r₄,p₄⟩:=iN r₃.dropFr (rp _ _ p) hl e
  rw [← r.len] at r₄ p₄
  refine hE _ _ (congrArg Prod.fst q).symm e₃ u { s₂ with heap:=h' } (ms'.take ms.length) X₂.take (retP (P:=fun _ st'=>SR ⟨H,fr⟩ (ms'.take ms.length) st' { s₂ with heap:=h' }) q r₄) p₄ ⟨iA X r' hm.new,?_⟩
  obtain⟨k1,k2,k3,oe,ws,T,oT,ts,q1,⟨q2,q3⟩,q4,q5,q6,q7,q8,q9,q10⟩:=hF
  refine⟨oe,ws,T,oT,ts,t,q1,q2,q4,q3,q5,iA X r' (vH r₃ q6 q8 q9 fun _ _=>nofun),q7,q8,q9,q10,hT,fun qm=>?_⟩
  obtain⟨o'',n'',ho'',_,hd''⟩:=hT
  obtain⟨o',_,_,ho',_⟩:=r'.seqs t (List.mem_of_mem_take qm)
  exact nn ((vH r₃ htn ho'' hd'' fun _ _=>nofun).symm.trans ho')
theorem aPa (HF:FnOk prog w G H n) (HS:∀ fr,SortOk prog w ⟨H,fr⟩) (HR:∀ c,G.exc c=true→RaiseOk prog w H c) (GL:∀ fr,GlOk G ⟨H,fr⟩ mg mb) (h2:2≤n)
  (F:FnAt H a fd body) (ar:AOk (n+1) A) (fs:FrOk ⟨H,fr⟩ A) (r:SR ⟨H,fr⟩ ms st s) (hb:BindsTo s fd ⟨vs,kv⟩ binds) (pb:RepK ms s.heap vd binds) (hnd:(vd.map (·.1)).Nodup)
  (hst:∀ p∈vd,stored ⟨fd.scope.names,fd.scope.names⟩ p.1=true) {res:Res} (e:runF G fd.scope body vd st=some (res,st'))
  (Q:Value→Shared→Prop) (E:Value→Shared→Prop)
  (hQ:∀ d,res=.ret d→∀ v s' ms',Ext No s ms s' ms'→SR ⟨H,fr⟩ ms' st' s'→Rep ms' s'.heap d v→Q v s')
  (hE:∀ c d,res=.exc c d→∀ e v s' ms',Ext No s ms s' ms'→SR ⟨H,fr⟩ ms' st' s'→Rep ms' s'.heap d v→Flown ms' s.heap s'.heap c v e→E (.ref e) s') :
  wpAny (model prog w) A (call (.ref a) vs kv) Q E s:=by
 unfold runF at e
 cases hx:exs (ops G 24) ⟨fd.scope.names,fd.scope.names⟩ vd body st with
 | none=>rw [hx] at e; exact nn e
 | some y =>
  obtain⟨f,vars',st₂⟩:=y
  rw [hx] at e
  exact nI (GL fr).lim F ar fs r hb pb hnd hst e (fun {s₁ env own L} _ _ E₁ ar' fs' r₁ v₁ =>
   fR (iZ (mg:=mg) (mb:=mb) (base:=⟨H,L::fr⟩) HF (HS _) HR h2 24).ex ⟨GL _,E₁,ar',fs'⟩ body r₁ v₁ hx) Q E hQ hE
end
end Mine
end
section -- S29
open PySem PyProof.Rows PySem.W
namespace Mine
section
variable {N:Nat} {lt:Nat→Nat→Bool} {cmp:Nat→Nat→(Bool→Shared→Prop)→Shared→Prop} {s:Shared}
set_option genInjectivity false in
structure Ord (N:Nat) (lt:Nat→Nat→Bool) (cmp:Nat→Nat→(Bool→Shared→Prop)→Shared→Prop) (s:Shared):Prop where
 pos:0 < N
 ask:∀ i j,i < N→j < N→∀ C:Bool→Shared→Prop,C (lt i j) s→cmp i j C s
 refl:∀ i,i < N→lt i i=false
 trans:∀ i j k,i < N→j < N→k < N→lt j i=false→lt k j=false→lt k i=false
 asym:∀ i j,i < N→j < N→lt i j=true→lt j i=false
noncomputable def pm (N:Nat) (p:Array Nat):Prop:=p.Perm (List.toArray (List.range N))
noncomputable def kk (p:Array Nat) (i:Nat):Nat:=p.getD i 0
noncomputable def srt (lt:Nat→Nat→Bool) (p:Array Nat) (n:Nat):Prop:=∀ i j,i≤j→j < n→lt (kk p j) (kk p i)=false
noncomputable def nonInc (lt:Nat→Nat→Bool) (p:Array Nat) (n:Nat):Prop:=∀ i j,i≤j→j < n→lt (kk p i) (kk p j)=false
theorem pm.size {p:Array Nat} (h:pm N p):p.size=N:=by have:=h.size_eq; simpa using this
theorem pm.below {p:Array Nat} (h:pm N p) {i:Nat} (hi:i < N):kk p i < N:=by
 have hs:=h.size
 have e:kk p i=p[i]:=by simp [kk,Array.getD,hs,hi]
 rw [e]
 have:p[i]∈List.range N:=by
  have hl:=Array.perm_iff_toList_perm.mp h
  have:=(hl.mem_iff (a:=p[i])).mp (by simp)
  simpa using this
 exact List.mem_range.mp this
theorem Ord.bel (O:Ord N lt cmp s) {p:Array Nat} (h:pm N p) (i:Nat):kk p i < N:=by
 by_cases hi:i < N
 ·exact h.below hi
 ·have e:kk p i=0:=by
   unfold kk
   rw [Array.getD_eq_getD_getElem?,Array.getElem?_eq_none (by rw [h.size]; exact Nat.not_lt.mp hi)]; rfl
  rw [e]; exact O.pos
theorem kk_congr {xs ys:Array Nat} {i j:Nat} (h:xs[i]? = ys[j]?):kk xs i=kk ys j:=by
 unfold kk
 rw [Array.getD_eq_getD_getElem?,Array.getD_eq_getD_getElem?,h]
theorem tB {xs:Array Nat} {src d:Nat} (hs:src < xs.size) (hd:d≤src) (k:Nat) :
  kk (bubble xs src d) k=if k=src - d then kk xs src else if src - d < k∧k≤src then kk xs (k - 1) else kk xs k:=by
 have e:=getElem?_bubble hs d hd k
 by_cases h1:k=src - d
 ·rw [if_pos h1] at e ⊢; exact kk_congr e
 ·rw [if_neg h1] at e ⊢
  by_cases h2:src - d < k∧k≤src
  ·rw [if_pos h2] at e ⊢; exact kk_congr e
  ·rw [if_neg h2] at e ⊢; exact kk_congr e
theorem pB {xs:Array Nat} {i j:Nat} (hj:j≤xs.size) (k:Nat):kk (kas_rev xs i j) k=if i≤k∧k < j then kk xs (i+j - 1 - k) else kk xs k:=by
 have e:=getElem?_mirror_all (i:=i) hj k
 unfold kas_rev
 by_cases h1:i≤k∧k < j
 ·rw [if_pos h1] at e ⊢; exact kk_congr e
 ·rw [if_neg h1] at e ⊢; exact kk_congr e
theorem pm.rev {p:Array Nat} (h:pm N p) (i j:Nat):pm N (kas_rev p i j):=(mirror_perm _ _ _ _).trans h
theorem pm.bub {p:Array Nat} (h:pm N p) (i j:Nat):pm N (bubble p i j):=(bubble_perm _ _ _).trans h
theorem aQq {lt:Nat→Nat→Bool} {p:Array Nat} (O:Ord N lt cmp s) (hp:pm N p) (h:0 < N):srt lt p 1:=fun i j hij hj=>by
 have:i=j:=by lia
 subst this
 exact O.refl _ (O.bel hp _)
theorem aMd {p:Array Nat} {n:Nat} (O:Ord N lt cmp s) (hp:pm N p) (h1:1≤n) (hn:n < N) (hs:srt lt p n) (h:lt (kk p n) (kk p (n - 1))=false):srt lt p (n+1):=fun i j hij hj=>by
 by_cases e:j < n
 ·exact hs i j hij e
 ·have:j=n:=by lia
  subst this
  by_cases e2:i=j
  ·subst e2; exact O.refl _ (O.bel hp _)
  ·exact O.trans _ _ _ (O.bel hp _) (O.bel hp (j - 1)) (O.bel hp _) (hs i (j - 1) (by lia) (by omega)) h
theorem wQ {p:Array Nat} {n:Nat} (O:Ord N lt cmp s) (hp:pm N p) (h1:1≤n) (hn:n < N) (hs:nonInc lt p n) (h:lt (kk p (n - 1)) (kk p n)=false):nonInc lt p (n+1):=fun i j hij hj=>by
 by_cases e:j < n
 ·exact hs i j hij e
 ·have:j=n:=by lia
  subst this
  by_cases e2:i=j
  ·subst e2; exact O.refl _ (O.bel hp _)
  ·exact O.trans _ _ _ (O.bel hp _) (O.bel hp (j - 1)) (O.bel hp _) h (hs i (j - 1) (by lia) (by omega))
theorem aAn {p:Array Nat} {Q:Nat→Shared→Prop} (O:Ord N lt cmp s) (hp:pm N p):∀ (f n:Nat),1≤n→n+f≤N→srt lt p n →
  (∀ m,n≤m→m≤n+f→srt lt p m→(m=n+f∨lt (kk p m) (kk p (m - 1))=true)→Q m s)→(kas_asc p f n).kasWp cmp Q s
 | 0,n,h1,hn,hs,h=>h n (Nat.le_refl _) (Nat.le_refl _) hs (.inl rfl)
 | f+1,n,h1,hn,hs,h=>by
  refine (?_:cmp (kk p n) (kk p (n - 1)) (fun c s'=>(if c=true then KasT.ret n else kas_asc p f (n+1)).kasWp cmp Q s') s)
  refine O.ask _ _ (O.bel hp _) (O.bel hp _) _ ?_
  cases e:lt (kk p n) (kk p (n - 1)) with
  | true=>rw [if_pos rfl]; exact h n (Nat.le_refl _) (by exact Nat.le_add_right _ _) hs (.inr e)
  | false =>
   rw [if_neg (by decide)]
   refine aAn O hp f (n+1) (by exact Nat.succ_pos _) (by lia) (aMd O hp h1 (by exact Nat.lt_of_le_of_lt (Nat.le_add_right _ _) (by assumption)) hs e) fun m h1 h2 h3 h4=>h m (by exact Nat.le_of_lt (by assumption)) (by lia) h3 (h4.imp (by lia) id)
set_option tactic.hygienic true in
theorem sY {p:Array Nat} {n q m:Nat} (O:Ord N lt cmp s) (hp:pm N p) (hm:m≤N) (hn:n≤m) (hn1:1≤n) (hq:q < n) (hd:nonInc lt p m) (he:∀ k,n - 1 - q≤k→k < n→lt (kk p (n - 1)) (kk p k)=false):nonInc lt (kas_rev p (n - (q+1)) n) m:=by
 have eqv:∀ k,k < m→lt (kk p k) (kk (kas_rev p (n - (q+1)) n) k)=false∧lt (kk (kas_rev p (n - (q+1)) n) k) (kk p k)=false:=fun k hk=>by
  rw [pB (by rw [hp.size]; exact Nat.le_trans (by assumption) (by assumption))]
  split
  ·rename_i h
   have a1:=he k (by lia) h.2
   have a2:=he (n - (q+1)+n - 1 - k) (by lia) (by omega)
   have b1:=hd k (n - 1) (by omega) (by omega)
   have b2:=hd (n - (q+1)+n - 1 - k) (n - 1) (by omega) (by omega)
   have l1:=O.bel hp k
   have l2:=O.bel hp (n - (q+1)+n - 1 - k)
   have l3:=O.bel hp (n - 1)
   exact⟨O.trans _ _ _ l2 l3 l1 a2 b1,O.trans _ _ _ l1 l3 l2 a1 b2⟩
  ·have l1:=O.bel hp k
   exact⟨O.refl _ l1,O.refl _ l1⟩
 intro i j hij hj
 have l:∀ k,k < m→kk (kas_rev p (n - (q+1)) n) k < N:=fun k hk=>O.bel (hp.rev _ _) _
 exact O.trans _ _ _ (l j hj) (O.bel hp _) (l i (by exact Nat.lt_of_le_of_lt (by assumption) (by assumption))) (eqv j hj).1 (O.trans _ _ _ (O.bel hp j) (O.bel hp i) (l i (by exact Nat.lt_of_le_of_lt (by assumption) (by assumption))) (hd i j hij hj) (eqv i (by exact Nat.lt_of_le_of_lt (by assumption) (by assumption))).2)
theorem nZ {Q:Array Nat×Nat×Nat→Shared→Prop} (O:Ord N lt cmp s):∀ (f:Nat) (p:Array Nat) (n q:Nat),pm N p→1≤n→n+f≤N→q < n→nonInc lt p n→(∀ k,n - 1 - q≤k→k < n→lt (kk p (n - 1)) (kk p k)=false) →
  (∀ p' m q',pm N p'→n≤m→m≤n+f→q' < m→nonInc lt p' m→(∀ k,m - 1 - q'≤k→k < m→lt (kk p' (m - 1)) (kk p' k)=false)→Q (p',m,q') s)→(kas_desc f p n q).kasWp cmp Q s
 | 0,p,n,q,hp,h1,hn,hq,hd,he,h=>h p n q hp (Nat.le_refl _) (Nat.le_refl _) hq hd he
 | f+1,p,n,q,hp,h1,hn,hq,hd,he,h=>by
  show cmp (kk p n) (kk p (n - 1)) (fun c s'=>(if c=true then (if q > 0 then kas_desc f (kas_rev p (n - (q+1)) n) (n+1) 0 else kas_desc f p (n+1) 0)
   else .ask (kk p (n - 1)) (kk p n) fun d=>if d=true then .ret (p,n,q) else kas_desc f p (n+1) (q+1)).kasWp cmp Q s') s
  refine O.ask _ _ (O.bel hp _) (O.bel hp _) _ ?_
  have one:∀ (p':Array Nat),pm N p'→∀ k,n+1 - 1 - 0≤k→k < n+1→lt (kk p' (n+1 - 1)) (kk p' k)=false:=fun p' hp' k hk1 hk2=>by
   have:k=n+1 - 1:=by lia
   subst this
   exact O.refl _ (O.bel hp' _)
  cases e:lt (kk p n) (kk p (n - 1)) with
  | true =>
   rw [if_pos rfl]
   have hd':=wQ O hp h1 (by exact Nat.lt_of_le_of_lt (Nat.le_add_right _ _) (by assumption)) hd (O.asym _ _ (O.bel hp _) (O.bel hp _) e)
   split
   ·have hr:=sY O hp (by exact Nat.lt_of_le_of_lt (Nat.le_add_right _ _) (by assumption)) (Nat.le_succ n) h1 hq hd' he
    exact nZ O f _ (n+1) 0 (hp.rev _ _) (by exact Nat.succ_pos _) (by lia) (by exact Nat.succ_pos _) hr (one _ (hp.rev _ _)) fun p' m q' a b c d e g=>h p' m q' a (by exact Nat.le_of_lt (by assumption)) (by lia) d e g
   ·exact nZ O f p (n+1) 0 hp (by exact Nat.succ_pos _) (by lia) (by exact Nat.succ_pos _) hd' (one p hp) fun p' m q' a b c d e g=>h p' m q' a (by exact Nat.le_of_lt (by assumption)) (by lia) d e g
  | false =>
   rw [if_neg (by decide)]
   refine (?_:cmp (kk p (n - 1)) (kk p n) (fun d s'=>(if d=true then KasT.ret (p,n,q) else kas_desc f p (n+1) (q+1)).kasWp cmp Q s') s)
   refine O.ask _ _ (O.bel hp _) (O.bel hp _) _ ?_
   cases e2:lt (kk p (n - 1)) (kk p n) with
   | true=>rw [if_pos rfl]; exact h p n q hp (Nat.le_refl _) (by exact Nat.le_add_right _ _) hq hd he
   | false =>
    rw [if_neg (by decide)]
    refine nZ O f p (n+1) (q+1) hp (by exact Nat.succ_pos _) (by lia) (by exact Nat.succ_lt_succ (by assumption)) (wQ O hp h1 (by exact Nat.lt_of_le_of_lt (Nat.le_add_right _ _) (by assumption)) hd e2) (fun k hk1 hk2=>?_) fun p' m q' a b c d e g=>h p' m q' a (by exact Nat.le_of_lt (by assumption)) (by lia) d e g
    rw [Nat.add_sub_cancel]
    by_cases hk:k < n
    ·exact O.trans _ _ _ (O.bel hp _) (O.bel hp (n - 1)) (O.bel hp _) (he k (by lia) hk) e
    ·have:k=n:=by lia
     subst this
     exact O.refl _ (O.bel hp _)
theorem vY {p:Array Nat} {n:Nat} {Q:Nat×Array Nat→Shared→Prop} (O:Ord N lt cmp s) (hp:pm N p) (h1:1≤n) (hn:n≤N) (hd:nonInc lt p n) (h:∀ m p',pm N p'→1≤m→m≤N→srt lt p' m→Q (m,p') s):(kas_tail3 n N p).kasWp cmp Q s:=by
 unfold kas_tail3
 rw [KasT.kasWp_bind]
 refine aAn O (hp.rev _ _) _ _ h1 (by lia) (fun i j hij hj=>?_) fun m a b c d=>h m _ (hp.rev _ _) (by exact Nat.le_trans (by assumption) (by assumption)) (by lia) c
 rw [pB (by rw [hp.size]; exact hn),pB (by rw [hp.size]; exact hn),if_pos ⟨Nat.zero_le _,hj⟩,if_pos ⟨Nat.zero_le _,by exact Nat.lt_of_le_of_lt (by assumption) (by assumption)⟩]
 exact hd _ _ (by omega) (by omega)
theorem nB {p:Array Nat} {n:Nat} {Q:Nat×Array Nat→Shared→Prop} (O:Ord N lt cmp s) (hp:pm N p) (h1:1≤n) (hn:n+1≤N) (hd:nonInc lt p (n+1)) (h:∀ m p',pm N p'→1≤m→m≤N→srt lt p' m→Q (m,p') s):(kas_descPart n N p).kasWp cmp Q s:=by
 unfold kas_descPart
 rw [KasT.kasWp_bind]
 refine nZ O _ p (n+1) 0 hp (by exact Nat.succ_pos _) (by omega) (by exact Nat.succ_pos _) hd (fun k hk1 hk2=>?_) fun p' m q' a b c d e g=>?_
 ·have:k=n+1 - 1:=by lia
  subst this
  exact O.refl _ (O.bel hp _)
 ·refine (?_:(if q' > 0 then kas_tail3 m N (kas_rev p' (m - (q'+1)) m) else kas_tail3 m N p').kasWp cmp Q s)
  split
  ·exact vY O (a.rev _ _) (by exact Nat.lt_trans (by assumption) (by assumption)) (by omega) (sY O a (by omega) (Nat.le_refl _) (by exact Nat.lt_trans (by assumption) (by assumption)) d e g) h
  ·exact vY O a (by exact Nat.lt_trans (by assumption) (by assumption)) (by omega) e h
theorem aHe {p:Array Nat} {Q:Nat×Array Nat→Shared→Prop} (O:Ord N lt cmp s) (hp:pm N p) (h1:1≤N) (h:∀ m p',pm N p'→1≤m→m≤N→srt lt p' m→Q (m,p') s):(kas_count N p).kasWp cmp Q s:=by
 unfold kas_count
 rw [KasT.kasWp_bind]
 refine aAn O hp _ 1 (Nat.le_refl _) (by omega) (aQq O hp h1) fun n a b c d=>?_
 refine (?_:(if (n == N)=true then KasT.ret (n,p) else if n > 1 then KasT.ask (kk p 0) (kk p (n - 1)) fun c=>if c=true then KasT.ret (n,p) else kas_descPart n N (kas_rev p 0 n) else kas_descPart n N p).kasWp cmp Q s)
 by_cases e1:(n == N)=true
 ·rw [if_pos e1]; exact h n p hp a (by lia) c
 ·rw [if_neg e1]
  have hne:n≠N:=fun q=>e1 (by rw [q]; exact beq_self_eq_true _)
  have hlt:lt (kk p n) (kk p (n - 1))=true:=d.resolve_left (by lia)
  have hge:=O.asym _ _ (O.bel hp _) (O.bel hp _) hlt
  split
  ·refine (?_:cmp (kk p 0) (kk p (n - 1)) (fun c s'=>(if c=true then KasT.ret (n,p) else kas_descPart n N (kas_rev p 0 n)).kasWp cmp Q s') s)
   refine O.ask _ _ (O.bel hp _) (O.bel hp _) _ ?_
   cases e2:lt (kk p 0) (kk p (n - 1)) with
   | true=>rw [if_pos rfl]; exact h n p hp a (by lia) c
   | false =>
    rw [if_neg (by decide)]
    have all:∀ i j,i < n→j < n→lt (kk p i) (kk p j)=false:=fun i j hi hj =>
     O.trans _ _ _ (O.bel hp j) (O.bel hp (n - 1)) (O.bel hp i) (c j (n - 1) (by lia) (by omega))
      (O.trans _ _ _ (O.bel hp _) (O.bel hp 0) (O.bel hp _) e2 (c 0 i (by exact Nat.zero_le _) hi))
    refine nB O (hp.rev _ _) a (by lia) (fun i j hij hj=>?_) h
    rw [pB (by rw [hp.size]; lia),pB (by rw [hp.size]; lia)]
    repeat' split
    ·exact all _ _ (by omega) (by omega)
    ·have:j=n:=by lia
     subst this
     exact O.trans _ _ _ (O.bel hp _) (O.bel hp (j - 1)) (O.bel hp _) hge (all _ _ (by omega) (by omega))
    ·omega
    ·have:i=j:=by lia
     subst this
     exact O.refl _ (O.bel hp _)
  ·have:n=1:=by lia
   subst this
   refine nB O hp (Nat.le_refl _) (by lia) (fun i j hij hj=>?_) h
   by_cases hi:i=j
   ·subst hi; exact O.refl _ (O.bel hp _)
   ·have h0:i=0:=by lia
    have h1:j=1:=by lia
    subst h0; subst h1
    exact hge
theorem oJ {p:Array Nat} {k:Nat} {Q:Nat→Shared→Prop} (O:Ord N lt cmp s) (hp:pm N p) (hk:k < N) (hs:srt lt p k) (h:∀ l,l≤k→(∀ i,i < l→lt (kk p k) (kk p i)=false)→(∀ i,l≤i→i < k→lt (kk p i) (kk p k)=false)→Q l s) :
  ∀ (f l r:Nat),l≤r→r≤k→r - l≤f→(∀ i,i < l→lt (kk p k) (kk p i)=false)→(∀ i,r≤i→i < k→lt (kk p i) (kk p k)=false)→(kas_place p k f l r).kasWp cmp Q s
 | 0,l,r,h1,h2,h3,lo,hi=>h l (by exact Nat.le_trans (by assumption) (by assumption)) lo fun i a b=>hi i (by lia) b
 | f+1,l,r,h1,h2,h3,lo,hi=>by
  refine (?_:(if l ≥ r then KasT.ret l else KasT.ask (kk p k) (kk p ((l+r) / 2)) fun c=>if c=true then kas_place p k f l ((l+r) / 2) else kas_place p k f ((l+r) / 2+1) r).kasWp cmp Q s)
  split
  ·exact h l (by exact Nat.le_trans (by assumption) (by assumption)) lo fun i a b=>hi i (by exact Nat.le_trans (by assumption) (by assumption)) b
  ·refine (?_:cmp (kk p k) (kk p ((l+r) / 2)) (fun c s'=>(if c=true then kas_place p k f l ((l+r) / 2) else kas_place p k f ((l+r) / 2+1) r).kasWp cmp Q s') s)
   refine O.ask _ _ (O.bel hp _) (O.bel hp _) _ ?_
   cases e:lt (kk p k) (kk p ((l+r) / 2)) with
   | true =>
    rw [if_pos rfl]
    refine oJ O hp hk hs h f l ((l+r) / 2) (by lia) (by lia) (by omega) lo fun i a b=>?_
    exact O.trans _ _ _ (O.bel hp _) (O.bel hp ((l+r) / 2)) (O.bel hp _) (O.asym _ _ (O.bel hp _) (O.bel hp _) e) (hs _ _ a b)
   | false =>
    rw [if_neg (by decide)]
    refine oJ O hp hk hs h f ((l+r) / 2+1) r (by lia) (by omega) (by omega) (fun i a=>?_) hi
    exact O.trans _ _ _ (O.bel hp _) (O.bel hp ((l+r) / 2)) (O.bel hp _) (hs _ _ (by exact Nat.le_of_lt_succ (by assumption)) (by lia)) e
theorem aHl {Q:Array Nat→Shared→Prop} (O:Ord N lt cmp s) (h:∀ p',pm N p'→srt lt p' N→Q p' s):∀ (f:Nat) (p:Array Nat) (k:Nat),pm N p→k+f=N→srt lt p k→(kas_bin f p k).kasWp cmp Q s
 | 0,p,k,hp,hk,hs=>h p hp (by rw [← hk]; exact hs)
 | f+1,p,k,hp,hk,hs=>by
  refine (?_:((kas_place p k k 0 k).bind fun l=>kas_bin f (bubble p k (k - l)) (k+1)).kasWp cmp Q s)
  rw [KasT.kasWp_bind]
  refine oJ O hp (by lia) hs (fun l hl lo hi=>aHl O h f _ (k+1) (hp.bub _ _) (by lia) fun i j hij hj=>?_) k 0 k (by exact Nat.zero_le _) (by simp) (by exact Nat.sub_le _ _) (fun i a=>by exact absurd (by assumption) (Nat.not_lt_zero _)) fun i a b=>by lia
  have hks:k < p.size:=by rw [hp.size]; lia
  rw [tB hks (by exact Nat.sub_le _ _),tB hks (by exact Nat.sub_le _ _),show k - (k - l)=l by lia]
  have rf:∀ i,i < N→lt (kk p i) (kk p i)=false:=fun i hi=>O.refl _ (O.bel hp _)
  repeat' split
  all_goals first
   | (exfalso; lia)
   | exact rf _ (by lia)
   | exact lo _ (by lia)
   | exact hi _ (by omega) (by lia)
   | exact hs _ _ (by omega) (by lia)
theorem aOj {Q:Array Nat→Shared→Prop} (O:Ord N lt cmp s) (h1:1≤N) (h:∀ p',pm N p'→srt lt p' N→Q p' s):(kas_sort N).kasWp cmp Q s:=by
 unfold kas_sort
 rw [KasT.kasWp_bind]
 refine aHe O (Array.Perm.refl _) h1 fun m p a b c d=>?_
 refine (?_:(if m < N then kas_bin (N - max m 1) p (max m 1) else KasT.ret p).kasWp cmp Q s)
 split
 ·rw [show max m 1=m by lia]
  exact aHl O h _ p m a (by lia) d
 ·have:m=N:=by lia
  subst this
  exact h p a d
end
end Mine
end
section -- S30
open PySem PyProof.Rows PySem.W
namespace Mine
theorem deqF_eq {a b:D} (e:deqF a b=some true):a=b:=by
 induction a using D.casesOn with
 | none=>exact ifS e fun hb _=>(gM hb).symm
 | bool x=>exact mE e fun y hy e=>(congrArg D.bool (eq_of_beq e)).trans (xJ hy).symm
 | int x=>exact mE e fun y hy e=>(congrArg D.int (eq_of_beq e)).trans (aR hy).symm
 | str x=>exact mE e fun y hy e=>(congrArg D.str (of_decide_eq_true e)).trans (eY hy).symm
 | bytes x=>exact mE e fun y hy e=>(congrArg D.bytes (of_decide_eq_true e)).trans (nR hy).symm
 | _=>exact nn e
theorem aOf {a b:D} {q:Bool×List D×List D} (e:seq2 a b=some q):∃ c:List D→D,a=c q.2.1∧b=c q.2.2:=by
 unfold seq2 at e
 cases ha:dE a with
 | some x=>rw [ha] at e; exact mE (o:=dE b) e fun y hb e=>e▸⟨_,bS ha,bS hb⟩
 | none=>rw [ha] at e; exact bE (o:=tupD a) e fun x ha e=>mE (o:=tupD b) e fun y hb e=>e▸⟨_,kU ha,kU hb⟩
theorem aPp {f:D→D→Option Bool} (hf:∀ a b,f a b=some true→a=b) (as:List D):∀ {bs:List D},deqL f as bs=some true→as=bs:=by
 induction as with
 | nil=>exact fun h=>(List.isEmpty_iff.mp (Option.some.inj h)).symm
 | cons a as ih =>
  intro bs h
  induction bs using List.casesOn with
  | nil=>exact absurd (Option.some.inj h) Bool.false_ne_true
  | cons b bs=>exact bE (o:=f a b) h fun x hx h=>mE (o:=deqL f as bs) h fun y hy h=>by rw [hf a b (hx.trans (congrArg some (and2 h).1)),ih (hy.trans (congrArg some (and2 h).2))]
theorem aQk (n:Nat):∀ a b:D,deqN n a b=some true→a=b:=by
 induction n with
 | zero=>exact fun _ _ e=>nn e
 | succ n ih =>
  intro a b e
  have e:deq1 (deqN n) a b=some true:=e
  unfold deq1 at e
  cases hs:seq2 a b with
  | none=>rw [hs] at e; exact deqF_eq e
  | some q =>
   rw [hs] at e
   obtain⟨c,h1,h2⟩:=aOf hs
   exact ifE e (fun _ e=>h1.trans ((congrArg c (aPp ih _ e)).trans h2.symm)) fun _ e=>ifN e fun _ e=>absurd (Option.some.inj e) Bool.false_ne_true
set_option genInjectivity false in
structure OrdD (l:List D):Prop where
 isL:∀ a∈l,isLd a=true
 refl:∀ a∈l,ltD a a=false
 def_:∀ a∈l,∀ b∈l,∃ c,dlt a b=some c
 asym:∀ a∈l,∀ b∈l,ltD a b=true→ltD b a=false
 anti:∀ a∈l,∀ b∈l,ltD a b=false→ltD b a=false→a=b
 trans:∀ a∈l,∀ b∈l,∀ c∈l,ltD b a=false→ltD c b=false→ltD c a=false
theorem or2 {P:Prop} {a b:Bool} (h:(a || b)=true) (l:a=true→P) (r:b=true→P):P:=((Bool.or_eq_true a b).mp h).elim l r
theorem rR {l:List D} (h:fM l=true):OrdD l:=by
 have h1:=fun a ha=>and2 (List.all_eq_true.mp h a ha)
 have h2:=fun a ha b hb=>and2 (List.all_eq_true.mp (h1 a ha).2 b hb)
 have h3:=fun a ha b hb=>and2 (h2 a ha b hb).1
 have h4:=fun a ha b hb=>and2 (h3 a ha b hb).1
 have cl:∀ {a:Bool} {P:Prop},a=false→a=true→P:=fun e q=>absurd (e.symm.trans q) Bool.false_ne_true
 exact⟨fun a ha=>(and2 (h1 a ha).1).1,fun a ha=>no (and2 (h1 a ha).1).2,fun a ha b hb=>Option.isSome_iff_exists.mp (h4 a ha b hb).1,fun a ha b hb e=>or2 (h4 a ha b hb).2 (fun q=>cl (no q) e) no,
  fun a ha b hb e1 e2=>or2 (h3 a ha b hb).2 (fun q=>or2 q (cl e1) (cl e2)) fun q=>aQk 6 a b (of_decide_eq_true q),
  fun a ha b hb c hc e1 e2=>or2 (List.all_eq_true.mp (h2 a ha b hb).2 c hc) (fun q=>or2 q (cl e1) (cl e2)) no⟩
noncomputable def leD (a b:D):Prop:=ltD b a=false
theorem zR {a b:D} {c:Bool} (h:dlt a b=some c):ltD a b=c:=by unfold ltD; rw [h]; cases c <;> rfl
theorem aPl {l:List D} (O:OrdD l) {x:D} (hx:x∈l) (ys:List D):∀ {zs:List D},(∀ y∈ys,y∈l)→ys.Pairwise leD→insD x ys=some zs→zs.Perm (x::ys)∧zs.Pairwise leD:=by
 induction ys with
 | nil=>exact fun _ _ e=>Option.some.inj e▸⟨.refl _,List.pairwise_singleton _ _⟩
 | cons y ys ih =>
  intro zs hm hp e
  have hy:=hm y List.mem_cons_self
  refine bE (o:=dlt x y) e fun c h e=>ifE e (fun hc e=>?_) fun hc e=>mE (o:=insD x ys) e fun ws e' q=>?_
  ·cases Option.some.inj e
   have hxy:leD x y:=O.asym x hx y hy ((zR h).trans hc)
   refine⟨.refl _,List.pairwise_cons.mpr ⟨fun z hz=>?_,hp⟩⟩
   rcases List.mem_cons.mp hz with rfl | hz
   ·exact hxy
   ·exact O.trans x hx y hy z (hm z (List.mem_cons_of_mem _ hz)) hxy ((List.pairwise_cons.mp hp).1 z hz)
  ·subst q
   obtain⟨h1,h2⟩:=ih (fun z hz=>hm z (List.mem_cons_of_mem _ hz)) (List.pairwise_cons.mp hp).2 e'
   refine⟨(List.Perm.cons y h1).trans (.swap _ _ _),List.pairwise_cons.mpr ⟨fun z hz=>?_,h2⟩⟩
   rcases List.mem_cons.mp (h1.mem_iff.mp hz) with rfl | hz
   ·exact (zR h).trans (Bool.eq_false_iff.mpr hc)
   ·exact (List.pairwise_cons.mp hp).1 z hz
theorem aEd {l:List D} (O:OrdD l) (m:List D):∀ {xs:List D},(∀ y∈m,y∈l)→dG m=some xs→xs.Perm m∧xs.Pairwise leD:=by
 induction m with
 | nil=>exact fun _ e=>Option.some.inj e▸⟨.refl _,.nil⟩
 | cons x m ih =>
  intro xs hm e
  refine bE (o:=dG m) e fun ys e1 e2=>?_
  obtain⟨h1,h2⟩:=ih (fun z hz=>hm z (List.mem_cons_of_mem _ hz)) e1
  obtain⟨h3,h4⟩:=aPl O (hm x List.mem_cons_self) _ (fun y hy=>hm y (List.mem_cons_of_mem _ (h1.mem_iff.mp hy))) h2 e2
  exact⟨h3.trans (h1.cons x),h4⟩
theorem aBg {l xs ys:List D} (h:fM l=true) (e:dG l=some xs) (hp:ys.Perm l) (hs:ys.Pairwise leD):ys=xs:=by
 have O:=rR h
 obtain⟨h1,h2⟩:=aEd O _ (fun _ hy=>hy) e
 exact (hp.trans h1.symm).eq_of_pairwise (fun a b ha hb h1' h2'=>O.anti a (hp.mem_iff.mp ha) b (h1.mem_iff.mp hb) h2' h1') hs h2
section
variable {prog:Program} {w:World} {A:Around} {E:Value→Shared→Prop} {s:Shared}
noncomputable def midHeap (h:Heap) (a:Addr) (vs:List Value):Heap:=((h.update a (Obj.mapSeq fun _=>#[])).push (seqObj "tuple" vs.toArray 0)).push (seqObj "list" #[] 0)
theorem rB {a:Addr} {vs:List Value} {n:Nat} {P:PySem.Fin→Shared→Prop} {T:Value} {G:List Value→Prop} (ho:s.heap.get? a=some (seqObj "list" vs.toArray n)) (h64:vs.length < 64)
  (hT:2≤vs.length→∀ v∈vs,Looks (model prog w) (midHeap s.heap a vs) (typeOf v) T) (hT1:(T != Value.type "tuple")=true) (hT2:(T == T)=true)
  (hG:vs.length < 2→G vs)
  (hrun:2≤vs.length→(kas_sort vs.length).kasWp (kas_ask prog w A oneType' vs) (fun p s'=>s'={ s with heap:=midHeap s.heap a vs }∧G (p.toList.map fun i=>vs.getD i Value.none)) { s with heap:=midHeap s.heap a vs })
  (h:∀ out:Array Value,G out.toList→P (.done (.ret .none)) { s with heap:=sortedHeap s.heap a vs out }) :
  wpAny (model prog w) A (Builtin.«list.sort» ⟨[.ref a],[]⟩) P E s:=by
 rw [list_sort_plain]
 have ha:a < s.heap.objs.size:=Heap.lt_size ho
 refine wpAny_bind (listItems_at ho rfl ?_)
 refine wpAny_bind (listUpdate_at ho rfl ?_ (by rw [List.size_toArray,sizeLine_eq]; lia) (Nat.zero_le _))
 obtain⟨e1,ho1⟩:∃ e1,(s.heap.update a (Obj.mapSeq fun _=>#[])).get? a=some (seqObj "list" #[] e1):=⟨_,get?_update_seq ho (fun _=>#[])⟩
 refine wpAny_bind (seqEpoch_at ho1 rfl ?_)
 refine wpAny_bind (wpAny_newTuple ?_ (by show vs.length≤_; rw [sizeLine_eq]; lia))
 refine wpAny_bind (wpAny_newList ?_ (Nat.zero_le _))
 refine wpAny_holding ?_
 have ho6:(midHeap s.heap a vs).get? a=some (seqObj "list" #[] e1):=Heap.get?_push_of_some _ (Heap.get?_push_of_some _ ho1)
 refine (?_:wpAny (model prog w) A _ P E { s with heap:=midHeap s.heap a vs })
 dsimp only
 by_cases h2:vs.toArray.size < 2
 ·rw [if_pos h2,if_pos h2]
  refine wpAny_bind (wpAny_pure ?_)
  rw [StateT.run_pure]
  refine wpAny_bind (wpAny_pure ?_)
  dsimp only
  refine wpAny_bind (seqEpoch_at ho6 rfl ?_)
  refine wpAny_bind (listUpdate_at ho6 rfl ?_ (Nat.zero_le _) (hsz2:=by rw [Array.size_map]; show (pairsOf vs).size≤_; rw [pairsOf_size,sizeLine_eq]; lia))
  simp only [bne_self_eq_false,Bool.false_eq_true,if_false]
  refine wpAny_pure (h _ ?_)
  have:((pairsOf vs).map (·.2)).toList=vs:=by
   rw [Array.toList_map,pairsOf_toList]
   exact List.map_snd_zip (Nat.le_refl _)
  refine (?_:G ((pairsOf vs).map (·.2)).toList)
  rw [this]
  exact hG (by simpa using h2)
 ·rw [if_neg h2,if_neg h2]
  have h2':2≤vs.length:=by simp at h2; omega
  refine wpAny_bind (kas_kind h2' (hT h2') hT1 hT2 ?_)
  have est:SortSt.mk' oneType' (vs.toArray.zip vs.toArray) #[] 7 none=kas_st oneType' (pairsOf vs) (List.toArray (List.range vs.length)):=by
   have e:=kas_range (pairsOf vs)
   rw [pairsOf_size] at e
   refine (?_:SortSt.mk' oneType' (pairsOf vs) #[] 7 none=SortSt.mk' oneType' ((List.toArray (List.range vs.length)).map (kas_item (pairsOf vs))) #[] 7 none)
   rw [e]
  have ask:=hrun h2'
  rw [kas_ask_eq] at ask
  have run:=kas_runs (E:=E) (Q:=fun _ st' s'=>∃ p:Array Nat,p.size=vs.length∧arrOf st'=p.map (kas_item (pairsOf vs))∧failedOf st'=none∧s'={ s with heap:=midHeap s.heap a vs }∧G (p.toList.map fun i=>vs.getD i Value.none))
   h2' h64 (fun p' st' s' a1 a2 a3 a4=>⟨p',a1,a2,a3,a4⟩) ask
  rw [← est] at run
  refine wpAny_bind (wpAny_mono run ?_ fun _ _ e=>e)
  rintro⟨⟨⟩,st'⟩ s' ⟨p,hp,har,hf,rfl,hg⟩
  dsimp only
  have hout:(arrOf st').map (·.2)=List.toArray (p.toList.map fun i=>vs.getD i Value.none):=by
   apply Array.toList_inj.mp
   rw [har,Array.map_map,Array.toList_map]
   exact List.map_congr_left fun i _=>by show (kas_item (pairsOf vs) i).2=_; rw [kas_item_eq]
  have hsz:(List.toArray (p.toList.map fun i=>vs.getD i Value.none)).size=vs.length:=by rw [List.size_toArray,List.length_map,Array.length_toList,hp]
  rw [hout]
  refine wpAny_bind (seqEpoch_at ho6 rfl ?_)
  refine wpAny_bind (listUpdate_at ho6 rfl ?_ (Nat.zero_le _) (Nat.le_trans (Nat.le_of_eq hsz) (by rw [sizeLine_eq]; lia)))
  rw [hf]
  simp only [bne_self_eq_false,Bool.false_eq_true,if_false]
  exact wpAny_pure (h (List.toArray (p.toList.map fun i=>vs.getD i Value.none)) hg)
noncomputable def allHeap (h:Heap) (vs:List Value):Heap:=midHeap (((h.push (seqObj "list" #[] 0)).update h.objs.size (Obj.mapSeq (·++vs.toArray))).push (seqObj "list" vs.toArray 0)) (h.objs.size+1) vs
theorem wO {h:Heap} {vs:List Value} {b:Addr} {o:Obj} (e:h.get? b=some o):(allHeap h vs).get? b=some o:=by
 have hlt:=Heap.lt_size e
 unfold allHeap midHeap
 refine Heap.get?_push_of_some _ (Heap.get?_push_of_some _ ?_)
 rw [Heap.get?_update_other _ _ (Nat.ne_of_gt (Nat.lt_succ_of_lt hlt))]
 refine Heap.get?_push_of_some _ ?_
 rw [Heap.get?_update_other _ _ (Nat.ne_of_gt hlt)]
 exact Heap.get?_push_of_some _ e
theorem aBh {l:Addr} {vs:List Value} {Q:Value→Shared→Prop} {T:Value} {G:List Value→Prop} (hl:s.heap.IsList l vs.toArray) (h64:vs.length < 64)
  (hT:2≤vs.length→∀ v∈vs,Looks (model prog w) (allHeap s.heap vs) (typeOf v) T) (hT1:(T != Value.type "tuple")=true) (hT2:(T == T)=true)
  (hG:vs.length < 2→G vs)
  (hrun:2≤vs.length→(kas_sort vs.length).kasWp (kas_ask prog w A.in1.in1 oneType' vs) (fun p s'=>s'={ s with heap:=allHeap s.heap vs }∧G (p.toList.map fun i=>vs.getD i Value.none)) { s with heap:=allHeap s.heap vs })
  (h:∀ out:Array Value,G out.toList→Q (.ref (s.heap.objs.size+1)) { s with heap:=sortedAll s.heap vs out }) :
  wpAny (model prog w) A (call (.builtin "sorted") [.ref l]) Q E s:=by
 refine Calls.call_function_entry kind_sorted plain_sorted entry_sorted (args_sorted1 _) ?_
 unfold Builtin.«sorted»
 refine wpAny_bind (m:=checkCount "sorted" 1 1 _) (wpAny_pure ?_)
 refine wpAny_bind (collect_list hl ?_ (by rw [sizeLine_eq]; lia))
 refine wpAny_bind (wpAny_newList ?_ (by rw [sizeLine_eq]; lia))
 have hsz:((s.heap.push (seqObj "list" #[] 0)).update s.heap.objs.size (Obj.mapSeq (·++vs.toArray))).objs.size=s.heap.objs.size+1:=by
  rw [Heap.size_update,size_push']
 have hoL:(((s.heap.push (seqObj "list" #[] 0)).update s.heap.objs.size (Obj.mapSeq (·++vs.toArray))).push (seqObj "list" vs.toArray 0)).get? (s.heap.objs.size+1)=some (seqObj "list" vs.toArray 0):=by
  rw [← hsz]; exact Heap.get?_push_size _ rfl
 refine (?_:wpAny _ _ _ _ _ { s with heap:=((s.heap.push (seqObj "list" #[] 0)).update s.heap.objs.size (Obj.mapSeq (·++vs.toArray))).push (seqObj "list" vs.toArray 0) })
 rw [hsz]
 refine wpAny_bind (wpAny_holding (wpAny_call_entry slot_list_sort ⟨_,hoL,rfl⟩ entry_list_sort (rB (G:=G) (T:=T) hoL h64 hT hT1 hT2 hG hrun fun out hg=>⟨_,rfl,?_⟩) (args_list_sort _)))
 exact wpAny_pure ⟨_,rfl,h out hg⟩
theorem aAe {ms:List Addr} {a b:D} {v₁ v₂:Value} {c:Bool} {Q:Bool→Shared→Prop} (hu:A.units+8 < cLine) (ha:isLd a=true) (hb:isLd b=true) (e:dlt a b=some c) (p₁:Rep ms s.heap a v₁) (p₂:Rep ms s.heap b v₂) (h:Q c s) :
  wpAny (model prog w) A (oneLt' true v₁ v₂) Q E s:=by
 obtain⟨as,ha⟩:=Option.isSome_iff_exists.mp ha
 obtain⟨bs,hb⟩:=Option.isSome_iff_exists.mp hb
 rw [bS ha] at e p₁
 rw [bS hb] at e p₂
 have e':dltL (deqN 5) (dltN 5) as bs=some c:=e
 obtain⟨x,vs,rfl,hx,hl,hr⟩:=aO p₁
 obtain⟨y,ws,rfl,hy,hl',hr'⟩:=aO p₂
 obtain⟨o1,ho,hc,_⟩:=id hl
 rw [oneLt'_eq]
 simp only [if_true]
 refine wpAny_bind (wpAny_cRoomFor (by lia) ?_)
 refine wpAny_bind (wpAny_callSpecialIfBound?_slot ⟨_,ho,hc⟩ F.slot_list_lt (kP x y vs ws as bs 5 c (aRi 5) hl hl' hr hr' A (by lia) e' _ _ ?_))
 exact wpAny_truthy_bool h
variable {base:Base} {ms:List Addr} {st:Store}
theorem kK {h:Heap} {l:List D} {us:List Value} (hr:Reps ms h l us):∀ (q:List Nat),(∀ i∈q,i < l.length)→Reps ms h (q.map fun i=>l.getD i .none) (q.map fun i=>us.getD i Value.none)
 | [],_=>Reps.nil
 | i::q,hq=>by
  have hi:=hq i List.mem_cons_self
  obtain⟨v,hv,pv⟩:=hr.get (List.getElem?_eq_getElem hi)
  have e1:l.getD i .none=l[i]:=by rw [List.getD_eq_getElem?_getD,List.getElem?_eq_getElem hi]; rfl
  have e2:us.getD i Value.none=v:=by rw [List.getD_eq_getElem?_getD,hv]; rfl
  rw [List.map_cons,List.map_cons,e1,e2]
  exact Reps.cons pv (kK hr q fun j hj=>hq j (List.mem_cons_of_mem _ hj))
theorem aBd (base:Base):SortOk prog w base:=fun {A ms st s l x a us} ha r h64 ho hx hl hr=>fun Q E hQ=>by
 have O:=rR ho
 have hlen:=hr.length
 have getIn:∀ i,i < us.length→l.getD i .none∈l:=fun i hi=>by
  rw [List.getD_eq_getElem?_getD,List.getElem?_eq_getElem (by lia)]
  exact List.getElem_mem _
 have keep:=fun (b:Addr) (o:Obj) (e:s.heap.get? b=some o)=>wO (vs:=us) e
 have hr₂:Reps ms (allHeap s.heap us) l us:=Reps.mono (fun a o ha _ e=>⟨ha,keep a o e⟩) (fun _ _ e=>e) _ _ hr
 refine aM (aBh (T:=.type "list") (G:=fun out=>Reps ms s.heap x out) hl (by lia) (fun _ v hv=>?_) (by decide) (by decide) (fun h2=>?_) (fun h2=>?_) fun out hg ht hz=>?_)
 ·obtain⟨d,hd,pd⟩:=hr₂.mem v hv
  obtain⟨ds,hds⟩:=Option.isSome_iff_exists.mp (O.isL d hd)
  rw [bS hds] at pd
  obtain⟨y,vs,rfl,_,hL,_⟩:=aO pd
  obtain⟨o,hoo,hc,_⟩:=hL
  exact fun A Q E s k q=>wpAny_typeOf (T:="list") ⟨o,k _ _ hoo,hc⟩ q
 ·have:x=l:=by
   induction l using List.casesOn with
   | nil=>exact (Option.some.inj hx).symm
   | cons y l=>induction l using List.casesOn with
    | nil=>exact (Option.some.inj hx).symm
    | cons z l=>rw [hlen] at h2; exact absurd h2 (Nat.not_lt.mpr (Nat.le_add_left 2 l.length))
  rw [this]; exact hr
 ·have Od:Ord us.length (fun i j=>ltD (l.getD i .none) (l.getD j .none)) (kas_ask prog w A.in1.in1 oneType' us) { s with heap:=allHeap s.heap us }:=by
   refine⟨by lia,fun i j hi hj C hC=>?_,fun i hi=>O.refl _ (getIn i hi),fun i j k hi hj hk h1 h2=>O.trans _ (getIn i hi) _ (getIn j hj) _ (getIn k hk) h1 h2,fun i j hi hj h=>O.asym _ (getIn i hi) _ (getIn j hj) h⟩
   obtain⟨c,hc⟩:=O.def_ _ (getIn i hi) _ (getIn j hj)
   have q1:=kK hr₂ [i] (fun k hk=>by rw [List.mem_singleton.mp hk]; lia)
   have q2:=kK hr₂ [j] (fun k hk=>by rw [List.mem_singleton.mp hk]; lia)
   simp only [List.map_cons,List.map_nil,Reps] at q1 q2
   obtain⟨_,_,e1,q1,_⟩:=q1
   obtain⟨_,_,e2,q2,_⟩:=q2
   cases e1; cases e2
   refine (?_:wpAny _ _ (keyLt' oneType' _ _) _ _ _)
   rw [keyLt'_oneType]
   refine aAe (by have:=ha.units; simp; unfold cLine; lia) (O.isL _ (getIn i hi)) (O.isL _ (getIn j hj)) hc q1 q2 ?_
   exact zR hc▸hC
  refine aOj Od (by lia) fun p hp hs=>⟨rfl,?_⟩
  have hmem:∀ i∈p.toList,i < l.length:=fun i hi=>by
   have:=(Array.perm_iff_toList_perm.mp hp).mem_iff.mp hi
   have:=List.mem_range.mp (by simpa using this)
   lia
  have hxs:(p.toList.map fun i=>l.getD i .none)=x:=by
   refine aBg ho hx ?_ ?_
   ·have h1:=(Array.perm_iff_toList_perm.mp hp).map (fun i=>l.getD i D.none)
    refine h1.trans (.of_eq ?_)
    refine List.ext_getElem? fun i=>?_
    simp only [List.getElem?_map]
    by_cases hi:i < us.length
    ·rw [List.getElem?_range hi,List.getElem?_eq_getElem (by lia)]
     simp [List.getElem?_eq_getElem (show i < l.length by lia)]
    ·rw [List.getElem?_eq_none (by simp; omega),List.getElem?_eq_none (by lia)]; rfl
   ·rw [List.pairwise_map,List.pairwise_iff_getElem]
    intro i j hi hj hij
    have:=hs i j (by lia) (by have:=hp.size; simp at hj; lia)
    have e:∀ k,(hk:k < p.toList.length)→p.toList[k]=kk p k:=fun k hk=>by
     unfold kk
     have:k < p.size:=by simpa using hk
     simp [Array.getD,this]
    rw [e i hi,e j hj]
    exact this
  rw [← hxs]
  exact kK hr _ hmem
 ·obtain⟨e,he⟩:=sortedAll_at s.heap us out
  have k2:∀ b o,s.heap.get? b=some o→(sortedAll s.heap us out).get? b=some o:=fun _ _=>sortedAll_old
  have x₂:Ext No s ms { s with heap:=sortedAll s.heap us out } ms:=gF (Nat.le_refl _) hz k2
  refine hQ _ _ x₂ (r.heap' (Nat.le_refl _) hz k2) ?_
  rw [Rep]
  refine⟨_,out.toList,rfl,fun q=>?_,⟨_,he,rfl,e,by simp⟩,?_⟩
  ·obtain⟨o,_,_,ho,_⟩:=r.seqs _ q
   exact absurd (Heap.lt_size ho) (Nat.not_lt.mpr (Nat.le_succ _))
  ·exact hg.ext x₂
end
end Mine
end
section -- S31
open PySem PyProof.Rows PySem.SeqAt
namespace Mine
theorem uI {h h':Heap} {bmB tl:List Value} (T:OwnTail h bmB tl) (k:∀ a o,h.get? a=some o→Kept h' a o):OwnTail h' bmB tl:=by
 induction T with
 | base=>exact .base
 | own hA hN hni _ ih=>exact .own ((k _ _ hA).exact (noFr rfl (by intro _ _ q; cases q))) (ns_kept hN fun o e=>k _ o e) hni ih
noncomputable def ExcOwn (H:Heap) (C:Addr):Prop :=
 ∃ (B Bn newId nid initId inN:String) (bmN bmB bm:List Value) (nm q:Str) (N:Addr) (bs:List Value) (hdct:Bool) (sn:List Str) (sub:List Value) (ab:Bool) (col:Option Bool) (dd:Option Addr) (k0 k1 k2 k3 k5:Option Value) (mN:Str→Option Value),
  ExcBaseFacts Bn newId inN bmN∧bmB.contains (.type Bn)=true∧ExcBaseFacts B nid initId bmB∧H.get? C=some (excClassObj nm q C N bs bm hdct sn sub ab col dd k0 k1 k2 k3 k5 newId)∧H.Ns N mN∧mN "__init__" = none∧OwnTail H bmB bm
theorem aDq {prog:Program} {w:World} {H:Heap} {C:Addr} (X:ExcOwn H C):RaiseOk prog w H C:=fun {A env x np cpos pos arg s Q E} ha hst h=>by
 obtain⟨B,Bn,newId,nid,initId,inN,bmN,bmB,bm,nm,q,N,bs,hdct,sn,sub,ab,col,dd,k0,k1,k2,k3,k5,mN,Fn,hBn,FB,hC,hN,hni,T⟩:=X
 have he:starEach [arg] env=(false,eval arg env)::starEach [] env:=iY hst
 refine wpAny_Raise_call_subU (C:=C) (nm:=nm) (q:=q) (N:=N) (bs:=bs) (bm:=bm) (hdct:=hdct) (sn:=sn) (sub:=sub) (ab:=ab) (col:=col) (dd:=dd) (k0:=k0) (k1:=k1) (k2:=k2) (k3:=k3) (k5:=k5)
  Fn hBn FB (mN:=mN) (T.hasType FB.hasBase) ha.handled (by rw [he]; rfl) hni (wpAny_mono h (fun f s₁ h₁=>⟨h₁.1,?_⟩) fun _ _ x=>x)
 rw [he]
 refine Calls.evalArgs_plain (Calls.spliced_cons (wpAny_mono h₁.2 (fun v s₂ h₂=>Calls.spliced_nil ?_) fun _ _ x=>x))
 have k:=h₂.1
 exact⟨rfl,(by show 1≤_; rw [sizeLine_eq]; lia),(k _ _ hC).exact (noFr rfl (by intro _ _ q; cases q)),ns_kept hN fun o e=>k _ o e,uI T k,h₂.2⟩
end Mine
end
section -- E3
open PySem
namespace Mine
noncomputable def excR (r:Res):Option (Nat×D):=by
 induction r using Res.casesOn with
 | exc a d=>exact some (a,d)
 | _=>exact none
noncomputable def aDr (f:FD):Bool:=by
 induction f using FD.casesOn with
 | next=>exact true
 | _=>exact false
noncomputable def evX (G:Gx) (o:Ops) (cx:Cx) (vars:Vars) (e:Expr) (st:Store):Option (Nat×D×Store) :=
 (lE e).bind fun q=>(lQ q.1).bind fun f=>if q.2.2.1.isEmpty then do
  let (fd,st) ← o.ev cx vars (.Name f.1 f.2) st
  let (ds,st) ← evs o cx vars q.2.1 st
  let a ← objD fd
  let (r,st) ← G.fn a ds [] st
  let x ← excR r
  pure (x.1,x.2,st)
 else none
noncomputable def evXs (G:Gx) (o:Ops) (cx:Cx) (vars:Vars):List Expr→Store→Option (Nat×D×Store)
 | [],_=>none
 | e::r,st=>if isStar e then none else match evX G o cx vars e st with
  | some x=>some x
  | none=>do
   let (_,st) ← o.ev cx vars e st
   evXs G o cx vars r st
noncomputable def isGl (cx:Cx) (x:Str):Bool:=mF x&&decide (cx.names.lookup x=some .globalImplicit)
noncomputable def isGo (G:Gx) (cx:Cx) (x:Str) (c:Nat):Bool:=isGl cx x&&decide ((G.gl x).bind objD=some c)
noncomputable def isGt (G:Gx) (cx:Cx) (x:Str) (t:String):Bool:=isGl cx x&&decide ((G.gl x).bind typD=some t)
noncomputable def xW (cx:Cx) (x:Str):Bool:=mF x&&decide (cx.names.lookup x=some .local)&&decide (cx.stor.lookup x=some .local)
set_option genInjectivity false in
structure Hear where
 a1:Stmt
 a2:Stmt
 es:List Expr
 x1:Str
 y1:Str
 m1:Str
 s1:Str
 x2:Str
 y2:Str
 m2:Str
 s2:Str
noncomputable def aRq (x y m s:Str) (k:Nat) (xp mp sp np cp lp rp hp:Pos):ExceptHandler :=
 .ExceptHandler (some (.Name x xp)) (some y) [.Return (some (.List [.Constant (.str m) k mp,.Call (.Name s sp) [.Name y np] [] cp] lp)) rp] hp
inductive HForm (F:Hear):List Stmt→Prop
 | mk (x:Str) (xp lp ap:Pos) (rest:List Stmt) (pos:Pos) (k1 k2:Nat) (p1 p2 p3 p4 p5 p6 p7 p8 r1 r2 r3 r4 r5 r6 r7 r8:Pos) :
  HForm F [F.a1,F.a2,.Try (.Assign [.Name x xp] (.List F.es lp) ap::rest) [aRq F.x1 F.y1 F.m1 F.s1 k1 p1 p2 p3 p4 p5 p6 p7 p8,aRq F.x2 F.y2 F.m2 F.s2 k2 r1 r2 r3 r4 r5 r6 r7 r8] [] [] pos]
noncomputable def hearF (F:Hear) (c1 c2 c:Nat) (l:List Nat):Option FD :=
 if c=c1 then some (.ret (.list [.str F.m1.cps.toList,.str l])) else if c=c2 then some (.ret (.list [.str F.m2.cps.toList,.str l])) else none
noncomputable def pT (G:Gx) (o:Ops) (cx:Cx) (c1 c2:Nat) (vd:Vars) (st:Store) (F:Hear):Option (FD×Vars×Store) :=
 if !F.es.isEmpty&&isGo G cx F.x1 c1&&isGo G cx F.x2 c2&&isGt G cx F.s1 "str"&&isGt G cx F.s2 "str"&&xW cx F.y1&&xW cx F.y2 then do
  let (f,vars,st) ← exs o cx vd [F.a1,F.a2] st
  if aDr f then do
   let (c,d,st) ← evXs G o cx vars F.es st
   let l ← strD d
   let g ← hearF F c1 c2 c l
   pure (g,[],st)
  else none
 else none
set_option genInjectivity false in
structure FDesc where
 sc:Scope
 body:List Stmt
 bind:List D→List (Str×D)→Option Vars
 hear:Option Hear
noncomputable def runD (G:Gx) (c1 c2:Nat) (f:FDesc) (vd:Vars) (st:Store):Option (Res×Store):=match runF G f.sc f.body vd st with
 | some r=>some r
 | none=>f.hear.bind fun F=>finF st.length (pT G (ops G 24) ⟨f.sc.names,f.sc.names⟩ c1 c2 vd st F)
noncomputable def layer (exc:Nat→Bool) (gl:Str→Option D) (tab:Nat→Option FDesc) (c1 c2:Nat):Nat→Gx
 | 0=>⟨exc,gl,fun _ _ _ _=>none⟩
 | k+1=>⟨exc,gl,fun a ds ks st=>(tab a).bind fun f=>(f.bind ds ks).bind fun vd=>runD (layer exc gl tab c1 c2 k) c1 c2 f vd st⟩
noncomputable def fnAt (i:Nat):Option Stmt:=PySem.Challenge.rw_oy0126_01.prog.main.body[i]?
noncomputable def fBody:Option Stmt→List Stmt
 | some (.FunctionDef _ _ b _ _ _ _ _ _ _)=>b
 | _=>[]
noncomputable def fScope:Option Stmt→Scope
 | some (.FunctionDef _ _ _ _ _ _ s _ _ _)=>s
 | _=>⟨.function,[],false,false,[]⟩
noncomputable def oY:{F:Hear // HForm F (fBody (fnAt 34))}:=⟨⟨_,_,_,_,_,_,_,_,_,_,_⟩,.mk _ _ _ _ _ _ _ _ _ _ _ _ _ _ _ _ _ _ _ _ _ _ _ _⟩
inductive BKind where
 | pos (names:List Str)
 | two
 | kw (k:Str)
 | dec
noncomputable def uB (k:BKind):List Str:=by
 induction k using BKind.casesOn with
 | pos names=>exact names
 | two=>exact ["s","altchars"]
 | kw k=>exact ["data",k]
 | dec=>exact ["s","altchars","validate"]
noncomputable def aIi (k:BKind) (ds:List D) (ks:List (Str×D)):Option Vars:=by
 induction k using BKind.casesOn with
 | pos names=>exact if ks.isEmpty&&ds.length == names.length then some (names.zip ds) else none
 | two=>exact if ks.isEmpty&&ds.length == 2 then some ((["s","altchars"]:List Str).zip ds) else none
 | kw k=>exact (one ds).bind fun d=>(one ks).bind fun e=>if e.1=k then some ((["data",k]:List Str).zip [d,e.2]) else none
 | dec=>exact if ks.isEmpty then (two ds).map fun q=>(["s","altchars","validate"]:List Str).zip [q.1,q.2,.bool false] else none
noncomputable def globs:List (Str×D):=[
 ("parse229",.obj 65),("parse257",.obj 72),("_bytes_from_decode_data",.obj 80),("_ascii_buffer",.obj 100),("_buffer",.obj 107),("_truth",.obj 114),("_b64_value",.obj 121),("a2b_base64",.obj 129),("b2a_base64",.obj 137),
 ("b64encode",.obj 145),("b64decode",.obj 153),("heappush",.obj 160),("heappop",.obj 167),("heapreplace",.obj 174),("_siftdown",.obj 181),("_siftup",.obj 188),("_law_part",.obj 193),("_law_written",.obj 198),("_law_replies",.obj 205),
 ("_law_hear",.obj 212),("_law_told",.obj 219),("_law_laid",.obj 226),("_law_due",.obj 231),("error_reply",.obj 44),("error_proto",.obj 56),
 ("_B64",.bytes [65,66,67,68,69,70,71,72,73,74,75,76,77,78,79,80,81,82,83,84,85,86,87,88,89,90,97,98,99,100,101,102,103,104,105,106,107,108,109,110,111,112,113,114,115,116,117,118,119,120,121,122,48,49,50,51,52,53,54,55,56,57,43,47]),
 ("bytes_types",.tuple [.type "bytes",.type "bytearray"])]
noncomputable def builts:List (Str×D):=[("len",.builtin "len"),("sum",.builtin "sum"),("max",.builtin "max"),("sorted",.builtin "sorted"),("isinstance",.builtin "isinstance"),("type",.type "type"),("range",.type "range"),("str",.type "str"),("int",.type "int"),("bytes",.type "bytes"),("zip",.type "zip"),("bool",.type "bool")]
noncomputable def glT (x:Str):Option D:=match globs.lookup x with
 | some d=>some d
 | none=>builts.lookup x
noncomputable def tabL:List (Nat×Nat×BKind):=[
 (65,6,.pos ["resp","peer"]),
 (72,7,.pos ["resp"]),
 (80,10,.pos ["s"]),
 (100,14,.pos ["data"]),
 (107,15,.pos ["data"]),
 (114,16,.pos ["x"]),
 (121,18,.pos ["c"]),
 (129,19,.kw "strict_mode"),
 (137,20,.kw "newline"),
 (145,22,.two),
 (153,23,.dec),
 (160,25,.pos ["heap","item"]),
 (167,26,.pos ["heap"]),
 (174,27,.pos ["heap","item"]),
 (181,28,.pos ["heap","startpos","pos"]),
 (188,29,.pos ["heap","pos"]),
 (193,31,.pos ["x"]),
 (198,32,.pos ["octets"]),
 (205,33,.pos ["manner","y","written","port"]),
 (212,34,.pos ["part","base"]),
 (219,35,.pos ["part","base"]),
 (226,36,.pos ["heard"]),
 (231,37,.pos ["piles"]),
 (236,38,.pos ["script"])]
noncomputable def tab (a:Nat):Option FDesc:=(tabL.lookup a).map fun p=>⟨fScope (fnAt p.1),fBody (fnAt p.1),aIi p.2,if a == 212 then some oY.1 else none⟩
noncomputable def excT (c:Nat):Bool:=c == 44 || c == 56
noncomputable def GT (k:Nat):Gx:=layer excT glT tab 44 56 k
end Mine
end
section -- S32
open PySem PyProof.Rows PySem.SeqAt
namespace Mine
section
variable {prog:Program} {w:World} {A:Around} {s:Shared} {base:Base} {ms:List Addr} {st st':Store} {cx:Cx} {env:Env} {own:List Addr} {vars vars':Vars} {G:Gx} {mg mb:Str→Option Value} {n:Nat} {o:Ops} {c:Nat} {d:D}
theorem Flown.before {h₀ h₁ h:Heap} {v:Value} {e:Addr} (x:Flown ms h₁ h c v e) (k:∀ a,h₁.get? a=none→h₀.get? a=none):Flown ms h₀ h c v e:=by
 obtain⟨h1,oe,vs,T,oT,ts,t,q1,q2,q3,q4,q5,q6,q7,q8,q9,q10,q11⟩:=x
 exact⟨k _ h1,oe,vs,T,oT,ts,t,q1,q2,q3,q4,q5,k _ q6,q7,q8,q9,q10,q11⟩
theorem aNx {r:Res} {x:Nat×D} (h:excR r=some x):r=.exc x.1 x.2:=by
 induction r using Res.casesOn with
 | exc a d=>exact congrArg (fun q:Nat×D=>Res.exc q.1 q.2) (Option.some.inj h)
 | _=>exact nn h
theorem zW {e:Expr} (H:EvOk prog w G base mg mb n o) (HF:FnOk prog w G base.heap n) (S:Sit G base mg mb n A cx env own) (r:SR base ms st s) (v:VOk env own ms s.heap vars)
  (h:evX G o cx vars e st=some (c,d,st')):Throws prog w A base ms s (eval e env) c d st' :=
 bE (o:=lE e) h fun q hq h=>bE (o:=lQ q.1) h fun f hf h=>ifS (c:=q.2.2.1.isEmpty=true) h fun hk h=>by
 obtain⟨g,args,ks,pos⟩:=q
 cases iV hq
 cases gL hf
 cases List.isEmpty_iff.mp hk
 refine bF (o:=o.ev cx vars (.Name f.1 f.2) st) h fun fd st₁ h1 h=>bF (o:=evs o cx vars args st₁) h fun ds st₂ h3 h=>bE (o:=objD fd) h fun a ha h=>bF (o:=G.fn a ds [] st₂) h fun y st₃ h6 h=>bE (o:=excR y) h fun x hx h=>ret3 (a:=x.1) (b:=x.2) (c:=st₃) h ?_
 rw [nT ha] at h1
 rw [aNx hx] at h6
 refine fun Q E hE=>?_
 obtain⟨ob,fo,hb,hd⟩:=HF.isFn h6
 rw [(rfl:eval (.Call (.Name f.1 f.2) args [] pos) env=(do callWith pos (← eval (.Name f.1 f.2) env) [] (backTo pos (starEach args env)) (backToKw pos (keywordEach [] env))))]
 refine wpAny_bind (H S r v h1 _ _ fun u s₁ ms₁ x₁ r₁ p₁=>?_)
 subst p₁
 refine callWith_function_kw (o:=ob) (fd:=fo) (dR h3 rfl (cJ H S args r₁ (v.ext r x₁) h3 _ _ fun vs s₂ ms₂ x₂ r₂ p₂=>wpAny_evalAll_nil ⟨⟨(r₂.keep _ _ hb).exact (noFr hd fun _ _=>nofun),hd⟩,?_⟩))
 exact HF.throws (ks:=[]) S.ar S.fs r₂ p₂ ⟨rfl,Reps.nil⟩ h6 _ _ fun e y s₃ ms₃ x₃ r₃ p₃ fl=>hE _ _ _ _ (x₁.trans (x₂.trans x₃)) r₃ p₃ (fl.before fun b hb=>iA (x₁.trans x₂) r₂ hb)
noncomputable def aFg (prog:Program) (w:World) (A:Around) (base:Base) (ms:List Addr) (s:Shared) (t:Sem (List Value)) (c:Nat) (d:D) (st':Store):Prop :=
 ∀ (Q:List Value→Shared→Prop) (E:Value→Shared→Prop),(∀ e v s' ms',Ext No s ms s' ms'→SR base ms' st' s'→Rep ms' s'.heap d v→Flown ms' s.heap s'.heap c v e→E (.ref e) s')→wpAny (model prog w) A t Q E s
theorem zD {pos:Pos} (H:EvOk prog w G base mg mb n o) (HF:FnOk prog w G base.heap n) (S:Sit G base mg mb n A cx env own) (es:List Expr):∀ {st:Store} {s:Shared} {ms:List Addr},SR base ms st s→VOk env own ms s.heap vars →
  evXs G o cx vars es st=some (c,d,st')→aFg prog w A base ms s (spliced (backTo pos (starEach es env))) c d st':=by
 induction es with
 | nil=>exact fun _ _ h=>nn h
 | cons x es ih =>
  intro st s ms r v h
  refine ifN (c:=isStar x=true) h fun hst h=>?_
  rw [iY (Bool.eq_false_iff.mpr hst)]
  cases hy:evX G o cx vars x st with
  | some y =>
   rw [hy] at h
   exact fun Q E hE=>Calls.spliced_cons (zW H HF S r v (hy.trans h) _ _ hE)
  | none =>
   rw [hy] at h
   refine bF (o:=o.ev cx vars x st) h fun y st₁ h1 h2=>fun Q E hE=>Calls.spliced_cons (H S r v h1 _ _ fun u s₁ ms₁ x₁ r₁ p₁=>?_)
   exact ih r₁ (v.ext r x₁) h2 _ _ fun e y s₂ ms₂ x₂ r₂ p₂ fl=>hE _ _ _ _ (x₁.trans x₂) r₂ p₂ (fl.before fun b hb=>iA x₁ r₁ hb)
theorem qZ {x:Str} {xp lp pos:Pos} {es:List Expr} {rest:List Stmt} (hne:es≠[]) (H:EvOk prog w G base mg mb n o) (HF:FnOk prog w G base.heap n) (S:Sit G base mg mb n A cx env own) (r:SR base ms st s) (v:VOk env own ms s.heap vars)
  (h:evXs G o cx vars es st=some (c,d,st')) (Q:Flow→Shared→Prop) (E:Value→Shared→Prop) (hE:∀ e v s' ms',Ext No s ms s' ms'→SR base ms' st' s'→Rep ms' s'.heap d v→Flown ms' s.heap s'.heap c v e→E (.ref e) s') :
  wpAny (model prog w) A (execs (.Assign [.Name x xp] (.List es lp) pos::rest) env) Q E s:=by
 refine wpAny_execs_cons ?_
 rw [arm_exec_Assign]
 refine wpAny_bind (wpAny_standAt (wpAny_bind (wpAny_of_eq (show swapsWithSole [.Name x xp] (.List es lp) pos.line env=pure false from rfl) ?_)))
 exact wpAny_bind (wpAny_List_spliced (zD H HF S es r v h _ _ hE))
end
end Mine
end
section -- S33
open PySem PyProof.Rows PySem.SeqAt
namespace Mine
section
variable {prog:Program} {w:World} {A:Around} {s:Shared} {base:Base} {ms:List Addr} {st st':Store} {cx:Cx} {env:Env} {own:List Addr} {vars vars':Vars} {G:Gx} {mg mb:Str→Option Value} {n:Nat} {o:Ops} {c:Nat} {d:D}
theorem pZ (r:SR base ms st s) {X:Heap} (hX:∀ L∈base.fr,X.get? L=none):∀ (l:List Env),(∀ e∈l,e.scope.kind≠.module∧∃ L∈base.fr,e.frame=some L)→s.heap.FunFrames X l
 | [],_=>trivial
 | e::l,h=>by
  obtain⟨hk,L,hL,hf⟩:=h e List.mem_cons_self
  obtain⟨_,o,ho,es,ep,hd⟩:=r.frs L hL
  exact⟨hk,⟨L,o,hf,hX L hL,ho,fun vs q=>by rw [hd] at q; cases q⟩,pZ r hX l fun e he=>h e (List.mem_cons_of_mem _ he)⟩
theorem aQu (r:SR base ms st s) {e T:Addr} (he:∃ o vs c',s.heap.get? e=some o∧o.data=.fields vs∧o.cls=.ref c') (hT:∃ o ts,s.heap.get? T=some o∧o.data=.fields ts∧ts[3]? = some .none)
  (hb:base.get? e=none) (hbT:base.get? T=none) {h':Heap} (k:(thin s.heap (e::T::base.fr)).StaysIn h') (u:s.heap.UpToSlots h') :
  (∀ a o,a≠e→a≠T→s.heap.get? a=some o→Kept h' a o)∧(∀ d v,Rep ms s.heap d v→Rep ms h' d v)∧SR base ms st { s with heap:=h' }:=by
 obtain⟨oe,evs,ec,heo,hed,hec⟩:=he
 obtain⟨oT,ts,hTo,hTd,hT3⟩:=hT
 have ex:∀ a o,a∉base.fr→a≠e→a≠T→s.heap.get? a=some o→h'.get? a=some o:=fun a o ha h1 h2 q=>k a o (by
  rw [jL (fun m=>?_)]; exact q
  rcases List.mem_cons.mp m with m | m
  ·exact h1 m
  ·rcases List.mem_cons.mp m with m | m
   ·exact h2 m
   ·exact ha m)
 have kp:∀ a o,a≠e→a≠T→s.heap.get? a=some o→Kept h' a o:=fun a o h1 h2 q=>by
  by_cases qf:a∈base.fr
  ·obtain⟨_,o',ho,es,ep,hd⟩:=r.frs a qf
   rw [q] at ho; cases ho
   obtain⟨sl,hs⟩:=u a o q fun vs q=>by rw [hd] at q; cases q
   exact⟨_,hs,.inr ⟨⟨es,ep,hd⟩,sl,rfl⟩⟩
  ·exact .of (ex a o qf h1 h2 q)
 have nsq:∀ a o,s.heap.get? a=some o→isSeqData o→a≠e∧a≠T:=fun a o q hs=>by
  refine⟨fun qe=>?_,fun qT=>?_⟩
  ·subst qe
   rw [heo] at q; cases q
   rcases hs with ⟨_,_,hs⟩ | ⟨hs,_⟩
   ·rw [hed] at hs; cases hs
   ·rw [hec] at hs; cases hs
  ·subst qT
   rw [hTo] at q; cases q
   rcases hs with ⟨_,_,hs⟩ | ⟨_,⟨vs,hz⟩,hs⟩
   ·rw [hTd] at hs; cases hs
   ·rw [hTd] at hs; cases hs
    have h4:3 < vs.size:=(Array.getElem?_eq_some_iff.mp hT3).1
    lia
 have sq:∀ a o,a∉ms→isSeqData o→s.heap.get? a=some o→a∉ms∧h'.get? a=some o:=fun a o ha hs q=>⟨ha,(kp a o (nsq a o q hs).1 (nsq a o q hs).2 q).exact (lF hs)⟩
 have rp:∀ d v,Rep ms s.heap d v→Rep ms h' d v:=fun d v p=>Rep.mono sq (fun _ _ e=>e) d v p
 have inn:∀ a∈ms,∀ o,s.heap.get? a=some o→h'.get? a=some o:=fun a ha o q=>by
  obtain⟨o',vs,m,ho,hd⟩:=r.seqs a ha
  rw [q] at ho; cases ho
  obtain⟨h1,h2⟩:=nsq a o q (isSeqData_seq hd)
  exact ex a o (fun q=>r.frAway q ha) h1 h2 q
 refine⟨kp,rp,⟨fun a o q=>ex a o (fun m=>by rw [(r.frs a m).1] at q; exact nn q) (fun z=>?_) (fun z=>?_) (r.keepx a o q),r.fresh,r.nodup,r.len,fun c l q=>?_,r.clean,r.toks,fun a ha=>?_,fun c a l h1 h2 h3=>?_,fun L hL=>?_⟩⟩
 ·subst z; rw [hb] at q; exact nn q
 ·subst z; rw [hbT] at q; exact nn q
 ·obtain⟨a,vs,m,hm,ho,hr⟩:=r.lists c l q
  exact⟨a,vs,m,hm,inn a (aV hm) _ ho,Reps.mono sq (fun _ _ e=>e) _ _ hr⟩
 ·obtain⟨o,vs,m,ho,hd⟩:=r.seqs a ha
  exact⟨o,vs,m,inn a ha o ho,hd⟩
 ·obtain⟨x,y,ho⟩:=r.hids c a l h1 h2 h3
  exact⟨x,y,inn a (aV h1) _ ho⟩
 ·obtain⟨h1,o,ho,hd⟩:=r.frs L hL
  obtain⟨o',e',s'⟩:=kp L o (fun z=>by subst z; rw [heo] at ho; cases ho; obtain⟨_,_,hd⟩:=hd; rw [hed] at hd; cases hd) (fun z=>by subst z; rw [hTo] at ho; cases ho; obtain⟨_,_,hd⟩:=hd; rw [hTd] at hd; cases hd) ho
  exact⟨h1,o',e',s'.fr hd⟩
theorem aPq (v:VOk env own ms s.heap vars) (E:EnvOk base cx env own) (r:SR base ms st s) {h:Heap} {m:Str→Option Value} {tk:Nat} (ht:s.toks≤tk) (hn:h.Ns env.locals m) (hs:Heap.SameBut env.locals s.heap h) :
  Ext (Wr env own) s ms { s with heap:=h,toks:=tk } ms∧SR base ms st { s with heap:=h,toks:=tk }∧VOk env own ms h []:=by
 have X:Ext (Wr env own) s ms { s with heap:=h,toks:=tk } ms :=
  ⟨rfl,rfl,ht,Nat.le_of_eq hs.1.symm,fun _ _ e=>e,fun _ q=>.inl q,fun b o hb hw e=>.of ((hs.2 b (fun q=>hw (.inl q))).trans e),v.wk⟩
 obtain⟨m₀,h0,_⟩:=v.ns
 obtain⟨oL,hoL,hdL⟩:=cL h0
 have kc:∀ c w,s.heap.IsCell c w→h.IsCell c w:=fun c w hc=>by
  obtain⟨o',ho',hd'⟩:=hc
  refine⟨o',(hs.2 c (fun q=>?_)).trans ho',hd'⟩
  subst q
  obtain⟨o,es,ep,ho,hd,_⟩:=h0
  rw [ho] at ho'; cases ho'
  rw [hd] at hd'; cases hd'
 have hfr:∀ L∈base.fr,Wr env own L→∃ o,h.get? L=some o∧isFr o:=fun L hL hw=>by
  rcases hw with rfl | hc
  ·obtain⟨o,es,ep,ho,hd,_⟩:=hn
   exact⟨o,ho,es,ep,hd⟩
  ·obtain⟨w,o,ho,hd⟩:=v.own L hc
   obtain⟨_,o',ho',es,ep,hd'⟩:=r.frs L hL
   rw [ho] at ho'; cases ho'
   rw [hd] at hd'; cases hd'
 refine⟨X,r.ext X (fun a hw=>?_) (fun a ha o e=>(hs.2 a (fun q=>?_)).trans e) (fun a o hb e=>(hs.2 a (fun q=>by subst q; rw [E.freshL] at hb; exact nn hb)).trans e) hfr,⟨⟨_,hn,fun y e hy=>(by exact nn hy)⟩,fun y e hy=>(by exact nn hy),fun c hc=>?_⟩⟩
 ·rcases hw with rfl | hc
  ·exact E.freshL
  ·exact E.freshC a hc
 ·subst q
  exact r.no_dict hoL hdL ha
 ·obtain⟨w,hw⟩:=v.own c hc
  exact⟨w,kc _ _ hw⟩
set_option genInjectivity false in
structure Catches (prog:Program) (w:World) (H:Heap) (cs:List Nat):Prop where
 test:∀ {c c':Nat},c∈cs→c'∈cs→∀ {A:Around} {s:Shared} {e:Addr} {oe:Obj} {Q:Bool→Shared→Prop} {E:Value→Shared→Prop},(∀ a o,H.get? a=some o→Kept s.heap a o)→s.heap.get? e=some oe→oe.cls=.ref c→Q (decide (c=c')) s →
  wpAny (model prog w) A (excMatches (.ref e) (.ref c')) Q E s
 str:∀ {c:Nat},c∈cs→∀ {A:Around} {s:Shared} {e t:Addr} {oe:Obj} {vs:Array Value} {m:Str} {tk:Tok} {Q:Value→Shared→Prop} {E:Value→Shared→Prop},A.units+100 < cLine→(∀ a o,H.get? a=some o→Kept s.heap a o)→s.heap.get? e=some oe→oe.cls=.ref c→oe.data=.fields vs→vs[0]? = some (.ref t)→s.heap.TupAt t [.str m tk]→Q (.str m tk) s →
  wpAny (model prog w) A (call (.type "str") [.ref e]) Q E s
theorem aJt {A':Around} {e t:Addr} {oe:Obj} {evs:Array Value} {ny sn:Str} {mt:Str} {mk:Nat} {mp sp np cp lp rp:Pos} {cs:List Nat} {m:Str} {tk:Tok} (C:Catches prog w base.heap cs) (hc:c∈cs) (gl:GlOk G base mg mb) (en:EnvOk base cx env own)
  (hu:A'.units+101 < cLine) (hl:cx.stor.lookup ny=some .local) (hln:stepEv G o cx [(ny,.obj e)] (.Name ny np) st=some (.obj e,st)) (hls:stepEv G o cx [(ny,.obj e)] (.Name sn sp) st=some (.type "str",st))
  (r:SR base ms st s) (v:VOk env own ms s.heap [(ny,.obj e)]) (ho:s.heap.get? e=some oe) (hcls:oe.cls=.ref c) (hd:oe.data=.fields evs) (h0:evs[0]? = some (.ref t)) (ht:s.heap.TupAt t [.str m tk])
  (Q:Flow→Shared→Prop) (E:Value→Shared→Prop) (hQ:∀ v s',Ext No s ms s' ms→SR base ms st s'→Rep ms s'.heap (.list [.str mt.cps.toList,.str m.cps.toList]) v→Q (.ret v) s') :
  wpAny (model prog w) A' (execs [.Return (some (.List [.Constant (.str mt) mk mp,.Call (.Name sn sp) [.Name ny np] [] cp] lp)) rp] env) Q E s:=by
 refine wpAny_execs_cons (wpAny_Return_some (wpAny_List_spliced ?_))
 refine Calls.spliced_cons (wpAny_Constant_str (k:=mk) (pos:=mp) (Calls.spliced_cons ?_))
 have r₁:SR base ms st { s with toks:=s.toks+1 }:=r.toks' (by lia)
 have v₁:VOk env own ms ({ s with toks:=s.toks+1 }:Shared).heap [(ny,.obj e)]:=v
 have e'':eval (.Call (.Name sn sp) [.Name ny np] [] cp) env=(do callWith cp (← eval (.Name sn sp) env) [] (backTo cp (starEach [.Name ny np] env)) (backToKw cp (keywordEach [] env))):=rfl
 rw [e'']
 refine wpAny_bind (gG gl en r₁ v₁ hls fun u pu _=>?_)
 subst pu
 refine bQ (fun a q=>by cases q) rfl (Calls.evalArgs_plain (Calls.spliced_cons (gG gl en r₁ v₁ hln fun u pu _=>Calls.spliced_nil ?_)))
 subst pu
 refine C.str hc (by lia) r₁.keep ho hcls hd h0 ht (Calls.spliced_nil ⟨by show 2≤_; rw [sizeLine_eq]; lia,?_⟩)
 have x₂:Ext No { s with toks:=s.toks+1 } ms { s with toks:=s.toks+1,heap:=s.heap.push { cls:=.type "list",data:=.seq [Value.str mt s.toks,Value.str m tk].toArray } } ms:=dQ (s:={ s with toks:=s.toks+1 }) _ (Nat.le_refl _) (fun _ _ f=>f.elim)
 have p:Reps ms ({ s with toks:=s.toks+1 }:Shared).heap [.str mt.cps.toList,.str m.cps.toList] [Value.str mt s.toks,Value.str m tk]:=by
  simp only [Reps,Rep]
  exact⟨_,_,rfl,⟨_,rfl⟩,_,_,rfl,⟨_,rfl⟩,rfl⟩
 exact hQ _ _ ((dN (tk:=s.toks+1) (by lia)).trans x₂) (r₁.push _ (Nat.le_refl _)) (bW (n:=0) r₁ p)
end
end Mine
end
section -- S34
open PySem PyProof.Rows PySem.SeqAt
namespace Mine
section
variable {prog:Program} {w:World} {A:Around} {s:Shared} {base:Base} {ms:List Addr} {st st':Store} {cx:Cx} {env:Env} {own:List Addr} {vars vars':Vars} {G:Gx} {mg mb:Str→Option Value} {n:Nat} {o:Ops} {c:Nat} {d:D}
set_option genInjectivity false in
structure Air (base:Base) (s₀:Shared) (ms₀ ms:List Addr) (st:Store) (B:Heap) (l:List Env) (e t:Addr) (c:Nat) (m:Str) (tk:Tok) (s:Shared):Prop where
 ext:Ext No s₀ ms₀ s ms
 sr:SR base ms st s
 fly:Heap.FlyingW B l e (.ref c) (.ref t) s.heap
 tup:s.heap.TupAt t [.str m tk]
 out:t∉ms
 again:∀ h',Heap.FlyingW B l e (.ref c) (.ref t) h'→s.heap.UpToSlots h'→s.heap.objs.size≤h'.objs.size→Ext No s₀ ms₀ { s with heap:=h' } ms∧SR base ms st { s with heap:=h' }∧h'.TupAt t [.str m tk]
theorem VOk.forget {h:Heap} (v:VOk env own ms h vars):VOk env own ms h []:=by
 obtain⟨m,hn,_⟩:=v.ns
 exact⟨⟨m,hn,fun y e hy=>(by exact nn hy)⟩,fun y e hy=>(by exact nn hy),v.own⟩
theorem sC {s₀:Shared} {ms₀:List Addr} {B:Heap} {l:List Env} {e t:Addr} {m:Str} {tk:Tok} {xn ny sn mt:Str} {mk:Nat} {xp mp sp np cp lp rp hp:Pos} {cs:List Nat} {rest:List ExceptHandler} (C:Catches prog w base.heap cs) (hc:c∈cs) (gl:GlOk G base mg mb) (en:EnvOk base cx env own)
  (hu:A.units+101 < cLine) (hl:cx.stor.lookup ny=some .local) (hx:∀ vars st,stepEv G o cx vars (.Name xn xp) st=some (.obj c,st)) (hln:∀ e st,stepEv G o cx [(ny,.obj e)] (.Name ny np) st=some (.obj e,st)) (hls:∀ vars st,stepEv G o cx vars (.Name sn sp) st=some (.type "str",st))
  (v₀:VOk env own ms₀ s₀.heap vars) (r₀:SR base ms₀ st' s₀) (X:Air base s₀ ms₀ ms st B l e t c m tk s)
  (Q:Flow→Shared→Prop) (E:Value→Shared→Prop) (hQ:∀ v s',Ext (Wr env own) s₀ ms₀ s' ms→SR base ms st s'→VOk env own ms s'.heap []→Rep ms s'.heap (.list [.str mt.cps.toList,.str m.cps.toList]) v→Q (.ret v) s') :
  wpAny (model prog w) A (handleBy (.ref e) env (.ExceptHandler (some (.Name xn xp)) (some ny) [.Return (some (.List [.Constant (.str mt) mk mp,.Call (.Name sn sp) [.Name ny np] [] cp] lp)) rp] hp::rest)) Q E s:=by
 refine wpAny_handleBy_cons (codeAny_handlers_test (gG gl en X.sr (v₀.ext r₀ X.ext) (hx _ _) fun u pu _=>?_)) (by intro q; cases q)
 subst pu
 obtain⟨oe,hoe,hoc⟩:=X.fly.there
 refine C.test hc hc X.sr.keep hoe hoc ?_
 rw [decide_eq_true rfl]
 show codeAny _ _ _ _ _
 refine codeAny_handlers_suite_as (aM (lands_againW X.fly fun h₆ f₆ u₆ ht₆ hz₆=>?_))
 obtain⟨x₆,r₆,tup₆⟩:=X.again h₆ f₆ u₆ hz₆
 have v₆:=v₀.ext r₀ x₆
 have hst:stored cx ny=true:=by unfold stored; rw [hl]
 refine pD (d:=.obj e) en r₆ v₆.forget hst (by rw [Rep]) _ _ fun s₇ x₇ r₇ v₇=>?_
 obtain⟨oe,evs,hoe,hoc,hod,ho0⟩:=f₆.first
 have hom:e∉ms:=fun q=>by
  obtain⟨o',_,_,ho',hd'⟩:=r₆.seqs e q
  have ho2:h₆.get? e=some o':=ho'
  rw [hoe] at ho2; cases ho2
  rw [hod] at hd'; cases hd'
 have hnw:∀ {a:Addr} {ob:Obj},h₆.get? a=some ob→(∀ es n,ob.data≠.dict es n)→(∀ v,ob.data≠.cell v)→¬ Wr env own a:=fun {a ob} ha h1 h2 q=>by
  rcases q with rfl | q
  ·obtain⟨mm,⟨o',es,ep,ho',hd',_⟩,_⟩:=v₆.ns
   have ho2:h₆.get? env.locals=some o':=ho'
   rw [ha] at ho2; cases ho2
   exact h1 _ _ hd'
  ·obtain⟨w',o',ho',hd'⟩:=v₆.own a q
   have ho2:h₆.get? a=some o':=ho'
   rw [ha] at ho2; cases ho2
   exact h2 _ hd'
 obtain⟨ot,tn,hot,htc,htd⟩:=tup₆
 have hoe₇:s₇.heap.get? e=some oe:=(x₇.keep e oe hom (hnw hoe (by intro _ _ q; rw [hod] at q; cases q) (by intro _ q; rw [hod] at q; cases q)) hoe).exact (noFr hod (by intro _ _ q; cases q))
 have hot₇:s₇.heap.get? t=some ot:=(x₇.keep t ot X.out (hnw hot (by intro _ _ q; rw [htd] at q; cases q) (by intro _ q; rw [htd] at q; cases q)) hot).exact (noFr htd (by intro _ _ q; cases q))
 refine aJt C hc gl en (by simpa using hu) hl (hln _ _) (hls _ _) r₇ v₇ hoe₇ hoc hod ho0 ⟨ot,tn,hot₇,htc,htd⟩ _ _ fun y s₈ x₈ r₈ p₈=>?_
 have v₈:=v₇.ext r₇ x₈
 obtain⟨mm,hn₈,_⟩:=v₈.ns
 have hkl:env.kindOf ny=some .local:=en.storL ny hl
 refine wpAny_nameGoes hkl hn₈ (by rw [en.kind]; rfl) fun h₉ m₉ hn₉ hs₉=>?_
 obtain⟨x₉,r₉,v₉⟩:=aPq (tk:=s₈.toks+1) v₈ en r₈ (by lia) hn₉ hs₉
 have x₈':Ext (Wr env own) s₇ ms s₈ ms:=x₈.ofNo v₇.wk
 exact hQ y _ ((x₆.ofNo v₀.wk).trans (x₇.trans (x₈'.trans x₉))) r₉ v₉ (p₈.ext x₉)
theorem aAc {s₀:Shared} {ms₀:List Addr} {B:Heap} {l:List Env} {e t:Addr} {m:Str} {tk:Tok} {xn:Str} {c':Nat} {nm:Option Str} {body:List Stmt} {xp hp:Pos} {cs:List Nat} {rest:List ExceptHandler} (C:Catches prog w base.heap cs) (hc:c∈cs) (hc':c'∈cs) (hne:c≠c') (gl:GlOk G base mg mb) (en:EnvOk base cx env own)
  (hx:∀ vars st,stepEv G o cx vars (.Name xn xp) st=some (.obj c',st)) (v₀:VOk env own ms₀ s₀.heap vars) (r₀:SR base ms₀ st' s₀) (X:Air base s₀ ms₀ ms st B l e t c m tk s)
  (Q:Flow→Shared→Prop) (E:Value→Shared→Prop) (h:wpAny (model prog w) A (handleBy (.ref e) env rest) Q E s) :
  wpAny (model prog w) A (handleBy (.ref e) env (.ExceptHandler (some (.Name xn xp)) nm body hp::rest)) Q E s:=by
 refine wpAny_handleBy_cons (codeAny_handlers_test (gG gl en X.sr (v₀.ext r₀ X.ext) (hx _ _) fun u pu _=>?_)) (by intro q; cases q)
 subst pu
 obtain⟨oe,hoe,hoc⟩:=X.fly.there
 refine C.test hc hc' X.sr.keep hoe hoc ?_
 rw [decide_eq_false hne]
 exact h
theorem aOt {x:Str} {xp lp ap pos:Pos} {es:List Expr} {rest:List Stmt} {h₁:ExceptHandler} {hs:List ExceptHandler} {outer:List Env} {L:Addr} {l:List Nat} (hne:es≠[]) (H:EvOk prog w G base mg mb n o) (HF:FnOk prog w G base.heap n) (S:Sit G base mg mb n A cx env own) (r:SR base ms st s) (v:VOk env own ms s.heap vars)
  (hfr:A.frames=some (env::outer)) (hf:env.frame=some L) (h:evXs G o cx vars es st=some (c,.str l,st')) (Q:Flow→Shared→Prop) (E:Value→Shared→Prop)
  (hk:∀ B e t m tk s' ms',m.cps.toList=l→Air base s ms ms' st' B (env::outer) e t c m tk s'→wpAny (model prog w) A (handleBy (.ref e) env (h₁::hs)) Q E s') :
  wpAny (model prog w) A (exec (.Try (.Assign [.Name x xp] (.List es lp) ap::rest) (h₁::hs) [] [] pos) env) Q E s:=by
 rw [arm_exec_Try]
 refine wpAny_bind (wpAny_standAt (wpAny_tryStmt_except (qZ hne H HF S r v h _ _ fun e y s' ms' x' r' p' fl=>?_)))
 obtain⟨hnew,oe,evs,T,oT,ts,t,q1,q2,q3,q4,q5,q6,q7,q8,q9,q10,q11,q12⟩:=fl
 have nb:∀ {a},s.heap.get? a=none→base.get? a=none:=fun {a} ha=>by
  cases hq:base.get? a with
  | none=>rfl
  | some o' =>
   obtain⟨o'',h'',_⟩:=r.keep a o' hq
   rw [ha] at h''; exact nn h''
 have be:=nb hnew
 have bT:=nb q6
 have thF:∀ L∈base.fr,(thin s'.heap (e::T::base.fr)).get? L=none:=fun L hL=>fG (List.mem_cons_of_mem _ (List.mem_cons_of_mem _ hL))
 have stays:(thin s'.heap (e::T::base.fr)).StaysIn s'.heap:=fun b o' q=>by
  by_cases m:b∈e::T::base.fr
  ·rw [fG m] at q; exact nn q
  ·rw [jL m] at q; exact q
 obtain⟨fl,hfl,hall⟩:=S.fs
 have hfl':fl=env::outer:=by rw [hfr] at hfl; exact (Option.some.inj hfl).symm
 subst hfl'
 have FW:Heap.FlyingW (thin s'.heap (e::T::base.fr)) (env::outer) e (.ref c) (.ref t) s'.heap :=
  ⟨stays,fG List.mem_cons_self,pZ r' thF _ hall,oe,evs,T,oT,ts,q1,⟨q2,q4⟩,q3,q5,fG (List.mem_cons_of_mem _ List.mem_cons_self),q7,q8,q9,q10⟩
 skip
 obtain⟨tk,rfl⟩:=p'
 have gen:∀ h',Heap.FlyingW (thin s'.heap (e::T::base.fr)) (env::outer) e (.ref c) (.ref t) h'→s'.heap.UpToSlots h'→s'.heap.objs.size≤h'.objs.size→Ext No s ms { s' with heap:=h' } ms'∧SR base ms' st' { s' with heap:=h' }∧h'.TupAt t [.str ⟨l.toArray⟩ tk]:=fun h' f u z=>by
  obtain⟨kp,rp,r₃⟩:=aQu r' ⟨oe,evs,c,q1,q3,q2⟩ ⟨oT,ts,q8,q9,q10⟩ be bT f.1 u
  refine⟨⟨x'.gens,x'.os,x'.toks,Nat.le_trans x'.size z,x'.pre,x'.fresh,fun a o' ha hw q=>(x'.keep a o' ha hw q).andThen fun o'' q''=>kp a o'' (fun z=>?_) (fun z=>?_) q'',x'.wk⟩,r₃,q11.of_slots u⟩
  ·subst z; rw [hnew] at q; exact nn q
  ·subst z; rw [q6] at q; exact nn q
 refine aM (wpAny_looks_onW hfr hf FW fun h₄ hh₄ u₄ _ z₄=>aM (wpAny_landsW hh₄ fun h₅ f₅ u₅ _ z₅=>?_))
 have z₅':s'.heap.objs.size≤h₅.objs.size:=Nat.le_trans z₄ z₅
 obtain⟨g1,g2,g3⟩:=gen h₅ f₅ (u₄.trans u₅) z₅'
 refine hk _ e t ⟨l.toArray⟩ tk _ ms' (by simp) ⟨g1,g2,f₅,g3,q12,fun h' f u z=>gen h' f ((u₄.trans u₅).trans u) (Nat.le_trans z₅' z)⟩
end
end Mine
end
section -- S35
open PySem PyProof.Rows PySem.SeqAt
namespace Mine
section
variable {prog:Program} {w:World} {A:Around} {s:Shared} {base:Base} {ms:List Addr} {st st':Store} {cx:Cx} {env:Env} {own:List Addr} {vars vars':Vars} {G:Gx} {mg mb:Str→Option Value} {n:Nat} {o:Ops} {c:Nat} {d:D}
theorem aMj {f:FD} (h:aDr f=true):f=.next:=by
 induction f using FD.casesOn with
 | next=>rfl
 | _=>exact absurd h Bool.false_ne_true
theorem aDl {x:Str} {p:Pos} (h:isGl cx x=true) (vars:Vars) (st:Store):stepEv G o cx vars (.Name x p) st=(G.gl x).map fun d=>(d,st):=by
 refine (if_pos (and2 h).1).trans ?_
 rw [of_decide_eq_true (and2 h).2]
theorem uN {x:Str} {p:Pos} (h:isGo G cx x c=true) (vars:Vars) (st:Store):stepEv G o cx vars (.Name x p) st=some (.obj c,st) :=
 bE (of_decide_eq_true (and2 h).2) fun d h1 h2=>by rw [aDl (and2 h).1,h1,nT h2]; rfl
theorem aDs {x:Str} {p:Pos} {t:String} (h:isGt G cx x t=true) (vars:Vars) (st:Store):stepEv G o cx vars (.Name x p) st=some (.type t,st) :=
 bE (of_decide_eq_true (and2 h).2) fun d h1 h2=>by rw [aDl (and2 h).1,h1,fS h2]; rfl
theorem vX {x:Str} {p:Pos} (h:xW cx x=true) (e:D) (st:Store):stepEv G o cx [(x,e)] (.Name x p) st=some (e,st):=by
 refine (if_pos (and2 (and2 h).1).1).trans ?_
 rw [of_decide_eq_true (and2 (and2 h).1).2]
 show (List.lookup x [(x,e)]).map _=_
 rw [List.lookup_cons,beq_self_eq_true]
 rfl
theorem aIp {s:Stmt} {b:List Stmt} {vs vars:Vars} {st st':Store} {P:Prop} (e:exs o cx vs (s::b) st=some (.next,vars,st')) (k:∀ v t,o.ex cx vs s st=some (.next,v,t)→exs o cx v b t=some (.next,vars,st')→P):P :=
 bF (o:=o.ex cx vs s st) e fun g q h1 h2=>by
 obtain⟨v,t⟩:=q
 induction g with
 | next=>exact k v t h1 h2
 | _=>exact ret3 (P:=fun f _ _=>aDr f=true→P) h2 (fun h=>absurd h Bool.false_ne_true) rfl
theorem xM {f:FD} {st₂:Store} {c1 c2:Nat} {outer:List Env} {L:Addr} (hne:c1≠c2) (C:Catches prog w base.heap [c1,c2]) (H:EvOk prog w G base mg mb n o) (HX:ExOk prog w G base mg mb n o) (HF:FnOk prog w G base.heap n) (hn:11≤n) (S:Sit G base mg mb n A cx env own) :
  ∀ (F:Hear) (body:List Stmt),HForm F body→pT G o cx c1 c2 vars st F=some (f,vars',st₂)→SR base ms st s→VOk env own ms s.heap vars→A.frames=some (env::outer)→env.frame=some L→Runs prog w base A env own ms s (execs body env) f vars' st₂:=by
 intro F body hF e r v hfr hf
 obtain⟨x,xp,lp,ap,rest,pos,k1,k2,xp1,mp1,sp1,np1,cp1,lp1,rp1,hp1,xp2,mp2,sp2,np2,cp2,lp2,rp2,hp2⟩:=hF
 have hu:A.units+101 < cLine:=by have:=S.ar.units; unfold cLine; lia
 refine ifS e fun hc e=>bF (o:=exs o cx vars [F.a1,F.a2] st) e fun f q hx e=>ifS (c:=aDr f=true) e fun hnx e=>bF (o:=evXs G o cx q.1 F.es q.2) e fun c y hxs e=>bE (o:=strD y.1) e fun l hl e=>bE (o:=hearF F c1 c2 c l) e fun g hg e=>ret3 (a:=g) (b:=[]) (c:=y.2) e ?_
 rw [aMj hnx] at hx
 obtain⟨vars₁,st₁⟩:=q
 obtain⟨d,st₃⟩:=y
 cases eY hl
 have l2:=(and2 hc).2
 have hc:=(and2 hc).1
 have l1:=(and2 hc).2
 have hc:=(and2 hc).1
 have t2:=(and2 hc).2
 have hc:=(and2 hc).1
 have t1:=(and2 hc).2
 have hc:=(and2 hc).1
 have g2:=(and2 hc).2
 have hc:=(and2 hc).1
 have g1:=(and2 hc).2
 have ne:=no (and2 hc).1
 clear hc
 refine aIp hx fun va sa e1 hx=>aIp hx fun vb sb e2 hx=>?_
 have hxs:evXs G o cx vb F.es sb=some (c,.str l,st₃):=ret3 (P:=fun _ va sa=>evXs G o cx va F.es sa=some (c,.str l,st₃)) (show some (FD.next,vars₁,st₁)=some (FD.next,vb,sb) from hx.symm) hxs
 intro Q E hQ hE
 refine wpAny_execs_cons (HX S r v e1 _ _ (fun fl s₁ ms₁ x₁ r₁ v₁ hf1=>?_) fun c d=>nx rfl)
 subst hf1
 refine wpAny_execs_cons (HX S r₁ v₁ e2 _ _ (fun fl s₂ ms₂ x₂ r₂ v₂ hf2=>?_) fun c d=>nx rfl)
 subst hf2
 refine wpAny_execs_cons (aOt (fun q=>nomatch ne.symm.trans (List.isEmpty_iff.mpr q)) H HF S r₂ v₂ hfr hf hxs _ _ fun B ex t m tk s₃ ms₃ hm X=>?_)
 have X₁₂:Ext (Wr env own) s ms s₂ ms₂:=x₁.trans x₂
 refine ifE hg (fun h1 hg'=>?_) fun h1 hg=>ifS hg fun h2 hg'=>?_
 ·subst h1
  cases Option.some.inj hg'
  refine sC (o:=o) C List.mem_cons_self S.gl S.en hu (of_decide_eq_true (and2 l1).2) (uN g1) (fun e st=>vX l1 _ st) (aDs t1) v₂ r₂ X _ _ fun y s₄ x₄ r₄ v₄ p₄=>?_
  rw [hm] at p₄
  exact hQ _ _ _ (X₁₂.trans x₄) r₄ v₄ ⟨y,rfl,p₄⟩
 ·subst h2
  cases Option.some.inj hg'
  refine aAc (o:=o) C (List.mem_cons_of_mem _ List.mem_cons_self) List.mem_cons_self h1 S.gl S.en (uN g1) v₂ r₂ X _ _ ?_
  refine sC (o:=o) C (List.mem_cons_of_mem _ List.mem_cons_self) S.gl S.en hu (of_decide_eq_true (and2 l2).2) (uN g2) (fun e st=>vX l2 _ st) (aDs t2) v₂ r₂ X _ _ fun y s₄ x₄ r₄ v₄ p₄=>?_
  rw [hm] at p₄
  exact hQ _ _ _ (X₁₂.trans x₄) r₄ v₄ ⟨y,rfl,p₄⟩
end
end Mine
end
section -- S36
open PySem PyProof.Rows PySem.SeqAt
namespace Mine
noncomputable def BOk (H:Heap) (fd:FuncData) (bind:List D→List (Str×D)→Option Vars):Prop:=∀ {fr:List Addr} {ms:List Addr} {st:Store} {s:Shared} {ds:List D} {ks:List (Str×D)} {vs:List Value} {kv:List (Str×Value)} {vd:Vars},
 SR ⟨H,fr⟩ ms st s→Reps ms s.heap ds vs→RepK ms s.heap ks kv→bind ds ks=some vd →
 ∃ binds,BindsTo s fd ⟨vs,kv⟩ binds∧RepK ms s.heap vd binds∧(vd.map (·.1)).Nodup∧∀ p∈vd,stored ⟨fd.scope.names,fd.scope.names⟩ p.1=true
section
variable {prog:Program} {w:World} {H:Heap} {mg mb:Str→Option Value} {exc:Nat→Bool} {gl:Str→Option D} {tab:Nat→Option FDesc} {c1 c2:Nat}
theorem wU:∀ k,(layer exc gl tab c1 c2 k).gl=gl
 | 0=>rfl
 | k+1=>rfl
theorem rW:∀ k,(layer exc gl tab c1 c2 k).exc=exc
 | 0=>rfl
 | k+1=>rfl
theorem yE (GL:∀ k fr,GlOk (layer exc gl tab c1 c2 k) ⟨H,fr⟩ mg mb) (FT:∀ a f,tab a=some f→∃ fd,FnAt H a fd f.body∧fd.scope=f.sc∧BOk H fd f.bind∧∀ F,f.hear=some F→HForm F f.body) (HR:∀ c,exc c=true→ExcOwn H c) (hne:c1≠c2) (C:Catches prog w H [c1,c2]) :
  ∀ k,FnOk prog w (layer exc gl tab c1 c2 k) H (11+k)
 | 0=>⟨fun h=>(by exact nn h),fun _ _ _ _ _ h=>(by exact nn h),fun _ _ _ _ _ h=>(by exact nn h)⟩
 | k+1=>by
  have IH:=yE GL FT HR hne C k
  have HR':∀ c,(layer exc gl tab c1 c2 k).exc c=true→RaiseOk prog w H c:=fun c hc=>aDq (HR c (by rw [rW] at hc; exact hc))
  have key:∀ {fr:List Addr} {A:Around} {ms:List Addr} {st:Store} {s:Shared} {a:Nat} {ds:List D} {ks:List (Str×D)} {vs:List Value} {kv:List (Str×Value)} {res:Res} {st':Store},
    AOk (11+(k+1)) A→FrOk ⟨H,fr⟩ A→SR ⟨H,fr⟩ ms st s→Reps ms s.heap ds vs→RepK ms s.heap ks kv→(layer exc gl tab c1 c2 (k+1)).fn a ds ks st=some (res,st') →
    ∀ (Q:Value→Shared→Prop) (E:Value→Shared→Prop),(∀ d,res=.ret d→∀ v s' ms',Ext No s ms s' ms'→SR ⟨H,fr⟩ ms' st' s'→Rep ms' s'.heap d v→Q v s') →
     (∀ c d,res=.exc c d→∀ e v s' ms',Ext No s ms s' ms'→SR ⟨H,fr⟩ ms' st' s'→Rep ms' s'.heap d v→Flown ms' s.heap s'.heap c v e→E (.ref e) s') →
     wpAny (model prog w) A (call (.ref a) vs kv) Q E s:=fun {fr A ms st s a ds ks vs kv res st'} ar fs r pd pk h Q E hQ hE=>by
   refine bE (o:=tab a) h fun f hf h=>bE (o:=f.bind ds ks) h fun vd hb h=>?_
   obtain⟨fd,F,hsc,B,hear⟩:=FT a f hf
   obtain⟨binds,hbt,pb,hnd,hst⟩:=B r pd pk hb
   have h:runD (layer exc gl tab c1 c2 k) c1 c2 f vd st=some (res,st'):=h
   unfold runD at h
   cases hr':runF (layer exc gl tab c1 c2 k) f.sc f.body vd st with
   | some r' =>
    rw [hr'] at h
    exact aPa (n:=11+k) IH (fun _=>aBd _) HR' (GL k) (Nat.le_trans (by decide) (Nat.le_add_right 11 k)) F ar fs r hbt pb hnd hst (by rw [hsc]; exact hr'.trans h) Q E hQ hE
   | none =>
    rw [hr'] at h
    refine bE (o:=f.hear) h fun Fh hFh h=>bF (o:=pT (layer exc gl tab c1 c2 k) (ops (layer exc gl tab c1 c2 k) 24) ⟨f.sc.names,f.sc.names⟩ c1 c2 vd st Fh) h fun g q hx h=>?_
    obtain⟨l,hl,hall⟩:=fs
    refine nI (n:=11+k) (GL k fr).lim F ar ⟨l,hl,hall⟩ r hbt pb hnd hst (f:=g) (vars':=q.1) (st₂:=q.2) h (fun {s₁ env own L} hfL _ E₁ ar' fs' r₁ v₁=>?_) Q E hQ hE
    have O:=iZ (mg:=mg) (mb:=mb) (base:=⟨H,L::fr⟩) IH (aBd (prog:=prog) (w:=w) ⟨H,L::fr⟩) HR' (Nat.le_trans (by decide) (Nat.le_add_right 11 k)) 24
    rw [hsc] at E₁
    exact xM hne C O.ev O.ex IH (Nat.le_add_right 11 k) ⟨GL k _,E₁,ar',fs'⟩ Fh f.body (hear _ hFh) hx r₁ v₁ (congrArg (Option.map (env::·)) hl) hfL
  refine⟨fun {a ds ks st res} h=>bE (o:=tab a) h fun f hf _=>?_,fun {fr A ms st s a ds ks vs kv d st'} ar fs r pd pk h=>fun Q E hQ=>?_,fun {fr A ms st s a ds ks vs kv c d st'} ar fs r pd pk h=>fun Q E hE=>?_⟩
  ·obtain⟨fd,F,_⟩:=FT a f hf
   obtain⟨o,ho,hd⟩:=F.fn
   exact⟨o,fd,ho,hd⟩
  ·exact key ar fs r pd pk h Q E (fun d' q=>Res.ret.inj q▸hQ) fun c d=>nofun
  ·exact key ar fs r pd pk h Q E (fun d=>nofun) fun c' d' q=>(Res.exc.inj q).1▸(Res.exc.inj q).2▸hE
end
end Mine
end
section -- S37
open PySem PyProof.Rows PySem.SeqAt PySem.W
open Builtin Builtin.Str Builtin.BaseException Builtin.Exceptions
namespace Mine
section
variable {prog:Program} {w:World} {A:Around} {E:Value→Shared→Prop} {s:Shared} {C e t:Addr} {oe:Obj} {vs:Array Value} {m:Str} {tk:Tok}
set_option genInjectivity false in
structure OwnExc (h:Heap) (C e t:Addr) (m:Str) (tk:Tok):Prop where
 look:∀ M:Model,Looks M h (typeLookup (.ref C) "__str__") (some (.builtin "BaseException.__str__"))
 sub:∀ M:Model,Looks M h (isSubtype (.ref C) (.type "BaseException")) true
 at_:∃ oe vs,h.get? e=some oe∧oe.cls=.ref C∧oe.data=.fields vs∧vs[0]? = some (.ref t)
 tup:h.TupAt t [.str m tk]
theorem OwnExc.ty (x:OwnExc s.heap C e t m tk):Looks (model prog w) s.heap (typeOf (.ref e)) (.ref C):=by
 obtain⟨oe,vs,ho,hc,_⟩:=x.at_
 have:Looks (model prog w) s.heap (typeOf (.ref e)) oe.cls:=(Looks.ld ho).andThen .now
 rwa [hc] at this
theorem nM {Q:PySem.Fin→Shared→Prop} (x:OwnExc s.heap C e t m tk) (hq:Q (.done (.ret (.str m tk))) s):wpAny (model prog w) A (Builtin.«BaseException.__str__» ⟨[.ref e],[]⟩) Q E s:=by
 obtain⟨oe,vs,ho,_,hd,h0⟩:=x.at_
 obtain⟨ot,k,hto,_,htd⟩:=x.tup
 have args:∀ {A:Around} {E:Value→Shared→Prop} {Q:Value×List Value→Shared→Prop},Q (.ref t,[.str m tk]) s→wpAny (model prog w) A (bexcArgs (.ref e)) Q E s:=fun {A E Q} hq=>by
  unfold bexcArgs
  refine wpAny_bind (wpAny_field ho hd h0 (wpAny_bind (wpAny_seqItems hto htd ?_)))
  exact wpAny_pure hq
 unfold Builtin.«BaseException.__str__»
 repeat (first | with_reducible refine args ?_ | wp_step)
 exact hq
theorem mD {Q:Value→Shared→Prop} (x:OwnExc s.heap C e t m tk) (hq:Q (.str m tk) s):wpAny (model prog w) A (call (.builtin "BaseException.__str__") [.ref e]) Q E s:=by
 have FX:=F.excStr_Exception.str
 refine wpAny_call (codeAny_call_builtin FX.plain F.entry_bexc_str ?_)
 have hk:builtinKind "BaseException.__str__" = some .slot:=by decide +kernel
 have hs:splitId "BaseException.__str__" = some ("BaseException","__str__"):=by decide +kernel
 simp only [checkBuiltinCall,hk,hs]
 unfold isInstance
 refine wpAny_bind (wpAny_bind (x.ty.here ((x.sub _).here ?_)))
 simp only [Bool.not_true,Bool.false_eq_true,if_false]
 have hargs:argsOk "BaseException.__str__" ⟨[.ref e],[]⟩:=F.args_bexc_str _
 cases hsig:Manifest.signature? "BaseException.__str__" with
 | none=>exact wpAny_pure (nM x hq)
 | some sig =>
  simp only [argsOk,hsig] at hargs
  have h2:Bind.checkArgs "BaseException.__str__" sig ⟨[.ref e],[]⟩=pure ():=hargs
  refine (?_:wpAny _ _ (Bind.checkArgs "BaseException.__str__" sig ⟨[.ref e],[]⟩) _ _ s)
  rw [h2]
  exact wpAny_pure (nM x hq)
theorem aGt (hu:A.units < cLine) {Q:Value→Shared→Prop} (x:OwnExc s.heap C e t m tk) (hq:Q (.str m tk) s):wpAny (model prog w) A (Builtin.Str.strOf (.ref e)) Q E s:=by
 have FX:=F.excStr_Exception.str
 have sp:∀ {A:Around} {E:Value→Shared→Prop} {Q:Option Value→Shared→Prop},Q (some (.str m tk)) s→wpAny (model prog w) A (callSpecial? (.ref e) "__str__") Q E s:=fun {A E Q} hq=>by
  simp only [callSpecial?,specialOf]
  refine wpAny_bind (wpAny_bind (x.ty.here ((x.look _).here ?_)))
  simp only [FX.bind]
  exact wpAny_holding (wpAny_bind (wpAny_pure (wpAny_bind (mD x (wpAny_pure hq)))))
 unfold Builtin.Str.strOf
 repeat (first | with_reducible refine wpAny_cRoomFor hu ?_ | with_reducible refine sp ?_ | wp_step)
 exact hq
theorem aQd (hu:A.units+2 < cLine) {Q:Value→Shared→Prop} (x:OwnExc s.heap C e t m tk) (h:Q (.str m tk) s):wpAny (model prog w) A (call (.type "str") [.ref e]) Q E s :=
 callType_new F.called_str (by decide) (F.typeCall_str_1 _) (F.newCall_str_1 _) (fun obj=>F.args_object_init_2 obj _) F.entry_str_new
  (meets_str_new (S:=fun A' R s'=>A'.units+1 < cLine∧OwnExc s'.heap C e t m tk∧R (.ok (.ret (.str m tk))) s')
   fun _ _ A' _ _ hq=>aGt (A:=A'.in1) hq.1 hq.2.1 hq.2.2)
  ⟨(show A.units+1+1 < cLine from hu),x,typeIs_str _ _ _,h⟩
end
end Mine
end
section -- H5
open PySem PySem.W PyProof.Rows
set_option maxHeartbeats 0
namespace Mine
noncomputable def oM (as:List Addr) (h:Heap):Frag:=as.filterMap fun a=>(h.get? a).map fun o=>(a,o)
theorem aEw (as:List Addr) (h:Heap):(oM as h).In h:=by
 intro a o e
 unfold oM at e
 induction as with
 | nil=>cases e
 | cons b as ih =>
  rw [List.filterMap_cons] at e
  cases hb:h.get? b with
  | none=>rw [hb] at e; exact ih e
  | some x =>
   rw [hb] at e
   simp only [Option.map_some,List.lookup_cons] at e
   cases hq:a == b with
   | true=>rw [hq] at e; cases e; rw [eq_of_beq hq]; exact hb
   | false=>rw [hq] at e; exact ih e
noncomputable def needs:List Addr:=[3,31,30,44,43,56,55,73,138,146,65,72,80,100,107,114,121,129,137,145,153,160,167,174,181,188,193,198,205,212,219,226,231,236,64,71,79,99,106,113,120,128,136,144,152,159,166,173,180,187,192,197,204,211,218,225,230,235]
noncomputable def aUu (d:Data):Option (Array Value):=by
 induction d using PySem.Data.casesOn with
 | seq vs=>exact some vs
 | _=>exact none
noncomputable def aMe (d:Data):Option (Array Value):=by
 induction d using PySem.Data.casesOn with
 | fields vs=>exact some vs
 | _=>exact none
noncomputable def aQy (d:Data):Option FuncData:=by
 induction d using PySem.Data.casesOn with
 | func fd=>exact some fd
 | _=>exact none
noncomputable def refV (v:Value):Option Addr:=by
 induction v using PySem.Value.casesOn with
 | ref a=>exact some a
 | _=>exact none
noncomputable def strV (v:Value):Option Str:=by
 induction v using PySem.Value.casesOn with
 | str z=>exact some z
 | _=>exact none
noncomputable def bytV (v:Value):Option (Array UInt8):=by
 induction v using PySem.Value.casesOn with
 | bytes b=>exact some b
 | _=>exact none
noncomputable def fdOf (K:Frag) (a:Addr):Option FuncData:=(K.lookup a).bind fun o=>aQy o.data
noncomputable def aUn (K:Frag) (fd:FuncData):Option Str:=(refV fd.code).bind fun c=>(K.lookup c).bind fun o=>(aMe o.data).bind fun vs=>(vs[1]?).bind strV
noncomputable def fdB (K:Frag) (fd:FuncData):Bool :=
 !fd.scope.isCoroutine&&!fd.scope.isGenerator&&decide (aUn K fd=some fd.qualname)&&fd.closure.isEmpty&&(fd.globals == mainGlobals)&&(fd.builtins == builtinsNs)&&(fd.scope.kind == .function)&&decide ((fd.scope.names.map (·.1)).Nodup)
noncomputable def gAt (K:Frag) (x:Str):Option Value:=(nsIn K mainGlobals x).bind id
noncomputable def vP (K:Frag) (v:Value):Option (List Value):=(refV v).bind fun a=>(K.lookup a).bind fun o=>if o.cls == .type "tuple" then (aUu o.data).map (·.toList) else none
noncomputable def globOk (K:Frag) (q:Str×D):Bool:=(gAt K q.1).any fun v=>by
 induction q.2 using D.casesOn with
 | obj a=>exact v == .ref a
 | bytes l=>exact (bytV v).any fun b=>decide (b.toList.map UInt8.toNat=l)
 | tuple l=>exact oF l&&(vP K v == some [.type "bytes",.type "bytearray"])
 | _=>exact false
noncomputable def dfOk (K:Frag) (k:BKind) (fd:FuncData):Bool:=by
 induction k using BKind.casesOn with
 | pos=>exact fd.defaults == .none
 | two=>exact vP K fd.defaults == some [.none]
 | kw=>exact fd.defaults == .none
 | dec=>exact vP K fd.defaults == some [.none,.bool false]
noncomputable def good (K:Frag):Bool :=
 globs.all (globOk K)&&builts.all (fun q=>nsIn K mainGlobals q.1 == some none)&&(nsIn K mainGlobals "law" == some (some (.ref 236)))
 && (excIn K 44 [.type "Exception",.type "BaseException",.type "object"] "Exception.__new__")&&(excIn K 56 [.type "Exception",.type "BaseException",.type "object"] "Exception.__new__")
 && (exmOne K (.ref 44) (.ref 44) == some true)&&(exmOne K (.ref 44) (.ref 56) == some false)&&(exmOne K (.ref 56) (.ref 44) == some false)&&(exmOne K (.ref 56) (.ref 56) == some true)
 && [44,56].all (fun c=>findIn K (.ref c) "__str__" == some (some (.builtin "BaseException.__str__"))&&subIn K (.ref c) (.type "BaseException") == some true)
 && tabL.all (fun p=>(fdOf K p.1).any fun fd=>fdB K fd&&dfOk K p.2.2 fd)
noncomputable def eW:Option Stmt→Arguments
 | some (.FunctionDef _ p _ _ _ _ _ _ _ _)=>p
 | _=>default
noncomputable def obsT (K:Frag):List (Option (Arguments×FuncBody×Scope)):=tabL.map fun p=>(fdOf K p.1).map fun fd=>(fd.params,fd.body,fd.scope)
noncomputable def valT:List (Option (Arguments×FuncBody×Scope)):=tabL.map fun p=>some (eW (fnAt p.2.1),.stmts (fBody (fnAt p.2.1)),fScope (fnAt p.2.1))
noncomputable def Says (h:Heap):Prop:=∃ K:Frag,K.In h∧good K=true∧obsT K=valT
noncomputable def hook:Hook:=⟨Bool×List (Option (Arguments×FuncBody×Scope)),fun s=>(good (oM needs s.heap),obsT (oM needs s.heap)),fun _=>(true,valT),fun _ h=>Says h,
 fun _ s e=>⟨oM needs s.heap,aEw _ _,congrArg Prod.fst e,congrArg Prod.snd e⟩,
 fun _ _ _ ⟨K,x,a,b⟩ k=>⟨K,x.keeps k,a,b⟩⟩
noncomputable abbrev vw:Program:=view PySem.Challenge.pw_oy0126_01 [38]
noncomputable def aJr:List Str:=(PySem.Challenge.pw_oy0126_01.main.body.take 38).flatMap bindsAtTop
theorem left:LeftO PySem.Challenge.pw_oy0126_01 vw aJr (fun s=>xlAt vw [] s&&recOk PySem.Challenge.rw_oy0126_01.row.records s) hook.obs hook.val 3600:=fun w=>by kernel_rfl
noncomputable abbrev P0:Program:=PySem.Challenge.rw_oy0126_01.row.prog
theorem aVg:sreFenced P0.main=true:=by kernel_rfl
theorem aVq:namesResolve P0=true:=by kernel_rfl
theorem aVl:noRoadLSs { strict:=!(importedModules P0.main.body).all cThrough.contains,foot:=none,bare:=(["vars","dir","locals"]:List Str).filter (readsOut P0 P0.main.body) } P0.main.body=true:=by kernel_rfl
theorem looks:looksOpen P0=true:=look_both (look_both (look_both (look_both (look_both aVg (by kernel_rfl)) aVq) (by kernel_rfl)) aVl) (by kernel_rfl)
theorem partSaid:PySem.Challenge.rw_oy0126_01.row.partSaid=true:=by
 iterate 13 (refine look_both ?_ (by kernel_rfl))
 exact looks
theorem said:PySem.Challenge.rw_oy0126_01.wellSaid=true:=by
 iterate 20 (refine look_both ?_ (by kernel_rfl))
 exact partSaid
end Mine
end
section -- K1
open PySem PyProof.Rows PySem.SeqAt PySem.W
namespace Mine
noncomputable def uO (o:Obj) (sl:Array (Option Value)):Obj:=match o.data with
 | .dict _ _=>{ o with slots:=sl }
 | _=>o
noncomputable def reslot (K:Frag) (sl:Addr→Array (Option Value)):Frag:=K.map fun p=>(p.1,uO p.2 (sl p.1))
theorem cC {K:Frag} {sl:Addr→Array (Option Value)} {a:Addr}:(reslot K sl).lookup a=(K.lookup a).map fun o=>uO o (sl a):=by
 unfold reslot
 induction K with
 | nil=>rfl
 | cons p K ih =>
  obtain⟨b,o⟩:=p
  rw [List.map_cons,List.lookup_cons,List.lookup_cons]
  cases hb:a == b with
  | true=>rw [eq_of_beq hb]; rfl
  | false=>exact ih
theorem sT {K:Frag} {H h:Heap} (X:K.In H) (k:∀ a o,H.get? a=some o→Kept h a o):∃ sl,(reslot K sl).In h:=by
 refine⟨fun a=>match h.get? a with | some o=>o.slots | none=>#[],fun a o' e=>?_⟩
 rw [cC,Option.map_eq_some_iff] at e
 obtain⟨o,ho,rfl⟩:=e
 obtain⟨o'',h1,h2⟩:=k a o (X a o ho)
 rw [h1]
 unfold uO
 rcases h2 with rfl | ⟨⟨es,n,hd⟩,s2,rfl⟩
 ·split <;> rfl
 ·rw [hd]
section
variable {K:Frag} {sl:Addr→Array (Option Value)}
theorem xA (a:Addr) (x:Str):nsIn (reslot K sl) a x=nsIn K a x:=by
 unfold nsIn
 rw [cC]
 cases K.lookup a with
 | none=>rfl
 | some o=>obtain⟨c,d,dt,s⟩:=o; cases dt <;> rfl
theorem lH (a:Addr):clsIn (reslot K sl) a=clsIn K a:=by
 unfold clsIn
 rw [cC]
 cases K.lookup a with
 | none=>rfl
 | some o=>obtain⟨c,d,dt,s⟩:=o; cases dt <;> rfl
theorem qR (a:Addr):typeIn (reslot K sl) (.ref a)=typeIn K (.ref a):=by
 show ((reslot K sl).lookup a).map (·.cls)=(K.lookup a).map (·.cls)
 rw [cC]
 cases K.lookup a with
 | none=>rfl
 | some o=>obtain⟨c,d,dt,s⟩:=o; cases dt <;> rfl
theorem uE (x:Str) (v:Value):ownIn (reslot K sl) x v=ownIn K x v:=by
 unfold ownIn
 induction v with
 | ref a =>
  dsimp only
  rw [cC]
  cases K.lookup a with
  | none=>rfl
  | some o=>obtain⟨c,d,dt,s⟩:=o; cases dt <;> first | rfl | exact xA _ _
 | _=>rfl
theorem iK (x:Str):∀ l:List Value,alongIn (reslot K sl) x l=alongIn K x l
 | []=>rfl
 | v::l=>by unfold alongIn; rw [uE,iK x l]
theorem qY (a:Addr) (x:Str):findIn (reslot K sl) (.ref a) x=findIn K (.ref a) x:=by
 unfold findIn
 dsimp only
 rw [cC]
 cases K.lookup a with
 | none=>rfl
 | some o=>obtain⟨c,d,dt,s⟩:=o; cases dt <;> first | rfl | exact iK _ _
theorem gV (a:Addr) (v:Value):subIn (reslot K sl) (.ref a) v=subIn K (.ref a) v:=by
 unfold subIn mroIn
 dsimp only
 rw [lH]
theorem qW (a b:Addr):exmOne (reslot K sl) (.ref a) (.ref b)=exmOne K (.ref a) (.ref b):=by
 unfold exmOne kitCls
 dsimp only
 rw [lH,qR,gV,gV]
end
section
variable {K:Frag} {H:Heap} {pr:Program} {loose:List Str} {mg mb:Str→Option Value}
set_option genInjectivity false in
structure GoodK (K:Frag):Prop where
 gl:∀ q∈globs,globOk K q=true
 bl:∀ q∈builts,nsIn K mainGlobals q.1=some none
 law:nsIn K mainGlobals "law" = some (some (.ref 236))
 x44:excIn K 44 [.type "Exception",.type "BaseException",.type "object"] "Exception.__new__" = true
 x56:excIn K 56 [.type "Exception",.type "BaseException",.type "object"] "Exception.__new__" = true
 e11:exmOne K (.ref 44) (.ref 44)=some true
 e12:exmOne K (.ref 44) (.ref 56)=some false
 e21:exmOne K (.ref 56) (.ref 44)=some false
 e22:exmOne K (.ref 56) (.ref 56)=some true
 str:∀ c∈[44,56],findIn K (.ref c) "__str__" = some (some (.builtin "BaseException.__str__"))∧subIn K (.ref c) (.type "BaseException")=some true
 fn:∀ p∈tabL,∃ fd,fdOf K p.1=some fd∧(fdB K fd&&dfOk K p.2.2 fd)=true
theorem any2 {α:Type} {o:Option α} {f:α→Bool} (h:o.any f=true):∃ a,o=some a∧f a=true:=by
 cases o with
 | none=>exact absurd h Bool.false_ne_true
 | some a=>exact⟨a,rfl,h⟩
theorem aUq (h:good K=true):GoodK K:=by
 have al:=fun {α:Type} {l:List α} {f:α→Bool} (h:l.all f=true)=>List.all_eq_true.mp h
 have h12:=and2 h
 have h10:=and2 h12.1
 have h9:=and2 h10.1
 have h8:=and2 h9.1
 have h7:=and2 h8.1
 have h6:=and2 h7.1
 have h5:=and2 h6.1
 have h4:=and2 h5.1
 have h3:=and2 h4.1
 have h2:=and2 h3.1
 exact⟨al h2.1,fun q hq=>eq_of_beq (al h2.2 q hq),eq_of_beq h3.2,h4.2,h5.2,eq_of_beq h6.2,eq_of_beq h7.2,eq_of_beq h8.2,eq_of_beq h9.2,fun c hc=>⟨eq_of_beq (and2 (al h10.2 c hc)).1,eq_of_beq (and2 (al h10.2 c hc)).2⟩,fun p hp=>any2 (al h12.2 p hp)⟩
theorem qV {prog:Program} {w:World} (X:K.In H) (g:GoodK K):Catches prog w H [44,56]:=by
 refine⟨fun {c c'} hc hc' {A s e oe Q E} k ho hcl hQ=>?_,fun {c} hc {A s e t oe vs m tk Q E} hu k ho hcl hd h0 ht hQ=>?_⟩
 ·obtain⟨sl,Y⟩:=sT X k
  have LT:Looks (model prog w) s.heap (typeOf (.ref e)) (.ref c):=by
   have:=(Looks.ld (M:=model prog w) (part:=none) ho)
   have t:Looks (model prog w) s.heap (typeOf (.ref e)) oe.cls:=(Looks.ld ho).andThen .now
   rwa [hcl] at t
  have key:∀ b,exmOne K (.ref c) (.ref c')=some b→decide (c=c')=b→wpAny (model prog w) A (excMatches (.ref e) (.ref c')) Q E s:=fun b hb hd=>by
   rw [hd] at hQ
   exact (exm_one Y LT (b:=b) ((qW _ _).trans hb)).here hQ
  simp only [List.mem_cons,List.not_mem_nil,or_false] at hc hc'
  rcases hc with rfl | rfl <;> rcases hc' with rfl | rfl
  ·exact key _ g.e11 rfl
  ·exact key _ g.e12 rfl
  ·exact key _ g.e21 rfl
  ·exact key _ g.e22 rfl
 ·obtain⟨sl,Y⟩:=sT X k
  obtain⟨q1,q2⟩:=g.str c hc
  exact aQd (by lia) ⟨fun M=>looks_findIn Y ((qY _ _).trans q1),fun M=>looks_subIn Y ((gV _ _).trans q2),⟨oe,vs,ho,hcl,hd,h0⟩,ht⟩ hQ
theorem sB {x:Str} {C:Addr} (X:K.In H) (T:TopRead pr loose mg mb H) (e:nsIn K mainGlobals x=some (some (.ref C)))
  (q:excIn K C [.type "Exception",.type "BaseException",.type "object"] "Exception.__new__" = true):ExcOwn H C:=by
 obtain⟨bm,N,nm,qn,bs,hdct,sn,sub,ab,col,dd,k0,k1,k2,k3,k5,mN,hC,hN,hni,TL⟩:=(own_of_in X T e q).obj
 exact⟨_,_,_,_,_,_,_,_,bm,nm,qn,N,bs,hdct,sn,sub,ab,col,dd,k0,k1,k2,k3,k5,mN,F.excBase_Exception,by decide +kernel,F.excBase_Exception,hC,hN,hni,TL⟩
theorem aIx {x:Str} {v:Value} (h:gAt K x=some v):nsIn K mainGlobals x=some (some v):=bE (o:=nsIn K mainGlobals x) h fun o h1 h2=>h1.trans (congrArg some h2)
theorem yK {x:Str} {a:Addr} (g:GoodK K) (h:(x,D.obj a)∈globs):nsIn K mainGlobals x=some (some (.ref a)) :=
 (any2 (g.gl _ h)).elim fun v h=>aIx ((eq_of_beq h.2:v=.ref a)▸h.1)
theorem yO (X:K.In H) (g:GoodK K) (T:TopRead pr loose mg mb H):∀ c,excT c=true→ExcOwn H c:=fun c hc=>((Bool.or_eq_true _ _).mp hc).elim
 (fun h=>eq_of_beq h▸sB X T (yK (x:="error_reply") g (List.mem_of_getElem? (i:=23) rfl)) g.x44) fun h=>eq_of_beq h▸sB X T (yK (x:="error_proto") g (List.mem_of_getElem? (i:=24) rfl)) g.x56
theorem jX {α β:Type} [BEq α] [LawfulBEq α] {l:List (α×β)} {P:α→β→Prop} (h:∀ q∈l,P q.1 q.2) {x:α} {b:β} (e:l.lookup x=some b):P x b:=by
 induction l with
 | nil=>exact nn e
 | cons q l ih =>
  obtain⟨y,c⟩:=q
  rw [List.lookup_cons] at e
  cases hb:x == y with
  | true=>rw [hb] at e; cases e; rw [eq_of_beq hb]; exact h _ List.mem_cons_self
  | false=>rw [hb] at e; exact ih (fun q hq=>h q (List.mem_cons_of_mem _ hq)) e
noncomputable def aVo (q:Str×D):Bool:=!(decide (q.1 = "__name__"))&&by
 induction q.2 using D.casesOn with
 | builtin n=>exact bootBuiltins q.1 == some (.builtin n)
 | type n=>exact bootBuiltins q.1 == some (.type n)
 | _=>exact false
theorem aFw:builts.all aVo=true:=by kernel_rfl
noncomputable def Stands (H:Heap) (mg mb:Str→Option Value) (x:Str) (d:D):Prop:=∃ v,(mg x=some v∨(mg x=none∧mb x=some v))∧Rep [] H d v∧noCell d=true
theorem aTt {v:Value} {l:List Value} {ds:List D} (X:K.In H) (h:vP K v=some l) (p:Reps [] H ds l):Rep [] H (.tuple ds) v:=by
 induction v using PySem.Value.casesOn with
 | ref a =>
   refine bE (o:=K.lookup a) h fun o ho h=>ifS (c:=(o.cls == .type "tuple")=true) h fun hc h=>?_
   obtain⟨c,dd,dt,sl⟩:=o
   induction dt using PySem.Data.casesOn with
   | seq vs n=>exact⟨a,l,rfl,List.not_mem_nil,⟨_,X _ _ ho,eq_of_beq hc,n,by rw [← Option.some.inj h]⟩,p⟩
   | _=>exact nn h
 | _=>exact nn h
theorem xP {G:Gx} {fr:List Addr} (hG:G.gl=glT) (X:K.In H) (g:GoodK K) (T:TopRead pr loose mg mb H):GlOk G ⟨H,fr⟩ mg mb:=by
 refine⟨T.g,T.b,T.nolimit,fun x d e=>?_⟩
 rw [hG] at e
 unfold glT at e
 cases hd:globs.lookup x with
 | some d' =>
  rw [hd] at e
  cases Option.some.inj e
  refine jX (P:=Stands H mg mb) (fun q hq=>?_) hd
  obtain⟨v,hv,h⟩:=any2 (g.gl q hq)
  have hm:=mg_of X T.g (aIx hv)
  obtain⟨x,d⟩:=q
  induction d using D.casesOn with
  | obj a=>exact⟨v,.inl hm,eq_of_beq h,rfl⟩
  | bytes l =>
   induction v using PySem.Value.casesOn with
   | bytes b t=>exact⟨_,.inl hm,⟨b,t,rfl,of_decide_eq_true h⟩,rfl⟩
   | _=>exact absurd h Bool.false_ne_true
  | tuple l =>
   rw [nN (and2 h).1]
   exact⟨v,.inl hm,aTt X (eq_of_beq (and2 h).2) (Reps.cons (iL _ _) (Reps.cons (iL _ _) Reps.nil)),rfl⟩
  | _=>exact absurd h Bool.false_ne_true
 | none =>
  rw [hd] at e
  refine jX (P:=Stands H mg mb) (fun q hq=>?_) e
  have hk:=and2 (List.all_eq_true.mp aFw q hq)
  have hg:=mg_none_of X T.g (g.bl q hq)
  have hb:=T.builtins q.1 (of_decide_eq_false (no hk.1))
  have h:=hk.2
  obtain⟨x,d⟩:=q
  induction d using D.casesOn with
  | builtin n=>exact⟨_,.inr ⟨hg,hb.trans (eq_of_beq h)⟩,rfl,rfl⟩
  | type n=>exact⟨_,.inr ⟨hg,hb.trans (eq_of_beq h)⟩,rfl,rfl⟩
  | _=>exact absurd h Bool.false_ne_true
end
end Mine
end
section -- K2
open PySem PyProof.Rows PySem.SeqAt PySem.W
namespace Mine
theorem aNf {d:Data} {fd:FuncData} (h:aQy d=some fd):d=.func fd:=by
 induction d using PySem.Data.casesOn with
 | func=>exact congrArg _ (Option.some.inj h)
 | _=>exact nn h
theorem aKi {d:Data} {vs:Array Value} (h:aMe d=some vs):d=.fields vs:=by
 induction d using PySem.Data.casesOn with
 | fields=>exact congrArg _ (Option.some.inj h)
 | _=>exact nn h
theorem aPk {v:Value} {a:Addr} (h:refV v=some a):v=.ref a:=by
 induction v using PySem.Value.casesOn with
 | ref=>exact congrArg _ (Option.some.inj h)
 | _=>exact nn h
theorem aQa {v:Value} {z:Str} (h:strV v=some z):∃ t,v=.str z t:=by
 induction v using PySem.Value.casesOn with
 | str z t=>exact⟨t,congrArg (Value.str · t) (Option.some.inj h)⟩
 | _=>exact nn h
theorem aOd {K:Frag} {H:Heap} {a:Addr} {body:List Stmt} {fd:FuncData} (X:K.In H) (hf:fdOf K a=some fd) (h:fdB K fd=true) (hb:fd.body=.stmts body):FnAt H a fd body :=
 bE (o:=K.lookup a) hf fun o ho hf=>by
 have h8:=and2 h
 have h7:=and2 h8.1
 have h6:=and2 h7.1
 have h5:=and2 h6.1
 have h4:=and2 h5.1
 have h3:=and2 h4.1
 refine⟨⟨o,X _ _ ho,aNf hf⟩,no (and2 h3.1).1,no (and2 h3.1).2,hb,?_,List.isEmpty_iff.mp h4.2,eq_of_beq h5.2,eq_of_beq h6.2,eq_of_beq h7.2,of_decide_eq_true h8.2⟩
 refine bE (o:=refV fd.code) (of_decide_eq_true h3.2) fun c hc q=>bE (o:=K.lookup c) q fun o' ho' q=>bE (o:=aMe o'.data) q fun vs hv q=>bE q fun v hvv q=>?_
 obtain⟨t,rfl⟩:=aQa q
 exact⟨c,o',vs,t,aPk hc,X _ _ ho',aKi hv,hvv⟩
theorem zip_ok {names:List Str} {nm:List (Str×NameKind)} {ms:List Addr} {h:Heap} {ds:List D} {vs:List Value} (hn:names.Nodup) (hst:names.all (fun x=>stored ⟨nm,nm⟩ x)=true) (pd:Reps ms h ds vs) (hl:ds.length=names.length) :
  RepK ms h (names.zip ds) (names.zip vs)∧((names.zip ds).map (·.1)).Nodup∧∀ p∈names.zip ds,stored ⟨nm,nm⟩ p.1=true:=by
 have h1:(names.zip ds).map (·.1)=names:=List.map_fst_zip (Nat.le_of_eq hl.symm)
 have h2:(names.zip vs).map (·.1)=names:=List.map_fst_zip (Nat.le_of_eq (pd.length.trans hl).symm)
 refine⟨⟨h2.trans h1.symm,?_⟩,h1.symm▸hn,fun p hp=>List.all_eq_true.mp hst _ (List.of_mem_zip hp).1⟩
 rw [List.map_snd_zip (Nat.le_of_eq hl),List.map_snd_zip (Nat.le_of_eq (pd.length.trans hl))]
 exact pd
theorem aMa {α β:Type} {f g:α→Option β} {l:List α} (h:∀ n∈l,f n=g n):l.filterMap f=l.filterMap g:=by
 induction l with
 | nil=>rfl
 | cons a l ih=>rw [List.filterMap_cons,List.filterMap_cons,h a List.mem_cons_self,ih fun n hn=>h n (List.mem_cons_of_mem _ hn)]
theorem zI {names:List Str} (hn:names.Nodup):∀ {vs:List Value},vs.length=names.length→(names.filterMap fun n=>((names.zip vs).lookup n).map (n,·))=names.zip vs∧∀ n∈names,(((names.zip vs).lookup n).isNone)=false:=by
 induction names with
 | nil=>exact fun _=>⟨rfl,fun n h=>nomatch h⟩
 | cons x r ih =>
  intro vs hl
  induction vs using List.casesOn with
  | nil=>exact nomatch hl
  | cons v vs =>
   obtain⟨h1,h2⟩:=List.nodup_cons.mp hn
   obtain⟨i1,i2⟩:=ih h2 (Nat.succ.inj hl)
   have e:∀ n∈r,(((x,v)::r.zip vs).lookup n)=(r.zip vs).lookup n:=fun n hm=>by
    rw [List.lookup_cons,beq_eq_false_iff_ne.mpr fun q:n=x=>h1 (q▸hm)]
   have e0:(((x,v)::r.zip vs).lookup x)=some v:=by rw [List.lookup_cons,beq_self_eq_true]
   refine⟨?_,fun n hm=>?_⟩
   ·rw [List.zip_cons_cons,List.filterMap_cons,e0]
    exact congrArg _ ((aMa fun n hm=>by rw [e n hm]).trans i1)
   ·rw [List.zip_cons_cons]
    rcases List.mem_cons.mp hm with rfl | hm
    ·rw [e0]; rfl
    ·rw [e n hm]; exact i2 n hm
noncomputable def pA (P:Arguments):Option (List Str):=if P.posonlyargs.isEmpty&&P.vararg.isNone&&P.kwonlyargs.isEmpty&&P.kwarg.isNone then some (P.args.map (·.arg)) else none
theorem aEx {P:Arguments} {names:List Str} (h:pA P=some names):∃ as kd ds,P=⟨[],as,none,[],kd,none,ds⟩∧as.map (·.arg)=names:=by
 obtain⟨po,as,va,ko,kd,kw,ds⟩:=P
 refine ifS h fun c h=>?_
 have c3:=and2 c
 have c2:=and2 c3.1
 have c1:=and2 c2.1
 have e1:po=[]:=List.isEmpty_iff.mp c1.1
 have e2:va=none:=Option.isNone_iff_eq_none.mp c1.2
 have e3:ko=[]:=List.isEmpty_iff.mp c2.2
 have e4:kw=none:=Option.isNone_iff_eq_none.mp c3.2
 rw [e1,e2,e3,e4]
 exact⟨as,kd,ds,rfl,Option.some.inj h⟩
theorem vZ (fd:FuncData) {names:List Str} (hp:pA fd.params=some names) (hd:fd.defaults=.none) {vs:List Value} (hl:vs.length=names.length) (hn:names.Nodup):bindArgs fd ⟨vs,[]⟩=pure (names.zip vs):=by
 obtain⟨as,kd,ds,hq,rfl⟩:=aEx hp
 obtain⟨h1,h2⟩:=zI hn hl
 have h3:((as.map (·.arg)).filter fun n=>(((as.map (·.arg)).zip vs).lookup n).isNone)=[]:=List.filter_eq_nil_iff.mpr fun n hm=>by rw [h2 n hm]; exact Bool.false_ne_true
 have h4:decide (vs.length > (as.map (·.arg)).length)=false:=decide_eq_false (Nat.not_lt.mpr (Nat.le_of_eq hl))
 have hs:(seqItems? Value.none)=pure none:=rfl
 unfold bindArgs
 rw [hq,hd,hs]
 simp only [List.map_nil,List.nil_append,List.append_nil,List.forIn_nil,pure_bind,h4,Bool.false_and,Bool.false_eq_true,if_false,Option.getD_none,List.drop_nil,List.length_nil,Nat.sub_zero,List.take_length,List.drop_length,h3,List.isEmpty_nil,Bool.not_true,List.zip_nil_left,h1]
theorem aVn (fd:FuncData) (hp:fd.params=eW (fnAt 19)) (hd:fd.defaults=.none) (v u:Value):bindArgs fd ⟨[v],[(("strict_mode":Str),u)]⟩=pure [(("data":Str),v),(("strict_mode":Str),u)]:=by
 unfold bindArgs
 rw [hp,hd]
 kernel_rfl
theorem aVk (fd:FuncData) (hp:fd.params=eW (fnAt 20)) (hd:fd.defaults=.none) (v u:Value):bindArgs fd ⟨[v],[(("newline":Str),u)]⟩=pure [(("data":Str),v),(("newline":Str),u)]:=by
 unfold bindArgs
 rw [hp,hd]
 kernel_rfl
noncomputable def aLo (s:Shared) (d:Value) (l:List Value):Prop:=∃ T o n,d=.ref T∧s.heap.get? T=some o∧o.data=.seq l.toArray n
theorem aVh {s:Shared} (fd:FuncData) (hp:fd.params=eW (fnAt 22)) (hd:aLo s fd.defaults [.none]) (v u:Value):BindsTo s fd ⟨[v,u],[]⟩ [("s",v),("altchars",u)]:=by
 obtain⟨T,o,n,h1,h2,h3⟩:=hd
 refine BindsTo.of_defaults h1 h2 h3 (by unfold bindArgs; rw [hp]; rfl) ?_
 kernel_rfl
theorem aVs {s:Shared} (fd:FuncData) (hp:fd.params=eW (fnAt 23)) (hd:aLo s fd.defaults [.none,.bool false]) (v u:Value):BindsTo s fd ⟨[v,u],[]⟩ [("s",v),("altchars",u),("validate",.bool false)]:=by
 obtain⟨T,o,n,h1,h2,h3⟩:=hd
 refine BindsTo.of_defaults h1 h2 h3 (by unfold bindArgs; rw [hp]; rfl) ?_
 kernel_rfl
theorem aEa {K:Frag} {H:Heap} {fr ms:List Addr} {st:Store} {s:Shared} {v:Value} {l:List Value} (r:SR ⟨H,fr⟩ ms st s) (X:K.In H) (h:vP K v=some l):aLo s v l:=by
 induction v using PySem.Value.casesOn with
 | ref a =>
   refine bE (o:=K.lookup a) h fun o ho h=>ifS (c:=(o.cls == .type "tuple")=true) h fun hc h=>?_
   obtain⟨c,dd,dt,sl⟩:=o
   induction dt using PySem.Data.casesOn with
   | seq vs n=>exact⟨a,_,n,rfl,(r.keep _ _ (X _ _ ho)).exact (noFr rfl fun _ _=>nofun),by rw [← Option.some.inj h]⟩
   | _=>exact nn h
 | _=>exact nn h
noncomputable def aLn (i:Nat) (k:BKind):Bool:=by
 induction k using BKind.casesOn with
 | pos names=>exact pA (eW (fnAt i)) == some names
 | two=>exact i == 22
 | kw k=>exact i == 19&&k == "strict_mode" || i == 20&&k == "newline"
 | dec=>exact i == 23
noncomputable def aSv (p:Nat×Nat×BKind):Bool:=decide (uB p.2.2).Nodup&&(uB p.2.2).all (fun x=>stored ⟨(fScope (fnAt p.2.1)).names,(fScope (fnAt p.2.1)).names⟩ x)&&aLn p.2.1 p.2.2&&(!(p.1 == 212) || p.2.1 == 34)
theorem aNe:tabL.all aSv=true:=by kernel_rfl
theorem len2 {α:Type} {l:List α} (h:l.length=2):∃ a b,l=[a,b]:=by
 induction l using List.casesOn with
 | nil=>exact nomatch h
 | cons a l=>induction l using List.casesOn with
  | nil=>exact nomatch h
  | cons b l=>exact⟨a,b,by rw [List.length_eq_zero_iff.mp (Nat.succ.inj (Nat.succ.inj h))]⟩
theorem aSk {K:Frag} {H:Heap} {fd:FuncData} {i:Nat} (k:BKind) (X:K.In H) (hn:(uB k).Nodup) (hst:(uB k).all (fun x=>stored ⟨fd.scope.names,fd.scope.names⟩ x)=true) (hf:aLn i k=true) (hp:fd.params=eW (fnAt i)) (hd:dfOk K k fd=true):BOk H fd (aIi k):=fun {fr ms st s ds ks vs kv vd} r pd pk e=>by
 have nokw:ks.isEmpty=true→kv=[]:=fun h=>List.map_eq_nil_iff.mp (pk.1.trans (congrArg _ (List.isEmpty_iff.mp h)))
 induction k using BKind.casesOn with
 | pos names =>
  refine ifS e fun h e=>?_
  cases nokw (and2 h).1
  cases Option.some.inj e
  exact⟨_,BindsTo.of_eq (vZ fd (hp▸eq_of_beq hf) (eq_of_beq hd) (pd.length.trans (eq_of_beq (and2 h).2)) hn),zip_ok hn hst pd (eq_of_beq (and2 h).2)⟩
 | two =>
  refine ifS e fun h e=>?_
  cases nokw (and2 h).1
  cases Option.some.inj e
  obtain⟨v,u,rfl⟩:=len2 (pd.length.trans (eq_of_beq (and2 h).2))
  exact⟨_,aVh fd (eq_of_beq hf▸hp) (aEa r X (eq_of_beq hd)) v u,zip_ok hn hst pd (eq_of_beq (and2 h).2)⟩
 | kw k =>
  refine bE (o:=one ds) e fun d h1 e=>bE (o:=one ks) e fun x h2 e=>ifS e fun hk e=>?_
  rw [eE h1] at pd
  obtain⟨v,rfl,pv⟩:=cH pd
  rw [eE h2] at pk
  obtain⟨u,hu,pu⟩:=cH pk.2
  cases Option.some.inj e
  have hkv:kv=[(k,u)]:=(List.zip_of_prod (pk.1.trans (congrArg (fun x=>[x]) hk)) hu)
  rw [hkv]
  refine⟨[("data",v),(k,u)],?_,zip_ok hn hst (Reps.cons pv (Reps.cons pu Reps.nil)) rfl⟩
  rcases (Bool.or_eq_true _ _).mp hf with q | q
  ·rw [eq_of_beq (and2 q).2]
   exact BindsTo.of_eq (aVn fd (eq_of_beq (and2 q).1▸hp) (eq_of_beq hd) v u)
  ·rw [eq_of_beq (and2 q).2]
   exact BindsTo.of_eq (aVk fd (eq_of_beq (and2 q).1▸hp) (eq_of_beq hd) v u)
 | dec =>
  refine ifS e fun h e=>mE (o:=two ds) e fun q h1 e=>?_
  cases nokw h
  rw [jE h1] at pd
  obtain⟨v,u,rfl,pv,pu⟩:=fE pd
  cases e
  exact⟨[("s",v),("altchars",u),("validate",.bool false)],aVs fd (eq_of_beq hf▸hp) (aEa r X (eq_of_beq hd)) v u,zip_ok (names:=["s","altchars","validate"]) (vs:=[v,u,.bool false]) hn hst (Reps.cons pv (Reps.cons pu (Reps.cons (dP _ _) Reps.nil))) rfl⟩
theorem aRc {K:Frag} {H:Heap} (X:K.In H) (g:GoodK K) (ho:obsT K=valT) (p:Nat×Nat×BKind) (hp:p∈tabL):∃ fd,FnAt H p.1 fd (fBody (fnAt p.2.1))∧fd.params=eW (fnAt p.2.1)∧fd.scope=fScope (fnAt p.2.1)∧dfOk K p.2.2 fd=true:=by
 obtain⟨fd,hf,h⟩:=g.fn p hp
 have q:(fd.params,fd.body,fd.scope)=(eW (fnAt p.2.1),.stmts (fBody (fnAt p.2.1)),fScope (fnAt p.2.1)):=Option.some.inj ((congrArg (Option.map _) hf).symm.trans (List.map_inj_left.mp ho p hp))
 exact⟨fd,aOd X hf (and2 h).1 (congrArg (·.2.1) q),congrArg (·.1) q,congrArg (·.2.2) q,(and2 h).2⟩
theorem aTc {K:Frag} {H:Heap} (X:K.In H) (g:GoodK K) (ho:obsT K=valT):∀ a f,tab a=some f→∃ fd,FnAt H a fd f.body∧fd.scope=f.sc∧BOk H fd f.bind∧∀ F,f.hear=some F→HForm F f.body:=fun a f e=>mE e fun p hl e=>by
 have key:=jX (P:=fun a (q:Nat×BKind)=>(a,q)∈tabL) (fun q hq=>hq) hl
 obtain⟨fd,h1,h2,h3,h4⟩:=aRc X g ho (a,p) key
 have ok:=and2 (List.all_eq_true.mp aNe _ key)
 have ok2:=and2 ok.1
 have ok3:=and2 ok2.1
 subst e
 refine⟨fd,h1,h3,aSk p.2 X (of_decide_eq_true ok3.1) (h3▸ok3.2) ok2.2 h2 h4,fun F=>?_⟩
 refine fun hF=>ifS (c:=(a == 212)=true) hF fun ha hF=>?_
 rw [← Option.some.inj hF]
 have hi:p.1=34:=((Bool.or_eq_true _ _).mp ok.2).elim (fun q=>absurd ((no q).symm.trans ha) Bool.false_ne_true) eq_of_beq
 show HForm oY.1 (fBody (fnAt p.1))
 rw [hi]
 exact oY.2
end Mine
end
section -- K3
open PySem PyProof.Rows PySem.SeqAt PySem.W
namespace Mine
section
variable {K:Frag} {H:Heap} {pr:Program} {loose:List Str} {mg mb:Str→Option Value} {prog:Program} {w:World}
theorem aUj (X:K.In H) (g:GoodK K) (ho:obsT K=valT) (T:TopRead pr loose mg mb H) (k:Nat):FnOk prog w (GT k) H (11+k) :=
 yE (fun k fr=>xP (wU k) X g T) (aTc X g ho) (yO X g T) (by decide) (qV X g) k
theorem aRv (X:K.In H) (g:GoodK K) (ho:obsT K=valT):∃ fd,FnAt H 236 fd (fBody (fnAt 38))∧fd.scope=fScope (fnAt 38)∧∀ v,bindArgs fd ⟨[v],[]⟩=pure ((["script"]:List Str).zip [v]):=by
 obtain⟨fd,h1,h2,h3,h4⟩:=aRc X g ho (236,38,.pos ["script"]) (List.mem_of_getElem? (i:=23) rfl)
 exact⟨fd,h1,h3,fun v=>vZ fd (by rw [h2]; kernel_rfl) (eq_of_beq h4) rfl (by decide +kernel)⟩
end
section
variable {M:Model} {A:Around} {E:Value→Shared→Prop} {s:Shared}
theorem zL {scope:Scope} {globals:Addr} {n:Str} {v:Value} {qual:Str} {func:Option Addr} {code:Value} {builtins:Addr} {Q:Env→Shared→Prop} (hk:scope.kind=.function) (hl:scope.names.lookup n=some .local)
  (hQ:∀ env,env=newEnv scope s.heap.objs.size globals (cellsFrom (s.heap.objs.size+1) scope.names []) qual func code none builtins →
   ∀ s',InCallC s env.locals (bindL env.kindOf [(n,v)] fun _=>none) env.cells (bindC env.kindOf [(n,v)] fun _=>none) s'→s'.toks=s.toks+1→Q env s') :
  wpAny M A (newFunctionEnv scope globals [] [(n,v)] qual func code none builtins) Q E s:=by
 simp only [newFunctionEnv,Option.isSome_none,Bool.false_eq_true,if_false]
 refine wpAny_bind (wpAny_alloc ?_)
 refine wpAny_bind (wpAny_layCells _ (fun name kind cells=>by cases hkc:kind == NameKind.cell <;> simp [hkc]) _ _ _ _ ?_)
 have ok:=cellsFrom_ok scope.names (s.heap.push { cls:=.type "frame",data:=.dict #[] }) (s.heap.objs.size+1) [] ⟨fun _ _ hm=>(nomatch hm),List.Pairwise.nil⟩ (by rw [Heap.size_push]; exact Nat.le_refl _)
 rw [Heap.size_push] at ok
 rw [show ({ s with heap:=s.heap.push { cls:=.type "frame",data:=.dict #[] } }:Shared).heap.objs.size=s.heap.objs.size+1 from Heap.size_push ..]
 have x₀:InCallC s (newEnv scope s.heap.objs.size globals (cellsFrom (s.heap.objs.size+1) scope.names []) qual func code none builtins).locals (fun _=>none) (newEnv scope s.heap.objs.size globals (cellsFrom (s.heap.objs.size+1) scope.names []) qual func code none builtins).cells (fun _=>none)
   { s with heap:=pushCells (s.heap.push { cls:=.type "frame",data:=.dict #[] }) scope.names } :=
  ⟨⟨⟨_,_,rfl⟩,(Heap.Ns.new s.heap (.type "frame")).keeps (pushCells_keeps _ _),fun b o e=>pushCells_keeps _ _ b o (Heap.get?_push_of_some _ e),Nat.le_refl _⟩,
   fun n c hc=>(ok.empty n c (mem_of_lookup hc)).1,ok.apart,fun n c hm=>(ok.empty n c hm).2⟩
 rw [List.forIn_cons]
 have hl':(newEnv scope s.heap.objs.size globals (cellsFrom (s.heap.objs.size+1) scope.names []) qual func code none builtins).kindOf n=some .local:=hl
 have hp':((newEnv scope s.heap.objs.size globals (cellsFrom (s.heap.objs.size+1) scope.names []) qual func code none builtins).scope.kind == .class || ((newEnv scope s.heap.objs.size globals (cellsFrom (s.heap.objs.size+1) scope.names []) qual func code none builtins).scope.kind == .module&&(newEnv scope s.heap.objs.size globals (cellsFrom (s.heap.objs.size+1) scope.names []) qual func code none builtins).locals != (newEnv scope s.heap.objs.size globals (cellsFrom (s.heap.objs.size+1) scope.names []) qual func code none builtins).globals))=false:=by
  have hk':(newEnv scope s.heap.objs.size globals (cellsFrom (s.heap.objs.size+1) scope.names []) qual func code none builtins).scope.kind=.function:=hk
  rw [hk']; rfl
 refine wpAny_bind (wpAny_bind (wpAny_bind (wpAny_storeName_local hl' x₀.toInCall.ns (fun h' hn' hs'=>?_) hp')))
 refine wpAny_pure ?_
 dsimp only
 rw [List.forIn_nil]
 refine wpAny_pure (wpAny_pure (hQ _ rfl _ ?_ rfl))
 have hb:bindL (newEnv scope s.heap.objs.size globals (cellsFrom (s.heap.objs.size+1) scope.names []) qual func code none builtins).kindOf [(n,v)] (fun _=>none)=(fun y=>if y=n then some v else none):=by
  simp only [bindL,hl',if_true]
 have hc:bindC (newEnv scope s.heap.objs.size globals (cellsFrom (s.heap.objs.size+1) scope.names []) qual func code none builtins).kindOf [(n,v)] (fun _=>none)=(fun _=>none):=by
  simp only [bindC,hl',if_true]
 rw [hb,hc]
 refine⟨⟨?_,hn',fun b o e=>?_,x₀.toInCall.fresh⟩,fun k c hk=>?_,x₀.apart,x₀.above⟩
 ·exact⟨h',_,rfl⟩
 ·exact hs'.extBut b o (Nat.ne_of_lt (Nat.lt_of_lt_of_le (Heap.lt_size e) x₀.toInCall.fresh)) (x₀.toInCall.keep b o e)
 ·exact (x₀.cell k c hk).sameBut hs' (Nat.ne_of_gt (x₀.above k c (mem_of_lookup hk)))
end
section
variable {K:Frag} {H:Heap} {pr:Program} {loose:List Str} {mg mb:Str→Option Value} {prog:Program} {w:World} {A:Around} {s:Shared} {k:Nat} {st':Store}
theorem rH {h:Heap}:∀ {vs:List Value} {ns:List Int},IntsAre vs ns→Reps [] h (ns.map .int) vs
 | _,_,.nil=>Reps.nil
 | _,_,.cons n t r=>Reps.cons (by rw [Rep]; exact⟨t,rfl⟩) (rH r)
theorem aIz {a:Addr} {vs:List Value} {ns:List Int} (X:K.In s.heap) (g:GoodK K) (ho:obsT K=valT) (T:TopRead pr loose mg mb s.heap) (hf:A.frames=some []) (ar:AOk (11+k+1) A) (hl:s.heap.IsList a vs.toArray) (hi:IntsAre vs ns)
  (e:runF (GT k) (fScope (fnAt 38)) (fBody (fnAt 38)) [("script",.list (ns.map .int))] []=some (.ret (.bool true),st'))
  (Q:Value→Shared→Prop) (E:Value→Shared→Prop) (hQ:∀ s',(∀ b o,s.heap.get? b=some o→s'.heap.get? b=some o)→s'.os=s.os→s'.gens=s.gens→Q (.bool true) s') :
  wpAny (model prog w) A (call (.ref 236) [.ref a]) Q E s:=by
 obtain⟨fd,F,hsc,fv⟩:=aRv X g ho
 obtain⟨ob,hob,hdata⟩:=F.fn
 refine wpAny_call (codeAny_call_function ar.room hob hdata F.co F.gen F.body F.code ?_)
 rw [fv (.ref a),F.clo]
 refine wpAny_pure ?_
 have hzip:(["script"]:List Str).zip [Value.ref a]=[(("script":Str),Value.ref a)]:=rfl
 rw [hzip]
 have hkl:fd.scope.names.lookup ("script":Str)=some .local:=by
  rw [hsc]
  kernel_rfl
 refine aM (zL F.kind hkl fun env he s₁ x htk ht hz=>?_)
 -- one token on, the ground stands
 have r₀:SR ⟨s.heap,[]⟩ [] [] { s with toks:=s.toks+1 }:=⟨fun _ _ e=>e,fun _ h=>(by cases h),by simp,rfl,fun c l h=>(by simp [look] at h),fun c l h=>(by simp [look] at h),Nat.succ_pos _,fun _ h=>(by cases h),fun _ _ _ h=>(by exact nn h),fun _ h=>(by cases h)⟩
 have pb:RepK [] s.heap [(("script":Str),D.list (ns.map .int))] [(("script":Str),Value.ref a)]:=by
  refine⟨rfl,?_⟩
  simp only [List.map_cons,List.map_nil]
  refine Reps.cons ?_ Reps.nil
  rw [Rep]
  exact⟨a,vs,rfl,List.not_mem_nil,hl,rH hi⟩
 have x':InCallC { s with toks:=s.toks+1 } env.locals (bindL env.kindOf [("script",.ref a)] fun _=>none) env.cells (bindC env.kindOf [("script",.ref a)] fun _=>none) s₁:=by
  obtain⟨⟨⟨h,tk,q⟩,q2,q3,q4⟩,q5,q6,q7⟩:=x
  exact⟨⟨⟨h,tk,q⟩,q2,q3,q4⟩,q5,q6,q7⟩
 subst he
 obtain⟨E₁,X₁,r₁,v₁⟩:=xO (base:=⟨s.heap,[]⟩) (a:=236) (s:={ s with toks:=s.toks+1 }) F r₀ pb (by simp) (fun q hq=>by
  rw [List.mem_singleton.mp hq]
  rw [hsc]
  kernel_rfl) x' hz (Nat.le_of_eq htk.symm)
 refine⟨vJ T.nolimit fun b o e=>r₁.keep b o e,codeAny_func ?_⟩
 have fs':FrOk ⟨s.heap,[s.heap.objs.size]⟩ (A.deeper (callEnvC fd s.heap.objs.size 236)):=FrOk.push ⟨[],hf,fun _ h=>(by cases h)⟩ F.kind rfl
 have O:=iZ (mg:=mg) (mb:=mb) (base:=⟨s.heap,[s.heap.objs.size]⟩) (prog:=prog) (w:=w) (aUj X g ho T k) (aBd _) (fun c hc=>aDq (yO X g T c (by rw [GT,rW] at hc; exact hc))) (by lia) 24
 unfold runF at e
 rw [← hsc] at e
 refine bF (o:=exs (ops (GT k) 24) ⟨fd.scope.names,fd.scope.names⟩ [("script",.list (ns.map .int))] (fBody (fnAt 38)) []) e fun f y hx e=>?_
 have fin:∀ {d:D} {v:Value} {s':Shared} {ms':List Addr},Ext (Wr (callEnvC fd s.heap.objs.size 236) (ownF fd s.heap.objs.size)) s₁ [] s' ms'→SR ⟨s.heap,[s.heap.objs.size]⟩ ms' y.2 s'→Rep ms' s'.heap d v →
   (aL 0 y.2 d).map (fun q=>(Res.ret q.1,q.2))=some (.ret (.bool true),st')→Q v s':=fun {d v s' ms'} x' r' pv hb=>mE hb fun q hb hq=>by
  obtain⟨_,pv'⟩:=iN r' pv (Nat.zero_le _) hb
  rw [Res.ret.inj (congrArg Prod.fst hq)] at pv'
  subst pv'
  obtain⟨h₁,tk₁,hs₁⟩:=x.toInCall.same
  refine hQ s' r'.keepx ?_ ?_
  ·rw [x'.os,hs₁]
  ·rw [x'.gens,hs₁]
 refine fR O.ex ⟨(xP (wU k) X g T),E₁,ar.deeper _,fs'⟩ _ r₁ v₁ hx _ _ (fun fl s' ms' x' r' v' hf=>?_) fun c d hc=>?_
 ·induction f with
  | next=>subst hf; exact fin x' r' (kQ _) e
  | ret d=>obtain⟨u,rfl,p⟩:=hf; exact fin x' r' p e
  | exc=>exact hf.elim
  | _=>exact nn e
 ·subst hc
  exact mE (o:=aL 0 y.2 d) e fun a _ q=>nomatch congrArg Prod.fst q
end
set_option maxHeartbeats 4000000 in
set_option tactic.hygienic true in
theorem law_holds (h:∀ ns:List Int,ns.length≤63→∃ k st',k≤60∧runF (GT k) (fScope (fnAt 38)) (fBody (fnAt 38)) [("script",.list (ns.map .int))] []=some (.ret (.bool true),st')):PySem.Challenge.rw_oy0126_01.Holds:=by
 refine holds_law said fun said=>?_
 refine holds_open (q:=vw) (loose:=aJr) (Xt:=fun s=>xlAt vw [] s&&recOk PySem.Challenge.rw_oy0126_01.row.records s) (XP:=XL vw []) (Yf:=hook.obs) (Ya:=hook.val) (YP:=hook.says) (N:=3600) left hook.of hook.keeps
  (fun s e=>xl_of s (Bool.and_eq_true_iff.mp e).1) XL.keeps (by rfl) (by rfl) (by rfl) (fun s e=>recFacts_of (Bool.and_eq_true_iff.mp e).2) (by rfl) said (by decide +kernel) ⟨rfl,rfl,rfl,rfl,rfl,by decide +kernel⟩ ?hw ?hc
 case hw=>w_witness2
 intro w s₀ s₁ mg mb G Y fa o pm cd doc dV kV ho hdd hcd hD hmg hg args vals as hpre hlay hrd hwl hlo
 obtain⟨K,KX,hgood,hobs⟩:=Y
 have g:=aUq hgood
 refine Ground.open G ?_
 intro T B D TE TW
 try (refine guard_noD D (by decide +kernel) ?_; clear D)
 have TR:=topRead_of T
 have hfa:fa=236:=by
  have h1:=mg_of KX TR.g g.law
  have h2:mg ("law":Str)=some (.ref fa):=hmg
  exact (Value.ref.inj (Option.some.inj (h1.symm.trans h2))).symm
 subst hfa
 clear hdd hcd hD hmg ho
 wrow_args hpre hlay hrd hwl hlo
 rename_i ns _ _ _ _ _ _ _ al vs _ hIL _ _ _ hII _ hle _
 obtain⟨k,st',hk,hrun⟩:=h ns (by omega)
 refine aIz (A:=callerA) KX g hobs TR rfl ⟨rfl,?_,?_⟩ hIL hII hrun _ _ fun s' hkeep hos hgens=>?_
 ·refine (?_:301+(11+k+1) < 900)
  lia
 ·refine (?_:4+10 * (11+k+1) < 9000)
  lia
 ·refine⟨.inl ⟨.bool true,.bool true,[],rfl,fun cls=>rfl,.bool true,by kernel_rfl,fun _=>⟨List.nodup_nil,fun a ha=>by cases ha⟩⟩,OldK.of_keep hkeep,hos,.of_eq (hgens.trans hg)⟩
end Mine
end
section -- R1
open PySem
namespace Mine
section
variable {G:Gx} {n:Nat} {o:Ops} {cx:Cx} {vars vars':Vars} {st st' st₂:Store} {R:Option (FD×Vars×Store)}
theorem bN {α β:Type} {o:Option α} {f:α→Option β} (h:o=none):o.bind f=none:=h▸rfl
theorem exs_one {s:Stmt} {r:List Stmt} (h:o.ex cx vars s st=some (.next,vars',st')) (h2:exs o cx vars' r st'=R):exs o cx vars (s::r) st=R:=bI h h2
theorem aE {s:Stmt} {r:List Stmt} {d:D} (h:o.ex cx vars s st=some (.ret d,vars',st')):exs o cx vars (s::r) st=some (.ret d,vars',st'):=bI h rfl
theorem dT {s:Stmt} {r:List Stmt} (h:o.ex cx vars s st=some (.cont,vars',st')):exs o cx vars (s::r) st=some (.cont,vars',st'):=bI h rfl
theorem hV {s:Stmt} {r:List Stmt} (h:o.ex cx vars s st=some (.brk,vars',st')):exs o cx vars (s::r) st=some (.brk,vars',st'):=bI h rfl
theorem aH {t:Expr} {a b:List Stmt} {p:Pos} (h:(ops G n).tr cx vars t st=some (true,st')) (h2:exs (ops G n) cx vars a st'=R):(ops G (n+1)).ex cx vars (.If t a b p) st=R:=bI h h2
theorem ex_if_f {t:Expr} {a b:List Stmt} {p:Pos} (h:(ops G n).tr cx vars t st=some (false,st')) (h2:exs (ops G n) cx vars b st'=R):(ops G (n+1)).ex cx vars (.If t a b p) st=R:=bI h h2
theorem aP {e:Expr} {p:Pos} {d:D} (h:(ops G n).ev cx vars e st=some (d,st')):(ops G (n+1)).ex cx vars (.Return (some e) p) st=some (.ret d,vars,st'):=bI h rfl
theorem aD {l r:Expr} {op:Operator} {p:Pos} {a b d:D} (h1:(ops G n).ev cx vars l st=some (a,st')) (h2:(ops G n).ev cx vars r st'=some (b,st₂)) (h3:binop op a b=some d):(ops G (n+1)).ev cx vars (.BinOp l op r p) st=some (d,st₂):=bI h1 (bI h2 (bI h3 rfl))
theorem aVt {x:Str} {p:Pos} {d:D} (h:(ops G (n+1)).ev cx vars (.Name x p) st=some (d,st)):(ops G (n+1)).ev cx vars (.Name x p) st=some (d,st):=h
theorem tr_cmp {l r:Expr} {op:CmpOp} {p:Pos} {a b:D} {c:Bool} (h1:(ops G n).ev cx vars l st=some (a,st')) (h2:(ops G n).ev cx vars r st'=some (b,st₂)) (h3:cmpop st₂ op a b=some c):(ops G (n+1)).tr cx vars (.Compare l [op] [r] p) st=some (c,st₂):=bI h1 (bI h2 (bI h3 rfl))
theorem uH {l m r:Expr} {op op':CmpOp} {p:Pos} {a b d:D} {c c':Bool} (h1:(ops G n).ev cx vars l st=some (a,st)) (h2:(ops G n).ev cx vars m st=some (b,st)) (h3:cmpop st op a b=some c) (h4:(ops G n).ev cx vars r st=some (d,st)) (h5:cmpop st op' b d=some c') :
  (ops G (n+1)).tr cx vars (.Compare l [op,op'] [m,r] p) st=some (c&&c',st):=by
 show ((ops G n).ev cx vars l st).bind _=_
 rw [h1]
 show ((ops G n).ev cx vars m st).bind _=_
 rw [h2]
 show (cmpop st op a b).bind _=_
 rw [h3]
 induction c with
 | false=>rfl
 | true =>
  show ((ops G n).ev cx vars r st).bind _=_
  exact bI h4 (bI h5 rfl)
end
section
variable {st:Store} {a b:Int}
theorem le_t (h:a≤b):cmpop st .LtE (.int a) (.int b)=some true:=congrArg some (decide_eq_true h)
theorem le_f (h:b < a):cmpop st .LtE (.int a) (.int b)=some false:=congrArg some (decide_eq_false (Int.not_le.mpr h))
theorem eq_t (h:a=b):cmpop st .Eq (.int a) (.int b)=some true:=by subst h; exact congrArg some (beq_self_eq_true _)
theorem eq_f (h:a≠b):cmpop st .Eq (.int a) (.int b)=some false:=congrArg some (beq_eq_false_iff_ne.mpr h)
end
section
variable {G:Gx} {n:Nat} {o:Ops} {cx:Cx} {vars vars' vars₂:Vars} {st st' st₂ st₃:Store} {R:Option (FD×Vars×Store)}
/-! expressions -/
theorem ev_idx {v i:Expr} {p:Pos} {d j r:D} (hs:qG i=none) (h1:(ops G n).ev cx vars v st=some (d,st')) (h2:(ops G n).ev cx vars i st'=some (j,st₂)) (h3:index st₂ d j=some r):(ops G (n+1)).ev cx vars (.Subscript v i p) st=some (r,st₂):=by
 show stepEv G (ops G n) cx vars (.Subscript v i p) st=_
 unfold stepEv
 dsimp only
 rw [hs]
 exact bI h1 (bI h2 (bI h3 rfl))
theorem fH {v:Expr} {lo hi:Option Expr} {p q:Pos} {d r:D} {a b:Option Int} (h1:(ops G n).ev cx vars v st=some (d,st')) (h2:optI (ops G n) cx vars lo st'=some (a,st₂)) (h3:optI (ops G n) cx vars hi st₂=some (b,st₃)) (h4:slice d a b=some r) :
  (ops G (n+1)).ev cx vars (.Subscript v (.Slice lo hi none q) p) st=some (r,st₃):=bI h1 (bI h2 (bI h3 (bI h4 rfl)))
theorem bX {es:List Expr} {p:Pos} {ds:List D} (h1:evs (ops G n) cx vars es st=some (ds,st')) (h2:(noCells ds&&fits ds.length)=true):(ops G (n+1)).ev cx vars (.List es p) st=some (.list ds,st'):=bI h1 (if_pos h2)
theorem qL {es:List Expr} {k:Nat} {p:Pos} {ds:List D} (h1:evs (ops G n) cx vars es st=some (ds,st')) (h2:fits ds.length=true):(ops G (n+1)).ev cx vars (.Tuple es k p) st=some (.tuple ds,st'):=bI h1 (if_pos h2)
theorem aSc {x:Expr} {p:Pos} {i:Int} (h:(ops G n).ev cx vars x st=some (.int i,st')):(ops G (n+1)).ev cx vars (.UnaryOp .USub x p) st=some (.int (-i),st'):=by
 show negD ((ops G n).ev cx vars x st)=_
 rw [h]; rfl
theorem aCc {t a b:Expr} {p:Pos} {r:Option (D×Store)} (h:(ops G n).tr cx vars t st=some (true,st')) (h2:(ops G n).ev cx vars a st'=r):(ops G (n+1)).ev cx vars (.IfExp t a b p) st=r:=bI h h2
theorem aDe {t a b:Expr} {p:Pos} {r:Option (D×Store)} (h:(ops G n).tr cx vars t st=some (false,st')) (h2:(ops G n).ev cx vars b st'=r):(ops G (n+1)).ev cx vars (.IfExp t a b p) st=r:=bI h h2
theorem uD {f:Expr} {args:List Expr} {ks:List Keyword} {p:Pos} (ha:nL f=none):(ops G (n+1)).ev cx vars (.Call f args ks p) st=((ops G n).ev cx vars f st).bind fun q=>(evs (ops G n) cx vars args q.2).bind fun q'=>(kws (ops G n) cx vars ks q'.2).bind fun k=>sW G q.1 q'.1 k.1 k.2:=by
 show stepEv G (ops G n) cx vars (.Call f args ks p) st=_
 unfold stepEv
 dsimp only
 rw [ha]
 rfl
theorem aX {f:Expr} {args:List Expr} {ks:List Keyword} {p:Pos} {a:Nat} {ds:List D} {kd:List (Str×D)} {d:D} {st₄:Store} (ha:nL f=none) (h1:(ops G n).ev cx vars f st=some (.obj a,st')) (h2:evs (ops G n) cx vars args st'=some (ds,st₂)) (h3:kws (ops G n) cx vars ks st₂=some (kd,st₃))
  (h4:G.fn a ds kd st₃=some (.ret d,st₄)):(ops G (n+1)).ev cx vars (.Call f args ks p) st=some (d,st₄):=(uD ha).trans (bI h1 (bI h2 (bI h3 (bI h4 rfl))))
theorem ev_blt {f:Expr} {args:List Expr} {p:Pos} {fd:D} {ds:List D} {d:D} (ha:nL f=none) (h1:(ops G n).ev cx vars f st=some (fd,st')) (h2:evs (ops G n) cx vars args st'=some (ds,st₂)) (hf:objD fd=none)
  (h4:bcall st₂ fd ds=some d):(ops G (n+1)).ev cx vars (.Call f args [] p) st=some (d,st₂):=by
 refine (uD ha).trans (bI h1 (bI h2 ?_))
 show sW G fd ds [] st₂=_
 unfold sW
 rw [hf]
 exact congrArg (Option.map _) h4
theorem ev_meth {v:Expr} {name:Str} {ap p:Pos} {args:List Expr} {d r:D} {ds:List D} (hk:dA v args ap p=true) (hr:dU name args=none) (h1:(ops G n).ev cx vars v st=some (d,st')) (hc:mA st' d=true) (h2:evs (ops G n) cx vars args st'=some (ds,st₂)) (h3:fZ name d ds st₂=some (r,st₃)) :
  (ops G (n+1)).ev cx vars (.Call (.Attribute v name ap) args [] p) st=some (r,st₃):=by
 show (if dA v args ap p then _ else none)=_
 rw [if_pos hk,hr]
 show ((ops G n).ev cx vars v st).bind _=_
 rw [h1]
 show (if mA st' d then _ else none)=_
 rw [if_pos hc]
 exact bI h2 h3
theorem aA {e:Expr} {r:List Expr} {d:D} {ds:List D} (hs:isStar e=false) (h1:o.ev cx vars e st=some (d,st')) (h2:evs o cx vars r st'=some (ds,st₂)):evs o cx vars (e::r) st=some (d::ds,st₂):=by
 refine (if_neg (fun q=>Bool.false_ne_true (hs.symm.trans q))).trans ?_
 refine (congrArg (Option.bind · _) h1).trans ?_
 exact congrArg (Option.bind · _) h2
theorem tK {x:Expr} {p:Pos} {b:Bool} (h:(ops G n).tr cx vars x st=some (b,st')):(ops G (n+1)).tr cx vars (.UnaryOp .Not x p) st=some (!b,st'):=bI h rfl
theorem gE {e:Expr} {r:List Expr} (h:o.tr cx vars e st=some (false,st')):allT o cx vars .And (e::r) st=some (false,st'):=bI h rfl
theorem jN {e:Expr} {r:List Expr} {R:Option (Bool×Store)} (h:o.tr cx vars e st=some (true,st')) (h2:allT o cx vars .And r st'=R):allT o cx vars .And (e::r) st=R:=bI h h2
theorem or_t {e:Expr} {r:List Expr} (h:o.tr cx vars e st=some (true,st')):allT o cx vars .Or (e::r) st=some (true,st'):=bI h rfl
theorem or_f {e:Expr} {r:List Expr} {R:Option (Bool×Store)} (h:o.tr cx vars e st=some (false,st')) (h2:allT o cx vars .Or r st'=R):allT o cx vars .Or (e::r) st=R:=bI h h2
theorem bD {e:Expr} {d:D} {b:Bool} (h:(ops G n).ev cx vars e st=some (d,st')) (h2:truth st' d=some b):nW (ops G n) cx vars e st=some (b,st'):=bI h (bI h2 rfl)
/-! statements -/
theorem aC {t e:Expr} {p:Pos} {d:D} (hk:jG cx t e p.line=some none) (h1:evA G (ops G n) cx vars e st=some (d,st')) (h2:(ops G n).asg cx vars t d st'=some (vars',st₂)):(ops G (n+1)).ex cx vars (.Assign [t] e p) st=some (.next,vars',st₂):=by
 show dO G (ops G n) cx vars t e p.line st=_
 unfold dO
 rw [hk]
 exact bI h1 (bI h2 rfl)
theorem jH {v i:Expr} {p:Pos} {c j d:D} (h1:(ops G n).ev cx vars v st=some (c,st')) (h2:(ops G n).ev cx vars i st'=some (j,st₂)) (h3:aIm vars c j d st₂=some (vars',st₃)):(ops G (n+1)).asg cx vars (.Subscript v i p) d st=some (vars',st₃):=bI h1 (bI h2 h3)
theorem cY {e:Expr} {p:Pos} {d:D} (hc:uC e=true) (h:(ops G n).ev cx vars e st=some (d,st')):(ops G (n+1)).ex cx vars (.Expr e p) st=some (.next,vars,st'):=by
 show (if uC e then _ else none)=_
 rw [if_pos hc]
 exact bI h rfl
theorem tL {t it:Expr} {b:List Stmt} {p:Pos} {src:D} {ds:List D} (hc:wW it=none) (h1:(ops G n).ev cx vars it st=some (src,st')) (h2:drawn src=some ds) (h3:forGo (ops G n) cx t b ds vars st'=R):(ops G (n+1)).ex cx vars (.For t it b [] p) st=R:=by
 show hM (ops G n) cx vars t it b st=R
 unfold hM
 rw [hc]
 exact bI h1 (bI h2 h3)
theorem fD {t:Expr} {b:List Stmt} {p:Pos} (h:whileGo (ops G n) cx t b turns vars st=R):(ops G (n+1)).ex cx vars (.While t b [] p) st=R:=h
theorem tG {t:Expr} {m:Option Expr} {p:Pos} (h:(ops G n).tr cx vars t st=some (true,st')):(ops G (n+1)).ex cx vars (.Assert t m p) st=some (.next,vars,st'):=bI h rfl
theorem lJ {t:Expr} {b:List Stmt} {d:D} {ds:List D} (h1:o.asg cx vars t d st=some (vars',st')) (h2:exs o cx vars' b st'=some (.next,vars₂,st₂)) (h3:forGo o cx t b ds vars₂ st₂=R):forGo o cx t b (d::ds) vars st=R:=bI h1 (bI h2 h3)
theorem aJi {t:Expr} {b:List Stmt} {d:D} {ds:List D} (h1:o.asg cx vars t d st=some (vars',st')) (h2:exs o cx vars' b st'=some (.cont,vars₂,st₂)) (h3:forGo o cx t b ds vars₂ st₂=R):forGo o cx t b (d::ds) vars st=R:=bI h1 (bI h2 h3)
theorem fX {t:Expr} {b:List Stmt} {m:Nat} (h1:o.tr cx vars t st=some (false,st')):whileGo o cx t b (m+1) vars st=some (.next,vars,st'):=bI h1 rfl
theorem dC {t:Expr} {b:List Stmt} {m:Nat} (h1:o.tr cx vars t st=some (true,st')) (h2:exs o cx vars b st'=some (.next,vars',st₂)) (h3:whileGo o cx t b m vars' st₂=R):whileGo o cx t b (m+1) vars st=R:=bI h1 (bI h2 h3)
theorem aBi {t:Expr} {b:List Stmt} {m:Nat} (h1:o.tr cx vars t st=some (true,st')) (h2:exs o cx vars b st'=some (.cont,vars',st₂)) (h3:whileGo o cx t b m vars' st₂=R):whileGo o cx t b (m+1) vars st=R:=bI h1 (bI h2 h3)
theorem mW {t:Expr} {b:List Stmt} {m:Nat} (h1:o.tr cx vars t st=some (true,st')) (h2:exs o cx vars b st'=some (.brk,vars',st₂)):whileGo o cx t b (m+1) vars st=some (.next,vars',st₂):=bI h1 (bI h2 rfl)
/-! calls -/
theorem aK {sc:Scope} {b:List Stmt} {vd:Vars} {d d':D} (h1:exs (ops G 24) ⟨sc.names,sc.names⟩ vd b st=some (.ret d,vars',st')) (h2:aL st.length st' d=some (d',st₂)):runF G sc b vd st=some (.ret d',st₂):=by
 unfold runF
 rw [h1]
 show (aL st.length st' d).map _=_
 rw [h2]; rfl
theorem mB {sc:Scope} {b:List Stmt} {vd:Vars} {d':D} (h1:exs (ops G 24) ⟨sc.names,sc.names⟩ vd b st=some (.next,vars',st')) (h2:aL st.length st' D.none=some (d',st₂)):runF G sc b vd st=some (.ret d',st₂):=by
 unfold runF
 rw [h1]
 show (aL st.length st' D.none).map (fun p=>(Res.ret p.1,p.2))=_
 rw [h2]; rfl
theorem bK {k a:Nat} {ds:List D} {ks:List (Str×D)} {f:FDesc} {vd:Vars} {r:Res×Store} (ht:tab a=some f) (hb:f.bind ds ks=some vd) (hr:runF (GT k) f.sc f.body vd st=some r):(GT (k+1)).fn a ds ks st=some r:=by
 show (tab a).bind (fun f=>(f.bind ds ks).bind fun vd=>runD (GT k) 44 56 f vd st)=_
 rw [ht]
 show (f.bind ds ks).bind (fun vd=>runD (GT k) 44 56 f vd st)=_
 rw [hb]
 show runD (GT k) 44 56 f vd st=_
 unfold runD
 rw [hr]
theorem noCell_cellD {d:D} (h:noCell d=true):nG d=none:=by
 induction d using D.casesOn with
 | cell=>exact absurd h Bool.false_ne_true
 | _=>rfl
theorem sZ {d:D} {n:Nat} (h:nG d=none):aL n st d=if noCell d then some (d,st.take n) else none:=by unfold aL; rw [h]
theorem aG {d:D} (h:noCell d=true):aL st.length st d=some (d,st):=by
 rw [sZ (noCell_cellD h),if_pos h,List.take_length]
end
end Mine
end
section -- R2
open PySem
namespace Mine
noncomputable abbrev cxOf (i:Nat):Cx:=⟨(fScope (fnAt i)).names,(fScope (fnAt i)).names⟩
noncomputable def bval (c:Int):Int:=bif decide (65≤c)&&decide (c≤90) then c - 65 else bif decide (97≤c)&&decide (c≤122) then c - 71 else bif decide (48≤c)&&decide (c≤57) then c+4 else bif c == 43 then 62 else bif c == 47 then 63 else 64
section
variable {G:Gx} {n:Nat} {o:Ops} {cx:Cx} {vars vars' vars₂:Vars} {st st' st₂ st₃:Store} {R:Option (FD×Vars×Store)}
theorem aVx {t:Expr} {a b:List Stmt} {p:Pos} {c:Bool} (h:(ops G n).tr cx vars t st=some (c,st')) (h1:c=true→exs (ops G n) cx vars a st'=R) (h2:c=false→exs (ops G n) cx vars b st'=R):(ops G (n+1)).ex cx vars (.If t a b p) st=R:=by
 induction c with
 | true=>exact aH h (h1 rfl)
 | false=>exact ex_if_f h (h2 rfl)
theorem aRf:∀ k,(GT k).gl=glT
 | 0=>rfl
 | _+1=>rfl
theorem aB {k:Nat} {x:Str} {p:Pos} {d:D} (h0:mF x=true) (h1:cx.names.lookup x=some .globalImplicit) (h2:glT x=some d):(ops (GT k) (n+1)).ev cx vars (.Name x p) st=some (d,st):=by
 show (if mF x then (match cx.names.lookup x with
   | some .local=>(vars.lookup x).map fun d=>(d,st)
   | some .cell=>(vars.lookup x).map fun d=>(d,st)
   | some .free=>(vars.lookup x).map fun d=>(d,st)
   | some .globalImplicit=>((GT k).gl x).map fun d=>(d,st)
   | _=>none) else none)=_
 rw [if_pos h0,h1,aRf]
 show (glT x).map _=_
 rw [h2]; rfl
theorem oE {t:Expr} {a r:List Stmt} {p:Pos} {c:Bool} {d d':D} (h:(ops G n).tr cx vars t st=some (c,st)) (h1:exs (ops G n) cx vars a st=some (.ret d,vars,st)) (h2:exs (ops G (n+1)) cx vars r st=some (.ret d',vars,st)) :
  exs (ops G (n+1)) cx vars (.If t a [] p::r) st=some (.ret (bif c then d else d'),vars,st):=by
 induction c with
 | true=>exact aE (aH h h1)
 | false=>exact exs_one (ex_if_f h rfl) h2
end
theorem lB (b:Bool) (x y:Int):(bif b then D.int x else D.int y)=D.int (bif b then x else y):=by cases b <;> rfl
theorem aUi (b:Bool) (x y:Bool):(bif b then D.bool x else D.bool y)=D.bool (bif b then x else y):=by cases b <;> rfl
noncomputable def aNh (c:Int):D:=bif decide (65≤c)&&decide (c≤90) then .int (c - 65) else bif decide (97≤c)&&decide (c≤122) then .int (c - 71) else bif decide (48≤c)&&decide (c≤57) then .int (c+4) else bif c == 43 then .int 62 else bif c == 47 then .int 63 else .int 64
theorem aKz (c:Int):aNh c=.int (bval c):=by
 unfold aNh bval
 rw [lB,lB,lB,lB,lB]
theorem aSd (k:Nat) (c:Int) (st:Store):(GT (k+1)).fn 121 [.int c] [] st=some (.ret (.int (bval c)),st):=by
 have h:exs (ops (GT k) 24) (cxOf 18) ([("c",D.int c)]:Vars) (fBody (fnAt 18)) st=some (FD.ret (aNh c),([("c",D.int c)]:Vars),st) :=
  oE (n:=23) (uH (a:=.int 65) (b:=.int c) (d:=.int 90) rfl rfl rfl rfl rfl) (aE (aP rfl))
   (oE (uH (a:=.int 97) (b:=.int c) (d:=.int 122) rfl rfl rfl rfl rfl) (aE (aP rfl))
   (oE (uH (a:=.int 48) (b:=.int c) (d:=.int 57) rfl rfl rfl rfl rfl) (aE (aP rfl))
   (oE (tr_cmp (a:=.int c) (b:=.int 43) rfl rfl rfl) (aE (aP rfl))
   (oE (tr_cmp (a:=.int c) (b:=.int 47) rfl rfl rfl) (aE (aP rfl))
   (aE (aP rfl))))))
 rw [aKz] at h
 exact bK rfl rfl (aK h (aG rfl))
theorem aJg (k:Nat) (b:Bool) (st:Store):(GT (k+1)).fn 114 [.bool b] [] st=some (.ret (.bool b),st):=by
 have h:exs (ops (GT k) 24) (cxOf 16) ([("x",D.bool b)]:Vars) (fBody (fnAt 16)) st=some (FD.ret (.bool b),([("x",D.bool b),("t",.type "bool")]:Vars),st):=by
  refine exs_one (aC (n:=23) (d:=.type "bool") rfl (ev_blt (ds:=[.bool b]) rfl (aB rfl rfl rfl) rfl rfl rfl) rfl) (aE (aH (st':=st) (or_f (tr_cmp (a:=.bool b) (b:=.none) rfl rfl rfl) (or_t (tr_cmp (a:=.type "bool") (b:=.type "bool") rfl (aB rfl rfl rfl) rfl))) (aE (aP ?_))))
  induction b with
  | true=>exact aCc (bD (d:=.bool true) rfl rfl) rfl
  | false=>exact aDe (bD (d:=.bool false) rfl rfl) rfl
 exact bK rfl rfl (aK h (aG rfl))
theorem aTp (k:Nat) (l:List Nat) (st:Store):(GT (k+1)).fn 107 [.bytes l] [] st=some (.ret (.bytes l),st):=by
 have h:exs (ops (GT k) 24) (cxOf 15) ([("data",D.bytes l)]:Vars) (fBody (fnAt 15)) st=some (FD.ret (.bytes l),([("data",D.bytes l),("t",.type "bytes")]:Vars),st) :=
  exs_one (aC (n:=23) (d:=.type "bytes") rfl (ev_blt (ds:=[.bytes l]) rfl (aB rfl rfl rfl) rfl rfl rfl) rfl) (aE (aH (st':=st) (tr_cmp (a:=.type "bytes") (b:=.type "bytes") rfl (aB rfl rfl rfl) rfl) (aE (aP rfl))))
 exact bK rfl rfl (aK h (aG rfl))
theorem aSl (k:Nat) (l:List Nat) (st:Store):(GT (k+1)).fn 100 [.bytes l] [] st=some (.ret (.bytes l),st):=by
 have h:exs (ops (GT k) 24) (cxOf 14) ([("data",D.bytes l)]:Vars) (fBody (fnAt 14)) st=some (FD.ret (.bytes l),([("data",D.bytes l),("t",.type "bytes")]:Vars),st) :=
  exs_one (aC (n:=23) (d:=.type "bytes") rfl (ev_blt (ds:=[.bytes l]) rfl (aB rfl rfl rfl) rfl rfl rfl) rfl) (exs_one (ex_if_f (st':=st) (tr_cmp (a:=.type "bytes") (b:=.type "str") rfl (aB rfl rfl rfl) rfl) rfl)
   (aE (aH (st':=st) (tr_cmp (a:=.type "bytes") (b:=.type "bytes") rfl (aB rfl rfl rfl) rfl) (aE (aP rfl)))))
 exact bK rfl rfl (aK h (aG rfl))
theorem aSo (k:Nat) (l:List Nat) (st:Store):(GT (k+1)).fn 80 [.bytes l] [] st=some (.ret (.bytes l),st):=by
 have h:exs (ops (GT k) 24) (cxOf 10) ([("s",D.bytes l)]:Vars) (fBody (fnAt 10)) st=some (FD.ret (.bytes l),([("s",D.bytes l)]:Vars),st) :=
  exs_one (ex_if_f (n:=23) (st':=st) (bD (d:=.bool false) (ev_blt (ds:=[.bytes l,.type "str"]) rfl (aB rfl rfl rfl) (aA rfl rfl (aA rfl (aB rfl rfl rfl) rfl)) rfl rfl) rfl) rfl)
   (aE (aH (st':=st) (bD (d:=.bool true) (ev_blt (ds:=[.bytes l,.tuple [.type "bytes",.type "bytearray"]]) rfl (aB rfl rfl rfl) (aA rfl rfl (aA rfl (aB rfl rfl rfl) rfl)) rfl rfl) rfl) (aE (aP rfl))))
 exact bK rfl rfl (aK h (aG rfl))
theorem aTn (k:Nat) (l:List Nat) (st:Store) (h1:l.all (· < 128)=true) (h2:fits l.length=true):(GT (k+1)).fn 80 [.str l] [] st=some (.ret (.bytes l),st):=by
 have hm:meth "encode" (.str l) [.str [97,115,99,105,105]]=some (.bytes l):=by
  show (if (true&&true&&l.all (· < 128)&&fits l.length)=true then some (D.bytes l) else none)=_
  rw [h1,h2]; rfl
 have h:exs (ops (GT k) 24) (cxOf 10) ([("s",D.str l)]:Vars) (fBody (fnAt 10)) st=some (FD.ret (.bytes l),([("s",D.str l)]:Vars),st):=by
  refine aE (aH (n:=23) (st':=st) (bD (d:=.bool true) (ev_blt (ds:=[.str l,.type "str"]) rfl (aB rfl rfl rfl) (aA rfl rfl (aA rfl (aB rfl rfl rfl) rfl)) rfl rfl) rfl) (aE ?_))
  show (exs (ops (GT k) 22) (cxOf 10) _ _ st).bind quiet=_
  rw [aE (aP (ev_meth (d:=.str l) (r:=.bytes l) (st₃:=st) rfl rfl rfl rfl rfl (by show (meth "encode" (.str l) [.str [97,115,99,105,105]]).map (fun r=>(r,st))=_; rw [hm]; rfl)))]
  rfl
 exact bK rfl rfl (aK h (aG rfl))
end Mine
end
section -- R3
open PySem
namespace Mine
theorem fC {S:Store} {L:List D} (h:eT L=false):look (S++[L]) S.length=some L:=by
 unfold look
 rw [List.getElem?_append_right (Nat.le_refl _),Nat.sub_self]
 show (if eT L then none else some L)=_
 rw [h]; rfl
theorem lI {S:Store} {L L':List D}:(S++[L]).set S.length L'=S++[L']:=by
 rw [List.set_append_right _ _ (Nat.le_refl _),Nat.sub_self]; rfl
theorem take_last {S:Store} {L:List D}:(S++[L]).take S.length=S:=by
 rw [List.take_append_of_le_length (Nat.le_refl _),List.take_length]
theorem mU {L:List D} (h:noCells L=true):eT L=false:=by
 induction L using List.casesOn with
 | nil=>rfl
 | cons a as=>induction as using List.casesOn with
  | nil=>cases a <;> first | rfl | (simp [noCells,noCell] at h)
  | cons b bs=>cases a <;> first | rfl | (simp [noCells,noCell] at h)
theorem eG {a b:List D}:noCells (a++b)=(noCells a&&noCells b):=by
 induction a with
 | nil=>simp [noCells]
 | cons x xs ih=>rw [List.cons_append,noCells,noCells,ih,Bool.and_assoc]
theorem aF {n:Nat} (h:n≤1000):fits n=true:=by unfold fits; exact decide_eq_true (Nat.le_trans h (by decide))
section
variable {G:Gx} {n:Nat} {o:Ops} {cx:Cx} {vars vars' vars₂:Vars} {st st' st₂ st₃:Store}
variable {elt:Expr} {g:Comprehension} {rest:List Comprehension} {S:Store} {I:Vars→Prop} {F:D→List D}
theorem iP:∀ (ds:List D) (v:Vars) (L:List D),(∀ d∈ds,∀ v L r,I v→noCells L=true→L.length+(F d).length≤1000→∃ v',I v'∧noCells (F d)=true∧compGo o cx elt g rest S.length (d::r) v (S++[L])=compGo o cx elt g rest S.length r v' (S++[L++F d])) →
  I v→noCells L=true→L.length+(ds.flatMap F).length≤1000→∃ v',I v'∧noCells (ds.flatMap F)=true∧compGo o cx elt g rest S.length ds v (S++[L])=some (v',S++[L++ds.flatMap F])
 | [],v,L,_,hi,_,_=>⟨v,hi,rfl,by rw [compGo,List.flatMap_nil,List.append_nil]⟩
 | d::ds,v,L,hT,hi,hL,hs=>by
  rw [List.flatMap_cons,List.length_append] at hs
  obtain⟨v',hi',hF,e⟩:=hT d List.mem_cons_self v L ds hi hL (by lia)
  obtain⟨v₂,hi₂,hF₂,e₂⟩:=iP ds v' (L++F d) (fun d hd=>hT d (List.mem_cons_of_mem _ hd)) hi' (by rw [eG,hL,hF]; rfl) (by rw [List.length_append]; lia)
  refine⟨v₂,hi₂,by rw [List.flatMap_cons,eG,hF,hF₂]; rfl,?_⟩
  rw [e,e₂,List.flatMap_cons,List.append_assoc]
theorem iO {d x:D} {v v':Vars} {L r:List D} {b:Bool} (h1:o.asg cx v g.target d (S++[L])=some (v',S++[L])) (h2:ifsT o cx v' g.ifs (S++[L])=some (b,S++[L])) (h3:b=true→o.ev cx v' elt (S++[L])=some (x,S++[L])) (hx:noCell x=true) (hL:noCells L=true) (hs:L.length≤1000) :
  compGo o cx elt g [] S.length (d::r) v (S++[L])=compGo o cx elt g [] S.length r v' (S++[L++(bif b then [x] else [])]):=by
 show (o.asg cx v g.target d (S++[L])).bind _=_
 rw [h1]
 show (ifsT o cx v' g.ifs (S++[L])).bind _=_
 rw [h2]
 induction b with
 | false=>rw [cond_false,List.append_nil]; rfl
 | true =>
  show (o.ev cx v' elt (S++[L])).bind _=_
  rw [h3 rfl]
  show (look (S++[L]) S.length).bind _=_
  rw [fC (mU hL)]
  show (if noCell x&&fits L.length then compGo o cx elt g [] S.length r v' ((S++[L]).set S.length (L++[x])) else none)=_
  rw [hx,aF hs,lI]; rfl
theorem aEq {g':Comprehension} {more:List Comprehension} {d src:D} {v v' v₂:Vars} {L L' r:List D} (h1:o.asg cx v g.target d (S++[L])=some (v',S++[L])) (h2:ifsT o cx v' g.ifs (S++[L])=some (true,S++[L])) (h3:o.ev cx v' g'.iter (S++[L])=some (src,S++[L]))
  (h4:o.comp cx elt (g'::more) src v' (S++[L]) S.length=some (v₂,S++[L'])):compGo o cx elt g (g'::more) S.length (d::r) v (S++[L])=compGo o cx elt g (g'::more) S.length r v₂ (S++[L']):=by
 exact bI h1 (bI h2 (bI h3 (bI h4 rfl)))
theorem xU {sc:Scope} {gs:List Comprehension} {p:Pos} {src:D} {ds Ls:List D} {v₂:Vars} (hc:(dZ cx vars sc&&g.is_async == 0)=true) (h1:(ops G n).ev cx vars g.iter st=some (src,st')) (h2:drawn src=some ds)
  (h3:(ops G n).comp (compCx cx sc) elt (g::gs) src (bY sc vars) (st'++[[]]) st'.length=some (v₂,st'++[Ls])) (hL:noCells Ls=true):(ops G (n+1)).ev cx vars (.ListComp elt (g::gs) sc p) st=some (.list Ls,st'):=by
 show (if (dZ cx vars sc&&g.is_async == 0)=true then _ else none)=_
 rw [if_pos hc]
 show ((ops G n).ev cx vars g.iter st).bind _=_
 rw [h1]
 show (drawn src).bind _=_
 rw [h2]
 show ((ops G n).comp (compCx cx sc) elt (g::gs) src (bY sc vars) (st'++[[]]) st'.length).bind _=_
 rw [h3]
 show (look (st'++[Ls]) st'.length).bind _=_
 rw [fC (mU hL)]
 show (if noCells Ls then some (D.list Ls,(st'++[Ls]).take st'.length) else none)=_
 rw [hL,take_last]; rfl
theorem aCm {src:D} {ds:List D} {R:Option (Vars×Store)} {m:Nat} (ha:(g.is_async == 0)=true) (h:drawn src=some ds) (h2:compGo (ops G n) cx elt g rest m ds vars st=R):(ops G (n+1)).comp cx elt (g::rest) src vars st m=R:=by
 show (if (g.is_async == 0)=true then _ else none)=_
 rw [if_pos ha]
 exact bI h h2
theorem oA {sc:Scope} {p:Pos} {src:D} {ds:List D} (I:Vars→Prop) (F:D→List D) (hc:(dZ cx vars sc&&g.is_async == 0)=true) (h1:(ops G (n+1)).ev cx vars g.iter st=some (src,st')) (h2:drawn src=some ds) (hi:I (bY sc vars))
  (hT:∀ d∈ds,∀ v L r,I v→noCells L=true→L.length+(F d).length≤1000→∃ v',I v'∧noCells (F d)=true∧compGo (ops G n) (compCx cx sc) elt g rest st'.length (d::r) v (st'++[L])=compGo (ops G n) (compCx cx sc) elt g rest st'.length r v' (st'++[L++F d]))
  (hs:(ds.flatMap F).length≤1000):(ops G (n+2)).ev cx vars (.ListComp elt (g::rest) sc p) st=some (.list (ds.flatMap F),st'):=by
 obtain⟨v',_,hF,e⟩:=iP (S:=st') (I:=I) (F:=F) ds (bY sc vars) [] hT hi rfl (by simpa using hs)
 rw [List.nil_append] at e
 have ha:(g.is_async == 0)=true:=(Bool.and_eq_true_iff.mp hc).2
 exact xU hc h1 h2 (aCm ha h2 e) hF
end
end Mine
end
section -- R4
open PySem
namespace Mine
noncomputable def octN (y:Int):Nat:=(1+y.fmod 4).toNat
noncomputable def kH (y:Int) (k:Nat):Int:=((y.fdiv 4).fdiv (256 ^ k)).fmod 256
noncomputable def hH (y:Int):List Int:=(List.range (octN y)).map (kH y)
theorem sA (y:Int):0≤y.fmod 4∧y.fmod 4 < 4:=⟨Int.fmod_nonneg_of_pos _ (by decide),Int.fmod_lt_of_pos _ (by decide)⟩
theorem uG (y:Int):octN y≤4:=by have:=sA y; unfold octN; omega
theorem wN (y:Int):small (1+y.fmod 4)=true:=by
 have:=sA y
 unfold small
 rw [Bool.and_eq_true]
 exact⟨decide_eq_true (by omega),decide_eq_true (by omega)⟩
theorem lW {l:List D} {f:D→D}:l.flatMap (fun d=>[f d])=l.map f:=by
 induction l with
 | nil=>rfl
 | cons a as ih=>rw [List.flatMap_cons,ih]; rfl
noncomputable def aU (x:Int):Int:=x.fdiv 80
noncomputable def rP (x:Int):D:=.list [.int (1+x.fmod 5),.int ((x.fdiv 5).fmod 16),.int (aU x),.list ((hH (aU x)).map .int)]
theorem aFv:∀ k < 4,small ((256:Int) ^ k)=true∧((256:Int) ^ k == 0)=false:=by decide
theorem yT {b:Int} (h:small b=true):drawn (.range 0 b 1)=some ((List.range b.toNat).map fun (k:Nat)=>D.int k):=by
 show (if (true&&small b&&true)=true then some (((List.range (b - 0).toNat).map fun (k:Nat)=>(0:Int)+k).map D.int) else none)=_
 rw [h,Int.sub_zero,List.map_map]
 show some _=some _
 congr 2
 funext k
 show D.int (0+(k:Int))=D.int k
 rw [Int.zero_add]
noncomputable def octD (y:Int):D→D
 | .int j=>.int (kH y j.toNat)
 | d=>d
theorem yJ (y:Int):(((List.range (octN y)).map fun (k:Nat)=>D.int k).flatMap fun d=>[octD y d])=(hH y).map .int:=by
 rw [lW,List.map_map]
 unfold hH
 rw [List.map_map]
 exact List.map_congr_left fun k _=>rfl
theorem aCu {a b:Int} (h1:small b=true) (h2:(b == 0)=false):binop .FloorDiv (.int a) (.int b)=some (.int (a.fdiv b)):=by
 show (if (small b&&!(b == 0))=true then some (D.int (a.fdiv b)) else none)=_
 rw [h1,h2]; rfl
theorem aBz {a:Int} {j:Nat} (h2:j≤1000) (h3:small a=true):binop .Pow (.int a) (.int j)=some (.int (a ^ j)):=by
 show (if (decide ((0:Int)≤j)&&decide ((j:Int)≤1000)&&small a)=true then some (D.int (a ^ (j:Int).toNat)) else none)=_
 rw [if_pos (by rw [decide_eq_true (by exact Int.natCast_nonneg _),decide_eq_true (by exact Int.ofNat_le.mpr (by assumption)),h3]; rfl),Int.toNat_natCast]
theorem aTw (k:Nat) (x:Int) (st:Store):(GT (k+1)).fn 193 [.int x] [] st=some (.ret (rP x),st):=by
 have hb:=wN (aU x)
 have hd:drawn (.range 0 (1+(aU x).fmod 4) 1)=some ((List.range (octN (aU x))).map fun (k:Nat)=>D.int k):=yT hb
 have h:exs (ops (GT k) 24) (cxOf 31) ([("x",D.int x)]:Vars) (fBody (fnAt 31)) st=some (FD.ret (rP x),([("x",D.int x),("y",.int (aU x))]:Vars),st):=by
  refine exs_one (aC (n:=23) (d:=.int (aU x)) (st':=st) rfl (aD (a:=.int x) (b:=.int 80) rfl rfl rfl) rfl) (aE (aP (bX (aA (d:=.int (1+x.fmod 5)) rfl rfl (aA (d:=.int ((x.fdiv 5).fmod 16)) rfl rfl (aA (d:=.int (aU x)) rfl rfl (aA (d:=.list ((hH (aU x)).map .int)) rfl ?_ rfl)))) ?_)))
  ·rw [← yJ]
   refine oA (n:=20) (src:=.range 0 (1+(aU x).fmod 4) 1) (ds:=(List.range (octN (aU x))).map fun (k:Nat)=>D.int k) (fun v=>∃ t,(t=[]∨∃ j,t=([("k",j)]:Vars))∧v=([("y",D.int (aU x))]:Vars)++t) (fun d=>[octD (aU x) d])
    rfl (ev_blt (ds:=[.int (1+(aU x).fmod 4)]) rfl (aB rfl rfl rfl) (aA rfl rfl rfl) rfl ?_) hd ⟨[],.inl rfl,rfl⟩ ?_ ?_
   ·show (if small (1+(aU x).fmod 4)=true then some (D.range 0 (1+(aU x).fmod 4) 1) else none)=_
    rw [hb]; rfl
   ·intro d hd v L r ⟨t,ht,hv⟩ hL hs
    obtain⟨j,hj,rfl⟩:=List.mem_map.mp hd
    have hj4:j < 4:=Nat.lt_of_lt_of_le (List.mem_range.mp hj) (uG _)
    obtain⟨p1,p2⟩:=aFv j hj4
    subst hv
    refine⟨([("y",D.int (aU x)),("k",.int j)]:Vars),⟨_,.inr ⟨_,rfl⟩,rfl⟩,rfl,iO (b:=true) ?_ rfl (fun _=>?_) rfl hL (by exact Nat.le_of_lt (by assumption))⟩
    ·rcases ht with rfl | ⟨j',rfl⟩ <;> rfl
    ·exact aD (a:=.int (((aU x).fdiv 4).fdiv (256 ^ j))) (b:=.int 256) (aD (a:=.int ((aU x).fdiv 4)) (b:=.int (256 ^ j)) (aD (a:=.int (aU x)) (b:=.int 4) rfl rfl rfl) (aD (a:=.int 256) (b:=.int j) rfl rfl (aBz (by exact Nat.le_trans (Nat.le_of_lt (by assumption)) (by decide)) (by decide))) (aCu p1 p2)) rfl rfl
   ·rw [yJ,List.length_map]; unfold hH; rw [List.length_map,List.length_range]; have:=uG (aU x); exact Nat.le_trans (by assumption) (by decide)
  ·have h1:∀ l:List Int,noCells (l.map D.int)=true:=fun l=>by
    induction l with
    | nil=>rfl
    | cons a as ih=>rw [List.map_cons,noCells,ih]; rfl
   show ((true&&(true&&(true&&(noCells ((hH (aU x)).map .int)&&true))))&&true)=true
   rw [h1]; rfl
 refine bK rfl rfl (aK h (aG ?_))
 have h1:∀ l:List Int,noCells (l.map D.int)=true:=fun l=>by
  induction l with
  | nil=>rfl
  | cons a as ih=>rw [List.map_cons,noCells,ih]; rfl
 show ((true&&(true&&(true&&(noCells ((hH (aU x)).map .int)&&true)))))=true
 rw [h1]; rfl
end Mine
end
section -- R5
open PySem
namespace Mine
section
variable {st:Store} {c p:Nat} {l:List D}
theorem rS (h:p < l.length) (hs:l.length≤1000):place l.length (p:Int)=some p:=by
 unfold place
 rw [if_pos (by rw [decide_eq_true (by exact Int.natCast_nonneg _),decide_eq_true (by exact Int.ofNat_lt.mpr (by assumption)),decide_eq_true (by lia)]; rfl),Int.toNat_natCast]
theorem bZ {x:D} (h:look st c=some l) (hs:l.length≤1000) (hx:l[p]? = some x):index st (.cell c) (.int (p:Int))=some x:=by
 have hp:p < l.length:=(List.getElem?_eq_some_iff.mp hx).1
 show (look st c).bind _=_
 rw [h]
 show (place l.length (p:Int)).bind _=_
 rw [rS hp hs]
 exact hx
theorem gI {x:D} {vars:Vars} (h:look st c=some l) (hs:l.length≤1000) (hp:p < l.length) (hx:noCell x=true):aIm vars (.cell c) (.int (p:Int)) x st=some (vars,st.set c (l.set p x)):=by
 show (look st c).bind _=_
 rw [h]
 show (place l.length (p:Int)).bind _=_
 rw [rS hp hs]
 exact if_pos hx
theorem cG (h:look st c=some l):c < st.length:=by
 unfold look at h
 cases hc:st[c]? with
 | none=>rw [hc] at h; exact nn h
 | some x=>exact (List.getElem?_eq_some_iff.mp hc).1
theorem aOv (h:look st c=some l):st[c]? = some l:=by
 unfold look at h
 cases hc:st[c]? with
 | none=>rw [hc] at h; exact nn h
 | some x =>
  rw [hc] at h
  have h:(if eT x then none else some x)=some l:=h
  split at h
  ·exact nn h
  ·exact h
theorem bH {l':List D} (h:c < st.length) (hn:noCells l'=true):look (st.set c l') c=some l':=by
 unfold look
 rw [List.getElem?_set_self h]
 show (if eT l' then none else some l')=_
 rw [mU hn]; rfl
theorem eI (h:look st c=some l):st.set c l=st:=by
 apply List.ext_getElem?
 intro i
 by_cases hi:c=i
 ·subst hi; rw [List.getElem?_set_self (cG h),aOv h]
 ·rw [List.getElem?_set_ne hi]
theorem cM {x:D}:∀ {l:List D} {p:Nat},noCells l=true→noCell x=true→noCells (l.set p x)=true
 | [],_,_,_=>rfl
 | a::as,0,h,hx=>by
  rw [noCells,Bool.and_eq_true] at h
  rw [List.set_cons_zero,noCells,hx,h.2]; rfl
 | a::as,p+1,h,hx=>by
  rw [noCells,Bool.and_eq_true] at h
  rw [List.set_cons_succ,noCells,h.1,cM h.2 hx]; rfl
theorem bJ:∀ {l:List D} {x:D},noCells l=true→x∈l→noCell x=true
 | a::as,x,h,hx=>by
  rw [noCells,Bool.and_eq_true] at h
  rcases List.mem_cons.mp hx with rfl | hx
  ·exact h.1
  ·exact bJ h.2 hx
end
noncomputable def Cmp (l:List D):Prop:=∀ a∈l,∀ b∈l,∃ t,dlt a b=some t
theorem cF {a b:D} {t:Bool} (h:dlt a b=some t):ltD a b=t:=by
 unfold ltD; rw [h]; cases t <;> rfl
noncomputable def parent (p:Nat):Nat:=(p - 1) / 2
theorem zQ {p:Nat} (h:0 < p):((p:Int) - 1).fdiv (2 ^ 1)=(parent p:Int):=by
 unfold parent
 rw [Int.fdiv_eq_ediv_of_nonneg _ (by decide)]
 lia
noncomputable def sdn (x:D):Nat→List D→Nat→List D
 | 0,l,p=>l.set p x
 | f+1,l,p=>match l[parent p]? with
  | some y=>bif decide (0 < p)&&ltD x y then sdn x f (l.set p y) (parent p) else l.set p x
  | none=>l.set p x
end Mine
end
section -- R6
open PySem
namespace Mine
noncomputable def loopAt (i j:Nat):Expr×List Stmt:=match (fBody (fnAt i))[j]? with
 | some (.While t b _ _)=>(t,b)
 | some (.For t _ b _ _)=>(t,b)
 | _=>(.Name "" ⟨0,0,0,0⟩,[])
theorem gt_t {st:Store} {a b:Int} (h:b < a):cmpop st .Gt (.int a) (.int b)=some true:=congrArg some (decide_eq_true h)
theorem aAt {p:Nat} (h:0 < p):binop .RShift (.int ((p:Int) - 1)) (.int 1)=some (.int (parent p)):=by
 rw [← zQ h]; rfl
noncomputable def V28 (c p:Nat) (x:D) (t:Vars):Vars:=([("heap",.cell c),("startpos",.int 0),("pos",.int p),("newitem",x)]:Vars)++t
noncomputable def Tl28 (t:Vars):Prop:=t=[]∨∃ a b:D,t=([("parentpos",a),("parent",b)]:Vars)
theorem wA (k c:Nat) (x:D) (hx:noCell x=true):∀ (f p:Nat) (l:List D) (st:Store) (m:Nat) (t:Vars),p≤f→p < l.length→l.length≤1000→look st c=some l→noCells l=true→(∀ y∈l,∃ b,dlt x y=some b)→f < m→Tl28 t →
  ∃ p' t' l',whileGo (ops (GT k) 23) (cxOf 28) (loopAt 28 1).1 (loopAt 28 1).2 m (V28 c p x t) st=some (.next,V28 c p' x t',st.set c l')∧p' < l'.length∧l'.length=l.length∧noCells l'=true∧l'.set p' x=sdn x f l p
 | f,p,l,st,m+1,t,hf,hp,hs,hl,hn,hc,hm,ht=>by
  by_cases h0:0 < p
  ·have hq:parent p < l.length:=by unfold parent; lia
   obtain⟨y,hy⟩:∃ y,l[parent p]? = some y:=⟨_,List.getElem?_eq_getElem hq⟩
   have hym:y∈l:=List.mem_of_getElem? hy
   obtain⟨b,hb⟩:=hc y hym
   have hyc:=bJ hn hym
   have htr:(ops (GT k) 23).tr (cxOf 28) (V28 c p x t) (loopAt 28 1).1 st=some (true,st):=by
    refine tr_cmp (st':=st) (a:=.int p) (b:=.int 0) ?_ ?_ (gt_t (by exact Int.ofNat_lt.mpr (by assumption)))
    ·rcases ht with rfl | ⟨a,b,rfl⟩ <;> rfl
    ·rcases ht with rfl | ⟨a,b,rfl⟩ <;> rfl
   have e1:(ops (GT k) 23).ex (cxOf 28) (V28 c p x t) ((loopAt 28 1).2.getD 0 (.Pass ⟨0,0,0,0⟩)) st=some (.next,vset "parentpos" (.int (parent p)) (V28 c p x t),st):=by
    refine aC (n:=22) (st':=st) (d:=.int (parent p)) rfl (aD (st':=st) (a:=.int ((p:Int) - 1)) (b:=.int 1) (aD (st':=st) (a:=.int p) (b:=.int 1) ?_ rfl rfl) rfl (aAt h0)) rfl
    rcases ht with rfl | ⟨a,b,rfl⟩ <;> rfl
   have e2:vset "parent" y (vset "parentpos" (.int (parent p)) (V28 c p x t))=V28 c p x ([("parentpos",.int (parent p)),("parent",y)]:Vars):=by
    rcases ht with rfl | ⟨a,b,rfl⟩ <;> rfl
   have e3:(ops (GT k) 23).ex (cxOf 28) (vset "parentpos" (.int (parent p)) (V28 c p x t)) ((loopAt 28 1).2.getD 1 (.Pass ⟨0,0,0,0⟩)) st=some (.next,V28 c p x ([("parentpos",.int (parent p)),("parent",y)]:Vars),st):=by
    rw [← e2]
    refine aC (n:=22) (st':=st) (d:=y) rfl (ev_idx (st':=st) (d:=.cell c) (j:=.int (parent p)) rfl ?_ ?_ (bZ hl hs hy)) rfl
    ·rcases ht with rfl | ⟨a,b,rfl⟩ <;> rfl
    ·rcases ht with rfl | ⟨a,b,rfl⟩ <;> rfl
   induction b with
   | false =>
    refine⟨p,([("parentpos",.int (parent p)),("parent",y)]:Vars),l,?_,hp,rfl,hn,?_⟩
    ·rw [eI hl]
     exact mW htr (exs_one e1 (exs_one e3 (exs_one (ex_if_f (st':=st) (tr_cmp (st':=st) (a:=x) (b:=y) rfl rfl hb) rfl) (hV rfl))))
    ·induction f using Nat.casesOn with
     | zero=>rfl
     | succ f=>rw [sdn,hy]; dsimp only; rw [cF hb,Bool.and_false]; rfl
   | true =>
    induction f using Nat.casesOn with
    | zero=>lia
    | succ f =>
    obtain⟨p',t',l',w,q1,q2,q3,q4⟩:=wA k c x hx f (parent p) (l.set p y) (st.set c (l.set p y)) m ([("parentpos",.int (parent p)),("parent",y)]:Vars) (by unfold parent; lia) (by rw [List.length_set]; exact hq) (by rw [List.length_set]; exact hs)
     (bH (cG hl) (cM hn hyc)) (cM hn hyc) (fun z hz=>by
      rcases List.mem_or_eq_of_mem_set hz with hz | rfl
      ·exact hc z hz
      ·exact hc _ hym) (by exact Nat.lt_of_succ_lt_succ (by assumption)) (.inr ⟨_,_,rfl⟩)
    rw [List.set_set] at w
    refine⟨p',t',l',?_,q1,by rw [q2,List.length_set],q3,?_⟩
    ·refine aBi htr (exs_one e1 (exs_one e3 (dT (aH (st':=st) (tr_cmp (st':=st) (a:=x) (b:=y) rfl rfl hb) (exs_one (aC (st':=st) (d:=y) rfl rfl (jH (st':=st) (st₂:=st) (c:=.cell c) (j:=.int p) rfl rfl (gI hl hs hp hyc))) (exs_one (aC (d:=.int (parent p)) rfl rfl rfl) (dT rfl))))))) w
    ·rw [q4,sdn,hy]
     dsimp only
     rw [cF hb,decide_eq_true h0]; rfl
  ·have hp0:p=0:=by lia
   subst hp0
   refine⟨0,t,l,?_,hp,rfl,hn,?_⟩
   ·rw [eI hl]
    refine fX (tr_cmp (st':=st) (a:=.int 0) (b:=.int 0) ?_ ?_ rfl)
    ·rcases ht with rfl | ⟨a,b,rfl⟩ <;> rfl
    ·rcases ht with rfl | ⟨a,b,rfl⟩ <;> rfl
   ·induction f using Nat.casesOn with
    | zero=>rfl
    | succ f =>
     rw [sdn]
     cases l[parent 0]? with
     | none=>rfl
     | some y=>rfl
theorem gT {st:Store} {c:Nat} {l:List D} {d:D} (h:noCell d=true):aL st.length (st.set c l) d=some (d,st.set c l):=by
 have e:=aG (st:=st.set c l) h
 rwa [List.length_set] at e
theorem aMb (k c p:Nat) (x:D) (l:List D) (st:Store) (hl:look st c=some l) (hn:noCells l=true) (hs:l.length≤1000) (hx:l[p]? = some x) (hc:∀ y∈l,∃ b,dlt x y=some b) :
  (GT (k+1)).fn 181 [.cell c,.int 0,.int p] [] st=some (.ret .none,st.set c (sdn x p l p)):=by
 have hp:p < l.length:=(List.getElem?_eq_some_iff.mp hx).1
 have hxc:=bJ hn (List.mem_of_getElem? hx)
 obtain⟨p',t',l',w,q1,q2,q3,q4⟩:=wA k c x hxc p p l st turns [] (Nat.le_refl _) hp hs hl hn hc (by unfold turns; lia) (.inl rfl)
 have h:exs (ops (GT k) 24) (cxOf 28) ([("heap",.cell c),("startpos",.int 0),("pos",.int p)]:Vars) (fBody (fnAt 28)) st=some (FD.next,V28 c p' x t',st.set c (sdn x p l p)):=by
  refine exs_one (aC (n:=23) (st':=st) (d:=x) rfl (ev_idx (st':=st) (d:=.cell c) (j:=.int p) rfl rfl rfl (bZ hl hs hx)) rfl) (exs_one (fD w) (exs_one (aC (st':=st.set c l') (d:=x) rfl rfl (jH (st':=st.set c l') (st₂:=st.set c l') (c:=.cell c) (j:=.int p') rfl rfl
   (gI (bH (cG hl) q3) (by lia) q1 hxc))) ?_))
  rw [List.set_set,q4]; rfl
 exact bK rfl rfl (mB h (gT rfl))
end Mine
end
section -- R7
open PySem
namespace Mine
theorem fU {x:D} (h:noCell x=true):noCells [x]=true:=by rw [noCells,h]; rfl
theorem dJ {st:Store} {c:Nat} {l:List D} {x:D} (hl:look st c=some l) (hx:noCell x=true) (hs:l.length≤1000):fZ "append" (.cell c) [x] st=some (.none,st.set c (l++[x])):=by
 show (look st c).bind _=_
 rw [hl]
 show (if ((("append":Str) == ("append":Str))&&noCell x&&fits l.length)=true then some (D.none,st.set c (l++[x])) else none)=_
 rw [hx,aF hs]; rfl
theorem wT {st:Store} {c:Nat} {l:List D} (hl:look st c=some l) (hs:l.length≤1000):bcall st (.builtin "len") [.cell c]=some (.int (l.length:Nat)):=by
 show (look st c).bind (fun l=>lenD l.length)=_
 rw [hl]
 show (if fits l.length then some (D.int l.length) else none)=_
 rw [aF hs]; rfl
theorem aDj {m:Nat}:binop .Sub (.int ((m+1:Nat):Int)) (.int 1)=some (.int (m:Int)):=by
 show some (D.int (((m+1:Nat):Int) - 1))=_
 congr 2
 lia
theorem aRw (k c:Nat) (x:D) (l:List D) (st:Store) (hl:look st c=some l) (hn:noCells l=true) (hs:l.length < 1000) (hx:noCell x=true) (hc:∀ y∈l++[x],∃ b,dlt x y=some b) :
  (GT (k+2)).fn 160 [.cell c,x] [] st=some (.ret .none,st.set c (sdn x l.length (l++[x]) l.length)):=by
 have hn':noCells (l++[x])=true:=by rw [eG,hn,fU hx]; rfl
 have hl':look (st.set c (l++[x])) c=some (l++[x]):=bH (cG hl) hn'
 have hlen:(l++[x]).length=l.length+1:=by rw [List.length_append]; rfl
 have h181:=aMb k c l.length x (l++[x]) (st.set c (l++[x])) hl' hn' (by lia) (by rw [List.getElem?_append_right (Nat.le_refl _),Nat.sub_self]; rfl) hc
 rw [List.set_set] at h181
 have h:exs (ops (GT (k+1)) 24) (cxOf 25) ([("heap",.cell c),("item",x)]:Vars) (fBody (fnAt 25)) st=some (FD.next,([("heap",.cell c),("item",x)]:Vars),st.set c (sdn x l.length (l++[x]) l.length)):=by
  refine exs_one (cY (n:=23) (d:=.none) (st':=st.set c (l++[x])) rfl (ev_meth (st':=st) (st₂:=st) (d:=.cell c) (ds:=[x]) rfl rfl rfl (by show (look st c).isSome=true; rw [hl]; rfl) rfl (dJ hl hx (by exact Nat.le_of_lt (by assumption))))) (exs_one (cY (d:=.none) rfl (aX (a:=181) (ds:=[.cell c,.int 0,.int (l.length:Int)]) (kd:=[]) rfl (aB rfl rfl rfl) ?_ rfl h181)) rfl)
  refine aA rfl rfl (aA rfl rfl (aA rfl (aD (st':=st.set c (l++[x])) (a:=.int ((l.length+1:Nat):Int)) (b:=.int 1) (ev_blt (fd:=.builtin "len") (ds:=[.cell c]) rfl (aB rfl rfl rfl) (aA rfl rfl rfl) rfl ?_) rfl aDj) rfl))
  rw [← hlen]
  exact wT hl' (by lia)
 exact bK rfl rfl (mB h (gT rfl))
end Mine
end
section -- R8
open PySem
namespace Mine
theorem gP {p:Nat} (h:p≤1000):small (p:Int)=true:=by
 unfold small
 rw [Bool.and_eq_true]
 exact⟨decide_eq_true (by exact Int.natCast_nonneg _),decide_eq_true (by lia)⟩
theorem aDf {a b:Int} (h:(small a&&small b)=true):binop .Mult (.int a) (.int b)=some (.int (a * b)):=if_pos h
theorem aOy {p:Nat} (h:p≤1000):binop .Mult (.int 2) (.int (p:Int))=some (.int (2 * (p:Int))):=aDf (by rw [gP h]; rfl)
theorem aEk {p:Nat}:binop .Add (.int (2 * (p:Int))) (.int 1)=some (.int ((2 * p+1:Nat):Int)):=by
 show some (D.int (2 * (p:Int)+1))=_
 congr 2
theorem aEc {p:Nat}:binop .Add (.int ((2 * p+1:Nat):Int)) (.int 1)=some (.int ((2 * p+2:Nat):Int)):=rfl
theorem lt_t {st:Store} {a b:Nat} (h:a < b):cmpop st .Lt (.int (a:Int)) (.int (b:Int))=some true:=congrArg some (decide_eq_true (by exact Int.ofNat_lt.mpr (by assumption)))
theorem lt_f {st:Store} {a b:Nat} (h:¬ a < b):cmpop st .Lt (.int (a:Int)) (.int (b:Int))=some false:=congrArg some (decide_eq_false (by lia))
noncomputable def childAt (l:List D) (p:Nat):Nat:=match l[2 * p+1]?,l[2 * p+2]? with
 | some a,some b=>bif ltD a b then 2 * p+1 else 2 * p+2
 | _,_=>2 * p+1
noncomputable def sup:Nat→List D→Nat→List D×Nat
 | 0,l,p=>(l,p)
 | f+1,l,p=>match l[childAt l p]? with
  | some y=>sup f (l.set p y) (childAt l p)
  | none=>(l,p)
noncomputable def V29 (c p e ch:Nat) (x:D) (t:Vars):Vars:=([("heap",.cell c),("pos",.int p),("endpos",.int e),("startpos",.int 0),("newitem",x),("childpos",.int ch)]:Vars)++t
noncomputable def Tl29 (t:Vars):Prop:=t=[]∨∃ a:D,t=([("rightpos",a)]:Vars)
theorem rD (l:List D) (p:Nat) (h:2 * p+1 < l.length) (hc:Cmp l):∃ a,l[2 * p+1]? = some a∧((¬ 2 * p+2 < l.length∧childAt l p=2 * p+1)∨∃ b t,l[2 * p+2]? = some b∧2 * p+2 < l.length∧dlt a b=some t∧childAt l p=bif t then 2 * p+1 else 2 * p+2):=by
 refine⟨_,List.getElem?_eq_getElem h,?_⟩
 unfold childAt
 rw [List.getElem?_eq_getElem h]
 by_cases h2:2 * p+2 < l.length
 ·obtain⟨t,ht⟩:=hc _ (List.getElem_mem h) _ (List.getElem_mem h2)
  right
  refine⟨_,t,List.getElem?_eq_getElem h2,h2,ht,?_⟩
  rw [List.getElem?_eq_getElem h2]
  dsimp only
  rw [cF ht]
 ·left
  refine⟨h2,?_⟩
  rw [List.getElem?_eq_none (by exact Nat.le_of_not_lt (by assumption))]
theorem vL (k c:Nat) (x:D):∀ (f p:Nat) (l:List D) (st:Store) (m:Nat) (t:Vars),l.length≤p+f→p < l.length→l.length≤500→look st c=some l→noCells l=true→Cmp l→f < m→Tl29 t →
  ∃ ch t',whileGo (ops (GT k) 23) (cxOf 29) (loopAt 29 4).1 (loopAt 29 4).2 m (V29 c p l.length (2 * p+1) x t) st=some (.next,V29 c (sup f l p).2 l.length ch x t',st.set c (sup f l p).1)∧(sup f l p).2 < l.length∧(sup f l p).1.length=l.length∧noCells (sup f l p).1=true∧(∀ y∈(sup f l p).1,y∈l)
 | f,p,l,st,m+1,t,hf,hp,hs,hl,hn,hc,hm,ht=>by
  by_cases h1:2 * p+1 < l.length
  ·obtain⟨a,ha,hcase⟩:=rD l p h1 hc
   have htr:(ops (GT k) 23).tr (cxOf 29) (V29 c p l.length (2 * p+1) x t) (loopAt 29 4).1 st=some (true,st):=by
    refine tr_cmp (st':=st) (a:=.int ((2 * p+1:Nat):Int)) (b:=.int (l.length:Int)) ?_ ?_ (lt_t h1)
    ·rcases ht with rfl | ⟨a,rfl⟩ <;> rfl
    ·rcases ht with rfl | ⟨a,rfl⟩ <;> rfl
   have e0:(ops (GT k) 23).ex (cxOf 29) (V29 c p l.length (2 * p+1) x t) ((loopAt 29 4).2.getD 0 (.Pass ⟨0,0,0,0⟩)) st=some (.next,V29 c p l.length (2 * p+1) x ([("rightpos",.int ((2 * p+2:Nat):Int))]:Vars),st):=by
    have e:vset "rightpos" (.int ((2 * p+2:Nat):Int)) (V29 c p l.length (2 * p+1) x t)=V29 c p l.length (2 * p+1) x ([("rightpos",.int ((2 * p+2:Nat):Int))]:Vars):=by
     rcases ht with rfl | ⟨a,rfl⟩ <;> rfl
    rw [← e]
    refine aC (n:=22) (st':=st) (d:=.int ((2 * p+2:Nat):Int)) rfl (aD (st':=st) (a:=.int ((2 * p+1:Nat):Int)) (b:=.int 1) ?_ rfl aEc) rfl
    rcases ht with rfl | ⟨a,rfl⟩ <;> rfl
   have e1:(ops (GT k) 23).ex (cxOf 29) (V29 c p l.length (2 * p+1) x ([("rightpos",.int ((2 * p+2:Nat):Int))]:Vars)) ((loopAt 29 4).2.getD 1 (.Pass ⟨0,0,0,0⟩)) st=some (.next,V29 c p l.length (childAt l p) x ([("rightpos",.int ((2 * p+2:Nat):Int))]:Vars),st):=by
    rcases hcase with ⟨h2,e⟩ | ⟨b,tt,hb,h2,hab,e⟩
    ·rw [e]
     exact ex_if_f (n:=22) (st':=st) (gE (tr_cmp (st':=st) (a:=.int ((2 * p+2:Nat):Int)) (b:=.int (l.length:Int)) rfl rfl (lt_f h2))) rfl
    ·rw [e]
     induction tt with
     | true =>
      exact ex_if_f (n:=22) (st':=st) (jN (tr_cmp (st':=st) (a:=.int ((2 * p+2:Nat):Int)) (b:=.int (l.length:Int)) rfl rfl (lt_t h2)) (gE (tK (b:=true) (tr_cmp (st':=st) (a:=a) (b:=b) (ev_idx (st':=st) (d:=.cell c) (j:=.int ((2 * p+1:Nat):Int)) rfl rfl rfl (bZ hl (by exact Nat.le_trans (by assumption) (by decide)) ha)) (ev_idx (st':=st) (d:=.cell c) (j:=.int ((2 * p+2:Nat):Int)) rfl rfl rfl (bZ hl (by exact Nat.le_trans (by assumption) (by decide)) hb)) hab)))) rfl
     | false =>
      exact aH (n:=22) (st':=st) (jN (tr_cmp (st':=st) (a:=.int ((2 * p+2:Nat):Int)) (b:=.int (l.length:Int)) rfl rfl (lt_t h2)) (jN (tK (b:=false) (tr_cmp (st':=st) (a:=a) (b:=b) (ev_idx (st':=st) (d:=.cell c) (j:=.int ((2 * p+1:Nat):Int)) rfl rfl rfl (bZ hl (by exact Nat.le_trans (by assumption) (by decide)) ha)) (ev_idx (st':=st) (d:=.cell c) (j:=.int ((2 * p+2:Nat):Int)) rfl rfl rfl (bZ hl (by exact Nat.le_trans (by assumption) (by decide)) hb)) hab)) rfl)) (exs_one (aC (st':=st) (d:=.int ((2 * p+2:Nat):Int)) rfl rfl rfl) rfl)
   have hch:childAt l p < l.length∧p < childAt l p:=by
    rcases hcase with ⟨_,e⟩ | ⟨b,tt,hb,h2,hab,e⟩
    ·rw [e]; lia
    ·rw [e]; cases tt <;> simp only [cond_true,cond_false] <;> lia
   obtain⟨y,hy⟩:∃ y,l[childAt l p]? = some y:=⟨_,List.getElem?_eq_getElem hch.1⟩
   have hym:y∈l:=List.mem_of_getElem? hy
   have hyc:=bJ hn hym
   have hsub:∀ z∈l.set p y,z∈l:=fun z hz=>by
    rcases List.mem_or_eq_of_mem_set hz with hz | rfl
    ·exact hz
    ·exact hym
   cases f with
   | zero=>omega
   | succ f =>
   obtain⟨ch,t',w,q1,q2,q3,q4⟩:=vL k c x f (childAt l p) (l.set p y) (st.set c (l.set p y)) m ([("rightpos",.int ((2 * p+2:Nat):Int))]:Vars) (by rw [List.length_set]; lia) (by rw [List.length_set]; exact hch.1) (by rw [List.length_set]; exact hs)
    (bH (cG hl) (cM hn hyc)) (cM hn hyc) (fun a ha b hb=>hc a (hsub a ha) b (hsub b hb)) (by exact Nat.lt_of_succ_lt_succ (by assumption)) (.inr ⟨_,rfl⟩)
   rw [List.set_set] at w
   rw [List.length_set] at w q1 q2
   have hsup:sup (f+1) l p=sup f (l.set p y) (childAt l p):=by rw [sup,hy]
   rw [hsup]
   refine⟨ch,t',?_,q1,q2,q3,fun z hz=>hsub z (q4 z hz)⟩
   exact dC htr (exs_one e0 (exs_one e1 (exs_one (aC (n:=22) (st':=st) (d:=y) rfl (ev_idx (st':=st) (d:=.cell c) (j:=.int (childAt l p:Int)) rfl rfl rfl (bZ hl (by lia) hy)) (jH (st':=st) (st₂:=st) (c:=.cell c) (j:=.int p) rfl rfl (gI hl (by lia) hp hyc)))
    (exs_one (aC (d:=.int (childAt l p:Int)) rfl rfl rfl) (exs_one (aC (d:=.int ((2 * childAt l p+1:Nat):Int)) rfl (aD (a:=.int (2 * (childAt l p:Int))) (b:=.int 1) (aD (a:=.int 2) (b:=.int (childAt l p:Int)) rfl rfl (aOy (by lia))) rfl aEk) rfl) rfl))))) w
  ·have hsup:sup f l p=(l,p):=by
    induction f using Nat.casesOn with
    | zero=>rfl
    | succ f =>
     have:childAt l p=2 * p+1:=by
      unfold childAt; rw [List.getElem?_eq_none (by exact Nat.le_of_not_lt (by assumption))]
     rw [sup,this,List.getElem?_eq_none (by exact Nat.le_of_not_lt (by assumption))]
   rw [hsup]
   refine⟨2 * p+1,t,?_,hp,rfl,hn,fun y hy=>hy⟩
   rw [eI hl]
   refine fX (tr_cmp (st':=st) (a:=.int ((2 * p+1:Nat):Int)) (b:=.int (l.length:Int)) ?_ ?_ (lt_f h1))
   ·rcases ht with rfl | ⟨a,rfl⟩ <;> rfl
   ·rcases ht with rfl | ⟨a,rfl⟩ <;> rfl
end Mine
end
section -- R9
open PySem
namespace Mine
noncomputable def supL (x:D) (l:List D):List D:=sdn x (sup l.length l 0).2 ((sup l.length l 0).1.set (sup l.length l 0).2 x) (sup l.length l 0).2
theorem aNd (k c:Nat) (x:D) (l:List D) (st:Store) (hl:look st c=some l) (hn:noCells l=true) (hs:l.length≤500) (hx:l[0]? = some x) (hc:Cmp l) :
  (GT (k+2)).fn 188 [.cell c,.int 0] [] st=some (.ret .none,st.set c (supL x l)):=by
 have hp:0 < l.length:=(List.getElem?_eq_some_iff.mp hx).1
 have hxm:=List.mem_of_getElem? hx
 have hxc:=bJ hn hxm
 obtain⟨ch,t',w,q1,q2,q3,q4⟩:=vL (k+1) c x l.length 0 l st turns [] (by exact Nat.le_add_left _ _) hp hs hl hn hc (by unfold turns; exact Nat.lt_of_le_of_lt (by assumption) (by decide)) (.inl rfl)
 have hset:∀ y∈((sup l.length l 0).1.set (sup l.length l 0).2 x),y∈l:=fun y hy=>by
  rcases List.mem_or_eq_of_mem_set hy with hy | rfl
  ·exact q4 y hy
  ·exact hxm
 have hn2:=cM (p:=(sup l.length l 0).2) q3 hxc
 have hlk:look (st.set c ((sup l.length l 0).1.set (sup l.length l 0).2 x)) c=some ((sup l.length l 0).1.set (sup l.length l 0).2 x):=bH (cG hl) hn2
 have h181:=aMb k c (sup l.length l 0).2 x _ _ hlk hn2 (by rw [List.length_set,q2]; exact Nat.le_trans (by assumption) (by decide)) (by rw [List.getElem?_set_self (by lia)]) (fun y hy=>hc x hxm y (hset y hy))
 rw [List.set_set] at h181
 have h:exs (ops (GT (k+1)) 24) (cxOf 29) ([("heap",.cell c),("pos",.int 0)]:Vars) (fBody (fnAt 29)) st=some (FD.next,V29 c (sup l.length l 0).2 l.length ch x t',st.set c (supL x l)):=by
  refine exs_one (aC (n:=23) (st':=st) (d:=.int (l.length:Nat)) rfl (ev_blt (fd:=.builtin "len") (ds:=[.cell c]) rfl (aB rfl rfl rfl) (aA rfl rfl rfl) rfl (wT hl (by exact Nat.le_trans (by assumption) (by decide)))) rfl)
   (exs_one (aC (st':=st) (d:=.int 0) rfl rfl rfl) (exs_one (aC (st':=st) (d:=x) rfl (ev_idx (st':=st) (d:=.cell c) (j:=.int ((0:Nat):Int)) rfl rfl rfl (bZ hl (by exact Nat.le_trans (by assumption) (by decide)) hx)) rfl)
   (exs_one (aC (st':=st) (d:=.int 1) rfl (aD (st':=st) (a:=.int 0) (b:=.int 1) (aD (st':=st) (a:=.int 2) (b:=.int 0) rfl rfl rfl) rfl rfl) rfl)
   (exs_one (fD w) (exs_one (aC (st':=st.set c (sup l.length l 0).1) (d:=x) rfl rfl (jH (st':=st.set c (sup l.length l 0).1) (st₂:=st.set c (sup l.length l 0).1) (c:=.cell c) (j:=.int ((sup l.length l 0).2:Int)) rfl rfl (gI (bH (cG hl) q3) (by lia) (by lia) hxc))) ?_)))))
  rw [List.set_set]
  exact exs_one (cY (d:=.none) rfl (aX (a:=181) (ds:=[.cell c,.int 0,.int ((sup l.length l 0).2:Int)]) (kd:=[]) rfl (aB rfl rfl rfl) (aA rfl rfl (aA rfl rfl (aA rfl rfl rfl))) rfl h181)) rfl
 exact bK rfl rfl (mB h (gT rfl))
end Mine
end
section -- R10
open PySem
namespace Mine
theorem aPu {l:List D} {p:Nat} {x:D} (h:∀ a∈x::l,∀ b∈x::l,∃ t,dlt a b=some t):Cmp (l.set p x):=fun a ha b hb=>by
 have key:∀ z∈l.set p x,z∈x::l:=fun z hz=>by
  rcases List.mem_or_eq_of_mem_set hz with hz | rfl
  ·exact List.mem_cons_of_mem _ hz
  ·exact List.mem_cons_self
 exact h a (key a ha) b (key b hb)
theorem aUd (k c:Nat) (x y:D) (l:List D) (st:Store) (hl:look st c=some l) (hn:noCells l=true) (hs:l.length≤500) (hy:l[0]? = some y) (hx:noCell x=true) (hc:Cmp (x::l)) :
  (GT (k+3)).fn 174 [.cell c,x] [] st=some (.ret y,st.set c (supL x (l.set 0 x))):=by
 have hp:0 < l.length:=(List.getElem?_eq_some_iff.mp hy).1
 have hyc:=bJ hn (List.mem_of_getElem? hy)
 have hn':=cM (p:=0) hn hx
 have h188:=aNd k c x (l.set 0 x) (st.set c (l.set 0 x)) (bH (cG hl) hn') hn' (by rw [List.length_set]; exact hs) (by rw [List.getElem?_set_self hp]) (aPu hc)
 rw [List.set_set] at h188
 have h:exs (ops (GT (k+2)) 24) (cxOf 27) ([("heap",.cell c),("item",x)]:Vars) (fBody (fnAt 27)) st=some (FD.ret y,([("heap",.cell c),("item",x),("returnitem",y)]:Vars),st.set c (supL x (l.set 0 x))):=by
  refine exs_one (aC (n:=23) (st':=st) (d:=y) rfl (ev_idx (st':=st) (d:=.cell c) (j:=.int ((0:Nat):Int)) rfl rfl rfl (bZ hl (by exact Nat.le_trans (by assumption) (by decide)) hy)) rfl) (exs_one (aC (st':=st) (d:=x) rfl rfl (jH (st':=st) (st₂:=st) (c:=.cell c) (j:=.int ((0:Nat):Int)) rfl rfl (gI hl (by exact Nat.le_trans (by assumption) (by decide)) hp hx)))
   (exs_one (cY (d:=.none) rfl (aX (a:=188) (ds:=[.cell c,.int 0]) (kd:=[]) rfl (aB rfl rfl rfl) (aA rfl rfl (aA rfl rfl rfl)) rfl h188)) (aE (aP rfl))))
 exact bK rfl rfl (aK h (gT hyc))
theorem aKj {st:Store} {c:Nat} {l:List D} {z:D} (hl:look st c=some (l++[z])) (hs:l.length < 1000):fZ "pop" (.cell c) [] st=some (z,st.set c l):=by
 show (look st c).bind _=_
 rw [hl]
 show (if ((("pop":Str) == ("pop":Str))&&fits (l++[z]).length)=true then ((l++[z]).getLast?).map (fun x=>(x,st.set c (l++[z]).dropLast)) else none)=_
 rw [aF (by rw [List.length_append]; show l.length+1≤1000; assumption),List.getLast?_append,List.dropLast_concat]; rfl
theorem pS {st:Store} {c:Nat} {l:List D} (hl:look st c=some l) (hs:l.length≤1000):truth st (.cell c)=some (!l.isEmpty):=by
 show (look st c).bind (fun l=>if fits l.length then some (!l.isEmpty) else none)=_
 rw [hl]
 show (if fits l.length then some (!l.isEmpty) else none)=_
 rw [aF hs]; rfl
noncomputable def aHy (z:D):List D→D
 | []=>z
 | y::_=>y
noncomputable def aBl (z:D):List D→List D
 | []=>[]
 | _::r=>supL z (z::r)
theorem aTg (k c:Nat) (z:D) (l:List D) (st:Store) (hl:look st c=some (l++[z])) (hn:noCells (l++[z])=true) (hs:l.length < 500) (hc:Cmp (l++[z])) :
  (GT (k+3)).fn 167 [.cell c] [] st=some (.ret (aHy z l),st.set c (aBl z l)):=by
 rw [eG,Bool.and_eq_true] at hn
 have hzc:noCell z=true:=bJ hn.2 List.mem_cons_self
 have hl':look (st.set c l) c=some l:=bH (cG hl) hn.1
 have e0:(ops (GT (k+2)) 24).ex (cxOf 26) ([("heap",.cell c)]:Vars) ((fBody (fnAt 26)).getD 0 (.Pass ⟨0,0,0,0⟩)) st=some (.next,([("heap",.cell c),("lastelt",z)]:Vars),st.set c l) :=
  aC (n:=23) (st':=st.set c l) (d:=z) rfl (ev_meth (st':=st) (st₂:=st) (d:=.cell c) (ds:=[]) rfl rfl rfl (by show (look st c).isSome=true; rw [hl]; rfl) rfl (aKj hl (by exact Nat.lt_of_lt_of_le (by assumption) (by decide)))) rfl
 induction l using List.casesOn with
 | nil =>
  have h:exs (ops (GT (k+2)) 24) (cxOf 26) ([("heap",.cell c)]:Vars) (fBody (fnAt 26)) st=some (FD.ret z,([("heap",.cell c),("lastelt",z)]:Vars),st.set c []) :=
   exs_one e0 (exs_one (ex_if_f (st':=st.set c []) (bD (d:=.cell c) rfl (pS hl' (by exact Nat.zero_le _))) rfl) (aE (aP rfl)))
  exact bK rfl rfl (aK h (gT hzc))
 | cons y r =>
  have hyc:noCell y=true:=bJ hn.1 List.mem_cons_self
  have hn':noCells (z::r)=true:=cM (p:=0) hn.1 hzc
  have h188:=aNd k c z (z::r) (st.set c (z::r)) (bH (cG hl) hn') hn' (by simp only [List.length_cons] at hs ⊢; exact Nat.lt_of_succ_lt (by assumption)) rfl (fun a ha b hb=>by
   have key:∀ u∈z::r,u∈(y::r)++[z]:=fun u hu=>by
    rcases List.mem_cons.mp hu with rfl | hu
    ·exact List.mem_append_right _ List.mem_cons_self
    ·exact List.mem_append_left _ (List.mem_cons_of_mem _ hu)
   exact hc a (key a ha) b (key b hb))
  rw [List.set_set] at h188
  have h:exs (ops (GT (k+2)) 24) (cxOf 26) ([("heap",.cell c)]:Vars) (fBody (fnAt 26)) st=some (FD.ret y,([("heap",.cell c),("lastelt",z),("returnitem",y)]:Vars),st.set c (supL z (z::r))):=by
   refine exs_one e0 (aE (aH (st':=st.set c (y::r)) (bD (d:=.cell c) rfl (pS hl' (by exact Nat.le_trans (Nat.le_of_lt (by assumption)) (by decide))))
    (exs_one (aC (st':=st.set c (y::r)) (d:=y) rfl (ev_idx (st':=st.set c (y::r)) (d:=.cell c) (j:=.int ((0:Nat):Int)) rfl rfl rfl (bZ hl' (by exact Nat.le_trans (Nat.le_of_lt (by assumption)) (by decide)) rfl)) rfl)
    (exs_one (aC (st':=st.set c (y::r)) (d:=z) rfl rfl (jH (st':=st.set c (y::r)) (st₂:=st.set c (y::r)) (c:=.cell c) (j:=.int ((0:Nat):Int)) rfl rfl (gI hl' (by exact Nat.le_trans (Nat.le_of_lt (by assumption)) (by decide)) (by simp) hzc)))
    (exs_one (cY (d:=.none) rfl (aX (a:=188) (ds:=[.cell c,.int 0]) (kd:=[]) rfl (aB rfl rfl rfl) (aA rfl rfl (aA rfl rfl rfl)) rfl ?_)) (aE (aP rfl)))))))
   rw [List.set_set]
   exact h188
  exact bK rfl rfl (aK h (gT hyc))
end Mine
end
section -- R11
open PySem
namespace Mine
theorem zX (a b:Nat):Builtin.bitAnd a b=((a &&& b:Nat):Int):=by
 unfold Builtin.bitAnd
 rw [decide_eq_true (by exact Int.natCast_nonneg _:(0:Int)≤a),decide_eq_true (by exact Int.natCast_nonneg _:(0:Int)≤b)]
 dsimp only
 rw [Int.toNat_natCast,Int.toNat_natCast]
theorem jV (a:Nat):Builtin.bitNot (Builtin.bitNot a)=(a:Int):=by unfold Builtin.bitNot; lia
theorem aEl (a b:Nat):Builtin.bitOr a b=((a ||| b:Nat):Int):=by
 unfold Builtin.bitOr Builtin.bitAnd
 have h:∀ n:Nat,decide ((0:Int)≤Builtin.bitNot n)=false:=fun n=>decide_eq_false (by unfold Builtin.bitNot; lia)
 rw [h,h]
 dsimp only
 rw [jV,jV,jV,Int.toNat_natCast,Int.toNat_natCast]
noncomputable def b64L:List Nat:=[65,66,67,68,69,70,71,72,73,74,75,76,77,78,79,80,81,82,83,84,85,86,87,88,89,90,97,98,99,100,101,102,103,104,105,106,107,108,109,110,111,112,113,114,115,116,117,118,119,120,121,122,48,49,50,51,52,53,54,55,56,57,43,47]
noncomputable def b64S (i:Nat):Nat:=b64L.getD i 0
theorem aAl:glT "_B64" = some (.bytes b64L):=by kernel_rfl
theorem aGr:∀ i:Nat,i < 64→place 64 (i:Int)=some i∧b64L[i]? = some (b64S i):=by decide +kernel
theorem uQ {st:Store} {i:Nat} (h:i < 64):index st (.bytes b64L) (.int (i:Int))=some (.int (b64S i:Nat)):=by
 obtain⟨h1,h2⟩:=aGr i h
 show ((if fits 64 then place 64 (i:Int) else none).bind fun k=>(b64L[k]?).map fun (c:Nat)=>D.int (c:Int))=_
 rw [if_pos (by decide),h1]
 show (b64L[i]?).map _=_
 rw [h2]; rfl
theorem tO (a b:Nat) {st:Store}:binop .BitAnd (.int (a:Int)) (.int (b:Int))=some (.int ((a &&& b:Nat):Int)):=by
 show some (D.int (Builtin.bitAnd a b))=_
 rw [zX]
theorem aNc (a b:Nat) {st:Store}:binop .BitOr (.int (a:Int)) (.int (b:Int))=some (.int ((a ||| b:Nat):Int)):=by
 show some (D.int (Builtin.bitOr a b))=_
 rw [aEl]
theorem jK {a k:Nat} (ha:a < 1000000) (hk:k≤1000):binop .LShift (.int (a:Int)) (.int (k:Int))=some (.int ((a * 2 ^ k:Nat):Int)):=by
 have hs:small (a:Int)=true:=by
  unfold small
  rw [Bool.and_eq_true]
  exact⟨decide_eq_true (by lia),decide_eq_true (by lia)⟩
 show (if (decide ((0:Int)≤k)&&decide ((k:Int)≤1000)&&small (a:Int))=true then some (D.int ((a:Int) * 2 ^ (k:Int).toNat)) else none)=_
 rw [if_pos (by rw [decide_eq_true (by lia),decide_eq_true (by lia),hs]; rfl),Int.toNat_natCast]
 congr 2
theorem tN (a k:Nat):binop .RShift (.int (a:Int)) (.int (k:Int))=some (.int ((a / 2 ^ k:Nat):Int)):=by
 show (if (0:Int)≤k then some (D.int ((a:Int).fdiv (2 ^ (k:Int).toNat))) else none)=_
 rw [if_pos (by exact Int.natCast_nonneg _),Int.toNat_natCast]
 congr 2
 have:((2:Int) ^ k)=((2 ^ k:Nat):Int):=by rw [Int.natCast_pow]; rfl
 rw [this,Int.ofNat_fdiv]
theorem aVb (x:Nat):x &&& 65535=x % 65536:=Nat.and_two_pow_sub_one_eq_mod x 16
theorem aUl (x:Nat):x &&& 63=x % 64:=Nat.and_two_pow_sub_one_eq_mod x 6
theorem aIq (x:Nat):x &&& 15=x % 16:=Nat.and_two_pow_sub_one_eq_mod x 4
theorem and3 (x:Nat):x &&& 3=x % 4:=Nat.and_two_pow_sub_one_eq_mod x 2
theorem aLe {m b:Nat} (k:Nat) (h:b < 2 ^ k):m * 2 ^ k ||| b=m * 2 ^ k+b:=by
 rw [← Nat.shiftLeft_eq]
 exact (Nat.shiftLeft_add_eq_or_of_lt h m).symm
theorem aTl {m b:Nat} (h:b < 256):(m * 256 ||| b) &&& 65535=(m % 256) * 256+b:=by
 have:=aLe (m:=m) 8 h
 rw [show (2:Nat) ^ 8=256 from rfl] at this
 rw [this,aVb]
 lia
end Mine
end
section -- R12
open PySem
namespace Mine
noncomputable def loopIn (b:List Stmt) (j:Nat):Expr×List Stmt:=match b[j]? with
 | some (.While t b _ _)=>(t,b)
 | some (.For t _ b _ _)=>(t,b)
 | _=>(.Name "" ⟨0,0,0,0⟩,[])
noncomputable def V20 (l:List Nat) (c q m:Nat) (t:Vars):Vars:=([("data",.bytes l),("newline",.bool false),("bin_data",.bytes l),("out",.cell c),("leftbits",.int q),("leftchar",.int m)]:Vars)++t
theorem aDz {q:Nat} (h:6≤q):binop .Sub (.int (q:Int)) (.int 6)=some (.int ((q - 6:Nat):Int)):=by
 show some (D.int ((q:Int) - 6))=_
 congr 2
 exact (Int.ofNat_sub (by assumption)).symm
theorem ge_t {st:Store} {a b:Int} (h:b≤a):cmpop st .GtE (.int a) (.int b)=some true:=congrArg some (decide_eq_true h)
theorem ge_f {st:Store} {a b:Int} (h:¬ b≤a):cmpop st .GtE (.int a) (.int b)=some false:=congrArg some (decide_eq_false h)
theorem aIg (k c q m:Nat) (l:List Nat) (b:D) (L:List D) (st:Store) (hq:6≤q) (hl:look st c=some L) (hs:L.length≤1000) :
  exs (ops (GT k) 22) (cxOf 20) (V20 l c q m ([("b",b)]:Vars)) (loopIn (loopAt 20 5).2 2).2 st=some (.next,V20 l c (q - 6) m ([("b",b)]:Vars),st.set c (L++[.int (b64S (m / 2 ^ (q - 6) % 64):Nat)])):=by
 refine exs_one (cY (n:=21) (d:=.none) (st':=st.set c (L++[.int (b64S (m / 2 ^ (q - 6) % 64):Nat)])) rfl (ev_meth (st':=st) (st₂:=st) (d:=.cell c) (ds:=[.int (b64S (m / 2 ^ (q - 6) % 64):Nat)]) rfl rfl rfl (by show (look st c).isSome=true; rw [hl]; rfl) (aA rfl (ev_idx (st':=st) (st₂:=st) (d:=.bytes b64L) (j:=.int (m / 2 ^ (q - 6) % 64:Nat)) rfl (aB rfl rfl aAl) ?_ (uQ (Nat.mod_lt _ (by decide)))) rfl) (dJ hl rfl hs)))
  (exs_one (aC (d:=.int (q - 6:Nat)) rfl (aD (a:=.int q) (b:=.int 6) rfl rfl (aDz hq)) rfl) rfl)
 rw [← aUl]
 exact aD (st':=st) (a:=.int (m / 2 ^ (q - 6):Nat)) (b:=.int (63:Nat)) (aD (st':=st) (a:=.int m) (b:=.int (q - 6:Nat)) rfl (aD (st':=st) (a:=.int q) (b:=.int 6) rfl rfl (aDz hq)) (tN m (q - 6))) rfl (tO _ 63 (st:=st))
noncomputable def sgn:Nat→Nat→Nat→List Nat
 | 0,_,_=>[]
 | f+1,m,q=>if 6≤q then b64S (m / 2 ^ (q - 6) % 64)::sgn f m (q - 6) else []
noncomputable def intsD (l:List Nat):List D:=l.map fun (c:Nat)=>D.int (c:Int)
theorem bU:∀ l:List Nat,noCells (intsD l)=true
 | []=>rfl
 | a::l=>by show (noCell (.int a)&&noCells (intsD l))=true; rw [bU l]; rfl
theorem sK (k c m:Nat) (l:List Nat) (b:D):∀ (f q:Nat) (L:List Nat) (st:Store) (w:Nat),q < 6 * (f+1)→look st c=some (intsD L)→L.length+f≤1000→f < w →
  whileGo (ops (GT k) 22) (cxOf 20) (loopIn (loopAt 20 5).2 2).1 (loopIn (loopAt 20 5).2 2).2 w (V20 l c q m ([("b",b)]:Vars)) st=some (.next,V20 l c (q % 6) m ([("b",b)]:Vars),st.set c (intsD (L++sgn f m q)))
 | f,q,L,st,w+1,hq,hl,hs,hw=>by
  have hL:(intsD L).length=L.length:=List.length_map _
  by_cases h6:6≤q
  ·cases f with
   | zero=>lia
   | succ f =>
   have h1:=aIg k c q m l b (intsD L) st h6 hl (by lia)
   have e1:intsD L++[D.int (b64S (m / 2 ^ (q - 6) % 64):Nat)]=intsD (L++[b64S (m / 2 ^ (q - 6) % 64)]):=by unfold intsD; rw [List.map_append]; rfl
   rw [e1] at h1
   have h2:=sK k c m l b f (q - 6) (L++[b64S (m / 2 ^ (q - 6) % 64)]) (st.set c (intsD (L++[b64S (m / 2 ^ (q - 6) % 64)]))) w (by lia) (bH (cG hl) (bU _)) (by rw [List.length_append]; show L.length+1+f≤1000; lia) (by exact Nat.lt_of_succ_lt_succ (by assumption))
   rw [List.set_set,List.append_assoc] at h2
   rw [sgn,if_pos h6]
   rw [show (q - 6) % 6=q % 6 from by lia] at h2
   exact dC (st':=st) (tr_cmp (st':=st) (a:=.int q) (b:=.int 6) rfl rfl (ge_t (by exact Int.ofNat_le.mpr (by assumption)))) h1 h2
  ·have e:sgn f m q=[]:=by
    cases f with
    | zero=>rfl
    | succ f=>rw [sgn,if_neg h6]
   rw [e,List.append_nil,eI hl,Nat.mod_eq_of_lt (by exact Nat.lt_of_not_le (by assumption))]
   exact fX (tr_cmp (st':=st) (a:=.int q) (b:=.int 6) rfl rfl (ge_f (by lia)))
end Mine
end
section -- R13
open PySem
namespace Mine
noncomputable def encGo:List Nat→Nat→Nat→List Nat×Nat×Nat
 | [],q,m=>([],q,m)
 | b::bs,q,m=>(sgn 2 (m % 256 * 256+b) (q+8)++(encGo bs ((q+8) % 6) (m % 256 * 256+b)).1,(encGo bs ((q+8) % 6) (m % 256 * 256+b)).2)
theorem uU:∀ f m q,(sgn f m q).length≤f
 | 0,_,_=>Nat.le_refl _
 | f+1,m,q=>by
  rw [sgn]
  split
  ·have:=uU f m (q - 6); rw [List.length_cons]; exact Nat.succ_le_succ (by assumption)
  ·exact Nat.zero_le _
noncomputable def tgtAt (i j:Nat):Expr:=match (fBody (fnAt i))[j]? with
 | some (.For t _ _ _ _)=>t
 | _=>.Name "" ⟨0,0,0,0⟩
noncomputable def Tl20 (t:Vars):Prop:=t=[]∨∃ a:D,t=([("b",a)]:Vars)
theorem aMi (k c q m b:Nat) (l L:List Nat) (st:Store) (hb:b < 256) (hm:m < 65536) (hq:q < 6) (hl:look st c=some (intsD L)) (hs:L.length≤900) :
  exs (ops (GT k) 23) (cxOf 20) (V20 l c q m ([("b",.int b)]:Vars)) (loopAt 20 5).2 st=some (.next,V20 l c ((q+8) % 6) (m % 256 * 256+b) ([("b",.int b)]:Vars),st.set c (intsD (L++sgn 2 (m % 256 * 256+b) (q+8)))):=by
 have h8:binop .Add (.int (q:Int)) (.int 8)=some (.int ((q+8:Nat):Int)):=rfl
 refine exs_one (aC (n:=22) (st':=st) (d:=.int (m % 256 * 256+b:Nat)) rfl ?_ rfl) (exs_one (aC (st':=st) (d:=.int (q+8:Nat)) rfl (aD (st':=st) (a:=.int q) (b:=.int 8) rfl rfl h8) rfl) (exs_one (fD (sK k c (m % 256 * 256+b) l (.int b) 2 (q+8) L st turns (by lia) hl (by lia) (by unfold turns; exact Nat.le_add_left _ _))) rfl))
 rw [← aTl hb]
 exact aD (st':=st) (a:=.int (m * 256 ||| b:Nat)) (b:=.int (65535:Nat)) (aD (st':=st) (a:=.int (m * 2 ^ 8:Nat)) (b:=.int b) (aD (st':=st) (a:=.int m) (b:=.int (8:Nat)) rfl rfl (jK (by exact Nat.lt_of_lt_of_le (by assumption) (by decide)) (by exact Nat.le_add_left _ _))) rfl (aNc (m * 2 ^ 8) b (st:=st))) rfl (tO _ 65535 (st:=st))
theorem aDx (k c:Nat) (l:List Nat):∀ (bs:List Nat) (q m:Nat) (L:List Nat) (st:Store) (t:Vars),(∀ b∈bs,b < 256)→q < 6→m < 65536→look st c=some (intsD L)→L.length+2 * bs.length≤900→Tl20 t →
  ∃ t',Tl20 t'∧forGo (ops (GT k) 23) (cxOf 20) (tgtAt 20 5) (loopAt 20 5).2 (intsD bs) (V20 l c q m t) st=some (.next,V20 l c (encGo bs q m).2.1 (encGo bs q m).2.2 t',st.set c (intsD (L++(encGo bs q m).1)))
 | [],q,m,L,st,t,_,_,_,hl,_,_=>⟨t,by assumption,by rw [encGo,List.append_nil,eI hl]; rfl⟩
 | b::bs,q,m,L,st,t,hb,hq,hm,hl,hs,ht=>by
  have hb0:=hb b List.mem_cons_self
  have h1:=aMi k c q m b l L st hb0 hm hq hl (by exact Nat.le_trans (Nat.le_add_right _ _) (by assumption))
  obtain⟨t',ht',h2⟩:=aDx k c l bs ((q+8) % 6) (m % 256 * 256+b) (L++sgn 2 (m % 256 * 256+b) (q+8)) (st.set c (intsD (L++sgn 2 (m % 256 * 256+b) (q+8)))) ([("b",.int b)]:Vars) (fun x hx=>hb x (List.mem_cons_of_mem _ hx)) (by exact Nat.mod_lt _ (by decide)) (by lia) (bH (cG hl) (bU _))
   (by have:=uU 2 (m % 256 * 256+b) (q+8); rw [List.length_append]; rw [List.length_cons] at hs; lia) (.inr ⟨_,rfl⟩)
  rw [List.set_set,List.append_assoc] at h2
  refine⟨t',ht',lJ (st':=st) (vars':=V20 l c q m ([("b",.int b)]:Vars)) ?_ h1 h2⟩
  rcases ht with rfl | ⟨a,rfl⟩ <;> rfl
end Mine
end
section -- R14
open PySem
namespace Mine
noncomputable def encEnd (q m:Nat):List Nat:=if q=2 then [b64S (m % 4 * 16),61,61] else if q=4 then [b64S (m % 16 * 4),61] else []
noncomputable def encL (bs:List Nat):List Nat:=(encGo bs 0 0).1++encEnd (encGo bs 0 0).2.1 (encGo bs 0 0).2.2
theorem nS {G:Gx} {n c:Nat} {cx:Cx} {vars:Vars} {st:Store} {L:List Nat} {x:Nat} {v e:Expr} {p ap q:Pos} (hl:look st c=some (intsD L)) (hs:L.length≤1000) (hk:dA v [e] ap p=true) (hr:dU "append" [e]=none) (hv:(ops G n).ev cx vars v st=some (.cell c,st)) (he:isStar e=false) (hx:(ops G n).ev cx vars e st=some (.int (x:Nat),st)) :
  (ops G (n+2)).ex cx vars (.Expr (.Call (.Attribute v "append" ap) [e] [] p) q) st=some (.next,vars,st.set c (intsD (L++[x]))):=by
 have hL:(intsD L).length=L.length:=List.length_map _
 have e1:intsD L++[D.int x]=intsD (L++[x]):=by unfold intsD; rw [List.map_append]; rfl
 refine cY (d:=.none) rfl (ev_meth (st':=st) (st₂:=st) (d:=.cell c) (ds:=[.int (x:Nat)]) hk hr hv (by show (look st c).isSome=true; rw [hl]; rfl) (aA he hx rfl) ?_)
 rw [← e1]
 exact dJ hl rfl (by lia)
theorem gK:∀ l:List Nat,bM (intsD l)=some (l.map fun (c:Nat)=>(c:Int))
 | []=>rfl
 | a::l=>by show (bM (intsD l)).map _=_; rw [gK l]; rfl
theorem iR:∀ l:List Nat,(∀ x∈l,x < 256)→octs (l.map fun (c:Nat)=>(c:Int))=some l
 | [],_=>rfl
 | a::l,h=>by
  have ha:=h a List.mem_cons_self
  show (if (decide ((0:Int)≤a)&&decide ((a:Int) < 256))=true then (octs (l.map fun (c:Nat)=>(c:Int))).map ((a:Int).toNat::·) else none)=_
  rw [if_pos (by rw [decide_eq_true (by exact Int.natCast_nonneg _),decide_eq_true (by exact Int.ofNat_lt.mpr (by assumption))]; rfl),iR l (fun x hx=>h x (List.mem_cons_of_mem _ hx)),Int.toNat_natCast]; rfl
theorem pX {st:Store} {c:Nat} {L:List Nat} (hl:look st c=some (intsD L)) (h:∀ x∈L,x < 256) (hs:L.length≤1000):bcall st (.type "bytes") [.cell c]=some (.bytes L):=by
 show (look st c).bind (fun l=>(bM l).bind fun is=>(octs is).bind fun os=>if fits os.length then some (D.bytes os) else none)=_
 rw [hl]
 show ((bM (intsD L)).bind fun is=>(octs is).bind fun os=>if fits os.length then some (D.bytes os) else none)=_
 rw [gK]
 show ((octs (L.map fun (c:Nat)=>(c:Int))).bind fun os=>if fits os.length then some (D.bytes os) else none)=_
 rw [iR L h]
 show (if fits L.length then some (D.bytes L) else none)=_
 rw [aF hs]; rfl
theorem kY (i:Nat):b64S i < 128:=by
 by_cases h:i < 64
 ·exact (by decide +kernel:∀ i < 64,b64S i < 128) i h
 ·unfold b64S
  rw [List.getD_eq_getElem?_getD,List.getElem?_eq_none (by show 64≤i; exact Nat.le_of_not_lt (by assumption))]
  decide
theorem aJk:∀ f m q,∀ x∈sgn f m q,x < 128
 | 0,_,_,x,h=>by cases h
 | f+1,m,q,x,h=>by
  rw [sgn] at h
  split at h
  ·rcases List.mem_cons.mp h with rfl | h
   ·exact kY _
   ·exact aJk f m (q - 6) x h
  ·cases h
theorem qJ:∀ bs q m,∀ x∈(encGo bs q m).1,x < 128
 | [],_,_,x,h=>by cases h
 | b::bs,q,m,x,h=>by
  rw [encGo] at h
  rcases List.mem_append.mp h with h | h
  ·exact aJk _ _ _ x h
  ·exact qJ bs _ _ x h
theorem aEv (q m:Nat):∀ x∈encEnd q m,x < 128:=by
 intro x h
 unfold encEnd at h
 split at h
 ·simp only [List.mem_cons,List.not_mem_nil,or_false] at h
  rcases h with rfl | rfl | rfl
  ·exact kY _
  ·decide
  ·decide
 ·split at h
  ·simp only [List.mem_cons,List.not_mem_nil,or_false] at h
   rcases h with rfl | rfl
   ·exact kY _
   ·decide
  ·cases h
theorem aVu (bs:List Nat):∀ x∈encL bs,x < 128:=fun x h=>by
 rcases List.mem_append.mp h with h | h
 ·exact qJ _ _ _ x h
 ·exact aEv _ _ x h
theorem mY:∀ bs q m,(encGo bs q m).1.length≤2 * bs.length
 | [],_,_=>Nat.le_refl _
 | b::bs,q,m=>by
  have h1:=mY bs ((q+8) % 6) (m % 256 * 256+b)
  have h2:=uU 2 (m % 256 * 256+b) (q+8)
  rw [encGo,List.length_append,List.length_cons]
  lia
end Mine
end
section -- R15
open PySem
namespace Mine
theorem lY (a b:Nat):binop .BitAnd (.int (a:Int)) (.int (b:Int))=some (.int ((a &&& b:Nat):Int)):=tO a b (st:=[])
theorem aNt:∀ bs q m,q < 6→(encGo bs q m).2.1 < 6
 | [],q,m,h=>h
 | b::bs,q,m,h=>by rw [encGo]; exact aNt bs _ _ (Nat.mod_lt _ (by decide))
theorem wB {a b:Nat} {L:List Nat} (h:L.length≤a):(L++[b]).length≤a+1:=by rw [List.length_append]; exact Nat.succ_le_succ h
theorem kO {b:Nat} {L:List Nat} (h:∀ x∈L,x < 256) (hb:b < 256):∀ x∈L++[b],x < 256:=fun x hx=>(List.mem_append.mp hx).elim (h x) fun e=>List.mem_singleton.mp e▸hb
theorem kL {G:Gx} {n c:Nat} {cx:Cx} {vars:Vars} {st:Store} {L:List Nat} {x:Nat} {v e:Expr} {p ap q:Pos} (hc:c < st.length) (hs:L.length≤1000) (hk:dA v [e] ap p=true) (hr:dU "append" [e]=none) (hv:(ops G n).ev cx vars v (st.set c (intsD L))=some (.cell c,st.set c (intsD L))) (he:isStar e=false) (hx:(ops G n).ev cx vars e (st.set c (intsD L))=some (.int (x:Nat),st.set c (intsD L))) :
  (ops G (n+2)).ex cx vars (.Expr (.Call (.Attribute v "append" ap) [e] [] p) q) (st.set c (intsD L))=some (.next,vars,st.set c (intsD (L++[x]))):=by
 have h:=nS (p:=p) (q:=q) (bH hc (bU L)) hs hk hr hv he hx
 rwa [List.set_set] at h
section
variable {k c q m:Nat} {l L:List Nat} {st:Store} {t:Vars} (hc:c < st.length) (hs:L.length≤900) (hL:∀ x∈L,x < 256)
include hc
theorem uP (hs:L.length≤1000) (hL:∀ x∈L,x < 256):exs (ops (GT k) 24) (cxOf 20) (V20 l c q m t) ((fBody (fnAt 20)).drop 7) (st.set c (intsD L))=some (FD.ret (.bytes L),V20 l c q m t,st.set c (intsD L)) :=
 exs_one (ex_if_f (n:=23) (st':=st.set c (intsD L)) (bD (d:=.bool false) rfl rfl) rfl) (aE (aP (ev_blt (fd:=.type "bytes") (ds:=[.cell c]) rfl (aB rfl rfl rfl) (aA rfl rfl rfl) rfl (pX (bH hc (bU L)) hL hs))))
include hs hL
theorem aHt:exs (ops (GT k) 24) (cxOf 20) (V20 l c 2 m t) ((fBody (fnAt 20)).drop 6) (st.set c (intsD L))=some (FD.ret (.bytes (L++encEnd 2 m)),V20 l c 2 m t,st.set c (intsD (L++encEnd 2 m))):=by
 have hm:m % 4 * 16 < 64:=Nat.mul_lt_mul_of_pos_right (Nat.mod_lt m (by decide)) (by decide)
 have e:L++encEnd 2 m=L++[b64S (m % 4 * 16)]++[61]++[61]:=by rw [List.append_assoc,List.append_assoc]; rfl
 have l1:=wB (b:=b64S (m % 4 * 16)) hs
 have l2:=wB (b:=61) l1
 rw [e]
 refine exs_one (aH (n:=23) (st':=st.set c (intsD L)) (tr_cmp (st':=st.set c (intsD L)) (a:=.int (2:Nat)) (b:=.int 2) rfl rfl (eq_t rfl)) (exs_one (kL hc (Nat.le_trans hs (by decide)) rfl rfl rfl rfl (ev_idx (st':=st.set c (intsD L)) (d:=.bytes b64L) (j:=.int (m % 4 * 16:Nat)) rfl (aB rfl rfl aAl) ?_ (uQ hm)))
  (exs_one (kL hc (Nat.le_trans l1 (by decide)) rfl rfl rfl rfl rfl) (exs_one (kL hc (Nat.le_trans l2 (by decide)) rfl rfl rfl rfl rfl) rfl)))) (uP hc (Nat.le_trans (wB l2) (by decide)) (kO (kO (kO hL (Nat.lt_trans (kY _) (by decide))) (by decide)) (by decide)))
 rw [← and3]
 exact aD (st':=st.set c (intsD L)) (a:=.int (m &&& 3:Nat)) (b:=.int (4:Nat)) (aD (st':=st.set c (intsD L)) (a:=.int m) (b:=.int (3:Nat)) rfl rfl (lY m 3)) rfl (jK (Nat.lt_trans (by rw [and3]; exact Nat.mod_lt m (by decide)) (by decide:4 < 1000000)) (by decide))
theorem aIa:exs (ops (GT k) 24) (cxOf 20) (V20 l c 4 m t) ((fBody (fnAt 20)).drop 6) (st.set c (intsD L))=some (FD.ret (.bytes (L++encEnd 4 m)),V20 l c 4 m t,st.set c (intsD (L++encEnd 4 m))):=by
 have hm:m % 16 * 4 < 64:=Nat.mul_lt_mul_of_pos_right (Nat.mod_lt m (by decide)) (by decide)
 have e:L++encEnd 4 m=L++[b64S (m % 16 * 4)]++[61]:=by rw [List.append_assoc]; rfl
 have l1:=wB (b:=b64S (m % 16 * 4)) hs
 rw [e]
 refine exs_one (ex_if_f (n:=23) (st':=st.set c (intsD L)) (tr_cmp (st':=st.set c (intsD L)) (a:=.int (4:Nat)) (b:=.int 2) rfl rfl rfl) (exs_one (aH (st':=st.set c (intsD L)) (tr_cmp (st':=st.set c (intsD L)) (a:=.int (4:Nat)) (b:=.int 4) rfl rfl (eq_t rfl)) (exs_one (kL hc (Nat.le_trans hs (by decide)) rfl rfl rfl rfl (ev_idx (st':=st.set c (intsD L)) (d:=.bytes b64L) (j:=.int (m % 16 * 4:Nat)) rfl (aB rfl rfl aAl) ?_ (uQ hm)))
  (exs_one (kL hc (Nat.le_trans l1 (by decide)) rfl rfl rfl rfl rfl) rfl))) rfl)) (uP hc (Nat.le_trans (wB l1) (by decide)) (kO (kO hL (Nat.lt_trans (kY _) (by decide))) (by decide)))
 rw [← aIq]
 exact aD (st':=st.set c (intsD L)) (a:=.int (m &&& 15:Nat)) (b:=.int (2:Nat)) (aD (st':=st.set c (intsD L)) (a:=.int m) (b:=.int (15:Nat)) rfl rfl (lY m 15)) rfl (jK (Nat.lt_trans (by rw [aIq]; exact Nat.mod_lt m (by decide)) (by decide:16 < 1000000)) (by decide))
end
theorem aPf (k c q m:Nat) (l L:List Nat) (st:Store) (t:Vars) (hl:look st c=some (intsD L)) (hs:L.length≤900) (hL:∀ x∈L,x < 256) :
  exs (ops (GT k) 24) (cxOf 20) (V20 l c q m t) ((fBody (fnAt 20)).drop 6) st=some (FD.ret (.bytes (L++encEnd q m)),V20 l c q m t,st.set c (intsD (L++encEnd q m))):=by
 have hc:=cG hl
 refine Eq.trans (congrArg (exs (ops (GT k) 24) (cxOf 20) (V20 l c q m t) ((fBody (fnAt 20)).drop 6)) (eI hl).symm) ?_
 by_cases h2:q=2
 ·rw [h2]; exact aHt hc hs hL
 by_cases h4:q=4
 ·rw [h4]; exact aIa hc hs hL
 have e:encEnd q m=[]:=by unfold encEnd; rw [if_neg h2,if_neg h4]
 rw [e,List.append_nil]
 exact exs_one (ex_if_f (n:=23) (st':=st.set c (intsD L)) (tr_cmp (st':=st.set c (intsD L)) (a:=.int q) (b:=.int 2) rfl rfl (eq_f fun e=>h2 (Int.ofNat.inj e))) (exs_one (ex_if_f (st':=st.set c (intsD L)) (tr_cmp (st':=st.set c (intsD L)) (a:=.int q) (b:=.int 4) rfl rfl (eq_f fun e=>h4 (Int.ofNat.inj e))) rfl) rfl)) (uP hc (Nat.le_trans hs (by decide)) hL)
theorem rX {S:Store} {L:List D} {d:D} (h:noCell d=true):aL S.length (S++[L]) d=some (d,S):=by
 rw [sZ (noCell_cellD h),if_pos h,take_last]
theorem aSh (k:Nat) (l:List Nat) (st:Store) (hb:∀ x∈l,x < 256) (hs:l.length≤400):(GT (k+2)).fn 137 [.bytes l] [("newline",.bool false)] st=some (.ret (.bytes (encL l)),st):=by
 have hl0:look (st++[[]]) st.length=some (intsD []):=fC rfl
 obtain⟨t',ht,w⟩:=aDx (k+1) st.length l l 0 0 [] (st++[[]]) [] hb (by decide) (by decide) hl0 (by show 0+2 * l.length≤900; lia) (.inl rfl)
 rw [lI,List.nil_append] at w
 have hlen:=mY l 0 0
 have he:=aPf (k+1) st.length (encGo l 0 0).2.1 (encGo l 0 0).2.2 l (encGo l 0 0).1 (st++[intsD (encGo l 0 0).1]) t' (fC (mU (bU _))) (by lia) (fun x hx=>Nat.lt_trans (qJ _ _ _ x hx) (by decide))
 rw [lI] at he
 have h:exs (ops (GT (k+1)) 24) (cxOf 20) ([("data",.bytes l),("newline",.bool false)]:Vars) (fBody (fnAt 20)) st=some (FD.ret (.bytes (encL l)),V20 l st.length (encGo l 0 0).2.1 (encGo l 0 0).2.2 t',st++[intsD (encL l)]) :=
  exs_one (aC (n:=23) (st':=st) (d:=.bytes l) rfl (aX (a:=107) (ds:=[.bytes l]) (kd:=[]) rfl (aB rfl rfl rfl) (aA rfl rfl rfl) rfl (aTp k l st)) rfl)
  (exs_one (aC (st':=st) (d:=.bool false) rfl (aX (a:=114) (ds:=[.bool false]) (kd:=[]) rfl (aB rfl rfl rfl) (aA rfl rfl rfl) rfl (aJg k false st)) rfl)
  (exs_one (aC (st':=st++[[]]) (d:=.cell st.length) rfl rfl rfl) (exs_one (aC (d:=.int 0) rfl rfl rfl) (exs_one (aC (d:=.int 0) rfl rfl rfl)
  (exs_one (tL (src:=.bytes l) (ds:=intsD l) rfl rfl rfl w) he)))))
 exact bK rfl rfl (aK h (rX rfl))
end Mine
end
section -- R16
open PySem
namespace Mine
noncomputable def fY (l:List Nat):List Nat:=l.map fun c=>(trTable [43,47] [34,32]).getD c 0
theorem aGj {l:List Nat} {st:Store} (h:l.length≤1000):fZ "translate" (.bytes l) [.bytes (trTable [43,47] [34,32])] st=some (.bytes (fY l),st):=by
 show (if ((("translate":Str) == ("translate":Str))&&(trTable [43,47] [34,32]).length == 256&&fits l.length)=true then some (D.bytes (fY l)) else none).map (fun r=>(r,st))=_
 rw [aF h]; kernel_rfl
theorem xV (l:List Nat):(encL l).length≤2 * l.length+3:=by
 have h:=mY l 0 0
 have h2:∀ q m,(encEnd q m).length≤3:=fun q m=>by
  unfold encEnd
  split
  ·exact Nat.le_refl _
  ·split
   ·exact Nat.le_succ 2
   ·exact Nat.zero_le 3
 have h3:=h2 (encGo l 0 0).2.1 (encGo l 0 0).2.2
 unfold encL
 rw [List.length_append]
 lia
theorem aSg (k:Nat) (l:List Nat) (st:Store) (hb:∀ x∈l,x < 256) (hs:l.length≤400):(GT (k+3)).fn 145 [.bytes l,.bytes [34,32]] [] st=some (.ret (.bytes (fY (encL l))),st):=by
 have hlen:=xV l
 have h:exs (ops (GT (k+2)) 24) (cxOf 22) ([("s",.bytes l),("altchars",.bytes [34,32])]:Vars) (fBody (fnAt 22)) st=some (FD.ret (.bytes (fY (encL l))),([("s",.bytes l),("altchars",.bytes [34,32]),("encoded",.bytes (encL l))]:Vars),st) :=
  exs_one (aC (n:=23) (st':=st) (d:=.bytes (encL l)) rfl (aX (a:=137) (ds:=[.bytes l]) (kd:=[("newline",.bool false)]) rfl (aB rfl rfl rfl) (aA rfl rfl rfl) rfl (aSh k l st hb hs)) rfl)
  (aE (aH (st':=st) (tr_cmp (st':=st) (a:=.bytes [34,32]) (b:=.none) rfl rfl rfl)
   (exs_one (tG (st':=st) (tr_cmp (st':=st) (a:=.int 2) (b:=.int 2) (ev_blt (fd:=.builtin "len") (ds:=[.bytes [34,32]]) rfl (aB rfl rfl rfl) (aA rfl rfl rfl) rfl rfl) rfl rfl))
   (aE (aP (ev_meth (st':=st) (st₂:=st) (d:=.bytes (encL l)) (ds:=[.bytes (trTable [43,47] [34,32])]) rfl rfl rfl rfl (aA rfl (ev_meth (st':=st) (st₂:=st) (d:=.type "bytes") (ds:=[.bytes [43,47],.bytes [34,32]]) rfl rfl (aB rfl rfl rfl) rfl (aA rfl rfl (aA rfl rfl rfl)) rfl) rfl) (aGj (by lia))))))))
 exact bK rfl rfl (aK h (aG rfl))
end Mine
end
section -- R17
open PySem
namespace Mine
theorem aSa:∀ i:Nat,i < 64→bval (b64S i:Nat)=(i:Int):=by decide +kernel
noncomputable def a2bQ (q m v:Nat):List Nat×Nat×Nat :=
 if q=0 then ([],1,v) else if q=1 then ([m * 4 ||| v / 16],2,v % 16) else if q=2 then ([m * 16 ||| v / 4],3,v % 4) else ([m * 64 ||| v],0,0)
noncomputable def aS:List Nat→Nat→Nat→List Nat×Nat×Nat
 | [],q,m=>([],q,m)
 | v::vs,q,m=>((a2bQ q m v).1++(aS vs (a2bQ q m v).2.1 (a2bQ q m v).2.2).1,(aS vs (a2bQ q m v).2.1 (a2bQ q m v).2.2).2)
end Mine
end
section -- R18
open PySem
namespace Mine
noncomputable def V19 (l:List Nat) (c q m pd i:Nat) (t:Vars):Vars:=([("data",.bytes l),("strict_mode",.bool false),("ascii_data",.bytes l),("out",.cell c),("quad_pos",.int q),("leftchar",.int m),("pads",.int pd),("i",.int i)]:Vars)++t
noncomputable def Tl19 (t:Vars):Prop:=t=[]∨∃ a:D,t=([("this_ch",a)]:Vars)
theorem aPt (k c q m pd i:Nat) (l:List Nat) (st:Store) :
  exs (ops (GT k) 23) (cxOf 19) (V19 l c q m pd i ([("this_ch",.int (61:Nat))]:Vars)) (loopAt 19 7).2 st=some (.cont,V19 l c q m (pd+1) (i+1) ([("this_ch",.int (61:Nat))]:Vars),st):=by
 have hi:binop .Add (.int (i:Int)) (.int 1)=some (.int ((i+1:Nat):Int)):=rfl
 have hp:binop .Add (.int (pd:Int)) (.int 1)=some (.int ((pd+1:Nat):Int)):=rfl
 refine dT (aH (n:=22) (st':=st) (tr_cmp (st':=st) (a:=.int (61:Nat)) (b:=.int 61) rfl rfl (eq_t rfl)) (exs_one (aC (st':=st) (d:=.int (pd+1:Nat)) rfl (aD (st':=st) (a:=.int pd) (b:=.int 1) rfl rfl hp) rfl) ?_))
 have hqp:binop .Add (.int (q:Int)) (.int ((pd+1:Nat):Int))=some (.int ((q+(pd+1):Nat):Int)):=rfl
 by_cases h1:2≤q
 ·by_cases h2:q+(pd+1)≤4
  ·exact dT (aH (st':=st) (jN (tr_cmp (st':=st) (a:=.int q) (b:=.int 2) rfl rfl (ge_t (by exact Int.ofNat_le.mpr (by assumption)))) (jN (tr_cmp (st':=st) (a:=.int (q+(pd+1):Nat)) (b:=.int 4) (aD (st':=st) (a:=.int q) (b:=.int (pd+1:Nat)) rfl rfl hqp) rfl (le_t (by exact Int.ofNat_lt.mpr (by assumption)))) rfl)) (exs_one (aC (st':=st) (d:=.int (i+1:Nat)) rfl (aD (st':=st) (a:=.int i) (b:=.int 1) rfl rfl hi) rfl) (dT rfl)))
  ·exact exs_one (ex_if_f (st':=st) (jN (tr_cmp (st':=st) (a:=.int q) (b:=.int 2) rfl rfl (ge_t (by exact Int.ofNat_le.mpr (by assumption)))) (gE (tr_cmp (st':=st) (a:=.int (q+(pd+1):Nat)) (b:=.int 4) (aD (st':=st) (a:=.int q) (b:=.int (pd+1:Nat)) rfl rfl hqp) rfl (le_f (by omega))))) rfl)
    (dT (aH (st':=st) (tK (b:=false) (bD (d:=.bool false) rfl rfl)) (exs_one (aC (st':=st) (d:=.int (i+1:Nat)) rfl (aD (st':=st) (a:=.int i) (b:=.int 1) rfl rfl hi) rfl) (dT rfl))))
 ·exact exs_one (ex_if_f (st':=st) (gE (tr_cmp (st':=st) (a:=.int q) (b:=.int 2) rfl rfl (ge_f (by lia)))) rfl)
   (dT (aH (st':=st) (tK (b:=false) (bD (d:=.bool false) rfl rfl)) (exs_one (aC (st':=st) (d:=.int (i+1:Nat)) rfl (aD (st':=st) (a:=.int i) (b:=.int 1) rfl rfl hi) rfl) (dT rfl))))
end Mine
end
section -- R19
open PySem
namespace Mine
theorem aOz (k c q m pd i v x:Nat) (l:List Nat) (st:Store) (R:Option (FD×Vars×Store)) (hx:x≠61) (hv:bval x=(v:Int)) (h64:v < 64)
  (hr:exs (ops (GT (k+1)) 23) (cxOf 19) (V19 l c q m 0 i ([("this_ch",.int v)]:Vars)) ((loopAt 19 7).2.drop 5) st=R) :
  exs (ops (GT (k+1)) 23) (cxOf 19) (V19 l c q m pd i ([("this_ch",.int x)]:Vars)) (loopAt 19 7).2 st=R:=by
 have h121:=aSd k (x:Int) st
 rw [hv] at h121
 refine exs_one (ex_if_f (n:=22) (st':=st) (tr_cmp (st':=st) (a:=.int x) (b:=.int 61) rfl rfl (eq_f (by lia))) rfl)
  (exs_one (aC (st':=st) (d:=.int v) rfl (aX (a:=121) (ds:=[.int x]) (kd:=[]) rfl (aB rfl rfl rfl) (aA rfl rfl rfl) rfl h121) rfl)
  (exs_one (ex_if_f (st':=st) (tr_cmp (st':=st) (a:=.int v) (b:=.int 64) rfl rfl (ge_f (by lia))) rfl)
  (exs_one (ex_if_f (st':=st) ?_ rfl) (exs_one (aC (st':=st) (d:=.int 0) rfl rfl rfl) hr))))
 induction pd using Nat.casesOn with
 | zero=>exact gE (bD (d:=.int 0) rfl rfl)
 | succ pd=>exact jN (bD (d:=.int (pd+1:Nat)) rfl (by show some (((pd+1:Nat):Int) != 0)=_; rfl)) (gE (bD (d:=.bool false) rfl rfl))
theorem cR {i:Nat}:binop .Add (.int (i:Int)) (.int 1)=some (.int ((i+1:Nat):Int)):=rfl
theorem aTs (k c m i v:Nat) (l:List Nat) (st:Store) :
  exs (ops (GT (k+1)) 23) (cxOf 19) (V19 l c 0 m 0 i ([("this_ch",.int v)]:Vars)) ((loopAt 19 7).2.drop 5) st=some (.next,V19 l c 1 v 0 (i+1) ([("this_ch",.int v)]:Vars),st) :=
 exs_one (aH (n:=22) (st':=st) (tr_cmp (st':=st) (a:=.int (0:Nat)) (b:=.int 0) rfl rfl (eq_t rfl)) (exs_one (aC (st':=st) (d:=.int (1:Nat)) rfl rfl rfl) (exs_one (aC (st':=st) (d:=.int v) rfl rfl rfl) rfl)))
  (exs_one (aC (st':=st) (d:=.int (i+1:Nat)) rfl (aD (st':=st) (a:=.int i) (b:=.int 1) rfl rfl cR) rfl) rfl)
theorem uW (a b:Nat):binop .BitOr (.int (a:Int)) (.int (b:Int))=some (.int ((a ||| b:Nat):Int)):=aNc a b (st:=[])
theorem aSi (k c m i v:Nat) (l L:List Nat) (st:Store) (hl:look st c=some (intsD L)) (hs:L.length≤1000) (hm:m < 64) :
  exs (ops (GT (k+1)) 23) (cxOf 19) (V19 l c 1 m 0 i ([("this_ch",.int v)]:Vars)) ((loopAt 19 7).2.drop 5) st=some (.next,V19 l c 2 (v % 16) 0 (i+1) ([("this_ch",.int v)]:Vars),st.set c (intsD (L++[m * 4 ||| v / 16]))):=by
 rw [← aIq]
 exact exs_one (ex_if_f (n:=22) (st':=st) (tr_cmp (st':=st) (a:=.int (1:Nat)) (b:=.int 0) rfl rfl rfl) (exs_one (aH (st':=st) (tr_cmp (st':=st) (a:=.int (1:Nat)) (b:=.int 1) rfl rfl (eq_t rfl))
   (exs_one (aC (st':=st) (d:=.int (2:Nat)) rfl rfl rfl) (exs_one (nS (x:=m * 4 ||| v / 16) hl hs rfl rfl rfl rfl (aD (st':=st) (a:=.int (m * 2 ^ 2:Nat)) (b:=.int (v / 2 ^ 4:Nat)) (aD (st':=st) (a:=.int m) (b:=.int (2:Nat)) rfl rfl (jK (by exact Nat.lt_of_lt_of_le (by assumption) (by decide)) (by exact Nat.le_add_left _ _))) (aD (st':=st) (a:=.int v) (b:=.int (4:Nat)) rfl rfl (tN v 4)) (uW _ _)))
   (exs_one (aC (d:=.int (v &&& 15:Nat)) rfl (aD (a:=.int v) (b:=.int (15:Nat)) rfl rfl (lY v 15)) rfl) rfl)))) rfl))
  (exs_one (aC (d:=.int (i+1:Nat)) rfl (aD (a:=.int i) (b:=.int 1) rfl rfl cR) rfl) rfl)
theorem aUb (k c m i v:Nat) (l L:List Nat) (st:Store) (hl:look st c=some (intsD L)) (hs:L.length≤1000) (hm:m < 64) :
  exs (ops (GT (k+1)) 23) (cxOf 19) (V19 l c 2 m 0 i ([("this_ch",.int v)]:Vars)) ((loopAt 19 7).2.drop 5) st=some (.next,V19 l c 3 (v % 4) 0 (i+1) ([("this_ch",.int v)]:Vars),st.set c (intsD (L++[m * 16 ||| v / 4]))):=by
 rw [← and3]
 exact exs_one (ex_if_f (n:=22) (st':=st) (tr_cmp (st':=st) (a:=.int (2:Nat)) (b:=.int 0) rfl rfl rfl) (exs_one (ex_if_f (st':=st) (tr_cmp (st':=st) (a:=.int (2:Nat)) (b:=.int 1) rfl rfl rfl) (exs_one (aH (st':=st) (tr_cmp (st':=st) (a:=.int (2:Nat)) (b:=.int 2) rfl rfl (eq_t rfl))
   (exs_one (aC (st':=st) (d:=.int (3:Nat)) rfl rfl rfl) (exs_one (nS (x:=m * 16 ||| v / 4) hl hs rfl rfl rfl rfl (aD (st':=st) (a:=.int (m * 2 ^ 4:Nat)) (b:=.int (v / 2 ^ 2:Nat)) (aD (st':=st) (a:=.int m) (b:=.int (4:Nat)) rfl rfl (jK (by exact Nat.lt_of_lt_of_le (by assumption) (by decide)) (by exact Nat.le_add_left _ _))) (aD (st':=st) (a:=.int v) (b:=.int (2:Nat)) rfl rfl (tN v 2)) (uW _ _)))
   (exs_one (aC (d:=.int (v &&& 3:Nat)) rfl (aD (a:=.int v) (b:=.int (3:Nat)) rfl rfl (lY v 3)) rfl) rfl)))) rfl)) rfl))
  (exs_one (aC (d:=.int (i+1:Nat)) rfl (aD (a:=.int i) (b:=.int 1) rfl rfl cR) rfl) rfl)
theorem aTf (k c m i v:Nat) (l L:List Nat) (st:Store) (hl:look st c=some (intsD L)) (hs:L.length≤1000) (hm:m < 64) :
  exs (ops (GT (k+1)) 23) (cxOf 19) (V19 l c 3 m 0 i ([("this_ch",.int v)]:Vars)) ((loopAt 19 7).2.drop 5) st=some (.next,V19 l c 0 0 0 (i+1) ([("this_ch",.int v)]:Vars),st.set c (intsD (L++[m * 64 ||| v]))) :=
 exs_one (ex_if_f (n:=22) (st':=st) (tr_cmp (st':=st) (a:=.int (3:Nat)) (b:=.int 0) rfl rfl rfl) (exs_one (ex_if_f (st':=st) (tr_cmp (st':=st) (a:=.int (3:Nat)) (b:=.int 1) rfl rfl rfl) (exs_one (ex_if_f (st':=st) (tr_cmp (st':=st) (a:=.int (3:Nat)) (b:=.int 2) rfl rfl rfl)
   (exs_one (aC (st':=st) (d:=.int (0:Nat)) rfl rfl rfl) (exs_one (nS (x:=m * 64 ||| v) hl hs rfl rfl rfl rfl (aD (st':=st) (a:=.int (m * 2 ^ 6:Nat)) (b:=.int v) (aD (st':=st) (a:=.int m) (b:=.int (6:Nat)) rfl rfl (jK (by exact Nat.lt_of_lt_of_le (by assumption) (by decide)) (by exact Nat.le_add_left _ _))) rfl (uW _ _)))
   (exs_one (aC (d:=.int (0:Nat)) rfl rfl rfl) rfl)))) rfl)) rfl))
  (exs_one (aC (d:=.int (i+1:Nat)) rfl (aD (a:=.int i) (b:=.int 1) rfl rfl cR) rfl) rfl)
end Mine
end
section -- R20
open PySem
namespace Mine
theorem aKf (k c q m pd i v x:Nat) (l L:List Nat) (st:Store) (hx:x≠61) (hv:bval x=(v:Int)) (h64:v < 64) (hq:q < 4) (hm:m < 64) (hl:look st c=some (intsD L)) (hs:L.length≤1000) :
  exs (ops (GT (k+1)) 23) (cxOf 19) (V19 l c q m pd i ([("this_ch",.int x)]:Vars)) (loopAt 19 7).2 st=some (.next,V19 l c (a2bQ q m v).2.1 (a2bQ q m v).2.2 0 (i+1) ([("this_ch",.int v)]:Vars),st.set c (intsD (L++(a2bQ q m v).1))):=by
 refine aOz k c q m pd i v x l st _ hx hv h64 ?_
 match q,hq with
 | 0,_ =>
  have e:a2bQ 0 m v=([],1,v):=rfl
  rw [e,List.append_nil,eI hl]
  exact aTs k c m i v l st
 | 1,_=>exact aSi k c m i v l L st hl hs hm
 | 2,_=>exact aUb k c m i v l L st hl hs hm
 | 3,_=>exact aTf k c m i v l L st hl hs hm
theorem aQt {q m v:Nat} (hq:q < 4) (hv:v < 64):(a2bQ q m v).2.1 < 4∧(a2bQ q m v).2.2 < 64∧(a2bQ q m v).1.length≤1:=by
 unfold a2bQ
 split
 ·exact⟨(by decide:1 < 4),hv,Nat.zero_le _⟩
 split
 ·exact⟨(by decide:2 < 4),(by show v % 16 < 64; lia),Nat.le_refl _⟩
 split
 ·exact⟨(by decide:3 < 4),(by show v % 4 < 64; lia),Nat.le_refl _⟩
 ·exact⟨(by decide:0 < 4),(by decide:0 < 64),Nat.le_refl _⟩
end Mine
end
section -- R21
open PySem
namespace Mine
theorem aDd (k c:Nat) (l:List Nat) (rest:List D):∀ (vs:List Nat) (q m pd i:Nat) (L:List Nat) (st:Store) (t:Vars),(∀ v∈vs,v < 64)→q < 4→m < 64→look st c=some (intsD L)→L.length+vs.length≤900→Tl19 t →
  ∃ t',Tl19 t'∧forGo (ops (GT (k+1)) 23) (cxOf 19) (tgtAt 19 7) (loopAt 19 7).2 (intsD (vs.map b64S)++rest) (V19 l c q m pd i t) st =
   forGo (ops (GT (k+1)) 23) (cxOf 19) (tgtAt 19 7) (loopAt 19 7).2 rest (V19 l c (aS vs q m).2.1 (aS vs q m).2.2 (if vs=[] then pd else 0) (i+vs.length) t') (st.set c (intsD (L++(aS vs q m).1)))
 | [],q,m,pd,i,L,st,t,_,_,_,hl,_,ht=>⟨t,ht,by rw [aS,List.append_nil,eI hl]; rfl⟩
 | v::vs,q,m,pd,i,L,st,t,hv,hq,hm,hl,hs,ht=>by
  have hv0:=hv v List.mem_cons_self
  obtain⟨q1,q2,q3⟩:=aQt (m:=m) hq hv0
  have hx:b64S v≠61:=(by decide +kernel:∀ v < 64,b64S v≠61) v hv0
  have h1:=aKf k c q m pd i v (b64S v) l L st hx (aSa v hv0) hv0 hq hm hl (by rw [List.length_cons] at hs; exact Nat.le_trans (Nat.le_trans (Nat.le_add_right _ _) (by assumption)) (by decide))
  obtain⟨t',ht',e⟩:=aDd k c l rest vs _ _ 0 (i+1) _ _ ([("this_ch",.int v)]:Vars) (fun x hx=>hv x (List.mem_cons_of_mem _ hx)) q1 q2 (bH (cG hl) (bU (L++(a2bQ q m v).1))) (by rw [List.length_append]; rw [List.length_cons] at hs; lia) (.inr ⟨_,rfl⟩)
  rw [List.set_set,List.append_assoc,ite_self,show i+1+vs.length=i+(v::vs).length from by rw [List.length_cons]; exact Nat.succ_add _ _] at e
  refine⟨t',ht',lJ (st':=st) (vars':=V19 l c q m pd i ([("this_ch",.int (b64S v:Nat))]:Vars)) ?_ h1 e⟩
  rcases ht with rfl | ⟨a,rfl⟩ <;> rfl
end Mine
end
section -- R22
open PySem
namespace Mine
theorem yN (k c q m:Nat) (l:List Nat) (st:Store):∀ (n pd i:Nat) (t:Vars),Tl19 t→∃ t',Tl19 t'∧forGo (ops (GT (k+1)) 23) (cxOf 19) (tgtAt 19 7) (loopAt 19 7).2 (intsD (List.replicate n 61)) (V19 l c q m pd i t) st=some (.next,V19 l c q m (pd+n) (i+n) t',st)
 | 0,pd,i,t,ht=>⟨t,ht,rfl⟩
 | n+1,pd,i,t,ht=>by
  obtain⟨t',ht',e⟩:=yN k c q m l st n (pd+1) (i+1) ([("this_ch",.int (61:Nat))]:Vars) (.inr ⟨_,rfl⟩)
  rw [show pd+1+n=pd+(n+1) from by exact Nat.succ_add _ _,show i+1+n=i+(n+1) from by exact Nat.succ_add _ _] at e
  refine⟨t',ht',aJi (st':=st) (vars':=V19 l c q m pd i ([("this_ch",.int (61:Nat))]:Vars)) ?_ (aPt (k+1) c q m pd i l st) e⟩
  rcases ht with rfl | ⟨a,rfl⟩ <;> rfl
theorem aPe (k c q m pd i:Nat) (l L:List Nat) (st:Store) (t:Vars) (hl:look st c=some (intsD L)) (hs:L.length≤900) (hL:∀ x∈L,x < 256) (ht:Tl19 t) (h1:q≠1) (h2:q=0∨4≤q+pd) :
  exs (ops (GT (k+1)) 24) (cxOf 19) (V19 l c q m pd i t) ((fBody (fnAt 19)).drop 8) st=some (FD.ret (.bytes L),V19 l c q m pd i t,st):=by
 have hqp:binop .Add (.int (q:Int)) (.int (pd:Int))=some (.int ((q+pd:Nat):Int)):=rfl
 rcases ht with rfl | ⟨a,rfl⟩
 all_goals
  refine exs_one (ex_if_f (n:=23) (st':=st) (tr_cmp (st':=st) (a:=.int q) (b:=.int 1) rfl rfl (eq_f (by lia))) rfl) (exs_one (ex_if_f (st':=st) ?_ rfl) (aE (aP (ev_blt (fd:=.type "bytes") (ds:=[.cell c]) rfl (aB rfl rfl rfl) (aA rfl rfl rfl) rfl (pX hl hL (by exact Nat.le_trans (by assumption) (by decide)))))))
  by_cases h0:q=0
  ·subst h0
   exact gE (tr_cmp (st':=st) (a:=.int (0:Nat)) (b:=.int 0) rfl rfl rfl)
  ·have e:cmpop st .NotEq (.int (q:Int)) (.int 0)=some true:=by
    show some (!((q:Int) == 0))=_
    rw [beq_eq_false_iff_ne.mpr (by exact Int.ofNat_ne_zero.mpr (by assumption))]; rfl
   exact jN (tr_cmp (st':=st) (a:=.int q) (b:=.int 0) rfl rfl e) (gE (tr_cmp (st':=st) (a:=.int (q+pd:Nat)) (b:=.int (4:Nat)) (aD (st':=st) (a:=.int q) (b:=.int pd) rfl rfl hqp) rfl (lt_f (by lia))))
end Mine
end
section -- R23
open PySem
namespace Mine
theorem aKr (k n:Nat) (vs:List Nat) (st:Store) (hv:∀ v∈vs,v < 64) (hs:vs.length≤800) (h8:∀ x∈(aS vs 0 0).1,x < 256) (hl9:(aS vs 0 0).1.length≤900) (h1:(aS vs 0 0).2.1≠1) (h2:(aS vs 0 0).2.1=0∨4≤(aS vs 0 0).2.1+n) :
  (GT (k+2)).fn 129 [.bytes (vs.map b64S++List.replicate n 61)] [("strict_mode",.bool false)] st=some (.ret (.bytes (aS vs 0 0).1),st):=by
 have hl0:look (st++[[]]) st.length=some (intsD []):=fC rfl
 generalize hl:vs.map b64S++List.replicate n 61=l
 have e:intsD l=intsD (vs.map b64S)++intsD (List.replicate n 61):=by rw [← hl]; exact List.map_append
 obtain⟨t',ht,w⟩:=aDd k st.length l (intsD (List.replicate n 61)) vs 0 0 0 0 [] (st++[[]]) [] hv (by decide) (by decide) hl0 (by show 0+vs.length≤900; lia) (.inl rfl)
 rw [lI,List.nil_append,ite_self,← e] at w
 obtain⟨t₂,ht₂,w₂⟩:=yN k st.length (aS vs 0 0).2.1 (aS vs 0 0).2.2 l (st++[intsD (aS vs 0 0).1]) n 0 (0+vs.length) t' ht
 rw [w₂] at w
 have he:=aPe k st.length (aS vs 0 0).2.1 (aS vs 0 0).2.2 (0+n) (0+vs.length+n) l (aS vs 0 0).1 (st++[intsD (aS vs 0 0).1]) t₂ (fC (mU (bU _))) hl9 h8 ht₂ h1 (by lia)
 have h:exs (ops (GT (k+1)) 24) (cxOf 19) ([("data",.bytes l),("strict_mode",.bool false)]:Vars) (fBody (fnAt 19)) st=some (FD.ret (.bytes (aS vs 0 0).1),V19 l st.length (aS vs 0 0).2.1 (aS vs 0 0).2.2 (0+n) (0+vs.length+n) t₂,st++[intsD (aS vs 0 0).1]) :=
  exs_one (aC (n:=23) (st':=st) (d:=.bytes l) rfl (aX (a:=100) (ds:=[.bytes l]) (kd:=[]) rfl (aB rfl rfl rfl) (aA rfl rfl rfl) rfl (aSl k l st)) rfl)
  (exs_one (aC (st':=st) (d:=.bool false) rfl (aX (a:=114) (ds:=[.bool false]) (kd:=[]) rfl (aB rfl rfl rfl) (aA rfl rfl rfl) rfl (aJg k false st)) rfl)
  (exs_one (aC (st':=st++[[]]) (d:=.cell st.length) rfl rfl rfl) (exs_one (aC (d:=.int 0) rfl rfl rfl) (exs_one (aC (d:=.int 0) rfl rfl rfl)
  (exs_one (aC (d:=.int 0) rfl rfl rfl) (exs_one (aC (d:=.int 0) rfl rfl rfl)
  (exs_one (tL (src:=.bytes l) (ds:=intsD l) rfl rfl rfl w) he)))))))
 exact bK rfl rfl (aK h (rX rfl))
end Mine
end
section -- R24
open PySem
namespace Mine
noncomputable def gY (l:List Nat):List Nat:=l.map fun c=>(trTable [34,32] [43,47]).getD c 0
theorem aAj {l:List Nat} {st:Store} (h:l.length≤1000):fZ "translate" (.bytes l) [.bytes (trTable [34,32] [43,47])] st=some (.bytes (gY l),st):=by
 show (if ((("translate":Str) == ("translate":Str))&&(trTable [34,32] [43,47]).length == 256&&fits l.length)=true then some (D.bytes (gY l)) else none).map (fun r=>(r,st))=_
 rw [aF h]; kernel_rfl
theorem aMx (k:Nat) (l:List Nat) (r:List Nat) (st:Store) (ha:l.all (· < 128)=true) (hs:l.length≤400)
  (h129:(GT (k+2)).fn 129 [.bytes (gY l)] [("strict_mode",.bool false)] st=some (.ret (.bytes r),st)):(GT (k+3)).fn 153 [.str l,.bytes [34,32]] [] st=some (.ret (.bytes r),st):=by
 have h:exs (ops (GT (k+2)) 24) (cxOf 23) ([("s",.str l),("altchars",.bytes [34,32]),("validate",.bool false)]:Vars) (fBody (fnAt 23)) st=some (FD.ret (.bytes r),([("s",.bytes (gY l)),("altchars",.bytes [34,32]),("validate",.bool false)]:Vars),st) :=
  exs_one (aC (n:=23) (st':=st) (d:=.bytes l) rfl (aX (a:=80) (ds:=[.str l]) (kd:=[]) rfl (aB rfl rfl rfl) (aA rfl rfl rfl) rfl (aTn (k+1) l st ha (aF (by exact Nat.le_trans (by assumption) (by decide))))) rfl)
  (exs_one (aH (st':=st) (tr_cmp (st':=st) (a:=.bytes [34,32]) (b:=.none) rfl rfl rfl)
   (exs_one (aC (st':=st) (d:=.bytes [34,32]) rfl (aX (a:=80) (ds:=[.bytes [34,32]]) (kd:=[]) rfl (aB rfl rfl rfl) (aA rfl rfl rfl) rfl (aSo (k+1) _ st)) rfl)
   (exs_one (tG (st':=st) (tr_cmp (st':=st) (a:=.int 2) (b:=.int 2) (ev_blt (fd:=.builtin "len") (ds:=[.bytes [34,32]]) rfl (aB rfl rfl rfl) (aA rfl rfl rfl) rfl rfl) rfl rfl))
   (exs_one (aC (st':=st) (d:=.bytes (gY l)) rfl (ev_meth (st':=st) (st₂:=st) (d:=.bytes l) (ds:=[.bytes (trTable [34,32] [43,47])]) rfl rfl rfl rfl (aA rfl (ev_meth (st':=st) (st₂:=st) (d:=.type "bytes") (ds:=[.bytes [34,32],.bytes [43,47]]) rfl rfl (aB rfl rfl rfl) rfl (aA rfl rfl (aA rfl rfl rfl)) rfl) rfl) (aAj (by exact Nat.le_trans (by assumption) (by decide)))) rfl) rfl))))
  (aE (aP (aX (a:=129) (ds:=[.bytes (gY l)]) (kd:=[("strict_mode",.bool false)]) rfl (aB rfl rfl rfl) (aA rfl rfl rfl) rfl h129))))
 exact bK rfl rfl (aK h (aG rfl))
end Mine
end
section -- R25
open PySem
namespace Mine
noncomputable def und:Bool→List Nat→List Nat
 | _,[]=>[]
 | false,c::r=>if c=34 then und true r else c::und false r
 | true,c::r=>if c=34 then 34::und false r else []
noncomputable def V7 (l dn:List Nat) (i:Nat) (t:Vars):Vars:=([("resp",.str l),("dirname",.str dn),("i",.int i),("n",.int (l.length:Nat))]:Vars)++t
noncomputable def Tl7 (t:Vars):Prop:=t=[]∨∃ a:D,t=([("c",a)]:Vars)
theorem oZ {m p:Nat} (h:p < m) (hs:m≤1000):place m (p:Int)=some p:=by
 unfold place
 rw [if_pos (by rw [decide_eq_true (by exact Int.natCast_nonneg _),decide_eq_true (by exact Int.ofNat_lt.mpr (by assumption)),decide_eq_true (by lia)]; rfl),Int.toNat_natCast]
theorem jI {st:Store} {l:List Nat} {i c:Nat} (hs:l.length≤1000) (hx:l[i]? = some c):index st (.str l) (.int (i:Int))=some (.str [c]):=by
 have hp:i < l.length:=(List.getElem?_eq_some_iff.mp hx).1
 show (place l.length (i:Int)).bind (fun k=>(l[k]?).map fun c=>D.str [c])=_
 rw [oZ hp hs]
 show (l[i]?).map _=_
 rw [hx]; rfl
theorem fQ {a b:List Nat} (h:a.length+b.length≤1000):binop .Add (.str a) (.str b)=some (.str (a++b)):=by
 show (if fits (a.length+b.length) then some (D.str (a++b)) else none)=_
 rw [aF h]; rfl
theorem aJm {st:Store} {a b:List Nat} (h:a=b):cmpop st .Eq (.str a) (.str b)=some true:=congrArg some (decide_eq_true h)
theorem aUr {st:Store} {a b:List Nat} (h:a≠b):cmpop st .Eq (.str a) (.str b)=some false:=congrArg some (decide_eq_false h)
theorem vG {st:Store} {a b:List Nat} (h:a≠b):cmpop st .NotEq (.str a) (.str b)=some true:=by
 show some (!decide (a=b))=_
 rw [decide_eq_false h]; rfl
theorem tC {st:Store} {a b:List Nat} (h:a=b):cmpop st .NotEq (.str a) (.str b)=some false:=by
 show some (!decide (a=b))=_
 rw [decide_eq_true h]; rfl
theorem aDo {l:List Nat} {i c:Nat} (h:l[i]? = some c):l.drop i=c::l.drop (i+1):=by
 obtain⟨h1,h2⟩:=List.getElem?_eq_some_iff.mp h
 rw [List.drop_eq_getElem_cons h1,h2]
theorem kC (k:Nat) (l:List Nat) (st:Store) (hs:l.length≤900):∀ (f i:Nat) (dn:List Nat) (m:Nat) (t:Vars),l.length≤i+f→dn.length≤i→f < m→Tl7 t →
  ∃ i' t',whileGo (ops (GT k) 23) (cxOf 7) (loopAt 7 5).1 (loopAt 7 5).2 m (V7 l dn i t) st=some (.next,V7 l (dn++und false (l.drop i)) i' t',st)
 | f,i,dn,m+1,t,hf,hd,hm,ht=>by
  by_cases hi:i < l.length
  ·obtain⟨c,hc⟩:∃ c,l[i]? = some c:=⟨_,List.getElem?_eq_getElem hi⟩
   have htr:(ops (GT k) 23).tr (cxOf 7) (V7 l dn i t) (loopAt 7 5).1 st=some (true,st):=by
    refine tr_cmp (st':=st) (a:=.int i) (b:=.int (l.length:Nat)) ?_ ?_ (lt_t hi)
    ·rcases ht with rfl | ⟨a,rfl⟩ <;> rfl
    ·rcases ht with rfl | ⟨a,rfl⟩ <;> rfl
   have e0:(ops (GT k) 23).ex (cxOf 7) (V7 l dn i t) ((loopAt 7 5).2.getD 0 (.Pass ⟨0,0,0,0⟩)) st=some (.next,V7 l dn i ([("c",.str [c])]:Vars),st):=by
    have e:vset "c" (.str [c]) (V7 l dn i t)=V7 l dn i ([("c",.str [c])]:Vars):=by
     rcases ht with rfl | ⟨a,rfl⟩ <;> rfl
    rw [← e]
    refine aC (n:=22) (st':=st) (d:=.str [c]) rfl (ev_idx (st':=st) (d:=.str l) (j:=.int i) rfl ?_ ?_ (jI (by lia) hc)) rfl
    ·rcases ht with rfl | ⟨a,rfl⟩ <;> rfl
    ·rcases ht with rfl | ⟨a,rfl⟩ <;> rfl
   have e1:(ops (GT k) 23).ex (cxOf 7) (V7 l dn i ([("c",.str [c])]:Vars)) ((loopAt 7 5).2.getD 1 (.Pass ⟨0,0,0,0⟩)) st=some (.next,V7 l dn (i+1) ([("c",.str [c])]:Vars),st) :=
    aC (n:=22) (st':=st) (d:=.int (i+1:Nat)) rfl (aD (st':=st) (a:=.int i) (b:=.int 1) rfl rfl cR) rfl
   have e3:∀ j,dn.length < j→(ops (GT k) 23).ex (cxOf 7) (V7 l dn j ([("c",.str [c])]:Vars)) ((loopAt 7 5).2.getD 3 (.Pass ⟨0,0,0,0⟩)) st=some (.next,V7 l (dn++[c]) j ([("c",.str [c])]:Vars),st):=fun j hj =>
    aC (n:=22) (st':=st) (d:=.str (dn++[c])) rfl (aD (st':=st) (a:=.str dn) (b:=.str [c]) rfl rfl (fQ (by show dn.length+1≤1000; lia))) rfl
   rw [aDo hc]
   cases f with
   | zero=>lia
   | succ f =>
   by_cases hq:c=34
   ·subst hq
    rw [und,if_pos rfl]
    by_cases h2:i+1 < l.length
    ·obtain⟨c2,hc2⟩:∃ c,l[i+1]? = some c:=⟨_,List.getElem?_eq_getElem h2⟩
     rw [aDo hc2]
     by_cases hq2:c2=34
     ·subst hq2
      rw [und,if_pos rfl]
      obtain⟨i',t',w⟩:=kC k l st hs f (i+2) (dn++[34]) m ([("c",.str [34])]:Vars) (by lia) (by rw [List.length_append]; show dn.length+1≤i+2; lia) (by exact Nat.lt_of_succ_lt_succ (by assumption)) (.inr ⟨_,rfl⟩)
      rw [List.append_assoc] at w
      exact⟨i',t',dC htr (exs_one e0 (exs_one e1 (exs_one (aH (st':=st) (tr_cmp (st':=st) (a:=.str [34]) (b:=.str [34]) rfl rfl (aJm rfl)) (exs_one (ex_if_f (st':=st) (or_f (st':=st) (tr_cmp (st':=st) (a:=.int (i+1:Nat)) (b:=.int (l.length:Nat)) rfl rfl (ge_f (by omega))) (or_f (st':=st) (tr_cmp (st':=st) (a:=.str [34]) (b:=.str [34]) (ev_idx (st':=st) (d:=.str l) (j:=.int (i+1:Nat)) rfl rfl rfl (jI (by lia) hc2)) rfl (tC rfl)) rfl)) rfl)
       (exs_one (aC (st':=st) (d:=.int (i+2:Nat)) rfl (aD (st':=st) (a:=.int (i+1:Nat)) (b:=.int 1) rfl rfl cR) rfl) rfl))) (exs_one (e3 (i+2) (by lia)) rfl)))) w⟩
     ·rw [und,if_neg hq2,List.append_nil]
      exact⟨_,_,mW htr (exs_one e0 (exs_one e1 (hV (aH (st':=st) (tr_cmp (st':=st) (a:=.str [34]) (b:=.str [34]) rfl rfl (aJm rfl)) (hV (aH (st':=st) (or_f (st':=st) (tr_cmp (st':=st) (a:=.int (i+1:Nat)) (b:=.int (l.length:Nat)) rfl rfl (ge_f (by omega))) (or_t (st':=st) (tr_cmp (st':=st) (a:=.str [c2]) (b:=.str [34]) (ev_idx (st':=st) (d:=.str l) (j:=.int (i+1:Nat)) rfl rfl rfl (jI (by lia) hc2)) rfl (vG (fun h=>hq2 (List.cons.inj h).1))))) (hV rfl)))))))⟩
    ·rw [List.drop_eq_nil_of_le (by exact Nat.le_of_not_lt (by assumption)),und,List.append_nil]
     exact⟨_,_,mW htr (exs_one e0 (exs_one e1 (hV (aH (st':=st) (tr_cmp (st':=st) (a:=.str [34]) (b:=.str [34]) rfl rfl (aJm rfl)) (hV (aH (st':=st) (or_t (st':=st) (tr_cmp (st':=st) (a:=.int (i+1:Nat)) (b:=.int (l.length:Nat)) rfl rfl (ge_t (by lia)))) (hV rfl)))))))⟩
   ·rw [und,if_neg hq]
    obtain⟨i',t',w⟩:=kC k l st hs f (i+1) (dn++[c]) m ([("c",.str [c])]:Vars) (by lia) (by rw [List.length_append]; show dn.length+1≤i+1; exact Nat.succ_le_succ (by assumption)) (by exact Nat.lt_of_succ_lt_succ (by assumption)) (.inr ⟨_,rfl⟩)
    rw [List.append_assoc] at w
    exact⟨i',t',dC htr (exs_one e0 (exs_one e1 (exs_one (ex_if_f (st':=st) (tr_cmp (st':=st) (a:=.str [c]) (b:=.str [34]) rfl rfl (aUr (fun h=>hq (List.cons.inj h).1))) rfl) (exs_one (e3 (i+1) (by exact Nat.succ_le_succ (by assumption))) rfl)))) w⟩
  ·rw [List.drop_eq_nil_of_le (by exact Nat.le_of_not_lt (by assumption)),und,List.append_nil]
   refine⟨i,t,fX (tr_cmp (st':=st) (a:=.int i) (b:=.int (l.length:Nat)) ?_ ?_ (lt_f hi))⟩
   ·rcases ht with rfl | ⟨a,rfl⟩ <;> rfl
   ·rcases ht with rfl | ⟨a,rfl⟩ <;> rfl
end Mine
end
section -- R26
open PySem
namespace Mine
section
variable {G:Gx} {n k:Nat} {o:Ops} {cx:Cx} {vars vars' vars₂:Vars} {st st' st₂ st₃:Store} {R:Option (FD×Vars×Store)}
theorem cX {s:Stmt} {r:List Stmt} {a:Nat} {d:D} (h:o.ex cx vars s st=some (.exc a d,vars',st')):exs o cx vars (s::r) st=some (.exc a d,vars',st'):=bI h rfl
theorem aTb:∀ k,(GT k).exc=excT
 | 0=>rfl
 | _+1=>rfl
theorem gR {e a:Expr} {x:Str} {xp p:Pos} {c:Nat} {d:D} (hc:aBp e=some (x,xp,a)) (h1:(ops (GT k) n).ev cx vars (.Name x xp) st=some (.obj c,st')) (h2:(ops (GT k) n).ev cx vars a st'=some (d,st₂)) (hx:(excT c&&!(isStar a))=true) :
  (ops (GT k) (n+1)).ex cx vars (.Raise (some e) none p) st=some (.exc c d,vars,st₂):=by
 show gO (GT k) (ops (GT k) n) cx vars e st=_
 unfold gO
 rw [hc]
 show ((ops (GT k) n).ev cx vars (.Name x xp) st).bind _=_
 rw [h1]
 show ((ops (GT k) n).ev cx vars a st').bind _=_
 rw [h2]
 show (if ((GT k).exc c&&!(isStar a))=true then some (FD.exc c d,vars,st₂) else none)=_
 rw [aTb,hx]; rfl
theorem pO {sc:Scope} {b:List Stmt} {vd:Vars} {a:Nat} {d d':D} (h1:exs (ops G 24) ⟨sc.names,sc.names⟩ vd b st=some (.exc a d,vars',st')) (h2:aL st.length st' d=some (d',st₂)):runF G sc b vd st=some (.exc a d',st₂):=by
 unfold runF
 rw [h1]
 show (aL st.length st' d).map _=_
 rw [h2]; rfl
theorem aJl {l:List Nat} {hi:Nat} (hs:l.length≤1000):slice (.str l) none (some (hi:Int))=some (.str (l.take (min hi l.length))):=by
 show (if (true&&decide ((0:Int)≤hi))=true then (if fits l.length then some (D.str (cut l 0 (min (hi:Int).toNat l.length))) else none) else none)=_
 rw [decide_eq_true (by exact Int.natCast_nonneg _),aF hs,Int.toNat_natCast]
 rfl
theorem pF {l:List Nat} {lo hi:Nat} (hs:l.length≤1000):slice (.str l) (some (lo:Int)) (some (hi:Int))=some (.str ((l.drop lo).take (min hi l.length - lo))):=by
 show (if (decide ((0:Int)≤lo)&&decide ((0:Int)≤hi))=true then (if fits l.length then some (D.str (cut l (lo:Int).toNat (min (hi:Int).toNat l.length))) else none) else none)=_
 rw [decide_eq_true (by exact Int.natCast_nonneg _),decide_eq_true (by exact Int.natCast_nonneg _),aF hs,Int.toNat_natCast,Int.toNat_natCast]
 rfl
theorem lV {st:Store} {a b c:Nat} {r:List Nat} (hs:r.length≤900) {v hi:Expr} {p q:Pos} (h1:(ops G n).ev cx vars v st=some (.str (a::b::c::r),st)) (h2:(ops G n).ev cx vars hi st=some (.int (3:Nat),st)):(ops G (n+1)).ev cx vars (.Subscript v (.Slice none (some hi) none q) p) st=some (.str [a,b,c],st):=by
 have hl:(a::b::c::r).length=r.length+3:=rfl
 refine fH (st':=st) (a:=none) (b:=some (3:Nat)) (st₂:=st) h1 rfl ?_ ?_
 ·exact bI h2 rfl
 ·rw [aJl (by lia),hl,Nat.min_eq_left (by exact Nat.le_add_left _ _)]; rfl
end
theorem aUh (k:Nat) (r:List Nat) (st:Store) (hs:r.length≤800):(GT (k+1)).fn 72 [.str (50::53::55::32::34::r)] [] st=some (.ret (.str (und false r)),st):=by
 have hl:(50::53::55::32::34::r).length=r.length+5:=rfl
 obtain⟨i',t',w⟩:=kC k (50::53::55::32::34::r) st (by lia) (r.length+5) 5 [] turns [] (by exact Nat.le_add_left _ _) (by show 0≤5; exact Nat.zero_le _) (by unfold turns; lia) (.inl rfl)
 have h:exs (ops (GT k) 24) (cxOf 7) ([("resp",D.str (50::53::55::32::34::r))]:Vars) (fBody (fnAt 7)) st=some (FD.ret (.str (und false r)),V7 (50::53::55::32::34::r) (und false r) i' t',st):=by
  refine exs_one (ex_if_f (n:=23) (st':=st) (tr_cmp (st':=st) (a:=.str [50,53,55]) (b:=.str [50,53,55]) (lV (r:=32::34::r) (by simp; exact Nat.le_trans (by assumption) (by decide)) rfl rfl) rfl (tC rfl)) rfl)
   (exs_one (ex_if_f (st':=st) (tr_cmp (st':=st) (a:=.str [32,34]) (b:=.str [32,34]) (fH (st':=st) (st₂:=st) (a:=some (3:Nat)) (b:=some (5:Nat)) rfl rfl rfl ?_) rfl (tC rfl)) rfl)
   (exs_one (aC (st':=st) (d:=.str []) rfl rfl rfl) (exs_one (aC (st':=st) (d:=.int 5) rfl rfl rfl)
   (exs_one (aC (st':=st) (d:=.int ((50::53::55::32::34::r).length:Nat)) rfl (ev_blt (fd:=.builtin "len") (ds:=[.str (50::53::55::32::34::r)]) rfl (aB rfl rfl rfl) (aA rfl rfl rfl) rfl ?_) rfl)
   (exs_one (fD w) (aE (aP rfl)))))))
  ·rw [pF (by lia),hl,Nat.min_eq_left (by exact Nat.le_add_left _ _)]; rfl
  ·show (if fits (50::53::55::32::34::r).length then some (D.int ((50::53::55::32::34::r).length:Nat)) else none)=_
   rw [aF (by lia)]; rfl
 exact bK rfl rfl (aK h (aG rfl))
theorem oS (k x y:Nat) (r:List Nat) (st:Store) (hs:r.length≤800) (hxy:[x,y]≠[32,34]):(GT (k+1)).fn 72 [.str (50::53::55::x::y::r)] [] st=some (.ret (.str []),st):=by
 have hl:(50::53::55::x::y::r).length=r.length+5:=rfl
 have h:exs (ops (GT k) 24) (cxOf 7) ([("resp",D.str (50::53::55::x::y::r))]:Vars) (fBody (fnAt 7)) st=some (FD.ret (.str []),([("resp",D.str (50::53::55::x::y::r))]:Vars),st):=by
  refine exs_one (ex_if_f (n:=23) (st':=st) (tr_cmp (st':=st) (a:=.str [50,53,55]) (b:=.str [50,53,55]) (lV (r:=x::y::r) (by simp; exact Nat.le_trans (by assumption) (by decide)) rfl rfl) rfl (tC rfl)) rfl)
   (aE (aH (st':=st) (tr_cmp (st':=st) (a:=.str [x,y]) (b:=.str [32,34]) (fH (st':=st) (st₂:=st) (a:=some (3:Nat)) (b:=some (5:Nat)) rfl rfl rfl ?_) rfl (vG hxy)) (aE (aP rfl))))
  rw [pF (by lia),hl,Nat.min_eq_left (by exact Nat.le_add_left _ _)]; rfl
 exact bK rfl rfl (aK h (aG rfl))
theorem aEz (k a b c:Nat) (r:List Nat) (st:Store) (hs:r.length≤900) (hc:[a,b,c]≠[50,53,55]):(GT (k+1)).fn 72 [.str (a::b::c::r)] [] st=some (.exc 44 (.str (a::b::c::r)),st):=by
 have h:exs (ops (GT k) 24) (cxOf 7) ([("resp",D.str (a::b::c::r))]:Vars) (fBody (fnAt 7)) st=some (FD.exc 44 (.str (a::b::c::r)),([("resp",D.str (a::b::c::r))]:Vars),st) :=
  cX (aH (n:=23) (st':=st) (tr_cmp (st':=st) (a:=.str [a,b,c]) (b:=.str [50,53,55]) (lV hs rfl rfl) rfl (vG hc)) (cX (gR (st':=st) rfl (aB rfl rfl rfl) rfl rfl)))
 exact bK rfl rfl (pO h (aG rfl))
end Mine
end
section -- R27
open PySem
namespace Mine
noncomputable def q229 (l:List Nat) (i j:Nat):Option (List Nat):=bif decide (l.getD (i+1) 0=l.getD (j - 1) 0) then
 (bif decide ((aI (l.getD (i+1) 0) ((l.drop (i+1)).take (j - (i+1)))).length=5) then some ((aI (l.getD (i+1) 0) ((l.drop (i+1)).take (j - (i+1)))).getD 3 []) else none) else none
noncomputable def p229 (l:List Nat):Option (List Nat):=(findFrom 40 l 0).bind fun i=>(findFrom 41 (l.drop (i+1)) (i+1)).bind fun j=>q229 l i j
theorem sJ (c:Nat):∀ (l:List Nat) (i j:Nat),findFrom c l i=some j→∃ p,j=i+p∧p < l.length
 | [],i,j,h=>by exact nn h
 | x::xs,i,j,h=>by
  rw [findFrom] at h
  split at h
  ·cases h; exact⟨0,rfl,Nat.zero_lt_succ _⟩
  ·obtain⟨p,e,q⟩:=sJ c xs (i+1) j h
   exact⟨p+1,by lia,Nat.succ_lt_succ q⟩
theorem qC {l:List Nat} {c i j:Nat} (h:findFrom c (l.drop i) i=some j):sfind l c i=(j:Int):=by unfold sfind; rw [h]
theorem oH {l:List Nat} {c i:Nat} (h:findFrom c (l.drop i) i=none):sfind l c i=-1:=by unfold sfind; rw [h]
theorem jB {l:List Nat} {i:Nat} (h:i < l.length):l[i]? = some (l.getD i 0):=by
 rw [List.getD_eq_getElem?_getD,List.getElem?_eq_getElem h]; rfl
theorem aRa {st:Store} {j:Nat}:cmpop st .Lt (.int (j:Int)) (.int 0)=some false:=congrArg some (decide_eq_false (by simp))
theorem aVv {n m:Nat} (h:fits m=true) (q:n≤m):fits n=true:=by unfold fits at *; exact decide_eq_true (Nat.le_trans q (of_decide_eq_true h))
set_option tactic.hygienic true in
theorem nJ (c:Nat):∀ l:List Nat,(aI c l).length≤l.length+1
 | []=>Nat.le_refl _
 | x::xs=>by
  have ih:=nJ c xs
  rw [aI]
  split
  ·rw [List.length_cons,List.length_cons]; exact Nat.succ_le_succ (by assumption)
  ·split
   ·simp
   ·rename_i p ps e
    rw [e] at ih
    simp only [List.length_cons] at ih ⊢
    exact Nat.lt_succ_of_lt (by assumption)
theorem aKs {st:Store} {l:List Nat} {c:Nat}:fZ "find" (.str l) [.str [c]] st=some (.int (sfind l c 0),st):=rfl
theorem aGp {st:Store} {l:List Nat} {c i:Nat}:fZ "find" (.str l) [.str [c],.int (i:Nat)] st=some (.int (sfind l c i),st):=by
 show (if (true&&decide ((0:Int)≤i))=true then some (D.int (sfind l c (i:Int).toNat)) else none).map (fun r=>(r,st))=_
 rw [decide_eq_true (by exact Int.natCast_nonneg _),Int.toNat_natCast]; rfl
theorem aFx {st:Store} {l:List Nat} {c:Nat} (h:l.length≤1000):fZ "split" (.str l) [.str [c]] st=some (.list ((aI c l).map .str),st):=by
 show (if fits l.length=true then some (D.list ((aI c l).map .str)) else none).map (fun r=>(r,st))=_
 rw [aF h]; rfl
theorem aVj {st:Store} {l:List D} (hs:l.length≤1000):bcall st (.builtin "len") [.list l]=some (.int (l.length:Nat)):=by
 show (if fits l.length then some (D.int l.length) else none)=_
 rw [aF hs]; rfl
theorem pH {j:Nat} (h:0 < j):binop .Sub (.int (j:Int)) (.int 1)=some (.int ((j - 1:Nat):Int)):=by
 show some (D.int ((j:Int) - 1))=_
 congr 2
 exact (Int.ofNat_sub (by assumption)).symm
noncomputable def Z6 (l h:List Nat) (t:Vars):Vars:=([("resp",.str l),("peer",.tuple [.str h,.int 21])]:Vars)++t
noncomputable abbrev st6 (m:Nat):Stmt:=(fBody (fnAt 6)).getD m (.Pass ⟨0,0,0,0⟩)
noncomputable abbrev ZL (i:Nat) (t:Vars):Vars:=("left",.int (i:Nat))::t
noncomputable abbrev ZR (i j:Nat) (t:Vars):Vars:=("left",.int (i:Nat))::("right",.int (j:Nat))::t
section
variable {k:Nat} {l h:List Nat} {st:Store} {i j:Nat}
theorem z1:(ops (GT k) 24).ex (cxOf 6) (Z6 l h []) (st6 1) st=some (.next,Z6 l h ([("left",.int (sfind l 40 0))]:Vars),st) :=
 aC (n:=23) (st':=st) rfl (ev_meth (st':=st) (st₂:=st) (d:=.str l) (ds:=[.str [40]]) rfl rfl rfl rfl (aA rfl rfl rfl) aKs) rfl
theorem z2:(ops (GT k) 24).ex (cxOf 6) (Z6 l h (ZL i [])) (st6 2) st=some (.next,Z6 l h (ZL i []),st) :=
 ex_if_f (n:=23) (st':=st) (tr_cmp (st':=st) (a:=.int i) (b:=.int 0) rfl rfl aRa) rfl
theorem z3:(ops (GT k) 24).ex (cxOf 6) (Z6 l h (ZL i [])) (st6 3) st=some (.next,Z6 l h (ZL i [("right",.int (sfind l 41 (i+1)))]),st) :=
 aC (n:=23) (st':=st) rfl (ev_meth (st':=st) (st₂:=st) (d:=.str l) (ds:=[.str [41],.int (i+1:Nat)]) rfl rfl rfl rfl (aA rfl rfl (aA rfl (aD (st':=st) (a:=.int i) (b:=.int 1) rfl rfl cR) rfl)) aGp) rfl
theorem z4:(ops (GT k) 24).ex (cxOf 6) (Z6 l h (ZR i j [])) (st6 4) st=some (.next,Z6 l h (ZR i j []),st) :=
 ex_if_f (n:=23) (st':=st) (tr_cmp (st':=st) (a:=.int j) (b:=.int 0) rfl rfl aRa) rfl
section
variable (hl:l.length≤900) (hi:i+1 < l.length) (hj:j < l.length) (h0:i < j)
include hl hi hj h0
theorem x65:index st (.str l) (.int (i+1:Nat))=some (.str [l.getD (i+1) 0])∧index st (.str l) (.int (j - 1:Nat))=some (.str [l.getD (j - 1) 0]) :=
 ⟨jI (Nat.le_trans hl (by decide)) (jB hi),jI (Nat.le_trans hl (by decide)) (jB (Nat.lt_of_le_of_lt (Nat.sub_le j 1) hj))⟩
theorem z5t (e:l.getD (i+1) 0=l.getD (j - 1) 0):(ops (GT k) 24).ex (cxOf 6) (Z6 l h (ZR i j [])) (st6 5) st=some (.next,Z6 l h (ZR i j []),st) :=
 ex_if_f (n:=23) (st':=st) (tr_cmp (st':=st) (ev_idx (st':=st) (d:=.str l) (j:=.int (i+1:Nat)) rfl rfl (aD (st':=st) (a:=.int i) (b:=.int 1) rfl rfl cR) (x65 hl hi hj h0).1) (ev_idx (st':=st) (d:=.str l) (j:=.int (j - 1:Nat)) rfl rfl (aD (st':=st) (a:=.int j) (b:=.int 1) rfl rfl (pH (Nat.lt_of_le_of_lt (Nat.zero_le i) h0))) (x65 hl hi hj h0).2) (tC (congrArg (fun c=>[c]) e))) rfl
theorem z5f (e:l.getD (i+1) 0≠l.getD (j - 1) 0):(ops (GT k) 24).ex (cxOf 6) (Z6 l h (ZR i j [])) (st6 5) st=some (.exc 56 (.str l),Z6 l h (ZR i j []),st) :=
 aH (n:=23) (st':=st) (tr_cmp (st':=st) (ev_idx (st':=st) (d:=.str l) (j:=.int (i+1:Nat)) rfl rfl (aD (st':=st) (a:=.int i) (b:=.int 1) rfl rfl cR) (x65 hl hi hj h0).1) (ev_idx (st':=st) (d:=.str l) (j:=.int (j - 1:Nat)) rfl rfl (aD (st':=st) (a:=.int j) (b:=.int 1) rfl rfl (pH (Nat.lt_of_le_of_lt (Nat.zero_le i) h0))) (x65 hl hi hj h0).2) (vG fun q=>e (List.cons.inj q).1)) (cX (gR (st':=st) rfl (aB rfl rfl rfl) rfl rfl))
noncomputable abbrev ps65 (l:List Nat) (i j:Nat):List (List Nat):=aI (l.getD (i+1) 0) ((l.drop (i+1)).take (j - (i+1)))
noncomputable abbrev ZP (l:List Nat) (i j:Nat):Vars:=ZR i j [("parts",.list ((ps65 l i j).map .str))]
theorem aLc:((l.drop (i+1)).take (j - (i+1))).length≤900:=by
 rw [List.length_take,List.length_drop]
 exact Nat.le_trans (Nat.min_le_right _ _) (Nat.le_trans (Nat.sub_le _ _) hl)
theorem z6:(ops (GT k) 24).ex (cxOf 6) (Z6 l h (ZR i j [])) (st6 6) st=some (.next,Z6 l h (ZP l i j),st):=by
 refine aC (n:=23) (st':=st) rfl (ev_meth (st':=st) (st₂:=st) (d:=.str ((l.drop (i+1)).take (j - (i+1)))) (ds:=[.str [l.getD (i+1) 0]]) rfl rfl (fH (st':=st) (st₂:=st) (a:=some (i+1:Nat)) (b:=some (j:Nat)) rfl rfl rfl ?_) rfl (aA rfl (ev_idx (st':=st) (d:=.str l) (j:=.int (i+1:Nat)) rfl rfl (aD (st':=st) (a:=.int i) (b:=.int 1) rfl rfl cR) (x65 hl hi hj h0).1) rfl) (aFx (Nat.le_trans (aLc hl hi hj h0) (by decide)))) rfl
 rw [pF (Nat.le_trans hl (by decide)),Nat.min_eq_left (Nat.le_of_lt hj)]
theorem aRm:bcall st (.builtin "len") [.list ((ps65 l i j).map .str)]=some (.int ((ps65 l i j).length:Nat)):=by
 rw [aVj (by rw [List.length_map]; exact Nat.le_trans (Nat.le_trans (nJ _ _) (Nat.succ_le_succ (aLc hl hi hj h0))) (by decide)),List.length_map]
theorem z7t (e:(ps65 l i j).length=5) (hd:intOf (.str ((ps65 l i j).getD 3 []))=some (.int (undec ((ps65 l i j).getD 3 [])))):∃ t,exs (ops (GT k) 24) (cxOf 6) (Z6 l h (ZP l i j)) ((fBody (fnAt 6)).drop 7) st=some (.ret (.tuple [.str h,.int (undec ((ps65 l i j).getD 3 []))]),t,st):=by
 have ln:=aRm (st:=st) hl hi hj h0
 unfold ZP
 generalize ps65 l i j=ps at e hd ln ⊢
 have h3:index st (.list (ps.map .str)) (.int 3)=some (.str (ps.getD 3 [])):=by
  match ps,e with
  | [a,b,c,d,e],_=>rfl
 rw [e] at ln
 exact⟨_,exs_one (ex_if_f (n:=23) (st':=st) (tr_cmp (st':=st) (a:=.int 5) (b:=.int 5) (ev_blt (fd:=.builtin "len") (ds:=[.list (ps.map .str)]) rfl (aB rfl rfl rfl) (aA rfl rfl rfl) rfl ln) rfl rfl) rfl)
  (exs_one (aC (st':=st) (d:=.str h) rfl (ev_idx (st':=st) (d:=.tuple [.str h,.int 21]) (j:=.int 0) rfl rfl rfl rfl) rfl)
  (exs_one (aC (st':=st) rfl (ev_blt (fd:=.type "int") (ds:=[.str (ps.getD 3 [])]) rfl (aB rfl rfl rfl) (aA rfl (ev_idx (st':=st) (d:=.list (ps.map .str)) (j:=.int 3) rfl rfl rfl h3) rfl) rfl hd) rfl)
  (aE (aP (qL (aA rfl rfl (aA rfl rfl rfl)) rfl)))))⟩
theorem z7f (e:(ps65 l i j).length≠5):exs (ops (GT k) 24) (cxOf 6) (Z6 l h (ZP l i j)) ((fBody (fnAt 6)).drop 7) st=some (.exc 56 (.str l),Z6 l h (ZP l i j),st):=by
 refine cX (aH (n:=23) (st':=st) (tr_cmp (st':=st) (a:=.int ((ps65 l i j).length:Nat)) (b:=.int 5) (ev_blt (fd:=.builtin "len") (ds:=[.list ((ps65 l i j).map .str)]) rfl (aB rfl rfl rfl) (aA rfl rfl rfl) rfl (aRm hl hi hj h0)) rfl ?_) (cX (gR (st':=st) rfl (aB rfl rfl rfl) rfl rfl)))
 show some (!(((ps65 l i j).length:Int) == 5))=_
 rw [show (((ps65 l i j).length:Int) == 5)=false from beq_eq_false_iff_ne.mpr fun q=>e (Int.ofNat.inj q)]; rfl
theorem aVe (hd:∀ ds,q229 l i j=some ds→intOf (.str ds)=some (.int (undec ds))):∃ t,exs (ops (GT k) 24) (cxOf 6) (Z6 l h (ZR i j [])) ((fBody (fnAt 6)).drop 5) st=some (match q229 l i j with | some ds=>FD.ret (.tuple [.str h,.int (undec ds)]) | none=>FD.exc 56 (.str l),t,st):=by
 unfold q229 at hd ⊢
 by_cases e:l.getD (i+1) 0=l.getD (j - 1) 0
 ·rw [decide_eq_true e] at hd ⊢
  by_cases e5:(ps65 l i j).length=5
  ·rw [decide_eq_true e5] at hd ⊢
   obtain⟨t,r⟩:=z7t (k:=k) (h:=h) (st:=st) hl hi hj h0 e5 (hd _ rfl)
   exact⟨t,exs_one (z5t hl hi hj h0 e) (exs_one (z6 hl hi hj h0) r)⟩
  ·rw [decide_eq_false e5]
   exact⟨_,exs_one (z5t hl hi hj h0 e) (exs_one (z6 hl hi hj h0) (z7f hl hi hj h0 e5))⟩
 ·rw [decide_eq_false e]
  exact⟨_,cX (z5f hl hi hj h0 e)⟩
end
theorem aHs (hs:l.length≤900) (s0:(ops (GT k) 24).ex (cxOf 6) (Z6 l h []) (st6 0) st=some (.next,Z6 l h [],st)) (hd:∀ ds,p229 l=some ds→intOf (.str ds)=some (.int (undec ds))) :
  ∃ t,exs (ops (GT k) 24) (cxOf 6) (Z6 l h []) (fBody (fnAt 6)) st=some (match p229 l with | some ds=>FD.ret (.tuple [.str h,.int (undec ds)]) | none=>FD.exc 56 (.str l),t,st):=by
 have s1:=z1 (k:=k) (l:=l) (h:=h) (st:=st)
 unfold p229 at hd ⊢
 cases hi:findFrom 40 l 0 with
 | none =>
  rw [oH (i:=0) hi] at s1
  exact⟨_,exs_one s0 (exs_one s1 (cX (aH (st':=st) (tr_cmp (st':=st) (a:=.int (-1)) (b:=.int 0) rfl rfl rfl) (cX (gR (st':=st) rfl (aB rfl rfl rfl) rfl rfl)))))⟩
 | some i =>
  rw [hi] at hd
  rw [qC (i:=0) hi] at s1
  have s3:=z3 (k:=k) (l:=l) (h:=h) (st:=st) (i:=i)
  show ∃ t,_=some (match (findFrom 41 (l.drop (i+1)) (i+1)).bind fun j=>q229 l i j with | some ds=>FD.ret (.tuple [.str h,.int (undec ds)]) | none=>FD.exc 56 (.str l),t,st)
  cases hj:findFrom 41 (l.drop (i+1)) (i+1) with
  | none =>
   rw [oH hj] at s3
   exact⟨_,exs_one s0 (exs_one s1 (exs_one z2 (exs_one s3 (cX (aH (st':=st) (tr_cmp (st':=st) (a:=.int (-1)) (b:=.int 0) rfl rfl rfl) (cX (gR (st':=st) rfl (aB rfl rfl rfl) rfl rfl)))))))⟩
  | some j =>
   obtain⟨p1,q2,q3⟩:=sJ 41 _ _ j hj
   rw [List.length_drop] at q3
   rw [qC hj] at s3
   have hj2:j < l.length:=by rw [q2,Nat.add_comm]; exact Nat.add_lt_of_lt_sub q3
   have hij:i+1≤j:=by rw [q2]; exact Nat.le_add_right _ _
   obtain⟨t,r⟩:=aVe (k:=k) (h:=h) (st:=st) hs (Nat.lt_of_le_of_lt hij hj2) hj2 hij fun ds e=>hd ds (by show (findFrom 41 (l.drop (i+1)) (i+1)).bind (fun j=>q229 l i j)=_; rw [hj]; exact e)
   exact⟨t,exs_one s0 (exs_one s1 (exs_one z2 (exs_one s3 (exs_one z4 r))))⟩
theorem aBt {r:List Nat} (hs:r.length≤800):(ops (GT k) 24).ex (cxOf 6) (Z6 (50::50::57::r) h []) (st6 0) st=some (.next,Z6 (50::50::57::r) h [],st) :=
 ex_if_f (n:=23) (st':=st) (tr_cmp (st':=st) (a:=.str [50,50,57]) (b:=.str [50,50,57]) (lV (r:=r) (Nat.le_trans hs (by decide)) rfl rfl) rfl (tC rfl)) rfl
end
theorem aUm (k:Nat) (r h ds:List Nat) (st:Store) (hs:r.length≤800) (hp:p229 (50::50::57::r)=some ds) (hd:intOf (.str ds)=some (.int (undec ds))) :
  (GT (k+1)).fn 65 [.str (50::50::57::r),.tuple [.str h,.int 21]] [] st=some (.ret (.tuple [.str h,.int (undec ds)]),st):=by
 obtain⟨t,e⟩:=aHs (k:=k) (h:=h) (st:=st) (l:=50::50::57::r) (Nat.le_trans (Nat.add_le_add_right hs 3) (by decide)) (aBt hs) (fun d q=>by rw [hp] at q; cases q; exact hd)
 rw [hp] at e
 exact bK rfl rfl (aK e (aG rfl))
theorem aKb (k:Nat) (r h:List Nat) (st:Store) (hs:r.length≤800) (hp:p229 (50::50::57::r)=none) :
  (GT (k+1)).fn 65 [.str (50::50::57::r),.tuple [.str h,.int 21]] [] st=some (.exc 56 (.str (50::50::57::r)),st):=by
 obtain⟨t,e⟩:=aHs (k:=k) (h:=h) (st:=st) (l:=50::50::57::r) (Nat.le_trans (Nat.add_le_add_right hs 3) (by decide)) (aBt hs) (fun d q=>by rw [hp] at q; exact nn q)
 rw [hp] at e
 exact bK rfl rfl (pO e (aG rfl))
theorem aGm (k a b c:Nat) (r h:List Nat) (st:Store) (hs:r.length≤900) (hc:[a,b,c]≠[50,50,57]):(GT (k+1)).fn 65 [.str (a::b::c::r),.tuple [.str h,.int 21]] [] st=some (.exc 44 (.str (a::b::c::r)),st):=by
 have h:exs (ops (GT k) 24) (cxOf 6) (Z6 (a::b::c::r) h []) (fBody (fnAt 6)) st=some (FD.exc 44 (.str (a::b::c::r)),Z6 (a::b::c::r) h [],st) :=
  cX (aH (n:=23) (st':=st) (tr_cmp (st':=st) (a:=.str [a,b,c]) (b:=.str [50,50,57]) (lV hs rfl rfl) rfl (vG hc)) (cX (gR (st':=st) rfl (aB rfl rfl rfl) rfl rfl)))
 exact bK rfl rfl (pO h (aG rfl))
end Mine
end
section -- R28
open PySem
namespace Mine
noncomputable def num (N:Nat) (bs:List Nat):Nat:=bs.foldl (fun a b=>a * 256+b) N
noncomputable def manyN (n:Nat):Nat:=(8 * n+5) / 6
noncomputable def ownL:List Nat:=b64L.take 62++[34,32]
noncomputable def fN (bs:List Nat):Nat:=num 0 bs * 2 ^ (6 * manyN bs.length - 8 * bs.length)
noncomputable def writ (bs:List Nat):List Nat:=((List.range (manyN bs.length)).map fun j=>ownL.getD (fN bs / 64 ^ (manyN bs.length - 1 - j) % 64) 0)++List.replicate ((4 - manyN bs.length % 4) % 4) 61
section
variable {G:Gx} {n k:Nat} {o:Ops} {cx:Cx} {vars vars' vars₂:Vars} {st st' st₂ st₃:Store} {R:Option (FD×Vars×Store)}
theorem gD {e:Expr} {r:List Expr} {d:D} {ds:List D} (hs:isStar e=false) (h1:evA1 G o cx vars e st=some (d,st')) (h2:evA1s G o cx vars r st'=some (ds,st₂)):evA1s G o cx vars (e::r) st=some (d::ds,st₂):=by
 refine (if_neg (fun q=>Bool.false_ne_true (hs.symm.trans q))).trans ?_
 refine (congrArg (Option.bind · _) h1).trans ?_
 exact congrArg (Option.bind · _) h2
theorem uF {es:List Expr} {j:Nat} {p:Pos} {ds:List D} (h1:evA1s G o cx vars es st=some (ds,st')) (h2:fits ds.length=true):evA G o cx vars (.Tuple es j p) st=some (.tuple ds,st'):=bI h1 (if_pos h2)
end
theorem aHc {N b j:Nat} (h:N < 256 ^ j) (hb:b < 256):N * 256+b < 256 ^ (j+1):=by
 have:=Nat.mul_le_mul_right 256 (Nat.succ_le_of_lt h)
 rw [Nat.succ_mul] at this
 exact Nat.lt_of_lt_of_le (Nat.add_lt_add_left hb _) this
theorem aMs:∀ (bs:List Nat) (N j:Nat),(∀ b∈bs,b < 256)→N < 256 ^ j→num N bs < 256 ^ (j+bs.length)
 | [],N,j,_,h=>h
 | b::bs,N,j,hb,h=>by
  have:=aMs bs (N * 256+b) (j+1) (fun x hx=>hb x (List.mem_cons_of_mem _ hx)) (aHc h (hb b List.mem_cons_self))
  rw [List.length_cons,show j+(bs.length+1)=j+1+bs.length from (Nat.succ_add _ _).symm]
  exact this
theorem iU {a:Nat} (h:a < 1000000000000000000):small (a:Int)=true:=by
 unfold small
 rw [Bool.and_eq_true]
 exact⟨decide_eq_true (Int.lt_of_lt_of_le (by decide) (Int.natCast_nonneg a)),decide_eq_true (Int.ofNat_lt.mpr h)⟩
theorem mul_nat {a b:Nat} (ha:a < 1000000000000000000) (hb:b < 1000000000000000000):binop .Mult (.int (a:Int)) (.int (b:Int))=some (.int ((a * b:Nat):Int)):=by
 exact aDf (by rw [iU ha,iU hb]; rfl)
theorem add_nat {a b:Nat}:binop .Add (.int (a:Int)) (.int (b:Int))=some (.int ((a+b:Nat):Int)):=rfl
theorem sub_nat {a b:Nat} (h:b≤a):binop .Sub (.int (a:Int)) (.int (b:Int))=some (.int ((a - b:Nat):Int)):=by
 exact congrArg (fun i=>some (D.int i)) (Int.ofNat_sub h).symm
theorem div_nat {a b:Nat} (hb:b < 1000000000000000000) (h0:0 < b):binop .FloorDiv (.int (a:Int)) (.int (b:Int))=some (.int ((a / b:Nat):Int)):=by
 rw [aCu (iU hb) (beq_eq_false_iff_ne.mpr fun e=>Nat.ne_of_gt h0 (Int.ofNat.inj e)),Int.ofNat_fdiv]
theorem mod_nat {a b:Nat} (h0:0 < b):binop .Mod (.int (a:Int)) (.int (b:Int))=some (.int ((a % b:Nat):Int)):=by
 show (if ((b:Int) == 0)=true then none else some (D.int ((a:Int).fmod b)))=_
 rw [show ((b:Int) == 0)=false from beq_eq_false_iff_ne.mpr fun e=>Nat.ne_of_gt h0 (Int.ofNat.inj e),Int.ofNat_fmod]; rfl
theorem pow_nat {a b:Nat} (ha:a < 1000) (hb:b≤1000):binop .Pow (.int (a:Int)) (.int (b:Int))=some (.int ((a ^ b:Nat):Int)):=by
 rw [aBz hb (iU (Nat.lt_trans ha (by decide))),Int.natCast_pow]
theorem len_list {st:Store} {l:List D} (hs:l.length≤1000):bcall st (.builtin "len") [.list l]=some (.int (l.length:Nat)):=by
 show (if fits l.length then some (D.int l.length) else none)=_
 rw [aF hs]; rfl
noncomputable def V32 (os:List Nat) (N m:Nat) (t:Vars):Vars:=([("octets",.list (intsD os)),("signs",.str ownL),("number",.int N),("many",.int m)]:Vars)++t
noncomputable def Tl32 (t:Vars):Prop:=t=[]∨∃ a:D,t=([("octet",a)]:Vars)
theorem aRs (k m:Nat) (os:List Nat) (st:Store):∀ (bs:List Nat) (N j:Nat) (t:Vars),(∀ b∈bs,b < 256)→N < 256 ^ j→j+bs.length≤5→Tl32 t →
  ∃ t',Tl32 t'∧forGo (ops (GT k) 23) (cxOf 32) (tgtAt 32 1) (loopAt 32 1).2 (intsD bs) (V32 os N m t) st=some (.next,V32 os (num N bs) m t',st)
 | [],N,j,t,_,_,_,ht=>⟨t,ht,rfl⟩
 | b::bs,N,j,t,hb,hN,hj,ht=>by
  rw [List.length_cons] at hj
  obtain⟨t',ht',w⟩:=aRs k m os st bs (N * 256+b) (j+1) ([("octet",.int b)]:Vars) (fun x hx=>hb x (List.mem_cons_of_mem _ hx)) (aHc hN (hb b List.mem_cons_self)) (by rw [Nat.succ_add]; exact hj) (.inr ⟨_,rfl⟩)
  refine⟨t',ht',lJ (st':=st) (vars':=V32 os N m ([("octet",.int b)]:Vars)) ?_ (exs_one (aC (n:=22) (st':=st) (d:=.int (N * 256+b:Nat)) rfl (aD (st':=st) (a:=.int (N * 256:Nat)) (b:=.int b) (aD (st':=st) (a:=.int N) (b:=.int (256:Nat)) rfl rfl (mul_nat (Nat.lt_trans (Nat.lt_of_lt_of_le hN (Nat.pow_le_pow_right (by decide) (Nat.le_trans (Nat.le_add_right _ _) hj)):N < 256 ^ 5) (by decide)) (by decide))) rfl add_nat) rfl) rfl) w⟩
  rcases ht with rfl | ⟨a,rfl⟩ <;> rfl
theorem aAx {b:Nat} (h:b≤1000):drawn (.range (b:Int) (-1) (-1))=some ((List.range (b+1)).map fun (k:Nat)=>D.int ((b:Int) - (k:Int))):=by
 show (if (small (b:Int)&&true&&true)=true then some (((List.range ((b:Int) - (-1)).toNat).map fun (k:Nat)=>(b:Int) - (k:Int)).map D.int) else none)=_
 rw [gP h,List.map_map,show ((b:Int) - (-1)).toNat=b+1 from rfl]; rfl
theorem ownL_at {st:Store} {i:Nat} (h:i < 64):index st (.str ownL) (.int (i:Int))=some (.str [ownL.getD i 0]):=jI (by decide) (jB (by exact h))
end Mine
end
section -- R29
open PySem
namespace Mine
theorem dK (l:List Nat):(intsD l).length=l.length:=List.length_map _
theorem pQ (f:Nat→Nat):∀ l:List Nat,iE (l.map fun j=>D.str [f j])=some (l.map fun j=>[f j])
 | []=>rfl
 | a::l=>by show (iE (l.map fun j=>D.str [f j])).map _=_; rw [pQ f l]; rfl
theorem rV (f:Nat→Nat):∀ l:List Nat,(l.map fun j=>[f j]).flatten=l.map f
 | []=>rfl
 | a::l=>by rw [List.map_cons,List.flatten_cons,rV f l]; rfl
theorem aHh {st:Store} (f:Nat→Nat) (l:List Nat) (h:l.length≤1000):fZ "join" (.str []) [.list (l.map fun j=>D.str [f j])] st=some (.str (l.map f),st):=by
 show ((iE (l.map fun j=>D.str [f j])).bind fun ss=>if (fits ss.flatten.length&&ss.all (·.length == 1))=true then some (D.str ss.flatten) else none).map (fun r=>(r,st))=_
 rw [pQ]
 show (if (fits (l.map fun j=>[f j]).flatten.length&&(l.map fun j=>[f j]).all (·.length == 1))=true then some (D.str (l.map fun j=>[f j]).flatten) else none).map (fun r=>(r,st))=_
 rw [rV,List.length_map,aF h,List.all_map]
 have:l.all ((fun x:List Nat=>x.length == 1) ∘ fun j=>[f j])=true:=List.all_eq_true.mpr fun _ _=>rfl
 rw [this]; rfl
noncomputable def sgnAt (N m j:Nat):Nat:=ownL.getD (N / 64 ^ (m - 1 - j) % 64) 0
noncomputable def sgnD (N m:Nat):D→D
 | .int j=>.str [ownL.getD (N / 64 ^ j.toNat % 64) 0]
 | d=>d
theorem wX (N m:Nat):(((List.range m).map fun (k:Nat)=>D.int (((m - 1:Nat):Int) - (k:Int))).flatMap fun d=>[sgnD N m d])=(List.range m).map fun j=>D.str [sgnAt N m j]:=by
 rw [lW,List.map_map]
 refine List.map_congr_left fun j hj=>?_
 have:=List.mem_range.mp hj
 show D.str [ownL.getD (N / 64 ^ (((m - 1:Nat):Int) - (j:Int)).toNat % 64) 0]=D.str [sgnAt N m j]
 rw [show (((m - 1:Nat):Int) - (j:Int)).toNat=m - 1 - j from by rw [← Int.ofNat_sub (Nat.le_sub_one_of_lt this),Int.toNat_natCast]]; rfl
theorem aUk {j:Nat} (h:j≤6):64 ^ j < 1000000000000000000∧0 < 64 ^ j:=by
 have:64 ^ j≤64 ^ 6:=Nat.pow_le_pow_right (by decide) h
 exact⟨Nat.lt_of_le_of_lt this (by decide),Nat.pow_pos (by decide)⟩
theorem oP {st:Store} {b:Int} (h:small b=true):bcall st (.type "range") [.int b,.int (-1),.int (-1)]=some (.range b (-1) (-1)):=by
 show (if (small b&&true&&true)=true then some (D.range b (-1) (-1)) else none)=_
 rw [h]; rfl
noncomputable def Iv32 (N:Nat) (v:Vars):Prop:=∃ t:Vars,(t=[]∨∃ j,t=([("k",j)]:Vars))∧v=([("signs",.str ownL),("number",.int N)]:Vars)++t
theorem aTq (m:Nat):(-(m:Int)).fmod 4=(((4 - m % 4) % 4:Nat):Int):=by
 rw [Int.fmod_eq_emod_of_nonneg _ (by decide)]
 lia
theorem aQe {m:Nat}:binop .Mult (.str [61]) (.int (((4 - m % 4) % 4:Nat):Int))=some (.str (List.replicate ((4 - m % 4) % 4) 61)):=by
 have:(4 - m % 4) % 4 < 4:=Nat.mod_lt _ (by decide)
 generalize (4 - m % 4) % 4=q at this
 match q,this with
 | 0,_=>rfl
 | 1,_=>rfl
 | 2,_=>rfl
 | 3,_=>rfl
theorem man:∀ n,n≤4→0 < n→manyN n≤6∧0 < manyN n∧8 * n≤6 * manyN n∧6 * manyN n - 8 * n≤5:=by decide
theorem aIk (k:Nat) (bs:List Nat) (st:Store) (hb:∀ b∈bs,b < 256) (h4:bs.length≤4) (h0:0 < bs.length):(GT (k+1)).fn 198 [.list (intsD bs)] [] st=some (.ret (.str (writ bs)),st):=by
 obtain⟨hm6,hm0,hd8,hd5⟩:=man bs.length h4 h0
 have hN:=aMs bs 0 0 hb (by decide)
 have hN4:num 0 bs < 256 ^ 4:=Nat.lt_of_lt_of_le hN (Nat.pow_le_pow_right (by decide) (by rw [Nat.zero_add]; exact h4))
 have hd4:6 * manyN bs.length - 8 * bs.length≤1000∧2 ^ (6 * manyN bs.length - 8 * bs.length) < 1000000000000000000:=by
  exact⟨Nat.le_trans hd5 (by decide),Nat.lt_of_le_of_lt (Nat.pow_le_pow_right (by decide) hd5) (by decide)⟩
 obtain⟨t',ht',w⟩:=aRs k (manyN bs.length) bs st bs 0 0 [] hb (by decide) (by rw [Nat.zero_add]; exact Nat.le_succ_of_le h4) (.inl rfl)
 have s0:(ops (GT k) 24).ex (cxOf 32) ([("octets",.list (intsD bs))]:Vars) ((fBody (fnAt 32)).getD 0 (.Pass ⟨0,0,0,0⟩)) st=some (.next,V32 bs 0 (manyN bs.length) [],st):=by
  refine aC (n:=23) (st':=st) (d:=.tuple [.str ownL,.int 0,.int (manyN bs.length:Nat)]) rfl (uF (gD (st':=st) rfl (by kernel_rfl) (gD rfl rfl (gD rfl ?_ rfl))) rfl) rfl
  refine aD (st':=st) (a:=.int (8 * bs.length+5:Nat)) (b:=.int (6:Nat)) (aD (st':=st) (a:=.int (8 * bs.length:Nat)) (b:=.int (5:Nat)) (aD (st':=st) (a:=.int (8:Nat)) (b:=.int bs.length) rfl (ev_blt (fd:=.builtin "len") (ds:=[.list (intsD bs)]) rfl (aB rfl rfl rfl) (aA rfl rfl rfl) rfl ?_) (mul_nat (by decide) (Nat.lt_of_le_of_lt h4 (by decide)))) rfl add_nat) rfl (div_nat (by decide) (by decide))
  rw [← dK]
  exact len_list (by rw [dK]; exact Nat.le_trans h4 (by decide))
 have s2:(ops (GT k) 24).ex (cxOf 32) (V32 bs (num 0 bs) (manyN bs.length) t') ((fBody (fnAt 32)).getD 2 (.Pass ⟨0,0,0,0⟩)) st=some (.next,V32 bs (fN bs) (manyN bs.length) t',st):=by
  refine aC (n:=23) (st':=st) (d:=.int (fN bs)) rfl (aD (st':=st) (a:=.int (num 0 bs)) (b:=.int (2 ^ (6 * manyN bs.length - 8 * bs.length):Nat)) ?_ (aD (st':=st) (a:=.int (2:Nat)) (b:=.int (6 * manyN bs.length - 8 * bs.length:Nat)) rfl (aD (st':=st) (a:=.int (6 * manyN bs.length:Nat)) (b:=.int (8 * bs.length:Nat)) (aD (st':=st) (a:=.int (6:Nat)) (b:=.int (manyN bs.length)) rfl ?_ (mul_nat (by decide) (Nat.lt_of_le_of_lt hm6 (by decide))))
   (aD (st':=st) (a:=.int (8:Nat)) (b:=.int bs.length) rfl (ev_blt (fd:=.builtin "len") (ds:=[.list (intsD bs)]) rfl (aB rfl rfl rfl) (aA rfl ?_ rfl) rfl ?_) (mul_nat (by decide) (Nat.lt_of_le_of_lt h4 (by decide)))) (sub_nat hd8)) (pow_nat (by decide) hd4.1)) (mul_nat (Nat.lt_trans hN4 (by decide)) hd4.2)) ?_
  ·rcases ht' with rfl | ⟨a,rfl⟩ <;> rfl
  ·rcases ht' with rfl | ⟨a,rfl⟩ <;> rfl
  ·rcases ht' with rfl | ⟨a,rfl⟩ <;> rfl
  ·rw [← dK]
   exact len_list (by rw [dK]; exact Nat.le_trans h4 (by decide))
  ·rcases ht' with rfl | ⟨a,rfl⟩ <;> rfl
 have h:exs (ops (GT k) 24) (cxOf 32) ([("octets",.list (intsD bs))]:Vars) (fBody (fnAt 32)) st=some (FD.ret (.str (writ bs)),V32 bs (fN bs) (manyN bs.length) t',st):=by
  have hlen:((List.range (manyN bs.length)).map (sgnAt (fN bs) (manyN bs.length))).length=manyN bs.length:=by rw [List.length_map,List.length_range]
  refine exs_one s0 (exs_one (tL (src:=.list (intsD bs)) (ds:=intsD bs) rfl rfl rfl w) (exs_one s2 (aE (aP (aD (st':=st) (a:=.str ((List.range (manyN bs.length)).map (sgnAt (fN bs) (manyN bs.length)))) (b:=.str (List.replicate ((4 - manyN bs.length % 4) % 4) 61))
   (ev_meth (st':=st) (st₂:=st) (d:=.str []) (ds:=[.list ((List.range (manyN bs.length)).map fun j=>D.str [sgnAt (fN bs) (manyN bs.length) j])]) rfl rfl rfl rfl (aA rfl ?_ rfl) (aHh _ _ (by rw [List.length_range]; exact Nat.le_trans hm6 (by decide))))
   (aD (st':=st) (a:=.str [61]) (b:=.int (((4 - manyN bs.length % 4) % 4:Nat):Int)) rfl ?_ aQe) (fQ (by rw [hlen,List.length_replicate]; exact Nat.le_trans (Nat.add_le_add hm6 (Nat.le_of_lt (Nat.mod_lt _ (by decide)))) (by decide))))))))
  ·rw [← wX]
   refine oA (n:=19) (src:=.range ((manyN bs.length - 1:Nat):Int) (-1) (-1)) (ds:=(List.range (manyN bs.length)).map fun (k:Nat)=>D.int (((manyN bs.length - 1:Nat):Int) - (k:Int))) (Iv32 (fN bs)) (fun d=>[sgnD (fN bs) (manyN bs.length) d]) ?_ (ev_blt (fd:=.type "range") (ds:=[.int (manyN bs.length - 1:Nat),.int (-1),.int (-1)]) rfl (aB rfl rfl rfl) (aA rfl (aD (st':=st) (a:=.int (manyN bs.length)) (b:=.int (1:Nat)) ?_ rfl (sub_nat hm0)) (aA rfl rfl (aA rfl rfl rfl))) rfl ?_) ?_ ?_ ?_ ?_
   ·rcases ht' with rfl | ⟨a,rfl⟩ <;> rfl
   ·rcases ht' with rfl | ⟨a,rfl⟩ <;> rfl
   ·exact oP (gP (Nat.le_trans (Nat.sub_le _ _) (Nat.le_trans hm6 (by decide))))
   ·have:=aAx (b:=manyN bs.length - 1) (Nat.le_trans (Nat.sub_le _ _) (Nat.le_trans hm6 (by decide)))
    rwa [Nat.sub_add_cancel hm0] at this
   ·refine⟨[],.inl rfl,?_⟩
    rcases ht' with rfl | ⟨a,rfl⟩ <;> rfl
   ·intro d hd v L r ⟨t,ht,hv⟩ hL hs
    obtain⟨j,hj,rfl⟩:=List.mem_map.mp hd
    have hj6:=List.mem_range.mp hj
    subst hv
    have ej:((manyN bs.length - 1:Nat):Int) - (j:Int)=((manyN bs.length - 1 - j:Nat):Int):=(Int.ofNat_sub (Nat.le_sub_one_of_lt hj6)).symm
    have hj7:manyN bs.length - 1 - j≤6:=Nat.le_trans (Nat.sub_le _ _) (Nat.le_trans (Nat.sub_le _ _) hm6)
    rw [ej]
    obtain⟨p1,p2⟩:=aUk hj7
    refine⟨([("signs",.str ownL),("number",.int (fN bs)),("k",.int (manyN bs.length - 1 - j:Nat))]:Vars),⟨_,.inr ⟨_,rfl⟩,rfl⟩,rfl,iO (b:=true) ?_ rfl (fun _=>?_) rfl hL (Nat.le_trans (Nat.le_add_right _ _) hs)⟩
    ·rcases ht with rfl | ⟨j',rfl⟩ <;> rfl
    ·exact ev_idx (d:=.str ownL) (j:=.int (fN bs / 64 ^ (manyN bs.length - 1 - j) % 64:Nat)) rfl rfl (aD (a:=.int (fN bs / 64 ^ (manyN bs.length - 1 - j):Nat)) (b:=.int (64:Nat)) (aD (a:=.int (fN bs)) (b:=.int (64 ^ (manyN bs.length - 1 - j):Nat)) rfl (aD (a:=.int (64:Nat)) (b:=.int (manyN bs.length - 1 - j:Nat)) rfl rfl (pow_nat (by decide) (Nat.le_trans hj7 (by decide)))) (div_nat p1 p2)) rfl (mod_nat (by decide))) (ownL_at (Nat.mod_lt _ (by decide)))
   ·rw [wX,List.length_map,List.length_range]; exact Nat.le_trans hm6 (by decide)
  ·rw [← aTq]
   refine aD (st':=st) (a:=.int (-(manyN bs.length:Int))) (b:=.int 4) (aSc ?_) rfl rfl
   rcases ht' with rfl | ⟨a,rfl⟩ <;> rfl
 exact bK rfl rfl (aK h (aG rfl))
end Mine
end
section -- R30
open PySem
namespace Mine
noncomputable def tl (s:Str):List Nat:=s.cps.toList
noncomputable def tailsL:List (List Nat):=[tl "\" (|||?|)",tl "\" of \"ten\" (!!!?!)",tl "\"(~~~?~)",tl "\" is it (///?/) or (|||1|)",tl "\" ) (|||?|)",tl "\" (|||0?|)",tl "\" ((((?()",tl "\" (\"\"\"?\")",
 tl "\" (|||?||)",tl "\" (|||?|x)",tl "\" (|||?|x",tl "\" 2?2)",tl "\"",tl "\" (|||?|)",tl "\" (|||?|)",tl "\" (|||?|)"]
noncomputable def opn (y:Int):List Nat:=[tl " -\"",tl "-\"",tl "  \""].getD (y.fmod 3).toNat []
noncomputable def fT (m:Nat) (y:Int):List Nat:=bif (m:Int) == 13 then opn y else tl " \""
noncomputable def codes (l:List Str) (y:Int):List Nat:=(l.map tl).getD (y.fmod 4).toNat []
noncomputable def dI (m:Nat) (y:Int):List Nat:=bif (m:Int) == 14 then codes ["550","157","227","256"] y else tl "257"
noncomputable def eJ (m:Nat) (y:Int):List Nat:=bif (m:Int) == 15 then codes ["257","129","239","228"] y else tl "229"
noncomputable def bC (m:Nat) (y:Int) (w:List Nat) (p:Int):List Nat:=fT m y++replC 34 [34,34] w++replC 63 (decI p) (tailsL.getD m [])
section
variable {G:Gx} {n k:Nat} {o:Ops} {cx:Cx} {vars vars' vars₂:Vars} {st st' st₂ st₃:Store} {R:Option (FD×Vars×Store)}
theorem tR {t a b:Expr} {p:Pos} {c:Bool} {x y:List Nat} (h:(ops G n).tr cx vars t st=some (c,st')) (h1:(ops G n).ev cx vars a st'=some (.str x,st')) (h2:(ops G n).ev cx vars b st'=some (.str y,st')):(ops G (n+1)).ev cx vars (.IfExp t a b p) st=some (.str (bif c then x else y),st'):=by
 induction c with
 | true=>exact aCc h h1
 | false=>exact aDe h h2
end
theorem idx3 {st:Store} (a b c:List Nat) (y:Int):index st (.list [.str a,.str b,.str c]) (.int (y.fmod 3))=some (.str ([a,b,c].getD (y.fmod 3).toNat [])):=by
 have h1:0≤y.fmod 3:=Int.fmod_nonneg_of_pos _ (by decide)
 have h2:y.fmod 3 < 3:=Int.fmod_lt_of_pos _ (by decide)
 obtain⟨r,hr⟩:=Int.eq_ofNat_of_zero_le h1
 rw [hr] at h2 ⊢
 match r,h2 with
 | 0,_=>rfl
 | 1,_=>rfl
 | 2,_=>rfl
theorem idx4 {st:Store} (a b c d:List Nat) (y:Int):index st (.list [.str a,.str b,.str c,.str d]) (.int (y.fmod 4))=some (.str ([a,b,c,d].getD (y.fmod 4).toNat [])):=by
 obtain⟨h1,h2⟩:=sA y
 obtain⟨r,hr⟩:=Int.eq_ofNat_of_zero_le h1
 rw [hr] at h2 ⊢
 match r,h2 with
 | 0,_=>rfl
 | 1,_=>rfl
 | 2,_=>rfl
 | 3,_=>rfl
noncomputable def tH:List D:=(tailsL.take 8).map .str
noncomputable def uL:List D:=(tailsL.drop 8).map .str
noncomputable def tailsD:List D:=tailsL.map .str
theorem aEe:binop .Add (.list tH) (.list uL)=some (.list tailsD):=by kernel_rfl
theorem aGs {st:Store}:∀ m < 16,index st (.list tailsD) (.int (m:Nat))=some (.str (tailsL.getD m [])):=by
 intro m h
 have e:∀ m:Nat,m < 16→place 16 (m:Int)=some m∧tailsL[m]? = some (tailsL.getD m []):=by decide +kernel
 obtain⟨e1,e2⟩:=e m h
 show (place 16 (m:Int)).bind (fun k=>(tailsL.map D.str)[k]?)=_
 rw [e1]
 show (tailsL.map D.str)[m]? = _
 rw [List.getElem?_map,e2]; rfl
theorem vE (c:Nat) (z:List Nat):∀ l:List Nat,(replC c z l).length≤l.length * (z.length+1)
 | []=>Nat.zero_le _
 | x::xs=>by
  have ih:=vE c z xs
  show ((if x=c then z else [x])++replC c z xs).length≤_
  rw [List.length_append,List.length_cons,Nat.add_mul,Nat.one_mul,Nat.add_comm]
  refine Nat.add_le_add ih ?_
  split
  ·exact Nat.le_succ _
  ·exact Nat.succ_le_succ (Nat.zero_le _)
theorem aLq {w:List Nat} (h:w.length≤1000):replD (.str w) "\"" "\"\"" = some (.str (replC 34 [34,34] w)):=by
 show (if (fits (w.length+(w.length+1) * 2)&&true)=true then some (D.str (replC 34 [34,34] w)) else none)=_
 have:fits (w.length+(w.length+1) * 2)=true:=by unfold fits; exact decide_eq_true (by lia)
 rw [this]; rfl
end Mine
end
section -- R31
open PySem
namespace Mine
section
variable {G:Gx} {n k:Nat} {o:Ops} {cx:Cx} {vars vars' vars₂:Vars} {st st' st₂ st₃:Store} {R:Option (FD×Vars×Store)}
theorem aSb {v:Expr} {name:Str} {ap p:Pos} {args:List Expr} {d r:D} {c z:Str} (hk:dA v args ap p=true) (hr:dU name args=some (c,.inl z)) (h1:(ops G n).ev cx vars v st=some (d,st')) (h2:replD d c z=some r) :
  (ops G (n+1)).ev cx vars (.Call (.Attribute v name ap) args [] p) st=some (r,st'):=by
 show (if dA v args ap p then _ else none)=_
 rw [if_pos hk,hr]
 exact bI h1 (bI h2 rfl)
theorem aPm {v x:Expr} {name f:Str} {ap p fp:Pos} {args:List Expr} {d r fd i:D} {c z:Str} (hk:dA v args ap p=true) (hr:dU name args=some (c,.inr (f,fp,x))) (h1:(ops G n).ev cx vars v st=some (d,st)) (h3:(ops G n).ev cx vars (.Name f fp) st=some (fd,st)) (h4:(ops G n).ev cx vars x st=some (i,st)) (h5:strI fd i=some z) (h2:replD d c z=some r) :
  (ops G (n+1)).ev cx vars (.Call (.Attribute v name ap) args [] p) st=some (r,st):=by
 show (if dA v args ap p then _ else none)=_
 rw [if_pos hk,hr]
 exact bI h1 (bI h3 (bI h4 (bI h5 (bI h2 rfl))))
end
theorem aEp {t:List Nat} {p:Int} (h1:(decI p).length≤10) (h2:decI p≠[63]) (ht:t.length≤30):replD (.str t) "?" ⟨(decI p).toArray⟩=some (.str (replC 63 (decI p) t)):=by
 show (if (fits (t.length+(t.length+1) * (decI p).length)&&!(decide (decI p=[63])))=true then some (D.str (replC 63 (decI p) t)) else none)=_
 have h3:(t.length+1) * (decI p).length≤31 * 10:=Nat.mul_le_mul (Nat.succ_le_succ ht) h1
 rw [aF (Nat.le_trans (Nat.add_le_add ht h3) (by decide)),decide_eq_false h2]; rfl
theorem aPd {p:Int} (h:small p=true):strI (.type "str") (.int p)=some ⟨(decI p).toArray⟩:=by
 show (if small p then _ else none)=_
 rw [h]; rfl
theorem aOo (y:Int):(opn y).length≤3:=by
 have e:∀ r,([tl " -\"",tl "-\"",tl "  \""].getD r []).length≤3:=fun r=>by
  match r with
  | 0=>decide
  | 1=>decide
  | 2=>decide
  | r+3=>exact Nat.zero_le _
 exact e _
theorem mM (m:Nat) (y:Int):(fT m y).length≤3:=by
 unfold fT
 cases (m:Int) == 13 with
 | true=>exact aOo y
 | false=>exact (by decide:(tl " \"").length≤3)
theorem rY {l:List Str} (hl:(l.map tl).all (fun c=>c.length == 3)=true) (h4:(l.map tl).length=4) (y:Int):(codes l y).length=3:=by
 unfold codes
 have hf:=sA y
 have hr:(y.fmod 4).toNat < (l.map tl).length:=by rw [h4]; omega
 rw [List.getD_eq_getElem?_getD,List.getElem?_eq_getElem hr]
 exact eq_of_beq (List.all_eq_true.mp hl _ (List.getElem_mem hr))
theorem sG (m:Nat) (y:Int):(dI m y).length=3:=by
 unfold dI
 cases (m:Int) == 14 with
 | true=>exact rY (by decide) (by decide) y
 | false=>exact (by decide:(tl "257").length=3)
theorem rM (m:Nat) (y:Int):(eJ m y).length=3:=by
 unfold eJ
 cases (m:Int) == 15 with
 | true=>exact rY (by decide) (by decide) y
 | false=>exact (by decide:(tl "229").length=3)
theorem gJ:∀ m,m < 16→(tailsL.getD m []).length≤30:=by decide +kernel
theorem eV {c:Nat} {z l:List Nat} {a b:Nat} (h1:l.length≤a) (h2:z.length≤b):(replC c z l).length≤a * (b+1):=Nat.le_trans (vE c z l) (Nat.mul_le_mul h1 (Nat.succ_le_succ h2))
theorem mV {x y:List Nat} {a b:Nat} (h1:x.length≤a) (h2:y.length≤b):(x++y).length≤a+b:=by rw [List.length_append]; exact Nat.add_le_add h1 h2
theorem vK {m:Nat} {y:Int} {w:List Nat} {p:Int} (hm:m < 16) (hw:w.length≤100) (h1:(decI p).length≤10):(bC m y w p).length≤633 :=
 mV (mV (mM m y) (eV (z:=[34,34]) (b:=2) hw (Nat.le_refl 2))) (eV (gJ m hm) h1)
noncomputable def V33 (m:Nat) (y:Int) (w:List Nat) (p:Int) (t:Vars):Vars:=([("manner",.int m),("y",.int y),("written",.str w),("port",.int p),("right",.list tH),("spoiled",.list uL)]:Vars)++t
theorem aJb (k m:Nat) (y p:Int) (w:List Nat) (st:Store) (hm:m < 16) (hw:w.length≤100) (hp:small p=true) (h1:(decI p).length≤10) (h2:decI p≠[63]) :
  (GT (k+1)).fn 205 [.int m,.int y,.str w,.int p] [] st=some (.ret (.list [.str (dI m y++bC m y w p),.str (eJ m y++bC m y w p)]),st):=by
 have a1:=mV (mM m y) (eV (c:=34) (z:=[34,34]) (b:=2) hw (Nat.le_refl 2))
 have hr:=vK (y:=y) hm hw h1
 have h:exs (ops (GT k) 24) (cxOf 33) ([("manner",.int m),("y",.int y),("written",.str w),("port",.int p)]:Vars) (fBody (fnAt 33)) st=some (FD.ret (.list [.str (dI m y++bC m y w p),.str (eJ m y++bC m y w p)]),V33 m y w p ([("opening",.str (fT m y)),("rest",.str (bC m y w p)),("first",.str (dI m y)),("second",.str (eJ m y))]:Vars),st) :=
  exs_one (aC (n:=23) (st':=st) (d:=.list tH) rfl rfl rfl) (exs_one (aC (st':=st) (d:=.list uL) rfl rfl rfl)
  (exs_one (aC (st':=st) (d:=.str (fT m y)) rfl (tR (st':=st) (tr_cmp (st':=st) (a:=.int m) (b:=.int 13) rfl rfl rfl) (ev_idx (st':=st) (d:=.list [.str (tl " -\""),.str (tl "-\""),.str (tl "  \"")]) (j:=.int (y.fmod 3)) rfl rfl rfl (idx3 _ _ _ y)) rfl) rfl)
  (exs_one (aC (st':=st) (d:=.str (bC m y w p)) rfl (aD (st':=st) (a:=.str (fT m y++replC 34 [34,34] w)) (b:=.str (replC 63 (decI p) (tailsL.getD m [])))
   (aD (st':=st) (a:=.str (fT m y)) (b:=.str (replC 34 [34,34] w)) rfl (aSb (st':=st) (d:=.str w) rfl rfl rfl (aLq (Nat.le_trans hw (by decide)))) (fQ (Nat.le_trans (Nat.add_le_add (mM m y) (eV (b:=2) hw (Nat.le_refl 2))) (by decide))))
   (aPm (d:=.str (tailsL.getD m [])) (fd:=.type "str") (i:=.int p) rfl rfl (ev_idx (st':=st) (d:=.list tailsD) (j:=.int m) rfl (aD (st':=st) (a:=.list tH) (b:=.list uL) rfl rfl aEe) rfl (aGs m hm)) (aB rfl rfl rfl) rfl (aPd hp) (aEp h1 h2 (gJ m hm)))
   (fQ (Nat.le_trans (Nat.add_le_add a1 (eV (gJ m hm) h1)) (by decide)))) rfl)
  (exs_one (aC (st':=st) (d:=.str (dI m y)) rfl (tR (st':=st) (tr_cmp (st':=st) (a:=.int m) (b:=.int 14) rfl rfl rfl) (ev_idx (st':=st) (d:=.list [.str (tl "550"),.str (tl "157"),.str (tl "227"),.str (tl "256")]) (j:=.int (y.fmod 4)) rfl rfl rfl (idx4 _ _ _ _ y)) rfl) rfl)
  (exs_one (aC (st':=st) (d:=.str (eJ m y)) rfl (tR (st':=st) (tr_cmp (st':=st) (a:=.int m) (b:=.int 15) rfl rfl rfl) (ev_idx (st':=st) (d:=.list [.str (tl "257"),.str (tl "129"),.str (tl "239"),.str (tl "228")]) (j:=.int (y.fmod 4)) rfl rfl rfl (idx4 _ _ _ _ y)) rfl) rfl)
  (aE (aP (bX (aA (d:=.str (dI m y++bC m y w p)) rfl (aD (st':=st) (a:=.str (dI m y)) (b:=.str (bC m y w p)) rfl rfl (fQ (Nat.le_trans (Nat.add_le_add (Nat.le_of_eq (sG m y)) hr) (by decide))))
   (aA (d:=.str (eJ m y++bC m y w p)) rfl (aD (st':=st) (a:=.str (eJ m y)) (b:=.str (bC m y w p)) rfl rfl (fQ (Nat.le_trans (Nat.add_le_add (Nat.le_of_eq (rM m y)) hr) (by decide)))) rfl)) rfl))))))))
 exact bK rfl rfl (aK h (aG rfl))
end Mine
end
section -- R32
open PySem
namespace Mine
section
variable {G:Gx} {n k:Nat} {o:Ops} {cx:Cx} {vars vars' vars₂:Vars} {st st' st₂ st₃:Store} {R:Option (FD×Vars×Store)}
theorem mR:∀ {x y:List Stmt} {vars:Vars} {st:Store},exs o cx vars x st=some (.next,vars',st')→exs o cx vars' y st'=R→exs o cx vars (x++y) st=R
 | [],y,vars,st,h,h2=>by cases h; exact h2
 | s::x,y,vars,st,h,h2=>by
  have h:(o.ex cx vars s st).bind _=_:=h
  show (o.ex cx vars s st).bind _=_
  cases e:o.ex cx vars s st with
  | none=>rw [e] at h; exact nn h
  | some r =>
   obtain⟨f,v,s'⟩:=r
   rw [e] at h
   induction f with
   | next=>exact mR h h2
   | _=>cases h
theorem xS {s:Stmt} {r:List Stmt} (h:o.ex cx vars s st=none):exs o cx vars (s::r) st=none:=bN h
theorem xG {t e:Expr} {p:Pos} (hk:jG cx t e p.line=some none) (h1:evA G (ops G n) cx vars e st=none):(ops G (n+1)).ex cx vars (.Assign [t] e p) st=none:=by
 show dO G (ops G n) cx vars t e p.line st=_
 unfold dO
 rw [hk]
 exact bN h1
theorem uX {es:List Expr} {p:Pos} (h1:evs (ops G n) cx vars es st=none):(ops G (n+1)).ev cx vars (.List es p) st=none:=bN h1
theorem aCp {α:Type} {e:Expr} {a:Option α} (h:a=none):(if isStar e=true then none else a)=none:=by rw [h]; exact ite_self none
theorem rE {e:Expr} {r:List Expr} (h1:o.ev cx vars e st=none):evs o cx vars (e::r) st=none:=aCp (congrArg (Option.bind · _) h1)
theorem aGn {e:Expr} {r:List Expr} {d:D} (h1:o.ev cx vars e st=some (d,st')) (h2:evs o cx vars r st'=none):evs o cx vars (e::r) st=none :=
 aCp ((congrArg (Option.bind · _) h1).trans (congrArg (Option.bind · _) h2))
theorem qD {f:Expr} {args:List Expr} {p:Pos} {a c:Nat} {ds:List D} {d:D} {st₄:Store} (ha:nL f=none) (h1:(ops G n).ev cx vars f st=some (.obj a,st')) (h2:evs (ops G n) cx vars args st'=some (ds,st₂)) (h4:G.fn a ds [] st₂=some (.exc c d,st₄)) :
  (ops G (n+1)).ev cx vars (.Call f args [] p) st=none:=(uD ha).trans (bI h1 (bI h2 (bI rfl (bI h4 rfl))))
theorem aUf {b:List Stmt} {hs:List ExceptHandler} {p:Pos} {d:D} (h:exs (ops G n) cx vars b st=some (.ret d,vars',st')):(ops G (n+1)).ex cx vars (.Try b hs [] [] p) st=some (.ret d,vars',st'):=by
 show (exs (ops G n) cx vars b st).bind quiet=_
 rw [h]; rfl
theorem yI {b:List Stmt} {hs:List ExceptHandler} {p:Pos} (h:exs (ops G n) cx vars b st=none):(ops G (n+1)).ex cx vars (.Try b hs [] [] p) st=none:=by
 show (exs (ops G n) cx vars b st).bind quiet=_
 rw [h]; rfl
theorem oW {f:Str} {fp p:Pos} {args:List Expr} {a:Nat} {ds:List D} {r:Res} (h1:o.ev cx vars (.Name f fp) st=some (.obj a,st)) (h2:evs o cx vars args st=some (ds,st)) (h3:G.fn a ds [] st=some (r,st)):evX G o cx vars (.Call (.Name f fp) args [] p) st=(excR r).bind fun x=>some (x.1,x.2,st) :=
 (congrArg (Option.bind · _) h1).trans ((congrArg (Option.bind · _) h2).trans (congrArg (Option.bind · _) h3))
theorem wL {e:Expr} {r:List Expr} {x:Nat×D×Store} (hs:isStar e=false) (h:evX G o cx vars e st=some x):evXs G o cx vars (e::r) st=some x:=by
 refine (if_neg (fun q=>Bool.false_ne_true (hs.symm.trans q))).trans ?_
 rw [h]
theorem aMo {e:Expr} {r:List Expr} {d:D} {R:Option (Nat×D×Store)} (h:evX G o cx vars e st=none) (hs:isStar e=false) (h1:o.ev cx vars e st=some (d,st)) (h2:evXs G o cx vars r st=R):evXs G o cx vars (e::r) st=R:=by
 refine (if_neg (fun q=>Bool.false_ne_true (hs.symm.trans q))).trans ?_
 rw [h]
 exact (congrArg (Option.bind · _) h1).trans h2
theorem aBq {a:Nat} {ds:List D} {ks:List (Str×D)} {f:FDesc} {vd:Vars} {F:Hear} {r:Res×Store} (ht:tab a=some f) (hb:f.bind ds ks=some vd) (hr:runF (GT k) f.sc f.body vd st=none) (hF:f.hear=some F) (hx:finF st.length (pT (GT k) (ops (GT k) 24) ⟨f.sc.names,f.sc.names⟩ 44 56 vd st F)=some r) :
  (GT (k+1)).fn a ds ks st=some r:=by
 show (tab a).bind (fun f=>(f.bind ds ks).bind fun vd=>runD (GT k) 44 56 f vd st)=_
 rw [ht]
 show (f.bind ds ks).bind (fun vd=>runD (GT k) 44 56 f vd st)=_
 rw [hb]
 show runD (GT k) 44 56 f vd st=_
 unfold runD
 rw [hr]
 show f.hear.bind _=_
 rw [hF]
 exact hx
end
end Mine
end
section -- R33
open PySem
namespace Mine
noncomputable def dX (p m:Nat) (y:Int) (bs:List Nat):D:=.list [.int (p:Nat),.int (m:Nat),.int y,.list (intsD bs)]
noncomputable def V34 (p m:Nat) (y:Int) (bs:List Nat) (b:Int) (one two:List Nat) (t:Vars):Vars:=([("part",dX p m y bs),("base",.int b),("place",.int (p:Nat)),("manner",.int (m:Nat)),("y",.int y),("octets",.list (intsD bs)),("one",.str one),("two",.str two)]:Vars)++t
noncomputable def ipL (p:Nat):List Nat:=tl "10.0.0."++decI p
theorem zV {st:Store} {q:Int} (h:small q=true):bcall st (.type "str") [.int q]=some (.str (decI q)):=by
 show (if small q then some (D.str (decI q)) else none)=_
 rw [h]; rfl
theorem aRu {st:Store} {p:Nat} (h:p≤1000):bcall st (.type "str") [.int (p:Nat)]=some (.str (decI p)):=zV (gP h)
theorem jY {st:Store} {L:List Nat} (h:∀ x∈L,x < 256) (hs:L.length≤1000):bcall st (.type "bytes") [.list (intsD L)]=some (.bytes L):=by
 show ((bM (intsD L)).bind fun is=>(octs is).bind fun os=>if fits os.length then some (D.bytes os) else none)=_
 rw [gK]
 show ((octs (L.map fun (c:Nat)=>(c:Int))).bind fun os=>if fits os.length then some (D.bytes os) else none)=_
 rw [iR L h]
 show (if fits L.length then some (D.bytes L) else none)=_
 rw [aF hs]; rfl
theorem zG {st:Store} {l:List Nat} (h1:l.all (· < 128)=true) (h2:l.length≤1000) (h3:l.isEmpty=false):fZ "decode" (.bytes l) [.str (tl "ascii")] st=some (.str l,st):=by
 show (if (true&&decide (tl "ascii" = [97,115,99,105,105])&&l.all (· < 128)&&fits l.length&&!l.isEmpty)=true then some (D.str l) else none).map (fun r=>(r,st))=_
 rw [h1,h3,aF h2]; rfl
set_option genInjectivity false in
structure HearOk (p m:Nat) (y:Int) (bs:List Nat) (b:Int):Prop where
 m16:m < 16
 lt:∀ x∈bs,x < 256
 len:bs.length≤4
 p10:p≤10
 dp:(decI p).length≤10
 ne:(fY (encL bs)).isEmpty=false
 a128:(fY (encL bs)).all (· < 128)=true
 sm:small (b+p)=true
 dl:(decI (b+p)).length≤10
 d63:decI (b+p)≠[63]
noncomputable def eK (m p:Nat) (y:Int) (bs:List Nat) (b:Int):List Nat:=dI m y++bC m y (fY (encL bs)) (b+p)
noncomputable def eM (m p:Nat) (y:Int) (bs:List Nat) (b:Int):List Nat:=eJ m y++bC m y (fY (encL bs)) (b+p)
section
variable {k p m:Nat} {y b:Int} {bs:List Nat} {st:Store}
theorem qF (H:HearOk p m y bs b):exs (ops (GT (k+3)) 24) (cxOf 34) ([("part",dX p m y bs),("base",.int b)]:Vars) [(fBody (fnAt 34)).getD 0 (.Pass ⟨0,0,0,0⟩),(fBody (fnAt 34)).getD 1 (.Pass ⟨0,0,0,0⟩)] st=some (.next,V34 p m y bs b (eK m p y bs b) (eM m p y bs b) [],st):=by
 have hl:(fY (encL bs)).length≤100:=by
  show ((encL bs).map _).length≤_
  rw [List.length_map]
  exact Nat.le_trans (xV bs) (Nat.le_trans (Nat.add_le_add_right (Nat.mul_le_mul_left 2 H.len) 3) (by decide))
 have h205:=aJb (k+2) m y (b+p) (fY (encL bs)) st H.m16 hl H.sm H.dl H.d63
 have h145:=aSg k bs st H.lt (Nat.le_trans H.len (by decide))
 exact exs_one (aC (n:=23) (st':=st) (d:=dX p m y bs) rfl rfl rfl) (exs_one (aC (st':=st) rfl (aX (a:=205) (ds:=[.int (m:Nat),.int y,.str (fY (encL bs)),.int (b+p)]) (kd:=[]) rfl (aB rfl rfl rfl)
  (aA rfl rfl (aA rfl rfl (aA rfl (ev_meth (st':=st) (st₂:=st) (d:=.bytes (fY (encL bs))) (ds:=[.str (tl "ascii")]) rfl rfl (aX (a:=145) (ds:=[.bytes bs,.bytes [34,32]]) (kd:=[]) rfl (aB rfl rfl rfl) (aA rfl (ev_blt (fd:=.type "bytes") (ds:=[.list (intsD bs)]) rfl (aB rfl rfl rfl) (aA rfl rfl rfl) rfl (jY H.lt (Nat.le_trans H.len (by decide)))) (aA rfl rfl rfl)) rfl h145) rfl (aA rfl rfl rfl) (zG H.a128 (Nat.le_trans hl (by decide)) H.ne)) (aA (d:=.int (b+p)) rfl (aD (st':=st) (a:=.int b) (b:=.int (p:Nat)) rfl rfl rfl) rfl)))) rfl h205) rfl) rfl)
theorem pL (H:HearOk p m y bs b) {n:Nat} {one two:List Nat} {t:Vars}:evs (ops (GT (k+3)) (n+4)) (cxOf 34) (V34 p m y bs b one two t) (match oY.1.es with | [_,.Call _ as _ _]=>as | _=>[]) st=some ([.str two,.tuple [.str (ipL p),.int 21]],st) :=
 aA rfl rfl (aA rfl (qL (aA (d:=.str (ipL p)) rfl (aD (st':=st) (a:=.str (tl "10.0.0.")) (b:=.str (decI p)) rfl (ev_blt (fd:=.type "str") (ds:=[.int (p:Nat)]) rfl (aB rfl rfl rfl) (aA rfl rfl rfl) rfl (aRu (Nat.le_trans H.p10 (by decide)))) (fQ (Nat.le_trans (Nat.add_le_add_left H.dp 7) (by decide)))) (aA rfl rfl rfl)) rfl) rfl)
theorem tA (H:HearOk p m y bs b) {v:List Nat} {q:Int} (h1:(GT (k+3)).fn 72 [.str (eK m p y bs b)] [] st=some (.ret (.str v),st)) (h2:(GT (k+3)).fn 65 [.str (eM m p y bs b),.tuple [.str (ipL p),.int 21]] [] st=some (.ret (.tuple [.str (ipL p),.int q]),st)) (hq:small q=true) :
  (GT (k+4)).fn 212 [dX p m y bs,.int b] [] st=some (.ret (.list [.str v,.tuple [.str (ipL p),.int q],.str (decI q)]),st):=by
 have h:exs (ops (GT (k+3)) 24) (cxOf 34) ([("part",dX p m y bs),("base",.int b)]:Vars) (fBody (fnAt 34)) st=some (FD.ret (.list [.str v,.tuple [.str (ipL p),.int q],.str (decI q)]),V34 p m y bs b (eK m p y bs b) (eM m p y bs b) ([("told",.list [.str v,.tuple [.str (ipL p),.int q]])]:Vars),st):=by
  have hp:=qF (k:=k) (st:=st) H
  have key:∀ {a b c:Stmt} {v0 v1:Vars} {R:Option (FD×Vars×Store)},exs (ops (GT (k+3)) 24) (cxOf 34) v0 [a,b] st=some (.next,v1,st)→exs (ops (GT (k+3)) 24) (cxOf 34) v1 [c] st=R→exs (ops (GT (k+3)) 24) (cxOf 34) v0 [a,b,c] st=R:=fun {a b c v0 v1 R}=>mR (x:=[a,b]) (y:=[c])
  exact key hp (aE (aUf (exs_one (aC (n:=22) (st':=st) (d:=.list [.str v,.tuple [.str (ipL p),.int q]]) rfl (bX (aA rfl (aX (a:=72) (ds:=[.str (eK m p y bs b)]) (kd:=[]) rfl (aB rfl rfl rfl) (aA rfl rfl rfl) rfl h1) (aA rfl (aX (a:=65) (ds:=[.str (eM m p y bs b),.tuple [.str (ipL p),.int 21]]) (kd:=[]) rfl (aB rfl rfl rfl) (pL H) rfl h2) rfl)) rfl) rfl)
   (aE (aP (aD (st':=st) (a:=.list [.str v,.tuple [.str (ipL p),.int q]]) (b:=.list [.str (decI q)]) rfl (bX (aA rfl (ev_blt (fd:=.type "str") (ds:=[.int q]) rfl (aB rfl rfl rfl) (aA (d:=.int q) rfl (ev_idx (st':=st) (d:=.tuple [.str (ipL p),.int q]) (j:=.int 1) rfl (ev_idx (st':=st) (d:=.list [.str v,.tuple [.str (ipL p),.int q]]) (j:=.int 1) rfl rfl rfl rfl) rfl rfl) rfl) rfl (zV hq)) rfl) rfl) rfl))))))
 exact bK rfl rfl (aK h (aG rfl))
end
end Mine
end
section -- R34
open PySem
namespace Mine
section
variable {k p m:Nat} {y b:Int} {bs:List Nat} {st:Store}
noncomputable abbrev F34:Hear:=oY.1
theorem aBb (k:Nat):(!F34.es.isEmpty&&isGo (GT (k+1)) (cxOf 34) F34.x1 44&&isGo (GT (k+1)) (cxOf 34) F34.x2 56&&isGt (GT (k+1)) (cxOf 34) F34.s1 "str"&&isGt (GT (k+1)) (cxOf 34) F34.s2 "str"&&xW (cxOf 34) F34.y1&&xW (cxOf 34) F34.y2)=true:=by
 unfold isGo isGt
 rw [aRf]
 kernel_rfl
theorem zC (H:HearOk p m y bs b) {c:Nat} {nm l:List Nat} (hc:c=44∧nm=tl "error_reply"∨c=56∧nm=tl "error_proto") (hx:evXs (GT (k+3)) (ops (GT (k+3)) 24) (cxOf 34) (V34 p m y bs b (eK m p y bs b) (eM m p y bs b) []) F34.es st=some (c,.str l,st)) :
  finF st.length (pT (GT (k+3)) (ops (GT (k+3)) 24) (cxOf 34) 44 56 ([("part",dX p m y bs),("base",.int b)]:Vars) st F34)=some (.ret (.list [.str nm,.str l]),st):=by
 have e:pT (GT (k+3)) (ops (GT (k+3)) 24) (cxOf 34) 44 56 ([("part",dX p m y bs),("base",.int b)]:Vars) st F34=some (.ret (.list [.str nm,.str l]),[],st):=by
  unfold pT
  rw [if_pos (aBb (k+2))]
  have hp:exs (ops (GT (k+3)) 24) (cxOf 34) ([("part",dX p m y bs),("base",.int b)]:Vars) [F34.a1,F34.a2] st=some (.next,V34 p m y bs b (eK m p y bs b) (eM m p y bs b) [],st):=qF H
  rw [hp]
  refine (congrArg (Option.bind · _) hx).trans ?_
  rcases hc with ⟨rfl,rfl⟩ | ⟨rfl,rfl⟩ <;> rfl
 rw [e]
 show (aL st.length st (D.list [.str nm,.str l])).map (fun p=>(Res.ret p.1,p.2))=_
 rw [aG rfl]; rfl
theorem rG (H:HearOk p m y bs b) (h:evs (ops (GT (k+3)) 21) (cxOf 34) (V34 p m y bs b (eK m p y bs b) (eM m p y bs b) []) F34.es st=none):runF (GT (k+3)) (fScope (fnAt 34)) (fBody (fnAt 34)) ([("part",dX p m y bs),("base",.int b)]:Vars) st=none:=by
 have e:exs (ops (GT (k+3)) 24) (cxOf 34) ([("part",dX p m y bs),("base",.int b)]:Vars) (fBody (fnAt 34)) st=none :=
  (fun {a b c v0 v1 R}=>mR (x:=[a,b]) (y:=[c]):∀ {a b c:Stmt} {v0 v1:Vars} {R:Option (FD×Vars×Store)},exs (ops (GT (k+3)) 24) (cxOf 34) v0 [a,b] st=some (.next,v1,st)→exs (ops (GT (k+3)) 24) (cxOf 34) v1 [c] st=R→exs (ops (GT (k+3)) 24) (cxOf 34) v0 [a,b,c] st=R) (qF H) (xS (yI (xS (xG rfl (uX (n:=21) h)))))
 unfold runF
 rw [e]; rfl
theorem aAp (H:HearOk p m y bs b) (h1:(GT (k+3)).fn 72 [.str (eK m p y bs b)] [] st=some (.exc 44 (.str (eK m p y bs b)),st)) :
  (GT (k+4)).fn 212 [dX p m y bs,.int b] [] st=some (.ret (.list [.str (tl "error_reply"),.str (eK m p y bs b)]),st) :=
 aBq rfl rfl (rG H (rE (qD rfl (aB rfl rfl rfl) (aA rfl rfl rfl) h1))) rfl (zC H (.inl ⟨rfl,rfl⟩) (wL rfl (oW (aB rfl rfl rfl) (aA rfl rfl rfl) h1)))
theorem qM (H:HearOk p m y bs b) {c:Nat} {v nm:List Nat} (hc:c=44∧nm=tl "error_reply"∨c=56∧nm=tl "error_proto") (h1:(GT (k+3)).fn 72 [.str (eK m p y bs b)] [] st=some (.ret (.str v),st)) (h2:(GT (k+3)).fn 65 [.str (eM m p y bs b),.tuple [.str (ipL p),.int 21]] [] st=some (.exc c (.str (eM m p y bs b)),st)) :
  (GT (k+4)).fn 212 [dX p m y bs,.int b] [] st=some (.ret (.list [.str nm,.str (eM m p y bs b)]),st) :=
 aBq rfl rfl (rG H (aGn (aX rfl (aB rfl rfl rfl) (aA rfl rfl rfl) rfl h1) (rE (qD rfl (aB rfl rfl rfl) (pL (k:=k) H (n:=16)) h2)))) rfl
  (zC H hc (aMo (oW (aB rfl rfl rfl) (aA rfl rfl rfl) h1) rfl (aX rfl (aB rfl rfl rfl) (aA rfl rfl rfl) rfl h1) (wL rfl (oW (aB rfl rfl rfl) (pL (k:=k) H (n:=20)) h2))))
end
end Mine
end
section -- R35
open PySem
namespace Mine
section
variable {G:Gx} {n k:Nat} {o:Ops} {cx:Cx} {vars vars' vars₂:Vars} {st st' st₂ st₃:Store} {R:Option (FD×Vars×Store)}
theorem aDi {t e:Expr} {p:Pos} {xs:List Str} {ds:List D} (hk:jG cx t e p.line=some (some xs)) (h1:evA G (ops G n) cx vars e st=some (.tuple ds,st')) (hl:(ds.length == xs.length)=true) (h2:iM cx vars xs.reverse ds.reverse=some vars') :
  (ops G (n+1)).ex cx vars (.Assign [t] e p) st=some (.next,vars',st'):=by
 show dO G (ops G n) cx vars t e p.line st=_
 unfold dO
 rw [hk]
 exact bI h1 ((if_pos hl).trans (congrArg (Option.bind · _) h2))
theorem lA {e1 e2:Expr} {p:Pos} {c c':Bool} (h1:(ops G n).tr cx vars e1 st=some (c,st)) (h2:(ops G n).tr cx vars e2 st=some (c',st)):(ops G (n+1)).tr cx vars (.BoolOp .And [e1,e2] p) st=some (c&&c',st):=by
 induction c with
 | false=>exact gE h1
 | true=>exact jN h1 (by induction c' with
  | false=>exact gE h2
  | true=>exact jN h2 rfl)
theorem aCe {t:Expr} {a r:List Stmt} {p:Pos} {c:Bool} {d d':D} (h:(ops G n).tr cx vars t st=some (c,st)) (h1:c=true→exs (ops G n) cx vars a st=some (.ret d,vars,st)) (h2:exs (ops G (n+1)) cx vars r st=some (.ret d',vars,st)) :
  exs (ops G (n+1)) cx vars (.If t a [] p::r) st=some (.ret (bif c then d else d'),vars,st):=by
 induction c with
 | true=>exact aE (aH h (h1 rfl))
 | false=>exact exs_one (ex_if_f h rfl) h2
end
noncomputable def aRt (m:Nat) (one two:List Nat):List Nat:=bif (14:Int) == m then one else two
noncomputable def oK (p m:Nat) (b:Int) (one two w:List Nat):D :=
 bif ((14:Int) == m || ((15:Int) == m || false)) then .list [.str (tl "error_reply"),.str (aRt m one two)]
 else bif decide ((7:Int) < m)&&!((m:Int) == 13) then .list [.str (tl "error_proto"),.str two]
 else .list [.str (bif (m:Int) == 13 then [] else w),.tuple [.str (ipL p),.int (b+p)],.str (decI (b+p))]
theorem aSr {st:Store} {m:Nat} {one two:List Nat} (h:((14:Int) == m || ((15:Int) == m || false))=true):index st (.list [.str one,.str two]) (.int ((m:Int) - 14))=some (.str (aRt m one two)):=by
 rw [Bool.or_false,Bool.or_eq_true] at h
 rcases h with h | h
 ·have:m=14:=Int.ofNat.inj (eq_of_beq h).symm
  subst this; rfl
 ·have:m=15:=Int.ofNat.inj (eq_of_beq h).symm
  subst this; rfl
set_option genInjectivity false in
structure ToldOk (p m:Nat) (bs:List Nat) (b:Int):Prop where
 m16:m < 16
 lt:∀ x∈bs,x < 256
 len:bs.length≤4
 pos:0 < bs.length
 p10:p≤10
 dp:(decI p).length≤10
 sm:small (b+p)=true
 dl:(decI (b+p)).length≤10
 d63:decI (b+p)≠[63]
theorem pP (bs:List Nat) (h:bs.length≤4):(writ bs).length≤100:=by
 have:=mV (x:=(List.range (manyN bs.length)).map fun j=>ownL.getD (fN bs / 64 ^ (manyN bs.length - 1 - j) % 64) 0) (y:=List.replicate ((4 - manyN bs.length % 4) % 4) 61) (a:=6) (b:=4) (by rw [List.length_map,List.length_range]; exact (by decide:∀ n,n≤4→manyN n≤6) _ h) (by rw [List.length_replicate]; exact Nat.le_of_lt (Nat.mod_lt _ (by decide)))
 exact Nat.le_trans this (by decide)
theorem aSz (k p m:Nat) (y b:Int) (bs:List Nat) (st:Store) (H:ToldOk p m bs b) :
  (GT (k+2)).fn 219 [dX p m y bs,.int b] [] st=some (.ret (oK p m b (dI m y++bC m y (writ bs) (b+p)) (eJ m y++bC m y (writ bs) (b+p)) (writ bs)),st):=by
 have h205:=aJb k m y (b+p) (writ bs) st H.m16 (pP bs H.len) H.sm H.dl H.d63
 generalize dI m y++bC m y (writ bs) (b+p)=one at h205 ⊢
 generalize eJ m y++bC m y (writ bs) (b+p)=two at h205 ⊢
 have h:exs (ops (GT (k+1)) 24) (cxOf 35) ([("part",dX p m y bs),("base",.int b)]:Vars) (fBody (fnAt 35)) st=some (FD.ret (oK p m b one two (writ bs)),([("part",dX p m y bs),("base",.int b),("place",.int (p:Nat)),("manner",.int (m:Nat)),("y",.int y),("octets",.list (intsD bs)),("port",.int (b+p)),("written",.str (writ bs)),("replies",.list [.str one,.str two])]:Vars),st) :=
  exs_one (aC (n:=23) (st':=st) (d:=dX p m y bs) rfl rfl rfl)
  (exs_one (aDi (st':=st) (ds:=[.str (writ bs),.int (b+p)]) rfl (uF (gD (st':=st) rfl (aX (a:=198) (ds:=[.list (intsD bs)]) (kd:=[]) rfl (aB rfl rfl rfl) (aA rfl rfl rfl) rfl (aIk k bs st H.lt H.len H.pos)) (gD rfl (aD (st':=st) (a:=.int b) (b:=.int (p:Nat)) rfl rfl rfl) rfl)) rfl) rfl rfl)
  (exs_one (aC (st':=st) (d:=.list [.str one,.str two]) rfl (aX (a:=205) (ds:=[.int (m:Nat),.int y,.str (writ bs),.int (b+p)]) (kd:=[]) rfl (aB rfl rfl rfl) (aA rfl rfl (aA rfl rfl (aA rfl rfl (aA rfl rfl rfl)))) rfl h205) rfl)
  (aCe (tr_cmp (st':=st) (a:=.int m) (b:=.list [.int 14,.int 15]) rfl rfl rfl) (fun hc=>aE (aP (bX (aA rfl rfl (aA rfl (ev_idx (st':=st) (d:=.list [.str one,.str two]) (j:=.int ((m:Int) - 14)) rfl rfl (aD (st':=st) (a:=.int m) (b:=.int 14) rfl rfl rfl) (aSr hc)) rfl)) rfl)))
  (aCe (lA (tr_cmp (st':=st) (a:=.int m) (b:=.int 7) rfl rfl rfl) (tr_cmp (st':=st) (a:=.int m) (b:=.int 13) rfl rfl rfl)) (fun _=>aE (aP (bX (aA rfl rfl (aA rfl (ev_idx (st':=st) (d:=.list [.str one,.str two]) (j:=.int 1) rfl rfl rfl rfl) rfl)) rfl)))
  (aE (aP (bX (aA rfl (tR (st':=st) (tr_cmp (st':=st) (a:=.int m) (b:=.int 13) rfl rfl rfl) rfl rfl) (aA rfl (qL (aA (d:=.str (ipL p)) rfl (aD (st':=st) (a:=.str (tl "10.0.0.")) (b:=.str (decI p)) rfl (ev_blt (fd:=.type "str") (ds:=[.int (p:Nat)]) rfl (aB rfl rfl rfl) (aA rfl rfl rfl) rfl (aRu (Nat.le_trans H.p10 (by decide)))) (fQ (Nat.le_trans (Nat.add_le_add_left H.dp 7) (by decide)))) (aA rfl rfl rfl)) rfl)
   (aA rfl (ev_blt (fd:=.type "str") (ds:=[.int (b+p)]) rfl (aB rfl rfl rfl) (aA rfl rfl rfl) rfl (zV H.sm)) rfl))) rfl)))))))
 refine bK rfl rfl (aK h (aG ?_))
 unfold oK
 cases ((14:Int) == m || ((15:Int) == m || false)) with
 | true=>rfl
 | false=>cases decide ((7:Int) < m)&&!((m:Int) == 13) <;> rfl
end Mine
end
section -- M1
open PySem
namespace Mine
set_option genInjectivity false in
structure Lin (P:D→Prop):Prop where
 cmp:∀ a b,P a→P b→∃ t,dlt a b=some t
 irr:∀ a,P a→ltD a a=false
 tr:∀ a b c,P a→P b→P c→ltD a b=true→ltD b c=true→ltD a c=true
 tri:∀ a b,P a→P b→ltD a b=false→ltD b a=false→a=b
section
variable {P:D→Prop} (L:Lin P) {a b c:D} (ha:P a) (hb:P b) (hc:P c)
include L ha hb
theorem Lin.asym (h:ltD a b=true):ltD b a=false:=by
 cases e:ltD b a with
 | false=>rfl
 | true=>exact (L.tr a b a ha hb ha h e).symm.trans (L.irr a ha)
include hc
theorem Lin.le_tr (h1:ltD b a=false) (h2:ltD c b=false):ltD c a=false:=by
 cases e:ltD c a with
 | false=>rfl
 | true =>
  cases e2:ltD a b with
  | true=>exact (L.tr c a b hc ha hb e e2).symm.trans h2
  | false=>rw [L.tri a b ha hb e2 h1] at e; exact e.symm.trans h2
end
noncomputable def gd (l:List D) (i:Nat):D:=l.getD i .none
theorem fV {l:List D} {p:Nat} {x:D} (h:p < l.length):gd (l.set p x) p=x:=by
 unfold gd; rw [List.getD_eq_getElem?_getD,List.getElem?_set_self h]; rfl
theorem dY {l:List D} {p i:Nat} {x:D} (h:i≠p):gd (l.set p x) i=gd l i:=by
 unfold gd; rw [List.getD_eq_getElem?_getD,List.getElem?_set_ne (Ne.symm h),List.getD_eq_getElem?_getD]
theorem qA {l:List D} {i:Nat} (h:i < l.length):l[i]? = some (gd l i):=by
 unfold gd; rw [List.getD_eq_getElem?_getD,List.getElem?_eq_getElem h]; rfl
theorem aUg {l:List D} {i:Nat} (h:i < l.length):gd l i∈l:=List.mem_of_getElem? (qA h)
theorem gd_P {P:D→Prop} {l:List D} {i:Nat} (hP:∀ y∈l,P y) (h:i < l.length):P (gd l i):=hP _ (aUg h)
theorem yF {P:D→Prop} {l:List D} {p:Nat} {x:D} (hP:∀ y∈l,P y) (hx:P x):∀ y∈l.set p x,P y:=fun y hy=>(List.mem_or_eq_of_mem_set hy).elim (hP y) fun e=>e▸hx
theorem aW {i:Nat} (h:0 < i):parent i < i:=by unfold parent; lia
theorem jD {i p:Nat} (h:0 < i) (e:parent i=p):i=2 * p+1∨i=2 * p+2:=by unfold parent at e; lia
theorem rQ (p:Nat):parent (2 * p+1)=p:=by unfold parent; simp
theorem aFt (p:Nat):parent (2 * p+2)=p:=by unfold parent; lia
noncomputable def HeapOrd (l:List D):Prop:=∀ i,0 < i→i < l.length→ltD (gd l i) (gd l (parent i))=false
set_option genInjectivity false in
structure Hole (l:List D) (p:Nat):Prop where
 far:∀ i,0 < i→i < l.length→i≠p→parent i≠p→ltD (gd l i) (gd l (parent i))=false
 near:∀ i,0 < i→i < l.length→parent i=p→0 < p→ltD (gd l i) (gd l (parent p))=false
theorem Hole.stop {l:List D} {p:Nat} {x:D} (H:Hole l p) (hp:p < l.length) (hx:0 < p→ltD x (gd l (parent p))=false) (hc:∀ i,0 < i→i < l.length→parent i=p→ltD (gd l i) x=false):HeapOrd (l.set p x):=by
 intro i h0 hi
 rw [List.length_set] at hi
 by_cases e:i=p
 ·subst e
  rw [fV hp,dY (Nat.ne_of_lt (aW h0))]
  exact hx h0
 ·rw [dY e]
  by_cases e2:parent i=p
  ·rw [e2,fV hp]
   exact hc i h0 hi e2
  ·rw [dY e2]
   exact H.far i h0 hi e e2
theorem pC {l:List D} {p q:Nat} {x:D} (hp:p < l.length) (hq:q < l.length) (h:q≠p):((l.set p (gd l q)).set q x).Perm (l.set p x):=by
 have hp':p < (l.set p x).length:=by rw [List.length_set]; exact hp
 have hq':q < (l.set p x).length:=by rw [List.length_set]; exact hq
 have e:=List.set_set_perm hp' hq'
 rw [List.set_set,List.getElem_set_self,List.getElem_set_ne (Ne.symm h)] at e
 have:gd l q=l[q]:=by unfold gd; rw [List.getD_eq_getElem?_getD,List.getElem?_eq_getElem hq]; rfl
 rw [this]
 exact e
theorem Hole.up {P:D→Prop} (L:Lin P) {l:List D} {p:Nat} (hP:∀ y∈l,P y) (H:Hole l p) (h0:0 < p) (hp:p < l.length):Hole (l.set p (gd l (parent p))) (parent p):=by
 have hq:=aW h0
 have hql:=Nat.lt_trans hq hp
 refine⟨fun i i0 hi e1 e2=>?_,fun i i0 hi e q0=>?_⟩
 ·rw [List.length_set] at hi
  have e3:i≠p:=fun h=>e2 (h▸rfl)
  rw [dY e3]
  by_cases e4:parent i=p
  ·rw [e4,fV hp]
   exact H.near i i0 hi e4 h0
  ·rw [dY e4]
   exact H.far i i0 hi e3 e4
 ·rw [List.length_set] at hi
  have hr:=aW q0
  have h1:=H.far (parent p) q0 hql (Nat.ne_of_lt hq) (Nat.ne_of_lt (Nat.lt_trans hr hq))
  rw [dY (p:=p) (Nat.ne_of_lt (Nat.lt_trans hr hq))]
  by_cases e3:i=p
  ·subst e3
   rw [fV hp]
   exact h1
  ·rw [dY e3]
   have h2:=H.far i i0 hi e3 (by rw [e]; exact Nat.ne_of_lt hq)
   rw [e] at h2
   exact L.le_tr (gd_P hP (Nat.lt_trans hr hql)) (gd_P hP hql) (gd_P hP hi) h1 h2
theorem aIj {P:D→Prop} (L:Lin P) {x:D} (hx:P x):∀ (f:Nat) (l:List D) (p:Nat),p≤f→p < l.length→(∀ y∈l,P y)→Hole l p→(∀ i,0 < i→i < l.length→parent i=p→ltD (gd l i) x=false) →
  HeapOrd (sdn x f l p)∧(sdn x f l p).Perm (l.set p x):=by
 intro f
 induction f with
 | zero=>intro l p hf hp hP H hc; exact⟨H.stop hp (fun h=>absurd h (Nat.not_lt.mpr hf)) hc,List.Perm.refl _⟩
 | succ f ih =>
  intro l p hf hp hP H hc
  have hq:parent p < l.length:=Nat.lt_of_le_of_lt (Nat.div_le_self _ _) (Nat.lt_of_le_of_lt (Nat.sub_le _ _) hp)
  unfold sdn
  rw [qA hq]
  dsimp only
  cases e:decide (0 < p)&&ltD x (gd l (parent p)) with
  | false =>
   refine⟨H.stop hp (fun h=>?_) hc,List.Perm.refl _⟩
   rw [decide_eq_true h] at e
   exact e
  | true =>
   rw [Bool.and_eq_true] at e
   have h0:=of_decide_eq_true e.1
   have hne:=Nat.ne_of_lt (aW h0)
   have hy:=gd_P hP hq
   obtain⟨r1,r2⟩:=ih (l.set p (gd l (parent p))) (parent p) (Nat.le_of_lt_succ (Nat.lt_of_lt_of_le (aW h0) hf)) (by rw [List.length_set]; exact hq) (yF hP hy) (H.up L hP h0 hp) (fun i i0 hi e2=>by
    rw [List.length_set] at hi
    by_cases e3:i=p
    ·subst e3
     rw [fV hp]
     exact L.asym hx hy e.2
    ·rw [dY e3]
     have h2:=H.far i i0 hi e3 (by rw [e2]; exact hne)
     rw [e2] at h2
     exact L.le_tr hx hy (gd_P hP hi) (L.asym hx hy e.2) h2)
   exact⟨r1,r2.trans (pC hp hq hne)⟩
end Mine
end
section -- M4
open PySem
namespace Mine
set_option genInjectivity false in
structure Good (n:Nat) (P:D→Prop):Prop where
 eq:∀ a b,P a→P b→∃ t,deqN n a b=some t∧(t=true↔a=b)
 lt:∀ a b,P a→P b→∃ t,dltN n a b=some t
 irr:∀ a,P a→dltN n a a=some false
 tr:∀ a b c,P a→P b→P c→dltN n a b=some true→dltN n b c=some true→dltN n a c=some true
 tri:∀ a b,P a→P b→dltN n a b=some false→dltN n b a=some false→a=b
noncomputable def isI (d:D):Prop:=∃ i,d=.int i
noncomputable def isS (d:D):Prop:=∃ l,d=.str l
theorem fK {p:Prop} [Decidable p] (h:some (decide p)=some true):p:=of_decide_eq_true (Option.some.inj h)
theorem iB {p:Prop} [Decidable p] (h:some (decide p)=some false):¬ p:=of_decide_eq_false (Option.some.inj h)
theorem cK (n:Nat):Good (n+1) isI where
 eq:=fun _ _ ⟨i,hi⟩ ⟨j,hj⟩=>by subst hi hj; exact⟨_,rfl,beq_iff_eq.trans ⟨congrArg _,D.int.inj⟩⟩
 lt:=fun _ _ ⟨i,hi⟩ ⟨j,hj⟩=>by subst hi hj; exact⟨_,rfl⟩
 irr:=fun _ ⟨i,hi⟩=>by subst hi; exact congrArg some (decide_eq_false (Int.lt_irrefl i))
 tr:=fun _ _ _ ⟨i,hi⟩ ⟨j,hj⟩ ⟨k,hk⟩ h1 h2=>by subst hi hj hk; exact congrArg some (decide_eq_true (Int.lt_trans (fK h1) (fK h2)))
 tri:=fun _ _ ⟨i,hi⟩ ⟨j,hj⟩ h1 h2=>by subst hi hj; exact congrArg _ (Int.le_antisymm (Int.not_lt.mp (iB h2)) (Int.not_lt.mp (iB h1)))
theorem cV (n:Nat):Good (n+1) isS where
 eq:=fun _ _ ⟨i,hi⟩ ⟨j,hj⟩=>by subst hi hj; exact⟨_,rfl,decide_eq_true_iff.trans ⟨congrArg _,D.str.inj⟩⟩
 lt:=fun _ _ ⟨i,hi⟩ ⟨j,hj⟩=>by subst hi hj; exact⟨_,rfl⟩
 irr:=fun _ ⟨i,hi⟩=>by subst hi; exact congrArg some (decide_eq_false (List.lt_irrefl i))
 tr:=fun _ _ _ ⟨i,hi⟩ ⟨j,hj⟩ ⟨k,hk⟩ h1 h2=>by subst hi hj hk; exact congrArg some (decide_eq_true (List.lt_trans (fK h1) (fK h2)))
 tri:=fun _ _ ⟨i,hi⟩ ⟨j,hj⟩ h1 h2=>by subst hi hj; exact congrArg _ (List.le_antisymm (iB h2) (iB h1))
noncomputable def PLs:(Nat→D→Prop)→List D→Prop
 | _,[]=>True
 | P,a::as=>P 0 a∧PLs (fun i=>P (i+1)) as
section
variable {n:Nat} {P:D→Prop} (G:Good n P) {a b:D} (ha:P a) (hb:P b) {as bs:List D}
include G ha
theorem Good.refl:deqN n a a=some true:=by
 obtain⟨t,e,h⟩:=G.eq a a ha ha
 rw [e,h.mpr rfl]
theorem hd_eq:dltL (deqN n) (dltN n) (a::as) (a::bs)=dltL (deqN n) (dltN n) as bs:=by
 exact bI (G.refl ha) rfl
include hb
theorem eR (h:a≠b):dltL (deqN n) (dltN n) (a::as) (b::bs)=dltN n a b:=by
 obtain⟨t,e,q⟩:=G.eq a b ha hb
 induction t with
 | true=>exact absurd (q.mp rfl) h
 | false=>exact bI e rfl
end
section
variable {n:Nat}
theorem eqL:∀ (a b:List D) (P:Nat→D→Prop),(∀ i,Good n (P i))→PLs P a→PLs P b→a.length=b.length→∃ t,deqL (deqN n) a b=some t∧(t=true↔a=b):=by
 intro a
 induction a with
 | nil=>intro b P G _ _ h; induction b using List.casesOn with
  | nil=>exact⟨true,rfl,by simp⟩
  | cons b bs=>cases h
 | cons a as ih=>intro b P G ha hb h; induction b using List.casesOn with
  | nil=>cases h
  | cons b bs =>
   obtain⟨t,e,q⟩:=(G 0).eq a b ha.1 hb.1
   obtain⟨t',e',q'⟩:=ih bs (fun i=>P (i+1)) (fun i=>G (i+1)) ha.2 hb.2 (Nat.succ.inj h)
   refine⟨t&&t',?_,?_⟩
   ·exact bI e (congrArg (Option.map _) e')
   ·rw [Bool.and_eq_true,q,q',List.cons.injEq]
theorem aPo:∀ (a:List D) (P:Nat→D→Prop),(∀ i,Good n (P i))→PLs P a→dltL (deqN n) (dltN n) a a=some false:=by
 intro a
 induction a with
 | nil=>intro _ _ _; rfl
 | cons a as ih=>intro P G ha; rw [hd_eq (G 0) ha.1]; exact ih _ (fun i=>G (i+1)) ha.2
theorem aLz:∀ (a b:List D) (P:Nat→D→Prop),(∀ i,Good n (P i))→PLs P a→PLs P b→∃ t,dltL (deqN n) (dltN n) a b=some t:=by
 intro a
 induction a with
 | nil=>intro b _ _ _ _; cases b <;> exact⟨_,rfl⟩
 | cons a as ih=>intro b P G ha hb; induction b using List.casesOn with
  | nil=>exact⟨_,rfl⟩
  | cons b bs =>
   by_cases e:a=b
   ·subst e; rw [hd_eq (G 0) ha.1]; exact ih bs _ (fun i=>G (i+1)) ha.2 hb.2
   ·rw [eR (G 0) ha.1 hb.1 e]; exact (G 0).lt a b ha.1 hb.1
theorem aSs:∀ (a b c:List D) (P:Nat→D→Prop),(∀ i,Good n (P i))→PLs P a→PLs P b→PLs P c→dltL (deqN n) (dltN n) a b=some true→dltL (deqN n) (dltN n) b c=some true→dltL (deqN n) (dltN n) a c=some true:=by
 intro a
 induction a with
 | nil=>intro b c P G _ _ _ h1 h2; induction c using List.casesOn with
  | nil=>cases b <;> cases h2
  | cons c cs=>rfl
 | cons a as ih=>intro b c P G ha hb hc h1 h2; induction b using List.casesOn with
  | nil=>cases h1
  | cons b bs=>induction c using List.casesOn with
   | nil=>cases h2
   | cons c cs =>
    have g:=G 0
    by_cases e1:a=b
    ·subst e1
     rw [hd_eq g ha.1] at h1
     by_cases e2:a=c
     ·subst e2
      rw [hd_eq g ha.1] at h2 ⊢
      exact ih bs cs _ (fun i=>G (i+1)) ha.2 hb.2 hc.2 h1 h2
     ·rw [eR g ha.1 hc.1 e2] at h2 ⊢
      exact h2
    ·rw [eR g ha.1 hb.1 e1] at h1
     by_cases e2:b=c
     ·subst e2
      rw [eR g ha.1 hb.1 e1]
      exact h1
     ·rw [eR g hb.1 hc.1 e2] at h2
      have h3:=g.tr a b c ha.1 hb.1 hc.1 h1 h2
      have e3:a≠c:=fun e=>by
       subst e
       rw [g.irr a ha.1] at h3
       cases h3
      rw [eR g ha.1 hc.1 e3]
      exact h3
theorem aNr:∀ (a b:List D) (P:Nat→D→Prop),(∀ i,Good n (P i))→PLs P a→PLs P b→dltL (deqN n) (dltN n) a b=some false→dltL (deqN n) (dltN n) b a=some false→a=b:=by
 intro a
 induction a with
 | nil=>intro b _ _ _ _ h _; induction b using List.casesOn with
  | nil=>rfl
  | cons b bs=>cases h
 | cons a as ih=>intro b P G ha hb h1 h2; induction b using List.casesOn with
  | nil=>cases h2
  | cons b bs =>
   by_cases e:a=b
   ·subst e
    rw [hd_eq (G 0) ha.1] at h1 h2
    rw [ih bs _ (fun i=>G (i+1)) ha.2 hb.2 h1 h2]
   ·rw [eR (G 0) ha.1 hb.1 e] at h1
    rw [eR (G 0) hb.1 ha.1 (Ne.symm e)] at h2
    exact absurd ((G 0).tri a b ha.1 hb.1 h1 h2) e
theorem aQ {f:D→D→Option Bool} {a:D} {l:List D} (h:f a a=some true) (h':deqL f l l=some true):deqL f (a::l) (a::l)=some true:=bI h (congrArg (Option.map _) h')
theorem vU {l:List D} (h:∀ x∈l,deqN n x x=some true):deqL (deqN n) l l=some true:=by
 induction l with
 | nil=>rfl
 | cons a l ih=>exact aQ (h a List.mem_cons_self) (ih fun x hx=>h x (List.mem_cons_of_mem _ hx))
theorem eZ {l:List D} (h:deqL (deqN n) l l=some true):deqN (n+1) (.list l) (.list l)=some true:=(if_pos rfl).trans h
theorem aHj {l:List D} (h:∀ x∈l,deqN n x x=some true):deqN (n+1) (.list l) (.list l)=some true:=eZ (vU h)
theorem lR {α:Type} {l:List α} {f:α→D} (h:∀ x,deqN n (f x) (f x)=some true):deqN (n+1) (.list (l.map f)) (.list (l.map f))=some true:=aHj fun x hx=>(List.mem_map.mp hx).elim fun a q=>q.2▸h a
theorem gX (n:Nat) (l:List Nat):deqN (n+1) (.str l) (.str l)=some true:=congrArg some (decide_eq_true rfl)
theorem tT (n:Nat) (l:List Nat):deqN (n+1) (.bytes l) (.bytes l)=some true:=congrArg some (decide_eq_true rfl)
theorem jC (n:Nat) (i:Int):deqN (n+1) (.int i) (.int i)=some true:=congrArg some (beq_self_eq_true i)
noncomputable def isL (P:Nat→D→Prop) (d:D):Prop:=∃ l,d=.list l∧PLs P l
theorem eC {P:Nat→D→Prop} (G:∀ i,Good n (P i)):Good (n+1) (isL P) where
 eq:=fun _ _ ⟨a,ea,ha⟩ ⟨b,eb,hb⟩=>by
  subst ea eb
  show ∃ t,(if a.length=b.length then deqL (deqN n) a b else some false)=some t∧_
  by_cases h:a.length=b.length
  ·obtain⟨t,e,q⟩:=eqL a b P G ha hb h
   exact⟨t,by rw [if_pos h,e],q.trans ⟨congrArg _,D.list.inj⟩⟩
  ·exact⟨false,by rw [if_neg h],⟨fun e=>(nomatch e),fun e=>absurd (congrArg List.length (D.list.inj e)) h⟩⟩
 lt:=fun _ _ ⟨a,ea,ha⟩ ⟨b,eb,hb⟩=>by subst ea eb; exact aLz a b P G ha hb
 irr:=fun _ ⟨a,ea,ha⟩=>by subst ea; exact aPo a P G ha
 tr:=fun _ _ _ ⟨a,ea,ha⟩ ⟨b,eb,hb⟩ ⟨c,ec,hc⟩ h1 h2=>by subst ea eb ec; exact aSs a b c P G ha hb hc h1 h2
 tri:=fun _ _ ⟨a,ea,ha⟩ ⟨b,eb,hb⟩ h1 h2=>by subst ea eb; rw [aNr a b P G ha hb h1 h2]
end
theorem zJ {P:D→Prop} (G:Good 6 P):Lin P where
 cmp:=G.lt
 irr:=fun a ha=>cF (G.irr a ha)
 tr:=fun a b c ha hb hc h1 h2=>cF (G.tr a b c ha hb hc (of_decide_eq_true h1) (of_decide_eq_true h2))
 tri:=fun a b ha hb h1 h2=>by
  obtain⟨t,e⟩:=G.lt a b ha hb
  obtain⟨u,q⟩:=G.lt b a hb ha
  cases (cF e).symm.trans h1
  cases (cF q).symm.trans h2
  exact G.tri a b ha hb e q
end Mine
end
section -- M2
open PySem
namespace Mine
theorem aJh {P:D→Prop} (L:Lin P) {l:List D} {p:Nat} (hP:∀ y∈l,P y) (h:2 * p+1 < l.length) :
  childAt l p < l.length∧parent (childAt l p)=p∧p < childAt l p∧∀ i,0 < i→i < l.length→parent i=p→ltD (gd l i) (gd l (childAt l p))=false:=by
 have hp1:p < 2 * p+1:=Nat.lt_succ_of_le (Nat.le_mul_of_pos_left p (by decide))
 unfold childAt
 rw [qA h]
 by_cases h2:2 * p+2 < l.length
 ·rw [qA h2]
  dsimp only
  cases e:ltD (gd l (2 * p+1)) (gd l (2 * p+2)) with
  | true =>
   refine⟨h,rQ p,hp1,fun i i0 hi ei=>?_⟩
   rcases jD i0 ei with rfl | rfl
   ·exact L.irr _ (gd_P hP h)
   ·exact L.asym (gd_P hP h) (gd_P hP h2) e
  | false =>
   refine⟨h2,aFt p,Nat.lt_succ_of_lt hp1,fun i i0 hi ei=>?_⟩
   rcases jD i0 ei with rfl | rfl
   ·exact e
   ·exact L.irr _ (gd_P hP h2)
 ·rw [List.getElem?_eq_none (Nat.not_lt.mp h2)]
  dsimp only
  refine⟨h,rQ p,hp1,fun i i0 hi ei=>?_⟩
  rcases jD i0 ei with rfl | rfl
  ·exact L.irr _ (gd_P hP h)
  ·exact absurd hi h2
theorem Hole.down {l:List D} {p c:Nat} (H:Hole l p) (hc:c < l.length) (ec:parent c=p) (hpc:p < c) (hm:∀ i,0 < i→i < l.length→parent i=p→ltD (gd l i) (gd l c)=false):Hole (l.set p (gd l c)) c:=by
 have hp:=Nat.lt_trans hpc hc
 refine⟨fun i i0 hi e1 e2=>?_,fun i i0 hi e _=>?_⟩
 ·rw [List.length_set] at hi
  by_cases e3:i=p
  ·subst e3
   rw [fV hp,dY (Nat.ne_of_lt (aW i0))]
   exact H.near c (Nat.lt_trans i0 hpc) hc ec i0
  ·rw [dY e3]
   by_cases e4:parent i=p
   ·rw [e4,fV hp]
    exact hm i i0 hi e4
   ·rw [dY e4]
    exact H.far i i0 hi e3 e4
 ·rw [List.length_set] at hi
  have hci:c < i:=by rw [← e]; exact aW i0
  rw [dY (Nat.ne_of_gt (Nat.lt_trans hpc hci)),ec,fV hp]
  have:=H.far i i0 hi (Nat.ne_of_gt (Nat.lt_trans hpc hci)) (by rw [e]; exact Nat.ne_of_gt hpc)
  rw [e] at this
  exact this
set_option genInjectivity false in
structure Leaf (P:D→Prop) (l:List D) (p:Nat) (r:List D×Nat):Prop where
 hole:Hole r.1 r.2
 lt:r.2 < l.length
 len:r.1.length=l.length
 all:∀ y∈r.1,P y
 leaf:∀ i,0 < i→i < l.length→parent i≠r.2
 perm:∀ x,(r.1.set r.2 x).Perm (l.set p x)
theorem aTu {P:D→Prop} (L:Lin P):∀ (f:Nat) (l:List D) (p:Nat),l.length≤p+f→p < l.length→(∀ y∈l,P y)→Hole l p→Leaf P l p (sup f l p):=by
 intro f
 induction f with
 | zero=>intro l p hf hp hP H; exact absurd hp (Nat.not_lt.mpr hf)
 | succ f ih =>
  intro l p hf hp hP H
  unfold sup
  by_cases h:2 * p+1 < l.length
  ·obtain⟨c1,c2,c3,c4⟩:=aJh L hP h
   generalize childAt l p=c at c1 c2 c3 c4
   rw [qA c1]
   dsimp only
   have r:=ih (l.set p (gd l c)) c (by rw [List.length_set]; lia) (by rw [List.length_set]; exact c1) (yF hP (gd_P hP c1)) (H.down c1 c2 c3 c4)
   have el:(l.set p (gd l c)).length=l.length:=List.length_set
   exact⟨r.hole,el▸r.lt,r.len.trans el,r.all,fun i i0 hi=>r.leaf i i0 (by rw [el]; exact hi),fun x=>(r.perm x).trans (pC hp c1 (Nat.ne_of_gt c3))⟩
  ·have e:l[childAt l p]? = none:=by
    unfold childAt
    rw [List.getElem?_eq_none (Nat.not_lt.mp h)]
    exact List.getElem?_eq_none (Nat.not_lt.mp h)
   rw [e]
   refine⟨H,hp,rfl,hP,fun i i0 hi ei=>?_,fun x=>List.Perm.refl _⟩
   rcases jD i0 ei with rfl | rfl
   ·exact h hi
   ·exact h (Nat.lt_of_succ_lt hi)
theorem Hole.set {l:List D} {p:Nat} {x:D} (H:Hole l p):Hole (l.set p x) p:=by
 refine⟨fun i i0 hi e1 e2=>?_,fun i i0 hi e p0=>?_⟩
 ·rw [dY e1,dY e2]
  exact H.far i i0 (by rwa [List.length_set] at hi) e1 e2
 ·have hpi:p < i:=by rw [← e]; exact aW i0
  rw [dY (Nat.ne_of_gt hpi),dY (Nat.ne_of_lt (aW p0))]
  exact H.near i i0 (by rwa [List.length_set] at hi) e p0
theorem aBu {P:D→Prop} (L:Lin P) {x:D} {l:List D} (hx:P x) (hl:0 < l.length) (hP:∀ y∈l,P y) (H:Hole l 0):HeapOrd (supL x l)∧(supL x l).Perm (l.set 0 x):=by
 have r:=aTu L l.length l 0 (Nat.le_add_left _ _) hl hP H
 unfold supL
 generalize sup l.length l 0=q at r
 have e:(q.1.set q.2 x).length=l.length:=by rw [List.length_set]; exact r.len
 obtain⟨s1,s2⟩:=aIj L hx q.2 (q.1.set q.2 x) q.2 (Nat.le_refl _) (by rw [e]; exact r.lt) (yF r.all hx) r.hole.set (fun i i0 hi ei=>absurd ei (r.leaf i i0 (e▸hi)))
 refine⟨s1,s2.trans ?_⟩
 rw [List.set_set]
 exact r.perm x
theorem HeapOrd.hole {l:List D} {x:D} (H:HeapOrd l):Hole (l.set 0 x) 0:=by
 refine⟨fun i i0 hi e1 e2=>?_,fun i i0 hi e p0=>absurd p0 (Nat.lt_irrefl 0)⟩
 rw [dY e1,dY e2]
 exact H i i0 (by rwa [List.length_set] at hi)
end Mine
end
section -- M3
open PySem
namespace Mine
noncomputable abbrev aY (s:List D):Prop:=s.Pairwise fun a b=>ltD b a=false
set_option genInjectivity false in
structure HS (P:D→Prop) (l s:List D):Prop where
 all:∀ y∈l,P y
 ord:HeapOrd l
 perm:l.Perm s
 sorted:aY s
noncomputable def insS (x:D):List D→List D
 | []=>[x]
 | y::ys=>bif ltD y x then y::insS x ys else x::y::ys
theorem cO (x:D) (s:List D):(insS x s).Perm (x::s):=by
 induction s with
 | nil=>exact List.Perm.refl _
 | cons y ys ih =>
  unfold insS
  cases ltD y x with
  | false=>exact List.Perm.refl _
  | true=>exact (ih.cons y).trans (List.Perm.swap _ _ _)
theorem eP {P:D→Prop} (L:Lin P) {x:D} (hx:P x):∀ {s:List D},(∀ y∈s,P y)→aY s→aY (insS x s):=by
 intro s
 induction s with
 | nil=>intro _ _; exact List.pairwise_singleton _ _
 | cons y ys ih =>
  intro hP hs
  have hy:=hP y List.mem_cons_self
  obtain⟨h1,h2⟩:=List.pairwise_cons.mp hs
  unfold insS
  cases e:ltD y x with
  | false =>
   refine List.pairwise_cons.mpr ⟨fun z hz=>?_,hs⟩
   rcases List.mem_cons.mp hz with rfl | hz
   ·exact e
   ·exact L.le_tr hx hy (hP z (List.mem_cons_of_mem _ hz)) e (h1 z hz)
  | true =>
   refine List.pairwise_cons.mpr ⟨fun z hz=>?_,ih (fun z hz=>hP z (List.mem_cons_of_mem _ hz)) h2⟩
   rcases List.mem_cons.mp ((cO x ys).subset hz) with rfl | hz
   ·exact L.asym hy hx e
   ·exact h1 z hz
section
variable {P:D→Prop} (L:Lin P)
theorem HS.nil:HS P [] []:=⟨fun _ h=>(nomatch h),fun i _ h=>absurd h (Nat.not_lt_zero _),List.Perm.refl _,List.Pairwise.nil⟩
include L
theorem HS.top {l s:List D} {a:D} (H:HS P l (a::s)):∃ r,l=a::r∧r.Perm s:=by
 obtain⟨hP,ho,hp,hs⟩:=H
 induction l using List.casesOn with
 | nil=>exact absurd hp.length_eq (by simp)
 | cons y r =>
  have hmin:∀ i,i < (y::r).length→ltD (gd (y::r) i) (gd (y::r) 0)=false:=by
   intro i
   induction i using Nat.strongRecOn with
   | ind i ih =>
    intro hi
    by_cases h0:0 < i
    ·have:=ih (parent i) (aW h0) (Nat.lt_trans (aW h0) hi)
     exact L.le_tr (gd_P hP (Nat.lt_of_le_of_lt (Nat.zero_le _) hi)) (gd_P hP (Nat.lt_trans (aW h0) hi)) (gd_P hP hi) this (ho i h0 hi)
    ·rw [Nat.eq_zero_of_not_pos h0]
     exact L.irr _ (hP y List.mem_cons_self)
  have ha:a∈y::r:=hp.symm.subset List.mem_cons_self
  obtain⟨i,hi,ei⟩:=List.getElem_of_mem ha
  have h1:=hmin i hi
  have:gd (y::r) i=a:=by unfold gd; rw [List.getD_eq_getElem?_getD,List.getElem?_eq_getElem hi]; exact ei
  rw [this] at h1
  have h2:ltD y a=false:=by
   rcases List.mem_cons.mp (hp.subset List.mem_cons_self) with rfl | h
   ·exact L.irr _ (hP _ ha)
   ·exact (List.pairwise_cons.mp hs).1 y h
  have e:=L.tri a y (hP a ha) (hP y List.mem_cons_self) h1 h2
  subst e
  exact⟨r,rfl,hp.cons_inv⟩
theorem HS.push {l s:List D} {x:D} (H:HS P l s) (hx:P x):HS P (sdn x l.length (l++[x]) l.length) (insS x s):=by
 have hP:∀ y∈l++[x],P y:=fun y hy=>(List.mem_append.mp hy).elim (H.all y) fun e=>List.mem_singleton.mp e▸hx
 have hlen:(l++[x]).length=l.length+1:=List.length_append
 have hlt:l.length < (l++[x]).length:=by rw [hlen]; exact Nat.lt_succ_self _
 have hgd:∀ i,i < l.length→gd (l++[x]) i=gd l i:=fun i hi=>by
  unfold gd
  rw [List.getD_eq_getElem?_getD,List.getElem?_append_left hi,List.getD_eq_getElem?_getD]
 have hole:Hole (l++[x]) l.length:=by
  refine⟨fun i i0 hi e1 _=>?_,fun i i0 hi e _=>?_⟩
  ·have hil:=Nat.lt_of_le_of_ne (Nat.le_of_lt_succ (Nat.lt_of_lt_of_eq hi hlen)) e1
   rw [hgd i hil,hgd _ (Nat.lt_trans (aW i0) hil)]
   exact H.ord i i0 hil
  ·exact absurd (Nat.lt_of_lt_of_le (e▸aW i0) (Nat.le_of_lt_succ (Nat.lt_of_lt_of_eq hi hlen))) (Nat.lt_irrefl _)
 obtain⟨r1,r2⟩:=aIj L hx l.length (l++[x]) l.length (Nat.le_refl _) hlt hP hole (fun i i0 hi e=>absurd (Nat.lt_of_lt_of_le (e▸aW i0) (Nat.le_of_lt_succ (Nat.lt_of_lt_of_eq hi hlen))) (Nat.lt_irrefl _))
 rw [List.set_append_right _ _ (Nat.le_refl _),Nat.sub_self] at r2
 have p1:(sdn x l.length (l++[x]) l.length).Perm (x::s):=r2.trans (List.perm_append_comm.trans (H.perm.cons x))
 exact⟨fun y hy=>hP y (r2.subset hy),r1,p1.trans (cO x s).symm,eP L hx (fun y hy=>H.all y (H.perm.symm.subset hy)) H.sorted⟩
theorem HS.repl {l s:List D} {a x:D} (H:HS P l (a::s)) (hx:P x):HS P (supL x (l.set 0 x)) (insS x s):=by
 obtain⟨r,rfl,hr⟩:=H.top L
 obtain⟨r1,r2⟩:=aBu L (l:=(a::r).set 0 x) hx (Nat.succ_pos _) (yF H.all hx) (H.ord.hole (x:=x))
 have p1:(supL x ((a::r).set 0 x)).Perm (x::s):=r2.trans (hr.cons x)
 have hPs:∀ y∈s,P y:=fun y hy=>H.all y (List.mem_cons_of_mem _ (hr.symm.subset hy))
 refine⟨fun y hy=>?_,r1,p1.trans (cO x s).symm,eP L hx hPs (List.pairwise_cons.mp H.sorted).2⟩
 rcases List.mem_cons.mp (p1.subset hy) with rfl | h
 ·exact hx
 ·exact hPs y h
theorem HS.pop {l s:List D} {a z:D} (H:HS P (l++[z]) (a::s)):aHy z l=a∧HS P (aBl z l) s:=by
 have hz:P z:=H.all z (List.mem_append_right _ List.mem_cons_self)
 obtain⟨r,e,hr⟩:=H.top L
 induction l using List.casesOn with
 | nil =>
  injection e with e1 e2
  subst e1 e2
  cases hr.nil_eq
  exact⟨rfl,HS.nil⟩
 | cons y t =>
  injection e with e1 e2
  subst e1 e2
  have ho:HeapOrd (y::t):=fun i i0 hi=>by
   have hgd:∀ j,j < (y::t).length→gd ((y::t)++[z]) j=gd (y::t) j:=fun j hj=>by
    unfold gd
    rw [List.getD_eq_getElem?_getD,List.getElem?_append_left hj,List.getD_eq_getElem?_getD]
   have h2:=H.ord i i0 (by rw [List.length_append]; exact Nat.lt_succ_of_lt hi)
   rwa [hgd i hi,hgd _ (Nat.lt_trans (aW i0) hi)] at h2
  have hP:∀ u∈(y::t).set 0 z,P u:=yF (fun u hu=>H.all u (List.mem_append_left _ hu)) hz
  obtain⟨r1,r2⟩:=aBu L (l:=(y::t).set 0 z) hz (Nat.succ_pos _) hP ho.hole
  have p1:(supL z (z::t)).Perm s:=r2.trans (List.perm_append_comm.trans hr)
  exact⟨rfl,fun u hu=>hP u (r2.subset hu),r1,p1,(List.pairwise_cons.mp H.sorted).2⟩
end
theorem Lin.cmp' {P:D→Prop} (L:Lin P) {l:List D} (h:∀ y∈l,P y):Cmp l:=fun a ha b hb=>L.cmp a b (h a ha) (h b hb)
section
variable {P:D→Prop} (L:Lin P) {k c:Nat} {st:Store} {l s:List D} {a x:D} (hl:look st c=some l) (hn:noCells l=true)
include L hl hn
theorem aDa (H:HS P l s) (hx:P x) (hxc:noCell x=true) (hs:l.length < 400):∃ l',HS P l' (insS x s)∧(GT (k+2)).fn 160 [.cell c,x] [] st=some (.ret .none,st.set c l') :=
 ⟨_,H.push L hx,aRw k c x l st hl hn (Nat.lt_trans hs (by decide)) hxc fun y hy=>L.cmp x y hx ((List.mem_append.mp hy).elim (H.all y) fun e=>List.mem_singleton.mp e▸hx)⟩
theorem aAk (H:HS P l (a::s)) (hs:l.length < 400):∃ l',HS P l' s∧(GT (k+3)).fn 167 [.cell c] [] st=some (.ret a,st.set c l'):=by
 rcases List.eq_nil_or_concat l with rfl | ⟨t,z,rfl⟩
 ·exact absurd H.perm.length_eq (by simp)
 ·rw [List.concat_eq_append] at *
  obtain⟨e,h⟩:=H.pop L
  have:=aTg k c z t st hl hn (Nat.lt_trans (Nat.lt_of_le_of_lt (by rw [List.length_append]; exact Nat.le_add_right _ _) hs) (by decide)) (L.cmp' H.all)
  rw [e] at this
  exact⟨_,h,this⟩
theorem aCn (H:HS P l (a::s)) (hx:P x) (hxc:noCell x=true) (hs:l.length < 400):∃ l',HS P l' (insS x s)∧(GT (k+3)).fn 174 [.cell c,x] [] st=some (.ret a,st.set c l'):=by
 obtain⟨r,rfl,_⟩:=H.top L
 exact⟨_,H.repl L hx,aUd k c x a (a::r) st hl hn (Nat.le_of_lt (Nat.lt_trans hs (by decide))) rfl hxc (L.cmp' (fun y hy=>(List.mem_cons.mp hy).elim (fun e=>e▸hx) (H.all y)))⟩
end
end Mine
end
section -- M5
open PySem
namespace Mine
section
variable {P:D→Prop} (L:Lin P)
include L
theorem aGc {x:D} (hx:P x):∀ {l:List D},(∀ y∈l,P y)→aY l→∃ s,insD x l=some s∧s.Perm (x::l)∧aY s:=by
 intro l
 induction l with
 | nil=>intro _ _; exact⟨[x],rfl,List.Perm.refl _,List.pairwise_singleton _ _⟩
 | cons y ys ih =>
  intro hP hs
  have hy:=hP y List.mem_cons_self
  obtain⟨h1,h2⟩:=List.pairwise_cons.mp hs
  obtain⟨t,e⟩:=L.cmp x y hx hy
  unfold insD
  rw [e]
  induction t with
  | true =>
   have hyx:=L.asym hx hy (cF e)
   refine⟨_,rfl,List.Perm.refl _,List.pairwise_cons.mpr ⟨fun z hz=>?_,hs⟩⟩
   rcases List.mem_cons.mp hz with rfl | hz
   ·exact hyx
   ·exact L.le_tr hx hy (hP z (List.mem_cons_of_mem _ hz)) hyx (h1 z hz)
  | false =>
   obtain⟨s,es,ps,ss⟩:=ih (fun z hz=>hP z (List.mem_cons_of_mem _ hz)) h2
   refine⟨y::s,congrArg (Option.map _) es,(ps.cons y).trans (List.Perm.swap _ _ _),List.pairwise_cons.mpr ⟨fun z hz=>?_,ss⟩⟩
   rcases List.mem_cons.mp (ps.subset hz) with rfl | hz
   ·exact cF e
   ·exact h1 z hz
theorem zA:∀ {l:List D},(∀ y∈l,P y)→∃ s,dG l=some s∧s.Perm l∧aY s:=by
 intro l
 induction l with
 | nil=>intro _; exact⟨[],rfl,List.Perm.refl _,List.Pairwise.nil⟩
 | cons x xs ih =>
  intro hP
  have hP':∀ y∈xs,P y:=fun y hy=>hP y (List.mem_cons_of_mem _ hy)
  obtain⟨s,es,ps,ss⟩:=ih hP'
  obtain⟨t,et,pt,st⟩:=aGc L (hP x List.mem_cons_self) (fun y hy=>hP' y (ps.subset hy)) ss
  refine⟨t,?_,pt.trans (ps.cons x),st⟩
  unfold dG
  rw [es]
  exact et
theorem kA {a b:List D} (h:a.Perm b) (ha:aY a) (hb:aY b) (hP:∀ y∈b,P y):a=b :=
 List.Perm.eq_of_pairwise (fun x y hx hy h1 h2=>L.tri x y (hP x (h.subset hx)) (hP y hy) h2 h1) ha hb h
theorem aKn {l t:List D} (h:t.Perm l) (ht:aY t) (hP:∀ y∈l,P y):dG l=some t:=by
 obtain⟨s,es,ps,ss⟩:=zA L hP
 rw [es,kA L (ps.trans h.symm) ss ht (fun y hy=>hP y (h.subset hy))]
theorem wJ {l:List D} (hP:∀ y∈l,P y) (hB:∀ y∈l,isLd y=true∧deqN 6 y y=some true):fM l=true:=by
 unfold fM
 refine List.all_eq_true.mpr fun a ha=>?_
 rw [(hB a ha).1,L.irr a (hP a ha)]
 refine List.all_eq_true.mpr fun b hb=>?_
 obtain⟨t,e⟩:=L.cmp a b (hP a ha) (hP b hb)
 have h2:(!ltD a b || !ltD b a)=true:=by
  cases q:ltD a b with
  | false=>rfl
  | true=>rw [L.asym (hP a ha) (hP b hb) q]; rfl
 have h3:(ltD a b || ltD b a || decide (deqN 6 a b=some true))=true:=by
  cases q:ltD a b with
  | true=>rfl
  | false=>cases r:ltD b a with
   | true=>rfl
   | false=>rw [L.tri a b (hP a ha) (hP b hb) q r]; exact decide_eq_true (hB b hb).2
 have h4:(l.all fun c=>ltD b a || ltD c b || !ltD c a)=true:=List.all_eq_true.mpr fun c hc=>by
  cases q:ltD b a with
  | true=>rfl
  | false=>cases r:ltD c b with
   | true=>rfl
   | false=>rw [L.le_tr (hP a ha) (hP b hb) (hP c hc) q r]; rfl
 rw [e,h2,h3,h4]; rfl
end
noncomputable def partP:D→Prop:=isL fun i=>match i with | 0=>isI | _=>isS
noncomputable def rowP:D→Prop:=isL fun i=>match i with | 0=>isI | 1=>isI | _=>isL fun _=>isS
noncomputable def aMl:D→Prop:=isL fun i=>match i with | 0=>isS | _=>isL fun _=>isI
theorem lP:Lin partP:=zJ (eC (n:=5) fun i=>by
 induction i using Nat.casesOn with
 | zero=>exact cK 4
 | succ i=>exact cV 4)
theorem cN:Lin rowP:=zJ (eC (n:=5) fun i=>by
 match i with
 | 0=>exact cK 4
 | 1=>exact cK 4
 | i+2=>exact eC (n:=4) fun _=>cV 3)
theorem aBo:Lin aMl:=zJ (eC (n:=5) fun i=>by
 induction i using Nat.casesOn with
 | zero=>exact cV 4
 | succ i=>exact eC (n:=4) fun _=>cK 3)
end Mine
end
section -- R36
open PySem
namespace Mine
section
variable {st:Store} {p r o l:List D}
theorem fL {L:List (List D)} {i:Nat} {x:List D} (h:L[i]? = some x) (hn:noCells x=true):look (st++L) (st.length+i)=some x:=by
 unfold look
 rw [List.getElem?_append_right (Nat.le_add_right _ _),Nat.add_sub_cancel_left,h]
 show (if eT x then none else some x)=_
 rw [mU hn]; rfl
theorem lU {L:List (List D)} {i:Nat} {x:List D}:(st++L).set (st.length+i) x=st++L.set i x:=by
 rw [List.set_append_right _ _ (Nat.le_add_right _ _),Nat.add_sub_cancel_left]
end
theorem vQ {st:Store} {c:Nat} {l:List D} (h:look st c=some l):deqS st (.cell c) (.list [])=if l.length=0 then deqL (deqN 6) l [] else some false:=by
 unfold deqS
 rw [show cQ st (.cell c)=some l from h]
 rfl
theorem ne_t {st:Store} {c:Nat} {l:List D} (h:look st c=some l) (hl:l≠[]):cmpop st .NotEq (.cell c) (.list [])=some true :=
 congrArg (Option.map (!·)) ((vQ h).trans (if_neg fun q=>hl (List.length_eq_zero_iff.mp q)))
theorem ne_f {st:Store} {c:Nat} (h:look st c=some []):cmpop st .NotEq (.cell c) (.list [])=some false :=
 congrArg (Option.map (!·)) ((vQ h).trans rfl)
set_option genInjectivity false in
structure Row where
 q:Int
 n:Nat
 ws:List (List Nat)
noncomputable def rowD (r:Row):D:=.list [.int r.q,.int (r.n:Nat),.list (r.ws.map .str)]
noncomputable def bL (x:Int×List Nat):D:=.list [.int x.1,.str x.2]
theorem aBs:∀ l:List (List Nat),noCells (l.map D.str)=true
 | []=>rfl
 | a::l=>by show (noCell (.str a)&&noCells (l.map D.str))=true; rw [aBs l]; rfl
theorem mP (r:Row):noCell (rowD r)=true:=by
 show (true&&(true&&(noCells (r.ws.map .str)&&true)))=true
 rw [aBs]; rfl
theorem hY {α:Type} {f:α→D} (h:∀ a,noCell (f a)=true):∀ l:List α,noCells (l.map f)=true
 | []=>rfl
 | a::l=>by show (noCell (f a)&&noCells (l.map f))=true; rw [h a,hY h l]; rfl
theorem jA {a b:List D} (h:a.Perm b) (hb:noCells b=true):noCells a=true:=by
 have key:∀ {l:List D},(∀ x∈l,noCell x=true)→noCells l=true:=fun {l}=>by
  induction l with
  | nil=>intro _; rfl
  | cons x xs ih=>intro h; unfold noCells; rw [h x List.mem_cons_self,ih fun y hy=>h y (List.mem_cons_of_mem _ hy)]; rfl
 exact key fun x hx=>bJ hb (h.subset hx)
theorem mK:∀ l:List (List Nat),PLs (fun _=>isS) (l.map D.str)
 | []=>trivial
 | a::l=>⟨⟨a,rfl⟩,mK l⟩
theorem gA (r:Row):rowP (rowD r):=⟨_,rfl,⟨_,rfl⟩,⟨_,rfl⟩,⟨_,rfl,mK r.ws⟩,trivial⟩
theorem tP (x:Int×List Nat):partP (bL x):=⟨_,rfl,⟨_,rfl⟩,⟨_,rfl⟩,trivial⟩
theorem aUt:rowP (.list [.int 0]):=⟨_,rfl,⟨_,rfl⟩,trivial⟩
set_option genInjectivity false in
structure Heard where
 w:List Nat
 ip:List Nat
 q:Int
 t:List Nat
noncomputable def heardD (h:Heard):D:=.list [.str h.w,.tuple [.str h.ip,.int h.q],.str h.t]
noncomputable def Heard.part (h:Heard):Int×List Nat:=(h.q,h.w)
noncomputable def V36 (hs:List Heard) (c:Nat) (t:Vars):Vars:=([("heard",.list (hs.map heardD)),("off",.cell (c+2)),("rows",.cell (c+1)),("parts",.cell (c+0))]:Vars)++t
noncomputable def Tx36 (t:Vars):Prop:=∃ a b c:D,t=([("written",a),("told",b),("text",c)]:Vars)
noncomputable def Tl36 (t:Vars):Prop:=t=[]∨Tx36 t
noncomputable def pushAll:List Heard→List D→List D
 | [],s=>s
 | h::hs,s=>pushAll hs (insS (bL h.part) s)
theorem aHg (k:Nat) (HS0:List Heard) (st:Store):∀ (hs:List Heard) (l s:List D) (t:Vars),HS partP l s→noCells s=true→s.length+hs.length≤300→Tl36 t →
  ∃ l' t',HS partP l' (pushAll hs s)∧noCells (pushAll hs s)=true∧(hs=[]∧t'=t∨Tx36 t')∧forGo (ops (GT (k+3)) 23) (cxOf 36) (tgtAt 36 1) (loopAt 36 1).2 (hs.map heardD) (V36 HS0 st.length t) (st++[l,[],[]])=some (.next,V36 HS0 st.length t',st++[l',[],[]]):=by
 intro hs
 induction hs with
 | nil=>intro l s t H hn hs ht; exact⟨l,t,H,hn,.inl ⟨rfl,rfl⟩,rfl⟩
 | cons h hs ih =>
  intro l s t H hn hl ht
  rw [List.length_cons] at hl
  have hnl:=jA H.perm hn
  have hll:l.length < 400:=by rw [H.perm.length_eq]; exact Nat.lt_of_le_of_lt (Nat.le_trans (Nat.le_add_right _ _) (by assumption)) (by decide)
  obtain⟨l',H',e⟩:=aDa lP (k:=k+1) (fL (st:=st) (L:=[l,[],[]]) (i:=0) rfl hnl) hnl H (tP h.part) rfl hll
  rw [lU] at e
  have pl:=(cO (bL h.part) s).length_eq
  rw [List.length_cons] at pl
  have hn':noCells (insS (bL h.part) s)=true:=jA (cO _ _) (by unfold noCells; rw [hn]; rfl)
  obtain⟨l₂,t₂,H₂,n₂,ht₂,w⟩:=ih l' (insS (bL h.part) s) ([("written",.str h.w),("told",.tuple [.str h.ip,.int h.q]),("text",.str h.t)]:Vars) H' hn' (by lia) (.inr ⟨_,_,_,rfl⟩)
  refine⟨l₂,t₂,H₂,n₂,.inr (ht₂.elim (fun q=>q.2▸⟨_,_,_,rfl⟩) id),lJ (st':=st++[l,[],[]]) (vars':=V36 HS0 st.length ([("written",.str h.w),("told",.tuple [.str h.ip,.int h.q]),("text",.str h.t)]:Vars)) ?_ (exs_one (cY (n:=22) (d:=.none) rfl (aX (a:=160) (ds:=[.cell (st.length+0),bL h.part]) (kd:=[]) rfl (aB rfl rfl rfl) (aA rfl rfl (aA (d:=bL h.part) rfl (bX (aA (d:=.int h.q) rfl (ev_idx (d:=.tuple [.str h.ip,.int h.q]) (j:=.int 1) rfl rfl rfl rfl) (aA rfl rfl rfl)) rfl) rfl)) rfl e)) rfl) w⟩
  ·rcases ht with rfl | ⟨a,b,c,rfl⟩ <;> rfl
end Mine
end
section -- R37
open PySem
namespace Mine
noncomputable def W36 (hs:List Heard) (c:Nat) (w:List Nat) (b d:D) (q:Int) (u:Vars):Vars:=([("heard",.list (hs.map heardD)),("off",.cell (c+2)),("rows",.cell (c+1)),("parts",.cell (c+0)),("written",.str w),("told",b),("text",d),("port",.int q)]:Vars)++u
noncomputable def Tu36 (u:Vars):Prop:=u=[]∨∃ a b c:D,u=([("last",a),("many",b),("texts",c)]:Vars)
noncomputable def rowsD (rs:List Row):List D:=rs.map rowD
theorem fI (rs:List Row):noCells (rowsD rs)=true:=hY mP rs
theorem HS.length {P:D→Prop} {l:List D} {rs:List Row} (H:HS P l (rowsD rs)):l.length=rs.length:=by rw [H.perm.length_eq]; exact List.length_map _
theorem HS.nc {P:D→Prop} {l:List D} {rs:List Row} (H:HS P l (rowsD rs)):noCells l=true:=jA H.perm (fI rs)
noncomputable def early (q:Int) (r:Row):Bool:=decide (r.q < q - 1)
theorem vC {st:Store} {c:Nat} {l:List D} (h:look st c=some l):mA st (.cell c)=true:=by
 show (look st c).isSome=true
 rw [h]; rfl
section
variable {HS0:List Heard} {w:List Nat} {b d:D} {q:Int} {k:Nat} {st:Store} {p:List D}
theorem look_rows {l o:List D} (h:noCells l=true):look (st++[p,l,o]) (st.length+1)=some l:=fL rfl h
theorem kG {l o:List D} (h:noCells o=true):look (st++[p,l,o]) (st.length+2)=some o:=fL rfl h
theorem iQ {l o l':List D}:(st++[p,l,o]).set (st.length+1) l'=st++[p,l',o]:=lU
theorem aDn {l o o':List D}:(st++[p,l,o]).set (st.length+2) o'=st++[p,l,o']:=lU
theorem aSe {u:Vars} {l o:List D} {r:Row} {rs:List Row} {n:Nat} (hu:Tu36 u) (H:HS rowP l (rowsD (r::rs))) (hs:l.length≤1000) {x:Expr} (hx:x=(match (loopIn (loopAt 36 2).2 1).1 with | .BoolOp _ [_,.Compare x _ _ _] _=>x | e=>e)) :
  (ops (GT k) (n+3)).ev (cxOf 36) (W36 HS0 st.length w b d q u) x (st++[p,l,o])=some (.int r.q,st++[p,l,o]):=by
 obtain⟨t,e,_⟩:=H.top cN
 subst hx
 have h0:l[0]? = some (rowD r):=by rw [e]; rfl
 rcases hu with rfl | ⟨_,_,_,rfl⟩ <;> exact ev_idx (d:=rowD r) (j:=.int 0) rfl (ev_idx (d:=.cell (st.length+1)) (j:=.int (0:Nat)) rfl rfl rfl (bZ (look_rows H.nc) hs h0)) rfl rfl
theorem aEn {u:Vars} (hu:Tu36 u):∀ (rs os:List Row) (l:List D) (m:Nat),HS rowP l (rowsD rs)→rs.length+os.length≤300→rs.length < m →
  ∃ l',HS rowP l' (rowsD (rs.dropWhile (early q)))∧whileGo (ops (GT (k+3)) 22) (cxOf 36) (loopIn (loopAt 36 2).2 1).1 (loopIn (loopAt 36 2).2 1).2 m (W36 HS0 st.length w b d q u) (st++[p,l,rowsD os]) =
   some (.next,W36 HS0 st.length w b d q u,st++[p,l',rowsD (os++rs.takeWhile (early q))]):=by
 intro rs
 induction rs with
 | nil =>
  intro os l m H hs hm
  induction m using Nat.casesOn with
  | zero=>exact absurd hm (Nat.lt_irrefl 0)
  | succ m =>
   have e:=H.perm.eq_nil
   subst e
   refine⟨[],H,?_⟩
   rw [List.takeWhile_nil,List.append_nil]
   exact fX (gE (tr_cmp (st':=st++[p,[],rowsD os]) (a:=.cell (st.length+1)) (b:=.list []) (by rcases hu with rfl | ⟨_,_,_,rfl⟩ <;> rfl) (by rcases hu with rfl | ⟨_,_,_,rfl⟩ <;> rfl) (ne_f (look_rows rfl))))
 | cons r rs ih =>
  intro os l m H hs hm
  rw [List.length_cons] at hs hm
  induction m using Nat.casesOn with
  | zero=>exact absurd hm (Nat.not_lt_zero _)
  | succ m =>
   have hl:l.length≤300:=by rw [H.length]; exact Nat.le_trans (Nat.le_add_right _ _) hs
   have hne:l≠[]:=by obtain⟨t,e,_⟩:=H.top cN; rw [e]; exact List.cons_ne_nil _ _
   have ht:(ops (GT (k+3)) 22).tr (cxOf 36) (W36 HS0 st.length w b d q u) (loopIn (loopAt 36 2).2 1).1 (st++[p,l,rowsD os])=some (true&&early q r,st++[p,l,rowsD os]):=by
    refine lA (tr_cmp (st':=st++[p,l,rowsD os]) (a:=.cell (st.length+1)) (b:=.list []) ?_ ?_ (ne_t (look_rows H.nc) hne)) (tr_cmp (a:=.int r.q) (b:=.int (q - 1)) (aSe hu H (Nat.le_trans hl (by decide)) rfl) (aD (st':=st++[p,l,rowsD os]) (a:=.int q) (b:=.int 1) ?_ ?_ rfl) rfl)
    all_goals (rcases hu with rfl | ⟨_,_,_,rfl⟩ <;> rfl)
   cases e:early q r with
   | false =>
    rw [e] at ht
    rw [List.takeWhile_cons_of_neg (by rw [e]; exact Bool.false_ne_true),List.dropWhile_cons_of_neg (by rw [e]; exact Bool.false_ne_true),List.append_nil]
    exact⟨l,H,fX ht⟩
   | true =>
    rw [e] at ht
    rw [List.takeWhile_cons_of_pos e,List.dropWhile_cons_of_pos e]
    obtain⟨l1,H1,e1⟩:=aAk cN (k:=k) (look_rows (p:=p) (o:=rowsD os) (st:=st) H.nc) H.nc H (Nat.lt_of_le_of_lt hl (by decide))
    rw [iQ] at e1
    obtain⟨l2,H2,w2⟩:=ih (os++[r]) l1 m H1 (by rw [List.length_append]; show rs.length+(os.length+1)≤300; lia) (Nat.lt_of_succ_lt_succ hm)
    have ea:rowsD os++[rowD r]=rowsD (os++[r]):=by unfold rowsD; rw [List.map_append]; rfl
    rw [List.append_assoc] at w2
    refine⟨l2,H2,dC ht (exs_one (cY (n:=21) (d:=.none) (st':=st++[p,l1,rowsD (os++[r])]) rfl ?_) rfl) w2⟩
    have ho:(rowsD os).length≤1000:=by unfold rowsD; rw [List.length_map]; exact Nat.le_trans (Nat.le_trans (Nat.le_add_left _ _) (by assumption)) (by decide)
    have happ:=dJ (kG (st:=st) (p:=p) (l:=l1) (fI os)) (mP r) ho
    rw [aDn,ea] at happ
    rcases hu with rfl | ⟨_,_,_,rfl⟩ <;> exact ev_meth (st':=st++[p,l,rowsD os]) (d:=.cell (st.length+2)) (ds:=[rowD r]) rfl rfl rfl (vC (kG (fI os))) (aA rfl (aX (a:=167) (ds:=[.cell (st.length+1)]) (kd:=[]) rfl (aB rfl rfl rfl) (aA rfl rfl rfl) rfl e1) rfl) happ
end
end Mine
end
section -- R38
open PySem
namespace Mine
noncomputable def insR (x:Row):List Row→List Row
 | []=>[x]
 | y::ys=>bif ltD (rowD y) (rowD x) then y::insR x ys else x::y::ys
theorem kF (x:Row) (rs:List Row):insS (rowD x) (rowsD rs)=rowsD (insR x rs):=by
 induction rs with
 | nil=>rfl
 | cons y ys ih =>
  show (bif ltD (rowD y) (rowD x) then rowD y::insS (rowD x) (rowsD ys) else rowD x::rowD y::rowsD ys)=rowsD (bif ltD (rowD y) (rowD x) then y::insR x ys else x::y::ys)
  rw [ih]
  cases ltD (rowD y) (rowD x) <;> rfl
noncomputable def putR (q:Int) (w:List Nat):List Row→List Row
 | []=>[⟨q,1,[w]⟩]
 | r::t=>bif r.q == q - 1 then insR ⟨q,r.n+1,r.ws++[w]⟩ t else insR ⟨q,1,[w]⟩ (r::t)
set_option genInjectivity false in
structure RowOk (i:Nat) (r:Row):Prop where
 q0:0 < r.q
 len:r.ws.length≤i
noncomputable def nilD:D:=.list [.int 0]
theorem aGd {i:Nat}:∀ {rs:List Row},(∀ r∈rs,RowOk i r)→insS nilD (rowsD rs)=nilD::rowsD rs
 | [],_=>rfl
 | r::rs,h=>by
  have h0:=(h r List.mem_cons_self).q0
  have e:dlt (rowD r) nilD=some false:=(eR (cK 4) ⟨r.q,rfl⟩ ⟨0,rfl⟩ fun e=>Int.ne_of_gt h0 (D.int.inj e)).trans (congrArg some (decide_eq_false (Int.not_lt.mpr (Int.le_of_lt h0))))
  show (bif ltD (rowD r) nilD then _ else _)=_
  rw [cF e]; rfl
theorem kR {a b:List D} (h:a.length+b.length≤1000):binop .Add (.list a) (.list b)=some (.list (a++b)):=by
 show (if fits (a.length+b.length) then some (D.list (a++b)) else none)=_
 rw [aF h]; rfl
section
variable {HS0:List Heard} {w:List Nat} {b d:D} {q:Int} {k:Nat} {st:Store} {p:List D}
theorem wK {u:Vars} (hu:Tu36 u) {rs:List Row} {l o:List D} (H:HS rowP l (rowsD rs)) (hs:l.length≤300) :
  ∃ l',HS rowP l' (rowsD (insR ⟨q,1,[w]⟩ rs))∧exs (ops (GT (k+3)) 22) (cxOf 36) (W36 HS0 st.length w b d q u) (match (loopAt 36 2).2.getD 2 (.Pass ⟨0,0,0,0⟩) with | .If _ _ e _=>e | _=>[]) (st++[p,l,o])=some (.next,W36 HS0 st.length w b d q u,st++[p,l',o]):=by
 obtain⟨l',H',e⟩:=aDa cN (k:=k+1) (look_rows (p:=p) (o:=o) (st:=st) H.nc) H.nc H (gA ⟨q,1,[w]⟩) (mP _) (Nat.lt_of_le_of_lt hs (by decide))
 rw [iQ] at e
 rw [kF] at H'
 exact⟨l',H',exs_one (cY (n:=21) (d:=.none) rfl (aX (a:=160) (ds:=[.cell (st.length+1),rowD ⟨q,1,[w]⟩]) (kd:=[]) rfl (aB rfl rfl rfl) rfl rfl e)) rfl⟩
theorem aLl {u:Vars} (hu:Tu36 u) {r:Row} {t:List Row} {l o:List D} {i:Nat} (H:HS rowP l (rowsD (r::t))) (hs:l.length≤300) (hr:∀ x∈r::t,RowOk i x) (hi:i≤300) :
  ∃ l' u',Tu36 u'∧HS rowP l' (rowsD (insR ⟨q,r.n+1,r.ws++[w]⟩ t))∧exs (ops (GT (k+3)) 22) (cxOf 36) (W36 HS0 st.length w b d q u) (match (loopAt 36 2).2.getD 2 (.Pass ⟨0,0,0,0⟩) with | .If _ e _ _=>e | _=>[]) (st++[p,l,o])=some (.next,W36 HS0 st.length w b d q u',st++[p,l',o]):=by
 have hl:l.length < 400:=Nat.lt_of_le_of_lt hs (by decide)
 obtain⟨l1,H1,e1⟩:=aCn cN (k:=k) (look_rows (p:=p) (o:=o) (st:=st) H.nc) H.nc H aUt rfl hl
 rw [iQ] at e1
 have H1:HS rowP l1 (insS nilD (rowsD t)):=H1
 rw [aGd fun x hx=>hr x (List.mem_cons_of_mem _ hx)] at H1
 have hnc1:noCells l1=true:=jA H1.perm (by show (true&&noCells (rowsD t))=true; rw [fI]; rfl)
 have hl1:l1.length < 400:=by
  have e1:=H1.perm.length_eq
  have e0:=H.perm.length_eq
  rw [e1]
  have h:=hl
  rw [e0] at h
  exact h
 obtain⟨l2,H2,e2⟩:=aCn cN (k:=k) (look_rows (p:=p) (o:=o) (st:=st) hnc1) hnc1 H1 (gA ⟨q,r.n+1,r.ws++[w]⟩) (mP _) hl1
 rw [iQ] at e2
 rw [kF] at H2
 refine⟨l2,([("last",.int r.q),("many",.int (r.n:Nat)),("texts",.list (r.ws.map .str))]:Vars),.inr ⟨_,_,_,rfl⟩,H2,exs_one (aC (n:=21) (d:=rowD r) rfl (aX (st':=st++[p,l,o]) (a:=174) (ds:=[.cell (st.length+1),nilD]) (kd:=[]) rfl (aB rfl rfl rfl) rfl rfl e1) (by rcases hu with rfl | ⟨_,_,_,rfl⟩ <;> rfl)) (exs_one (ex_if_f (tr_cmp (a:=nilD) (b:=nilD) (aX (a:=174) (ds:=[.cell (st.length+1),rowD ⟨q,r.n+1,r.ws++[w]⟩]) (kd:=[]) rfl (aB rfl rfl rfl) (aA rfl rfl (aA rfl (bX (aA rfl rfl (aA (d:=.int (r.n+1:Nat)) rfl rfl (aA (d:=.list ((r.ws++[w]).map .str)) rfl (aD (a:=.list (r.ws.map .str)) (b:=.list [.str w]) rfl rfl ?_) rfl))) (by
  have:=mP ⟨q,r.n+1,r.ws++[w]⟩
  show (noCell (rowD ⟨q,r.n+1,r.ws++[w]⟩)&&true)=true
  rw [this]; rfl)) rfl)) rfl e2) rfl rfl) rfl) rfl)⟩
 rw [List.map_append]
 refine kR ?_
 rw [List.length_map]
 exact Nat.le_trans (Nat.add_le_add_right (Nat.le_trans (hr r List.mem_cons_self).len hi) 1) (by decide)
end
end Mine
end
section -- R39
open PySem
namespace Mine
theorem eA (q:Int) (w:List Nat) (r:Row) (t:List Row):putR q w (r::t)=bif r.q == q - 1 then insR ⟨q,r.n+1,r.ws++[w]⟩ t else insR ⟨q,1,[w]⟩ (r::t):=rfl
noncomputable def Vok (HS0:List Heard) (c:Nat) (v:Vars):Prop:=(∃ t,Tx36 t∧v=V36 HS0 c t)∨∃ w b d q u,Tu36 u∧v=W36 HS0 c w b d q u
noncomputable def partsD (ps:List (Int×List Nat)):List D:=ps.map bL
theorem tF (ps:List (Int×List Nat)):noCells (partsD ps)=true:=hY (fun _=>rfl) ps
section
variable {HS0:List Heard} {k:Nat} {st:Store}
theorem kB {p l o:List D} (h:noCells p=true):look (st++[p,l,o]) (st.length+0)=some p:=fL rfl h
theorem aGg {p l o p':List D}:(st++[p,l,o]).set (st.length+0) p'=st++[p',l,o]:=lU
theorem aJa {v:Vars} (hv:Vok HS0 st.length v) {x:Int×List Nat} {ps:List (Int×List Nat)} {p l o:List D} (H:HS partP p (partsD (x::ps))) (hs:p.length≤300) :
  ∃ p' b d u,Tu36 u∧HS partP p' (partsD ps)∧(ops (GT (k+3)) 23).ex (cxOf 36) v ((loopAt 36 2).2.getD 0 (.Pass ⟨0,0,0,0⟩)) (st++[p,l,o])=some (.next,W36 HS0 st.length x.2 b d x.1 u,st++[p',l,o]):=by
 have hn:noCells p=true:=jA H.perm (tF _)
 obtain⟨p',H',e⟩:=aAk lP (k:=k) (kB (l:=l) (o:=o) (st:=st) hn) hn H (Nat.lt_of_le_of_lt hs (by decide))
 rw [aGg] at e
 rcases hv with ⟨t,⟨a,b,c,rfl⟩,rfl⟩ | ⟨w,b,d,q,u,hu,rfl⟩
 ·exact⟨p',b,c,[],.inl rfl,H',aC (n:=22) (d:=bL x) rfl (aX (st':=st++[p,l,o]) (a:=167) (ds:=[.cell (st.length+0)]) (kd:=[]) rfl (aB rfl rfl rfl) (aA rfl rfl rfl) rfl e) rfl⟩
 ·exact⟨p',b,d,u,hu,H',aC (n:=22) (d:=bL x) rfl (aX (st':=st++[p,l,o]) (a:=167) (ds:=[.cell (st.length+0)]) (kd:=[]) rfl (aB rfl rfl rfl) (aA rfl rfl rfl) rfl e) rfl⟩
theorem aPs {w:List Nat} {b d:D} {q:Int} {u:Vars} (hu:Tu36 u) {rs:List Row} {p l o:List D} {i:Nat} (H:HS rowP l (rowsD rs)) (hs:l.length≤300) (hr:∀ x∈rs,RowOk i x) (hi:i≤300) :
  ∃ l' u',Tu36 u'∧HS rowP l' (rowsD (putR q w rs))∧(ops (GT (k+3)) 23).ex (cxOf 36) (W36 HS0 st.length w b d q u) ((loopAt 36 2).2.getD 2 (.Pass ⟨0,0,0,0⟩)) (st++[p,l,o])=some (.next,W36 HS0 st.length w b d q u',st++[p,l',o]):=by
 induction rs using List.casesOn with
 | nil =>
  have e:=H.perm.eq_nil
  subst e
  obtain⟨l',H',e'⟩:=wK (HS0:=HS0) (w:=w) (b:=b) (d:=d) (q:=q) (k:=k) (st:=st) (p:=p) (o:=o) hu H hs
  exact⟨l',u,hu,H',ex_if_f (n:=22) (gE (tr_cmp (st':=st++[p,[],o]) (a:=.cell (st.length+1)) (b:=.list []) rfl rfl (ne_f (look_rows rfl)))) e'⟩
 | cons r t =>
  have hne:l≠[]:=by obtain⟨t,e,_⟩:=H.top cN; rw [e]; exact List.cons_ne_nil _ _
  have ht:(ops (GT (k+3)) 22).tr (cxOf 36) (W36 HS0 st.length w b d q u) (match (loopAt 36 2).2.getD 2 (.Pass ⟨0,0,0,0⟩) with | .If t _ _ _=>t | _=>.Name "" ⟨0,0,0,0⟩) (st++[p,l,o])=some (true&&(r.q == q - 1),st++[p,l,o]):=by
   obtain⟨t',e,_⟩:=H.top cN
   have h0:l[0]? = some (rowD r):=by rw [e]; rfl
   exact lA (tr_cmp (st':=st++[p,l,o]) (a:=.cell (st.length+1)) (b:=.list []) rfl rfl (ne_t (look_rows H.nc) hne)) (tr_cmp (st':=st++[p,l,o]) (a:=.int r.q) (b:=.int (q - 1)) (ev_idx (d:=rowD r) (j:=.int 0) rfl (ev_idx (d:=.cell (st.length+1)) (j:=.int (0:Nat)) rfl rfl rfl (bZ (look_rows H.nc) (Nat.le_trans hs (by decide)) h0)) rfl rfl) (aD (st':=st++[p,l,o]) (a:=.int q) (b:=.int 1) rfl rfl rfl) rfl)
  rw [eA]
  cases e:r.q == q - 1 with
  | true =>
   rw [e] at ht
   obtain⟨l',u',hu',H',e'⟩:=aLl (HS0:=HS0) (w:=w) (b:=b) (d:=d) (q:=q) (k:=k) (st:=st) (p:=p) (o:=o) hu H hs hr hi
   exact⟨l',u',hu',H',aH (n:=22) ht e'⟩
  | false =>
   rw [e] at ht
   obtain⟨l',H',e'⟩:=wK (HS0:=HS0) (w:=w) (b:=b) (d:=d) (q:=q) (k:=k) (st:=st) (p:=p) (o:=o) hu H hs
   exact⟨l',u,hu,H',ex_if_f (n:=22) ht e'⟩
theorem kM {x y:Row}:∀ {rs:List Row},y∈insR x rs→y=x∨y∈rs:=by
 intro rs
 induction rs with
 | nil=>intro h; exact .inl (List.mem_singleton.mp h)
 | cons z zs ih =>
  intro h
  unfold insR at h
  cases e:ltD (rowD z) (rowD x) with
  | true =>
   rw [e] at h
   rcases List.mem_cons.mp h with rfl | h
   ·exact .inr List.mem_cons_self
   ·exact (ih h).imp id (List.mem_cons_of_mem _)
  | false =>
   rw [e] at h
   exact List.mem_cons.mp h
theorem lM (x:Row) (rs:List Row):(insR x rs).length=rs.length+1:=by
 have:=(cO (rowD x) (rowsD rs)).length_eq
 rw [kF] at this
 unfold rowsD at this
 rwa [List.length_map,List.length_cons,List.length_map] at this
theorem aSf {q:Int} {w:List Nat} {rs:List Row} {i:Nat} (hq:0 < q) (h:∀ x∈rs,RowOk i x):(∀ x∈putR q w rs,RowOk (i+1) x)∧(putR q w rs).length≤rs.length+1:=by
 have up:∀ {x},RowOk i x→RowOk (i+1) x:=fun h=>⟨h.q0,Nat.le_succ_of_le h.len⟩
 have one:RowOk (i+1) ⟨q,1,[w]⟩:=⟨hq,Nat.succ_le_succ (Nat.zero_le i)⟩
 induction rs using List.casesOn with
 | nil=>exact⟨fun x hx=>List.mem_singleton.mp hx▸one,Nat.le_refl _⟩
 | cons r t =>
  rw [eA]
  cases r.q == q - 1 with
  | true =>
   refine⟨fun x hx=>?_,?_⟩
   ·rcases kM hx with rfl | hx
    ·refine⟨hq,?_⟩
     show (r.ws++[w]).length≤i+1
     rw [List.length_append]
     exact Nat.succ_le_succ (h r List.mem_cons_self).len
    ·exact up (h x (List.mem_cons_of_mem _ hx))
   ·show (insR _ t).length≤_
    rw [lM]
    exact Nat.le_succ _
  | false=>exact⟨fun x hx=>(kM hx).elim (fun e=>e▸one) fun hx=>up (h x hx),Nat.le_of_eq (lM _ _)⟩
end
end Mine
end
section -- R40
open PySem
namespace Mine
noncomputable def lay:List (Int×List Nat)→List Row→List Row→List Row×List Row
 | [],rs,os=>(rs,os)
 | x::ps,rs,os=>lay ps (putR x.1 x.2 (rs.dropWhile (early x.1))) (os++rs.takeWhile (early x.1))
theorem aVw (hs:List Heard) (c:Nat) (w:List Nat) (b d:D) (q:Int) (u:Vars):W36 hs c w b d q u=V36 hs c (([("written",.str w),("told",b),("text",d),("port",.int q)]:Vars)++u):=rfl
theorem Vok.any {HS0:List Heard} {c:Nat} {v:Vars} (h:Vok HS0 c v):∃ t,v=V36 HS0 c t:=by
 rcases h with ⟨t,_,e⟩ | ⟨w,b,d,q,u,_,e⟩
 ·exact⟨t,e⟩
 ·exact⟨_,e⟩
section
variable {HS0:List Heard} {k:Nat} {st:Store}
theorem aFj:∀ (ps:List (Int×List Nat)) (rs os:List Row) (p l:List D) (v:Vars) (i m:Nat),HS partP p (partsD ps)→HS rowP l (rowsD rs)→(ps=[]∧(∃ t,v=V36 HS0 st.length t)∨Vok HS0 st.length v)→(∀ x∈rs,RowOk i x)→i+ps.length≤300→rs.length+os.length+ps.length≤300→(∀ x∈ps,0 < x.1)→ps.length < m →
  ∃ l' t,HS rowP l' (rowsD (lay ps rs os).1)∧(lay ps rs os).1.length+(lay ps rs os).2.length≤300∧whileGo (ops (GT (k+3)) 23) (cxOf 36) (loopAt 36 2).1 (loopAt 36 2).2 m v (st++[p,l,rowsD os])=some (.next,V36 HS0 st.length t,st++[[],l',rowsD (lay ps rs os).2]):=by
 intro ps
 induction ps with
 | nil =>
  intro rs os p l v i m Hp H hv _ _ hs _ hm
  induction m using Nat.casesOn with
  | zero=>exact absurd hm (Nat.lt_irrefl 0)
  | succ m =>
   have e:=Hp.perm.eq_nil
   subst e
   obtain⟨t,rfl⟩:∃ t,v=V36 HS0 st.length t:=hv.elim (fun h=>h.2) Vok.any
   exact⟨l,t,H,hs,fX (tr_cmp (st':=st++[[],l,rowsD os]) (a:=.cell (st.length+0)) (b:=.list []) rfl rfl (ne_f (kB rfl)))⟩
 | cons x ps ih =>
  intro rs os p l v i m Hp H hv hr hi hs hq hm
  rw [List.length_cons] at hi hs hm
  induction m using Nat.casesOn with
  | zero=>exact absurd hm (Nat.not_lt_zero _)
  | succ m =>
   have hv:Vok HS0 st.length v:=hv.elim (fun h=>by cases h.1) id
   have hpl:p.length≤300:=by
    rw [Hp.perm.length_eq]
    show ((x::ps).map bL).length≤300
    rw [List.length_map,List.length_cons]
    exact Nat.lt_of_le_of_lt (Nat.le_add_left _ _) (by assumption)
   have hne:p≠[]:=by obtain⟨t,e,_⟩:=Hp.top lP; rw [e]; exact List.cons_ne_nil _ _
   have hpn:noCells p=true:=jA Hp.perm (tF _)
   obtain⟨p',b,d,u,hu,Hp',e0⟩:=aJa (HS0:=HS0) (k:=k) hv (l:=l) (o:=rowsD os) Hp hpl
   have hsplit:(rs.takeWhile (early x.1)).length+(rs.dropWhile (early x.1)).length=rs.length:=by rw [← List.length_append,List.takeWhile_append_dropWhile]
   obtain⟨l1,H1,e1⟩:=aEn (HS0:=HS0) (w:=x.2) (b:=b) (d:=d) (q:=x.1) (k:=k) (st:=st) (p:=p') hu rs os l turns H (by exact Nat.le_trans (Nat.le_add_right _ _) (by assumption)) (by unfold turns; lia)
   have hl1:l1.length≤300:=by rw [H1.length]; lia
   have hr1:∀ y∈rs.dropWhile (early x.1),RowOk i y:=fun y hy=>hr y ((List.dropWhile_sublist _).subset hy)
   obtain⟨l2,u2,hu2,H2,e2⟩:=aPs (HS0:=HS0) (w:=x.2) (b:=b) (d:=d) (q:=x.1) (k:=k) (st:=st) (p:=p') (o:=rowsD (os++rs.takeWhile (early x.1))) hu H1 hl1 hr1 (by exact Nat.le_trans (Nat.le_add_right _ _) (by assumption))
   obtain⟨h3,h4⟩:=aSf (w:=x.2) (hq x List.mem_cons_self) hr1
   obtain⟨l3,t3,H3,hs3,e3⟩:=ih (putR x.1 x.2 (rs.dropWhile (early x.1))) (os++rs.takeWhile (early x.1)) p' l2 _ (i+1) m Hp' H2 (.inr (.inr ⟨_,_,_,_,_,hu2,rfl⟩)) h3 (by lia) (by rw [List.length_append]; lia) (fun y hy=>hq y (List.mem_cons_of_mem _ hy)) (Nat.lt_of_succ_lt_succ hm)
   refine⟨l3,t3,H3,hs3,dC (st':=st++[p,l,rowsD os]) (tr_cmp (st':=st++[p,l,rowsD os]) (a:=.cell (st.length+0)) (b:=.list []) ?_ rfl (ne_t (kB hpn) hne)) (exs_one e0 (exs_one (fD e1) (exs_one e2 rfl))) e3⟩
   obtain⟨t,rfl⟩:=hv.any
   rfl
theorem aHp {t:Vars} {p:List D}:∀ (rs os:List Row) (l:List D) (m:Nat),HS rowP l (rowsD rs)→rs.length+os.length≤300→rs.length < m →
  whileGo (ops (GT (k+3)) 23) (cxOf 36) (loopAt 36 3).1 (loopAt 36 3).2 m (V36 HS0 st.length t) (st++[p,l,rowsD os])=some (.next,V36 HS0 st.length t,st++[p,[],rowsD (os++rs)]):=by
 intro rs
 induction rs with
 | nil =>
  intro os l m H hs hm
  induction m using Nat.casesOn with
  | zero=>exact absurd hm (Nat.lt_irrefl 0)
  | succ m =>
   have e:=H.perm.eq_nil
   subst e
   rw [List.append_nil]
   exact fX (tr_cmp (st':=st++[p,[],rowsD os]) (a:=.cell (st.length+1)) (b:=.list []) rfl rfl (ne_f (look_rows rfl)))
 | cons r rs ih =>
  intro os l m H hs hm
  rw [List.length_cons] at hs hm
  induction m using Nat.casesOn with
  | zero=>exact absurd hm (Nat.not_lt_zero _)
  | succ m =>
   have hl:l.length≤300:=by rw [H.length]; exact Nat.le_trans (Nat.le_add_right _ _) hs
   have hne:l≠[]:=by obtain⟨t,e,_⟩:=H.top cN; rw [e]; exact List.cons_ne_nil _ _
   obtain⟨l1,H1,e1⟩:=aAk cN (k:=k) (look_rows (p:=p) (o:=rowsD os) (st:=st) H.nc) H.nc H (Nat.lt_of_le_of_lt hl (by decide))
   rw [iQ] at e1
   have w2:=ih (os++[r]) l1 m H1 (by rw [List.length_append]; show rs.length+(os.length+1)≤300; lia) (Nat.lt_of_succ_lt_succ hm)
   have ea:rowsD os++[rowD r]=rowsD (os++[r]):=by unfold rowsD; rw [List.map_append]; rfl
   rw [List.append_assoc] at w2
   have ho:(rowsD os).length≤1000:=by unfold rowsD; rw [List.length_map]; exact Nat.le_trans (Nat.le_trans (Nat.le_add_left _ _) (by assumption)) (by decide)
   have happ:=dJ (kG (st:=st) (p:=p) (l:=l1) (fI os)) (mP r) ho
   rw [aDn,ea] at happ
   exact dC (st':=st++[p,l,rowsD os]) (tr_cmp (st':=st++[p,l,rowsD os]) (a:=.cell (st.length+1)) (b:=.list []) rfl rfl (ne_t (look_rows H.nc) hne)) (exs_one (cY (n:=22) (d:=.none) rfl (ev_meth (st':=st++[p,l,rowsD os]) (d:=.cell (st.length+2)) (ds:=[rowD r]) rfl rfl rfl (vC (kG (fI os))) (aA rfl (aX (a:=167) (ds:=[.cell (st.length+1)]) (kd:=[]) rfl (aB rfl rfl rfl) (aA rfl rfl rfl) rfl e1) rfl) happ)) rfl) w2
theorem aGf {L:List (List D)} {i:Nat} {l:List D} (h:L[i]? = some l) (hn:noCells l=true):aL st.length (st++L) (.cell (st.length+i))=some (.list l,st):=by
 refine (if_neg (Nat.not_lt.mpr (Nat.le_add_right _ _))).trans ?_
 rw [fL h hn]
 refine (if_pos hn).trans ?_
 rw [List.take_append_of_le_length (Nat.le_refl _),List.take_length]
theorem aUc (k:Nat) (st:Store) (hs:List Heard) (ps:List (Int×List Nat)) (hp:pushAll hs []=partsD ps) (hl:hs.length≤100) (hlp:ps.length≤100) (hq:∀ x∈ps,0 < x.1) (h0:hs=[]→ps=[]) :
  (GT (k+4)).fn 226 [.list (hs.map heardD)] [] st=some (.ret (.list (rowsD ((lay ps [] []).2++(lay ps [] []).1))),st):=by
 obtain⟨p,t,Hp,_,ht,w1⟩:=aHg k hs st hs [] [] [] HS.nil rfl (by rw [List.length_nil]; lia) (.inl rfl)
 rw [hp] at Hp
 obtain⟨l,t2,H2,hs2,w2⟩:=aFj (HS0:=hs) (k:=k) (st:=st) ps [] [] p [] (V36 hs st.length t) 0 turns Hp HS.nil (by
  rcases ht with ⟨e,rfl⟩ | ht
  ·exact .inl ⟨h0 e,_,rfl⟩
  ·exact .inr (.inl ⟨t,ht,rfl⟩)) (fun _ h=>(nomatch h)) (by lia) (by rw [List.length_nil]; lia) hq (by unfold turns; exact Nat.lt_of_le_of_lt (by assumption) (by decide))
 have w3:=aHp (HS0:=hs) (k:=k) (st:=st) (t:=t2) (p:=[]) (lay ps [] []).1 (lay ps [] []).2 l turns H2 hs2 (by unfold turns; exact Nat.lt_of_le_of_lt (Nat.le_trans (Nat.le_add_right _ _) (by assumption)) (by decide))
 have h:exs (ops (GT (k+3)) 24) (cxOf 36) ([("heard",.list (hs.map heardD))]:Vars) (fBody (fnAt 36)) st=some (FD.ret (.cell (st.length+2)),V36 hs st.length t2,st++[[],[],rowsD ((lay ps [] []).2++(lay ps [] []).1)]):=by
  refine exs_one (aDi (n:=23) (st':=st++[[],[],[]]) (ds:=[.cell (st.length+0),.cell (st.length+1),.cell (st.length+2)]) rfl ?_ rfl rfl) (exs_one (tL (src:=.list (hs.map heardD)) (ds:=hs.map heardD) rfl rfl rfl w1) (exs_one (fD w2) (exs_one (fD w3) (aE (aP rfl)))))
  refine uF (ds:=[.cell (st.length+0),.cell (st.length+1),.cell (st.length+2)]) ?_ rfl
  show some ([D.cell st.length,D.cell (st++[[]]).length,D.cell (st++[[]]++[[]]).length],st++[[]]++[[]]++[[]])=_
  rw [List.length_append,List.length_append,List.length_append,List.append_assoc,List.append_assoc]; rfl
 exact bK rfl rfl (aK h (aGf rfl (fI _)))
end
end Mine
end
section -- M12
open PySem
namespace Mine
theorem aOl:∀ a b:List (List Nat),dltL (deqN 4) (dltN 4) (a.map D.str) (b.map D.str)=some (decide (a < b)):=by
 intro a
 induction a with
 | nil=>intro b; cases b <;> rfl
 | cons x a ih =>
  intro b
  induction b using List.casesOn with
  | nil=>rfl
  | cons y b =>
   by_cases h:x=y
   ·subst h
    rw [List.map_cons,List.map_cons,hd_eq (cV 3) ⟨x,rfl⟩,ih]
    congr 1
    refine decide_eq_decide.mpr ?_
    rw [List.cons_lt_cons_iff]
    exact⟨fun h=>.inr ⟨rfl,h⟩,fun h=>h.elim (fun h=>absurd h (List.lt_irrefl x)) fun h=>h.2⟩
   ·rw [List.map_cons,List.map_cons,eR (cV 3) ⟨x,rfl⟩ ⟨y,rfl⟩ fun e=>h (D.str.inj e)]
    show some (decide (x < y))=_
    congr 1
    refine decide_eq_decide.mpr ?_
    rw [List.cons_lt_cons_iff]
    exact⟨.inl,fun q=>q.elim id fun q=>absurd q.1 h⟩
noncomputable def rlt (r s:Row):Prop:=r.q < s.q∨r.q=s.q∧(r.n < s.n∨r.n=s.n∧r.ws < s.ws)
theorem aRz (r s:Row):ltD (rowD r) (rowD s)=true↔rlt r s:=by
 have e:dlt (rowD r) (rowD s)=dltL (deqN 5) (dltN 5) [.int r.q,.int (r.n:Nat),.list (r.ws.map .str)] [.int s.q,.int (s.n:Nat),.list (s.ws.map .str)]:=rfl
 unfold ltD rlt
 rw [decide_eq_true_iff,e]
 by_cases h1:r.q=s.q
 ·rw [h1,hd_eq (cK 4) ⟨_,rfl⟩]
  by_cases h2:r.n=s.n
  ·rw [h2,hd_eq (cK 4) ⟨_,rfl⟩]
   have g:Good 5 (isL fun _=>isS):=eC (n:=4) fun _=>cV 3
   have hr:isL (fun _=>isS) (.list (r.ws.map D.str)):=⟨_,rfl,mK r.ws⟩
   have hs:isL (fun _=>isS) (.list (s.ws.map D.str)):=⟨_,rfl,mK s.ws⟩
   have k:dltL (deqN 5) (dltN 5) [.list (r.ws.map D.str)] [.list (s.ws.map D.str)]=dltN 5 (.list (r.ws.map D.str)) (.list (s.ws.map D.str)):=by
    by_cases h3:D.list (r.ws.map D.str)=.list (s.ws.map D.str)
    ·rw [← h3,hd_eq g hr,g.irr _ hr]; rfl
    ·rw [eR g hr hs h3]
   rw [k]
   show dltL (deqN 4) (dltN 4) (r.ws.map D.str) (s.ws.map D.str)=some true↔_
   rw [aOl]
   exact⟨fun h=>.inr ⟨rfl,.inr ⟨rfl,fK h⟩⟩,fun h=>congrArg some (decide_eq_true (h.elim (fun h=>absurd h (Int.lt_irrefl _)) fun h=>h.2.elim (fun h=>absurd h (Nat.lt_irrefl _)) fun h=>h.2))⟩
  ·rw [eR (a:=.int (r.n:Nat)) (b:=.int (s.n:Nat)) (cK 4) ⟨_,rfl⟩ ⟨_,rfl⟩ fun e=>h2 (Int.ofNat.inj (D.int.inj e))]
   show some (decide ((r.n:Int) < s.n))=some true↔_
   exact⟨fun h=>.inr ⟨rfl,.inl (Int.ofNat_lt.mp (fK h))⟩,fun h=>congrArg some (decide_eq_true (h.elim (fun h=>absurd h (Int.lt_irrefl _)) fun h=>h.2.elim (fun h=>Int.ofNat_lt.mpr h) fun h=>absurd h.1 h2))⟩
 ·rw [eR (cK 4) ⟨_,rfl⟩ ⟨_,rfl⟩ fun e=>h1 (D.int.inj e)]
  show some (decide (r.q < s.q))=some true↔_
  exact⟨fun h=>.inl (fK h),fun h=>congrArg some (decide_eq_true (h.elim id fun h=>absurd h.1 h1))⟩
noncomputable def rle (r s:Row):Prop:=¬ rlt s r
theorem aLg (r s:Row):ltD (rowD s) (rowD r)=false↔rle r s:=by
 unfold rle
 rw [← aRz,Bool.not_eq_true]
theorem eO (l:List Row):aY (rowsD l)↔l.Pairwise rle:=by
 unfold aY rowsD
 rw [List.pairwise_map]
 exact⟨fun h=>h.imp fun h=>(aLg _ _).mp h,fun h=>h.imp fun h=>(aLg _ _).mpr h⟩
theorem yQ:∀ {a b:List (List Nat)},a.map D.str=b.map D.str→a=b:=fun h=>(List.map_inj_right fun _ _ e=>D.str.inj e).mp h
theorem aCl {r s:Row} (h:rowD r=rowD s):r=s:=by
 obtain⟨q,n,w⟩:=r
 obtain⟨q',n',w'⟩:=s
 have h:=D.list.inj h
 rw [List.cons.injEq,List.cons.injEq,List.cons.injEq] at h
 cases D.int.inj h.1
 cases Int.ofNat.inj (D.int.inj h.2.1)
 cases yQ (D.list.inj h.2.2.1)
 rfl
theorem aDp {x:Row} {l l':List Row} (hl:l.Pairwise rle) (hp:l'.Perm (x::l)) (hs:l'.Pairwise rle):insR x l=l':=by
 have hP:∀ {l:List Row},∀ y∈rowsD l,rowP y:=fun {l} y hy=>by
  obtain⟨r,_,rfl⟩:=List.mem_map.mp hy
  exact gA r
 have h1:=cO (rowD x) (rowsD l)
 have h2:=eP cN (gA x) hP ((eO l).mpr hl)
 rw [kF] at h1 h2
 have h3:(rowsD (insR x l)).Perm (rowsD l'):=h1.trans (hp.map rowD).symm
 exact (List.map_inj_right fun _ _ e=>aCl e).mp (kA cN h3 h2 ((eO l').mpr hs) hP)
theorem le_q {r s:Row} (h:r.q < s.q):rle r s:=fun g=>g.elim (fun g=>Int.lt_irrefl _ (Int.lt_trans h g)) fun g=>Int.lt_irrefl _ (g.1▸h)
theorem le_n {r s:Row} (e:r.q=s.q) (h:r.n < s.n):rle r s:=fun g=>g.elim (fun g=>Int.lt_irrefl _ (e▸g)) fun g=>g.2.elim (fun g=>Nat.lt_irrefl _ (Nat.lt_trans h g)) fun g=>Nat.lt_irrefl _ (g.1▸h)
noncomputable def newR (q:Int) (w:List Nat):Row:=⟨q,1,[w]⟩
noncomputable def extR (q:Int) (r:Row) (w:List Nat):Row:=⟨q,r.n+1,r.ws++[w]⟩
theorem aTd {q:Int} {w w':List Nat} (h:¬ w' < w):rle (newR q w) (newR q w'):=fun g=>g.elim (fun g=>Int.lt_irrefl _ g) fun g=>g.2.elim (fun g=>Nat.lt_irrefl _ g) fun g=>by
 have g:[w'] < [w]:=g.2
 rw [List.cons_lt_cons_iff] at g
 exact g.elim h fun g=>absurd g.2 (List.lt_irrefl _)
theorem aRy:∀ {a b:List (List Nat)} {x y:List Nat},a.length=b.length→a++[x] < b++[y]→a < b∨a=b∧x < y:=by
 intro a
 induction a with
 | nil=>intro b x y hl h; induction b using List.casesOn with
  | nil =>
   have h:[x] < [y]:=h
   rw [List.cons_lt_cons_iff] at h
   exact .inr ⟨rfl,h.elim id fun h=>absurd h.2 (List.lt_irrefl _)⟩
  | cons _ _=>cases hl
 | cons u a ih=>intro b x y hl h; induction b using List.casesOn with
  | nil=>cases hl
  | cons v b =>
   rw [List.cons_append,List.cons_append,List.cons_lt_cons_iff] at h
   rw [List.cons_lt_cons_iff]
   rcases h with h | ⟨rfl,h⟩
   ·exact .inl (.inl h)
   ·rcases ih (Nat.succ.inj hl) h with h' | ⟨rfl,h'⟩
    ·exact .inl (.inr ⟨rfl,h'⟩)
    ·exact .inr ⟨rfl,h'⟩
theorem aSt {q:Int} {r s:Row} {w w':List Nat} (h:rle r s) (e:r.q=s.q) (hr:r.ws.length=r.n) (hs:s.ws.length=s.n) (hw:¬ w' < w):rle (extR q r w) (extR q s w'):=fun g=>g.elim (fun g=>Int.lt_irrefl _ g) fun g=>g.2.elim (fun g=>h (.inr ⟨e.symm,.inl (Nat.lt_of_succ_lt_succ g)⟩)) fun g=>by
 have en:s.n=r.n:=Nat.succ.inj g.1
 rcases aRy (by rw [hs,hr,en]) g.2 with g | ⟨_,g⟩
 ·exact h (.inr ⟨e.symm,.inr ⟨en,g⟩⟩)
 ·exact hw g
end Mine
end
section -- M13
open PySem
namespace Mine
noncomputable abbrev leW (w w':List Nat):Prop:=¬ w' < w
noncomputable def puts (q:Int):List (List Nat)→List Row→List Row
 | [],rs=>rs
 | w::ws,rs=>puts q ws (putR q w rs)
theorem aNs {q:Int} {w:List Nat}:∀ {l:List Row},(∀ x∈l,x.q=q)→putR q w l=insR (newR q w) l
 | [],_=>rfl
 | r::t,h=>by
  rw [eA,h r List.mem_cons_self,beq_eq_false_iff_ne.mpr (Int.ne_of_gt (Int.sub_lt_self q (by decide)))]; rfl
theorem aHu {q:Int} {E:List Row} (hE:∀ x∈E,x.q=q∧1 < x.n) (sE:E.Pairwise rle):∀ (ws:List (List Nat)) (N:List Row),(∀ x∈N,x.q=q∧x.n=1)→N.Pairwise rle→ws.Pairwise leW→(∀ x∈N,∀ w∈ws,rle x (newR q w)) →
  puts q ws (N++E)=N++(ws.map (newR q)++E):=by
 intro ws
 induction ws with
 | nil=>intro N _ _ _ _; rfl
 | cons w ws ih =>
  intro N hN sN sw hw
  obtain⟨w1,w2⟩:=List.pairwise_cons.mp sw
  have sNE:(N++E).Pairwise rle:=List.pairwise_append.mpr ⟨sN,sE,fun x hx y hy=>le_n ((hN x hx).1.trans (hE y hy).1.symm) (by rw [(hN x hx).2]; exact (hE y hy).2)⟩
  have e:putR q w (N++E)=N++newR q w::E:=by
   rw [aNs fun x hx=>(List.mem_append.mp hx).elim (fun h=>(hN x h).1) fun h=>(hE x h).1]
   refine aDp sNE List.perm_middle (List.pairwise_append.mpr ⟨sN,List.pairwise_cons.mpr ⟨fun y hy=>le_n (hE y hy).1.symm (hE y hy).2,sE⟩,fun x hx y hy=>?_⟩)
   rcases List.mem_cons.mp hy with rfl | hy
   ·exact hw x hx w List.mem_cons_self
   ·exact (List.pairwise_append.mp sNE).2.2 x hx y hy
  show puts q ws (putR q w (N++E))=_
  rw [e,show N++newR q w::E=(N++[newR q w])++E from by rw [List.append_assoc]; rfl,ih (N++[newR q w]) (fun x hx=>(List.mem_append.mp hx).elim (hN x) fun h=>by rw [List.mem_singleton.mp h]; exact⟨rfl,rfl⟩) (List.pairwise_append.mpr ⟨sN,List.pairwise_singleton _ _,fun x hx y hy=>by rw [List.mem_singleton.mp hy]; exact hw x hx w List.mem_cons_self⟩) w2 (fun x hx v hv=>(List.mem_append.mp hx).elim (fun h=>hw x h v (List.mem_cons_of_mem _ hv)) fun h=>by rw [List.mem_singleton.mp h]; exact aTd (w1 v hv)),List.append_assoc]
  rfl
noncomputable def EndAt (q:Int) (r:Row):Prop:=r.q=q∧r.ws.length=r.n∧0 < r.n
theorem aIc {q:Int}:∀ (ws:List (List Nat)) (old E:List Row),(∀ r∈old,EndAt (q - 1) r)→old.Pairwise rle→(∀ x∈E,x.q=q∧1 < x.n)→E.Pairwise rle→ws.Pairwise leW→(∀ x∈E,∀ r∈old,∀ w∈ws,rle x (extR q r w)) →
  puts q ws (old++E)=old.drop ws.length++((ws.drop old.length).map (newR q)++(E++List.zipWith (extR q) old ws)):=by
 intro ws
 induction ws with
 | nil=>intro old E _ _ _ _ _ _; rw [List.drop_nil,List.zipWith_nil_right,List.append_nil]; rfl
 | cons w ws ih =>
  intro old E ho so hE sE sw hx
  induction old using List.casesOn with
  | nil =>
   have:=aHu hE sE (w::ws) [] (fun _ h=>(nomatch h)) List.Pairwise.nil sw (fun _ h=>(nomatch h))
   rw [List.zipWith_nil_left,List.append_nil]
   exact this
  | cons r old =>
   obtain⟨w1,w2⟩:=List.pairwise_cons.mp sw
   obtain⟨r1,r2⟩:=List.pairwise_cons.mp so
   have hr:=ho r List.mem_cons_self
   have lo:∀ x∈old,∀ y:Row,y.q=q→rle x y:=fun x hx y hy=>le_q (by rw [(ho x (List.mem_cons_of_mem _ hx)).1,hy]; exact Int.sub_lt_self q (by decide))
   have soE:(old++E).Pairwise rle:=List.pairwise_append.mpr ⟨r2,sE,fun x hx y hy=>lo x hx y (hE y hy).1⟩
   have sE':(E++[extR q r w]).Pairwise rle:=List.pairwise_append.mpr ⟨sE,List.pairwise_singleton _ _,fun x h y hy=>by rw [List.mem_singleton.mp hy]; exact hx x h r List.mem_cons_self w List.mem_cons_self⟩
   have hE':∀ x∈E++[extR q r w],x.q=q∧1 < x.n:=fun x h=>(List.mem_append.mp h).elim (hE x) fun h=>by rw [List.mem_singleton.mp h]; exact⟨rfl,Nat.succ_lt_succ hr.2.2⟩
   have e:putR q w (r::(old++E))=old++(E++[extR q r w]):=by
    rw [eA,hr.1,beq_self_eq_true]
    refine aDp (x:=extR q r w) soE ?_ (List.pairwise_append.mpr ⟨r2,sE',fun x hx y hy=>lo x hx y (hE' y hy).1⟩)
    rw [← List.append_assoc]
    exact List.perm_append_comm
   show puts q ws (putR q w (r::(old++E)))=_
   rw [e,ih old (E++[extR q r w]) (fun x hx=>ho x (List.mem_cons_of_mem _ hx)) r2 hE' sE' w2 (fun x h s hs v hv=>(List.mem_append.mp h).elim (fun h=>hx x h s (List.mem_cons_of_mem _ hs) v (List.mem_cons_of_mem _ hv)) fun h=>by
    rw [List.mem_singleton.mp h]
    have hs':=ho s (List.mem_cons_of_mem _ hs)
    exact aSt (r1 s hs) (hr.1.trans hs'.1.symm) hr.2.1 hs'.2.1 (w1 v hv)),List.append_assoc E]
   rfl
theorem nA {x:Row} {l:List Row} (h:l.Pairwise rle):(insR x l).Pairwise rle:=by
 have:=eP cN (gA x) (s:=rowsD l) (fun y hy=>by
  obtain⟨r,_,rfl⟩:=List.mem_map.mp hy
  exact gA r) ((eO l).mpr h)
 rw [kF] at this
 exact (eO _).mp this
theorem put_sorted {q:Int} {w:List Nat} {l:List Row} (h:l.Pairwise rle):(putR q w l).Pairwise rle:=by
 induction l using List.casesOn with
 | nil=>exact List.pairwise_singleton _ _
 | cons r t =>
  rw [eA]
  cases r.q == q - 1 with
  | true=>exact nA (List.pairwise_cons.mp h).2
  | false=>exact nA h
theorem xY {q:Int}:∀ (ws:List (List Nat)) (l:List Row),l.Pairwise rle→(puts q ws l).Pairwise rle:=by
 intro ws
 induction ws with
 | nil=>intro l h; exact h
 | cons w ws ih=>intro l h; exact ih _ (put_sorted h)
theorem aDm {q:Int} {w:List Nat} {l:List Row} {y:Row} (h:y∈putR q w l):y.q=q∨y∈l:=by
 induction l using List.casesOn with
 | nil=>rw [List.mem_singleton.mp h]; exact .inl rfl
 | cons r t =>
  rw [eA] at h
  cases e:r.q == q - 1 with
  | true =>
   rw [e] at h
   exact (kM h).elim (fun e=>.inl (e▸rfl)) fun h=>.inr (List.mem_cons_of_mem _ h)
  | false =>
   rw [e] at h
   exact (kM h).elim (fun e=>.inl (e▸rfl)) .inr
theorem aFn {q:Int} {r:Row} (h:q - 1≤r.q):early q r=false:=decide_eq_false (Int.not_lt.mpr h)
theorem pE {q:Int}:∀ {l:List Row},(∀ r∈l,q - 1≤r.q)→l.takeWhile (early q)=[]∧l.dropWhile (early q)=l
 | [],_=>⟨rfl,rfl⟩
 | r::l,h=>by
  have e:=aFn (h r List.mem_cons_self)
  exact⟨List.takeWhile_cons_of_neg (by rw [e]; exact Bool.false_ne_true),List.dropWhile_cons_of_neg (by rw [e]; exact Bool.false_ne_true)⟩
theorem aOq:∀ (a c:List (Int×List Nat)) (rs os:List Row),lay (a++c) rs os=lay c (lay a rs os).1 (lay a rs os).2:=by
 intro a
 induction a with
 | nil=>intro c rs os; rfl
 | cons x a ih=>intro c rs os; exact ih c _ _
theorem aKd {q:Int}:∀ (ws:List (List Nat)) (rs os:List Row),(∀ r∈rs,q - 1≤r.q)→lay (ws.map fun w=>(q,w)) rs os=(puts q ws rs,os):=by
 intro ws
 induction ws with
 | nil=>intro rs os _; rfl
 | cons w ws ih =>
  intro rs os h
  obtain⟨e1,e2⟩:=pE h
  show lay (ws.map fun w=>(q,w)) (putR q w (rs.dropWhile (early q))) (os++rs.takeWhile (early q))=_
  rw [e1,e2,List.append_nil]
  exact ih _ _ fun r hr=>(aDm hr).elim (fun e=>by rw [e]; exact Int.le_of_lt (Int.sub_lt_self q (by decide))) (h r)
end Mine
end
section -- M14
open PySem
namespace Mine
section
variable (b:Int) (W:Nat→List (List Nat))
noncomputable def rowsAt:Nat→List Row
 | 0=>[]
 | p+1=>((W (p+1)).drop (rowsAt p).length).map (newR (b+(p+1:Nat)))++List.zipWith (extR (b+(p+1:Nat))) (rowsAt p) (W (p+1))
noncomputable def gone:Nat→List Row
 | 0=>[]
 | p+1=>gone p++(rowsAt b W p).drop (W (p+1)).length
noncomputable def partsTo (n:Nat):List (Int×List Nat):=(List.range n).flatMap fun j=>(W (j+1)).map fun w=>(b+(j+1:Nat),w)
end
section
variable {b:Int} {W:Nat→List (List Nat)} (h0:W 0=[]) (hW:∀ p,(W p).Pairwise leW)
theorem aBn {q:Int} {x:Row}:∀ {a:List Row} {ws:List (List Nat)},x∈List.zipWith (extR q) a ws→∃ r∈a,∃ w,x=extR q r w:=by
 intro a
 induction a with
 | nil=>intro ws h; rw [List.zipWith_nil_left] at h; cases h
 | cons r a ih =>
  intro ws h
  induction ws using List.casesOn with
  | nil=>rw [List.zipWith_nil_right] at h; cases h
  | cons w ws =>
   rcases List.mem_cons.mp h with rfl | h
   ·exact⟨r,List.mem_cons_self,w,rfl⟩
   ·obtain⟨r',h1,w',h2⟩:=ih h
    exact⟨r',List.mem_cons_of_mem _ h1,w',h2⟩
include h0 in
theorem aVi:∀ p,(rowsAt b W p).length=(W p).length
 | 0=>by rw [h0]; rfl
 | p+1=>by
  show (_++List.zipWith _ _ _).length=_
  rw [List.length_append,List.length_map,List.length_drop,List.length_zipWith]
  omega
theorem lN:∀ p,∀ r∈rowsAt b W p,EndAt (b+(p:Nat)) r
 | 0,r,h=>nomatch h
 | p+1,r,h=>by
  rcases List.mem_append.mp h with h | h
  ·obtain⟨w,_,rfl⟩:=List.mem_map.mp h
   exact⟨rfl,rfl,Nat.one_pos⟩
  ·obtain⟨s,hs,w,rfl⟩:=aBn h
   refine⟨rfl,?_,Nat.succ_pos _⟩
   show (s.ws++[w]).length=s.n+1
   rw [List.length_append,(lN p s hs).2.1]; rfl
theorem zF (p:Nat):b+(p+1:Nat) - 1=b+(p:Nat):=by lia
include hW
theorem rT {p:Nat} (hs:(rowsAt b W p).Pairwise rle):puts (b+(p+1:Nat)) (W (p+1)) (rowsAt b W p)=(rowsAt b W p).drop (W (p+1)).length++rowsAt b W (p+1):=by
 have:=aIc (q:=b+(p+1:Nat)) (W (p+1)) (rowsAt b W p) [] (fun r hr=>by rw [zF]; exact lN p r hr) hs (fun _ h=>(nomatch h)) List.Pairwise.nil (hW _) (fun _ h=>(nomatch h))
 rw [List.append_nil] at this
 exact this
theorem fW:∀ p,(rowsAt b W p).Pairwise rle
 | 0=>List.Pairwise.nil
 | p+1=>by
  have h:=xY (q:=b+(p+1:Nat)) (W (p+1)) _ (fW p)
  rw [rT hW (fW p)] at h
  exact (List.pairwise_append.mp h).2.1
theorem iJ:∀ p,(gone b W p).Pairwise rle∧∀ r∈gone b W p,r.q < b+(p:Nat)
 | 0=>⟨List.Pairwise.nil,fun _ h=>(nomatch h)⟩
 | p+1=>by
  obtain⟨h1,h2⟩:=iJ p
  have hd:∀ r∈(rowsAt b W p).drop (W (p+1)).length,r.q=b+(p:Nat):=fun r hr=>(lN p r (List.mem_of_mem_drop hr)).1
  refine⟨List.pairwise_append.mpr ⟨h1,(fW hW p).sublist (List.drop_sublist _ _),fun r hr s hs=>le_q (by rw [hd s hs]; exact h2 r hr)⟩,fun r hr=>?_⟩
  rcases List.mem_append.mp hr with hr | hr
  ·have:=h2 r hr; lia
  ·have:=hd r hr; omega
include h0
theorem aKt:∀ p,∃ X,(lay (partsTo b W p) [] []).1=X++rowsAt b W p∧(lay (partsTo b W p) [] []).2++X=gone b W p
 | 0=>⟨[],rfl,rfl⟩
 | p+1=>by
  obtain⟨X,e1,e2⟩:=aKt p
  have ep:partsTo b W (p+1)=partsTo b W p++(W (p+1)).map fun w=>(b+(p+1:Nat),w):=by
   unfold partsTo
   rw [List.range_succ,List.flatMap_append,List.flatMap_cons,List.flatMap_nil,List.append_nil]
  rw [ep,aOq,e1]
  generalize (lay (partsTo b W p) [] []).2=os at e2 ⊢
  have hX:∀ r∈X,early (b+(p+1:Nat)) r=true:=fun r hr=>by
   have:=(iJ (b:=b) hW p).2 r (e2▸List.mem_append_right _ hr)
   exact decide_eq_true (by rw [zF]; exact this)
  have hB:∀ r∈rowsAt b W p,b+(p+1:Nat) - 1≤r.q:=fun r hr=>by rw [zF,(lN p r hr).1]; exact Int.le_refl _
  cases hw:W (p+1) with
  | nil =>
   refine⟨X++rowsAt b W p,?_,?_⟩
   ·show X++rowsAt b W p=(X++rowsAt b W p)++(((W (p+1)).drop _).map _++List.zipWith _ _ (W (p+1)))
    rw [hw,List.drop_nil,List.zipWith_nil_right]
    exact (List.append_nil _).symm
   ·show os++(X++rowsAt b W p)=gone b W p++(rowsAt b W p).drop (W (p+1)).length
    rw [hw,← List.append_assoc,e2]; rfl
  | cons w ws =>
   obtain⟨n1,n2⟩:=pE hB
   have t1:(X++rowsAt b W p).takeWhile (early (b+(p+1:Nat)))=X:=by rw [List.takeWhile_append_of_pos hX,n1,List.append_nil]
   have t2:(X++rowsAt b W p).dropWhile (early (b+(p+1:Nat)))=rowsAt b W p:=by rw [List.dropWhile_append_of_pos hX,n2]
   have hput:∀ r∈putR (b+(p+1:Nat)) w (rowsAt b W p),b+(p+1:Nat) - 1≤r.q:=fun r hr=>(aDm hr).elim (fun e=>by rw [e]; exact Int.le_of_lt (Int.sub_lt_self _ (by decide))) (hB r)
   have hl:lay ((w::ws).map fun w=>(b+(p+1:Nat),w)) (X++rowsAt b W p) os=(puts (b+(p+1:Nat)) (W (p+1)) (rowsAt b W p),os++X):=by
    show lay (ws.map fun w=>(b+(p+1:Nat),w)) (putR (b+(p+1:Nat)) w ((X++rowsAt b W p).dropWhile (early (b+(p+1:Nat))))) (os++(X++rowsAt b W p).takeWhile (early (b+(p+1:Nat))))=_
    rw [t1,t2,aKd ws _ _ hput,hw]; rfl
   rw [hl,rT hW (fW hW p)]
   exact⟨_,rfl,by show (os++X)++_=gone b W p++_; rw [e2]⟩
theorem aOa {n:Nat} (hn:W (n+1)=[]):(lay (partsTo b W n) [] []).2++(lay (partsTo b W n) [] []).1=gone b W (n+1):=by
 obtain⟨X,e1,e2⟩:=aKt h0 hW n
 rw [e1,← List.append_assoc,e2]
 show _=gone b W n++(rowsAt b W n).drop (W (n+1)).length
 rw [hn]; rfl
end
end Mine
end
section -- R41
open PySem
namespace Mine
theorem aSy {l:List D} (h:∀ x∈l,noCell x=true):noCells l=true:=by
 induction l with
 | nil=>rfl
 | cons x xs ih=>unfold noCells; rw [h x List.mem_cons_self,ih fun y hy=>h y (List.mem_cons_of_mem _ hy)]; rfl
section
variable {G:Gx} {n:Nat} {o:Ops} {cx:Cx} {vars:Vars} {st st':Store} {elt:Expr} {g g':Comprehension} {sc:Scope} {p:Pos} {src:D} {ds:List D}
theorem nF {b:D→Bool} {f:D→D}:∀ l:List D,l.flatMap (fun d=>bif b d then [f d] else [])=(l.filter b).map f:=by
 intro l
 induction l with
 | nil=>rfl
 | cons d l ih =>
  rw [List.flatMap_cons,ih,List.filter_cons]
  cases b d <;> rfl
theorem qP (V:D→Vars) (b:D→Bool) (f:D→D) (B:Vars) (hc:(dZ cx vars sc&&g.is_async == 0)=true) (h1:(ops G (n+1)).ev cx vars g.iter st=some (src,st')) (h2:drawn src=some ds) (hB:bY sc vars=B)
  (ha:∀ d∈ds,∀ v,v=B∨(∃ e∈ds,v=V e)→∀ L,(ops G n).asg (compCx cx sc) v g.target d (st'++[L])=some (V d,st'++[L]))
  (hb:∀ d∈ds,∀ L,ifsT (ops G n) (compCx cx sc) (V d) g.ifs (st'++[L])=some (b d,st'++[L]))
  (hf:∀ d∈ds,b d=true→noCell (f d)=true∧∀ L,(ops G n).ev (compCx cx sc) (V d) elt (st'++[L])=some (f d,st'++[L])) (hs:ds.length≤900) :
  (ops G (n+2)).ev cx vars (.ListComp elt [g] sc p) st=some (.list ((ds.filter b).map f),st'):=by
 have hlen:((ds.filter b).map f).length≤1000:=by rw [List.length_map]; exact Nat.le_trans (List.length_filter_le b ds) (Nat.le_trans hs (by decide))
 rw [← nF]
 rw [← nF] at hlen
 refine oA (fun v=>v=B∨∃ e∈ds,v=V e) (fun d=>bif b d then [f d] else []) hc h1 h2 (.inl hB) (fun d hd v L r hv hL hl=>⟨V d,.inr ⟨d,hd,rfl⟩,?_⟩) hlen
 cases e:b d with
 | true =>
  obtain⟨f1,f2⟩:=hf d hd e
  refine⟨fU f1,?_⟩
  exact iO (b:=true) (ha d hd v hv L) ((hb d hd L).trans (by rw [e])) (fun _=>f2 L) f1 hL (Nat.le_trans (Nat.le_add_right _ _) hl)
 | false =>
  refine⟨rfl,?_⟩
  exact iO (x:=.none) (b:=false) (ha d hd v hv L) ((hb d hd L).trans (by rw [e])) (fun q=>(nomatch q)) rfl hL (Nat.le_trans (Nat.le_add_right _ _) hl)
theorem bR (V:D→Vars) (f:D→D) (B:Vars) (hc:(dZ cx vars sc&&g.is_async == 0)=true) (h1:(ops G (n+1)).ev cx vars g.iter st=some (src,st')) (h2:drawn src=some ds) (hB:bY sc vars=B)
  (ha:∀ d∈ds,∀ v,v=B∨(∃ e∈ds,v=V e)→∀ L,(ops G n).asg (compCx cx sc) v g.target d (st'++[L])=some (V d,st'++[L])) (hi:g.ifs=[])
  (hf:∀ d∈ds,noCell (f d)=true∧∀ L,(ops G n).ev (compCx cx sc) (V d) elt (st'++[L])=some (f d,st'++[L])) (hs:ds.length≤900) :
  (ops G (n+2)).ev cx vars (.ListComp elt [g] sc p) st=some (.list (ds.map f),st'):=by
 have e:ds.filter (fun _=>true)=ds:=List.filter_eq_self.mpr fun _ _=>rfl
 have:=qP (p:=p) V (fun _=>true) f B hc h1 h2 hB ha (fun d hd L=>by rw [hi]; rfl) (fun d hd _=>hf d hd) hs
 rwa [e] at this
theorem vS (V:D→Vars) (W:D→D→Vars) (s2:D→D) (ds2:D→List D) (f:D→D→D) (B:Vars) (hc:(dZ cx vars sc&&g.is_async == 0)=true) (h1:(ops G (n+2)).ev cx vars g.iter st=some (src,st')) (h2:drawn src=some ds) (hB:bY sc vars=B)
  (ha:∀ d∈ds,∀ v,v=B∨(∃ e,v=V e)∨(∃ e k,v=W e k)→∀ L,∃ v',(v'=V d∨∃ k,v'=W d k)∧(ops G (n+1)).asg (compCx cx sc) v g.target d (st'++[L])=some (v',st'++[L])) (hi:g.ifs=[]) (hi':g'.ifs=[]) (hg':(g'.is_async == 0)=true)
  (hs2:∀ d∈ds,drawn (s2 d)=some (ds2 d)∧∀ v,(v=V d∨∃ k,v=W d k)→∀ L,(ops G (n+1)).ev (compCx cx sc) v g'.iter (st'++[L])=some (s2 d,st'++[L]))
  (ha2:∀ d∈ds,∀ k∈ds2 d,∀ v,(v=V d∨∃ k,v=W d k)→∀ L,(ops G n).asg (compCx cx sc) v g'.target k (st'++[L])=some (W d k,st'++[L]))
  (hf:∀ d∈ds,∀ k∈ds2 d,noCell (f d k)=true∧∀ L,(ops G n).ev (compCx cx sc) (W d k) elt (st'++[L])=some (f d k,st'++[L])) (hs:(ds.flatMap fun d=>(ds2 d).map (f d)).length≤900) :
  (ops G (n+3)).ev cx vars (.ListComp elt [g,g'] sc p) st=some (.list (ds.flatMap fun d=>(ds2 d).map (f d)),st'):=by
 refine oA (fun v=>v=B∨(∃ e,v=V e)∨(∃ e k,v=W e k)) (fun d=>(ds2 d).map (f d)) hc h1 h2 (.inl hB) (fun d hd v L r hv hL hl=>?_) (Nat.le_trans hs (by decide))
 obtain⟨v1,hv1,e1⟩:=ha d hd v hv L
 obtain⟨dr,ei⟩:=hs2 d hd
 have hnc:noCells ((ds2 d).map (f d))=true:=aSy fun x hx=>by
  obtain⟨k,hk,rfl⟩:=List.mem_map.mp hx
  exact (hf d hd k hk).1
 obtain⟨v2,hv2,_,e2⟩:=iP (o:=ops G n) (cx:=compCx cx sc) (elt:=elt) (g:=g') (rest:=[]) (S:=st') (I:=fun v=>v=V d∨∃ k,v=W d k) (F:=fun k=>[f d k]) (ds2 d) v1 L (fun k hk v L r hv hL hl=>by
  obtain⟨f1,f2⟩:=hf d hd k hk
  refine⟨W d k,.inr ⟨k,rfl⟩,fU f1,?_⟩
  exact iO (b:=true) (ha2 d hd k hk v hv L) (by rw [hi']; rfl) (fun _=>f2 L) f1 hL (Nat.le_trans (Nat.le_add_right _ _) hl)) hv1 hL (by rw [lW]; exact hl)
 rw [lW] at e2
 exact⟨v2,.inr (hv2.elim (fun h=>.inl ⟨d,h⟩) fun⟨k,h⟩=>.inr ⟨d,k,h⟩),hnc,aEq e1 (by rw [hi]; rfl) (ei v1 hv1 L) (aCm hg' dr e2)⟩
end
end Mine
end
section -- R42
open PySem
namespace Mine
noncomputable abbrev Ent:=List Nat×List Nat
noncomputable def entD (e:Ent):D:=.list [.str e.1,.list (intsD e.2)]
noncomputable def cA (P:List Ent):D:=.list (P.map entD)
section
variable (pl:List (List Ent))
noncomputable def nP (p:Nat):Nat:=(pl.getD p []).length
noncomputable def sz:List Nat:=pl.map List.length
noncomputable def bb (p:Nat):Nat:=if p=0 then 0 else nP pl p - nP pl (p - 1)
noncomputable def bg:List Nat:=(List.range 7).map (bb pl)
end
section
variable {pl:List (List Ent)} {k:Nat} {st:Store}
theorem vR {l:List Nat} {i:Nat} (hi:i < l.length) (hs:l.length≤1000):index st (.list (intsD l)) (.int (i:Nat))=some (.int (l.getD i 0:Nat)):=by
 show (place (intsD l).length (i:Int)).bind (fun j=>(intsD l)[j]?)=_
 rw [dK,oZ hi hs]
 show (l.map fun (c:Nat)=>D.int (c:Int))[i]? = _
 rw [List.getElem?_map,jB hi]; rfl
theorem aVp {i:Nat} (hi:i < pl.length):(sz pl).getD i 0=nP pl i:=by
 unfold sz nP
 rw [List.getD_eq_getElem?_getD,List.getElem?_map,List.getD_eq_getElem?_getD,List.getElem?_eq_getElem hi]; rfl
theorem aVc {i:Nat} (hi:i < 7):(bg pl).getD i 0=bb pl i:=by
 unfold bg
 rw [List.getD_eq_getElem?_getD,List.getElem?_map,List.getElem?_range hi]; rfl
theorem oU {i:Nat} (h7:pl.length=7) (hi:i < 7):index st (.list (intsD (sz pl))) (.int (i:Nat))=some (.int (nP pl i:Nat)):=by
 have hl:(sz pl).length=7:=by unfold sz; rw [List.length_map,h7]
 rw [vR (by rw [hl]; exact hi) (by rw [hl]; decide),aVp (by rw [h7]; exact hi)]
theorem aSn {i:Nat} (hi:i < 7):index st (.list (intsD (bg pl))) (.int (i:Nat))=some (.int (bb pl i:Nat)):=by
 rw [vR (by unfold bg; rw [List.length_map]; exact hi) (by unfold bg; rw [List.length_map]; decide),aVc hi]
noncomputable def rhs (i j:Nat):Expr:=match (fBody (fnAt i))[j]? with
 | some (.Assign _ e _)=>e
 | some (.Return (some e) _)=>e
 | _=>.Name "" ⟨0,0,0,0⟩
noncomputable def rOf:Expr→Expr
 | .BinOp _ _ r _=>r
 | e=>e
noncomputable def V37 (pl:List (List Ent)) (t:Vars):Vars:=([("piles",.list (pl.map cA))]:Vars)++t
noncomputable def lenF:D→D
 | .list l=>.int (l.length:Nat)
 | d=>d
theorem due0 (h7:pl.length=7) (hs:∀ P∈pl,P.length≤900):(ops (GT k) 24).ex (cxOf 37) (V37 pl []) ((fBody (fnAt 37)).getD 0 (.Pass ⟨0,0,0,0⟩)) st=some (.next,V37 pl ([("sizes",.list (intsD (sz pl)))]:Vars),st):=by
 have e:(pl.map cA).map lenF=intsD (sz pl):=by
  unfold intsD sz
  rw [List.map_map,List.map_map]
  exact List.map_congr_left fun P _=>by show D.int ((P.map entD).length:Nat)=D.int (P.length:Nat); rw [List.length_map]
 refine aC (n:=23) (st':=st) (d:=.list (intsD (sz pl))) rfl ?_ rfl
 rw [← e]
 show (ops (GT k) 24).ev (cxOf 37) (V37 pl []) (rhs 37 0) st=_
 refine bR (n:=22) (src:=.list (pl.map cA)) (ds:=pl.map cA) (fun d=>([("pile",d)]:Vars)) lenF [] rfl rfl rfl rfl (fun d hd v hv L=>?_) rfl (fun d hd=>?_) (by rw [List.length_map,h7]; decide)
 ·rcases hv with rfl | ⟨e,_,rfl⟩ <;> rfl
 ·obtain⟨P,hP,rfl⟩:=List.mem_map.mp hd
  exact⟨rfl,fun L=>ev_blt (fd:=.builtin "len") (ds:=[cA P]) rfl (aB rfl rfl rfl) (aA rfl rfl rfl) rfl (len_list (by rw [List.length_map]; exact Nat.le_trans (hs P hP) (by decide)))⟩
noncomputable def begF (pl:List (List Ent)):D→D
 | .int i=>.int (bb pl i.toNat:Nat)
 | d=>d
theorem aNp {a b:Nat}:aLd (.int 0) (.int ((a:Int) - (b:Int)))=some (.int ((a - b:Nat):Int)):=by
 show some (D.int (max 0 ((a:Int) - b)))=_
 congr 2
 rcases Nat.le_total a b with h | h
 ·rw [Nat.sub_eq_zero_of_le h,Int.max_eq_left (Int.sub_nonpos_of_le (Int.ofNat_le.mpr h))]; rfl
 ·rw [Int.ofNat_sub h,Int.max_eq_right (Int.sub_nonneg_of_le (Int.ofNat_le.mpr h))]
noncomputable def upTo (m:Nat):List D:=(List.range m).map fun j=>D.int (j+1:Nat)
theorem due1 (h7:pl.length=7):(ops (GT k) 24).ex (cxOf 37) (V37 pl ([("sizes",.list (intsD (sz pl)))]:Vars)) ((fBody (fnAt 37)).getD 1 (.Pass ⟨0,0,0,0⟩)) st=some (.next,V37 pl ([("sizes",.list (intsD (sz pl))),("begun",.list (intsD (bg pl)))]:Vars),st):=by
 have e:[D.int 0]++(upTo 6).map (begF pl)=intsD (bg pl):=rfl
 refine aC (n:=23) (st':=st) (d:=.list (intsD (bg pl))) rfl ?_ rfl
 rw [← e]
 suffices hcomp:(ops (GT k) 22).ev (cxOf 37) (V37 pl ([("sizes",.list (intsD (sz pl)))]:Vars)) (rOf (rhs 37 1)) st=some (.list ((upTo 6).map (begF pl)),st) from aD (st':=st) (a:=.list [.int 0]) (b:=.list ((upTo 6).map (begF pl))) rfl hcomp (kR (by show 1+((upTo 6).map (begF pl)).length≤1000; rw [List.length_map]; decide))
 refine bR (n:=20) (src:=.range 1 7 1) (ds:=upTo 6) (fun d=>([("sizes",.list (intsD (sz pl))),("place",d)]:Vars)) (begF pl) ([("sizes",.list (intsD (sz pl)))]:Vars) rfl (ev_blt (fd:=.type "range") (ds:=[.int 1,.int 7]) rfl (aB rfl rfl rfl) rfl rfl rfl) rfl rfl (fun d hd v hv L=>?_) rfl (fun d hd=>?_) (by decide)
 ·rcases hv with rfl | ⟨e,_,rfl⟩ <;> rfl
 ·obtain⟨j,hj,rfl⟩:=List.mem_map.mp hd
  have hj6:=List.mem_range.mp hj
  have hb:begF pl (.int (j+1:Nat))=.int ((nP pl (j+1) - nP pl j:Nat):Int):=by
   show D.int ((if j+1=0 then 0 else nP pl (j+1) - nP pl (j+1 - 1):Nat):Int)=_
   rw [if_neg (Nat.succ_ne_zero j),Nat.add_sub_cancel]
  rw [hb]
  refine⟨rfl,fun L=>ev_blt (fd:=.builtin "max") (ds:=[.int 0,.int ((nP pl (j+1):Nat) - (nP pl j:Nat):Int)]) rfl (aB rfl rfl rfl) (aA rfl rfl (aA rfl (aD (a:=.int (nP pl (j+1):Nat)) (b:=.int (nP pl j:Nat)) (ev_idx (d:=.list (intsD (sz pl))) (j:=.int (j+1:Nat)) rfl rfl rfl (oU h7 (Nat.succ_lt_succ hj6))) (ev_idx (d:=.list (intsD (sz pl))) (j:=.int (j:Nat)) rfl rfl (aD (a:=.int (j+1:Nat)) (b:=.int 1) rfl rfl aDj) (oU h7 (Nat.lt_succ_of_lt hj6))) rfl) rfl)) rfl aNp⟩
end
end Mine
end
section -- R43
open PySem
namespace Mine
section
variable (pl:List (List Ent))
noncomputable def cS:List (Nat×Nat):=(List.range 5).flatMap fun j=>(List.range (bb pl (j+1))).map fun i=>(j+1,bb pl (j+1) - 1 - i)
noncomputable def cT:List Nat:=(List.range 5).flatMap fun j=>(List.range (nP pl (j+1) - nP pl (j+2))).map fun _=>j+1
end
noncomputable def headD (h:Nat×Nat):D:=.list [.int (h.1:Nat),.int (h.2:Nat)]
noncomputable def dn (b:Nat):List D:=(List.range b).map fun (j:Nat)=>D.int ((b:Int) - 1 - (j:Int))
noncomputable def eS:D→Nat
 | .int i=>i.toNat
 | _=>0
theorem aDy {α:Type} (l:List Nat) (F:D→List D) (G:Nat→List α) (h:α→D) (e:∀ j∈l,F (.int (j+1:Nat))=(G j).map h):(l.map fun j=>D.int (j+1:Nat)).flatMap F=(l.flatMap G).map h:=by
 induction l with
 | nil=>rfl
 | cons j l ih =>
  rw [List.map_cons,List.flatMap_cons,List.flatMap_cons,List.map_append,e j List.mem_cons_self,ih fun i hi=>e i (List.mem_cons_of_mem _ hi)]
theorem yD {b:Nat} (h:b≤1000):drawn (.range ((b:Int) - 1) (-1) (-1))=some (dn b)∧small ((b:Int) - 1)=true:=by
 have hs:small ((b:Int) - 1)=true:=by
  unfold small
  rw [Bool.and_eq_true]
  exact⟨decide_eq_true (by lia),decide_eq_true (by lia)⟩
 refine⟨?_,hs⟩
 show (if (small ((b:Int) - 1)&&true&&true)=true then some (((List.range ((b:Int) - 1 - (-1)).toNat).map fun (k:Nat)=>(b:Int) - 1 - (k:Int)).map D.int) else none)=_
 rw [hs,List.map_map,show (b:Int) - 1 - (-1)=(b:Int) from by lia,Int.toNat_natCast]; rfl
theorem xQ {a b:Nat} (h:a≤1000) (hb:b≤1000):drawn (.range 0 ((a:Int) - (b:Int)) 1)=some ((List.range (a - b)).map fun (k:Nat)=>D.int k)∧small ((a:Int) - (b:Int))=true:=by
 have hs:small ((a:Int) - (b:Int))=true:=by
  unfold small
  rw [Bool.and_eq_true]
  exact⟨decide_eq_true (by lia),decide_eq_true (by lia)⟩
 refine⟨?_,hs⟩
 rw [yT hs,Int.toNat_sub]
theorem aNa {st:Store} {b:Int} (h:small b=true):bcall st (.type "range") [.int b]=some (.range 0 b 1):=by
 show (if small b=true then some (D.range 0 b 1) else none)=_
 rw [h]; rfl
section
variable {pl:List (List Ent)} {k:Nat} {st:Store}
noncomputable def Vsb (pl:List (List Ent)) (t:Vars):Vars:=V37 pl (([("sizes",.list (intsD (sz pl))),("begun",.list (intsD (bg pl)))]:Vars)++t)
theorem lL {m:Nat} {d:D} (h:d∈upTo m):∃ j,j < m∧d=.int (j+1:Nat):=by
 obtain⟨j,hj,rfl⟩:=List.mem_map.mp h
 exact⟨j,List.mem_range.mp hj,rfl⟩
theorem due2 (hb:∀ p,bb pl p≤900) (hl:(cS pl).length≤900):(ops (GT k) 24).ex (cxOf 37) (Vsb pl []) ((fBody (fnAt 37)).getD 2 (.Pass ⟨0,0,0,0⟩)) st=some (.next,Vsb pl ([("heads",.list ((cS pl).map headD))]:Vars),st):=by
 have e:((upTo 5).flatMap fun d=>(dn (bb pl (eS d))).map fun i=>D.list [d,i])=(cS pl).map headD:=by
  refine aDy _ _ _ _ fun j _=>?_
  show (dn (bb pl (j+1))).map _=_
  unfold dn
  rw [List.map_map,List.map_map]
  refine List.map_congr_left fun i hi=>?_
  have:=List.mem_range.mp hi
  show D.list [.int (j+1:Nat),.int ((bb pl (j+1):Int) - 1 - (i:Int))]=D.list [.int (j+1:Nat),.int (bb pl (j+1) - 1 - i:Nat)]
  rw [show (bb pl (j+1):Int) - 1 - (i:Int)=((bb pl (j+1) - 1 - i:Nat):Int) from by omega]
 refine aC (n:=23) (st':=st) (d:=.list ((cS pl).map headD)) rfl ?_ rfl
 have hlen:((upTo 5).flatMap fun d=>(dn (bb pl (eS d))).map fun i=>D.list [d,i]).length≤900:=by rw [e,List.length_map]; exact hl
 rw [← e]
 show (ops (GT k) 24).ev (cxOf 37) (Vsb pl []) (rhs 37 2) st=_
 refine vS (n:=21) (src:=.range 1 6 1) (ds:=upTo 5) (fun d=>([("begun",.list (intsD (bg pl))),("place",d)]:Vars)) (fun d i=>([("begun",.list (intsD (bg pl))),("place",d),("k",i)]:Vars)) (fun d=>.range ((bb pl (eS d):Int) - 1) (-1) (-1)) (fun d=>dn (bb pl (eS d))) (fun d i=>D.list [d,i]) ([("begun",.list (intsD (bg pl)))]:Vars) rfl (ev_blt (fd:=.type "range") (ds:=[.int 1,.int 6]) rfl (aB rfl rfl rfl) rfl rfl rfl) rfl rfl (fun d hd v hv L=>?_) rfl rfl rfl (fun d hd=>⟨(yD (Nat.le_trans (hb _) (by decide))).1,fun v hv L=>?_⟩) (fun d hd i hi v hv L=>?_) (fun d hd i hi=>?_) hlen
 ·rcases hv with rfl | ⟨_,rfl⟩ | ⟨_,i,rfl⟩
  ·exact⟨_,.inl rfl,rfl⟩
  ·exact⟨_,.inl rfl,rfl⟩
  ·exact⟨_,.inr ⟨i,rfl⟩,rfl⟩
 ·obtain⟨j,hj,rfl⟩:=lL hd
  have h7:j+1 < 7:=Nat.succ_lt_succ (Nat.lt_succ_of_lt hj)
  rcases hv with rfl | ⟨_,rfl⟩ <;> exact ev_blt (fd:=.type "range") (ds:=[.int ((bb pl (j+1):Int) - 1),.int (-1),.int (-1)]) rfl (aB rfl rfl rfl) (aA rfl (aD (a:=.int (bb pl (j+1):Nat)) (b:=.int 1) (ev_idx (d:=.list (intsD (bg pl))) (j:=.int (j+1:Nat)) rfl rfl rfl (aSn h7)) rfl rfl) rfl) rfl (oP (yD (Nat.le_trans (hb _) (by decide))).2)
 ·rcases hv with rfl | ⟨_,rfl⟩ <;> rfl
 ·obtain⟨j,hj,rfl⟩:=lL hd
  obtain⟨m,hm,rfl⟩:=List.mem_map.mp hi
  exact⟨rfl,fun L=>rfl⟩
theorem due3 (h7:pl.length=7) (hb:∀ p,nP pl p≤900) (hl:(cT pl).length≤900) {hd:D}:(ops (GT k) 24).ex (cxOf 37) (Vsb pl ([("heads",hd)]:Vars)) ((fBody (fnAt 37)).getD 3 (.Pass ⟨0,0,0,0⟩)) st=some (.next,Vsb pl ([("heads",hd),("lasts",.list (intsD (cT pl)))]:Vars),st):=by
 have e:((upTo 5).flatMap fun d=>((List.range (nP pl (eS d) - nP pl (eS d+1))).map fun (k:Nat)=>D.int k).map fun i=>d)=intsD (cT pl):=by
  refine aDy _ _ _ _ fun j _=>?_
  show ((List.range (nP pl (j+1) - nP pl (j+1+1))).map fun (k:Nat)=>D.int k).map _=_
  rw [List.map_map,List.map_map]; rfl
 refine aC (n:=23) (st':=st) (d:=.list (intsD (cT pl))) rfl ?_ rfl
 have hlen:((upTo 5).flatMap fun d=>((List.range (nP pl (eS d) - nP pl (eS d+1))).map fun (k:Nat)=>D.int k).map fun i=>d).length≤900:=by rw [e,dK]; exact hl
 rw [← e]
 show (ops (GT k) 24).ev (cxOf 37) (Vsb pl ([("heads",hd)]:Vars)) (rhs 37 3) st=_
 refine vS (n:=21) (src:=.range 1 6 1) (ds:=upTo 5) (fun d=>([("sizes",.list (intsD (sz pl))),("place",d)]:Vars)) (fun d i=>([("sizes",.list (intsD (sz pl))),("place",d),("k",i)]:Vars)) (fun d=>.range 0 ((nP pl (eS d):Int) - (nP pl (eS d+1):Int)) 1) (fun d=>(List.range (nP pl (eS d) - nP pl (eS d+1))).map fun (k:Nat)=>D.int k) (fun d i=>d) ([("sizes",.list (intsD (sz pl)))]:Vars) rfl (ev_blt (fd:=.type "range") (ds:=[.int 1,.int 6]) rfl (aB rfl rfl rfl) rfl rfl rfl) rfl rfl (fun d hd v hv L=>?_) rfl rfl rfl (fun d hd=>⟨(xQ (Nat.le_trans (hb _) (by decide)) (Nat.le_trans (hb _) (by decide))).1,fun v hv L=>?_⟩) (fun d hd i hi v hv L=>?_) (fun d hd i hi=>?_) hlen
 ·rcases hv with rfl | ⟨_,rfl⟩ | ⟨_,i,rfl⟩
  ·exact⟨_,.inl rfl,rfl⟩
  ·exact⟨_,.inl rfl,rfl⟩
  ·exact⟨_,.inr ⟨i,rfl⟩,rfl⟩
 ·obtain⟨j,hj,rfl⟩:=lL hd
  have hj7:j+1 < 7:=Nat.succ_lt_succ (Nat.lt_succ_of_lt hj)
  have hj8:j+2 < 7:=Nat.succ_lt_succ (Nat.succ_lt_succ hj)
  rcases hv with rfl | ⟨_,rfl⟩ <;> exact ev_blt (fd:=.type "range") (ds:=[.int ((nP pl (j+1):Int) - (nP pl (j+2):Int))]) rfl (aB rfl rfl rfl) (aA rfl (aD (a:=.int (nP pl (j+1):Nat)) (b:=.int (nP pl (j+2):Nat)) (ev_idx (d:=.list (intsD (sz pl))) (j:=.int (j+1:Nat)) rfl rfl rfl (oU h7 hj7)) (ev_idx (d:=.list (intsD (sz pl))) (j:=.int (j+2:Nat)) rfl rfl (aD (a:=.int (j+1:Nat)) (b:=.int 1) rfl rfl cR) (oU h7 hj8)) rfl) rfl) rfl (aNa (xQ (Nat.le_trans (hb _) (by decide)) (Nat.le_trans (hb _) (by decide))).2)
 ·rcases hv with rfl | ⟨_,rfl⟩ <;> rfl
 ·obtain⟨j,hj,rfl⟩:=lL hd
  exact⟨rfl,fun L=>rfl⟩
end
end Mine
end
section -- R44
open PySem
namespace Mine
section
variable (pl:List (List Ent))
noncomputable def entAt (p i:Nat):Ent:=(pl.getD p []).getD i ([],[])
noncomputable def sumB (h p:Nat):Nat:=(((bg pl).drop (h+1)).take (p - (h+1))).sum
noncomputable def rowE (h k l:Nat):List Ent:=entAt pl h (nP pl (h - 1)+k)::(List.range (l - h)).map fun j=>entAt pl (h+1+j) (sumB pl h (h+1+j)+k)
set_option genInjectivity false in
structure DueOk (h k l:Nat):Prop where
 h1:1≤h
 hl:h≤l
 l5:l≤5
 first:nP pl (h - 1)+k < nP pl h
 more:∀ j,j < l - h→sumB pl h (h+1+j)+k < nP pl (h+1+j)
end
noncomputable def due4 (es:List Ent) (l:Nat):D:=.list [.int (l:Nat),.int (es.length:Nat),.list (es.map fun e=>.str e.1),.list (es.map fun e=>.bytes e.2)]
theorem tU {st:Store} {α:Type} {L:List α} {f:α→D} {i:Nat} (z:α) (hi:i < L.length) (hs:L.length≤1000):index st (.list (L.map f)) (.int (i:Nat))=some (f (L.getD i z)):=by
 show (place (L.map f).length (i:Int)).bind (fun j=>(L.map f)[j]?)=_
 rw [List.length_map,oZ hi hs]
 show (L.map f)[i]? = _
 rw [List.getElem?_map,List.getD_eq_getElem?_getD,List.getElem?_eq_getElem hi]; rfl
theorem aPc (l:List Nat):((l.map fun (c:Nat)=>(c:Int)).sum)=((l.sum:Nat):Int):=by
 induction l with
 | nil=>rfl
 | cons a l ih=>rw [List.map_cons,List.sum_cons,List.sum_cons,ih]; rfl
theorem aTy {st:Store} (l:List Nat):bcall st (.builtin "sum") [.list (intsD l)]=some (.int (l.sum:Nat)):=by
 show (bM (intsD l)).map (fun is=>D.int is.sum)=_
 rw [gK]
 show some (D.int _)=_
 rw [aPc]
theorem aLs (l:List Nat) (a b:Nat):cut (intsD l) a b=intsD (cut l a b):=by
 unfold cut intsD
 rw [← List.map_drop,← List.map_take]
theorem aMc {pl:List (List Ent)} {h p:Nat} (hp:p≤7):slice (.list (intsD (bg pl))) (some ((h+1:Nat):Int)) (some (p:Int))=some (.list (intsD (((bg pl).drop (h+1)).take (p - (h+1))))):=by
 show (if (decide ((0:Int)≤(h+1:Nat))&&decide ((0:Int)≤p))=true then (if fits (intsD (bg pl)).length then some (D.list (cut (intsD (bg pl)) ((h+1:Nat):Int).toNat (min (p:Int).toNat (intsD (bg pl)).length))) else none) else none)=_
 rw [decide_eq_true (Int.natCast_nonneg _),decide_eq_true (Int.natCast_nonneg _),Int.toNat_natCast,Int.toNat_natCast,dK]
 have e:(bg pl).length=7:=rfl
 rw [e,Nat.min_eq_left hp,aLs]; rfl
section
variable {pl:List (List Ent)} {k:Nat} {st:Store}
theorem aHr {p:Nat} (h:0 < nP pl p):p < pl.length:=by
 refine Nat.lt_of_not_le fun hp=>?_
 unfold nP at h
 rw [List.getD_eq_getElem?_getD,List.getElem?_eq_none hp] at h
 exact Nat.lt_irrefl 0 h
theorem idx_ent {st:Store} {p i:Nat} (hi:i < nP pl p) (hs:nP pl p≤1000):index st (cA (pl.getD p [])) (.int (i:Nat))=some (entD (entAt pl p i)):=tU ([],[]) hi hs
theorem aEt {st:Store} {a b:Int} (h1:small a=true) (h2:small b=true):bcall st (.type "range") [.int a,.int b]=some (.range a b 1):=by
 show (if (small a&&small b)=true then some (D.range a b 1) else none)=_
 rw [h1,h2]; rfl
theorem aEo {a b:Int} (h1:small a=true) (h2:small b=true):drawn (.range a b 1)=some ((List.range (b - a).toNat).map fun (i:Nat)=>D.int (a+(i:Int))):=by
 show (if (small a&&small b&&true)=true then some (((List.range (b - a).toNat).map fun (i:Nat)=>a+(i:Int)).map D.int) else none)=_
 rw [h1,h2,List.map_map]; rfl
noncomputable def Vz (pl:List (List Ent)) (c:Nat) (t:Vars):Vars:=Vsb pl (([("heads",.list ((cS pl).map headD)),("lasts",.list (intsD (cT pl))),("rows",.cell c)]:Vars)++t)
noncomputable def Tz (t:Vars):Prop:=t=[]∨∃ a b c d:D,t=([("head",a),("k",b),("last",c),("row",d)]:Vars)
noncomputable def Thk (h j l:Nat) (u:Vars):Vars:=([("head",.int (h:Nat)),("k",.int (j:Nat)),("last",.int (l:Nat))]:Vars)++u
theorem aMv {h j l:Nat} {c:Nat} {u:Vars} (hu:u=[]∨∃ d:D,u=([("row",d)]:Vars)) (h7:pl.length=7) (hb:∀ p,nP pl p≤900) (H:DueOk pl h j l) {S:Store} :
  (ops (GT k) 21).ev (cxOf 37) (Vz pl c (Thk h j l u)) (rOf (match (loopAt 37 5).2.getD 0 (.Pass ⟨0,0,0,0⟩) with | .Assign _ e _=>e | _=>.Name "" ⟨0,0,0,0⟩)) S=some (.list ((List.range (l - h)).map fun i=>entD (entAt pl (h+1+i) (sumB pl h (h+1+i)+j))),S):=by
 have hsm:∀ {x:Nat},x≤6→small (x:Int)=true:=fun hx=>gP (Nat.le_trans hx (by decide))
 have s1:small ((h+1:Nat):Int)=true:=hsm (Nat.succ_le_succ (Nat.le_trans H.hl H.l5))
 have s2:small ((l+1:Nat):Int)=true:=hsm (Nat.succ_le_succ H.l5)
 have hdr:drawn (.range ((h+1:Nat):Int) ((l+1:Nat):Int) 1)=some ((List.range (l - h)).map fun i=>D.int ((h+1+i:Nat):Int)):=by
  rw [aEo s1 s2,Int.toNat_sub,Nat.add_sub_add_right]; rfl
 have e:(((List.range (l - h)).map fun i=>D.int ((h+1+i:Nat):Int)).map fun d=>entD (entAt pl (eS d) (sumB pl h (eS d)+j)))=(List.range (l - h)).map fun i=>entD (entAt pl (h+1+i) (sumB pl h (h+1+i)+j)):=by rw [List.map_map]; rfl
 rw [← e]
 refine bR (n:=19) (src:=.range ((h+1:Nat):Int) ((l+1:Nat):Int) 1) (ds:=(List.range (l - h)).map fun i=>D.int ((h+1+i:Nat):Int)) (fun d=>([("piles",.list (pl.map cA)),("begun",.list (intsD (bg pl))),("head",.int (h:Nat)),("k",.int (j:Nat)),("place",d)]:Vars)) (fun d=>entD (entAt pl (eS d) (sumB pl h (eS d)+j)))
  ([("piles",.list (pl.map cA)),("begun",.list (intsD (bg pl))),("head",.int (h:Nat)),("k",.int (j:Nat))]:Vars) ?_ (ev_blt (st':=S) (fd:=.type "range") (ds:=[.int (h+1:Nat),.int (l+1:Nat)]) rfl (aB rfl rfl rfl) (aA (d:=.int (h+1:Nat)) rfl (aD (st':=S) (a:=.int (h:Nat)) (b:=.int 1) rfl rfl cR) (aA (d:=.int (l+1:Nat)) rfl (aD (st':=S) (a:=.int (l:Nat)) (b:=.int 1) rfl rfl cR) rfl)) rfl (aEt s1 s2)) hdr ?_ (fun d hd v hv L=>?_) rfl (fun d hd=>?_) (by rw [List.length_map,List.length_range]; exact Nat.le_trans (Nat.sub_le _ _) (Nat.le_trans H.l5 (by decide)))
 ·rcases hu with rfl | ⟨_,rfl⟩ <;> rfl
 ·rcases hu with rfl | ⟨_,rfl⟩ <;> rfl
 ·rcases hv with rfl | ⟨_,_,rfl⟩ <;> rfl
 ·obtain⟨i,hi,rfl⟩:=List.mem_map.mp hd
  have hil:=List.mem_range.mp hi
  have hm:=H.more i hil
  have hp7:h+1+i≤7:=by have:=H.l5; lia
  have hpl:h+1+i < pl.length:=aHr (Nat.lt_of_le_of_lt (Nat.zero_le _) hm)
  refine⟨?_,fun L=>ev_idx (d:=cA (pl.getD (h+1+i) [])) (j:=.int (sumB pl h (h+1+i)+j:Nat)) rfl (ev_idx (d:=.list (pl.map cA)) (j:=.int (h+1+i:Nat)) rfl rfl rfl (tU [] hpl (by rw [h7]; decide))) (aD (a:=.int (sumB pl h (h+1+i):Nat)) (b:=.int (j:Nat)) (ev_blt (fd:=.builtin "sum") (ds:=[.list (intsD (((bg pl).drop (h+1)).take (h+1+i - (h+1))))]) rfl (aB rfl rfl rfl) (aA rfl (fH (st':=S++[L]) (st₂:=S++[L]) (a:=some ((h+1:Nat):Int)) (b:=some ((h+1+i:Nat):Int)) rfl rfl rfl (aMc hp7)) rfl) rfl (aTy _)) rfl add_nat) (idx_ent hm (Nat.le_trans (hb _) (by decide)))⟩
  show (true&&(noCells (intsD (entAt pl (h+1+i) (sumB pl h (h+1+i)+j)).2)&&true))=true
  rw [bU]; rfl
end
end Mine
end
section -- R45
open PySem
namespace Mine
noncomputable def wrV:D→Vars
 | .list [a,b]=>([("written",a),("octets",b)]:Vars)
 | _=>[]
noncomputable def wrF:D→D
 | .list [a,_]=>a
 | d=>d
noncomputable def byF:D→D
 | .list [_,b]=>(bcall [] (.type "bytes") [b]).getD .none
 | d=>d
noncomputable def qE (e:Ent):Prop:=(∀ x∈e.2,x < 256)∧e.2.length≤1000
theorem aDu {e:Ent} (h:qE e):byF (entD e)=.bytes e.2:=by
 show (bcall [] (.type "bytes") [.list (intsD e.2)]).getD .none=_
 rw [jY h.1 h.2]; rfl
theorem nQ (es:List Ent) (l:Nat):noCell (due4 es l)=true:=by
 show (true&&(true&&(noCells (es.map fun e=>D.str e.1)&&(noCells (es.map fun e=>D.bytes e.2)&&true))))=true
 rw [hY (fun _=>rfl),hY (fun _=>rfl)]; rfl
section
variable {pl:List (List Ent)} {k:Nat} {st:Store}
theorem wF {h j l:Nat} {u:Vars} (hu:u=[]∨∃ d:D,u=([("row",d)]:Vars)) (h7:pl.length=7) (hb:∀ p,nP pl p≤900) (hE:∀ p i,qE (entAt pl p i)) (H:DueOk pl h j l) {acc:List D} (hacc:noCells acc=true) (hs:acc.length≤900) :
  exs (ops (GT k) 23) (cxOf 37) (Vz pl (st.length+0) (Thk h j l u)) (loopAt 37 5).2 (st++[acc,[.cell 0]])=some (.next,Vz pl (st.length+0) (Thk h j l ([("row",.list ((rowE pl h j l).map entD))]:Vars)),st++[acc++[due4 (rowE pl h j l) l],[.cell 0]]):=by
 have hhpl:h < pl.length:=aHr (Nat.lt_of_le_of_lt (Nat.zero_le _) H.first)
 have hmem:∀ e∈rowE pl h j l,qE e:=fun e he=>by
  rcases List.mem_cons.mp he with rfl | he
  ·exact hE _ _
  ·obtain⟨i,_,rfl⟩:=List.mem_map.mp he
   exact hE _ _
 have hlen:(rowE pl h j l).length≤6:=by
  show (List.map _ _).length+1≤6
  rw [List.length_map,List.length_range]
  exact Nat.succ_le_succ (Nat.le_trans (Nat.sub_le _ _) H.l5)
 have hrow:[entD (entAt pl h (nP pl (h - 1)+j))]++((List.range (l - h)).map fun i=>entD (entAt pl (h+1+i) (sumB pl h (h+1+i)+j)))=(rowE pl h j l).map entD:=by
  unfold rowE
  rw [List.map_cons,List.map_map]; rfl
 have e0:(ops (GT k) 23).ex (cxOf 37) (Vz pl (st.length+0) (Thk h j l u)) ((loopAt 37 5).2.getD 0 (.Pass ⟨0,0,0,0⟩)) (st++[acc,[.cell 0]])=some (.next,Vz pl (st.length+0) (Thk h j l ([("row",.list ((rowE pl h j l).map entD))]:Vars)),st++[acc,[.cell 0]]):=by
  refine aC (n:=22) (d:=.list ((rowE pl h j l).map entD)) rfl (aD (n:=21) (a:=.list [entD (entAt pl h (nP pl (h - 1)+j))]) (bX (aA rfl (ev_idx (st':=st++[acc,[.cell 0]]) (d:=cA (pl.getD h [])) (j:=.int (nP pl (h - 1)+j:Nat)) rfl (ev_idx (d:=.list (pl.map cA)) (j:=.int (h:Nat)) rfl rfl rfl (tU [] hhpl (by rw [h7]; decide))) (aD (st':=st++[acc,[.cell 0]]) (a:=.int (nP pl (h - 1):Nat)) (b:=.int (j:Nat)) (ev_idx (st':=st++[acc,[.cell 0]]) (d:=.list (intsD (sz pl))) (j:=.int (h - 1:Nat)) rfl rfl (aD (st':=st++[acc,[.cell 0]]) (a:=.int (h:Nat)) (b:=.int 1) rfl rfl (pH H.h1)) (oU h7 (by rw [h7] at hhpl; exact Nat.lt_of_le_of_lt (Nat.sub_le _ _) hhpl))) rfl add_nat) (idx_ent H.first (Nat.le_trans (hb _) (by decide)))) rfl) (by
   show ((true&&(noCells (intsD (entAt pl h (nP pl (h - 1)+j)).2)&&true))&&true&&true)=true
   rw [bU]; rfl)) (aMv hu h7 hb H) ?_) ?_
  ·rw [← hrow]
   refine kR ?_
   rw [List.length_map,List.length_range]
   exact Nat.le_trans (Nat.add_le_add_left (Nat.le_trans (Nat.sub_le _ _) H.l5) 1) (by decide)
  ·rcases hu with rfl | ⟨_,rfl⟩ <;> rfl
 have hlk:look (st++[acc,[.cell 0]]) (st.length+0)=some acc:=fL rfl hacc
 have happ:=dJ hlk (nQ (rowE pl h j l) l) (Nat.le_trans hs (by decide))
 rw [lU] at happ
 have c1:((rowE pl h j l).map entD).map wrF=(rowE pl h j l).map fun e=>D.str e.1:=by rw [List.map_map]; rfl
 have c2:((rowE pl h j l).map entD).map byF=(rowE pl h j l).map fun e=>D.bytes e.2:=by rw [List.map_map]; exact List.map_congr_left fun e he=>aDu (hmem e he)
 refine exs_one e0 (exs_one (cY (n:=22) (d:=.none) rfl (ev_meth (st':=st++[acc,[.cell 0]]) (st₂:=st++[acc,[.cell 0]]) (d:=.cell (st.length+0)) (ds:=[due4 (rowE pl h j l) l]) rfl rfl rfl (vC hlk) (aA rfl (bX (ds:=[.int (l:Nat),.int ((rowE pl h j l).length:Nat),.list ((rowE pl h j l).map fun e=>.str e.1),.list ((rowE pl h j l).map fun e=>.bytes e.2)]) (aA rfl rfl (aA rfl (ev_blt (fd:=.builtin "len") (ds:=[.list ((rowE pl h j l).map entD)]) rfl (aB rfl rfl rfl) (aA rfl rfl rfl) rfl ?_) (aA (st':=st++[acc,[.cell 0]]) rfl ?_ (aA (st':=st++[acc,[.cell 0]]) rfl ?_ rfl)))) ?_) rfl) happ)) rfl)
 ·rw [len_list (by rw [List.length_map]; exact Nat.le_trans hlen (by decide)),List.length_map]
 ·rw [← c1]
  refine bR (n:=18) (src:=.list ((rowE pl h j l).map entD)) (ds:=(rowE pl h j l).map entD) wrV wrF [] rfl rfl rfl rfl (fun d hd v hv L=>?_) rfl (fun d hd=>?_) (by rw [List.length_map]; exact Nat.le_trans hlen (by decide))
  ·obtain⟨e,_,rfl⟩:=List.mem_map.mp hd
   rcases hv with rfl | ⟨d',hd',rfl⟩
   ·rfl
   ·obtain⟨e',_,rfl⟩:=List.mem_map.mp hd'
    rfl
  ·obtain⟨e,_,rfl⟩:=List.mem_map.mp hd
   exact⟨rfl,fun L=>rfl⟩
 ·rw [← c2]
  refine bR (n:=18) (src:=.list ((rowE pl h j l).map entD)) (ds:=(rowE pl h j l).map entD) wrV byF [] rfl rfl rfl rfl (fun d hd v hv L=>?_) rfl (fun d hd=>?_) (by rw [List.length_map]; exact Nat.le_trans hlen (by decide))
  ·obtain⟨e,_,rfl⟩:=List.mem_map.mp hd
   rcases hv with rfl | ⟨d',hd',rfl⟩
   ·rfl
   ·obtain⟨e',_,rfl⟩:=List.mem_map.mp hd'
    rfl
  ·obtain⟨e,he,rfl⟩:=List.mem_map.mp hd
   rw [aDu (hmem e he)]
   exact⟨rfl,fun L=>ev_blt (fd:=.type "bytes") (ds:=[.list (intsD e.2)]) rfl (aB rfl rfl rfl) (aA rfl rfl rfl) rfl (jY (hmem e he).1 (hmem e he).2)⟩
 ·have:=nQ (rowE pl h j l) l
  show (noCell (due4 (rowE pl h j l) l)&&true)=true
  rw [this]; rfl
end
end Mine
end
section -- R46
open PySem
namespace Mine
section
variable {G:Gx} {o:Ops} {cx:Cx} {vars vars' vars₂:Vars} {st st' st₂:Store} {R:Option (FD×Vars×Store)} {t:Expr} {b:List Stmt} {kh:Nat}
theorem xB {x y:D} {xs ys:List D} (hh:sP st kh=true) (h1:o.asg cx vars t (.tuple [x,y]) st=some (vars',st')) (h2:exs o cx vars' b st'=some (.next,vars₂,st₂)) (h3:zipGo o cx t b kh xs ys vars₂ st₂=R):zipGo o cx t b kh (x::xs) (y::ys) vars st=R:=by
 unfold zipGo
 rw [if_pos hh]
 exact bI h1 (bI h2 h3)
theorem aTj {n:Nat} {it:Expr} {p zp:Pos} {z:Str} {a c:Expr} {x y:List D} (hc:wW it=some (z,zp,a,c)) (h1:(ops G n).ev cx vars (.Name z zp) st=some (.type "zip",st)) (h2:evs (ops G n) cx vars [a,c] st=some ([.list x,.list y],st')) (ht:aBv t=true) (hl:x.length≤y.length)
  (h3:zipGo (ops G n) cx t b st'.length x y vars (st'++[[.cell 0]])=R):(ops G (n+1)).ex cx vars (.For t it b [] p) st=R:=by
 show hM (ops G n) cx vars t it b st=R
 unfold hM
 rw [hc]
 show ((ops G n).ev cx vars (.Name z zp) st).bind _=_
 rw [h1]
 show (evs (ops G n) cx vars [a,c] st).bind _=_
 rw [h2]
 show (if (aBv t&&decide (x.length≤y.length))=true then zipGo (ops G n) cx t b st'.length x y vars (st'++[[.cell 0]]) else none)=_
 rw [ht,decide_eq_true hl]
 exact h3
end
noncomputable def dueX (pl:List (List Ent)) (x:(Nat×Nat)×Nat):D:=due4 (rowE pl x.1.1 x.1.2 x.2) x.2
section
variable {pl:List (List Ent)} {k:Nat} {st:Store}
theorem aOk (h7:pl.length=7) (hb:∀ p,nP pl p≤900) (hE:∀ p i,qE (entAt pl p i)):∀ (hs:List (Nat×Nat)) (ls:List Nat) (acc:List D) (t:Vars),hs.length≤ls.length→(∀ x∈hs.zip ls,DueOk pl x.1.1 x.1.2 x.2)→noCells acc=true→acc.length+hs.length≤900→Tz t →
  ∃ t',Tz t'∧zipGo (ops (GT k) 23) (cxOf 37) (tgtAt 37 5) (loopAt 37 5).2 (st.length+1) (hs.map headD) (intsD ls) (Vz pl (st.length+0) t) (st++[acc,[.cell 0]])=some (.next,Vz pl (st.length+0) t',st++[acc++(hs.zip ls).map (dueX pl),[.cell 0]]):=by
 intro hs
 induction hs with
 | nil=>intro ls acc t _ _ _ _ ht; exact⟨t,ht,by rw [List.zip_nil_left,List.map_nil,List.map_nil,List.append_nil]; unfold zipGo; cases ls <;> rfl⟩
 | cons x hs ih =>
  intro ls acc t hl hD hacc hle ht
  induction ls using List.casesOn with
  | nil=>exact absurd hl (Nat.not_succ_le_zero _)
  | cons l ls =>
   rw [List.length_cons] at hle
   obtain⟨h,j⟩:=x
   have H:DueOk pl h j l:=hD ((h,j),l) List.mem_cons_self
   have hh:sP (st++[acc,[.cell 0]]) (st.length+1)=true:=by
    unfold sP
    rw [List.getElem?_append_right (Nat.le_add_right _ _),Nat.add_sub_cancel_left]; rfl
   obtain⟨t',ht',w⟩:=ih ls (acc++[due4 (rowE pl h j l) l]) (Thk h j l ([("row",.list ((rowE pl h j l).map entD))]:Vars)) (Nat.le_of_succ_le_succ hl) (fun x hx=>hD x (List.mem_cons_of_mem _ hx)) (by rw [eG,hacc,fU (nQ _ _)]; rfl) (by rw [List.length_append]; show acc.length+1+hs.length≤900; lia) (.inr ⟨_,_,_,_,rfl⟩)
   rw [List.append_assoc] at w
   rcases ht with rfl | ⟨_,_,_,d,rfl⟩
   ·exact⟨t',ht',xB hh (vars':=Vz pl (st.length+0) (Thk h j l [])) rfl (wF (.inl rfl) h7 hb hE H hacc (Nat.le_trans (Nat.le_add_right _ _) hle)) w⟩
   ·exact⟨t',ht',xB hh (vars':=Vz pl (st.length+0) (Thk h j l ([("row",d)]:Vars))) rfl (wF (.inr ⟨_,rfl⟩) h7 hb hE H hacc (Nat.le_trans (Nat.le_add_right _ _) hle)) w⟩
noncomputable def row4 (dec:List Nat→List Nat) (r:Row):D:=.list [.int r.q,.int (r.n:Nat),.list (r.ws.map .str),.list (r.ws.map fun w=>.bytes (dec w))]
noncomputable def row3 (dec:List Nat→List Nat) (r:Row):D:=.list [.int r.q,.int (r.n:Nat),.list (r.ws.map fun w=>.bytes (dec w))]
noncomputable def f43:D→D
 | .list [a,b,_,d]=>.list [a,b,d]
 | d=>d
noncomputable def v43:D→Vars
 | .list [a,b,c,d]=>([("last",a),("many",b),("texts",c),("octets",d)]:Vars)
 | _=>[]
theorem kW (dec:List Nat→List Nat) (r:Row):noCell (row3 dec r)=true:=by
 show (true&&(true&&(noCells (r.ws.map fun w=>D.bytes (dec w))&&true)))=true
 rw [hY (fun _=>rfl)]; rfl
theorem aOb {st:Store} {c:Nat} {l s:List D} (h:look st c=some l) (h1:l.length < 64) (h2:fM l=true) (h3:dG l=some s):bcall st (.builtin "sorted") [.cell c]=some (.list s):=by
 show (look st c).bind (fun l=>if (decide (l.length < 64)&&fM l)=true then (dG l).map D.list else none)=_
 rw [h]
 show (if (decide (l.length < 64)&&fM l)=true then (dG l).map D.list else none)=_
 rw [h2,h3,decide_eq_true h1]; rfl
theorem aSw (h7:pl.length=7) (hb:∀ p,nP pl p≤900) (hE:∀ p i,qE (entAt pl p i)) (hP:∀ P∈pl,P.length≤900) (hh:(cS pl).length≤60) (hll:(cT pl).length≤900) (hhl:(cS pl).length≤(cT pl).length) (hD:∀ x∈(cS pl).zip (cT pl),DueOk pl x.1.1 x.1.2 x.2)
  {dec:List Nat→List Nat} {ts:List Row} (ho:fM (((cS pl).zip (cT pl)).map (dueX pl))=true) (hs:dG (((cS pl).zip (cT pl)).map (dueX pl))=some (ts.map (row4 dec))) (hts:ts.length≤900) :
  (GT (k+1)).fn 231 [.list (pl.map cA)] [] st=some (.ret (.list (ts.map (row3 dec))),st):=by
 have hb2:∀ p,bb pl p≤900:=fun p=>by
  unfold bb
  split
  ·exact Nat.zero_le _
  ·exact Nat.le_trans (Nat.sub_le _ _) (hb p)
 obtain⟨t',ht',w⟩:=aOk (k:=k) (st:=st) h7 hb hE (cS pl) (cT pl) [] [] hhl hD rfl (by rw [List.length_nil]; lia) (.inl rfl)
 rw [List.nil_append] at w
 generalize hL:((cS pl).zip (cT pl)).map (dueX pl)=L at w ho hs
 have hLl:L.length < 64:=by
  rw [← hL,List.length_map,List.length_zip]
  exact Nat.lt_of_le_of_lt (Nat.min_le_left _ _) (Nat.lt_of_le_of_lt hh (by decide))
 have hLn:noCells L=true:=by rw [← hL]; exact hY (fun _=>nQ _ _) _
 have e:(ts.map (row4 dec)).map f43=ts.map (row3 dec):=by rw [List.map_map]; rfl
 have hret:(ops (GT k) 23).ev (cxOf 37) (Vz pl (st.length+0) t') (rhs 37 6) (st++[L,[.cell 0]])=some (.list (ts.map (row3 dec)),st++[L,[.cell 0]]):=by
  rw [← e]
  refine bR (n:=21) (src:=.list (ts.map (row4 dec))) (ds:=ts.map (row4 dec)) v43 f43 [] ?_ (ev_blt (st':=st++[L,[.cell 0]]) (fd:=.builtin "sorted") (ds:=[.cell (st.length+0)]) rfl (aB rfl rfl rfl) (aA rfl rfl rfl) rfl (aOb (fL rfl hLn) hLl ho hs)) rfl ?_ (fun d hd v hv L=>?_) rfl (fun d hd=>?_) (by rw [List.length_map]; exact hts)
  ·rcases ht' with rfl | ⟨_,_,_,_,rfl⟩ <;> rfl
  ·rcases ht' with rfl | ⟨_,_,_,_,rfl⟩ <;> rfl
  ·obtain⟨r,_,rfl⟩:=List.mem_map.mp hd
   rcases hv with rfl | ⟨d',hd',rfl⟩
   ·rfl
   ·obtain⟨r',_,rfl⟩:=List.mem_map.mp hd'
    rfl
  ·obtain⟨r,_,rfl⟩:=List.mem_map.mp hd
   exact⟨kW dec r,fun L=>bX rfl (by
    have:=kW dec r
    show (noCell (row3 dec r)&&true)=true
    rw [this]; rfl)⟩
 have hfor:(ops (GT k) 24).ex (cxOf 37) (Vz pl (st.length+0) []) ((fBody (fnAt 37)).getD 5 (.Pass ⟨0,0,0,0⟩)) (st++[[]])=some (.next,Vz pl (st.length+0) t',st++[L,[.cell 0]]):=by
  refine aTj (n:=23) (st':=st++[[]]) (x:=(cS pl).map headD) (y:=intsD (cT pl)) rfl (aB rfl rfl rfl) rfl rfl (by rw [List.length_map,dK]; exact hhl) ?_
  have el:(st++[[]]:Store).length=st.length+1:=List.length_append
  rw [el,List.append_assoc]
  exact w
 have h:exs (ops (GT k) 24) (cxOf 37) ([("piles",.list (pl.map cA))]:Vars) (fBody (fnAt 37)) st=some (FD.ret (.list (ts.map (row3 dec))),Vz pl (st.length+0) t',st++[L,[.cell 0]]) :=
  exs_one (due0 h7 hP) (exs_one (due1 h7) (exs_one (due2 hb2 (Nat.le_trans hh (by decide))) (exs_one (due3 h7 hb hll) (exs_one (aC (n:=23) (st':=st++[[]]) (d:=.cell (st.length+0)) rfl rfl rfl) (exs_one hfor (aE (aP hret)))))))
 have hnc:noCell (.list (ts.map (row3 dec)))=true:=hY (kW dec) ts
 have hand:aL st.length (st++[L,[.cell 0]]) (.list (ts.map (row3 dec)))=some (.list (ts.map (row3 dec)),st):=by
  show (if noCell (.list (ts.map (row3 dec))) then some (D.list (ts.map (row3 dec)),(st++[L,[.cell 0]]).take st.length) else none)=_
  rw [if_pos hnc,List.take_append_of_le_length (Nat.le_refl _),List.take_length]
 exact bK rfl rfl (aK h hand)
end
end Mine
end
section -- M15
open PySem
namespace Mine
section
variable (pl:List (List Ent))
noncomputable def txt (p:Nat):List (List Nat):=(pl.getD p []).map Prod.fst
noncomputable def ids:Nat→List (Nat×Nat)
 | 0=>[]
 | p+1=>(List.range (bb pl (p+1))).map (fun i=>(p+1,i))++(ids p).take (nP pl (p+1))
noncomputable def ends:Nat→List ((Nat×Nat)×Nat)
 | 0=>[]
 | p+1=>ends p++((ids pl p).drop (nP pl (p+1))).reverse.map fun x=>(x,p)
noncomputable def rowOf (x:(Nat×Nat)×Nat):Row:=⟨(x.2:Nat),(rowE pl x.1.1 x.1.2 x.2).length,(rowE pl x.1.1 x.1.2 x.2).map Prod.fst⟩
end
section
variable {pl:List (List Ent)}
theorem iF (p:Nat):(txt pl p).length=nP pl p:=List.length_map _
theorem aNk {p i:Nat} (h:i < nP pl p):(txt pl p)[i]? = some (entAt pl p i).1:=by
 unfold txt entAt
 rw [List.getElem?_map,List.getD_eq_getElem?_getD (i:=i),List.getElem?_eq_getElem (show i < (pl.getD p []).length from h)]; rfl
theorem aGq (h:Nat):sumB pl h (h+1)=0:=by unfold sumB; rw [Nat.sub_self]; rfl
theorem aEu {h p:Nat} (h1:h < p) (h2:p < 7):sumB pl h (p+1)=sumB pl h p+bb pl p:=by
 unfold sumB
 have e:p+1 - (h+1)=(p - (h+1))+1:=by lia
 have e2:h+1+(p - (h+1))=p:=by omega
 have e3:((bg pl).drop (h+1))[p - (h+1)]? = some (bb pl p):=by
  rw [List.getElem?_drop,e2]
  unfold bg
  rw [List.getElem?_map,List.getElem?_range h2]; rfl
 rw [e,List.take_add_one,e3,List.sum_append]
 rfl
theorem aCf (p:Nat):bb pl (p+1)=nP pl (p+1) - nP pl p:=by
 unfold bb
 rw [if_neg (Nat.succ_ne_zero p),Nat.add_sub_cancel]
theorem tJ (h0:nP pl 0=0):∀ p,(ids pl p).length=nP pl p
 | 0=>h0.symm
 | p+1=>by
  show ((List.range (bb pl (p+1))).map (fun i=>(p+1,i))++(ids pl p).take (nP pl (p+1))).length=_
  rw [List.length_append,List.length_map,List.length_range,List.length_take,tJ h0 p,aCf]
  simp
set_option genInjectivity false in
structure IdOk (pl:List (List Ent)) (p i:Nat) (x:Nat×Nat):Prop where
 h1:1≤x.1
 hp:x.1≤p
 hk:x.2 < bb pl x.1
 at':i=sumB pl x.1 (p+1)+x.2
 more:∀ p',x.1 < p'→p'≤p→sumB pl x.1 p'+x.2 < nP pl p'
theorem aAm (h0:nP pl 0=0):∀ p,p≤6→∀ i x,(ids pl p)[i]? = some x→IdOk pl p i x
 | 0,_,i,x,h=>nomatch h
 | p+1,hp,i,x,h=>by
  have hl:((List.range (bb pl (p+1))).map (fun i=>(p+1,i))).length=bb pl (p+1):=by rw [List.length_map,List.length_range]
  by_cases hi:i < bb pl (p+1)
  ·have h:((List.range (bb pl (p+1))).map (fun i=>(p+1,i))++(ids pl p).take (nP pl (p+1)))[i]? = some x:=h
   rw [List.getElem?_append_left (by rw [hl]; exact hi),List.getElem?_map,List.getElem?_range hi] at h
   cases h
   exact⟨Nat.succ_pos p,Nat.le_refl _,hi,by rw [aGq,Nat.zero_add],fun p' a b=>absurd a (Nat.not_lt.mpr b)⟩
  ·have h:((List.range (bb pl (p+1))).map (fun i=>(p+1,i))++(ids pl p).take (nP pl (p+1)))[i]? = some x:=h
   rw [List.getElem?_append_right (by rw [hl]; exact Nat.not_lt.mp hi),hl] at h
   have hj:i - bb pl (p+1) < nP pl (p+1):=by
    have:=(List.getElem?_eq_some_iff.mp h).1
    rw [List.length_take] at this
    exact Nat.lt_of_lt_of_le this (Nat.min_le_left _ _)
   rw [List.getElem?_take_of_lt hj] at h
   have r:=aAm h0 p (Nat.le_of_succ_le hp) _ x h
   refine⟨r.h1,Nat.le_succ_of_le r.hp,r.hk,?_,fun p' a b=>?_⟩
   ·have:=aEu (pl:=pl) (p:=p+1) (Nat.lt_succ_of_le r.hp) (Nat.lt_succ_of_le hp)
    have:=r.at'
    omega
   ·by_cases e:p'=p+1
    ·subst e
     rw [← r.at']
     exact hj
    ·exact r.more p' a (by lia)
theorem aFl {h k p:Nat} (hp:h≤p):rowE pl h k (p+1)=rowE pl h k p++[entAt pl (p+1) (sumB pl h (p+1)+k)]:=by
 have e:h+1+(p - h)=p+1:=by lia
 unfold rowE
 rw [show p+1 - h=(p - h)+1 from by lia,List.range_succ,List.map_append,List.map_cons,e]; rfl
end
end Mine
end
section -- M16
open PySem
namespace Mine
theorem zip_map {α:Type} {F:Row→List Nat→Row} {f g:α→Row}:∀ (l:List α) (ws:List (List Nat)),(∀ (i:Nat) (x:α) (w:List Nat),l[i]? = some x→ws[i]? = some w→F (f x) w=g x)→List.zipWith F (l.map f) ws=(l.take ws.length).map g:=by
 intro l
 induction l with
 | nil=>intro ws _; rw [List.map_nil,List.zipWith_nil_left,List.take_nil]; rfl
 | cons x l ih =>
  intro ws h
  induction ws using List.casesOn with
  | nil=>rw [List.zipWith_nil_right]; rfl
  | cons w ws =>
   show F (f x) w::List.zipWith F (l.map f) ws=g x::(l.take ws.length).map g
   rw [h 0 x w rfl rfl,ih ws fun i=>h (i+1)]
theorem aAo (l:List (List Nat)) (n:Nat) (f:List Nat→Row) (g:Nat→Row) (h:∀ i w,l[n+i]? = some w→f w=g i):(l.drop n).map f=(List.range (l.length - n)).map g:=by
 refine List.ext_getElem? fun i=>?_
 rw [List.getElem?_map,List.getElem?_map,List.getElem?_drop]
 by_cases hi:i < l.length - n
 ·rw [List.getElem?_range hi]
  have hn:n+i < l.length:=by omega
  rw [List.getElem?_eq_getElem hn]
  exact congrArg some (h i _ (List.getElem?_eq_getElem hn))
 ·rw [List.getElem?_eq_none (show l.length≤n+i by omega),List.getElem?_eq_none (by rw [List.length_range]; exact Nat.not_lt.mp hi)]; rfl
theorem sO {α:Type} (f:Nat→α):∀ n,((List.range n).map f).reverse=(List.range n).map fun i=>f (n - 1 - i)
 | 0=>rfl
 | n+1=>by
  have h:(List.range (n+1)).map (fun i=>f (n+1 - 1 - i))=f n::(List.range n).map fun i=>f (n - 1 - i):=by
   rw [List.range_succ_eq_map,List.map_cons,List.map_map]
   refine congrArg _ (List.map_congr_left fun i _=>?_)
   show f (n+1 - 1 - (i+1))=f (n - 1 - i)
   rw [Nat.add_sub_cancel,Nat.sub_sub,Nat.add_comm 1]
  rw [h,List.range_succ,List.map_append,List.reverse_append,sO f n]; rfl
section
variable {pl:List (List Ent)} (h0:nP pl 0=0)
include h0
theorem xX:∀ p,p≤6→rowsAt 0 (txt pl) p=(ids pl p).map fun x=>rowOf pl (x,p)
 | 0,_=>rfl
 | p+1,hp=>by
  have hp':p≤6:=Nat.le_of_succ_le hp
  have e0:(0:Int)+(p+1:Nat)=(p+1:Nat):=Int.zero_add _
  show ((txt pl (p+1)).drop (rowsAt 0 (txt pl) p).length).map (newR (0+(p+1:Nat)))++List.zipWith (extR (0+(p+1:Nat))) (rowsAt 0 (txt pl) p) (txt pl (p+1))=((List.range (bb pl (p+1))).map (fun i=>(p+1,i))++(ids pl p).take (nP pl (p+1))).map _
  rw [e0,xX p hp',List.length_map,tJ h0,List.map_append,List.map_map,← iF (p+1)]
  refine congr (congrArg _ ?_) ?_
  ·rw [aAo (txt pl (p+1)) (nP pl p) (newR (p+1:Nat)) (fun i=>rowOf pl ((p+1,i),p+1)) fun i w hw=>?_,iF,← aCf]
   ·rfl
   ·have hi:nP pl p+i < nP pl (p+1):=by rw [← iF (p+1)]; exact (List.getElem?_eq_some_iff.mp hw).1
    rw [aNk hi] at hw
    cases hw
    unfold rowOf rowE
    rw [Nat.sub_self]; rfl
  ·refine zip_map (ids pl p) (txt pl (p+1)) fun i x w hx hw=>?_
   have r:=aAm h0 p hp' i x hx
   have hi:i < nP pl (p+1):=by rw [← iF (p+1)]; exact (List.getElem?_eq_some_iff.mp hw).1
   rw [aNk hi] at hw
   cases hw
   unfold rowOf extR
   show Row.mk _ _ _=Row.mk _ (rowE pl x.1 x.2 (p+1)).length ((rowE pl x.1 x.2 (p+1)).map Prod.fst)
   rw [aFl r.hp,List.length_append,List.map_append,← r.at']; rfl
theorem mL:∀ p,p≤7→(gone 0 (txt pl) p).Perm ((ends pl p).map (rowOf pl))
 | 0,_=>List.Perm.refl _
 | p+1,hp=>by
  show (gone 0 (txt pl) p++(rowsAt 0 (txt pl) p).drop (txt pl (p+1)).length).Perm ((ends pl p++((ids pl p).drop (nP pl (p+1))).reverse.map fun x=>(x,p)).map (rowOf pl))
  rw [xX h0 p (Nat.le_of_succ_le_succ hp),iF,List.map_append,List.map_map,← List.map_drop]
  exact (mL p (Nat.le_of_succ_le hp)).append ((List.reverse_perm _).symm.map _)
theorem yP:∀ p,((List.range p).flatMap fun j=>(List.range (bb pl (j+1))).map fun i=>(j+1,bb pl (j+1) - 1 - i))=(ends pl p).map Prod.fst++(ids pl p).reverse
 | 0=>rfl
 | p+1=>by
  rw [List.range_succ,List.flatMap_append,List.flatMap_cons,List.flatMap_nil,List.append_nil,yP p]
  show _=(ends pl p++((ids pl p).drop (nP pl (p+1))).reverse.map fun x=>(x,p)).map Prod.fst++((List.range (bb pl (p+1))).map (fun i=>(p+1,i))++(ids pl p).take (nP pl (p+1))).reverse
  rw [List.reverse_append,sO,List.map_append,List.map_map,List.append_assoc,List.append_assoc]
  refine congrArg _ ?_
  rw [← List.append_assoc]
  refine congrArg (·++_) ?_
  have e:(((ids pl p).drop (nP pl (p+1))).reverse.map (Prod.fst ∘ fun x=>(x,p)))=((ids pl p).drop (nP pl (p+1))).reverse:=List.map_id _
  rw [e,← List.reverse_append,List.take_append_drop]
theorem vV:∀ p,((List.range p).flatMap fun j=>(List.range (nP pl (j+1) - nP pl (j+2))).map fun _=>j+1)=(ends pl (p+1)).map Prod.snd
 | 0=>by
  show []=((([]:List (Nat×Nat)).drop (nP pl 1)).reverse.map fun x=>(x,0)).map Prod.snd
  rw [List.drop_nil]; rfl
 | p+1=>by
  rw [List.range_succ,List.flatMap_append,List.flatMap_cons,List.flatMap_nil,List.append_nil,vV p]
  show _=(ends pl (p+1)++((ids pl (p+1)).drop (nP pl (p+2))).reverse.map fun x=>(x,p+1)).map Prod.snd
  rw [List.map_append,List.map_map]
  refine congrArg _ ?_
  show _=((ids pl (p+1)).drop (nP pl (p+2))).reverse.map fun _=>p+1
  rw [List.map_const',List.map_const',List.length_range,List.length_reverse,List.length_drop,tJ h0]
theorem aMr (h6:nP pl 6=0):cS pl=(ends pl 6).map Prod.fst∧cT pl=(ends pl 6).map Prod.snd:=by
 refine⟨?_,vV h0 5⟩
 show ((List.range 5).flatMap fun j=>_)=(ends pl 5++((ids pl 5).drop (nP pl 6)).reverse.map fun x=>(x,5)).map Prod.fst
 rw [yP h0 5,List.map_append,List.map_map,h6,List.drop_zero]
 exact congrArg _ (List.map_id _).symm
theorem aCt:∀ p,p≤6→∀ x∈ends pl p,DueOk pl x.1.1 x.1.2 x.2
 | 0,_,x,h=>nomatch h
 | p+1,hp,x,h=>by
  rcases List.mem_append.mp h with h | h
  ·exact aCt p (Nat.le_of_succ_le hp) x h
  ·obtain⟨y,hy,rfl⟩:=List.mem_map.mp h
   have hy:=List.mem_of_mem_drop (List.mem_reverse.mp hy)
   obtain⟨i,hi⟩:=List.getElem?_of_mem hy
   have r:=aAm h0 p (Nat.le_of_succ_le hp) i y hi
   refine⟨r.h1,r.hp,Nat.le_of_succ_le_succ hp,?_,fun j hj=>r.more _ (Nat.lt_of_lt_of_le (Nat.lt_succ_self _) (Nat.le_add_right _ _)) (by
    have hj:j < p - y.1:=hj
    show y.1+1+j≤p
    omega)⟩
   have hk:=r.hk
   have h1:=r.h1
   unfold bb at hk
   rw [if_neg (Nat.ne_of_gt h1)] at hk
   show nP pl (y.1 - 1)+y.2 < nP pl y.1
   omega
end
end Mine
end
section -- M10
open PySem
namespace Mine
noncomputable def pcs:List Nat→List Nat
 | a::b::c::r=>a / 4::(a % 4 * 16+b / 16)::(b % 16 * 4+c / 64)::c % 64::pcs r
 | [a,b]=>[a / 4,a % 4 * 16+b / 16,b % 16 * 4]
 | [a]=>[a / 4,a % 4 * 16]
 | []=>[]
noncomputable def valH (N:Nat) (vs:List Nat):Nat:=vs.foldl (fun a v=>a * 64+v) N
theorem aIl:∀ (vs:List Nat) (N:Nat),(∀ v∈vs,v < 64)→valH N vs / 64 ^ vs.length=N:=by
 intro vs
 induction vs with
 | nil=>intro N _; exact Nat.div_one N
 | cons v vs ih =>
  intro N h
  show valH (N * 64+v) vs / 64 ^ (vs.length+1)=N
  rw [Nat.pow_succ,← Nat.div_div_eq_div_mul,ih _ fun x hx=>h x (List.mem_cons_of_mem _ hx),Nat.add_comm,Nat.add_mul_div_right _ _ (by decide),Nat.div_eq_of_lt (h v List.mem_cons_self),Nat.zero_add]
theorem aOw:∀ (vs:List Nat) (N:Nat),(∀ v∈vs,v < 64)→(List.range vs.length).map (fun j=>valH N vs / 64 ^ (vs.length - 1 - j) % 64)=vs:=by
 intro vs
 induction vs with
 | nil=>intro N _; rfl
 | cons v vs ih =>
  intro N h
  have hr:∀ x∈vs,x < 64:=fun x hx=>h x (List.mem_cons_of_mem _ hx)
  rw [List.length_cons,List.range_succ_eq_map,List.map_cons,List.map_map]
  refine congr (congrArg _ ?_) ((List.map_congr_left fun j _=>?_).trans (ih (N * 64+v) hr))
  ·show valH (N * 64+v) vs / 64 ^ vs.length % 64=v
   rw [aIl vs _ hr,Nat.add_comm,Nat.add_mul_mod_self_right,Nat.mod_eq_of_lt (h v List.mem_cons_self)]
  ·show valH (N * 64+v) vs / 64 ^ (vs.length - (j+1)) % 64=valH (N * 64+v) vs / 64 ^ (vs.length - 1 - j) % 64
   rw [Nat.sub_sub,Nat.add_comm 1]
theorem nY {P:List Nat→Prop} (h0:P []) (h1:∀ a,P [a]) (h2:∀ a b,P [a,b]) (h3:∀ a b c r,P r→P (a::b::c::r)):∀ l,P l
 | []=>h0
 | [a]=>h1 a
 | [a,b]=>h2 a b
 | a::b::c::r=>h3 a b c r (nY h0 h1 h2 h3 r)
noncomputable def padN (bs:List Nat):Nat:=(4 - (pcs bs).length % 4) % 4
theorem aRg (a b c:Nat) (r:List Nat):padN (a::b::c::r)=padN r:=by
 show (4 - ((pcs r).length+4) % 4) % 4=(4 - (pcs r).length % 4) % 4
 rw [Nat.add_mod_right]
theorem sL {a b d e f:Nat} (hd:d * f=256) (he:e * f=64) (e0:0 < e) (hb:b < 256):a % e * f+b / d < 64:=by
 have h1:b / d < f:=Nat.div_lt_of_lt_mul (by rw [hd]; exact hb)
 have h2:=Nat.mul_le_mul_right f (Nat.succ_le_of_lt (Nat.mod_lt a e0))
 rw [Nat.succ_mul,he] at h2
 exact Nat.lt_of_lt_of_le (Nat.add_lt_add_left h1 _) h2
theorem aHm {a b d e f:Nat} (hd:d * f=256) (he:e * f=64) (e0:0 < e) (d0:0 < d) (hb:b < 256):(a * 256+b) / d % 64=a % e * f+b / d:=by
 have h1:a * 256+b=b+(a / e * 64+a % e * f) * d:=by
  have h2:=congrArg (· * 256) (Nat.div_add_mod a e)
  rw [← h2,← hd,← he,Nat.add_comm b,Nat.add_mul,Nat.add_mul,Nat.mul_comm e,Nat.mul_comm d,← Nat.mul_assoc,← Nat.mul_assoc,← Nat.mul_assoc,Nat.mul_assoc (a / e)]
 rw [h1,Nat.add_mul_div_right _ _ d0,Nat.add_comm (b / d),Nat.add_assoc,Nat.mul_comm _ 64,Nat.mul_add_mod,Nat.mod_eq_of_lt (sL hd he e0 hb)]
theorem low8 {X a:Nat} (ha:a < 256):(X * 256+a) % 256=a:=by rw [Nat.mul_comm,Nat.mul_add_mod,Nat.mod_eq_of_lt ha]
theorem s1 {X a:Nat} (ha:a < 256):(X * 256+a) / 2 ^ 2 % 64=a / 4:=by
 have:=aHm (a:=X) (d:=4) (e:=1) (f:=64) rfl rfl (by decide) (by decide) ha
 rw [Nat.mod_one,Nat.zero_mul,Nat.zero_add] at this
 exact this
theorem s2 {a b:Nat} (hb:b < 256):(a * 256+b) / 2 ^ 4 % 64=a % 4 * 16+b / 16:=aHm (d:=16) rfl rfl (by decide) (by decide) hb
theorem s3 {b c:Nat} (hc:c < 256):(b * 256+c) / 2 ^ 6 % 64=b % 16 * 4+c / 64:=aHm (d:=64) rfl rfl (by decide) (by decide) hc
theorem s4 {b c:Nat}:(b * 256+c) / 2 ^ 0 % 64=c % 64:=by rw [Nat.pow_zero,Nat.div_one,show b * 256=64 * (b * 4) from by rw [Nat.mul_comm 64,Nat.mul_assoc],Nat.mul_add_mod]
theorem low {X a k:Nat} (m:Nat) (h:256=m * k):(X * 256+a) % k=a % k:=by rw [h,← Nat.mul_assoc,Nat.mul_comm _ k,Nat.mul_add_mod]
theorem aOr:∀ bs,(∀ b∈bs,b < 256)→∀ m,(encGo bs 0 m).1++encEnd (encGo bs 0 m).2.1 (encGo bs 0 m).2.2=(pcs bs).map b64S++List.replicate (padN bs) 61:=by
 refine nY ?_ ?_ ?_ ?_
 ·intro _ m; rfl
 ·intro a h m
  show [b64S ((m % 256 * 256+a) / 2 ^ 2 % 64),b64S ((m % 256 * 256+a) % 4 * 16),61,61]=[b64S (a / 4),b64S (a % 4 * 16),61,61]
  rw [s1 (h a List.mem_cons_self),low 64 rfl]
 ·intro a b h m
  have ha:=h a List.mem_cons_self
  have hb:=h b (List.mem_cons_of_mem _ List.mem_cons_self)
  show [b64S ((m % 256 * 256+a) / 2 ^ 2 % 64),b64S (((m % 256 * 256+a) % 256 * 256+b) / 2 ^ 4 % 64),b64S (((m % 256 * 256+a) % 256 * 256+b) % 16 * 4),61]=[b64S (a / 4),b64S (a % 4 * 16+b / 16),b64S (b % 16 * 4),61]
  rw [s1 ha,low8 ha,s2 hb,low 16 rfl]
 ·intro a b c r ih h m
  have ha:=h a List.mem_cons_self
  have hb:=h b (List.mem_cons_of_mem _ List.mem_cons_self)
  have hc:=h c (List.mem_cons_of_mem _ (List.mem_cons_of_mem _ List.mem_cons_self))
  have ih:=ih (fun x hx=>h x (List.mem_cons_of_mem _ (List.mem_cons_of_mem _ (List.mem_cons_of_mem _ hx)))) (((m % 256 * 256+a) % 256 * 256+b) % 256 * 256+c)
  rw [aRg]
  have e:(encGo (a::b::c::r) 0 m).1=b64S ((m % 256 * 256+a) / 2 ^ 2 % 64)::b64S (((m % 256 * 256+a) % 256 * 256+b) / 2 ^ 4 % 64)::b64S ((((m % 256 * 256+a) % 256 * 256+b) % 256 * 256+c) / 2 ^ 6 % 64)::b64S ((((m % 256 * 256+a) % 256 * 256+b) % 256 * 256+c) / 2 ^ 0 % 64)::(encGo r 0 (((m % 256 * 256+a) % 256 * 256+b) % 256 * 256+c)).1:=rfl
  rw [e,List.cons_append,List.cons_append,List.cons_append,List.cons_append]
  refine (congr (congrArg _ (congrArg b64S (s1 ha))) (congr (congrArg _ ?_) (congr (congrArg _ ?_) (congr (congrArg _ ?_) ih))):_=b64S (a / 4)::b64S (a % 4 * 16+b / 16)::b64S (b % 16 * 4+c / 64)::b64S (c % 64)::((pcs r).map b64S++List.replicate (padN r) 61))
  ·rw [low8 ha,s2 hb]
  ·rw [low8 hb,s3 hc]
  ·rw [s4]
theorem aVa {y b:Nat} (hb:b < 256):(y * 16+b / 16) / 16=y∧(y * 16+b / 16) % 16=b / 16:=by
 have h:b / 16 < 16:=Nat.div_lt_of_lt_mul hb
 rw [Nat.add_comm]
 exact⟨by rw [Nat.add_mul_div_right _ _ (by decide),Nat.div_eq_of_lt h,Nat.zero_add],by rw [Nat.add_mul_mod_self_right,Nat.mod_eq_of_lt h]⟩
theorem up_4 {y c:Nat} (hc:c < 256):(y * 4+c / 64) / 4=y∧(y * 4+c / 64) % 4=c / 64:=by
 have h:c / 64 < 4:=Nat.div_lt_of_lt_mul hc
 rw [Nat.add_comm]
 exact⟨by rw [Nat.add_mul_div_right _ _ (by decide),Nat.div_eq_of_lt h,Nat.zero_add],by rw [Nat.add_mul_mod_self_right,Nat.mod_eq_of_lt h]⟩
theorem aBc (a k:Nat):a / 2 ^ k * 2 ^ k ||| a % 2 ^ k=a:=by rw [aLe k (Nat.mod_lt _ (Nat.pow_pos (by decide))),Nat.div_add_mod']
theorem q1 {a b:Nat} (hb:b < 256):a2bQ 1 (a / 4) (a % 4 * 16+b / 16)=([a],2,b / 16):=by
 show ([a / 4 * 4 ||| (a % 4 * 16+b / 16) / 16],2,(a % 4 * 16+b / 16) % 16)=([a],2,b / 16)
 obtain⟨e1,e2⟩:=aVa (y:=a % 4) hb
 rw [e1,e2,show a / 4 * 4 ||| a % 4=a from aBc a 2]
theorem q2 {b c:Nat} (hc:c < 256):a2bQ 2 (b / 16) (b % 16 * 4+c / 64)=([b],3,c / 64):=by
 show ([b / 16 * 16 ||| (b % 16 * 4+c / 64) / 4],3,(b % 16 * 4+c / 64) % 4)=([b],3,c / 64)
 obtain⟨e1,e2⟩:=up_4 (y:=b % 16) hc
 rw [e1,e2,show b / 16 * 16 ||| b % 16=b from aBc b 4]
theorem q3 (c:Nat):a2bQ 3 (c / 64) (c % 64)=([c],0,0):=by
 show ([c / 64 * 64 ||| c % 64],0,0)=([c],0,0)
 rw [show c / 64 * 64 ||| c % 64=c from aBc c 6]
theorem eB (v:Nat) (vs:List Nat) (q m:Nat):aS (v::vs) q m=((a2bQ q m v).1++(aS vs (a2bQ q m v).2.1 (a2bQ q m v).2.2).1,(aS vs (a2bQ q m v).2.1 (a2bQ q m v).2.2).2):=rfl
theorem tI (v:Nat) (vs:List Nat) (m:Nat):aS (v::vs) 0 m=aS vs 1 v:=rfl
set_option genInjectivity false in
structure Dec (bs:List Nat) (m:Nat):Prop where
 out:(aS (pcs bs) 0 m).1=bs
 n1:(aS (pcs bs) 0 m).2.1≠1
 pad:(aS (pcs bs) 0 m).2.1=0∨4≤(aS (pcs bs) 0 m).2.1+padN bs
 lt:∀ v∈pcs bs,v < 64
 len:(pcs bs).length≤2 * bs.length
theorem kI:∀ bs,(∀ b∈bs,b < 256)→∀ m,Dec bs m:=by
 have l1:∀ {a:Nat},a < 256→a / 4 < 64:=fun h=>Nat.div_lt_of_lt_mul h
 refine nY ?_ ?_ ?_ ?_
 ·intro _ m; exact⟨rfl,(by decide:0≠1),.inl rfl,fun _ h=>(nomatch h),Nat.le_refl _⟩
 ·intro a h m
  have hd:aS (pcs [a]) 0 m=([a],2,0):=by
   show aS [a / 4,a % 4 * 16+0 / 16] 0 m=_
   rw [tI,eB,q1 (b:=0) (by decide)]; rfl
  refine⟨by rw [hd],by rw [hd]; exact (by decide:2≠1),.inr (by rw [hd]; exact Nat.le_refl 4),fun v hv=>?_,Nat.le_refl _⟩
  rcases List.mem_cons.mp hv with rfl | hv
  ·exact l1 (h a List.mem_cons_self)
  ·rw [List.mem_singleton.mp hv]
   exact Nat.lt_of_le_of_lt (Nat.le_add_right _ (0 / 16)) (sL (a:=a) (b:=0) (d:=16) (e:=4) rfl rfl (by decide) (by decide))
 ·intro a b h m
  have hb:=h b (List.mem_cons_of_mem _ List.mem_cons_self)
  have hd:aS (pcs [a,b]) 0 m=([a,b],3,0):=by
   show aS [a / 4,a % 4 * 16+b / 16,b % 16 * 4+0 / 64] 0 m=_
   rw [tI,eB,q1 hb,eB,q2 (c:=0) (by decide)]; rfl
  refine⟨by rw [hd],by rw [hd]; exact (by decide:3≠1),.inr (by rw [hd]; exact Nat.le_refl 4),fun v hv=>?_,(by decide:3≤4)⟩
  rcases List.mem_cons.mp hv with rfl | hv
  ·exact l1 (h a List.mem_cons_self)
  rcases List.mem_cons.mp hv with rfl | hv
  ·exact sL (d:=16) rfl rfl (by decide) hb
  ·rw [List.mem_singleton.mp hv]
   exact Nat.lt_of_le_of_lt (Nat.le_add_right _ (0 / 64)) (sL (a:=b) (b:=0) (d:=64) (e:=16) rfl rfl (by decide) (by decide))
 ·intro a b c r ih h m
  have hb:=h b (List.mem_cons_of_mem _ List.mem_cons_self)
  have hc:=h c (List.mem_cons_of_mem _ (List.mem_cons_of_mem _ List.mem_cons_self))
  have i:=ih (fun x hx=>h x (List.mem_cons_of_mem _ (List.mem_cons_of_mem _ (List.mem_cons_of_mem _ hx)))) 0
  have hd:aS (pcs (a::b::c::r)) 0 m=(a::b::c::(aS (pcs r) 0 0).1,(aS (pcs r) 0 0).2):=by
   show aS (a / 4::(a % 4 * 16+b / 16)::(b % 16 * 4+c / 64)::c % 64::pcs r) 0 m=_
   rw [tI,eB,q1 hb,eB,q2 hc,eB,q3]; rfl
  refine⟨by rw [hd,i.out],by rw [hd]; exact i.n1,by rw [hd,aRg]; exact i.pad,fun v hv=>?_,?_⟩
  ·rcases List.mem_cons.mp hv with rfl | hv
   ·exact l1 (h a List.mem_cons_self)
   rcases List.mem_cons.mp hv with rfl | hv
   ·exact sL (d:=16) rfl rfl (by decide) hb
   rcases List.mem_cons.mp hv with rfl | hv
   ·exact sL (d:=64) rfl rfl (by decide) hc
   rcases List.mem_cons.mp hv with rfl | hv
   ·exact Nat.mod_lt _ (by decide)
   ·exact i.lt v hv
  ·exact Nat.le_trans (Nat.add_le_add_right i.len 4) (Nat.add_le_add_left (by decide:4≤6) _)
theorem f1 (N a:Nat):N * 256+a=(N * 64+a / 4) * 4+a % 4:=by rw [Nat.add_mul,Nat.mul_assoc,Nat.add_assoc,Nat.div_add_mod']
theorem f23 {x y b p e d:Nat} (h1:p * 256=64 * d) (h2:e * d=256):(x * p+y) * 256+b=(x * 64+(y * e+b / d)) * d+b % d:=by
 rw [Nat.add_mul,Nat.mul_assoc,h1,Nat.add_mul (x * 64),Nat.add_mul (y * e),Nat.mul_assoc x 64,Nat.mul_assoc y,h2,Nat.add_assoc,Nat.add_assoc,Nat.add_assoc,Nat.div_add_mod']
theorem f2 (x y b:Nat):(x * 4+y) * 256+b=(x * 64+(y * 16+b / 16)) * 16+b % 16:=f23 rfl rfl
theorem f3 (x y c:Nat):(x * 16+y) * 256+c=(x * 64+(y * 4+c / 64)) * 64+c % 64:=f23 rfl rfl
noncomputable def shN:List Nat→Nat
 | _::_::_::r=>shN r
 | [_,_]=>2
 | [_]=>4
 | []=>0
theorem aNz:∀ bs N,num N bs * 2 ^ shN bs=valH N (pcs bs):=by
 refine nY ?_ ?_ ?_ ?_
 ·intro N; exact Nat.mul_one N
 ·intro a N
  show (N * 256+a) * 2 ^ 4=(N * 64+a / 4) * 64+a % 4 * 16
  rw [f1,Nat.add_mul,Nat.mul_assoc]
 ·intro a b N
  show ((N * 256+a) * 256+b) * 2 ^ 2=((N * 64+a / 4) * 64+(a % 4 * 16+b / 16)) * 64+b % 16 * 4
  rw [f1 N a,f2,Nat.add_mul,Nat.mul_assoc]
 ·intro a b c r ih N
  have e1:num N (a::b::c::r)=num (((N * 256+a) * 256+b) * 256+c) r:=rfl
  have e2:shN (a::b::c::r)=shN r:=rfl
  have e3:valH N (pcs (a::b::c::r))=valH ((((N * 64+a / 4) * 64+(a % 4 * 16+b / 16)) * 64+(b % 16 * 4+c / 64)) * 64+c % 64) (pcs r):=rfl
  rw [e1,e2,e3,ih,f1 N a,f2,f3]
theorem rO (bs:List Nat) (h4:bs.length≤4) (h0:0 < bs.length):fN bs=valH 0 (pcs bs)∧(pcs bs).length=manyN bs.length:=by
 rw [← aNz]
 match bs,h4,h0 with
 | [a],_,_=>exact⟨by show num 0 [a] * 2 ^ (6 * manyN 1 - 8 * 1)=num 0 [a] * 2 ^ 4; rw [show 6 * manyN 1 - 8 * 1=4 from rfl],by show 2=manyN 1; rfl⟩
 | [a,b],_,_=>exact⟨by show num 0 [a,b] * 2 ^ (6 * manyN 2 - 8 * 2)=num 0 [a,b] * 2 ^ 2; rw [show 6 * manyN 2 - 8 * 2=2 from rfl],by show 3=manyN 2; rfl⟩
 | [a,b,c],_,_=>exact⟨by show num 0 [a,b,c] * 2 ^ (6 * manyN 3 - 8 * 3)=num 0 [a,b,c] * 2 ^ 0; rw [show 6 * manyN 3 - 8 * 3=0 from rfl],by show 4=manyN 3; rfl⟩
 | [a,b,c,d],_,_=>exact⟨by show num 0 [a,b,c,d] * 2 ^ (6 * manyN 4 - 8 * 4)=num 0 [a,b,c,d] * 2 ^ 4; rw [show 6 * manyN 4 - 8 * 4=4 from rfl],by show 6=manyN 4; rfl⟩
end Mine
end
section -- M11
open PySem
namespace Mine
theorem aMw:∀ v,v < 64→(trTable [43,47] [34,32]).getD (b64S v) 0=ownL.getD v 0∧(trTable [34,32] [43,47]).getD (ownL.getD v 0) 0=b64S v∧ownL.getD v 0≠40∧ownL.getD v 0≠41∧ownL.getD v 0 < 128:=by decide +kernel
theorem aKy:(trTable [43,47] [34,32]).getD 61 0=61∧(trTable [34,32] [43,47]).getD 61 0=61:=by decide +kernel
set_option genInjectivity false in
structure OctOk (bs:List Nat):Prop where
 lt:∀ b∈bs,b < 256
 len:bs.length≤4
 pos:0 < bs.length
theorem nU {bs:List Nat} (H:OctOk bs):writ bs=(pcs bs).map (fun v=>ownL.getD v 0)++List.replicate (padN bs) 61:=by
 obtain⟨e1,e2⟩:=rO bs H.len H.pos
 have hv:=(kI bs H.lt 0).lt
 unfold writ padN
 rw [e1,← e2]
 have:((List.range (pcs bs).length).map fun j=>ownL.getD (valH 0 (pcs bs) / 64 ^ ((pcs bs).length - 1 - j) % 64) 0)=(pcs bs).map (fun v=>ownL.getD v 0):=by
  have h:=congrArg (List.map fun v=>ownL.getD v 0) (aOw (pcs bs) 0 hv)
  rw [List.map_map] at h
  exact h
 rw [this]
theorem aNb {t:List Nat} {f g:Nat→Nat} (vs:List Nat) (n:Nat) (h:∀ v∈vs,t.getD (f v) 0=g v) (h61:t.getD 61 0=61):(vs.map f++List.replicate n 61).map (fun c=>t.getD c 0)=vs.map g++List.replicate n 61:=by
 rw [List.map_append,List.map_map,List.map_replicate,h61]
 exact congrArg (·++List.replicate n 61) (List.map_congr_left h)
theorem own_writ {bs:List Nat} (H:OctOk bs):fY (encL bs)=writ bs:=by
 have hv:=(kI bs H.lt 0).lt
 rw [nU H]
 show ((encGo bs 0 0).1++encEnd (encGo bs 0 0).2.1 (encGo bs 0 0).2.2).map _=_
 rw [aOr bs H.lt 0]
 exact aNb (pcs bs) (padN bs) (fun v hm=>(aMw v (hv v hm)).1) aKy.1
theorem aGy {bs:List Nat} (H:OctOk bs):gY (writ bs)=(pcs bs).map b64S++List.replicate (padN bs) 61:=by
 have hv:=(kI bs H.lt 0).lt
 rw [nU H]
 exact aNb (pcs bs) (padN bs) (fun v hm=>(aMw v (hv v hm)).2.1) aKy.2
theorem kN {bs:List Nat} (H:OctOk bs) {x:Nat} (hx:x∈writ bs):x≠40∧x≠41∧x < 128:=by
 have hv:=(kI bs H.lt 0).lt
 rw [nU H] at hx
 rcases List.mem_append.mp hx with hx | hx
 ·obtain⟨v,hm,rfl⟩:=List.mem_map.mp hx
  exact (aMw v (hv v hm)).2.2
 ·rw [List.eq_of_mem_replicate hx]
  decide
theorem aCb {bs:List Nat} (H:OctOk bs):writ bs≠[]:=by
 obtain⟨e1,e2⟩:=rO bs H.len H.pos
 intro e
 rw [nU H] at e
 have h0:=congrArg List.length e
 have h1:=H.pos
 rw [List.length_append,List.length_map,e2,List.length_nil] at h0
 unfold manyN at h0
 lia
noncomputable def decT (w:List Nat):List Nat:=match (GT 3).fn 153 [.str w,.bytes [34,32]] [] [] with
 | some (.ret (.bytes r),_)=>r
 | _=>[]
theorem aDw (k:Nat) {bs:List Nat} (st:Store) (H:OctOk bs):(GT (k+3)).fn 153 [.str (writ bs),.bytes [34,32]] [] st=some (.ret (.bytes bs),st):=by
 obtain⟨d1,d2,d3,d4,d5⟩:=kI bs H.lt 0
 have h:=aKr k (padN bs) (pcs bs) st d4 (Nat.le_trans d5 (Nat.le_trans (Nat.mul_le_mul_left 2 H.len) (by decide))) (by rw [d1]; exact H.lt) (by rw [d1]; exact Nat.le_trans H.len (by decide)) d2 d3
 rw [← aGy H,d1] at h
 exact aMx k (writ bs) bs st (List.all_eq_true.mpr fun x hx=>decide_eq_true (kN H hx).2.2) (Nat.le_trans (pP bs H.len) (by decide)) h
theorem sX {bs:List Nat} (H:OctOk bs):decT (writ bs)=bs:=by
 unfold decT
 rw [aDw 0 [] H]
end Mine
end
section -- M17
open PySem
namespace Mine
theorem vW {f g:D→D→Option Bool} {a a':D} {x y x' y':List D} (h:dltL f g x y=dltL f g x' y'):dltL f g (a::x) (a'::y)=dltL f g (a::x') (a'::y'):=by
 show (f a a').bind (fun e=>if e then dltL f g x y else g a a')=_
 rw [h]; rfl
theorem aQr {f g:D→D→Option Bool} {c d c' d':D} (h:f c c'=some true→f d d'=some true):dltL f g [c,d] [c',d']=dltL f g [c] [c']:=by
 show (f c c').bind (fun e=>if e then (f d d').bind (fun e=>if e then some false else g d d') else g c c')=(f c c').bind fun e=>if e then some false else g c c'
 cases e:f c c' with
 | none=>rfl
 | some t=>induction t with
  | false=>rfl
  | true=>rw [h e]; rfl
section
variable {dec:List Nat→List Nat}
theorem aRh (r s:Row):dlt (row4 dec r) (row4 dec s)=dlt (rowD r) (rowD s):=by
 refine vW (a:=.int r.q) (a':=.int s.q) (vW (a:=.int (r.n:Nat)) (a':=.int (s.n:Nat)) (aQr (f:=deqN 5) (g:=dltN 5) fun h=>?_))
 have g:Good 5 (isL fun _=>isS):=eC (n:=4) fun _=>cV 3
 obtain⟨t,e,q⟩:=g.eq (.list (r.ws.map D.str)) (.list (s.ws.map D.str)) ⟨_,rfl,mK r.ws⟩ ⟨_,rfl,mK s.ws⟩
 rw [e] at h
 have hw:r.ws=s.ws:=yQ (D.list.inj (q.mp (Option.some.inj h)))
 rw [hw]
 have e2:(s.ws.map fun w=>D.bytes (dec w))=(s.ws.map dec).map D.bytes:=by rw [List.map_map]; rfl
 rw [e2]
 exact lR fun w=>tT 3 w
theorem lt_4 (r s:Row):ltD (row4 dec r) (row4 dec s)=ltD (rowD r) (rowD s):=by unfold ltD; rw [aRh]
noncomputable def aQx (dec:List Nat→List Nat) (d:D):Prop:=∃ r,d=row4 dec r
theorem lin4:Lin (aQx dec) where
 cmp:=fun _ _ ⟨r,hr⟩ ⟨s,hs⟩=>by subst hr hs; rw [aRh]; exact cN.cmp _ _ (gA r) (gA s)
 irr:=fun _ ⟨r,hr⟩=>by subst hr; rw [lt_4]; exact cN.irr _ (gA r)
 tr:=fun _ _ _ ⟨r,hr⟩ ⟨s,hs⟩ ⟨t,ht⟩=>by subst hr hs ht; rw [lt_4,lt_4,lt_4]; exact cN.tr _ _ _ (gA r) (gA s) (gA t)
 tri:=fun _ _ ⟨r,hr⟩ ⟨s,hs⟩ h1 h2=>by
  subst hr hs
  rw [lt_4] at h1 h2
  rw [aCl (cN.tri _ _ (gA r) (gA s) h1 h2)]
theorem aGv (r:Row):isLd (row4 dec r)=true∧deqN 6 (row4 dec r) (row4 dec r)=some true :=
 ⟨rfl,eZ (aQ (jC 4 _) (aQ (jC 4 _) (aQ (lR (gX 3)) (aQ (lR fun w=>tT 3 (dec w)) rfl))))⟩
end
section
variable {pl:List (List Ent)} {k:Nat} {st:Store}
theorem aQw (hE:∀ p i,decT (entAt pl p i).1=(entAt pl p i).2) (x:(Nat×Nat)×Nat):dueX pl x=row4 decT (rowOf pl x):=by
 have hm:∀ e∈rowE pl x.1.1 x.1.2 x.2,decT e.1=e.2:=fun e he=>by
  rcases List.mem_cons.mp he with rfl | he
  ·exact hE _ _
  ·obtain⟨i,_,rfl⟩:=List.mem_map.mp he
   exact hE _ _
 unfold dueX due4 row4 rowOf
 dsimp only
 rw [List.map_map,List.map_map]
 have:((rowE pl x.1.1 x.1.2 x.2).map fun e=>D.bytes e.2)=(rowE pl x.1.1 x.1.2 x.2).map ((fun w=>D.bytes (decT w)) ∘ Prod.fst):=List.map_congr_left fun e he=>by show D.bytes e.2=D.bytes (decT e.1); rw [hm e he]
 rw [this]; rfl
theorem aPi (h7:pl.length=7) (h0:nP pl 0=0) (h6:nP pl 6=0) (hsz:∀ p,nP pl p≤30) (hend:(ends pl 6).length≤60) (hE:∀ p i,decT (entAt pl p i).1=(entAt pl p i).2) (hO:∀ p i,qE (entAt pl p i)) (hW:∀ p,(txt pl p).Pairwise leW) (hP:∀ P∈pl,P.length≤900) :
  (GT (k+1)).fn 231 [.list (pl.map cA)] [] st=some (.ret (.list ((gone 0 (txt pl) 6).map (row3 decT))),st):=by
 obtain⟨eh,el⟩:=aMr h0 h6
 have ez:(cS pl).zip (cT pl)=ends pl 6:=(List.zip_of_prod eh.symm el.symm).symm
 have eL:((cS pl).zip (cT pl)).map (dueX pl)=((ends pl 6).map (rowOf pl)).map (row4 decT):=by
  rw [ez,List.map_map]
  exact List.map_congr_left fun x _=>aQw hE x
 have hp:=mL (pl:=pl) h0 6 (by decide)
 have hPm:∀ y∈((ends pl 6).map (rowOf pl)).map (row4 decT),aQx decT y:=fun y hy=>by
  obtain⟨r,_,rfl⟩:=List.mem_map.mp hy
  exact⟨r,rfl⟩
 have hs:aY ((gone 0 (txt pl) 6).map (row4 decT)):=by
  have h:=(eO _).mpr (iJ (b:=0) hW 6).1
  unfold aY rowsD at h
  unfold aY
  rw [List.pairwise_map] at h ⊢
  exact h.imp fun h=>by rw [lt_4]; exact h
 have hlen:(gone 0 (txt pl) 6).length≤60:=by rw [hp.length_eq,List.length_map]; exact hend
 refine aSw h7 (fun p=>Nat.le_trans (hsz p) (by decide)) hO hP (by rw [eh,List.length_map]; exact hend) (by rw [el,List.length_map]; exact Nat.le_trans hend (by decide)) (by rw [eh,el,List.length_map,List.length_map]; exact Nat.le_refl _) (fun x hx=>aCt h0 6 (by decide) x (ez▸hx)) (dec:=decT) ?_ ?_ (Nat.le_trans hlen (by decide))
 ·rw [eL]
  exact wJ lin4 hPm fun y hy=>by
   obtain⟨r,_,rfl⟩:=List.mem_map.mp hy
   exact aGv r
 ·rw [eL]
  exact aKn lin4 (hp.map _) hs hPm
end
end Mine
end
section -- M18
open PySem
namespace Mine
set_option genInjectivity false in
structure PX where
 p:Nat
 m:Nat
 y:Int
 bs:List Nat
set_option genInjectivity false in
structure PXok (z:PX):Prop where
 m16:z.m < 16
 p1:1≤z.p
 p5:z.p≤5
 oct:OctOk z.bs
noncomputable def ent (z:PX):Ent:=(writ z.bs,z.bs)
noncomputable def filt (X:List PX) (i:Nat):List PX:=X.filter fun z=>z.p == i&&decide (z.m < 8)
noncomputable def xF:D→Ent
 | .list [.str w,.list l]=>(w,((bM l).getD []).map Int.toNat)
 | _=>([],[])
theorem aNn (e:Ent):xF (entD e)=e:=by
 show (e.1,((bM (intsD e.2)).getD []).map Int.toNat)=e
 rw [gK]
 show (e.1,(e.2.map fun (c:Nat)=>(c:Int)).map Int.toNat)=e
 rw [List.map_map]
 exact congrArg (e.1,·) (List.map_id _)
noncomputable def eQ (X:List PX) (i:Nat):List Ent:=((dG ((filt X i).map fun z=>entD (ent z))).getD []).map xF
theorem aIh:∀ l:List Nat,PLs (fun _=>isI) (intsD l)
 | []=>trivial
 | a::l=>⟨⟨a,rfl⟩,aIh l⟩
theorem aUw (e:Ent):aMl (entD e):=⟨_,rfl,⟨_,rfl⟩,⟨_,rfl,aIh e.2⟩,trivial⟩
theorem aJy (e:Ent):isLd (entD e)=true∧deqN 6 (entD e) (entD e)=some true :=
 ⟨rfl,eZ (aQ (gX 4 _) (aQ (lR fun w=>jC 3 _) rfl))⟩
set_option genInjectivity false in
structure PileOk (X:List PX) (i:Nat):Prop where
 sort:dG ((filt X i).map fun z=>entD (ent z))=some ((eQ X i).map entD)
 perm:(eQ X i).Perm ((filt X i).map ent)
 line:aY ((eQ X i).map entD)
 ord:fM ((filt X i).map fun z=>entD (ent z))=true
theorem pile_ok (X:List PX) (i:Nat):PileOk X i:=by
 have hP:∀ y∈(filt X i).map fun z=>entD (ent z),aMl y:=fun y hy=>by
  obtain⟨z,_,rfl⟩:=List.mem_map.mp hy
  exact aUw _
 obtain⟨s,es,ps,ss⟩:=zA aBo hP
 have hpile:eQ X i=s.map xF:=by unfold eQ; rw [es]; rfl
 have hs:(eQ X i).map entD=s:=by
  rw [hpile,List.map_map]
  refine (List.map_congr_left fun d hd=>?_).trans (List.map_id s)
  obtain⟨z,_,rfl⟩:=List.mem_map.mp (ps.subset hd)
  show entD (xF (entD (ent z)))=entD (ent z)
  rw [aNn]
 refine⟨by rw [hs]; exact es,?_,by rw [hs]; exact ss,wJ aBo hP fun y hy=>by
  obtain⟨z,_,rfl⟩:=List.mem_map.mp hy
  exact aJy _⟩
 have:=ps.map xF
 rw [← hpile,List.map_map] at this
 refine this.trans (List.Perm.of_eq (List.map_congr_left fun z _=>aNn _))
noncomputable def pls (X:List PX):List (List Ent):=(List.range 7).map (eQ X)
section
variable {X:List PX} (hX:∀ z∈X,PXok z)
theorem jW {p:Nat} (h:p < 7):(pls X).getD p []=eQ X p:=by
 unfold pls
 rw [List.getD_eq_getElem?_getD,List.getElem?_map,List.getElem?_range h]; rfl
theorem oD {p:Nat} (h:¬ p < 7):(pls X).getD p []=[]:=by
 unfold pls
 rw [List.getD_eq_getElem?_getD,List.getElem?_map,List.getElem?_eq_none (by rw [List.length_range]; exact Nat.not_lt.mp h)]; rfl
theorem vN (i:Nat):(filt X i).length≤X.length:=List.length_filter_le _ _
theorem pile_len (i:Nat):(eQ X i).length≤X.length:=by
 rw [(pile_ok X i).perm.length_eq,List.length_map]
 exact vN i
theorem aUp (p:Nat):nP (pls X) p≤X.length:=by
 unfold nP
 by_cases h:p < 7
 ·rw [jW h]; exact pile_len p
 ·rw [oD h]; exact Nat.zero_le _
theorem line_txt {l:List Ent} (h:aY (l.map entD)):(l.map Prod.fst).Pairwise leW:=by
 unfold aY at h
 rw [List.pairwise_map] at h ⊢
 refine h.imp fun {a c} h hlt=>?_
 have hne:a.1≠c.1:=fun e=>List.lt_irrefl _ (e▸hlt)
 have e:dlt (entD c) (entD a)=some (decide (c.1 < a.1)):=eR (n:=5) (cV 4) ⟨c.1,rfl⟩ ⟨a.1,rfl⟩ fun e=>hne (D.str.inj e).symm
 rw [decide_eq_true hlt] at e
 rw [cF e] at h
 cases h
theorem qB (p:Nat):(txt (pls X) p).Pairwise leW:=by
 unfold txt
 by_cases h:p < 7
 ·rw [jW h]; exact line_txt (pile_ok X p).line
 ·rw [oD h]; exact List.Pairwise.nil
include hX
theorem filt_no {i:Nat} (h:i < 1∨5 < i):eQ X i=[]:=by
 have e:filt X i=[]:=List.filter_eq_nil_iff.mpr fun z hz=>by
  have z1:=hX z hz
  have:(z.p == i)=false:=beq_eq_false_iff_ne.mpr (by have:=z1.p1; have:=z1.p5; lia)
  rw [this]
  exact Bool.false_ne_true
 have:=(pile_ok X i).perm
 rw [e] at this
 exact this.eq_nil
theorem nn_0:nP (pls X) 0=0:=by unfold nP; rw [jW (by decide),filt_no hX (.inl (by decide))]; rfl
theorem nn_6:nP (pls X) 6=0:=by unfold nP; rw [jW (by decide),filt_no hX (.inr (by decide))]; rfl
theorem aUe (p i:Nat):entAt (pls X) p i=([],[])∨∃ z∈X,entAt (pls X) p i=ent z:=by
 unfold entAt
 by_cases h:p < 7
 ·rw [jW h,List.getD_eq_getElem?_getD]
  cases e:(eQ X p)[i]? with
  | none=>exact .inl rfl
  | some x =>
   have:=(pile_ok X p).perm.subset (List.mem_of_getElem? e)
   obtain⟨z,hz,rfl⟩:=List.mem_map.mp this
   exact .inr ⟨z,(List.mem_filter.mp hz).1,rfl⟩
 ·rw [oD h]; exact .inl rfl
theorem rJ (p i:Nat):qE (entAt (pls X) p i)∧(decT (entAt (pls X) p i).1=(entAt (pls X) p i).2∨entAt (pls X) p i=([],[])):=by
 rcases aUe hX p i with e | ⟨z,hz,e⟩
 ·rw [e]
  exact⟨⟨fun _ h=>(nomatch h),Nat.zero_le _⟩,.inr rfl⟩
 ·rw [e]
  have H:=(hX z hz).oct
  exact⟨⟨H.lt,Nat.le_trans H.len (by decide)⟩,.inl (sX H)⟩
end
end Mine
end
section -- M19
open PySem
namespace Mine
theorem aKl:decT []=[]:=by
 have h:=aKr 0 0 [] [] (fun _ h=>(nomatch h)) (by decide) (fun _ h=>(nomatch h)) (by decide) (by decide) (.inl rfl)
 have h2:=aMx 0 [] [] [] rfl (by decide) h
 unfold decT
 rw [h2]
noncomputable def hdP (B:Nat) (z:PX):Heard:=⟨writ z.bs,ipL z.p,(B:Int)+(z.p:Nat),decI ((B:Int)+(z.p:Nat))⟩
noncomputable def goodP (z:PX):Bool:=decide (z.m < 8)
noncomputable def hsOf (B:Nat) (X:List PX):List Heard:=(X.filter goodP).map (hdP B)
theorem pY {α:Type} (l:List α) (f:α→Nat):∀ n,(l.filter fun z=>decide (f z≤n)).Perm (l.filter (fun z=>decide (f z≤0))++(List.range n).flatMap fun j=>l.filter fun z=>f z == j+1)
 | 0=>by rw [List.range_zero,List.flatMap_nil,List.append_nil]
 | n+1=>by
  rw [List.range_succ,List.flatMap_append,List.flatMap_cons,List.flatMap_nil,List.append_nil,← List.append_assoc]
  have h:=List.filter_append_perm (fun z=>decide (f z≤n)) (l.filter fun z=>decide (f z≤n+1))
  rw [List.filter_filter,List.filter_filter] at h
  have e1:(l.filter fun z=>decide (f z≤n)&&decide (f z≤n+1))=l.filter fun z=>decide (f z≤n):=List.filter_congr fun z _=>by
   by_cases h:f z≤n
   ·rw [decide_eq_true h,decide_eq_true (Nat.le_succ_of_le h)]; rfl
   ·rw [decide_eq_false h]; rfl
  have e2:(l.filter fun z=>!decide (f z≤n)&&decide (f z≤n+1))=l.filter fun z=>f z == n+1:=List.filter_congr fun z _=>by
   by_cases h:f z=n+1
   ·rw [h,decide_eq_false (Nat.not_succ_le_self n),decide_eq_true (Nat.le_refl _),beq_self_eq_true]; rfl
   ·rw [beq_eq_false_iff_ne.mpr h]
    by_cases h2:f z≤n
    ·rw [decide_eq_true h2]; rfl
    ·rw [decide_eq_false h2,decide_eq_false (by lia)]; rfl
  rw [e1,e2] at h
  exact h.symm.trans ((pY l f n).append_right _)
section
variable {X:List PX} (hX:∀ z∈X,PXok z) (B:Nat)
noncomputable abbrev psOf (B:Nat) (X:List PX):List (Int×List Nat):=partsTo (B:Int) (txt (pls X)) 5
include hX
theorem aDk:(psOf B X).Perm ((hsOf B X).map Heard.part):=by
 have h:=pY (X.filter goodP) PX.p 5
 have e0:(X.filter goodP).filter (fun z=>decide (z.p≤5))=X.filter goodP:=List.filter_eq_self.mpr fun z hz=>decide_eq_true (hX z (List.mem_filter.mp hz).1).p5
 have e1:(X.filter goodP).filter (fun z=>decide (z.p≤0))=[]:=List.filter_eq_nil_iff.mpr fun z hz h=>by
  have:=(hX z (List.mem_filter.mp hz).1).p1
  have:=of_decide_eq_true h
  lia
 rw [e0,e1,List.nil_append] at h
 have h:=(h.map (hdP B)).map Heard.part
 refine List.Perm.trans ?_ h.symm
 rw [List.map_flatMap,List.map_flatMap]
 unfold psOf partsTo
 have key:∀ j∈List.range 5,((txt (pls X) (j+1)).map fun w=>((B:Int)+(j+1:Nat),w)).Perm ((((X.filter goodP).filter fun z=>z.p == j+1).map (hdP B)).map Heard.part):=fun j hj=>by
  have hj5:=List.mem_range.mp hj
  unfold txt
  rw [jW (show j+1 < 7 by exact Nat.lt_of_le_of_lt (by assumption) (by decide)),List.map_map,List.map_map,List.filter_filter]
  refine ((pile_ok X (j+1)).perm.map _).trans (List.Perm.of_eq ?_)
  rw [List.map_map]
  refine List.map_congr_left fun z hz=>?_
  have hz:=(List.mem_filter.mp hz).2
  rw [Bool.and_eq_true] at hz
  show ((B:Int)+(j+1:Nat),writ z.bs)=((B:Int)+(z.p:Nat),writ z.bs)
  rw [eq_of_beq hz.1]
 generalize List.range 5=R at key
 induction R with
 | nil=>exact List.Perm.refl _
 | cons j R ih =>
  rw [List.flatMap_cons,List.flatMap_cons]
  exact (key j List.mem_cons_self).append (ih fun i hi=>key i (List.mem_cons_of_mem _ hi))
theorem aHn:(hsOf B X).length≤X.length:=by unfold hsOf; rw [List.length_map]; exact List.length_filter_le _ _
theorem aKv:(psOf B X).length=(hsOf B X).length:=by rw [(aDk hX B).length_eq,List.length_map]
omit hX in
theorem aBw {x y:Int×List Nat} (h:x.1 < y.1∨x.1=y.1∧leW x.2 y.2):ltD (bL y) (bL x)=false:=by
 have e:dlt (bL y) (bL x)=dltL (deqN 5) (dltN 5) [.int y.1,.str y.2] [.int x.1,.str x.2]:=rfl
 rcases h with h | ⟨h1,h2⟩
 ·rw [eR (a:=.int y.1) (b:=.int x.1) (cK 4) ⟨_,rfl⟩ ⟨_,rfl⟩ fun e=>absurd (D.int.inj e) (Int.ne_of_gt h)] at e
  exact cF (e.trans (congrArg some (decide_eq_false (Int.not_lt.mpr (Int.le_of_lt h)))))
 ·rw [h1,hd_eq (a:=.int y.1) (cK 4) ⟨_,rfl⟩] at e
  by_cases h3:y.2=x.2
  ·rw [h3,hd_eq (a:=.str x.2) (cV 4) ⟨_,rfl⟩] at e
   exact cF e
  ·rw [eR (a:=.str y.2) (b:=.str x.2) (cV 4) ⟨_,rfl⟩ ⟨_,rfl⟩ fun e=>h3 (D.str.inj e)] at e
   exact cF (e.trans (congrArg some (decide_eq_false h2)))
omit hX in
theorem aCy:∀ n,(partsTo (B:Int) (txt (pls X)) n).Pairwise (fun x y=>ltD (bL y) (bL x)=false)∧∀ x∈partsTo (B:Int) (txt (pls X)) n,x.1≤(B:Int)+(n:Nat)
 | 0=>⟨List.Pairwise.nil,fun _ h=>(nomatch h)⟩
 | n+1=>by
  obtain⟨h1,h2⟩:=aCy n
  have ep:partsTo (B:Int) (txt (pls X)) (n+1)=partsTo (B:Int) (txt (pls X)) n++(txt (pls X) (n+1)).map fun w=>((B:Int)+(n+1:Nat),w):=by
   unfold partsTo
   rw [List.range_succ,List.flatMap_append,List.flatMap_cons,List.flatMap_nil,List.append_nil]
  rw [ep]
  refine⟨List.pairwise_append.mpr ⟨h1,?_,fun x hx y hy=>?_⟩,fun x hx=>?_⟩
  ·rw [List.pairwise_map]
   exact (qB (n+1)).imp fun {w w'} h=>aBw (x:=((B:Int)+(n+1:Nat),w)) (y:=((B:Int)+(n+1:Nat),w')) (.inr ⟨rfl,h⟩)
  ·obtain⟨w,_,rfl⟩:=List.mem_map.mp hy
   have:=h2 x hx
   exact aBw (.inl (by show x.1 < (B:Int)+(n+1:Nat); lia))
  ·rcases List.mem_append.mp hx with hx | hx
   ·have:=h2 x hx; lia
   ·obtain⟨w,_,rfl⟩:=List.mem_map.mp hx
    exact Int.le_refl _
omit hX in
theorem oX:∀ (hs:List Heard) (s:List D),(∀ y∈s,partP y)→aY s→(pushAll hs s).Perm (hs.map (fun h=>bL h.part)++s)∧aY (pushAll hs s)
 | [],s,_,h=>⟨List.Perm.refl _,h⟩
 | x::hs,s,hP,h=>by
  have hP':∀ y∈insS (bL x.part) s,partP y:=fun y hy=>(List.mem_cons.mp ((cO _ s).subset hy)).elim (fun e=>e▸tP _) (hP y)
  obtain⟨h1,h2⟩:=oX hs (insS (bL x.part) s) hP' (eP lP (tP _) hP h)
  exact⟨h1.trans (((cO _ s).append_left _).trans List.perm_middle),h2⟩
theorem aQm:pushAll (hsOf B X) []=partsD (psOf B X):=by
 obtain⟨h1,h2⟩:=oX (hsOf B X) [] (fun _ h=>(nomatch h)) List.Pairwise.nil
 rw [List.append_nil] at h1
 have h3:(pushAll (hsOf B X) []).Perm (partsD (psOf B X)):=by
  refine h1.trans ?_
  have:=((aDk hX B).map bL).symm
  rw [List.map_map] at this
  exact this
 have h4:aY (partsD (psOf B X)):=by
  unfold aY partsD
  rw [List.pairwise_map]
  exact (aCy B 5).1
 exact kA lP h3 h2 h4 fun y hy=>by
  obtain⟨x,_,rfl⟩:=List.mem_map.mp hy
  exact tP x
end
end Mine
end
section -- M6
open PySem
namespace Mine
theorem lZ (n:Nat):decI (n:Int)=(Nat.toDigits 10 n).map Char.toNat:=by
 show (toString (n:Nat)).toList.map Char.toNat=_
 rw [Nat.toString_eq_ofList_toDigits,String.toList_ofList]
theorem aLu {n c:Nat} (h:c∈decI (n:Int)):isDig c=true:=by
 rw [lZ] at h
 obtain⟨x,hx,rfl⟩:=List.mem_map.mp h
 have hd:=Nat.isDigit_of_mem_toDigits (b:=10) (by decide) (by decide) hx
 unfold Char.isDigit at hd
 rw [Bool.and_eq_true] at hd
 unfold isDig
 rw [Bool.and_eq_true]
 exact⟨decide_eq_true (of_decide_eq_true hd.1),decide_eq_true (of_decide_eq_true hd.2)⟩
theorem aCx {n:Nat} (h:n < 10 ^ 5):(decI (n:Int)).length≤5:=by
 rw [lZ,List.length_map]
 exact (Nat.length_toDigits_le_iff (by decide) (by decide)).mpr h
theorem aSx (n:Nat):decI (n:Int)≠[]:=by
 rw [lZ]
 exact fun e=>Nat.toDigits_ne_nil (List.map_eq_nil_iff.mp e)
theorem aEh:∀ (l:List Char) (a:Nat),(l.map Char.toNat).foldl (fun acc c=>acc * 10+(c - 48)) a=Nat.ofDigitChars 10 l a:=by
 intro l
 induction l with
 | nil=>intro a; rfl
 | cons c l ih =>
  intro a
  rw [List.map_cons,List.foldl_cons,ih,Nat.mul_comm]; rfl
theorem aFe (n:Nat):undec (decI (n:Int))=n:=by
 unfold undec
 rw [lZ,aEh]
 exact Nat.ofDigitChars_ten_toDigits
theorem aNq (l:List Nat):undec (48::l)=undec l:=rfl
theorem aTi (n:Nat):decI (n:Int)≠[63]:=fun e=>by
 have h:63∈decI (n:Int):=by rw [e]; exact List.mem_cons_self
 exact absurd (aLu h) (by decide)
theorem aLb {l:List Nat} (h:∀ c∈l,isDig c=true) (h0:l≠[]) (hl:l.length≤600):intOf (.str l)=some (.int (undec l)):=by
 show (if (!l.isEmpty&&l.all isDig&&decide (l.length≤600))=true then some (D.int (undec l)) else none)=_
 rw [List.all_eq_true.mpr h,decide_eq_true hl]
 induction l using List.casesOn with
 | nil=>exact absurd rfl h0
 | cons a l=>rfl
end Mine
end
section -- M7
open PySem
namespace Mine
theorem mS {c:Nat}:∀ (a r:List Nat) (i:Nat),c∉a→findFrom c (a++r) i=findFrom c r (i+a.length):=by
 intro a
 induction a with
 | nil=>intro r i _; rfl
 | cons x a ih =>
  intro r i h
  show (if x=c then some i else findFrom c (a++r) (i+1))=_
  rw [if_neg fun e:x=c=>h (e▸List.mem_cons_self),ih r (i+1) fun hm=>h (List.mem_cons_of_mem _ hm),List.length_cons,Nat.add_assoc,Nat.add_comm 1]
theorem aCr {c:Nat} (a:List Nat) (i:Nat) (h:c∉a):findFrom c a i=none:=by
 have:=mS a [] i h
 rwa [List.append_nil] at this
theorem xR (c:Nat) (r:List Nat) (i:Nat):findFrom c (c::r) i=some i:=if_pos rfl
theorem sD (a r:List Nat) (i:Nat):(a++r).getD (a.length+i) 0=r.getD i 0:=by
 rw [List.getD_eq_getElem?_getD,List.getElem?_append_right (Nat.le_add_right _ _),Nat.add_sub_cancel_left,List.getD_eq_getElem?_getD]
theorem mH {A Y Y' Z:List Nat} {c d:Nat} (hA:40∉A) (hX:41∉c::Y) (e:c::Y=Y'++[d]) :
  p229 (A++40::(c::Y++41::Z))=bif decide (c=d) then (bif decide ((aI c (c::Y)).length=5) then some ((aI c (c::Y)).getD 3 []) else none) else none:=by
 have h1:findFrom 40 (A++40::(c::Y++41::Z)) 0=some A.length:=by rw [mS A _ 0 hA,Nat.zero_add]; exact xR _ _ _
 have ea:A++40::(c::Y++41::Z)=(A++[40])++(c::Y++41::Z):=by rw [List.append_assoc]; rfl
 have el:(A++[40]).length=A.length+1:=List.length_append
 have hd:(A++40::(c::Y++41::Z)).drop (A.length+1)=c::Y++41::Z:=by rw [ea,← el,List.drop_left]
 have h2:findFrom 41 ((A++40::(c::Y++41::Z)).drop (A.length+1)) (A.length+1)=some (A.length+1+(c::Y).length):=by rw [hd,mS (c::Y) _ _ hX]; exact xR _ _ _
 have g1:(A++40::(c::Y++41::Z)).getD (A.length+1) 0=c:=sD A _ 1
 have g2:(A++40::(c::Y++41::Z)).getD (A.length+1+(c::Y).length - 1) 0=d:=by
  rw [ea,e,List.append_assoc Y',← List.append_assoc (A++[40])]
  have:A.length+1+(Y'++[d]).length - 1=((A++[40])++Y').length+0:=by
   rw [List.length_append,List.length_append,el]; rfl
  rw [this,sD]; rfl
 have ht:(c::Y++41::Z).take (A.length+1+(c::Y).length - (A.length+1))=c::Y:=by rw [Nat.add_sub_cancel_left,List.take_left]
 unfold p229
 rw [h1]
 show (findFrom 41 ((A++40::(c::Y++41::Z)).drop (A.length+1)) (A.length+1)).bind _=_
 rw [h2]
 show q229 _ _ _=_
 unfold q229
 rw [g1,g2,hd,ht]
theorem split_cons (c:Nat) (l:List Nat):aI c (c::l)=[]::aI c l:=if_pos rfl
theorem qH {c:Nat}:∀ (a r:List Nat),c∉a→aI c (a++c::r)=a::aI c r:=by
 intro a
 induction a with
 | nil=>intro r _; exact split_cons c r
 | cons x a ih =>
  intro r h
  show (if x=c then []::aI c (a++c::r) else match aI c (a++c::r) with
  | []=>[[x]]
  | p::ps=>(x::p)::ps)=_
  rw [if_neg fun e:x=c=>h (e▸List.mem_cons_self),ih r fun hm=>h (List.mem_cons_of_mem _ hm)]
theorem aEs {A Z ds:List Nat} {c:Nat} (hA:40∉A) (hd:∀ x∈ds,isDig x=true) (hc:isDig c=false) (h41:c≠41):p229 (A++40::c::c::c::(ds++c::41::Z))=some ds:=by
 have hcd:c∉ds:=fun h=>by rw [hd c h] at hc; cases hc
 have h4:41∉ds:=fun h=>absurd (hd 41 h) (by decide)
 have hX:41∉c::c::c::(ds++[c]):=by
  intro h
  simp only [List.mem_cons,List.mem_append,List.not_mem_nil,or_false] at h
  rcases h with h | h | h | h | h
  ·exact h41 h.symm
  ·exact h41 h.symm
  ·exact h41 h.symm
  ·exact h4 h
  ·exact h41 h.symm
 have:=mH (A:=A) (Y:=c::c::(ds++[c])) (Y':=c::c::c::ds) (Z:=Z) (c:=c) (d:=c) hA hX rfl
 rw [decide_eq_true rfl,split_cons,split_cons,split_cons,qH ds [] hcd] at this
 have e:A++40::c::c::c::(ds++c::41::Z)=A++40::c::c::c::((ds++[c])++41::Z):=by rw [List.append_assoc]; rfl
 rw [e]
 exact this
end Mine
end
section -- M8
open PySem
namespace Mine
noncomputable abbrev dbl (w:List Nat):List Nat:=replC 34 [34,34] w
noncomputable abbrev tailP (m:Nat) (ds:List Nat):List Nat:=replC 63 ds (tailsL.getD m [])
theorem aOg:∀ (w r:List Nat),und false (dbl w++r)=w++und false r:=by
 intro w
 induction w with
 | nil=>intro r; rfl
 | cons x w ih =>
  intro r
  show und false (((if x=34 then [34,34] else [x])++dbl w)++r)=x::(w++und false r)
  by_cases h:x=34
  ·subst h
   show (34::und false (dbl w++r))=_
   rw [ih]
  ·rw [if_neg h]
   show (if x=34 then und true (dbl w++r) else x::und false (dbl w++r))=_
   rw [if_neg h,ih]
theorem aIw (ds:List Nat):∀ m,m < 16→und false (tailP m ds)=[]
 | 0,_=>rfl
 | 1,_=>rfl
 | 2,_=>rfl
 | 3,_=>rfl
 | 4,_=>rfl
 | 5,_=>rfl
 | 6,_=>rfl
 | 7,_=>rfl
 | 8,_=>rfl
 | 9,_=>rfl
 | 10,_=>rfl
 | 11,_=>rfl
 | 12,_=>rfl
 | 13,_=>rfl
 | 14,_=>rfl
 | 15,_=>rfl
 | m+16,h=>absurd h (Nat.not_lt.mpr (Nat.le_add_left _ _))
set_option genInjectivity false in
structure GoodT (t ds:List Nat):Prop where
 form:∃ A Z c ds',t=A++40::c::c::c::(ds'++c::41::Z)∧40∉A∧isDig c=false∧c≠41∧(ds'=ds∨ds'=48::ds)
theorem aGo (ds:List Nat) (m:Nat) (h:m < 8∨m=13):GoodT (tailP m ds) ds:=by
 have key:∀ m,m < 8∨m=13→GoodT (tailP m ds) ds
  | 0,_=>⟨tl "\" ",[],124,ds,rfl,by decide,rfl,by decide,.inl rfl⟩
  | 1,_=>⟨tl "\" of \"ten\" ",[],33,ds,rfl,by decide,rfl,by decide,.inl rfl⟩
  | 2,_=>⟨tl "\"",[],126,ds,rfl,by decide,rfl,by decide,.inl rfl⟩
  | 3,_=>⟨tl "\" is it ",tl " or (|||1|)",47,ds,rfl,by decide,rfl,by decide,.inl rfl⟩
  | 4,_=>⟨tl "\" ) ",[],124,ds,rfl,by decide,rfl,by decide,.inl rfl⟩
  | 5,_=>⟨tl "\" ",[],124,48::ds,rfl,by decide,rfl,by decide,.inr rfl⟩
  | 6,_=>⟨tl "\" ",[],40,ds,rfl,by decide,rfl,by decide,.inl rfl⟩
  | 7,_=>⟨tl "\" ",[],34,ds,rfl,by decide,rfl,by decide,.inl rfl⟩
  | 13,_=>⟨tl "\" ",[],124,ds,rfl,by decide,rfl,by decide,.inl rfl⟩
  | 8,h | 9,h | 10,h | 11,h | 12,h=>absurd h (by decide)
  | m+14,h=>by lia
 exact key m h
theorem uJ {pre t ds:List Nat} (hp:40∉pre) (hd:∀ x∈ds,isDig x=true) (G:GoodT t ds):∃ ds',p229 (pre++t)=some ds'∧(ds'=ds∨ds'=48::ds):=by
 obtain⟨A,Z,c,ds',rfl,hA,hc,h41,hds⟩:=G.form
 refine⟨ds',?_,hds⟩
 rw [← List.append_assoc]
 refine aEs (fun h=>(List.mem_append.mp h).elim hp hA) (fun x hx=>?_) hc h41
 rcases hds with rfl | rfl
 ·exact hd x hx
 ·rcases List.mem_cons.mp hx with rfl | hx
  ·rfl
  ·exact hd x hx
theorem rK {l:List Nat} (h:40∉l):p229 l=none:=by unfold p229; rw [aCr l 0 h]; rfl
theorem aHa {l:List Nat} (h:41∉l):p229 l=none:=by
 unfold p229
 cases findFrom 40 l 0 with
 | none=>rfl
 | some i =>
  show (findFrom 41 (l.drop (i+1)) (i+1)).bind _=none
  rw [aCr _ _ fun hm=>h (List.mem_of_mem_drop hm)]; rfl
theorem zU {ds:List Nat} (hd:∀ x∈ds,isDig x=true) {c:Nat} (hc:isDig c=false):c∉ds:=fun h=>by rw [hd c h] at hc; cases hc
theorem bG {c:Nat} {a b:List Nat} (h1:c∉a) (h2:c∉b):c∉a++b:=fun h=>(List.mem_append.mp h).elim h1 h2
theorem aHb {pre ds:List Nat} (h40:40∉pre) (h41:41∉pre) (hd:∀ x∈ds,isDig x=true) {m:Nat} (h1:7 < m) (h2:m < 13):p229 (pre++tailP m ds)=none:=by
 have d40:=zU hd (c:=40) rfl
 have d41:=zU hd (c:=41) rfl
 have d124:=zU hd (c:=124) rfl
 have key:∀ m,7 < m→m < 13→p229 (pre++tailP m ds)=none
  | 8,_,_=>by
   have e:pre++tailP 8 ds=(pre++[34,32])++40::(124::(124::124::(ds++[124,124]))++41::[]):=by
    rw [List.append_assoc pre]
    show pre++34::32::40::124::124::124::(ds++[124,124,41])=pre++34::32::40::124::124::124::((ds++[124,124])++[41])
    rw [List.append_assoc ds]; rfl
   rw [e]
   refine (mH (A:=pre++[34,32]) (Y:=124::124::(ds++[124,124])) (Y':=124::124::124::(ds++[124])) (Z:=[]) (c:=124) (d:=124) (bG h40 (by decide)) (bG (a:=[124,124,124]) (by decide) (bG d41 (by decide))) (by
    show 124::124::124::(ds++[124,124])=124::124::124::((ds++[124])++[124])
    rw [List.append_assoc ds]; rfl)).trans ?_
   rw [split_cons,split_cons,split_cons,qH ds [124] d124]; rfl
  | 9,_,_=>by
   have e:pre++tailP 9 ds=(pre++[34,32])++40::(124::(124::124::(ds++[124,120]))++41::[]):=by
    rw [List.append_assoc pre]
    show pre++34::32::40::124::124::124::(ds++[124,120,41])=pre++34::32::40::124::124::124::((ds++[124,120])++[41])
    rw [List.append_assoc ds]; rfl
   rw [e]
   refine (mH (A:=pre++[34,32]) (Y:=124::124::(ds++[124,120])) (Y':=124::124::124::(ds++[124])) (Z:=[]) (c:=124) (d:=120) (bG h40 (by decide)) (bG (a:=[124,124,124]) (by decide) (bG d41 (by decide))) (by
    show 124::124::124::(ds++[124,120])=124::124::124::((ds++[124])++[120])
    rw [List.append_assoc ds]; rfl)).trans rfl
  | 10,_,_=>aHa (bG h41 (bG (a:=tl "\" (|||") (b:=ds++tl "|x") (by decide) (bG d41 (by decide))))
  | 11,_,_=>rK (bG h40 (bG (a:=tl "\" 2") (b:=ds++tl "2)") (by decide) (bG d40 (by decide))))
  | 12,_,_=>rK (bG (b:=tl "\"") h40 (by decide))
  | m+13,_,h=>absurd h (Nat.not_lt.mpr (Nat.le_add_left _ _))
 exact key m h1 h2
end Mine
end
section -- M9
open PySem
namespace Mine
theorem aLa {c:Nat} (hc:c≠34):∀ {w:List Nat},c∉w→c∉dbl w:=by
 intro w
 induction w with
 | nil=>intro h; exact h
 | cons x w ih =>
  intro h
  show c∉(if x=34 then [34,34] else [x])++dbl w
  refine bG ?_ (ih fun hm=>h (List.mem_cons_of_mem _ hm))
  split
  ·intro hm
   rcases List.mem_cons.mp hm with e | hm
   ·exact hc e
   ·exact hc (List.mem_singleton.mp hm)
  ·exact fun hm=>h (List.mem_singleton.mp hm▸List.mem_cons_self)
theorem aTz (y:Int):40∉opn y∧41∉opn y:=by
 have e:∀ r,40∉[tl " -\"",tl "-\"",tl "  \""].getD r []∧41∉[tl " -\"",tl "-\"",tl "  \""].getD r []:=fun r=>by
  match r with
  | 0=>decide
  | 1=>decide
  | 2=>decide
  | r+3=>exact⟨List.not_mem_nil,List.not_mem_nil⟩
 exact e _
theorem wS (m:Nat) (y:Int):40∉fT m y∧41∉fT m y:=by
 unfold fT
 cases (m:Int) == 13 with
 | true=>exact aTz y
 | false=>exact (by decide:40∉tl " \""∧41∉tl " \"")
theorem yV {l:List Str} {P:List Nat→Prop} (h4:(l.map tl).length=4) (h:∀ c∈l.map tl,P c) (y:Int):P (codes l y):=by
 unfold codes
 have hf:=sA y
 have hr:(y.fmod 4).toNat < (l.map tl).length:=by rw [h4]; omega
 rw [List.getD_eq_getElem?_getD,List.getElem?_eq_getElem hr]
 exact h _ (List.getElem_mem hr)
section
variable {k p m q:Nat} {y b:Int} {bs:List Nat} {st:Store}
theorem tQ {a:Nat} (h:m≠a):((m:Int) == (a:Int))=false:=beq_eq_false_iff_ne.mpr fun e=>h (Int.ofNat.inj e)
theorem aSp {w:List Nat} {z:Int} (h13:m≠13) (h14:m≠14):dI m y++bC m y w z=50::53::55::32::34::(dbl w++tailP m (decI z)):=by
 unfold dI bC fT
 rw [show ((m:Int) == 14)=false from tQ h14,show ((m:Int) == 13)=false from tQ h13]; rfl
theorem aIr {w:List Nat} {z:Int} (h15:m≠15):eJ m y++bC m y w z=50::50::57::bC m y w z:=by
 unfold eJ
 rw [show ((m:Int) == 15)=false from tQ h15]; rfl
theorem yA {w:List Nat} {z:Int}:(50::50::57::bC m y w z)=(([50,50,57]++fT m y)++dbl w)++tailP m (decI z):=by
 unfold bC
 rw [List.append_assoc [50,50,57],List.append_assoc [50,50,57]]; rfl
theorem aTo {w:List Nat} (h40:40∉w) (h41:41∉w):40∉([50,50,57]++fT m y)++dbl w∧41∉([50,50,57]++fT m y)++dbl w :=
 ⟨bG (bG (by decide) (wS m y).1) (aLa (by decide) h40),bG (bG (by decide) (wS m y).2) (aLa (by decide) h41)⟩
theorem aIb {w:List Nat} {z:Int} (hm:m < 16) (h13:m≠13) (h14:m≠14) (hs:w.length≤100) (hz:(decI z).length≤10):(GT (k+1)).fn 72 [.str (dI m y++bC m y w z)] [] st=some (.ret (.str w),st):=by
 rw [aSp h13 h14]
 have hl:(dbl w++tailP m (decI z)).length≤630:=mV (a:=300) (b:=330) (eV (z:=[34,34]) (b:=2) hs (Nat.le_refl 2)) (eV (gJ m hm) hz)
 have:=aUh k (dbl w++tailP m (decI z)) st (Nat.le_trans hl (by decide))
 rwa [aOg,aIw _ m hm,List.append_nil] at this
theorem aPg {w:List Nat} {z:Int} (hs:w.length≤100) (hz:(decI z).length≤10):(GT (k+1)).fn 72 [.str (dI 13 y++bC 13 y w z)] [] st=some (.ret (.str []),st):=by
 have hl:(dbl w++tailP 13 (decI z)).length≤630:=mV (a:=300) (b:=330) (eV (z:=[34,34]) (b:=2) hs (Nat.le_refl 2)) (eV (gJ 13 (by decide)) hz)
 have key:∀ r,r < 3→(GT (k+1)).fn 72 [.str (tl "257"++([tl " -\"",tl "-\"",tl "  \""].getD r []++dbl w++tailP 13 (decI z)))] [] st=some (.ret (.str []),st)
  | 0,_=>oS k 32 45 (34::(dbl w++tailP 13 (decI z))) st (Nat.le_trans (Nat.succ_le_succ hl) (by decide)) (by decide)
  | 1,_=>oS k 45 34 (dbl w++tailP 13 (decI z)) st (Nat.le_trans hl (by decide)) (by decide)
  | 2,_=>oS k 32 32 (34::(dbl w++tailP 13 (decI z))) st (Nat.le_trans (Nat.succ_le_succ hl) (by decide)) (by decide)
  | r+3,h=>absurd h (Nat.not_lt.mpr (Nat.le_add_left _ _))
 exact key _ (by
  have h1:0≤y.fmod 3:=Int.fmod_nonneg_of_pos _ (by decide)
  have h2:y.fmod 3 < 3:=Int.fmod_lt_of_pos _ (by decide)
  lia)
theorem yR {P:List Nat→Prop} {c r:List Nat} (h:c.length=3) (hP:∀ a b d,c=[a,b,d]→P (a::b::d::r)):P (c++r):=by
 match c,h with
 | [a,b,d],_=>exact hP a b d rfl
theorem aFi (H:HearOk p m y bs b) (T:ToldOk p m bs b) (hq:b+p=(q:Int)) (hq0:q < 10 ^ 5) (hw:fY (encL bs)=writ bs) (h40:40∉writ bs) (h41:41∉writ bs) :
  (GT (k+4)).fn 212 [dX p m y bs,.int b] [] st=some (.ret (oK p m b (dI m y++bC m y (writ bs) (b+p)) (eJ m y++bC m y (writ bs) (b+p)) (writ bs)),st):=by
 have eone:eK m p y bs b=dI m y++bC m y (writ bs) (b+p):=by unfold eK; rw [hw]
 have etwo:eM m p y bs b=eJ m y++bC m y (writ bs) (b+p):=by unfold eM; rw [hw]
 have hwl:=pP bs H.len
 have hds:∀ x∈decI (b+p),isDig x=true:=by rw [hq]; exact fun x hx=>aLu hx
 have hrl:(bC m y (writ bs) (b+p)).length≤800:=Nat.le_trans (vK H.m16 hwl H.dl) (by decide)
 obtain⟨n40,n41⟩:=aTo (m:=m) (y:=y) h40 h41
 have hu:undec (decI (b+p))=q:=by rw [hq]; exact aFe q
 have good:m < 8∨m=13→(GT (k+3)).fn 65 [.str (eM m p y bs b),.tuple [.str (ipL p),.int 21]] [] st=some (.ret (.tuple [.str (ipL p),.int (b+p)]),st):=fun h=>by
  rw [etwo,aIr (by rintro rfl; rcases h with h | h <;> lia)]
  obtain⟨ds',hp,hd'⟩:=uJ n40 hds (aGo (decI (b+p)) m h)
  rw [← yA] at hp
  have hi:intOf (.str ds')=some (.int (undec ds'))∧(undec ds':Int)=b+p:=by
   have h0:decI (b+p)≠[]:=by rw [hq]; exact aSx q
   rcases hd' with rfl | rfl
   ·exact⟨aLb hds h0 (Nat.le_trans H.dl (by decide)),by rw [hu,hq]⟩
   ·exact⟨aLb (fun x hx=>(List.mem_cons.mp hx).elim (fun e=>e▸rfl) (hds x)) (List.cons_ne_nil _ _) (Nat.le_trans (Nat.succ_le_succ H.dl) (by decide)),by rw [aNq,hu,hq]⟩
  have:=aUm (k+2) _ (ipL p) ds' st hrl hp hi.1
  rwa [hi.2] at this
 by_cases h14:m=14
 ·subst h14
  have hc:(dI 14 y).length=3:=sG 14 y
  have hne:dI 14 y≠[50,53,55]:=yV (l:=["550","157","227","256"]) (P:=fun c=>c≠[50,53,55]) (by decide) (by decide) y
  have h72:(GT (k+3)).fn 72 [.str (eK 14 p y bs b)] [] st=some (.exc 44 (.str (eK 14 p y bs b)),st):=by
   rw [eone]
   exact yR (P:=fun l=>(GT (k+3)).fn 72 [.str l] [] st=some (.exc 44 (.str l),st)) hc fun a c d e=>aEz (k+2) a c d _ st (Nat.le_trans hrl (by decide)) (e▸hne)
  have:=aAp H h72
  rw [eone] at this
  exact this
 by_cases h13:m=13
 ·subst h13
  have h72:(GT (k+3)).fn 72 [.str (eK 13 p y bs b)] [] st=some (.ret (.str []),st):=by rw [eone]; exact aPg hwl H.dl
  exact tA H h72 (good (.inr rfl)) H.sm
 have h72:(GT (k+3)).fn 72 [.str (eK m p y bs b)] [] st=some (.ret (.str (writ bs)),st):=by rw [eone]; exact aIb H.m16 h13 h14 hwl H.dl
 by_cases h15:m=15
 ·subst h15
  have hne:eJ 15 y≠[50,50,57]:=yV (l:=["257","129","239","228"]) (P:=fun c=>c≠[50,50,57]) (by decide) (by decide) y
  have h65:(GT (k+3)).fn 65 [.str (eM 15 p y bs b),.tuple [.str (ipL p),.int 21]] [] st=some (.exc 44 (.str (eM 15 p y bs b)),st):=by
   rw [etwo]
   exact yR (P:=fun l=>(GT (k+3)).fn 65 [.str l,.tuple [.str (ipL p),.int 21]] [] st=some (.exc 44 (.str l),st)) (rM 15 y) fun a c d e=>aGm (k+2) a c d _ (ipL p) st (Nat.le_trans hrl (by decide)) (e▸hne)
  have:=qM H (.inl ⟨rfl,rfl⟩) h72 h65
  rw [etwo] at this
  exact this
 have e14:((14:Int) == m || ((15:Int) == m || false))=false:=by
  rw [show ((14:Int) == m)=false from beq_eq_false_iff_ne.mpr fun e=>h14 (Int.ofNat.inj e).symm,show ((15:Int) == m)=false from beq_eq_false_iff_ne.mpr fun e=>h15 (Int.ofNat.inj e).symm]; rfl
 have e13:((m:Int) == 13)=false:=tQ h13
 unfold oK
 rw [e14,e13]
 by_cases h8:m < 8
 ·rw [decide_eq_false (by lia)]
  exact tA H h72 (good (.inl h8)) H.sm
 ·rw [decide_eq_true (by omega)]
  have h65:(GT (k+3)).fn 65 [.str (eM m p y bs b),.tuple [.str (ipL p),.int 21]] [] st=some (.exc 56 (.str (eM m p y bs b)),st):=by
   rw [etwo,aIr h15]
   exact aKb (k+2) _ (ipL p) st hrl (by rw [yA]; exact aHb n40 n41 hds (by exact Nat.le_of_not_lt (by assumption)) (by have:=H.m16; lia))
  have:=qM H (.inr ⟨rfl,rfl⟩) h72 h65
  rw [etwo] at this
  exact this
end
end Mine
end
section -- R47
open PySem
namespace Mine
noncomputable def pxD (z:PX):D:=dX z.p z.m z.y z.bs
noncomputable def tD (B:Nat) (z:PX):D:=oK z.p z.m (B:Int) (dI z.m z.y++bC z.m z.y (writ z.bs) ((B:Int)+z.p)) (eJ z.m z.y++bC z.m z.y (writ z.bs) ((B:Int)+z.p)) (writ z.bs)
section
variable {k B:Nat} {z:PX} {st:Store} (hB:B < 65531) (Z:PXok z)
include hB Z
theorem port_nat:(B:Int)+(z.p:Nat)=((B+z.p:Nat):Int)∧B+z.p < 10 ^ 5:=by
 have:=Z.p5
 exact⟨rfl,by lia⟩
theorem aJn:HearOk z.p z.m z.y z.bs (B:Int):=by
 obtain⟨e,h⟩:=port_nat hB Z
 have hp:z.p < 10 ^ 5:=Nat.lt_of_le_of_lt Z.p5 (by decide)
 have ew:=own_writ Z.oct
 exact⟨Z.m16,Z.oct.lt,Z.oct.len,Nat.le_trans Z.p5 (by decide),Nat.le_trans (aCx hp) (by decide),by rw [ew]; exact List.isEmpty_eq_false_iff.mpr (aCb Z.oct),by rw [ew]; exact List.all_eq_true.mpr fun x hx=>decide_eq_true (kN Z.oct hx).2.2,by rw [e]; exact iU (Nat.lt_trans h (by decide)),by rw [e]; exact Nat.le_trans (aCx h) (by decide),by rw [e]; exact aTi _⟩
theorem aLj:ToldOk z.p z.m z.bs (B:Int):=by
 have H:=aJn hB Z
 exact⟨H.m16,H.lt,H.len,Z.oct.pos,H.p10,H.dp,H.sm,H.dl,H.d63⟩
theorem aMf:(GT (k+4)).fn 212 [pxD z,.int (B:Int)] [] st=some (.ret (tD B z),st) :=
 aFi (aJn hB Z) (aLj hB Z) (port_nat hB Z).1 (port_nat hB Z).2 (own_writ Z.oct) (fun h=>(kN Z.oct h).1 rfl) (fun h=>(kN Z.oct h).2.1 rfl)
theorem aTh:(GT (k+2)).fn 219 [pxD z,.int (B:Int)] [] st=some (.ret (tD B z),st):=aSz k z.p z.m z.y B z.bs st (aLj hB Z)
end
theorem pW (B:Nat) (z:PX):(∃ a b,tD B z=.list [.str a,.str b]∧goodP z=false)∨∃ w,tD B z=.list [.str w,.tuple [.str (ipL z.p),.int ((B:Int)+z.p)],.str (decI ((B:Int)+z.p))]∧(w=[]∧goodP z=false∨w=writ z.bs∧goodP z=true):=by
 unfold tD oK goodP
 cases h1:((14:Int) == z.m || ((15:Int) == z.m || false)) with
 | true =>
  refine .inl ⟨_,_,rfl,decide_eq_false fun h=>?_⟩
  rw [Bool.or_false,Bool.or_eq_true] at h1
  rcases h1 with e | e
  ·have:=eq_of_beq e; lia
  ·have:=eq_of_beq e; lia
 | false =>
  cases h2:decide ((7:Int) < z.m)&&!((z.m:Int) == 13) with
  | true =>
   rw [Bool.and_eq_true] at h2
   have:=of_decide_eq_true h2.1
   exact .inl ⟨_,_,rfl,decide_eq_false (by omega)⟩
  | false =>
   refine .inr ⟨_,rfl,?_⟩
   cases h3:(z.m:Int) == 13 with
   | true =>
    have:=eq_of_beq h3
    exact .inl ⟨rfl,decide_eq_false (by lia)⟩
   | false =>
    rw [h3,Bool.not_false,Bool.and_true] at h2
    have:=of_decide_eq_false h2
    exact .inr ⟨rfl,decide_eq_true (by omega)⟩
theorem lK (B:Nat) (z:PX):deqN 6 (tD B z) (tD B z)=some true∧noCell (tD B z)=true:=by
 rcases pW B z with ⟨a,b,e,_⟩ | ⟨w,e,_⟩
 ·rw [e]
  exact⟨eZ (aQ (gX 4 _) (aQ (gX 4 _) rfl)),rfl⟩
 ·rw [e]
  have tup:∀ {l:List D},deqL (deqN 4) l l=some true→deqN 5 (.tuple l) (.tuple l)=some true:=fun h=>(if_pos rfl).trans h
  exact⟨eZ (aQ (gX 4 _) (aQ (tup (aQ (gX 3 _) (aQ (jC 3 _) rfl))) (aQ (gX 4 _) rfl))),rfl⟩
noncomputable def bFr:D→Bool
 | .list [.str w,_,_]=>!decide (w=[])
 | _=>false
theorem aRe {B:Nat} {z:PX} (Z:PXok z):bFr (tD B z)=goodP z∧(goodP z=true→tD B z=heardD (hdP B z)):=by
 rcases pW B z with ⟨a,b,e,g⟩ | ⟨w,e,⟨rfl,g⟩ | ⟨rfl,g⟩⟩
 ·rw [e,g]; exact⟨rfl,fun h=>(nomatch h)⟩
 ·rw [e,g]; exact⟨rfl,fun h=>(nomatch h)⟩
 ·rw [e,g]
  exact⟨by show (!decide (writ z.bs=[]))=true; rw [decide_eq_false (aCb Z.oct)]; rfl,fun _=>rfl⟩
theorem zY {B:Nat} {X:List PX} (hX:∀ z∈X,PXok z):((X.map (tD B)).filter bFr).map id=(hsOf B X).map heardD:=by
 rw [List.map_id,List.filter_map]
 unfold hsOf
 rw [List.map_map]
 have e:X.filter (bFr ∘ tD B)=X.filter goodP:=List.filter_congr fun z hz=>(aRe (hX z hz)).1
 rw [e]
 exact List.map_congr_left fun z hz=>(aRe (hX z (List.mem_filter.mp hz).1)).2 (List.mem_filter.mp hz).2
end Mine
end
section -- R48
open PySem
namespace Mine
noncomputable def fixL:List Int:=[249,81621,43,5,4026530427,19659291,47,623199204,80320,50,5368708992,198,55,96,64,68,72,76]
noncomputable def aCz (ns:List Int):Int:=(9998+(ns.take 8).sum).fmod 65531
noncomputable def baseN (ns:List Int):Nat:=(aCz ns).toNat
noncomputable def xsOf (ns:List Int):List Int:=ns.take 8++fixL
noncomputable def octB (y:Int):List Nat:=(List.range (octN y)).map fun k=>(kH y k).toNat
noncomputable def pxOf (x:Int):PX:=⟨(1+x.fmod 5).toNat,((x.fdiv 5).fmod 16).toNat,aU x,octB (aU x)⟩
noncomputable def Xof (ns:List Int):List PX:=(xsOf ns).map pxOf
theorem hJ (x:Int) {n:Int} (h:0 < n):0≤x.fmod n∧x.fmod n < n:=⟨Int.fmod_nonneg_of_pos _ h,Int.fmod_lt_of_pos _ h⟩
theorem nX (ns:List Int):(baseN ns:Int)=aCz ns∧baseN ns < 65531:=by
 have h:=hJ (9998+(ns.take 8).sum) (n:=65531) (by decide)
 unfold baseN aCz
 exact⟨Int.toNat_of_nonneg h.1,by omega⟩
theorem aVm (x:Int):PXok (pxOf x):=by
 have h5:=hJ x (n:=5) (by decide)
 have h16:=hJ (x.fdiv 5) (n:=16) (by decide)
 have h4:=sA (aU x)
 have hl:(octB (aU x)).length=octN (aU x):=by unfold octB; rw [List.length_map,List.length_range]
 refine⟨?_,?_,?_,?_,?_,?_⟩
 ·show ((x.fdiv 5).fmod 16).toNat < 16
  omega
 ·show 1≤(1+x.fmod 5).toNat
  omega
 ·show (1+x.fmod 5).toNat≤5
  omega
 ·intro b hb
  obtain⟨k,_,rfl⟩:=List.mem_map.mp hb
  have:=hJ (((aU x).fdiv 4).fdiv (256 ^ k)) (n:=256) (by decide)
  show (kH (aU x) k).toNat < 256
  unfold kH
  omega
 ·show (octB (aU x)).length≤4
  rw [hl]
  exact uG _
 ·show 0 < (octB (aU x)).length
  rw [hl]
  unfold octN
  omega
theorem px_D (x:Int):rP x=pxD (pxOf x):=by
 have h5:=hJ x (n:=5) (by decide)
 have h16:=hJ (x.fdiv 5) (n:=16) (by decide)
 have e1:(((1+x.fmod 5).toNat:Nat):Int)=1+x.fmod 5:=Int.toNat_of_nonneg (by omega)
 have e2:((((x.fdiv 5).fmod 16).toNat:Nat):Int)=(x.fdiv 5).fmod 16:=Int.toNat_of_nonneg h16.1
 have e3:(hH (aU x)).map D.int=intsD (octB (aU x)):=by
  unfold hH octB intsD
  rw [List.map_map,List.map_map]
  refine List.map_congr_left fun k _=>?_
  have h:=hJ (((aU x).fdiv 4).fdiv (256 ^ k)) (n:=256) (by decide)
  show D.int (kH (aU x) k)=D.int (((kH (aU x) k).toNat:Nat):Int)
  rw [show ((kH (aU x) k).toNat:Int)=kH (aU x) k from Int.toNat_of_nonneg h.1]
 unfold rP
 rw [e3,← e1,← e2]; rfl
theorem X_ok (ns:List Int):∀ z∈Xof ns,PXok z:=fun z hz=>by
 obtain⟨x,_,rfl⟩:=List.mem_map.mp hz
 exact aVm x
theorem aKa (ns:List Int):(xsOf ns).length≤26:=by
 unfold xsOf
 rw [List.length_append,List.length_take]
 exact Nat.add_le_add_right (Nat.min_le_left 8 _) 18
theorem kX (ns:List Int):(Xof ns).length≤26:=by unfold Xof; rw [List.length_map]; exact aKa ns
theorem qI:∀ l:List Int,bM (l.map D.int)=some l
 | []=>rfl
 | a::l=>by show (bM (l.map D.int)).map _=_; rw [qI l]; rfl
section
variable {k:Nat} {ns:List Int} {st:Store}
noncomputable def V38 (ns:List Int) (t:Vars):Vars:=([("script",.list (ns.map .int))]:Vars)++t
theorem aCi (h:ns.length≤63):slice (.list (ns.map D.int)) none (some ((8:Nat):Int))=some (.list ((ns.take 8).map .int)):=by
 show (if (true&&decide ((0:Int)≤(8:Nat)))=true then (if fits (ns.map D.int).length then some (D.list (((ns.map D.int).drop 0).take (min ((8:Nat):Int).toNat (ns.map D.int).length - 0))) else none) else none)=_
 rw [List.length_map,aF (Nat.le_trans h (by decide)),List.drop_zero,List.map_take]
 show some (D.list ((ns.map D.int).take (min 8 ns.length)))=_
 have e:=List.take_eq_take_min (l:=ns.map D.int) (i:=8)
 rw [List.length_map] at e
 rw [← e]
theorem aLy (l:List Int):bcall st (.builtin "sum") [.list (l.map .int)]=some (.int l.sum):=by
 show (bM (l.map D.int)).map (fun is=>D.int is.sum)=_
 rw [qI]; rfl
theorem law0 (h:ns.length≤63):(ops (GT k) 24).ex (cxOf 38) (V38 ns []) ((fBody (fnAt 38)).getD 0 (.Pass ⟨0,0,0,0⟩)) st=some (.next,V38 ns ([("base",.int (baseN ns:Nat))]:Vars),st):=by
 rw [(nX ns).1]
 exact aC (n:=23) (st':=st) (d:=.int (aCz ns)) rfl (aD (st':=st) (a:=.int (9998+(ns.take 8).sum)) (b:=.int 65531) (aD (st':=st) (a:=.int 9998) (b:=.int (ns.take 8).sum) rfl (ev_blt (st':=st) (fd:=.builtin "sum") (ds:=[.list ((ns.take 8).map .int)]) rfl (aB rfl rfl rfl) (aA rfl (fH (st':=st) (st₂:=st) (a:=none) (b:=some ((8:Nat):Int)) rfl rfl rfl (aCi h)) rfl) rfl (aLy _)) rfl) rfl rfl) rfl
noncomputable def fP:D→D
 | .int x=>rP x
 | d=>d
theorem law1 (h:ns.length≤63) {B:D}:(ops (GT (k+1)) 24).ex (cxOf 38) (V38 ns ([("base",B)]:Vars)) ((fBody (fnAt 38)).getD 1 (.Pass ⟨0,0,0,0⟩)) st=some (.next,V38 ns ([("base",B),("parts",.list ((Xof ns).map pxD))]:Vars),st):=by
 have e:((xsOf ns).map D.int).map fP=(Xof ns).map pxD:=by
  unfold Xof
  rw [List.map_map,List.map_map]
  exact List.map_congr_left fun x _=>px_D x
 have ei:(ns.take 8).map D.int++fixL.map D.int=(xsOf ns).map D.int:=List.map_append.symm
 refine aC (n:=23) (st':=st) (d:=.list ((Xof ns).map pxD)) rfl ?_ rfl
 rw [← e]
 show (ops (GT (k+1)) 24).ev (cxOf 38) (V38 ns ([("base",B)]:Vars)) (rhs 38 1) st=_
 refine bR (n:=22) (src:=.list ((xsOf ns).map D.int)) (ds:=(xsOf ns).map D.int) (fun d=>([("x",d)]:Vars)) fP [] rfl (aD (st':=st) (a:=.list ((ns.take 8).map .int)) (b:=.list (fixL.map .int)) (fH (st':=st) (st₂:=st) (a:=none) (b:=some ((8:Nat):Int)) rfl rfl rfl (aCi h)) rfl ?_) rfl rfl (fun d hd v hv L=>?_) rfl (fun d hd=>?_) (by rw [List.length_map]; exact Nat.le_trans (aKa ns) (by decide))
 ·rw [← ei]
  refine kR ?_
  rw [List.length_map,List.length_take]
  exact Nat.le_trans (Nat.add_le_add_right (Nat.min_le_left 8 _) 18) (by decide)
 ·rcases hv with rfl | ⟨_,_,rfl⟩ <;> rfl
 ·obtain⟨x,_,rfl⟩:=List.mem_map.mp hd
  refine⟨?_,fun L=>aX (a:=193) (ds:=[.int x]) (kd:=[]) rfl (aB rfl rfl rfl) (aA rfl rfl rfl) rfl (aTw k x _)⟩
  show noCell (rP x)=true
  rw [px_D]
  show (true&&(true&&(true&&(noCells (intsD (pxOf x).bs)&&true))))=true
  rw [bU]; rfl
noncomputable def V38a (ns:List Int) (t:Vars):Vars:=V38 ns (([("base",.int (baseN ns:Nat)),("parts",.list ((Xof ns).map pxD))]:Vars)++t)
noncomputable def hF (B:Nat) (d:D):D:=match (GT 4).fn 212 [d,.int (B:Nat)] [] [] with
 | some (.ret r,_)=>r
 | _=>.none
theorem aDt (z:PX) (Z:PXok z):hF (baseN ns) (pxD z)=tD (baseN ns) z:=by
 unfold hF
 rw [aMf (k:=0) (nX ns).2 Z]
theorem xZ (F:D→D) (hF:∀ z∈Xof ns,F (pxD z)=tD (baseN ns) z):((Xof ns).map pxD).map F=(Xof ns).map (tD (baseN ns)):=by
 rw [List.map_map]
 exact List.map_congr_left hF
theorem law2:(ops (GT (k+4)) 24).ex (cxOf 38) (V38a ns []) ((fBody (fnAt 38)).getD 2 (.Pass ⟨0,0,0,0⟩)) st=some (.next,V38a ns ([("heard",.list ((Xof ns).map (tD (baseN ns))))]:Vars),st):=by
 refine aC (n:=23) (st':=st) (d:=.list ((Xof ns).map (tD (baseN ns)))) rfl ?_ rfl
 rw [← xZ (hF (baseN ns)) fun z hz=>aDt z (X_ok ns z hz)]
 show (ops (GT (k+4)) 24).ev (cxOf 38) (V38a ns []) (rhs 38 2) st=_
 refine bR (n:=22) (src:=.list ((Xof ns).map pxD)) (ds:=(Xof ns).map pxD) (fun d=>([("base",.int (baseN ns:Nat)),("part",d)]:Vars)) (hF (baseN ns)) ([("base",.int (baseN ns:Nat))]:Vars) rfl rfl rfl rfl (fun d hd v hv L=>?_) rfl (fun d hd=>?_) (by rw [List.length_map]; exact Nat.le_trans (kX ns) (by decide))
 ·rcases hv with rfl | ⟨_,_,rfl⟩ <;> rfl
 ·obtain⟨z,hz,rfl⟩:=List.mem_map.mp hd
  rw [aDt z (X_ok ns z hz)]
  exact⟨(lK _ z).2,fun L=>aX (a:=212) (ds:=[pxD z,.int (baseN ns:Nat)]) (kd:=[]) rfl (aB rfl rfl rfl) (aA rfl rfl (aA rfl rfl rfl)) rfl (aMf (nX ns).2 (X_ok ns z hz))⟩
theorem sV {st:Store} {l:List D} (h:∀ x∈l,deqN 6 x x=some true):deqS st (.list l) (.list l)=some true:=(if_pos rfl).trans (vU h)
theorem law3:(ops (GT (k+4)) 24).ex (cxOf 38) (V38a ns ([("heard",.list ((Xof ns).map (tD (baseN ns))))]:Vars)) ((fBody (fnAt 38)).getD 3 (.Pass ⟨0,0,0,0⟩)) st=some (.next,V38a ns ([("heard",.list ((Xof ns).map (tD (baseN ns))))]:Vars),st):=by
 have hc:(ops (GT (k+4)) 22).ev (cxOf 38) (V38a ns ([("heard",.list ((Xof ns).map (tD (baseN ns))))]:Vars)) (match (fBody (fnAt 38)).getD 3 (.Pass ⟨0,0,0,0⟩) with | .If (.Compare _ _ [e] _) _ _ _=>e | _=>.Name "" ⟨0,0,0,0⟩) st=some (.list ((Xof ns).map (tD (baseN ns))),st):=by
  rw [← xZ (hF (baseN ns)) fun z hz=>aDt z (X_ok ns z hz)]
  refine bR (n:=20) (src:=.list ((Xof ns).map pxD)) (ds:=(Xof ns).map pxD) (fun d=>([("base",.int (baseN ns:Nat)),("part",d)]:Vars)) (hF (baseN ns)) ([("base",.int (baseN ns:Nat))]:Vars) rfl rfl rfl rfl (fun d hd v hv L=>?_) rfl (fun d hd=>?_) (by rw [List.length_map]; exact Nat.le_trans (kX ns) (by decide))
  ·rcases hv with rfl | ⟨_,_,rfl⟩ <;> rfl
  ·obtain⟨z,hz,rfl⟩:=List.mem_map.mp hd
   rw [aDt z (X_ok ns z hz)]
   exact⟨(lK _ z).2,fun L=>aX (a:=219) (ds:=[pxD z,.int (baseN ns:Nat)]) (kd:=[]) rfl (aB rfl rfl rfl) (aA rfl rfl (aA rfl rfl rfl)) rfl (aTh (nX ns).2 (X_ok ns z hz))⟩
 refine ex_if_f (n:=23) (st':=st) (tr_cmp (st':=st) (a:=.list ((Xof ns).map (tD (baseN ns)))) (b:=.list ((Xof ns).map (tD (baseN ns)))) rfl hc ?_) rfl
 show (deqS st (.list ((Xof ns).map (tD (baseN ns)))) (.list ((Xof ns).map (tD (baseN ns))))).map (!·)=_
 rw [sV fun x hx=>by
  obtain⟨z,_,rfl⟩:=List.mem_map.mp hx
  exact (lK _ z).1]
 rfl
end
end Mine
end
section -- R49
open PySem
namespace Mine
section
variable {G:Gx} {n k:Nat} {o:Ops} {cx:Cx} {vars:Vars} {st:Store}
theorem aCs {e:Expr} {b:Bool} (h:o.tr cx vars e st=some (b,st)):ifsT o cx vars [e] st=some (b,st):=by
 show (o.tr cx vars e st).bind _=_
 rw [h]
 cases b <;> rfl
theorem aFo {l s:List D} (h1:l.length < 64) (h2:fM l=true) (h3:dG l=some s):bcall st (.builtin "sorted") [.list l]=some (.list s):=by
 show (if (decide (l.length < 64)&&fM l)=true then (dG l).map D.list else none)=_
 rw [h2,h3,decide_eq_true h1]; rfl
end
noncomputable def bP (i:Nat):D→Bool
 | .list (.int p::.int m::_)=>(p == (i:Int))&&decide (m < 8)
 | _=>false
noncomputable def eF:D→D
 | .list [_,_,_,.list l]=>.list [.str (writ (((bM l).getD []).map Int.toNat)),.list l]
 | d=>d
noncomputable def pV (i:D):D→Vars
 | .list [a,b,c,d]=>([("place",i),("where",a),("manner",b),("y",c),("octets",d)]:Vars)
 | _=>[]
theorem aRj (z:PX):eF (pxD z)=entD (ent z):=by
 show D.list [.str (writ (((bM (intsD z.bs)).getD []).map Int.toNat)),.list (intsD z.bs)]=_
 rw [gK]
 show D.list [.str (writ ((z.bs.map fun (c:Nat)=>(c:Int)).map Int.toNat)),.list (intsD z.bs)]=_
 rw [List.map_map,show z.bs.map (Int.toNat ∘ fun (c:Nat)=>(c:Int))=z.bs from List.map_id _]; rfl
theorem aUz (i:Nat) (z:PX):bP i (pxD z)=(z.p == i&&decide (z.m < 8)):=by
 show (((z.p:Int) == (i:Int))&&decide ((z.m:Int) < 8))=_
 have e1:((z.p:Int) == (i:Int))=(z.p == i):=by
  rw [Bool.eq_iff_iff,beq_iff_eq,beq_iff_eq]
  exact⟨Int.ofNat.inj,congrArg _⟩
 have e2:decide ((z.m:Int) < 8)=decide (z.m < 8):=decide_eq_decide.mpr (by omega)
 rw [e1,e2]
theorem aGi (X:List PX) (i:Nat):((X.map pxD).filter (bP i)).map eF=(filt X i).map fun z=>entD (ent z):=by
 rw [List.filter_map,List.map_map]
 unfold filt
 have e:X.filter (bP i ∘ pxD)=X.filter fun z=>z.p == i&&decide (z.m < 8):=List.filter_congr fun z _=>aUz i z
 rw [e]
 exact List.map_congr_left fun z _=>aRj z
noncomputable def plF (X:List PX):D→D
 | .int i=>cA (eQ X i.toNat)
 | d=>d
theorem aPn (P:List Ent):noCell (cA P)=true:=hY (fun e=>by
 show (true&&(noCells (intsD e.2)&&true))=true
 rw [bU]; rfl) P
section
variable {k:Nat} {ns:List Int} {st:Store}
theorem aMt (e:Ent):noCell (entD e)=true:=by
 show (true&&(noCells (intsD e.2)&&true))=true
 rw [bU]; rfl
noncomputable def elt4:Expr:=match rhs 38 4 with
 | .ListComp e _ _ _=>e
 | e=>e
noncomputable def arg1:Expr→Expr
 | .Call _ [a] _ _=>a
 | e=>e
noncomputable def cx4:Cx:=compCx (cxOf 38) (match rhs 38 4 with | .ListComp _ _ sc _=>sc | _=>⟨.function,[],false,false,[]⟩)
theorem aHz {i:Nat}:(ops (GT (k+1)) 21).ev cx4 ([("parts",.list ((Xof ns).map pxD)),("place",.int (i:Nat))]:Vars) (arg1 elt4) st=some (.list ((filt (Xof ns) i).map fun z=>entD (ent z)),st):=by
 rw [← aGi]
 refine qP (src:=.list ((Xof ns).map pxD)) (ds:=(Xof ns).map pxD) (pV (.int (i:Nat))) (bP i) eF ([("place",.int (i:Nat))]:Vars) rfl rfl rfl rfl (fun d hd v hv L=>?_) (fun d hd L=>?_) (fun d hd hb=>?_) (by rw [List.length_map]; exact Nat.le_trans (kX ns) (by decide))
 ·obtain⟨z,_,rfl⟩:=List.mem_map.mp hd
  rcases hv with rfl | ⟨d',hd',rfl⟩
  ·rfl
  ·obtain⟨z',_,rfl⟩:=List.mem_map.mp hd'
   rfl
 ·obtain⟨z,_,rfl⟩:=List.mem_map.mp hd
  exact aCs (lA (tr_cmp (st':=st++[L]) (a:=.int (z.p:Nat)) (b:=.int (i:Nat)) rfl rfl rfl) (tr_cmp (st':=st++[L]) (a:=.int (z.m:Nat)) (b:=.int 8) rfl rfl rfl))
 ·obtain⟨z,hz,rfl⟩:=List.mem_map.mp hd
  have Z:=(X_ok ns z hz).oct
  rw [aRj]
  exact⟨aMt _,fun L=>bX (aA rfl (aX (a:=198) (ds:=[.list (intsD z.bs)]) (kd:=[]) rfl (aB rfl rfl rfl) (aA rfl rfl rfl) rfl (aIk k z.bs _ Z.lt Z.len Z.pos)) (aA rfl rfl rfl)) (by
   have:=aMt (ent z)
   show (noCell (entD (ent z))&&true)=true
   rw [this]; rfl)⟩
theorem law4 {H:D}:(ops (GT (k+1)) 24).ex (cxOf 38) (V38a ns ([("heard",H)]:Vars)) ((fBody (fnAt 38)).getD 4 (.Pass ⟨0,0,0,0⟩)) st=some (.next,V38a ns ([("heard",H),("piles",.list ((pls (Xof ns)).map cA))]:Vars),st):=by
 have e:((List.range 7).map fun (j:Nat)=>D.int (j:Nat)).map (plF (Xof ns))=(pls (Xof ns)).map cA:=by
  unfold pls
  rw [List.map_map,List.map_map]; rfl
 refine aC (n:=23) (st':=st) (d:=.list ((pls (Xof ns)).map cA)) rfl ?_ rfl
 rw [← e]
 show (ops (GT (k+1)) 24).ev (cxOf 38) (V38a ns ([("heard",H)]:Vars)) (rhs 38 4) st=_
 refine bR (n:=22) (src:=.range 0 7 1) (ds:=(List.range 7).map fun (j:Nat)=>D.int (j:Nat)) (fun d=>([("parts",.list ((Xof ns).map pxD)),("place",d)]:Vars)) (plF (Xof ns)) ([("parts",.list ((Xof ns).map pxD))]:Vars) rfl (ev_blt (fd:=.type "range") (ds:=[.int 7]) rfl (aB rfl rfl rfl) rfl rfl rfl) rfl rfl (fun d hd v hv L=>?_) rfl (fun d hd=>?_) (by decide)
 ·rcases hv with rfl | ⟨_,_,rfl⟩ <;> rfl
 ·obtain⟨i,hi,rfl⟩:=List.mem_map.mp hd
  have P:=pile_ok (Xof ns) i
  refine⟨aPn _,fun L=>?_⟩
  have hl:((filt (Xof ns) i).map fun z=>entD (ent z)).length < 64:=by
   rw [List.length_map]
   exact Nat.lt_of_le_of_lt (Nat.le_trans (vN i) (kX ns)) (by decide)
  exact ev_blt (fd:=.builtin "sorted") (ds:=[.list ((filt (Xof ns) i).map fun z=>entD (ent z))]) rfl (aB rfl rfl rfl) (aA rfl aHz rfl) rfl (aFo hl P.ord P.sort)
end
end Mine
end
section -- R50
open PySem
namespace Mine
theorem xK {b:Int} {W:Nat→List (List Nat)}:∀ p,∀ r∈rowsAt b W p,∀ w∈r.ws,∃ p',w∈W p'
 | 0,r,h=>nomatch h
 | p+1,r,h=>by
  have zm:∀ {a:List Row} {ws:List (List Nat)} {x:Row},x∈List.zipWith (extR (b+(p+1:Nat))) a ws→∃ s∈a,∃ w∈ws,x=extR (b+(p+1:Nat)) s w:=by
   intro a
   induction a with
   | nil=>intro ws x h; rw [List.zipWith_nil_left] at h; cases h
   | cons s a ih =>
    intro ws x h
    cases ws with
    | nil=>rw [List.zipWith_nil_right] at h; cases h
    | cons w ws =>
     rcases List.mem_cons.mp h with rfl | h
     ·exact⟨s,List.mem_cons_self,w,List.mem_cons_self,rfl⟩
     ·obtain⟨s',h1,w',h2,h3⟩:=ih h
      exact⟨s',List.mem_cons_of_mem _ h1,w',List.mem_cons_of_mem _ h2,h3⟩
  intro w hw
  rcases List.mem_append.mp h with h | h
  ·obtain⟨v,hv,rfl⟩:=List.mem_map.mp h
   have:w=v:=List.mem_singleton.mp hw
   exact⟨p+1,this▸List.mem_of_mem_drop hv⟩
  ·obtain⟨s,hs,v,hv,rfl⟩:=zm h
   rcases List.mem_append.mp (show w∈s.ws++[v] from hw) with hw | hw
   ·exact xK p s hs w hw
   ·exact⟨p+1,List.mem_singleton.mp hw▸hv⟩
theorem xC {b:Int} {W:Nat→List (List Nat)}:∀ p,∀ r∈gone b W p,∀ w∈r.ws,∃ p',w∈W p'
 | 0,r,h=>nomatch h
 | p+1,r,h=>(List.mem_append.mp h).elim (xC p r) fun h=>xK p r (List.mem_of_mem_drop h)
section
variable {X:List PX}
theorem aJw {p:Nat} {w:List Nat} (h:w∈txt (pls X) p):∃ z∈X,w=writ z.bs:=by
 unfold txt at h
 by_cases hp:p < 7
 ·rw [jW hp] at h
  obtain⟨e,he,rfl⟩:=List.mem_map.mp h
  obtain⟨z,hz,rfl⟩:=List.mem_map.mp ((pile_ok X p).perm.subset he)
  exact⟨z,(List.mem_filter.mp hz).1,rfl⟩
 ·rw [oD hp] at h; cases h
end
noncomputable def sh (b:Int) (r:Row):Row:=⟨b+r.q,r.n,r.ws⟩
theorem oQ (b:Int) (W:Nat→List (List Nat)):∀ p,rowsAt b W p=(rowsAt 0 W p).map (sh b)
 | 0=>rfl
 | p+1=>by
  have zs:∀ (l:List Row) (ws:List (List Nat)),List.zipWith (extR (b+(p+1:Nat))) (l.map (sh b)) ws=(List.zipWith (extR (0+(p+1:Nat))) l ws).map (sh b):=by
   intro l
   induction l with
   | nil=>intro ws; rw [List.map_nil,List.zipWith_nil_left,List.zipWith_nil_left]; rfl
   | cons s l ih =>
    intro ws
    cases ws with
    | nil=>rw [List.zipWith_nil_right,List.zipWith_nil_right]; rfl
    | cons w ws =>
     show extR (b+(p+1:Nat)) (sh b s) w::List.zipWith _ (l.map (sh b)) ws=sh b (extR (0+(p+1:Nat)) s w)::_
     rw [ih,Int.zero_add]; rfl
  show ((W (p+1)).drop (rowsAt b W p).length).map _++List.zipWith _ (rowsAt b W p) (W (p+1))=(((W (p+1)).drop (rowsAt 0 W p).length).map _++List.zipWith _ (rowsAt 0 W p) (W (p+1))).map (sh b)
  rw [oQ b W p,List.length_map,zs,List.map_append,List.map_map]
  refine congrArg (·++_) (List.map_congr_left fun w _=>?_)
  show newR (b+(p+1:Nat)) w=sh b (newR (0+(p+1:Nat)) w)
  rw [Int.zero_add]; rfl
theorem jT (b:Int) (W:Nat→List (List Nat)):∀ p,gone b W p=(gone 0 W p).map (sh b)
 | 0=>rfl
 | p+1=>by
  show gone b W p++(rowsAt b W p).drop _=(gone 0 W p++(rowsAt 0 W p).drop _).map (sh b)
  rw [jT b W p,oQ b W p,List.map_append,List.map_drop]
theorem aBk:∀ (ps:List (Int×List Nat)) (rs os:List Row),(lay ps rs os).1.length+(lay ps rs os).2.length≤rs.length+os.length+ps.length
 | [],rs,os=>Nat.le_refl _
 | x::ps,rs,os=>by
  have h:=aBk ps (putR x.1 x.2 (rs.dropWhile (early x.1))) (os++rs.takeWhile (early x.1))
  have hp:∀ l:List Row,(putR x.1 x.2 l).length≤l.length+1:=fun l=>by
   cases l with
   | nil=>exact Nat.le_refl _
   | cons r t =>
    rw [eA]
    cases r.q == x.1 - 1 with
    | true =>
     show (insR _ t).length≤_
     rw [lM]
     exact Nat.le_succ _
    | false=>exact Nat.le_of_eq (lM _ _)
  have h2:=hp (rs.dropWhile (early x.1))
  have h3:(rs.takeWhile (early x.1)).length+(rs.dropWhile (early x.1)).length=rs.length:=by rw [← List.length_append,List.takeWhile_append_dropWhile]
  rw [List.length_append] at h
  show (lay ps (putR x.1 x.2 (rs.dropWhile (early x.1))) (os++rs.takeWhile (early x.1))).1.length+(lay ps (putR x.1 x.2 (rs.dropWhile (early x.1))) (os++rs.takeWhile (early x.1))).2.length≤rs.length+os.length+(ps.length+1)
  lia
section
variable {X:List PX} (hX:∀ z∈X,PXok z) (hl:X.length≤26) (B:Nat)
include hX
theorem aCh:(lay (psOf B X) [] []).2++(lay (psOf B X) [] []).1=gone (B:Int) (txt (pls X)) 6 :=
 aOa (b:=(B:Int)) (W:=txt (pls X)) (n:=5) (List.eq_nil_of_length_eq_zero ((iF 0).trans (nn_0 hX))) qB (List.eq_nil_of_length_eq_zero ((iF 6).trans (nn_6 hX)))
include hl
theorem oN (b:Int):(gone b (txt (pls X)) 6).length≤26:=by
 have e:(gone b (txt (pls X)) 6).length=(gone ((0:Nat):Int) (txt (pls X)) 6).length:=by
  rw [jT b,List.length_map]; rfl
 rw [e,← aCh hX 0,List.length_append]
 have h1:=aBk (psOf 0 X) [] []
 have h2:=aKv hX 0
 have h3:=aHn hX 0
 rw [List.length_nil] at h1
 lia
theorem aJz:(ends (pls X) 6).length≤60:=by
 have h:=(mL (pl:=pls X) (nn_0 hX) 6 (by decide)).length_eq
 rw [List.length_map] at h
 rw [← h]
 exact Nat.le_trans (oN hX hl 0) (by decide)
end
end Mine
end
section -- R51
open PySem
namespace Mine
section
variable {k:Nat} {ns:List Int} {st:Store}
noncomputable abbrev dW (ns:List Int):List Row:=gone (baseN ns:Int) (txt (pls (Xof ns))) 6
noncomputable abbrev zE (ns:List Int):List Row:=gone 0 (txt (pls (Xof ns))) 6
theorem aFz:(GT (k+4)).fn 226 [.list ((hsOf (baseN ns) (Xof ns)).map heardD)] [] st=some (.ret (.list (rowsD (dW ns))),st):=by
 have hX:=X_ok ns
 have hl:=kX ns
 have h1:=aHn hX (baseN ns)
 have h2:=aKv hX (baseN ns)
 have h:=aUc k st (hsOf (baseN ns) (Xof ns)) (psOf (baseN ns) (Xof ns)) (aQm hX (baseN ns)) (by lia) (by lia) (fun x hx=>by
  obtain⟨j,_,hx⟩:=List.mem_flatMap.mp hx
  obtain⟨w,_,rfl⟩:=List.mem_map.mp hx
  show (0:Int) < (baseN ns:Int)+(j+1:Nat)
  omega) (fun e=>List.eq_nil_of_length_eq_zero (by rw [h2,e]; rfl))
 rw [aCh hX] at h
 exact h
theorem law5 {P:D}:(ops (GT (k+4)) 24).ex (cxOf 38) (V38a ns ([("heard",.list ((Xof ns).map (tD (baseN ns)))),("piles",P)]:Vars)) ((fBody (fnAt 38)).getD 5 (.Pass ⟨0,0,0,0⟩)) st=some (.next,V38a ns ([("heard",.list ((Xof ns).map (tD (baseN ns)))),("piles",P),("off",.list (rowsD (dW ns)))]:Vars),st):=by
 have hc:(ops (GT (k+4)) 22).ev (cxOf 38) (V38a ns ([("heard",.list ((Xof ns).map (tD (baseN ns)))),("piles",P)]:Vars)) (arg1 (rhs 38 5)) st=some (.list ((hsOf (baseN ns) (Xof ns)).map heardD),st):=by
  rw [← zY (X_ok ns)]
  refine qP (n:=20) (src:=.list ((Xof ns).map (tD (baseN ns)))) (ds:=(Xof ns).map (tD (baseN ns))) (fun d=>([("told",d)]:Vars)) bFr id [] rfl rfl rfl rfl (fun d hd v hv L=>?_) (fun d hd L=>?_) (fun d hd hb=>?_) (by rw [List.length_map]; exact Nat.le_trans (kX ns) (by decide))
  ·rcases hv with rfl | ⟨_,_,rfl⟩ <;> rfl
  ·obtain⟨z,_,rfl⟩:=List.mem_map.mp hd
   refine aCs ?_
   rcases pW (baseN ns) z with ⟨a,b,e,_⟩ | ⟨w,e,_⟩
   ·rw [e]
    exact gE (tr_cmp (st':=st++[L]) (a:=.int 2) (b:=.int 3) (ev_blt (fd:=.builtin "len") (ds:=[.list [.str a,.str b]]) rfl (aB rfl rfl rfl) (aA rfl rfl rfl) rfl rfl) rfl rfl)
   ·rw [e]
    exact lA (c:=true) (tr_cmp (st':=st++[L]) (a:=.int 3) (b:=.int 3) (ev_blt (fd:=.builtin "len") (ds:=[.list [.str w,.tuple [.str (ipL z.p),.int ((baseN ns:Int)+z.p)],.str (decI ((baseN ns:Int)+z.p))]]) rfl (aB rfl rfl rfl) (aA rfl rfl rfl) rfl rfl) rfl rfl)
     (tr_cmp (st':=st++[L]) (a:=.str w) (b:=.str []) (ev_idx (st':=st++[L]) (d:=.list [.str w,.tuple [.str (ipL z.p),.int ((baseN ns:Int)+z.p)],.str (decI ((baseN ns:Int)+z.p))]) (j:=.int 0) rfl rfl rfl rfl) rfl rfl)
  ·obtain⟨z,_,rfl⟩:=List.mem_map.mp hd
   exact⟨(lK _ z).2,fun L=>rfl⟩
 exact aC (n:=23) (st':=st) (d:=.list (rowsD (dW ns))) rfl (aX (a:=226) (ds:=[.list ((hsOf (baseN ns) (Xof ns)).map heardD)]) (kd:=[]) rfl (aB rfl rfl rfl) (aA rfl hc rfl) rfl aFz) rfl
noncomputable def dF:D→D
 | .str w=>.bytes (decT w)
 | d=>d
noncomputable def rF:D→D
 | .list [a,b,.list ws]=>.list [a,b,.list (ws.map dF)]
 | d=>d
noncomputable def v3:D→Vars
 | .list [a,b,c]=>([("last",a),("many",b),("texts",c)]:Vars)
 | _=>[]
theorem aMq (r:Row):rF (rowD r)=row3 decT r:=by
 show D.list [.int r.q,.int (r.n:Nat),.list ((r.ws.map D.str).map dF)]=_
 rw [List.map_map]; rfl
noncomputable def elt6:Expr:=match rhs 38 6 with
 | .ListComp (.List [_,_,e] _) _ _ _=>e
 | e=>e
noncomputable def cx6:Cx:=compCx (cxOf 38) (match rhs 38 6 with | .ListComp _ _ sc _=>sc | _=>⟨.function,[],false,false,[]⟩)
theorem aFk {r:Row} (hr:r∈dW ns) (hn:r.ws.length≤900) {a b:D}:(ops (GT (k+3)) 21).ev cx6 ([("last",a),("many",b),("texts",.list (r.ws.map .str))]:Vars) elt6 st=some (.list ((r.ws.map .str).map dF),st):=by
 refine bR (n:=19) (src:=.list (r.ws.map .str)) (ds:=r.ws.map .str) (fun d=>([("written",d)]:Vars)) dF [] rfl rfl rfl rfl (fun d hd v hv L=>?_) rfl (fun d hd=>?_) (by rw [List.length_map]; exact hn)
 ·rcases hv with rfl | ⟨_,_,rfl⟩ <;> rfl
 ·obtain⟨w,hw,rfl⟩:=List.mem_map.mp hd
  obtain⟨p,hp⟩:=xC 6 r hr w hw
  obtain⟨z,hz,rfl⟩:=aJw hp
  have Z:=(X_ok ns z hz).oct
  refine⟨rfl,fun L=>aX (a:=153) (ds:=[.str (writ z.bs),.bytes [34,32]]) (kd:=[]) rfl (aB rfl rfl rfl) (aA rfl rfl (aA rfl rfl rfl)) rfl ?_⟩
  show _=some (Res.ret (.bytes (decT (writ z.bs))),_)
  rw [sX Z]
  exact aDw k _ Z
end
end Mine
end
section -- R52
open PySem
namespace Mine
theorem aCq {b:Int} {W:Nat→List (List Nat)}:∀ p,∀ r∈rowsAt b W p,r.ws.length≤p
 | 0,r,h=>nomatch h
 | p+1,r,h=>by
  rcases List.mem_append.mp h with h | h
  ·obtain⟨v,_,rfl⟩:=List.mem_map.mp h
   exact Nat.succ_le_succ (Nat.zero_le p)
  ·obtain⟨s,hs,w,rfl⟩:=aBn h
   show (s.ws++[w]).length≤p+1
   rw [List.length_append]
   exact Nat.succ_le_succ (aCq p s hs)
theorem aDh {b:Int} {W:Nat→List (List Nat)}:∀ p,∀ r∈gone b W p,r.ws.length≤p
 | 0,r,h=>nomatch h
 | p+1,r,h=>(List.mem_append.mp h).elim (fun h=>Nat.le_succ_of_le (aDh p r h)) fun h=>Nat.le_succ_of_le (aCq p r (List.mem_of_mem_drop h))
noncomputable def sF (b:Int):D→D
 | .list [.int q,n,o]=>.list [.int (b+q),n,o]
 | d=>d
noncomputable def vO (b:D):D→Vars
 | .list [x,y,z]=>([("base",b),("last",x),("many",y),("octets",z)]:Vars)
 | _=>[]
theorem aFq (r:Row):deqN 6 (row3 decT r) (row3 decT r)=some true :=
 eZ (aQ (jC 4 _) (aQ (jC 4 _) (aQ (lR fun w=>tT 3 (decT w)) rfl)))
theorem aSu {G:Gx} {n:Nat} {cx:Cx} {vars:Vars} {st st' st₂:Store} {l r:Expr} {op:CmpOp} {p:Pos} {a b:D} {c:Bool} (h1:(ops G n).ev cx vars l st=some (a,st')) (h2:(ops G n).ev cx vars r st'=some (b,st₂)) (h3:cmpop st₂ op a b=some c):(ops G (n+1)).ev cx vars (.Compare l [op] [r] p) st=some (.bool c,st₂):=bI h1 (bI rfl (bI rfl (bI h2 (bI h3 rfl))))
section
variable {k:Nat} {ns:List Int} {st:Store}
theorem law6 {H P:D}:(ops (GT (k+3)) 24).ex (cxOf 38) (V38a ns ([("heard",H),("piles",P),("off",.list (rowsD (dW ns)))]:Vars)) ((fBody (fnAt 38)).getD 6 (.Pass ⟨0,0,0,0⟩)) st=some (.next,V38a ns ([("heard",H),("piles",P),("off",.list (rowsD (dW ns))),("rows",.list ((dW ns).map (row3 decT)))]:Vars),st):=by
 have e:(rowsD (dW ns)).map rF=(dW ns).map (row3 decT):=by
  unfold rowsD
  rw [List.map_map]
  exact List.map_congr_left fun r _=>aMq r
 have hlen:=oN (X_ok ns) (kX ns) (baseN ns:Int)
 refine aC (n:=23) (st':=st) (d:=.list ((dW ns).map (row3 decT))) rfl ?_ rfl
 rw [← e]
 show (ops (GT (k+3)) 24).ev (cxOf 38) (V38a ns ([("heard",H),("piles",P),("off",.list (rowsD (dW ns)))]:Vars)) (rhs 38 6) st=_
 refine bR (n:=22) (src:=.list (rowsD (dW ns))) (ds:=rowsD (dW ns)) v3 rF [] rfl rfl rfl rfl (fun d hd v hv L=>?_) rfl (fun d hd=>?_) (by unfold rowsD; rw [List.length_map]; exact Nat.le_trans hlen (by decide))
 ·obtain⟨r,_,rfl⟩:=List.mem_map.mp hd
  rcases hv with rfl | ⟨d',hd',rfl⟩
  ·rfl
  ·obtain⟨r',_,rfl⟩:=List.mem_map.mp hd'
   rfl
 ·obtain⟨r,hr,rfl⟩:=List.mem_map.mp hd
  have hn:=kW decT r
  rw [← aMq] at hn
  refine⟨hn,fun L=>bX (aA rfl rfl (aA rfl rfl (aA rfl (aFk hr (Nat.le_trans (aDh 6 r hr) (by decide))) rfl))) ?_⟩
  show (noCell (rF (rowD r))&&true)=true
  rw [hn]; rfl
theorem aFy:(GT (k+1)).fn 231 [.list ((pls (Xof ns)).map cA)] [] st=some (.ret (.list ((zE ns).map (row3 decT))),st):=by
 have hX:=X_ok ns
 have hl:=kX ns
 exact aPi (by unfold pls; rw [List.length_map,List.length_range]) (nn_0 hX) (nn_6 hX) (fun p=>Nat.le_trans (aUp p) (Nat.le_trans hl (by decide))) (aJz hX hl) (fun p i=>(rJ hX p i).2.elim id fun e=>by rw [e]; exact aKl) (fun p i=>(rJ hX p i).1) qB fun Q hQ=>by
   obtain⟨i,_,rfl⟩:=List.mem_map.mp hQ
   exact Nat.le_trans (pile_len i) (Nat.le_trans hl (by decide))
theorem aOh (rs:List Row):cmpop st .Eq (.list (rs.map (row3 decT))) (.list (rs.map (row3 decT)))=some true:=by
 show deqS st (.list (rs.map (row3 decT))) (.list (rs.map (row3 decT)))=_
 refine sV fun x hx=>?_
 obtain⟨r,_,rfl⟩:=List.mem_map.mp hx
 exact aFq r
theorem law7 {H O:D}:(ops (GT (k+1)) 24).ex (cxOf 38) (V38a ns ([("heard",H),("piles",.list ((pls (Xof ns)).map cA)),("off",O),("rows",.list ((dW ns).map (row3 decT)))]:Vars)) ((fBody (fnAt 38)).getD 7 (.Pass ⟨0,0,0,0⟩)) st=some (.ret (.bool true),V38a ns ([("heard",H),("piles",.list ((pls (Xof ns)).map cA)),("off",O),("rows",.list ((dW ns).map (row3 decT)))]:Vars),st):=by
 have hX:=X_ok ns
 have hl:=kX ns
 have hdue:=fun S=>aFy (k:=k) (ns:=ns) (st:=S)
 have e:((zE ns).map (row3 decT)).map (sF (baseN ns:Int))=(dW ns).map (row3 decT):=by
  have q:=congrArg (List.map (row3 decT)) (jT (baseN ns:Int) (txt (pls (Xof ns))) 6)
  rw [List.map_map] at q ⊢
  exact q.symm
 have hlen:=oN hX hl 0
 have hc:∀ R:D,(ops (GT (k+1)) 22).ev (cxOf 38) (V38a ns ([("heard",H),("piles",.list ((pls (Xof ns)).map cA)),("off",O),("rows",R)]:Vars)) (match rhs 38 7 with | .Compare _ _ [e] _=>e | e=>e) st=some (.list ((dW ns).map (row3 decT)),st):=by
  intro R
  refine Eq.trans (b:=some (D.list (((zE ns).map (row3 decT)).map (sF (baseN ns:Int))),st)) ?_ (congrArg (fun l=>some (D.list l,st)) e)
  refine bR (n:=20) (src:=.list ((zE ns).map (row3 decT))) (ds:=(zE ns).map (row3 decT)) (vO (.int (baseN ns:Nat))) (sF (baseN ns:Int)) ([("base",.int (baseN ns:Nat))]:Vars) rfl (aX (a:=231) (ds:=[.list ((pls (Xof ns)).map cA)]) (kd:=[]) rfl (aB rfl rfl rfl) (aA rfl rfl rfl) rfl (hdue st)) rfl rfl (fun d hd v hv L=>?_) rfl (fun d hd=>?_) (by rw [List.length_map]; exact Nat.le_trans hlen (by decide))
  ·obtain⟨r,_,rfl⟩:=List.mem_map.mp hd
   rcases hv with rfl | ⟨d',hd',rfl⟩
   ·rfl
   ·obtain⟨r',_,rfl⟩:=List.mem_map.mp hd'
    rfl
  ·obtain⟨r,hr,rfl⟩:=List.mem_map.mp hd
   have hn:=kW decT (sh (baseN ns:Int) r)
   refine⟨hn,fun L=>bX (aA rfl (aD (st':=st++[L]) (a:=.int (baseN ns:Nat)) (b:=.int r.q) rfl rfl rfl) (aA rfl rfl (aA rfl rfl rfl))) ?_⟩
   show (noCell (row3 decT (sh (baseN ns:Int) r))&&true)=true
   rw [hn]; rfl
 exact aP (n:=23) (aSu (st':=st) (a:=.list ((dW ns).map (row3 decT))) rfl (hc _) (aOh _))
end
theorem law_true (ns:List Int) (h:ns.length≤63):∃ k st',k≤60∧runF (GT k) (fScope (fnAt 38)) (fBody (fnAt 38)) [("script",.list (ns.map .int))] []=some (.ret (.bool true),st') :=
 ⟨4,_,by decide,aK (exs_one (law0 (k:=4) (st:=[]) h) (exs_one (law1 (k:=3) h) (exs_one (law2 (k:=0)) (exs_one (law3 (k:=0)) (exs_one (law4 (k:=3)) (exs_one (law5 (k:=0)) (exs_one (law6 (k:=1)) (aE (law7 (k:=3)))))))))) (aG rfl)⟩
end Mine
end
theorem PySem.Challenge.cw_oy0126_01_holds : PySem.Challenge.rw_oy0126_01.Holds :=
 Mine.law_holds Mine.law_true
