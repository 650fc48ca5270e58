import PyProof.Rows.All
import PyProof.SliceList
import Wide.All
import OpenK.AllK
import Wide.FinOn
import PySem.Challenge.RW_re0165_01
set_option Elab.async false
set_option maxRecDepth 100000

-- part M1
section
namespace Mine
open PySem

inductive At where
  | int (i : Int)
  | str (x : Str)
inductive It where
  | at (a : At)
  | pair (a b : At)
inductive V where
  | none
  | bool (b : Bool)
  | it (i : It)
  | lst (xs : List It)
  | val (v : Value)
  | own (i : Nat)
inductive AO where
  | list (xs : List It)
  | dict (kvs : List (Str × Int))
  | inst (C : Addr) (fs : List (Str × V))
  | stream (rest : List Nat)
  | citer (self : Nat) (live : Bool)
  | tbl (made : Nat)

/-- where the items come from: a tracked list, or an iterator that hands out tuples of short life -/
structure Src where
  own : Option (Nat × List It) := Option.none
  short : Bool := false

noncomputable abbrev V.int (i : Int) : V := .it (.at (.int i))
noncomputable abbrev V.str (x : Str) : V := .it (.at (.str x))
noncomputable abbrev Loc := List (Str × V)
noncomputable abbrev AS := List AO

inductive Flw where
  | next
  | cont
  | ret (v : V)

inductive Res where
  | v (a : V)
  | vs (l : List V)
  | its (l : List It)
  | src (l : List It) (g : Src)
  | b (b : Bool)
  | ex (f : Flw) (loc : Loc)

inductive Job where
  | eval (sc : Scope) (loc : Loc) (e : Expr)
  | evalT (sc : Scope) (loc : Loc) (e : Expr)
  | evals (sc : Scope) (loc : Loc) (es : List Expr)
  | cond (sc : Scope) (loc : Loc) (e : Expr)
  | iter (sc : Scope) (loc : Loc) (e : Expr)
  | exec (sc : Scope) (loc : Loc) (st : Stmt)
  | execs (sc : Scope) (loc : Loc) (sts : List Stmt)
  | forL (sc : Scope) (loc : Loc) (target : Expr) (g : Src) (items : List It) (body : List Stmt)
  | forC (sc : Scope) (loc : Loc) (target : Expr) (k : Nat) (body : List Stmt)
  | whileL (sc : Scope) (loc : Loc) (test : Expr) (body : List Stmt)
  | comp (sc : Scope) (loc : Loc) (elt : Expr) (g : Comprehension) (gs : List Comprehension) (src : Src) (items : List It)
  | call (f : V) (args : List V) (kw : List (Str × V))

noncomputable abbrev Runner := Job → AS → Option (Res × AS)

noncomputable def get (loc : Loc) (x : Str) : Option V := loc.lookup x
noncomputable def put (loc : Loc) (x : Str) (v : V) : Loc := match loc with
  | [] => [(x, v)]
  | (y, u) :: r => if y = x then (y, v) :: r else (y, u) :: put r x v

noncomputable def toV : Value → V
  | .none => .none
  | .bool b => .bool b
  | .int i _ => .int i
  | .str x _ => .str x
  | v => .val v

/-- a function of the text: its address, parameters, block, scope; whether it runs on the caller's objects -/
structure Fn where
  a : Addr
  ps : List Str
  body : List Stmt
  sc : Scope
  inl : Bool
  /-- what stands for the last parameter where it is not given -/
  df : List V := []
  /-- the one parameter that is given by its name -/
  kwn : Option Str := none

structure Setup where
  gl : Str → Option V
  fn : Addr → Option Fn
  /-- the class of that address: its __init__ -/
  cls : Addr → Option Addr
  /-- a class's function by name -/
  meth : Addr → Str → Option Addr
  /-- functions and classes that a tree may call -/
  keep : Addr → Bool
  /-- the names of a class's objects' own values -/
  fld : Addr → Str → Bool
  /-- the read-only table at that address -/
  tab : Addr → Option (List (Str × Int))
  /-- the pattern at that address finds nothing in the text -/
  quiet : Addr → Str → Bool
  /-- the def that makes the lexer's line, the lexer's class -/
  line : Addr
  lexer : Addr
  /-- the lexer's _read_char -/
  rd : Option Addr

section words
variable {α β γ δ : Type}
noncomputable def whenB (c : Bool) (k : Option β) : Option β := bif c then k else none
noncomputable def ob (o : Option α) (f : α → Option β) : Option β := o.bind f
noncomputable def b2 (o : Option (α × γ)) (f : α → γ → Option β) : Option β := o.bind fun p => f p.1 p.2
noncomputable def b3 (o : Option (α × γ × δ)) (f : α → γ → δ → Option β) : Option β := o.bind fun p => f p.1 p.2.1 p.2.2
noncomputable def retW (o : Option α) (s : γ) : Option (α × γ) := o.map fun a => (a, s)
noncomputable def oElse (o : Option α) (f : α → β) (z : β) : β := match o with
  | some a => f a
  | none => z
noncomputable def whenNil (l : List α) (k : Option β) : Option β := match l with
  | [] => k
  | _ :: _ => none
noncomputable def on1 (l : List α) (f : α → Option β) : Option β := match l with
  | [] => none
  | a :: l => whenNil l (f a)
noncomputable def on2 (l : List α) (f : α → α → Option β) : Option β := match l with
  | [] => none
  | a :: l => on1 l (f a)
noncomputable def ownElse (v : V) (f : Nat → β) (z : β) : β := match v with
  | .own i => f i
  | _ => z
noncomputable def lstElse (v : V) (f : List It → β) (z : β) : β := match v with
  | .lst l => f l
  | _ => z
noncomputable def itElse (v : V) (f : It → β) (z : β) : β := match v with
  | .it i => f i
  | _ => z
noncomputable def atI (i : It) (f : At → Option β) : Option β := match i with
  | .at a => f a
  | .pair .. => none
noncomputable def intA (a : At) (f : Int → Option β) : Option β := match a with
  | .int i => f i
  | .str _ => none
noncomputable def strA (a : At) (f : Str → Option β) : Option β := match a with
  | .int _ => none
  | .str x => f x
noncomputable def onOwn (v : V) (f : Nat → Option β) : Option β := ownElse v f none
noncomputable def onLst (v : V) (f : List It → Option β) : Option β := lstElse v f none
noncomputable def onIt (v : V) (f : It → Option β) : Option β := itElse v f none
noncomputable def onAt (v : V) (f : At → Option β) : Option β := onIt v fun i => atI i f
noncomputable def onInt (v : V) (f : Int → Option β) : Option β := onAt v fun a => intA a f
noncomputable def onStr (v : V) (f : Str → Option β) : Option β := onAt v fun a => strA a f
noncomputable def valElse (v : V) (f : Value → β) (z : β) : β := match v with
  | .val u => f u
  | _ => z
noncomputable def onFn (v : V) (f g : String → Option β) (k : Addr → Option β) : Option β := valElse v (fun u => match u with
  | .builtin n => f n
  | .type n => g n
  | .ref a => k a
  | _ => none) none
noncomputable def onTyp (v : V) (f : String → Option β) : Option β := onFn v (fun _ => none) f (fun _ => none)
noncomputable def onInst (o : Option AO) (f : Addr → List (Str × V) → Option β) : Option β := ob o fun a => match a with
  | .inst C fs => f C fs
  | _ => none
noncomputable def onList (o : Option AO) (f : List It → Option β) : Option β := ob o fun a => match a with
  | .list xs => f xs
  | _ => none
noncomputable def onDict (o : Option AO) (f : List (Str × Int) → Option β) : Option β := ob o fun a => match a with
  | .dict kvs => f kvs
  | _ => none
noncomputable def onStream (o : Option AO) (f : List Nat → Option β) : Option β := ob o fun a => match a with
  | .stream l => f l
  | _ => none
noncomputable def onCit (o : Option AO) (f g : Nat → Option β) : Option β := ob o fun a => match a with
  | .citer i l => bif l then f i else g i
  | _ => none
noncomputable def onTbl (o : Option AO) (f : Nat → Option β) : Option β := ob o fun a => match a with
  | .tbl n => f n
  | _ => none
noncomputable def strElse (t u : String) (k z : β) : β := if t = u then k else z
noncomputable def natElse (t u : Nat) (k z : β) : β := if t = u then k else z
noncomputable def retElse (f : Flw) (k : V → β) (z : β) : β := match f with
  | .ret v => k v
  | _ => z
noncomputable def nextElse (f : Flw) (k z : β) : β := match f with
  | .next => k
  | _ => z
noncomputable def nmElse (e : Expr) (k : Str → Pos → β) (z : β) : β := match e with
  | .Name x p => k x p
  | _ => z
noncomputable def onTgt (e : Expr) (f : Str → Pos → Option β) (g : Expr → Str → Pos → Option β) (k : Expr → Expr → Pos → Option β) : Option β := match e with
  | .Name x p => f x p
  | .Attribute o n p => g o n p
  | .Subscript o n p => k o n p
  | _ => none
noncomputable def nm2 (es : List Expr) (f : Str → Pos → Str → Pos → β) (z : β) : β := match es with
  | [] => z
  | a :: l => (match l with
    | [] => z
    | b :: l => (match l with
      | [] => nmElse a (fun x p => nmElse b (fun y q => f x p y q) z) z
      | _ :: _ => z))
noncomputable def onTN (t : Expr) (f : Str → Pos → β) (g : Str → Pos → Str → Pos → Nat → Pos → β) (z : β) : β := match t with
  | .Name x p => f x p
  | .Tuple es k r => nm2 es (fun x p y q => g x p y q k r) z
  | _ => z
noncomputable def prI (i : It) (f : At → At → Option β) : Option β := match i with
  | .at _ => none
  | .pair a b => f a b
end words
noncomputable def chars (x : Str) : List It := x.cps.toList.map fun c => .at (.str ⟨#[c]⟩)

noncomputable def lowerC (c : Nat) : Nat := if 65 ≤ c ∧ c ≤ 90 then c + 32 else c
noncomputable def isAsc (x : Str) : Bool := x.cps.all fun c => c < 128
noncomputable def lower (x : Str) : Str := ⟨x.cps.map lowerC⟩

noncomputable def small (a : Int) : Bool := decide (a.natAbs < 2 ^ 62)

noncomputable def arith (op : Operator) (x y : Int) : Option Int := match op with
  | .Add => some (x + y)
  | .Sub => some (x - y)
  | .Mult => whenB (small x && small y) (some (x * y))
  | .FloorDiv => whenB (decide (0 < y) && decide (y < 1000000)) (some (x.fdiv y))
  | .Mod => whenB (decide (0 < y)) (some (x.fmod y))
  | .Pow => whenB (small x && (decide (0 ≤ y) && decide (y ≤ 1000))) (some (x ^ y.toNat))
  | .BitAnd => some (Builtin.bitAnd x y)
  | .BitOr => some (Builtin.bitOr x y)
  | _ => none
noncomputable def isAdd : Operator → Bool
  | .Add => true
  | _ => false
noncomputable def binA (op : Operator) (a b : At) : Option V := match a with
  | .int x => intA b fun y => ob (arith op x y) fun k => some (.int k)
  | .str x => strA b fun y => whenB (isAdd op) <| whenB (decide (x.length + y.length ≤ 100000)) (some (.str (x ++ y)))
noncomputable def binop (op : Operator) (a b : V) : Option V := onAt a fun x => onAt b fun y => binA op x y

noncomputable def atEq (a b : At) : Option Bool := match a with
  | .int i => intA b fun j => some (decide (i = j))
  | .str x => strA b fun y => some (decide (x = y))
noncomputable def itEq (a b : It) : Option Bool := atI a fun x => atI b fun y => atEq x y
noncomputable def itsAll : List It → List It → Option Bool
  | [], [] => some true
  | a :: r, b :: s => do
    let x ← itEq a b
    let y ← itsAll r s
    some (x && y)
  | _, _ => none
/-- two lists of texts, or of ints -/
noncomputable def itsEq (xs ys : List It) : Option Bool := if xs.length = ys.length then itsAll xs ys else some false

noncomputable def inAny (a : It) : List It → Option Bool
  | [] => some false
  | b :: r => do
    let x ← itEq b a
    let y ← inAny a r
    some (x || y)

noncomputable def atSame (a b : At) : Bool := match a with
  | .int i => (match b with
    | .int j => decide (i = j)
    | .str _ => false)
  | .str x => (match b with
    | .int _ => false
    | .str y => decide (x = y))
noncomputable def itSame (a b : It) : Bool := match a with
  | .at x => (match b with
    | .at y => atSame x y
    | .pair .. => false)
  | .pair x y => (match b with
    | .at _ => false
    | .pair u v => atSame x u && atSame y v)
noncomputable def itsSame : List It → List It → Bool
  | [], [] => true
  | a :: r, b :: s => itSame a b && itsSame r s
  | _, _ => false
/-- the walked list stands as it stood -/
noncomputable def okSrc (σ : AS) (g : Src) : Bool := match g.own with
  | Option.none => true
  | some (i, all) => match σ[i]? with
    | some (.list ys) => itsSame ys all
    | _ => false
noncomputable def isTup : Expr → Bool
  | .Tuple .. => true
  | _ => false
noncomputable def notStar : Expr → Bool
  | .Starred .. => false
  | _ => true
noncomputable def notComp : Expr → Bool
  | .ListComp .. | .SetComp .. | .DictComp .. => false
  | _ => true
noncomputable def baseOk : Expr → Bool
  | .Name .. | .Attribute .. | .Constant .. | .Subscript .. => true
  | _ => false
noncomputable def notSet : Expr → Bool
  | .Set .. => false
  | _ => true
noncomputable def notSD : Expr → Bool
  | .SetComp .. | .DictComp .. => false
  | _ => true
noncomputable def plainTest : Expr → Bool
  | .Name .. | .Attribute .. | .Call .. | .Constant .. => true
  | _ => false
noncomputable def has (x : Str) (c : Nat) : Bool := x.cps.any (· == c)

/-- the one sign of a text -/
noncomputable def one? (x : Str) : Option Nat := match x.cps.toList with
  | [c] => some c
  | _ => none
noncomputable def eqV (a b : V) : Option Bool := itElse a (fun x => onIt b fun y => itEq x y) (onLst a fun xs => onLst b fun ys => itsEq xs ys)
noncomputable def ltV (a b : V) : Option Bool := onInt a fun i => onInt b fun j => some (decide (i < j))
noncomputable def inV (a b : V) : Option Bool := onIt a fun x => lstElse b (fun ys => inAny x ys) (atI x fun x => strA x fun x => onStr b fun y => ob (one? x) fun c => some (has y c))
noncomputable def isV (a b : V) : Option Bool := onTyp a fun x => onTyp b fun y => some (x == y)
noncomputable def notNone : V → Option Bool
  | .own _ => some true
  | .none => some false
  | _ => none
noncomputable def isNoneV : V → Bool
  | .none => true
  | _ => false
noncomputable def cmp (op : CmpOp) (a b : V) : Option Bool := match op with
  | .Eq => eqV a b
  | .NotEq => (eqV a b).map (!·)
  | .Lt => ltV a b
  | .In => inV a b
  | .Is => isV a b
  | .IsNot => bif isNoneV b then notNone a else ob (isV a b) fun c => some (!c)
  | _ => none

noncomputable def truthy : V → Option Bool
  | .bool b => some b
  | .none => some false
  | _ => none

noncomputable def cons (c : Const) : Option V := match c with
  | .int i => some (.int i)
  | .str x => some (.str x)
  | .bool b => some (.bool b)
  | .none => some .none
  | _ => none

noncomputable def sub (a : V) (k : Int) : Option V := if 2 ^ 62 < k then none else match a with
  | .it (.at (.str x)) => if 0 ≤ k then (x.cps[k.toNat]?).map fun c => .str ⟨#[c]⟩ else none
  | .it (.pair p q) => if k = 0 then some (.it (.at p)) else if k = 1 then some (.it (.at q)) else none
  | .lst xs => if 0 ≤ k then (xs[k.toNat]?).map .it else none
  | _ => none

noncomputable def pick {α : Type} (xs : List α) (ks : List Nat) : List α := ks.filterMap (xs[·]?)
noncomputable def sliceL (xs : List It) (lo hi st : Option Int) : List It := let b := sliceBounds lo hi st xs.length; pick xs (sliceRange b.1 b.2.1 b.2.2)
noncomputable def sliceS (x : Str) (lo hi : Option Int) : Str := let ks := Builtin.Str.strSliceIndices lo hi 1 x.length; if ks.length == x.length then x else ⟨(ks.filterMap (x.cps[·]?)).toArray⟩
noncomputable def slice (a : V) (lo hi step : Option Int) : Option V := match a, step with
  | .lst xs, st => if decide (st ≠ some 0) && decide (xs.length ≤ 1000000) then some (.lst (sliceL xs lo hi st)) else none
  | .it (.at (.str x)), none => if (sliceS x lo hi).length ≤ 100000 then some (.str (sliceS x lo hi)) else none
  | _, _ => none

noncomputable def setAt (xs : List It) (k : Int) (v : It) : Option (List It) := if 0 ≤ k ∧ k < xs.length ∧ k < 1000000 then some (xs.set k.toNat v) else none

noncomputable def atsOf : List V → Option (List It)
  | [] => some []
  | .it i :: r => (atsOf r).map (i :: ·)
  | _ => none

/-- a name of the block's own is bound -/
noncomputable def sto (sc : Scope) (loc : Loc) (x : Str) (v : V) : Option Loc := if sc.names.lookup x == some .local || sc.names.lookup x == some .cell then some (put loc x v) else none
noncomputable def unpackT (sc : Scope) (target : Expr) (i : It) (loc : Loc) : Option Loc := onTN target (fun x _ => sto sc loc x (.it i))
  (fun x _ y _ _ _ => prI i fun a b => ob (sto sc loc x (.it (.at a))) fun loc => sto sc loc y (.it (.at b))) none

noncomputable def asStr : It → Option Str
  | .at (.str x) => some x
  | _ => none
noncomputable def joinS : List It → Option Str
  | [] => some ⟨#[]⟩
  | i :: r => do pure ((← asStr i) ++ (← joinS r))
noncomputable def asInt : It → Option Int
  | .at (.int i) => some i
  | _ => none
noncomputable def sumI : List It → Option Int
  | [] => some 0
  | i :: r => do pure ((← asInt i) + (← sumI r))

noncomputable def leStr (x y : Str) : Bool := !decide (y.cps.toList < x.cps.toList)
noncomputable def insS (x : Str) : List Str → List Str
  | [] => [x]
  | y :: r => if leStr x y then x :: y :: r else y :: insS x r
noncomputable def sortS : List Str → List Str
  | [] => []
  | x :: r => insS x (sortS r)

noncomputable def zipI : List It → List It → Option (List It)
  | .at a :: r, .at b :: s => (zipI r s).map (.pair a b :: ·)
  | [], _ => some []
  | _, [] => some []
  | _, _ => none
noncomputable def enumI : Nat → List It → Option (List It)
  | k, .at a :: r => (enumI (k + 1) r).map (.pair (.int k) a :: ·)
  | _, [] => some []
  | _, _ => none
noncomputable def rangeI (n : Nat) : List It := (List.range n).map fun k => It.at (At.int (Int.ofNat k))
noncomputable def dictOfI : List It → Option (List (Str × Int))
  | .pair (.str x) (.int i) :: r => (dictOfI r).map ((x, i) :: ·)
  | [] => some []
  | _ => none

noncomputable def posInts (x : Str) : Option Int := (one? x).bind fun c => if 48 ≤ c ∧ c ≤ 57 then some (Int.ofNat (c - 48)) else none
noncomputable def findC (x : Str) (c : Nat) : Int := match x.cps.toList.findIdx? (· == c) with | some i => i | none => -1


noncomputable def smallI : It → Bool
  | .at (.int k) => decide (k.natAbs < 2 ^ 40)
  | _ => false
noncomputable def primLen (args : List V) : Option V := on1 args fun a => lstElse a (fun xs => whenB (decide (xs.length ≤ 1000000)) (some (.int xs.length))) (onStr a fun x => whenB (decide (x.length ≤ 1000000)) (some (.int x.length)))
noncomputable def primSum (args : List V) : Option V := on1 args fun a => onLst a fun xs => whenB (decide (xs.length ≤ 100)) <| whenB (xs.all smallI) <| ob (sumI xs) fun k => some (.int k)
noncomputable def primMax (args : List V) : Option V := on2 args fun a b => onStr a fun x => onStr b fun y => some (.str (if x.cps.toList < y.cps.toList then y else x))
noncomputable def primSorted (args : List V) : Option V := on1 args fun a => onLst a fun xs => ob (xs.mapM asStr) fun l => whenB (decide (l.length < 64)) (some (.lst ((sortS l).map fun x => .at (.str x))))
/-- the built-in functions on plain values -/
noncomputable def prim (f : String) (args : List V) : Option V :=
  strElse f "len" (primLen args) <| strElse f "sum" (primSum args) <| strElse f "max" (primMax args) <| strElse f "sorted" (primSorted args) none
noncomputable def primT (t : String) (args : List V) : Option V := on1 args fun a => onAt a fun y => match y with
    | .int i => strElse t "str" (whenB (decide (0 ≤ i)) <| whenB (decide (i ≤ 9)) (some (.str ⟨#[48 + i.toNat]⟩))) none
    | .str x => strElse t "int" (ob (posInts x) fun k => some (.int k)) <| strElse t "type" (some (.val (.type "str"))) none
/-- the items of a list that is handed over -/
noncomputable def itemsArg (σ : AS) (v : V) : Option (List It) := match v with
  | .lst xs => some xs
  | .own i => match σ[i]? with
    | some (.list xs) => some xs
    | _ => none
  | _ => none
/-- methods of texts -/
noncomputable def methP (σ : AS) (x : Str) (name : Str) (args : List V) : Option V := match args with
  | [] => if name = "lower" && isAsc x && decide (x.length ≤ 100000) then some (.str (lower x)) else none
  | [a] => if name = "join" then (if x.cps.size == 0 then do
      let xs ← itemsArg σ a
      let y ← joinS xs
      if decide (y.length ≤ 100000) && decide (xs.length ≤ 100000) then some (.str y) else none else none)
    else if name = "find" then (match a with
      | .it (.at (.str y)) => if x = ⟨#[120, 121, 122]⟩ then (one? y).map fun c => .int (findC x c) else none
      | _ => none) else none
  | _ => none
/-- methods of tracked lists -/
noncomputable def methL (σ : AS) (i : Nat) (m : Str) (xs : List V) : Option (V × AS) := onList σ[i]? fun ys => on1 xs fun v => onIt v fun w =>
  bif decide (m = "pop") then (whenB (itSame w (.at (.int 0))) <| match ys with
    | y :: rest => whenB (decide (rest.length ≤ 100000)) (some (.it y, σ.set i (.list rest)))
    | [] => none)
  else whenB (decide (m = "append")) <| whenB (decide (ys.length ≤ 100000)) (some (.none, σ.set i (.list (ys ++ [w]))))
/-- the stream is read by one -/
noncomputable def headS : List Nat → Str
  | [] => ⟨#[]⟩
  | c :: _ => ⟨#[c]⟩
noncomputable def methR (σ : AS) (i : Nat) (m : Str) (xs : List V) : Option (V × AS) := onStream σ[i]? fun rest => on1 xs fun v => onInt v fun k =>
  whenB (decide (k = 1)) <| whenB (decide (m = "read")) (some (.str (headS rest), σ.set i (.stream rest.tail)))
/-- methods of what stood before -/
noncomputable def methK (S : Setup) (a : Addr) (m : Str) (xs : List V) : Option V :=
  bif decide (m = "get") then on2 xs fun v w => onStr v fun k => onInt w fun d => ob (S.tab a) fun kvs => some (.int ((kvs.lookup k).getD d))
  else on1 xs fun v => onStr v fun x => whenB (decide (m = "search")) <| whenB (S.quiet a x) (some .none)

/-- a list of the tracked ones, as it stands now -/
noncomputable def freeze (σ : AS) (v : V) : V := match v with
  | .own i => match σ[i]? with
    | some (.list xs) => .lst xs
    | _ => .own i
  | v => v
noncomputable def fldVal (fs : List (Str × V)) (n : Str) : Option V := match fs.lookup n with
  | some (.val _) => none
  | a => a
noncomputable def setObj (σ : AS) (i : Nat) (o : AO) : AS := σ.set i o

noncomputable def calleeOk (S : Setup) : V → Bool
  | .val (.builtin _) | .val (.type _) => true
  | .val (.ref a) => S.keep a
  | _ => false
section
variable {β : Type} (S : Setup) (r : Runner)

noncomputable def rv (j : Job) (σ : AS) : Option (V × AS) := b2 (r j σ) fun z s => match z with
  | .v a => some (a, s)
  | _ => none
noncomputable def rvs (j : Job) (σ : AS) : Option (List V × AS) := b2 (r j σ) fun z s => match z with
  | .vs a => some (a, s)
  | _ => none
noncomputable def rits (j : Job) (σ : AS) : Option (List It × AS) := b2 (r j σ) fun z s => match z with
  | .its a => some (a, s)
  | _ => none
noncomputable def rsrc (j : Job) (σ : AS) : Option (List It × Src × AS) := b2 (r j σ) fun z s => match z with
  | .src a g => some (a, g, s)
  | _ => none
noncomputable def rb (j : Job) (σ : AS) : Option (Bool × AS) := b2 (r j σ) fun z s => match z with
  | .b a => some (a, s)
  | _ => none
noncomputable def rex (j : Job) (σ : AS) : Option (Flw × Loc × AS) := b2 (r j σ) fun z s => match z with
  | .ex f loc => some (f, loc, s)
  | _ => none

noncomputable def freeLoc (sc : Scope) (loc : Loc) : Loc := sc.names.filterMap fun (n, k) => if k == .free then (loc.lookup n).map (n, ·) else none
noncomputable def relab (sc : Scope) : Scope := { sc with names := sc.names.map fun (n, k) => if k == .free then (n, .cell) else (n, k) }

/-- a list comprehension that is served: it catches cells of the block's alone and makes none -/
noncomputable def compOk (sc sc' : Scope) (g : Comprehension) (gs : List Comprehension) : Bool :=
  sc'.kind == .function && sc.kind == .function && g.is_async == 0 && gs.all (fun g => g.is_async == 0) && gs.all (fun g => notSet g.iter) &&
  sc'.names.all (fun (n, k) => k == .local || k == .globalImplicit || (k == .free && sc.names.lookup n == some .cell)) &&
  sc'.names.all (fun (n, k) => k != .local || sc'.names.lookup n == some .local) && decide ((sc'.names.map (·.1)).Nodup)
/-- a part of a slice -/
noncomputable def partE (sc : Scope) (loc : Loc) (e : Option Expr) (σ : AS) : Option (Option Int × AS) := match e with
  | none => some (none, σ)
  | some e => b2 (rv r (.eval sc loc e) σ) fun v s => onInt v fun i => some (some i, s)
noncomputable def evComp (sc : Scope) (loc : Loc) (elt : Expr) (gens : List Comprehension) (sc' : Scope) (σ : AS) : Option (List It × AS) := match gens with
  | [] => none
  | g :: gs => whenB (compOk sc sc' g gs) <| b3 (rsrc r (.iter sc loc g.iter) σ) fun items src s => b2 (rits r (.comp (relab sc') (freeLoc sc' loc) elt g gs src items) s) fun out s =>
    whenB (decide (out.length ≤ 1000000)) (some (out, s))
noncomputable def evAttr (sc : Scope) (loc : Loc) (o : Expr) (n : Str) (σ : AS) : Option (V × AS) := nmElse o (fun x p => b2 (rv r (.eval sc loc (.Name x p)) σ) fun v s => onOwn v fun i =>
  onInst s[i]? fun C fs => whenB (S.fld C n) <| retW (fldVal fs n) s) none
noncomputable def sliceO (x : V) (lo hi st : Option Int) (σ : AS) : Option (V × AS) := ownElse x (fun i => onList σ[i]? fun xs => retW (slice (.lst xs) lo hi st) σ) (retW (slice x lo hi st) σ)
noncomputable def evSlice (sc : Scope) (loc : Loc) (o : Expr) (l u s : Option Expr) (σ : AS) : Option (V × AS) := b2 (rv r (.eval sc loc o) σ) fun x s₁ => b2 (partE r sc loc l s₁) fun lo s₁ =>
  b2 (partE r sc loc u s₁) fun hi s₁ => b2 (partE r sc loc s s₁) fun st s₁ => sliceO x lo hi st s₁
noncomputable def subO (x : V) (k : At) (σ : AS) : Option (V × AS) := ownElse x (fun i => match k with
    | .str x => onDict σ[i]? fun kvs => ob (kvs.lookup x) fun c => some (.int c, σ)
    | .int k => onList σ[i]? fun xs => retW (sub (.lst xs) k) σ)
  (intA k fun i => retW (sub x i) σ)
noncomputable def evItem (sc : Scope) (loc : Loc) (o k : Expr) (σ : AS) : Option (V × AS) := b2 (rv r (.eval sc loc o) σ) fun x s => b2 (rv r (.eval sc loc k) s) fun y s => onAt y fun k => subO x k s
noncomputable def evSub (sc : Scope) (loc : Loc) (o k : Expr) (σ : AS) : Option (V × AS) := match k with
  | .Slice l u s _ => evSlice r sc loc o l u s σ
  | k => evItem r sc loc o k σ
noncomputable def conStr (e : Expr) (f : Str → Option β) : Option β := match e with
  | .Constant c _ _ => (match c with
    | .str z => f z
    | _ => none)
  | _ => none
/-- the arguments of iter(x._read_char, '') -/
noncomputable def iterArgs (as : List Expr) : Option (Expr × Str) := on2 as fun a b => onTgt a (fun _ _ => none) (fun o m _ => nmElse o (fun x p => conStr b fun z => whenB (z == ⟨#[]⟩) (some (.Name x p, m))) none) (fun _ _ _ => none)
noncomputable def isIter (v : V) : Bool := valElse v (fun u => match u with
  | .builtin f => decide (f = "iter")
  | _ => false) false
noncomputable def evIter (sc : Scope) (loc : Loc) (o : Expr) (m : Str) (σ : AS) : Option (V × AS) := b2 (rv r (.eval sc loc o) σ) fun x s => onOwn x fun i => onInst s[i]? fun C fs =>
  whenB (decide (m = "_read_char")) <| whenB (fs.lookup m).isNone <| whenB (S.meth C m == S.rd) <| whenB S.rd.isSome <| some (.own s.length, s ++ [.citer i true])
noncomputable def evCallN (sc : Scope) (loc : Loc) (g : V) (as : List Expr) (σ : AS) : Option (V × AS) :=
  whenB (calleeOk S g) <| whenB (as.all notStar) <| b2 (rvs r (.evals sc loc as) σ) fun xs s => rv r (.call g xs []) s
noncomputable def evName (sc : Scope) (loc : Loc) (f : Str) (fp : Pos) (as : List Expr) (σ : AS) : Option (V × AS) := b2 (rv r (.eval sc loc (.Name f fp)) σ) fun g s =>
  oElse (whenB (isIter g) (iterArgs as)) (fun p => evIter S r sc loc p.1 p.2 s) (evCallN S r sc loc g as s)
noncomputable def evMeth (sc : Scope) (loc : Loc) (i : Nat) (C : Addr) (fs : List (Str × V)) (m : Str) (as : List Expr) (ks : List Keyword) (σ : AS) : Option (V × AS) :=
  whenB (fs.lookup m).isNone <| ob (S.meth C m) fun f => b2 (rvs r (.evals sc loc as) σ) fun xs s => match ks with
    | [] => rv r (.call (.val (.ref f)) (.own i :: xs) []) s
    | k :: ks => whenNil ks <| whenB (!as.isEmpty) <| ob k.arg fun n => b2 (rv r (.eval sc loc k.value) s) fun y s => rv r (.call (.val (.ref f)) (.own i :: xs) [(n, y)]) s
noncomputable def evOwn (sc : Scope) (loc : Loc) (i : Nat) (o : AO) (m : Str) (as : List Expr) (ks : List Keyword) (σ : AS) : Option (V × AS) := match o with
  | .inst C fs => evMeth S r sc loc i C fs m as ks σ
  | .list _ => whenNil ks <| b2 (rvs r (.evals sc loc as) σ) fun xs s => methL s i m xs
  | .stream _ => whenNil ks <| b2 (rvs r (.evals sc loc as) σ) fun xs s => methR s i m xs
  | _ => none
noncomputable def onRef (v : V) (f : Addr → Option β) : Option β := onFn v (fun _ => none) (fun _ => none) f
noncomputable def evOther (sc : Scope) (loc : Loc) (x : V) (m : Str) (as : List Expr) (ks : List Keyword) (σ : AS) : Option (V × AS) := whenNil ks <| b2 (rvs r (.evals sc loc as) σ) fun xs s =>
  itElse x (fun i => atI i fun a => strA a fun x => retW (methP s x m xs) s) (onRef x fun a => retW (methK S a m xs) s)
noncomputable def evCallM (sc : Scope) (loc : Loc) (o : Expr) (m : Str) (ap : Pos) (as : List Expr) (ks : List Keyword) (pos : Pos) (σ : AS) : Option (V × AS) :=
  whenB (baseOk o) <| whenB (as.all notStar) <| whenB (ap.endLine == pos.line) <| whenB (decide (as.length + ks.length < 20)) <| b2 (rv r (.eval sc loc o) σ) fun x s =>
    ownElse x (fun i => ob s[i]? fun ao => evOwn S r sc loc i ao m as ks s) (evOther S r sc loc x m as ks s)
noncomputable def evCall (sc : Scope) (loc : Loc) (f : Expr) (as : List Expr) (ks : List Keyword) (pos : Pos) (σ : AS) : Option (V × AS) :=
  onTgt f (fun f fp => whenNil ks (evName S r sc loc f fp as σ)) (fun o m ap => evCallM S r sc loc o m ap as ks pos σ) (fun _ _ _ => none)
noncomputable def evNam (sc : Scope) (loc : Loc) (x : Str) (σ : AS) : Option (V × AS) := whenB (!(x == ("__debug__" : Str))) <| oElse (loc.lookup x) (fun v => some (v, σ)) (whenB (sc.names.lookup x == some .globalImplicit) <| retW (S.gl x) σ)
noncomputable def evBin (sc : Scope) (loc : Loc) (l : Expr) (op : Operator) (b : Expr) (σ : AS) : Option (V × AS) := b2 (rv r (.eval sc loc l) σ) fun x s => b2 (rv r (.eval sc loc b) s) fun y s => retW (binop op x y) s
noncomputable def evCmp (sc : Scope) (loc : Loc) (l : Expr) (ops : List CmpOp) (bs : List Expr) (σ : AS) : Option (Bool × AS) := on1 ops fun op => on1 bs fun b => whenB (notSet b) <| b2 (rv r (.eval sc loc l) σ) fun x s =>
  b2 (rv r (.eval sc loc b) s) fun y s => retW (cmp op x y) s
noncomputable def evList (sc : Scope) (loc : Loc) (es : List Expr) (σ : AS) : Option (List It × AS) := b2 (rvs r (.evals sc loc es) σ) fun xs s => whenB (decide (xs.length ≤ 100)) <| retW (atsOf xs) s
noncomputable def evTup (sc : Scope) (loc : Loc) (es : List Expr) (σ : AS) : Option (V × AS) := b2 (rvs r (.evals sc loc es) σ) fun xs s => on2 xs fun a b => onAt a fun x => onAt b fun y => some (.it (.pair x y), s)
noncomputable def stepEval (sc : Scope) (loc : Loc) (e : Expr) (σ : AS) : Option (V × AS) := match e with
  | .Constant c _ _ => retW (cons c) σ
  | .Name x _ => evNam S sc loc x σ
  | .BinOp l op b _ => evBin r sc loc l op b σ
  | .Compare l ops bs _ => b2 (evCmp r sc loc l ops bs σ) fun c s => some (.bool c, s)
  | .IfExp t b o _ => b2 (rb r (.cond sc loc t) σ) fun c s => rv r (.eval sc loc (if c then b else o)) s
  | .List es _ => b2 (evList r sc loc es σ) fun l s => some (.lst l, s)
  | .Tuple es _ _ => evTup r sc loc es σ
  | .ListComp elt gens sc' _ => b2 (evComp r sc loc elt gens sc' σ) fun l s => some (.lst l, s)
  | .Attribute o n _ => evAttr S r sc loc o n σ
  | .Subscript o k _ => evSub r sc loc o k σ
  | .Call f as ks pos => evCall S r sc loc f as ks pos σ
  | _ => none

noncomputable def stepEvalT (sc : Scope) (loc : Loc) (e : Expr) (σ : AS) : Option (V × AS) := match e with
  | .List es _ => b2 (evList r sc loc es σ) fun l s => some (.own s.length, s ++ [.list l])
  | .IfExp t b o _ => b2 (rb r (.cond sc loc t) σ) fun c s => rv r (.evalT sc loc (if c then b else o)) s
  | e => rv r (.eval sc loc e) σ

noncomputable def stepEvals (sc : Scope) (loc : Loc) (es : List Expr) (σ : AS) : Option (List V × AS) := match es with
  | [] => some ([], σ)
  | e :: es => whenB (notStar e) <| b2 (rv r (.eval sc loc e) σ) fun x s => b2 (rvs r (.evals sc loc es) s) fun xs s => some (x :: xs, s)

noncomputable def cdBool (sc : Scope) (loc : Loc) (op : BoolOp) (vs : List Expr) (σ : AS) : Option (Bool × AS) := on2 vs fun a b => b2 (rb r (.cond sc loc a) σ) fun c s => match op with
  | .And => bif c then rb r (.cond sc loc b) s else some (false, s)
  | .Or => bif c then some (true, s) else rb r (.cond sc loc b) s
noncomputable def cdPlain (sc : Scope) (loc : Loc) (e : Expr) (σ : AS) : Option (Bool × AS) := whenB (plainTest e) <| b2 (rv r (.eval sc loc e) σ) fun x s =>
  ownElse x (fun i => onList s[i]? fun xs => whenB (decide (xs.length ≤ 1000000)) (some (!xs.isEmpty, s))) (retW (truthy x) s)
noncomputable def stepCond (sc : Scope) (loc : Loc) (e : Expr) (σ : AS) : Option (Bool × AS) := match e with
  | .Compare l ops bs _ => evCmp r sc loc l ops bs σ
  | .BoolOp op vs _ => cdBool r sc loc op vs σ
  | e => cdPlain r sc loc e σ

noncomputable def itemsOf (σ : AS) (x : V) : Option (List It × Src) := lstElse x (fun xs => some (xs, {})) <| ownElse x (fun i => onList σ[i]? fun xs => some (xs, { own := some (i, xs) })) <| onStr x fun x => some (chars x, {})
noncomputable def zipV (a b : V) : Option (List It) := lstElse a (fun xs => onLst b fun ys => zipI xs ys) (onStr a fun x => onStr b fun y => zipI (chars x) (chars y))
/-- range, zip and enumerate -/
noncomputable def iterOf (t : String) (xs : List V) : Option (List It × Src) :=
  strElse t "range" (on1 xs fun a => onInt a fun n => whenB (decide (0 ≤ n)) <| whenB (decide (n ≤ 100)) (some (rangeI n.toNat, {}))) <|
  strElse t "zip" (on2 xs fun a b => retW (zipV a b) { short := true }) <|
  strElse t "enumerate" (on1 xs fun a => onLst a fun l => retW (enumI 0 l) { short := true }) none
noncomputable def itName (sc : Scope) (loc : Loc) (f : Str) (fp : Pos) (as : List Expr) (σ : AS) : Option (List It × Src × AS) := whenB (as.all notStar) <| b2 (rv r (.eval sc loc (.Name f fp)) σ) fun g s =>
  b2 (rvs r (.evals sc loc as) s) fun xs s => onTyp g fun t => b2 (iterOf t xs) fun l g => some (l, g, s)
noncomputable def itVal (sc : Scope) (loc : Loc) (e : Expr) (σ : AS) : Option (List It × Src × AS) := whenB (notSet e) <| b2 (rv r (.eval sc loc e) σ) fun x s => b2 (itemsOf s x) fun l g => some (l, g, s)
noncomputable def itPlain : Expr → Bool
  | .Name .. | .Attribute .. | .Subscript .. | .List .. => true
  | _ => false
noncomputable def isAttr : Expr → Bool
  | .Attribute .. => true
  | _ => false
noncomputable def stepIter (sc : Scope) (loc : Loc) (e : Expr) (σ : AS) : Option (List It × Src × AS) := match e with
  | .Call f as ks _ => nmElse f (fun f fp => whenNil ks (itName r sc loc f fp as σ)) (whenB (isAttr f) (itVal r sc loc e σ))
  | e => whenB (itPlain e) (itVal r sc loc e σ)

noncomputable def asName (sc : Scope) (loc : Loc) (x : Str) (e : Expr) (σ : AS) : Option (Flw × Loc × AS) := whenB (notComp e) <| b2 (rv r (.evalT sc loc e) σ) fun v s => ob (sto sc loc x v) fun loc => some (.next, loc, s)
noncomputable def asVar (sc : Scope) (loc : Loc) (x : Str) (e : Expr) (σ : AS) : Option (Flw × Loc × AS) := match e with
  | .ListComp elt gens sc' _ => b2 (evComp r sc loc elt gens sc' σ) fun out s => ob (sto sc loc x (.lst out)) fun loc => some (.next, loc, s)
  | e => asName r sc loc x e σ
noncomputable def fldPut (loc : Loc) (i : Nat) (n : Str) (v : V) (σ : AS) : Option (Flw × Loc × AS) := onInst σ[i]? fun C fs => whenB (S.fld C n) <| whenB (decide (fs.length ≤ 100)) <| some (.next, loc, setObj σ i (.inst C (put fs n v)))
noncomputable def asAttr (sc : Scope) (loc : Loc) (o : Expr) (n : Str) (e : Expr) (σ : AS) : Option (Flw × Loc × AS) := b2 (rv r (.evalT sc loc e) σ) fun v s => b2 (rv r (.eval sc loc o) s) fun x s => onOwn x fun i => fldPut S loc i n v s
noncomputable def asAll (sc : Scope) (loc : Loc) (o e : Expr) (σ : AS) : Option (Flw × Loc × AS) := b2 (rv r (.eval sc loc e) σ) fun v s => b2 (rv r (.eval sc loc o) s) fun x s => onOwn x fun i => onLst v fun ys => onList s[i]? fun xs =>
  whenB (decide (xs.length ≤ 1000000)) <| whenB (decide (ys.length ≤ 1000000)) <| some (.next, loc, setObj s i (.list ys))
noncomputable def setO (rc : Runner) (loc : Loc) (i : Nat) (o : AO) (y v : V) (σ : AS) : Option (Flw × Loc × AS) := match o with
  | .list xs => onInt y fun j => onIt v fun w => ob (setAt xs j w) fun xs' => some (.next, loc, setObj σ i (.list xs'))
  | .inst C _ => ob (S.meth C "__setitem__") fun f => b2 (rv rc (.call (.val (.ref f)) [.own i, y, v] []) σ) fun _ s => some (.next, loc, s)
  | _ => none
noncomputable def asItem (rc : Runner) (sc : Scope) (loc : Loc) (o k e : Expr) (σ : AS) : Option (Flw × Loc × AS) := b2 (rv r (.eval sc loc e) σ) fun v s => b2 (rv r (.eval sc loc o) s) fun x s => b2 (rv r (.eval sc loc k) s) fun y s =>
  onOwn x fun i => ob s[i]? fun ao => setO S rc loc i ao y v s
noncomputable def isNone3 (a b c : Option Expr) : Bool := a.isNone && (b.isNone && c.isNone)
noncomputable def asSub (rc : Runner) (sc : Scope) (loc : Loc) (o k e : Expr) (σ : AS) : Option (Flw × Loc × AS) := match k with
  | .Slice a b c _ => whenB (isNone3 a b c) (asAll r sc loc o e σ)
  | k => asItem S r rc sc loc o k e σ
noncomputable def exAssign (rc : Runner) (sc : Scope) (loc : Loc) (t e : Expr) (σ : AS) : Option (Flw × Loc × AS) :=
  onTgt t (fun x _ => asVar r sc loc x e σ) (fun o n _ => asAttr S r sc loc o n e σ) (fun o k _ => asSub S r rc sc loc o k e σ)
noncomputable def auName (sc : Scope) (loc : Loc) (x : Str) (e : Expr) (σ : AS) : Option (Flw × Loc × AS) := ob (loc.lookup x) fun a => b2 (rv r (.eval sc loc e) σ) fun b s => ob (binop .Add a b) fun v => ob (sto sc loc x v) fun loc => some (.next, loc, s)
noncomputable def auAttr (sc : Scope) (loc : Loc) (o : Expr) (n : Str) (e : Expr) (σ : AS) : Option (Flw × Loc × AS) := b2 (rv r (.eval sc loc o) σ) fun x s => onOwn x fun i => onInst s[i]? fun C fs => whenB (S.fld C n) <|
  ob (fs.lookup n) fun a => b2 (rv r (.eval sc loc e) s) fun b s => ob (binop .Add a b) fun v => fldPut S loc i n v s
noncomputable def exAug (sc : Scope) (loc : Loc) (t e : Expr) (σ : AS) : Option (Flw × Loc × AS) := onTgt t (fun x _ => auName r sc loc x e σ) (fun o n _ => auAttr S r sc loc o n e σ) (fun _ _ _ => none)
noncomputable def foItems (sc : Scope) (loc : Loc) (t : Expr) (b : List Stmt) (v : V) (σ : AS) : Option (Flw × Loc × AS) := b2 (itemsOf σ v) fun xs g => rex r (.forL sc loc t g xs b) σ
noncomputable def citOf (σ : AS) (v : V) : Option Nat := onOwn v fun i => onCit σ[i]? (fun _ => some i) (fun _ => some i)
noncomputable def exFor (sc : Scope) (loc : Loc) (t e : Expr) (b : List Stmt) (σ : AS) : Option (Flw × Loc × AS) := nmElse e
  (fun x xp => b2 (rv r (.eval sc loc (.Name x xp)) σ) fun v s => oElse (citOf s v) (fun i => rex r (.forC sc loc t i b) s) (foItems r sc loc t b v s))
  (b3 (rsrc r (.iter sc loc e) σ) fun xs g s => rex r (.forL sc loc t g xs b) s)
noncomputable def exDel (rc : Runner) (sc : Scope) (loc : Loc) (t : Expr) (σ : AS) : Option (Flw × Loc × AS) := onTgt t (fun _ _ => none) (fun _ _ _ => none) fun o k _ =>
  b2 (rv r (.eval sc loc o) σ) fun x s => b2 (rv r (.eval sc loc k) s) fun y s => onOwn x fun i => onInst s[i]? fun C _ => ob (S.meth C "__delitem__") fun f =>
    b2 (rv rc (.call (.val (.ref f)) [.own i, y] []) s) fun _ s => some (.next, loc, s)
noncomputable def exRet (sc : Scope) (loc : Loc) (e : Expr) (σ : AS) : Option (Flw × Loc × AS) := b2 (rv r (.eval sc loc e) σ) fun v s => some (.ret v, loc, s)
noncomputable def exExpr (sc : Scope) (loc : Loc) (e : Expr) (σ : AS) : Option (Flw × Loc × AS) := whenB (notComp e) <| b2 (rv r (.eval sc loc e) σ) fun _ s => some (.next, loc, s)
noncomputable def stepExec (rc : Runner) (sc : Scope) (loc : Loc) (st : Stmt) (σ : AS) : Option (Flw × Loc × AS) := match st with
  | .Assign ts e _ => on1 ts fun t => exAssign S r rc sc loc t e σ
  | .AugAssign t op e _ => whenB (isAdd op) <| exAug S r sc loc t e σ
  | .If t b o _ => b2 (rb r (.cond sc loc t) σ) fun c s => rex r (.execs sc loc (if c then b else o)) s
  | .For t e b o _ => whenNil o <| exFor r sc loc t e b σ
  | .While t b o _ => whenNil o <| rex r (.whileL sc loc t b) σ
  | .Return e _ => ob e fun e => exRet r sc loc e σ
  | .Expr e _ => exExpr r sc loc e σ
  | .Continue _ => some (.cont, loc, σ)
  | .Delete ts _ => on1 ts fun t => exDel S r rc sc loc t σ
  | _ => none

noncomputable def stepExecs (sc : Scope) (loc : Loc) (sts : List Stmt) (σ : AS) : Option (Flw × Loc × AS) := match sts with
  | [] => some (.next, loc, σ)
  | st :: rest => b3 (rex r (.exec sc loc st) σ) fun f loc s => nextElse f (rex r (.execs sc loc rest) s) (some (f, loc, s))

noncomputable def stepFor (sc : Scope) (loc : Loc) (t : Expr) (g : Src) (items : List It) (b : List Stmt) (σ : AS) : Option (Flw × Loc × AS) := match items with
  | [] => some (.next, loc, σ)
  | i :: rest => whenB (!g.short || isTup t) <| whenB (okSrc σ g) <| ob (unpackT sc t i loc) fun loc => b3 (rex r (.execs sc loc b) σ) fun f loc s =>
    retElse f (fun v => some (.ret v, loc, s)) (whenB (okSrc s g) <| rex r (.forL sc loc t g rest b) s)

noncomputable def stepForC (rc : Runner) (sc : Scope) (loc : Loc) (t : Expr) (k : Nat) (b : List Stmt) (σ : AS) : Option (Flw × Loc × AS) := onCit σ[k]?
  (fun i => onInst σ[i]? fun C _ => whenB (S.meth C "_read_char" == S.rd) <| ob S.rd fun f => b2 (rv rc (.call (.val (.ref f)) [.own i] []) σ) fun v s => onStr v fun x =>
    onCit s[k]? (fun j => whenB (decide (j = i)) <| bif decide (x = ⟨#[]⟩) then some (.next, loc, setObj s k (.citer i false)) else
      ob (unpackT sc t (.at (.str x)) loc) fun loc => b3 (rex r (.execs sc loc b) s) fun f loc s => retElse f (fun v => some (.ret v, loc, s)) (rex r (.forC sc loc t k b) s)) (fun _ => none))
  (fun _ => some (.next, loc, σ))

noncomputable def stepWhile (sc : Scope) (loc : Loc) (t : Expr) (b : List Stmt) (σ : AS) : Option (Flw × Loc × AS) := b2 (rb r (.cond sc loc t) σ) fun c s =>
  bif c then (b3 (rex r (.execs sc loc b) s) fun f loc s => retElse f (fun v => some (.ret v, loc, s)) (rex r (.whileL sc loc t b) s)) else some (.next, loc, s)

noncomputable def tLocal (sc : Scope) (t : Expr) : Bool := onTN t (fun x _ => sc.names.lookup x == some .local) (fun x _ y _ _ _ => sc.names.lookup x == some .local && sc.names.lookup y == some .local) false
noncomputable def tFresh (loc : Loc) (t : Expr) : Bool := onTN t (fun x _ => (loc.lookup x).isNone) (fun x _ y _ _ _ => (loc.lookup x).isNone && (loc.lookup y).isNone && x != y) false
noncomputable def cpIf (sc : Scope) (loc : Loc) (ifs : List Expr) (σ : AS) : Option (Bool × AS) := match ifs with
  | [] => some (true, σ)
  | c :: l => whenNil l (rb r (.cond sc loc c) σ)
noncomputable def cpHere (sc : Scope) (loc : Loc) (elt : Expr) (gs : List Comprehension) (σ : AS) : Option (List It × AS) := match gs with
  | [] => b2 (rv r (.eval sc loc elt) σ) fun v s => onIt v fun w => some ([w], s)
  | g' :: gs' => b3 (rsrc r (.iter sc loc g'.iter) σ) fun xs src' s => rits r (.comp sc loc elt g' gs' src' xs) s
noncomputable def stepComp (sc : Scope) (loc : Loc) (elt : Expr) (g : Comprehension) (gs : List Comprehension) (src : Src) (items : List It) (σ : AS) : Option (List It × AS) := match items with
  | [] => some ([], σ)
  | i :: rest => whenB (!src.short || isTup g.target) <| whenB (tLocal sc g.target) <| whenB (okSrc σ src) <| whenB (tFresh loc g.target) <| whenB (gs.all fun g => notSet g.iter) <|
    ob (unpackT sc g.target i loc) fun loc' => b2 (cpIf r sc loc' g.ifs σ) fun ok s => b2 (bif ok then cpHere r sc loc' elt gs s else some ([], s)) fun here s =>
    whenB (okSrc s src) <| b2 (rits r (.comp sc loc elt g gs src rest) s) fun out s => some (here ++ out, s)

noncomputable def flat : V → Bool
  | .own _ => false
  | _ => true

noncomputable def bindP : List Str → List V → Option Loc
  | [], [] => some []
  | x :: xs, v :: vs => (bindP xs vs).map ((x, v) :: ·)
  | _, _ => none

noncomputable def isCont : Flw → Bool
  | .cont => true
  | _ => false
noncomputable def retOf : Flw → V
  | .ret v => v
  | _ => .none

noncomputable def callT (n : String) (args : List V) (σ : AS) : Option (V × AS) := on1 args fun a => strElse n "dict"
  (onLst a fun xs => ob (dictOfI xs) fun kvs => whenB (decide (kvs.length ≤ 100)) <| whenB (decide (kvs.map (·.1)).Nodup) <| some (.own σ.length, σ ++ [.dict kvs])) <|
  ownElse a (fun i => strElse n "type" (onList σ[i]? fun _ => some (.val (.type "list"), σ)) none) (retW (primT n [a]) σ)
noncomputable def callI (rc : Runner) (a init : Addr) (args : List V) (σ : AS) : Option (V × AS) := b2 (rv rc (.call (.val (.ref init)) (.own σ.length :: args) []) (σ ++ [.inst a []])) fun z s => match z with
  | .none => some (.own σ.length, s)
  | _ => none
noncomputable def callL (rc : Runner) (args : List V) (σ : AS) : Option (V × AS) := on1 args fun a => onStr a fun text => onTbl σ[(0 : Nat)]? fun n => whenB (decide (n = 0)) <| whenB (decide (text.length ≤ 100000)) <|
  rv rc (.call (.val (.ref S.lexer)) [.own σ.length] []) (List.set σ 0 (AO.tbl 2) ++ [AO.stream text.cps.toList])
noncomputable def bindF (fn : Fn) (args : List V) (kw : List (Str × V)) : Option Loc := bindP fn.ps (if (args ++ kw.map (·.2)).length < fn.ps.length then (args ++ kw.map (·.2)) ++ fn.df else args ++ kw.map (·.2))
noncomputable def callP (rc : Runner) (fn : Fn) (loc : Loc) (σ : AS) : Option (V × AS) := b3 (rex rc (.execs fn.sc loc fn.body) []) fun f _ τ => whenB (flat (freeze τ (retOf f))) <| whenB (!isCont f) <| some (freeze τ (retOf f), σ)
noncomputable def callF (rc : Runner) (fn : Fn) (args : List V) (kw : List (Str × V)) (σ : AS) : Option (V × AS) := ob (bindF fn args kw) fun loc => whenB (kw.map (·.1) == fn.kwn.toList) <|
  bif fn.inl then b3 (rex rc (.execs fn.sc loc fn.body) σ) fun f _ s => whenB (!isCont f) <| some (retOf f, s)
  else whenB (args.all flat) <| whenB ((kw.map (·.2)).all flat) <| callP rc fn loc σ
noncomputable def callR (rc : Runner) (a : Addr) (args : List V) (kw : List (Str × V)) (σ : AS) : Option (V × AS) := oElse (S.cls a) (fun init => whenNil kw (callI rc a init args σ)) <|
  natElse a S.line (whenNil kw (callL S rc args σ)) <| ob (S.fn a) fun fn => callF rc fn args kw σ
noncomputable def stepCall (d : Nat) (rc : Runner) (f : V) (args : List V) (kw : List (Str × V)) (σ : AS) : Option (V × AS) := whenB (decide (d < 25)) <|
  onFn f (fun n => whenNil kw (retW (prim n args) σ)) (fun n => whenNil kw (callT n args σ)) (fun a => callR S rc a args kw σ)

noncomputable def step (d : Nat) (rc : Runner) (j : Job) (σ : AS) : Option (Res × AS) := match j with
  | .eval sc loc e => (stepEval S r sc loc e σ).map fun p => (.v p.1, p.2)
  | .evalT sc loc e => (stepEvalT r sc loc e σ).map fun p => (.v p.1, p.2)
  | .evals sc loc es => (stepEvals r sc loc es σ).map fun p => (.vs p.1, p.2)
  | .cond sc loc e => (stepCond r sc loc e σ).map fun p => (.b p.1, p.2)
  | .iter sc loc e => (stepIter r sc loc e σ).map fun p => (.src p.1 p.2.1, p.2.2)
  | .exec sc loc st => (stepExec S r rc sc loc st σ).map fun p => (.ex p.1 p.2.1, p.2.2)
  | .execs sc loc sts => (stepExecs r sc loc sts σ).map fun p => (.ex p.1 p.2.1, p.2.2)
  | .forL sc loc t g items b => (stepFor r sc loc t g items b σ).map fun p => (.ex p.1 p.2.1, p.2.2)
  | .forC sc loc t k b => (stepForC S r rc sc loc t k b σ).map fun p => (.ex p.1 p.2.1, p.2.2)
  | .whileL sc loc t b => (stepWhile r sc loc t b σ).map fun p => (.ex p.1 p.2.1, p.2.2)
  | .comp sc loc elt g gs src items => (stepComp r sc loc elt g gs src items σ).map fun p => (.its p.1, p.2)
  | .call f args kw => (stepCall S d rc f args kw σ).map fun p => (.v p.1, p.2)
end

noncomputable def run (S : Setup) : Nat → Nat → Runner
  | 0, _ => fun _ _ => none
  | n + 1, d => step S (run S n d) d (run S n (d + 1))

section elim
variable {α β γ δ : Type} {C : Prop}
theorem nex {b : β} (h : none = some b) : C := by cases h
theorem whenB_ {c : Bool} {k : Option β} {b : β} (h : whenB c k = some b) (f : c = true → k = some b → C) : C := by
  cases c
  · exact nex h
  · exact f rfl h
theorem whenD_ {p : Prop} [Decidable p] {k : Option β} {b : β} (h : whenB (decide p) k = some b) (f : p → k = some b → C) : C := whenB_ h fun q => f (of_decide_eq_true q)
theorem bif_ {c : Bool} {x y z : β} (h : (bif c then x else y) = z) (f : c = true → x = z → C) (g : c = false → y = z → C) : C := by
  cases c
  · exact g rfl h
  · exact f rfl h
theorem ob_ {o : Option α} {f : α → Option β} {b : β} (h : ob o f = some b) (k : ∀ a, o = some a → f a = some b → C) : C := by
  cases o with
  | none => exact nex h
  | some a => exact k a rfl h
theorem b2_ {o : Option (α × γ)} {f : α → γ → Option β} {b : β} (h : b2 o f = some b) (k : ∀ x s, o = some (x, s) → f x s = some b → C) : C := by
  cases o with
  | none => exact nex h
  | some a => exact k a.1 a.2 rfl h
theorem b3_ {o : Option (α × γ × δ)} {f : α → γ → δ → Option β} {b : β} (h : b3 o f = some b) (k : ∀ x y s, o = some (x, y, s) → f x y s = some b → C) : C := by
  cases o with
  | none => exact nex h
  | some a => exact k a.1 a.2.1 a.2.2 rfl h
theorem retW_ {P : α → γ → Prop} {o : Option α} {s t : γ} {a : α} (h : retW o s = some (a, t)) (k : o = some a → P a s) : P a t := by
  cases o with
  | none => exact nex h
  | some x => cases h; exact k rfl
theorem fin_ {P : α → γ → Prop} {x a : α} {s t : γ} (h : some (x, s) = some (a, t)) (k : P x s) : P a t := by
  cases h; exact k
theorem fin1_ {P : α → Prop} {x a : α} (h : some x = some a) (k : P x) : P a := by
  cases h; exact k
theorem fin3_ {P : α → γ → δ → Prop} {x a : α} {y b : γ} {s t : δ} (h : some (x, y, s) = some (a, b, t)) (k : P x y s) : P a b t := by
  cases h; exact k
theorem map_ {o : Option α} {g : α → β} {b : β} (h : o.map g = some b) (k : ∀ a, o = some a → g a = b → C) : C := by
  cases o with
  | none => exact nex h
  | some a => exact k a rfl (Option.some.inj h)
theorem nob (h : false = true) : C := by cases h
theorem oElse_ {o : Option α} {f : α → β} {z y : β} (h : oElse o f z = y) (k : ∀ a, o = some a → f a = y → C) (n : o = none → z = y → C) : C := by
  cases o with
  | none => exact n rfl h
  | some a => exact k a rfl h
theorem whenNil_ {l : List α} {k : Option β} {b : β} (P : List α → Prop) (h : whenNil l k = some b) (f : k = some b → P []) : P l := by
  cases l with
  | nil => exact f h
  | cons => exact nex h
theorem on1_ {l : List α} {k : α → Option β} {b : β} (P : List α → Prop) (h : on1 l k = some b) (f : ∀ a, k a = some b → P [a]) : P l := by
  cases l with
  | nil => exact nex h
  | cons a l => exact whenNil_ (fun l => P (a :: l)) h (f a)
theorem on2_ {l : List α} {k : α → α → Option β} {b : β} (P : List α → Prop) (h : on2 l k = some b) (f : ∀ a c, k a c = some b → P [a, c]) : P l := by
  cases l with
  | nil => exact nex h
  | cons a l => exact on1_ (fun l => P (a :: l)) h (f a)
theorem ownElse_ {v : V} {f : Nat → β} {z y : β} (P : V → Prop) (h : ownElse v f z = y) (q : P v) (k : ∀ i, P (.own i) → f i = y → C) (n : z = y → C) : C := by
  cases v with
  | own i => exact k i q h
  | _ => exact n h
theorem lstElse_ {v : V} {f : List It → β} {z y : β} (P : V → Prop) (h : lstElse v f z = y) (q : P v) (k : ∀ i, P (.lst i) → f i = y → C) (n : z = y → C) : C := by
  cases v with
  | lst i => exact k i q h
  | _ => exact n h
theorem itElse_ {v : V} {f : It → β} {z y : β} (P : V → Prop) (h : itElse v f z = y) (q : P v) (k : ∀ i, P (.it i) → f i = y → C) (n : z = y → C) : C := by
  cases v with
  | it i => exact k i q h
  | _ => exact n h
theorem valElse_ {v : V} {f : Value → β} {z y : β} (P : V → Prop) (h : valElse v f z = y) (q : P v) (k : ∀ i, P (.val i) → f i = y → C) (n : z = y → C) : C := by
  cases v with
  | val i => exact k i q h
  | _ => exact n h
section
variable {v : V} {b : β} (P : V → Prop)
theorem onOwn_ {f : Nat → Option β} (h : onOwn v f = some b) (q : P v) (k : ∀ i, P (.own i) → f i = some b → C) : C := ownElse_ P h q k nex
theorem onLst_ {f : List It → Option β} (h : onLst v f = some b) (q : P v) (k : ∀ i, P (.lst i) → f i = some b → C) : C := lstElse_ P h q k nex
theorem onIt_ {f : It → Option β} (h : onIt v f = some b) (q : P v) (k : ∀ i, P (.it i) → f i = some b → C) : C := itElse_ P h q k nex
theorem atI_ {i : It} {f : At → Option β} (P : It → Prop) (h : atI i f = some b) (q : P i) (k : ∀ a, P (.at a) → f a = some b → C) : C := by
  cases i with
  | «at» a => exact k a q h
  | pair => exact nex h
theorem intA_ {a : At} {f : Int → Option β} (P : At → Prop) (h : intA a f = some b) (q : P a) (k : ∀ i, P (.int i) → f i = some b → C) : C := by
  cases a with
  | int i => exact k i q h
  | str => exact nex h
theorem strA_ {a : At} {f : Str → Option β} (P : At → Prop) (h : strA a f = some b) (q : P a) (k : ∀ i, P (.str i) → f i = some b → C) : C := by
  cases a with
  | int i => exact nex h
  | str x => exact k x q h
theorem onAt_ {f : At → Option β} (h : onAt v f = some b) (q : P v) (k : ∀ i, P (.it (.at i)) → f i = some b → C) : C := onIt_ P h q fun _ q h => atI_ (fun i => P (.it i)) h q k
theorem onInt_ {f : Int → Option β} (h : onInt v f = some b) (q : P v) (k : ∀ i, P (.int i) → f i = some b → C) : C := onAt_ P h q fun _ q h => intA_ (fun i => P (.it (.at i))) h q k
theorem onStr_ {f : Str → Option β} (h : onStr v f = some b) (q : P v) (k : ∀ i, P (.str i) → f i = some b → C) : C := onAt_ P h q fun _ q h => strA_ (fun i => P (.it (.at i))) h q k
theorem onFn_ {f g : String → Option β} {m : Addr → Option β} (h : onFn v f g m = some b) (q : P v) (k1 : ∀ n, P (.val (.builtin n)) → f n = some b → C) (k2 : ∀ n, P (.val (.type n)) → g n = some b → C)
    (k3 : ∀ n, P (.val (.ref n)) → m n = some b → C) : C := valElse_ P h q (fun u q h => by
  cases u with
  | builtin n => exact k1 n q h
  | type n => exact k2 n q h
  | ref n => exact k3 n q h
  | _ => exact nex h) nex
theorem onTyp_ {f : String → Option β} (h : onTyp v f = some b) (q : P v) (k : ∀ n, P (.val (.type n)) → f n = some b → C) : C := onFn_ P h q (fun _ _ => nex) k (fun _ _ => nex)
theorem onRef_ {f : Addr → Option β} (h : onRef v f = some b) (q : P v) (k : ∀ n, P (.val (.ref n)) → f n = some b → C) : C := onFn_ P h q (fun _ _ => nex) (fun _ _ => nex) k
end
section
variable {v : V} {b : β} {o : Option (V × γ)} {s : γ}
theorem rOwnElse_ {f : Nat → β} {z y : β} (h : ownElse v f z = y) (q : o = some (v, s)) (k : ∀ i, o = some (.own i, s) → f i = y → C) (n : z = y → C) : C := ownElse_ (fun v => o = some (v, s)) h q k n
theorem rItElse_ {f : It → β} {z y : β} (h : itElse v f z = y) (q : o = some (v, s)) (k : ∀ i, o = some (.it i, s) → f i = y → C) (n : z = y → C) : C := itElse_ (fun v => o = some (v, s)) h q k n
theorem rOwn_ {f : Nat → Option β} (h : onOwn v f = some b) (q : o = some (v, s)) (k : ∀ i, o = some (.own i, s) → f i = some b → C) : C := onOwn_ (fun v => o = some (v, s)) h q k
theorem rLst_ {f : List It → Option β} (h : onLst v f = some b) (q : o = some (v, s)) (k : ∀ i, o = some (.lst i, s) → f i = some b → C) : C := onLst_ (fun v => o = some (v, s)) h q k
theorem rIt_ {f : It → Option β} (h : onIt v f = some b) (q : o = some (v, s)) (k : ∀ i, o = some (.it i, s) → f i = some b → C) : C := onIt_ (fun v => o = some (v, s)) h q k
theorem rAt_ {f : At → Option β} (h : onAt v f = some b) (q : o = some (v, s)) (k : ∀ i, o = some (.it (.at i), s) → f i = some b → C) : C := onAt_ (fun v => o = some (v, s)) h q k
theorem rInt_ {f : Int → Option β} (h : onInt v f = some b) (q : o = some (v, s)) (k : ∀ i, o = some (.int i, s) → f i = some b → C) : C := onInt_ (fun v => o = some (v, s)) h q k
theorem rStr_ {f : Str → Option β} (h : onStr v f = some b) (q : o = some (v, s)) (k : ∀ i, o = some (.str i, s) → f i = some b → C) : C := onStr_ (fun v => o = some (v, s)) h q k
theorem rTyp_ {f : String → Option β} (h : onTyp v f = some b) (q : o = some (v, s)) (k : ∀ i, o = some (.val (.type i), s) → f i = some b → C) : C := onTyp_ (fun v => o = some (v, s)) h q k
theorem rRef_ {f : Addr → Option β} (h : onRef v f = some b) (q : o = some (v, s)) (k : ∀ i, o = some (.val (.ref i), s) → f i = some b → C) : C := onRef_ (fun v => o = some (v, s)) h q k
end
section
variable {o : Option AO} {b : β}
theorem onInst_ {f : Addr → List (Str × V) → Option β} (h : onInst o f = some b) (k : ∀ D fs, o = some (.inst D fs) → f D fs = some b → C) : C := ob_ h fun a q g => by
  cases a with
  | inst D fs => exact k D fs q g
  | _ => exact nex g
theorem onList_ {f : List It → Option β} (h : onList o f = some b) (k : ∀ xs, o = some (.list xs) → f xs = some b → C) : C := ob_ h fun a q g => by
  cases a with
  | list xs => exact k xs q g
  | _ => exact nex g
theorem onDict_ {f : List (Str × Int) → Option β} (h : onDict o f = some b) (k : ∀ xs, o = some (.dict xs) → f xs = some b → C) : C := ob_ h fun a q g => by
  cases a with
  | dict xs => exact k xs q g
  | _ => exact nex g
theorem onStream_ {f : List Nat → Option β} (h : onStream o f = some b) (k : ∀ xs, o = some (.stream xs) → f xs = some b → C) : C := ob_ h fun a q g => by
  cases a with
  | stream xs => exact k xs q g
  | _ => exact nex g
theorem onTbl_ {f : Nat → Option β} (h : onTbl o f = some b) (k : ∀ n, o = some (.tbl n) → f n = some b → C) : C := ob_ h fun a q g => by
  cases a with
  | tbl n => exact k n q g
  | _ => exact nex g
theorem onCit_ {f g : Nat → Option β} (h : onCit o f g = some b) (k : ∀ i, o = some (.citer i true) → f i = some b → C) (n : ∀ i, o = some (.citer i false) → g i = some b → C) : C := ob_ h fun a q g => by
  cases a with
  | citer i l =>
    cases l
    · exact n i q g
    · exact k i q g
  | _ => exact nex g
end
theorem strElse_ {t u : String} {k z y : β} (P : String → Prop) (h : strElse t u k z = y) (f : k = y → P u) (g : z = y → P t) : P t := by
  unfold strElse at h
  by_cases e : t = u
  · rw [if_pos e] at h; subst e; exact f h
  · rw [if_neg e] at h; exact g h
theorem natElse_ {t u : Nat} {k z y : β} (P : Nat → Prop) (h : natElse t u k z = y) (f : k = y → P u) (g : t ≠ u → z = y → P t) : P t := by
  unfold natElse at h
  by_cases e : t = u
  · rw [if_pos e] at h; subst e; exact f h
  · rw [if_neg e] at h; exact g e h
theorem retElse_ {f : Flw} {k : V → β} {z y : β} {o : Option (Flw × α × γ)} {l : α} {s : γ} (h : retElse f k z = y) (q : o = some (f, l, s)) (c : ∀ v, o = some (.ret v, l, s) → k v = y → C) (g : (∀ v, f ≠ .ret v) → z = y → C) : C := by
  cases f with
  | ret v => exact c v q h
  | _ => exact g (fun v e => by cases e) h
theorem nextElse_ {f : Flw} {k z y : β} {o : Option (Flw × α × γ)} {l : α} {s : γ} (h : nextElse f k z = y) (q : o = some (f, l, s)) (c : o = some (.next, l, s) → k = y → C) (g : f ≠ .next → z = y → C) : C := by
  cases f with
  | next => exact c q h
  | _ => exact g (fun e => by cases e) h
theorem nmElse_ {e : Expr} {k : Str → Pos → β} {z y : β} (P : Expr → Prop) (h : nmElse e k z = y) (f : ∀ x p, k x p = y → P (.Name x p)) (g : z = y → P e) : P e := by
  cases e with
  | Name x p => exact f x p h
  | _ => exact g h
theorem nm2_ {es : List Expr} {f : Str → Pos → Str → Pos → β} {z y : β} (P : List Expr → Prop) (h : nm2 es f z = y) (c : ∀ n p m q, f n p m q = y → P [.Name n p, .Name m q]) (g : z = y → P es) : P es := by
  delta nm2 at h
  cases es with
  | nil => exact g h
  | cons a l =>
    cases l with
    | nil => exact g h
    | cons b l =>
      cases l with
      | nil => exact nmElse_ (fun a => (z = y → P [a, b]) → P [a, b]) h (fun n p h _ => nmElse_ (fun b => (z = y → P [.Name n p, b]) → P [.Name n p, b]) h (fun m q h _ => c n p m q h) (fun h g => g h) ‹_›) (fun h g => g h) g
      | cons => exact g h
theorem onTN_ {t : Expr} {f : Str → Pos → β} {g : Str → Pos → Str → Pos → Nat → Pos → β} {z y : β} (P : Expr → Prop) (h : onTN t f g z = y) (c1 : ∀ n p, f n p = y → P (.Name n p)) (c2 : ∀ n p m q k r, g n p m q k r = y → P (.Tuple [.Name n p, .Name m q] k r)) (c3 : z = y → P t) : P t := by
  delta onTN at h
  cases t with
  | Name n p => exact c1 n p h
  | Tuple es k r => exact nm2_ (fun es => (z = y → P (.Tuple es k r)) → P (.Tuple es k r)) h (fun n p m q h _ => c2 n p m q k r h) (fun h g => g h) c3
  | _ => exact c3 h
theorem prI_ {i : It} {f : At → At → Option β} {b : β} (P : It → Prop) (h : prI i f = some b) (q : P i) (k : ∀ u v, P (.pair u v) → f u v = some b → C) : C := by
  cases i with
  | «at» => exact nex h
  | pair u v => exact k u v q h
theorem onTgt_ {e : Expr} {f : Str → Pos → Option β} {g : Expr → Str → Pos → Option β} {k : Expr → Expr → Pos → Option β} {y : β} (P : Expr → Prop) (h : onTgt e f g k = some y) (c1 : ∀ x p, f x p = some y → P (.Name x p)) (c2 : ∀ x n p, g x n p = some y → P (.Attribute x n p))
    (c3 : ∀ x n p, k x n p = some y → P (.Subscript x n p)) : P e := by
  cases e with
  | Name x p => exact c1 x p h
  | Attribute x n p => exact c2 x n p h
  | Subscript x n p => exact c3 x n p h
  | _ => exact nex h
theorem and_ {a b : Bool} (h : (a && b) = true) : a = true ∧ b = true := by cases a <;> cases b <;> first | exact ⟨rfl, rfl⟩ | cases h
theorem not_ {b : Bool} (h : (!b) = true) : b = false := by cases b <;> first | rfl | cases h
theorem imp_ {a b : Bool} (h : (!a || b) = true) (e : a = true) : b = true := by cases a <;> cases b <;> first | rfl | (cases e; done) | cases h
end elim

end Mine
end

-- part M3
section
namespace Mine
open PySem PySem.W PyProof.Rows PySem.Calls PySem.Spec

noncomputable def AtRel : At → Value → Prop
  | .int i, v => ∃ t, v = .int i t
  | .str x, v => ∃ t, v = .str x t
noncomputable def noF (_ : Addr) : Prop := False
noncomputable def ItRel (T : List Addr) (h : Heap) : It → Value → Prop
  | .at a, v => AtRel a v
  | .pair a b, v => ∃ l u x, v = .ref l ∧ l ∉ T ∧ IsTup h l #[u, x] ∧ AtRel a u ∧ AtRel b x
inductive ItsRel (T : List Addr) (h : Heap) : List It → List Value → Prop
  | nil : ItsRel T h [] []
  | cons {x xs v vs} : ItRel T h x v → ItsRel T h xs vs → ItsRel T h (x :: xs) (v :: vs)
/-- where the tracked objects lie; what else no value leads to -/
structure Rho where
  own : List (List Addr)
  priv : List Addr := []
noncomputable def Rho.flatten (ρ : Rho) : List Addr := ρ.own.flatten ++ ρ.priv
theorem Rho.mem_own {ρ : Rho} {a : Addr} (h : a ∈ ρ.own.flatten) : a ∈ ρ.flatten := List.mem_append_left _ h
theorem Rho.mem_more {ρ ρ' : Rho} {m : List (List Addr)} {p : List Addr} (e : ρ'.own = ρ.own ++ m) (q : ρ'.priv = p ++ ρ.priv) {a : Addr} : a ∈ ρ'.flatten ↔ a ∈ ρ.flatten ∨ a ∈ m.flatten ++ p := by
  unfold Rho.flatten
  rw [e, q, List.flatten_append, List.mem_append, List.mem_append, List.mem_append, List.mem_append, List.mem_append]
  constructor
  · rintro ((h | h) | h | h)
    · exact .inl (.inl h)
    · exact .inr (.inl h)
    · exact .inr (.inr h)
    · exact .inl (.inr h)
  · rintro ((h | h) | h | h)
    · exact .inl (.inl h)
    · exact .inr (.inr h)
    · exact .inl (.inr h)
    · exact .inr (.inl h)
noncomputable def VRel (ρ : Rho) (h : Heap) : V → Value → Prop
  | .none, v => v = .none
  | .bool b, v => v = .bool b
  | .it i, v => ItRel ρ.flatten h i v
  | .lst xs, v => ∃ l vs, v = .ref l ∧ l ∉ ρ.flatten ∧ h.PlainList l vs.toArray ∧ ItsRel ρ.flatten h xs vs
  | .val u, v => v = u
  | .own i, v => ∃ a r, ρ.own[i]? = some (a :: r) ∧ v = .ref a

inductive EntRel (w : World) (ρ : Rho) (h : Heap) : List (Str × V) → List DictEntry → Prop
  | nil : EntRel w ρ h [] []
  | cons {x t v u r es} : VRel ρ h v u → EntRel w ρ h r es → EntRel w ρ h ((x, v) :: r) (⟨PyData.keyHash w.params x, .str x t, u⟩ :: es)

/-- what the stream's and the iterator's objects are: said later -/
structure Shapes where
  stream : World → Heap → List Addr → List Nat → Prop
  citer : World → Heap → List Addr → Addr → Bool → Prop
  dict : World → Heap → Addr → List (Str × Int) → Prop
  tbl : Heap → Addr → Nat → Prop
  streamK : ∀ {w h h' fp x}, stream w h fp x → (∀ a ∈ fp, ∀ o, h.get? a = some o → h'.get? a = some o) → stream w h' fp x
  citerK : ∀ {w h h' fp x p}, citer w h fp x p → (∀ a ∈ fp, ∀ o, h.get? a = some o → h'.get? a = some o) → citer w h' fp x p
  tblK : ∀ {h h' a b}, tbl h a b → (∀ o, h.get? a = some o → h'.get? a = some o) → tbl h' a b
  dictK : ∀ {w h h' a kvs}, dict w h a kvs → (∀ o, h.get? a = some o → h'.get? a = some o) → dict w h' a kvs

noncomputable def AORel (Z : Shapes) (w : World) (ρ : Rho) (h : Heap) (fp : List Addr) : AO → Prop
  | .list xs => ∃ a vs, fp = [a] ∧ h.PlainList a vs.toArray ∧ ItsRel ρ.flatten h xs vs
  | .dict kvs => ∃ a, fp = [a] ∧ Z.dict w h a kvs
  | .inst C fs => ∃ a d es n, fp = [a, d] ∧ h.get? a = some (instObj C d) ∧ h.get? d = some (dictOf es n) ∧ EntRel w ρ h fs es
  | .stream x => Z.stream w h fp x
  | .citer k live => ∃ a r, ρ.own[k]? = some (a :: r) ∧ Z.citer w h fp a live
  | .tbl made => ∃ a, fp = [a] ∧ Z.tbl h a made

structure SRel (Z : Shapes) (w : World) (hb : Heap) (ρ : Rho) (σ : AS) (h : Heap) : Prop where
  base : ∀ b o, hb.get? b = some o → h.get? b = some o
  len : ρ.own.length = σ.length
  objs : ∀ (i : Nat) (fp : List Addr) (o : AO), ρ.own[i]? = some fp → σ[i]? = some o → AORel Z w ρ h fp o
  nd : ρ.flatten.Nodup
  fresh : ∀ a ∈ ρ.flatten, hb.get? a = none
  there : ∀ a ∈ ρ.flatten, ∃ o, h.get? a = some o

/-- the name lives in a cell -/
noncomputable def IsC (x : Str) (k : Option NameKind) : Prop := k = some .cell ∨ (k = some .free ∧ (x == ("__classdict__" : Str)) = false)
theorem IsC.notLocal {x : Str} {k : Option NameKind} (h : IsC x k) : k ≠ some .local := by rcases h with rfl | ⟨rfl, _⟩ <;> decide
structure ERel (hb : Heap) (ρ : Rho) (sc : Scope) (loc : Loc) (env : Env) (h : Heap) : Prop where
  esc : env.scope = sc
  kind : sc.kind = .function
  gl : env.globals = mainGlobals
  bi : env.builtins = builtinsNs
  ns : ∃ m, h.Ns env.locals m ∧ ∀ x v, loc.lookup x = some v → sc.names.lookup x = some .local → ∃ u, m x = some u ∧ VRel ρ h v u
  cells : ∀ x, IsC x (sc.names.lookup x) → ∃ c u, env.cells.lookup x = some c ∧ h.IsCell c u ∧ ∀ v, loc.lookup x = some v → ∃ u', u = some u' ∧ VRel ρ h v u'
  kinds : ∀ x v, loc.lookup x = some v → sc.names.lookup x = some .local ∨ IsC x (sc.names.lookup x)
  inj : ∀ x y c, env.cells.lookup x = some c → env.cells.lookup y = some c → x = y
  fpL : env.locals ∉ ρ.flatten ∧ hb.get? env.locals = none
  fpC : ∀ x c, env.cells.lookup x = some c → c ∉ ρ.flatten ∧ hb.get? c = none ∧ c ≠ env.locals ∧ ∃ u, h.IsCell c u

/-- the addresses of the frame's own objects -/
noncomputable def FP (env : Env) (b : Addr) : Prop := b = env.locals ∨ ∃ x, env.cells.lookup x = some b

structure Ext (F : Addr → Prop) (ρ ρ' : Rho) (h h' : Heap) : Prop where
  more : ∃ m p, ρ'.own = ρ.own ++ m ∧ ρ'.priv = p ++ ρ.priv ∧ ∀ a ∈ m.flatten ++ p, h.get? a = none ∧ ¬ F a
  kept : ∀ b o, b ∉ ρ.own.flatten → ¬ F b → h.get? b = some o → h'.get? b = some o
  there : ∀ b o, ¬ F b → h.get? b = some o → ∃ o', h'.get? b = some o'

theorem Ext.refl (F : Addr → Prop) (ρ : Rho) (h : Heap) : Ext F ρ ρ h h :=
  ⟨⟨[], [], by simp, rfl, by simp⟩, fun _ _ _ _ e => e, fun _ o _ e => ⟨o, e⟩⟩
theorem Ext.of_keeps {F : Addr → Prop} {ρ : Rho} {h h' : Heap} (k : ∀ b o, h.get? b = some o → h'.get? b = some o) : Ext F ρ ρ h h' :=
  ⟨⟨[], [], by simp, rfl, by simp⟩, fun b o _ _ e => k b o e, fun b o _ e => ⟨o, k b o e⟩⟩
theorem Ext.trans {F : Addr → Prop} {ρ ρ' ρ'' : Rho} {h h' h'' : Heap} (x : Ext F ρ ρ' h h') (y : Ext F ρ' ρ'' h' h'') : Ext F ρ ρ'' h h'' := by
  obtain ⟨m, p, e1, p1, hm⟩ := x.more
  obtain ⟨m', p', e2, p2, hm'⟩ := y.more
  refine ⟨⟨m ++ m', p' ++ p, by rw [e2, e1, List.append_assoc], by rw [p2, p1, List.append_assoc], fun a ha => ?_⟩, fun b o hb hf e => ?_, fun b o hf e => ?_⟩
  · have ha : a ∈ m.flatten ++ p ∨ a ∈ m'.flatten ++ p' := by
      simp only [List.flatten_append, List.mem_append] at ha ⊢
      rcases ha with (h | h) | h | h
      · exact .inl (.inl h)
      · exact .inr (.inl h)
      · exact .inr (.inr h)
      · exact .inl (.inr h)
    rcases ha with ha | ha
    · exact hm a ha
    · refine ⟨?_, (hm' a ha).2⟩
      cases q : h.get? a with
      | none => rfl
      | some o => obtain ⟨o', e'⟩ := x.there a o (hm' a ha).2 q; rw [(hm' a ha).1] at e'; cases e'
  · have e' := x.kept b o hb hf e
    refine y.kept b o (fun hmem => ?_) hf e'
    rw [e1, List.flatten_append, List.mem_append] at hmem
    rcases hmem with q | q
    · exact hb q
    · rw [(hm b (List.mem_append_left _ q)).1] at e; cases e
  · obtain ⟨o', e'⟩ := x.there b o hf e
    exact y.there b o' hf e'
/-- first what turns nothing of F, then what turns of F, or of what was not there at the start -/
theorem Ext.then {F G : Addr → Prop} {ρ₀ ρ ρ' : Rho} {h₀ h₁ h' : Heap} (x₀ : Ext noF ρ₀ ρ h₀ h₁) (x : Ext G ρ ρ' h₁ h') (hF : ∀ b, F b → ∃ o, h₀.get? b = some o) (hG : ∀ b, G b → F b ∨ h₀.get? b = none) : Ext F ρ₀ ρ' h₀ h' := by
  obtain ⟨m, p, e1, p1, hm⟩ := x₀.more
  obtain ⟨m', p', e2, p2, hm'⟩ := x.more
  have old : ∀ a, h₁.get? a = none → h₀.get? a = none := fun a ha => by
    cases q : h₀.get? a with
    | none => rfl
    | some o => obtain ⟨o', e'⟩ := x₀.there a o id q; rw [ha] at e'; cases e'
  have notF : ∀ a, h₀.get? a = none → ¬ F a := fun a ha f => by obtain ⟨o, e⟩ := hF a f; rw [ha] at e; cases e
  have notG : ∀ b o, ¬ F b → h₀.get? b = some o → ¬ G b := fun b o hf e g => by
    rcases hG b g with q | q
    · exact hf q
    · rw [q] at e; cases e
  refine ⟨⟨m ++ m', p' ++ p, by rw [e2, e1, List.append_assoc], by rw [p2, p1, List.append_assoc], fun a ha => ?_⟩, fun b o hb hf e => ?_, fun b o hf e => ?_⟩
  · have ha : a ∈ m.flatten ++ p ∨ a ∈ m'.flatten ++ p' := by
      simp only [List.flatten_append, List.mem_append] at ha ⊢
      rcases ha with (h | h) | h | h
      · exact .inl (.inl h)
      · exact .inr (.inl h)
      · exact .inr (.inr h)
      · exact .inl (.inr h)
    rcases ha with ha | ha
    · exact ⟨(hm a ha).1, notF a (hm a ha).1⟩
    · have := old a (hm' a ha).1
      exact ⟨this, notF a this⟩
  · have e' := x₀.kept b o hb id e
    refine x.kept b o (fun hmem => ?_) (notG b o hf e) e'
    rw [e1, List.flatten_append, List.mem_append] at hmem
    rcases hmem with q | q
    · exact hb q
    · rw [(hm b (List.mem_append_left _ q)).1] at e; cases e
  · obtain ⟨o', e'⟩ := x₀.there b o id e
    exact x.there b o' (notG b o hf e) e'

/-- nothing of F is a list or a tuple -/
noncomputable def NoSeq (F : Addr → Prop) (ρ : Rho) (h : Heap) : Prop := ∀ b o, F b → b ∉ ρ.flatten → h.get? b = some o → ∀ xs n, o.data ≠ .seq xs n
theorem noSeq_none (ρ : Rho) (h : Heap) : NoSeq noF ρ h := fun _ _ f => f.elim
theorem Rho.not_own {ρ : Rho} {a : Addr} (h : a ∉ ρ.flatten) : a ∉ ρ.own.flatten := fun q => h (Rho.mem_own q)

section
variable {F : Addr → Prop} {ρ ρ' : Rho} {h h' : Heap} (x : Ext F ρ ρ' h h') (hF : NoSeq F ρ h)
include x
theorem Ext.off {l : Addr} {o : Obj} (hl : l ∉ ρ.flatten) (e : h.get? l = some o) : l ∉ ρ'.flatten := by
  obtain ⟨m, p, e1, p1, hm⟩ := x.more
  intro q
  rcases (Rho.mem_more e1 p1).mp q with q | q
  · exact hl q
  · rw [(hm l q).1] at e; cases e
include hF
theorem Ext.tup {l : Addr} {items : Array Value} (hl : l ∉ ρ.flatten) (i : IsTup h l items) : l ∉ ρ'.flatten ∧ IsTup h' l items := by
  obtain ⟨o, e, hc, n, hd⟩ := i
  exact ⟨x.off hl e, o, x.kept l o (Rho.not_own hl) (fun f => hF l o f hl e _ _ hd) e, hc, n, hd⟩
theorem Ext.lst {l : Addr} {items : Array Value} (hl : l ∉ ρ.flatten) (i : h.PlainList l items) : l ∉ ρ'.flatten ∧ h'.PlainList l items := by
  obtain ⟨n, e⟩ := i
  exact ⟨x.off hl e, n, x.kept l _ (Rho.not_own hl) (fun f => hF l _ f hl e _ _ rfl) e⟩
theorem ItRel.ext {i : It} {v : Value} (r : ItRel ρ.flatten h i v) : ItRel ρ'.flatten h' i v := by
  cases i with
  | «at» a => exact r
  | pair a b =>
    obtain ⟨l, u, y, rfl, hl, ht, ha, hb⟩ := r
    obtain ⟨hl', ht'⟩ := x.tup hF hl ht
    exact ⟨l, u, y, rfl, hl', ht', ha, hb⟩
theorem ItsRel.ext {xs : List It} {vs : List Value} (r : ItsRel ρ.flatten h xs vs) : ItsRel ρ'.flatten h' xs vs := by
  induction r with
  | nil => exact .nil
  | cons a _ ih => exact .cons (a.ext x hF) ih
theorem VRel.ext {v : V} {u : Value} (r : VRel ρ h v u) : VRel ρ' h' v u := by
  cases v with
  | none => exact r
  | bool b => exact r
  | it i => exact ItRel.ext x hF r
  | lst xs =>
    obtain ⟨l, vs, rfl, hl, hL, hi⟩ := r
    obtain ⟨hl', hL'⟩ := x.lst hF hl hL
    exact ⟨l, vs, rfl, hl', hL', hi.ext x hF⟩
  | val u => exact r
  | own i =>
    obtain ⟨a, rr, e, rfl⟩ := r
    obtain ⟨m, _, e1, _⟩ := x.more
    refine ⟨a, rr, ?_, rfl⟩
    rw [e1, List.getElem?_append_left (List.getElem?_eq_some_iff.mp e).1]; exact e
theorem EntRel.ext {w : World} {fs : List (Str × V)} {es : List DictEntry} (r : EntRel w ρ h fs es) : EntRel w ρ' h' fs es := by
  induction r with
  | nil => exact .nil
  | cons a _ ih => exact .cons (a.ext x hF) ih
end

theorem IsCell.notSeq {h : Heap} {c : Addr} {u : Option Value} {o : Obj} (hc : h.IsCell c u) (e : h.get? c = some o) : ∀ xs n, o.data ≠ .seq xs n := by
  obtain ⟨o', e', hd⟩ := hc
  rw [e'] at e; cases e
  intro xs n q; rw [hd] at q; cases q
theorem Ns.notSeq {h : Heap} {a : Addr} {m : Str → Option Value} {o : Obj} (hn : h.Ns a m) (e : h.get? a = some o) : ∀ xs n, o.data ≠ .seq xs n := by
  obtain ⟨o', es, ep, e', hd, _⟩ := hn
  rw [e'] at e; cases e
  intro xs n q; rw [hd] at q; cases q

section
variable {hb : Heap} {ρ ρ' : Rho} {sc : Scope} {loc : Loc} {env : Env} {h h' : Heap}
theorem ERel.noSeq (R : ERel hb ρ sc loc env h) : NoSeq (FP env) ρ h := by
  rintro b o (rfl | ⟨y, e⟩) _ ho
  · obtain ⟨m, hn, _⟩ := R.ns
    exact Ns.notSeq hn ho
  · obtain ⟨_, _, _, u, hu⟩ := R.fpC y b e
    exact IsCell.notSeq hu ho

/-- what keeps all but the tracked ones keeps the frame -/
theorem ERel.ext (R : ERel hb ρ sc loc env h) (x : Ext noF ρ ρ' h h') : ERel hb ρ' sc loc env h' := by
  have nf := noSeq_none ρ h
  obtain ⟨m, hn, hv⟩ := R.ns
  have hn' : h'.Ns env.locals m := by
    obtain ⟨o, es, ep, ho, r⟩ := hn
    exact ⟨o, es, ep, x.kept _ o (Rho.not_own R.fpL.1) id ho, r⟩
  have cell : ∀ y c u, env.cells.lookup y = some c → h.IsCell c u → h'.IsCell c u := fun y c u e hu => by
    obtain ⟨o, ho, hd⟩ := hu
    exact ⟨o, x.kept c o (Rho.not_own (R.fpC y c e).1) id ho, hd⟩
  refine ⟨R.esc, R.kind, R.gl, R.bi, ⟨m, hn', fun y v e k => ?_⟩, fun y k => ?_, R.kinds, R.inj, ⟨?_, R.fpL.2⟩, fun y c e => ?_⟩
  · obtain ⟨u, h1, h2⟩ := hv y v e k
    exact ⟨u, h1, h2.ext x nf⟩
  · obtain ⟨c, u, h1, h2, h3⟩ := R.cells y k
    refine ⟨c, u, h1, cell y c u h1 h2, fun v e => ?_⟩
    obtain ⟨u', h4, h5⟩ := h3 v e
    exact ⟨u', h4, h5.ext x nf⟩
  · obtain ⟨o, es, ep, ho, _⟩ := hn
    exact x.off R.fpL.1 ho
  · obtain ⟨h1, h2, h3, u, hu⟩ := R.fpC y c e
    obtain ⟨o, ho, hd⟩ := id hu
    exact ⟨x.off h1 ho, h2, h3, u, cell y c u e hu⟩
end

section
variable {hb : Heap} {ρ ρ' : Rho} {sc : Scope} {loc : Loc} {env : Env} {h h' : Heap} {F : Addr → Prop}
/-- what turns nothing of the frame keeps the frame -/
theorem ERel.ext' (R : ERel hb ρ sc loc env h) (x : Ext F ρ ρ' h h') (nf : NoSeq F ρ h) (hd : ∀ b, FP env b → ¬ F b) : ERel hb ρ' sc loc env h' := by
  obtain ⟨m, hn, hv⟩ := R.ns
  have dL : ¬ F env.locals := hd _ (.inl rfl)
  have dC : ∀ y c, env.cells.lookup y = some c → ¬ F c := fun y c e => hd _ (.inr ⟨y, e⟩)
  have hn' : h'.Ns env.locals m := by
    obtain ⟨o, es, ep, ho, r⟩ := hn
    exact ⟨o, es, ep, x.kept _ o (Rho.not_own R.fpL.1) dL ho, r⟩
  have cell : ∀ y c u, env.cells.lookup y = some c → h.IsCell c u → h'.IsCell c u := fun y c u e hu => by
    obtain ⟨o, ho, hd⟩ := hu
    exact ⟨o, x.kept c o (Rho.not_own (R.fpC y c e).1) (dC y c e) ho, hd⟩
  refine ⟨R.esc, R.kind, R.gl, R.bi, ⟨m, hn', fun y v e k => ?_⟩, fun y k => ?_, R.kinds, R.inj, ⟨?_, R.fpL.2⟩, fun y c e => ?_⟩
  · obtain ⟨u, h1, h2⟩ := hv y v e k
    exact ⟨u, h1, h2.ext x nf⟩
  · obtain ⟨c, u, h1, h2, h3⟩ := R.cells y k
    refine ⟨c, u, h1, cell y c u h1 h2, fun v e => ?_⟩
    obtain ⟨u', h4, h5⟩ := h3 v e
    exact ⟨u', h4, h5.ext x nf⟩
  · obtain ⟨o, es, ep, ho, _⟩ := hn
    exact x.off R.fpL.1 ho
  · obtain ⟨h1, h2, h3, u, hu⟩ := R.fpC y c e
    obtain ⟨o, ho, hd⟩ := id hu
    exact ⟨x.off h1 ho, h2, h3, u, cell y c u e hu⟩
theorem Ext.mono {G : Addr → Prop} (x : Ext G ρ ρ' h h') (hF : ∀ b, F b → ∃ o, h.get? b = some o) (hG : ∀ b, G b → F b) : Ext F ρ ρ' h h' :=
  (Ext.refl noF ρ h).then x hF fun b g => .inl (hG b g)
theorem NoSeq.or {G : Addr → Prop} (a : NoSeq F ρ h) (b : NoSeq G ρ h) : NoSeq (fun b => F b ∨ G b) ρ h := fun c o f n e => f.elim (fun f => a c o f n e) fun g => b c o g n e
end

section
variable {Z : Shapes} {w : World} {hb : Heap} {ρ : Rho} {σ : AS} {h h' : Heap}
theorem mem_flatten_of {ρ : Rho} {i : Nat} {fp : List Addr} (e : ρ.own[i]? = some fp) {a : Addr} (ha : a ∈ fp) : a ∈ ρ.flatten :=
  Rho.mem_own (List.mem_flatten.mpr ⟨fp, List.mem_of_getElem? e, ha⟩)
/-- what leaves the tracked objects as they are -/
theorem SRel.keep (R : SRel Z w hb ρ σ h) {F : Addr → Prop} (x : Ext F ρ ρ h h') (hF : NoSeq F ρ h) (hf : ∀ b, F b → hb.get? b = none)
    (same : ∀ a ∈ ρ.own.flatten, ∀ o, h.get? a = some o → h'.get? a = some o) (lp : ∀ a ∈ ρ.priv, ∃ o, h'.get? a = some o) : SRel Z w hb ρ σ h' := by
  refine ⟨fun b o e => ?_, R.len, fun i fp o e1 e2 => ?_, R.nd, R.fresh, fun a ha => ?_⟩
  · refine x.kept b o (fun q => ?_) (fun q => ?_) (R.base b o e)
    · have := R.fresh b (Rho.mem_own q); rw [this] at e; cases e
    · have := hf b q; rw [this] at e; cases e
  · have r := R.objs i fp o e1 e2
    have sm : ∀ a ∈ fp, ∀ o, h.get? a = some o → h'.get? a = some o := fun a ha => same a (List.mem_flatten.mpr ⟨fp, List.mem_of_getElem? e1, ha⟩)
    cases o with
    | list xs =>
      obtain ⟨a, vs, rfl, ⟨n', ho⟩, hi⟩ := r
      exact ⟨a, vs, rfl, ⟨n', sm a (by simp) _ ho⟩, hi.ext x hF⟩
    | dict kvs =>
      obtain ⟨a, rfl, hd⟩ := r
      exact ⟨a, rfl, Z.dictK hd (sm a (by simp))⟩
    | inst C fs =>
      obtain ⟨a, d, es, n, rfl, h1, h2, h3⟩ := r
      exact ⟨a, d, es, n, rfl, sm a (by simp) _ h1, sm d (by simp) _ h2, h3.ext x hF⟩
    | stream y => exact Z.streamK r sm
    | citer k live =>
      obtain ⟨a, rr, e, hc⟩ := r
      exact ⟨a, rr, e, Z.citerK hc sm⟩
    | tbl made =>
      obtain ⟨a, rfl, hd⟩ := r
      exact ⟨a, rfl, Z.tblK hd (sm a (by simp))⟩
  · obtain ⟨o, e⟩ := R.there a ha
    rcases List.mem_append.mp ha with q | q
    · exact ⟨o, same a q o e⟩
    · exact lp a q
theorem SRel.keeps (R : SRel Z w hb ρ σ h) (k : ∀ b o, h.get? b = some o → h'.get? b = some o) : SRel Z w hb ρ σ h' :=
  R.keep (F := noF) (Ext.of_keeps k) (noSeq_none ρ h) (fun _ f => f.elim) (fun a _ o e => k a o e) fun a ha => let ⟨o, e⟩ := R.there a (List.mem_append_right _ ha); ⟨o, k a o e⟩
theorem ERel.keeps {sc : Scope} {loc : Loc} {env : Env} (R : ERel hb ρ sc loc env h) (k : ∀ b o, h.get? b = some o → h'.get? b = some o) : ERel hb ρ sc loc env h' := R.ext (Ext.of_keeps k)
theorem VRel.keeps {v : V} {u : Value} (r : VRel ρ h v u) (k : ∀ b o, h.get? b = some o → h'.get? b = some o) : VRel ρ h' v u := r.ext (F := noF) (Ext.of_keeps k) (noSeq_none ρ h)
end

end Mine
end

-- part M4
section
namespace Mine
open PySem PySem.W PyProof.Rows PySem.Calls PySem.Spec

structure Ok (d : Nat) (A : Around) : Prop where
  handled : A.handled = none
  depth : A.depth ≤ 400 + 10 * d
  units : A.units ≤ 100 + 50 * d
  lim : d ≤ 30

/-- the setting: the program, the world, the shapes, what stood before the law -/
structure Cx where
  prog : Program
  w : World
  Z : Shapes
  hb : Heap
  S : Setup
  K : Frag

section
variable (X : Cx)
noncomputable abbrev Cx.SR (ρ : Rho) (σ : AS) (h : Heap) : Prop := SRel X.Z X.w X.hb ρ σ h
noncomputable abbrev Cx.wp {α : Type} (A : Around) (t : Sem α) (Q : α → Shared → Prop) (E : Value → Shared → Prop) (s : Shared) : Prop := wpAny (model X.prog X.w) A t Q E s

noncomputable def Cx.KV (ρ : Rho) (s : Shared) (Q : Value → Shared → Prop) (σ' : AS) (a : V) : Prop :=
  ∀ ρ' h' tk u, Ext noF ρ ρ' s.heap h' → X.SR ρ' σ' h' → VRel ρ' h' a u → Q u { s with heap := h', toks := tk }
inductive VsRel (ρ : Rho) (h : Heap) : List V → List Value → Prop
  | nil : VsRel ρ h [] []
  | cons {x xs v vs} : VRel ρ h x v → VsRel ρ h xs vs → VsRel ρ h (x :: xs) (v :: vs)
noncomputable def Cx.KVs (ρ : Rho) (s : Shared) (Q : List Value → Shared → Prop) (σ' : AS) (a : List V) : Prop :=
  ∀ ρ' h' tk u, Ext noF ρ ρ' s.heap h' → X.SR ρ' σ' h' → VsRel ρ' h' a u → Q u { s with heap := h', toks := tk }
noncomputable def Cx.KB (ρ : Rho) (s : Shared) (Q : Bool → Shared → Prop) (σ' : AS) (b : Bool) : Prop :=
  ∀ ρ' h' tk, Ext noF ρ ρ' s.heap h' → X.SR ρ' σ' h' → Q b { s with heap := h', toks := tk }
noncomputable def FlRel (ρ : Rho) (h : Heap) : Flw → Flow → Prop
  | .next, f => f = .next
  | .cont, f => f = .cont
  | .ret v, f => ∃ u, f = .ret u ∧ VRel ρ h v u
noncomputable def Cx.KF (env : Env) (sc : Scope) (ρ : Rho) (s : Shared) (Q : Flow → Shared → Prop) (σ' : AS) (loc' : Loc) (f : Flw) : Prop :=
  ∀ ρ' h' tk g, Ext (FP env) ρ ρ' s.heap h' → X.SR ρ' σ' h' → ERel X.hb ρ' sc loc' env h' → FlRel ρ' h' f g → Q g { s with heap := h', toks := tk }

noncomputable def Cx.VEval (d : Nat) (sc : Scope) (loc : Loc) (e : Expr) (σ : AS) (a : V) (σ' : AS) : Prop :=
  ∀ (A : Around) (env : Env) (ρ : Rho) (s : Shared) (Q : Value → Shared → Prop) (E : Value → Shared → Prop), Ok d A → X.SR ρ σ s.heap → ERel X.hb ρ sc loc env s.heap → X.KV ρ s Q σ' a → X.wp A (eval e env) Q E s
noncomputable def Cx.VEvals (d : Nat) (sc : Scope) (loc : Loc) (es : List Expr) (σ : AS) (a : List V) (σ' : AS) : Prop :=
  ∀ (A : Around) (env : Env) (pos : Pos) (ρ : Rho) (s : Shared) (Q : List Value → Shared → Prop) (E : Value → Shared → Prop), Ok d A → X.SR ρ σ s.heap → ERel X.hb ρ sc loc env s.heap → X.KVs ρ s Q σ' a → X.wp A (spliced (backTo pos (starEach es env))) Q E s
noncomputable def Cx.VCond (d : Nat) (sc : Scope) (loc : Loc) (e : Expr) (σ : AS) (b : Bool) (σ' : AS) : Prop :=
  ∀ (A : Around) (env : Env) (ρ : Rho) (s : Shared) (Q : Bool → Shared → Prop) (E : Value → Shared → Prop), Ok d A → X.SR ρ σ s.heap → ERel X.hb ρ sc loc env s.heap → X.KB ρ s Q σ' b → X.wp A (isTrue e env (eval e env)) Q E s
noncomputable def Cx.VExec (d : Nat) (sc : Scope) (loc : Loc) (st : Stmt) (σ : AS) (f : Flw) (loc' : Loc) (σ' : AS) : Prop :=
  ∀ (A : Around) (env : Env) (ρ : Rho) (s : Shared) (Q : Flow → Shared → Prop) (E : Value → Shared → Prop), Ok d A → X.SR ρ σ s.heap → ERel X.hb ρ sc loc env s.heap → X.KF env sc ρ s Q σ' loc' f → X.wp A (exec st env) Q E s
noncomputable def Cx.VExecs (d : Nat) (sc : Scope) (loc : Loc) (sts : List Stmt) (σ : AS) (f : Flw) (loc' : Loc) (σ' : AS) : Prop :=
  ∀ (A : Around) (env : Env) (ρ : Rho) (s : Shared) (Q : Flow → Shared → Prop) (E : Value → Shared → Prop), Ok d A → X.SR ρ σ s.heap → ERel X.hb ρ sc loc env s.heap → X.KF env sc ρ s Q σ' loc' f → X.wp A (execs sts env) Q E s

/-- an iterator that hands out just these items -/
structure Iter (A : Around) (it : Value) (J fp : List Addr) (g : Src) (St : List It → Rho → AS → Heap → Prop) (Mid : Value → List It → Rho → AS → Heap → Prop) : Prop where
  sub : ∀ b ∈ J, b ∈ fp
  frame : ∀ {xs ρ ρ' σ σ' h h'} {F : Addr → Prop}, St xs ρ σ h → Ext F ρ ρ' h h' → NoSeq F ρ h → X.SR ρ' σ' h' → (∀ b ∈ fp, ¬ F b) → okSrc σ' g = true → St xs ρ' σ' h'
  okAt : ∀ {xs ρ σ h}, St xs ρ σ h → okSrc σ g = true
  freshJ : ∀ b ∈ J, X.hb.get? b = none
  apart' : ∀ {v xs ρ σ h}, Mid v xs ρ σ h → ∀ b ∈ fp, b ∉ ρ.own.flatten ∧ ∃ o, h.get? b = some o
  apart : ∀ {xs ρ σ h}, St xs ρ σ h → ∀ b ∈ fp, b ∉ ρ.own.flatten ∧ ∃ o, h.get? b = some o
  noSeq : ∀ {xs ρ σ h}, St xs ρ σ h → NoSeq (· ∈ J) ρ h
  noSeq' : ∀ {v xs ρ σ h}, Mid v xs ρ σ h → NoSeq (· ∈ J) ρ h
  item : ∀ x xs ρ σ (s : Shared) (Q : Option Value → Shared → Prop) (E : Value → Shared → Prop), St (x :: xs) ρ σ s.heap → X.SR ρ σ s.heap →
    (∀ v h' tk, ItRel ρ.flatten h' x v → Mid v xs ρ σ h' → (∀ b o, b ∉ J → s.heap.get? b = some o → h'.get? b = some o) → (∀ b ∈ J, b ∈ ρ.priv → ∃ o, h'.get? b = some o) → Q (some v) { s with heap := h', toks := tk }) → X.wp A (pyNext it) Q E s
  go : ∀ t v xs ρ σ (s : Shared) (Q : Unit → Shared → Prop) (E : Value → Shared → Prop), (g.short = true → isTup t = true) → Mid v xs ρ σ s.heap →
    (∀ h', St xs ρ σ h' → (∀ b o, b ∉ J → s.heap.get? b = some o → h'.get? b = some o) → (∀ b ∈ J, b ∈ ρ.priv → ∃ o, h'.get? b = some o) → Q () { s with heap := h' }) → X.wp A (letOwnedTupleGo t it v) Q E s
  done : ∀ ρ σ (s : Shared) (Q : Option Value → Shared → Prop) (E : Value → Shared → Prop), St [] ρ σ s.heap → X.SR ρ σ s.heap →
    (∀ h' tk, (∀ b o, b ∉ J → s.heap.get? b = some o → h'.get? b = some o) → (∀ b ∈ J, b ∈ ρ.priv → ∃ o, h'.get? b = some o) → Q none { s with heap := h', toks := tk }) → X.wp A (pyNext it) Q E s
  self : ∀ xs ρ σ (s : Shared) (Q : Value → Shared → Prop) (E : Value → Shared → Prop), St xs ρ σ s.heap → Q it s → X.wp A (pyIter it) Q E s

/-- the head of a loop: the tree that gives the iterator -/
noncomputable def Cx.VIter (d : Nat) (sc : Scope) (loc : Loc) (e : Expr) (σ : AS) (xs : List It) (g : Src) (σ' : AS) : Prop :=
  (∀ env x, foldedSetIterable e env x = pure x) ∧
  ∀ (A : Around) (env : Env) (ρ : Rho) (s : Shared) (Q : Value → Shared → Prop) (E : Value → Shared → Prop), Ok d A → X.SR ρ σ s.heap → ERel X.hb ρ sc loc env s.heap →
    (∀ ρ' h' tk it J fp St Mid, Ext noF ρ ρ' s.heap h' → X.SR ρ' σ' h' → Iter X A it J fp g St Mid → St xs ρ' σ' h' → (∀ b ∈ J, s.heap.get? b = none) → (∀ b, FP env b → b ∉ fp) → (∀ b ∈ ρ.priv, b ∉ fp) →
      Q it { s with heap := h', toks := tk }) → X.wp A (eval e env) (fun x s₁ => X.wp A (pyIter x) Q E s₁) E s

noncomputable def Cx.VFor (d : Nat) (sc : Scope) (loc : Loc) (t : Expr) (g : Src) (items : List It) (b : List Stmt) (σ : AS) (f : Flw) (loc' : Loc) (σ' : AS) : Prop :=
  ∀ (A : Around) (env : Env) (it : Value) (J fp : List Addr) (St : List It → Rho → AS → Heap → Prop) (Mid : Value → List It → Rho → AS → Heap → Prop) (ρ : Rho) (s : Shared) (R : Result → Shared → Prop), Ok d A → X.SR ρ σ s.heap → ERel X.hb ρ sc loc env s.heap →
    Iter X A it J fp g St Mid → St items ρ σ s.heap → (∀ b, FP env b → b ∉ fp) →
    (∀ ρ' h' tk fl, Ext (fun b => FP env b ∨ b ∈ J) ρ ρ' s.heap h' → X.SR ρ' σ' h' → ERel X.hb ρ' sc loc' env h' → FlRel ρ' h' f fl → R (.ok fl) { s with heap := h', toks := tk }) →
    codeAny (model X.prog X.w) A (.forLoop t it b [] env) R s

noncomputable def Cx.VForC (d : Nat) (sc : Scope) (loc : Loc) (t : Expr) (k : Nat) (b : List Stmt) (σ : AS) (f : Flw) (loc' : Loc) (σ' : AS) : Prop :=
  ∀ (A : Around) (env : Env) (a : Addr) (r : List Addr) (ρ : Rho) (s : Shared) (R : Result → Shared → Prop), Ok d A → X.SR ρ σ s.heap → ERel X.hb ρ sc loc env s.heap → ρ.own[k]? = some (a :: r) →
    (∀ ρ' h' tk fl, Ext (FP env) ρ ρ' s.heap h' → X.SR ρ' σ' h' → ERel X.hb ρ' sc loc' env h' → FlRel ρ' h' f fl → R (.ok fl) { s with heap := h', toks := tk }) →
    codeAny (model X.prog X.w) A (.forLoop t (.ref a) b [] env) R s

noncomputable def Cx.VWhile (d : Nat) (sc : Scope) (loc : Loc) (t : Expr) (b : List Stmt) (σ : AS) (f : Flw) (loc' : Loc) (σ' : AS) : Prop :=
  ∀ (A : Around) (env : Env) (ρ : Rho) (s : Shared) (R : Result → Shared → Prop), Ok d A → X.SR ρ σ s.heap → ERel X.hb ρ sc loc env s.heap →
    (∀ ρ' h' tk fl, Ext (FP env) ρ ρ' s.heap h' → X.SR ρ' σ' h' → ERel X.hb ρ' sc loc' env h' → FlRel ρ' h' f fl → R (.ok fl) { s with heap := h', toks := tk }) →
    codeAny (model X.prog X.w) A (.whileLoop t b [] env) R s

/-- the turns of a list comprehension: D is the list that grows -/
noncomputable def Cx.VComp (d : Nat) (sc : Scope) (loc : Loc) (elt : Expr) (g : Comprehension) (gs : List Comprehension) (src : Src) (items : List It) (σ : AS) (out : List It) (σ' : AS) : Prop :=
  ∀ (A : Around) (env : Env) (it : Value) (J fp : List Addr) (St : List It → Rho → AS → Heap → Prop) (Mid : Value → List It → Rho → AS → Heap → Prop) (ρ : Rho) (s : Shared) (R : Result → Shared → Prop)
    (gens : List Comprehension) (scp : Scope) (pos : Pos) (depth : Nat) (D : Addr) (xs : List It) (vs : List Value), Ok d A → X.SR ρ σ s.heap → ERel X.hb ρ sc loc env s.heap →
    Iter X A it J fp src St Mid → St items ρ σ s.heap → (∀ b, FP env b → b ∉ fp) → D ∉ fp → gens.drop depth = g :: gs → gs.all (fun g => g.is_async == 0) = true → g.is_async = 0 → D ∈ ρ.priv → s.heap.PlainList D vs.toArray → vs.length + out.length ≤ 1000000 → ItsRel ρ.flatten s.heap xs vs →
    (∀ ρ' h' tk vs', Ext (fun b => (b = env.locals ∨ b ∈ J) ∨ b = D) ρ ρ' s.heap h' → X.SR ρ' σ' h' → ERel X.hb ρ' sc loc env h' → h'.PlainList D vs'.toArray → ItsRel ρ'.flatten h' (xs ++ out) vs' → R (.ok .next) { s with heap := h', toks := tk }) →
    codeAny (model X.prog X.w) A (.compLoop (.ListComp elt gens scp pos) depth it (.ref D) env) R s

noncomputable def Cx.VCall (d : Nat) (f : V) (args : List V) (kw : List (Str × V)) (σ : AS) (a : V) (σ' : AS) : Prop :=
  ∀ (A : Around) (ρ : Rho) (s : Shared) (fv : Value) (vs : List Value) (kvs : List (Str × Value)) (Q : Value → Shared → Prop) (E : Value → Shared → Prop), Ok d A → X.SR ρ σ s.heap →
    VRel ρ s.heap f fv → VsRel ρ s.heap args vs → kvs.map (·.1) = kw.map (·.1) → VsRel ρ s.heap (kw.map (·.2)) (kvs.map (·.2)) → X.KV ρ s Q σ' a → X.wp A (PySem.call fv vs kvs) Q E s
end

section
variable {X : Cx} {d : Nat} {A : Around} {env : Env} {ρ : Rho} {s : Shared} {sc : Scope} {loc : Loc} {σ σ' : AS}
theorem VsRel.ext {F : Addr → Prop} {ρ ρ' : Rho} {h h' : Heap} (x : Ext F ρ ρ' h h') (hF : NoSeq F ρ h) {xs : List V} {vs : List Value} (r : VsRel ρ h xs vs) : VsRel ρ' h' xs vs := by
  induction r with
  | nil => exact .nil
  | cons a _ ih => exact .cons (a.ext x hF) ih

theorem wp_mono {α : Type} {t : Sem α} {Q Q' : α → Shared → Prop} {E : Value → Shared → Prop} (h : X.wp A t Q E s) (hq : ∀ a s', Q a s' → Q' a s') : X.wp A t Q' E s := wpAny_mono h hq fun _ _ e => e

/-- a value at once, nothing stirred -/
theorem KV.now {Q : Value → Shared → Prop} {a : V} {u : Value} {tk : Nat} (k : X.KV ρ s Q σ a) (R : X.SR ρ σ s.heap) (v : VRel ρ s.heap a u) : Q u { s with toks := tk } :=
  k ρ s.heap tk u (Ext.refl ..) R v
theorem KB.now {Q : Bool → Shared → Prop} {b : Bool} {tk : Nat} (k : X.KB ρ s Q σ b) (R : X.SR ρ σ s.heap) : Q b { s with toks := tk } :=
  k ρ s.heap tk (Ext.refl ..) R

theorem toV_rel (ρ : Rho) (h : Heap) (u : Value) : VRel ρ h (toV u) u := by
  cases u with
  | none => exact rfl
  | bool b => exact rfl
  | int i t => exact ⟨t, rfl⟩
  | str x t => exact ⟨t, rfl⟩
  | _ => exact rfl

/-- eval after eval -/
theorem VEval.then {e : Expr} {a : V} (v : X.VEval d sc loc e σ a σ') (ok : Ok d A) (R : X.SR ρ σ s.heap) (L : ERel X.hb ρ sc loc env s.heap) {Q : Value → Shared → Prop} {E : Value → Shared → Prop}
    (h : ∀ ρ' h' tk u, Ext noF ρ ρ' s.heap h' → X.SR ρ' σ' h' → ERel X.hb ρ' sc loc env h' → VRel ρ' h' a u → Q u { s with heap := h', toks := tk }) : X.wp A (eval e env) Q E s :=
  v A env ρ s Q E ok R L fun ρ' h' tk u x R' r => h ρ' h' tk u x R' (L.ext x) r
theorem VCond.then {e : Expr} {b : Bool} (v : X.VCond d sc loc e σ b σ') (ok : Ok d A) (R : X.SR ρ σ s.heap) (L : ERel X.hb ρ sc loc env s.heap) {Q : Bool → Shared → Prop} {E : Value → Shared → Prop}
    (h : ∀ ρ' h' tk, Ext noF ρ ρ' s.heap h' → X.SR ρ' σ' h' → ERel X.hb ρ' sc loc env h' → Q b { s with heap := h', toks := tk }) : X.wp A (isTrue e env (eval e env)) Q E s :=
  v A env ρ s Q E ok R L fun ρ' h' tk x R' => h ρ' h' tk x R' (L.ext x)
theorem VEvals.then {es : List Expr} {a : List V} {pos : Pos} (v : X.VEvals d sc loc es σ a σ') (ok : Ok d A) (R : X.SR ρ σ s.heap) (L : ERel X.hb ρ sc loc env s.heap) {Q : List Value → Shared → Prop} {E : Value → Shared → Prop}
    (h : ∀ ρ' h' tk u, Ext noF ρ ρ' s.heap h' → X.SR ρ' σ' h' → ERel X.hb ρ' sc loc env h' → VsRel ρ' h' a u → Q u { s with heap := h', toks := tk }) : X.wp A (spliced (backTo pos (starEach es env))) Q E s :=
  v A env pos ρ s Q E ok R L fun ρ' h' tk u x R' r => h ρ' h' tk u x R' (L.ext x) r

-- constants
theorem v_Constant {c : Const} {k : Nat} {pos : Pos} {a : V} (h : cons c = some a) : X.VEval d sc loc (.Constant c k pos) σ a σ := by
  intro A env ρ s Q E ok R L kq
  cases c with
  | int i => cases h; exact wpAny_Constant_int (KV.now kq R ⟨_, rfl⟩)
  | str x => cases h; exact Constant_str (KV.now kq R ⟨_, rfl⟩)
  | bool b => cases h; exact wpAny_Constant_bool (KV.now kq (tk := s.toks) R rfl)
  | none => cases h; exact wpAny_Constant_none (KV.now kq (tk := s.toks) R rfl)
  | _ => cases h

-- two lists of values, one by one
theorem v_evals_nil : X.VEvals d sc loc [] σ [] σ := by
  intro A env pos ρ s Q E ok R L kq
  exact spliced_none (kq ρ s.heap s.toks [] (Ext.refl ..) R .nil)
theorem starEach_cons {e : Expr} {rest : List Expr} {env : Env} (h : notStar e = true) : starEach (e :: rest) env = (false, eval e env) :: starEach rest env := by
  cases e <;> first | rfl | cases h
theorem v_evals_cons {e : Expr} {es : List Expr} {a : V} {as : List V} {σ₁ σ₂ : AS} (hs : notStar e = true) (h1 : X.VEval d sc loc e σ a σ₁) (h2 : X.VEvals d sc loc es σ₁ as σ₂) : X.VEvals d sc loc (e :: es) σ (a :: as) σ₂ := by
  intro A env pos ρ s Q E ok R L kq
  refine spliced_more (VEval.then h1 ok R L fun ρ' h' tk u x R' L' r => ?_) (starEach_cons hs)
  refine VEvals.then h2 ok R' L' fun ρ'' h'' tk' us x' R'' L'' rs => ?_
  exact kq ρ'' h'' tk' (u :: us) (x.trans x') R'' (.cons (r.ext x' (noSeq_none _ _)) rs)
end
end Mine
end

-- part M5
section
namespace Mine
open PySem PySem.W PyProof.Rows PySem.Calls PySem.Spec

structure Glb (X : Cx) : Prop where
  gls : ∃ mg mb, X.hb.Ns mainGlobals mg ∧ X.hb.Ns builtinsNs mb ∧ ∀ x v, X.S.gl x = some v → ∃ u, toV u = v ∧ (mg x = some u ∨ (mg x = none ∧ mb x = some u))

section
variable {X : Cx} {d : Nat} {A : Around} {env : Env} {ρ : Rho} {s : Shared} {sc : Scope} {loc : Loc} {σ σ' σ₁ σ₂ σ₃ : AS}

theorem v_Name_loc {x : Str} {pos : Pos} {a : V} (hd : (x == ("__debug__" : Str)) = false) (h : loc.lookup x = some a) : X.VEval d sc loc (.Name x pos) σ a σ := by
  intro A env ρ s Q E ok R L kq
  have hk : env.scope.kind = .function := by rw [L.esc]; exact L.kind
  rcases L.kinds x a h with k | k
  · obtain ⟨m, hn, hv⟩ := L.ns
    obtain ⟨u, hu, r⟩ := hv x a h k
    exact wpAny_Name (wpAny_loadName_local hk (by unfold Env.kindOf; rw [L.esc]; exact k) hn hu (KV.now kq (tk := s.toks) R r)) hd
  · obtain ⟨c, u, hc, hu, hv⟩ := L.cells x k
    obtain ⟨u', rfl, r⟩ := hv a h
    rcases k with k | ⟨k, hx⟩
    · exact wpAny_Name (wpAny_loadName_cell hk (by unfold Env.kindOf; rw [L.esc]; exact k) hc hu (KV.now kq (tk := s.toks) R r)) hd
    · exact wpAny_Name (wpAny_loadName_free hk (by unfold Env.kindOf; rw [L.esc]; exact k) hc hu (KV.now kq (tk := s.toks) R r) hx) hd

theorem v_Name_gl (G : Glb X) {x : Str} {pos : Pos} {a : V} (hd : (x == ("__debug__" : Str)) = false) (hx : sc.names.lookup x = some .globalImplicit) (h : X.S.gl x = some a) : X.VEval d sc loc (.Name x pos) σ a σ := by
  intro A env ρ s Q E ok R L kq
  have hk : env.scope.kind = .function := by rw [L.esc]; exact L.kind
  obtain ⟨mg, mb, hg, hbn, hall⟩ := G.gls
  obtain ⟨u, rfl, hu⟩ := hall x a h
  have hq : Q u s := KV.now kq (tk := s.toks) R (toV_rel ..)
  refine Name_function_global hk (by unfold Env.kindOf; rw [L.esc]; exact hx) ?_ hd
  have hg' : s.heap.Ns env.globals mg := by rw [L.gl]; exact hg.keeps R.base
  have hb' : s.heap.Ns env.builtins mb := by rw [L.bi]; exact hbn.keeps R.base
  rcases hu with hu | ⟨h0, hu⟩
  · exact loadGlobal_global hg' hu hq
  · exact loadGlobal_builtin hg' h0 hb' hu hq

theorem small_of {a : Int} (h : small a = true) : a.natAbs < 2 ^ 62 := of_decide_eq_true h
theorem fd_ok {y : Int} (h2 : 0 < y) (h3 : y < 1000000) : y.natAbs < 1073741824 := by omega
theorem mulOk {a b : Int} (h : small a = true) : IntMulOk a b := IntMulOk.of_left (intBits_le_64 (by have := small_of h; omega) (by have := small_of h; omega))

theorem arith_sound {op : Operator} {x y k : Int} {t t' : Nat} {Q : Value → Shared → Prop} {E : Value → Shared → Prop} (h : arith op x y = some k) (qi : Q (.int k s.toks) { s with toks := s.toks + 1 }) : X.wp A (binaryOp op (.int x t) (.int y t')) Q E s := by
  delta arith at h
  cases op with
  | Add => cases h; exact PyProof.Rows.add_int qi
  | Sub => cases h; exact PyProof.Rows.sub_int qi
  | Mult => exact whenB_ h fun hs h => by cases h; exact PyProof.Rows.mul_int qi (mulOk (and_ hs).1)
  | FloorDiv =>
    exact whenB_ h fun hs h => by
      have h2 := of_decide_eq_true (and_ hs).1
      have h3 := of_decide_eq_true (and_ hs).2
      cases h; exact PyProof.Rows.floordiv_int (Ne.symm (Int.ne_of_lt h2)) qi (.inl (PyProof.noPylong_small (fd_ok h2 h3)))
  | Mod => exact whenB_ h fun hs h => by cases h; exact PyProof.Rows.mod_int (Ne.symm (Int.ne_of_lt (of_decide_eq_true hs))) qi
  | Pow =>
    exact whenB_ h fun hs h => by
      have h1 := small_of (and_ hs).1
      have h2 := of_decide_eq_true (and_ (and_ hs).2).1
      have h3 := of_decide_eq_true (and_ (and_ hs).2).2
      cases h; exact PyProof.Rows.pow_int_small h2 (by omega) (by omega) qi
  | BitAnd => cases h; exact PyProof.Rows.and_int qi
  | BitOr => cases h; exact PyProof.Rows.or_int qi
  | _ => exact nex h
theorem isAdd_is {op : Operator} (h : isAdd op = true) : op = .Add := by
  cases op with
  | Add => rfl
  | _ => exact nob h
theorem binop_sound {op : Operator} {a b c : V} {u v : Value} {Q : Value → Shared → Prop} {E : Value → Shared → Prop} (h : binop op a b = some c) (ha : VRel ρ s.heap a u) (hb : VRel ρ s.heap b v)
    (hQ : ∀ tk z, VRel ρ s.heap c z → Q z { s with toks := tk }) : X.wp A (binaryOp op u v) Q E s :=
  onAt_ (fun a => VRel ρ s.heap a u) h ha fun x ha h => onAt_ (fun b => VRel ρ s.heap b v) h hb fun y hb h => by
    delta binA at h
    cases x with
    | int x =>
      exact intA_ (fun y => VRel ρ s.heap (.it (.at y)) v) h hb fun y hb h => ob_ h fun k hk hz => by
        obtain ⟨t, rfl⟩ := ha; obtain ⟨t', rfl⟩ := hb
        cases hz
        exact arith_sound hk (hQ _ _ ⟨_, rfl⟩)
    | str x =>
      exact strA_ (fun y => VRel ρ s.heap (.it (.at y)) v) h hb fun y hb h => whenB_ h fun h1 h => whenD_ h fun hl hz => by
        obtain ⟨t, rfl⟩ := ha; obtain ⟨t', rfl⟩ := hb
        have h1 := isAdd_is h1
        subst h1
        cases hz
        exact PyProof.Rows.add_str (fun t' tk => hQ tk _ ⟨t', rfl⟩) (by rw [sizeLine_eq]; omega)

theorem v_BinOp {l b : Expr} {op : Operator} {pos : Pos} {x y c : V} (h1 : X.VEval d sc loc l σ x σ₁) (h2 : X.VEval d sc loc b σ₁ y σ₂) (h : binop op x y = some c) : X.VEval d sc loc (.BinOp l op b pos) σ c σ₂ := by
  intro A env ρ s Q E ok R L kq
  refine wpAny_BinOp (VEval.then h1 ok R L fun ρ₁ s₁ k₁ u e₁ R₁ L₁ r₁ => VEval.then h2 ok R₁ L₁ fun ρ₂ s₂ k₂ v e₂ R₂ L₂ r₂ => ?_)
  exact binop_sound h (r₁.ext e₂ (noSeq_none _ _)) r₂ fun tk z r => kq ρ₂ s₂ tk z (e₁.trans e₂) R₂ r

theorem v_IfExp {t b o : Expr} {pos : Pos} {c : Bool} {a : V} (h1 : X.VCond d sc loc t σ c σ₁) (h2 : X.VEval d sc loc (if c then b else o) σ₁ a σ₂) : X.VEval d sc loc (.IfExp t b o pos) σ a σ₂ := by
  intro A env ρ s Q E ok R L kq
  refine wpAny_IfExp (VCond.then h1 ok R L fun ρ₁ s₁ k₁ e₁ R₁ L₁ => ?_)
  cases c
  · exact VEval.then h2 ok R₁ L₁ fun ρ₂ s₂ k₂ v e₂ R₂ L₂ r₂ => kq ρ₂ s₂ k₂ v (e₁.trans e₂) R₂ r₂
  · exact VEval.then h2 ok R₁ L₁ fun ρ₂ s₂ k₂ v e₂ R₂ L₂ r₂ => kq ρ₂ s₂ k₂ v (e₁.trans e₂) R₂ r₂

theorem itsRel_length {T : List Addr} {h : Heap} {xs : List It} {vs : List Value} (r : ItsRel T h xs vs) : xs.length = vs.length := by
  induction r with
  | nil => rfl
  | cons _ _ ih => simp [ih]


theorem Ok.line (ok : Ok d A) : A.units + 500 < cLine := by
  have h1 := ok.units; have h2 := ok.lim
  rw [cLine_is]; omega

theorem itEq_ {P : Bool → Prop} (Q : It → It → Prop) {a b : It} {c : Bool} (h : itEq a b = some c) (q : Q a b) (k1 : ∀ i j, Q (.at (.int i)) (.at (.int j)) → P (decide (i = j))) (k2 : ∀ x y, Q (.at (.str x)) (.at (.str y)) → P (decide (x = y))) : P c :=
  atI_ (fun a => Q a b) h q fun x q h => atI_ (fun b => Q (.at x) b) h q fun y q h => by
    delta atEq at h
    cases x with
    | int i => exact intA_ (fun y => Q (.at (.int i)) (.at y)) h q fun j q h => fin1_ h (k1 i j q)
    | str i => exact strA_ (fun y => Q (.at (.str i)) (.at y)) h q fun j q h => fin1_ h (k2 i j q)
theorem itEq_at {T : List Addr} {h : Heap} {a b : It} {c : Bool} {u v : Value} (e : itEq a b = some c) (ha : ItRel T h a u) (hb : ItRel T h b v) (A : Around) (s : Shared) : SeqAt.EqAt A s u v c :=
  itEq_ (P := fun c => SeqAt.EqAt A s u v c) (fun a b => ItRel T h a u ∧ ItRel T h b v) e ⟨ha, hb⟩ (fun i j q => by obtain ⟨⟨t, rfl⟩, ⟨t', rfl⟩⟩ := q; exact (MeetsSeq.EqGives.int i j t t').at A s)
    fun x y q => by obtain ⟨⟨t, rfl⟩, ⟨t', rfl⟩⟩ := q; exact (PyProof.Rows.eqGives_str x y t t').at A s

theorem itsAll_at {T : List Addr} {h : Heap} {A : Around} {s : Shared} {xs : List It} {us : List Value} (r : ItsRel T h xs us) : ∀ {ys : List It} {vs : List Value} {c : Bool}, itsAll xs ys = some c → ItsRel T h ys vs →
    us.length = vs.length ∧ ∃ e : Nat → Bool, (∀ j u v, us[j]? = some u → vs[j]? = some v → SeqAt.EqAt A s u v (e j)) ∧ (List.range us.length).all e = c := by
  induction r with
  | nil =>
    intro ys vs c e r2
    cases r2 with
    | nil => exact ⟨rfl, fun _ => true, fun j u v hu => nex hu, fin1_ (P := fun c => true = c) e rfl⟩
    | cons => exact nex e
  | @cons a xs u us ha hr ih =>
    intro ys vs c e r2
    cases r2 with
    | nil => exact nex e
    | @cons b ys v vs hb hq =>
      exact ob_ (show ob (itEq a b) (fun x => ob (itsAll xs ys) fun y => some (x && y)) = some c from e) fun x hx g => ob_ g fun y hy g => by
        obtain ⟨hl, e, he, hall⟩ := ih hy hq
        refine ⟨congrArg (· + 1) hl, fun j => Nat.casesOn j x e, fun j u' v' hu hv => ?_, ?_⟩
        · cases j with
          | zero => cases hu; cases hv; exact itEq_at hx ha hb A s
          | succ j => exact he j u' v' hu hv
        · rw [List.length_cons, List.range_succ_eq_map, List.all_cons, List.all_map]
          show (x && (List.range us.length).all e) = c
          rw [hall]
          exact Option.some.inj g

theorem inAny_go {T : List Addr} {h : Heap} {A : Around} {s : Shared} {a : It} {u : Value} {f : Value → Bool} (K : ∀ b u' x, itEq b a = some x → ItRel T h b u' → SeqAt.EqAt A s u' u (f u') ∧ f u' = x) {xs : List It} {us : List Value} (r : ItsRel T h xs us) :
    ∀ {c : Bool}, inAny a xs = some c → (∀ y ∈ us, SeqAt.EqAt A s y u (f y)) ∧ us.any f = c := by
  induction r with
  | nil => exact fun hc => ⟨fun y hy => (nomatch hy), Option.some.inj hc⟩
  | @cons b xs u' us hb hr ih =>
    exact fun {c} hc => ob_ (show ob (itEq b a) (fun x => ob (inAny a xs) fun y => some (x || y)) = some c from hc) fun x hx g => ob_ g fun y hy g =>
      ⟨fun z hz => (List.mem_cons.mp hz).elim (fun e => e ▸ (K b u' x hx hb).1) ((ih hy).1 z), by rw [List.any_cons, (K b u' x hx hb).2, (ih hy).2]; exact Option.some.inj g⟩
noncomputable def isIntV (k : Int) (y : Value) : Bool := match y with
  | .int i _ => i == k
  | _ => false
noncomputable def isStrV (k : Str) (y : Value) : Bool := match y with
  | .str i _ => i == k
  | _ => false
theorem inAny_at {T : List Addr} {h : Heap} {A : Around} {s : Shared} {a : It} {u : Value} (ha : ItRel T h a u) {xs : List It} {us : List Value} {c : Bool} (hc : inAny a xs = some c) (hr : ItsRel T h xs us) :
    ∃ f : Value → Bool, (∀ y ∈ us, SeqAt.EqAt A s y u (f y)) ∧ us.any f = c := by
  cases a with
  | pair p q => exact ⟨fun _ => false, inAny_go (fun b u' x hx hb => itEq_ (P := fun _ => _) (fun _ a => a = .pair p q) hx rfl (fun _ _ e => by cases e) (fun _ _ e => by cases e)) hr hc⟩
  | «at» z =>
    cases z with
    | int k =>
      obtain ⟨t, rfl⟩ := ha
      exact ⟨isIntV k, inAny_go (fun b u' x hx hb => itEq_ (P := fun x => SeqAt.EqAt A s u' (.int k t) (isIntV k u') ∧ isIntV k u' = x) (fun b a => a = .at (.int k) ∧ ItRel T h b u') hx ⟨rfl, hb⟩
        (fun i j q => by obtain ⟨e, t', rfl⟩ := q; cases e; exact ⟨(MeetsSeq.EqGives.int i k t' t).at A s, rfl⟩) (fun _ _ q => by cases q.1)) hr hc⟩
    | str k =>
      obtain ⟨t, rfl⟩ := ha
      exact ⟨isStrV k, inAny_go (fun b u' x hx hb => itEq_ (P := fun x => SeqAt.EqAt A s u' (.str k t) (isStrV k u') ∧ isStrV k u' = x) (fun b a => a = .at (.str k) ∧ ItRel T h b u') hx ⟨rfl, hb⟩
        (fun _ _ q => by cases q.1) (fun i j q => by obtain ⟨e, t', rfl⟩ := q; cases e; exact ⟨(PyProof.Rows.eqGives_str i k t' t).at A s, rfl⟩)) hr hc⟩

theorem eqNe_list {xs ys : List It} {c : Bool} {l m : Addr} {us vs : List Value} {T : List Addr} (h : itsEq xs ys = some c) (hl : s.heap.IsList l us.toArray) (hm : s.heap.IsList m vs.toArray) (hx : ItsRel T s.heap xs us) (hy : ItsRel T s.heap ys vs) (ok : Ok d A) :
    (∀ {Q : Value → Shared → Prop} {E : Value → Shared → Prop}, Q (.bool c) s → X.wp A (compareOp .Eq (.ref l) (.ref m)) Q E s) ∧ (∀ {Q : Value → Shared → Prop} {E : Value → Shared → Prop}, Q (.bool (!c)) s → X.wp A (compareOp .NotEq (.ref l) (.ref m)) Q E s) := by
  have hu : A.units < cLine := by have := ok.line; omega
  unfold itsEq at h
  split at h
  · obtain ⟨hlen, e, he, hall⟩ := itsAll_at (A := A.in1) (s := s) hx h hy
    have hsz : us.toArray.size = vs.toArray.size := by simpa using hlen
    have hat : ∀ j (h1 : j < us.toArray.size) (h2 : j < vs.toArray.size), SeqAt.EqAt A.in1 s us.toArray[j] vs.toArray[j] (e j) := fun j h1 h2 => by
      have h1' : j < us.length := by simpa using h1
      have h2' : j < vs.length := by simpa using h2
      simpa using he j us[j] vs[j] (by simp [h1']) (by simp [h2'])
    have hr : (List.range us.toArray.size).all e = c := by simpa using hall
    exact ⟨fun hq => SeqAt.eq_listAt hl hm hsz hu hat (by rw [hr]; exact hq), fun hq => SeqAt.RcNeAt.lists hl hm hsz hu hat X.prog X.w _ _ (by rw [hr]; exact hq)⟩
  · rename_i hne
    cases h
    have e1 := itsRel_length hx
    have e2 := itsRel_length hy
    have hsz : (us.toArray.size != vs.toArray.size) = true := by
      rw [bne_iff_ne]; simp only [List.size_toArray]; omega
    exact ⟨fun hq => SeqAt.eq_list_lengthsAt hl hm hsz hu hq, fun hq => SeqAt.RcNeAt.lists_lengths hl hm hsz hu X.prog X.w _ _ hq⟩

theorem type_beq (a b : String) : (Value.type a == Value.type b) = (a == b) := by
  rw [Bool.eq_iff_iff, beq_iff_eq, beq_iff_eq]
  exact ⟨fun h => by injection h, fun h => by rw [h]⟩
theorem eqV_sound {a b : V} {c : Bool} {u v : Value} {E : Value → Shared → Prop} (h : eqV a b = some c) (ok : Ok d A) (ha : VRel ρ s.heap a u) (hb : VRel ρ s.heap b v) :
    (∀ {Q : Value → Shared → Prop}, Q (.bool c) s → X.wp A (compareOp .Eq u v) Q E s) ∧ ∀ {Q : Value → Shared → Prop}, Q (.bool (!c)) s → X.wp A (compareOp .NotEq u v) Q E s :=
  itElse_ (fun a => VRel ρ s.heap a u) h ha
    (fun x ha h => onIt_ (fun b => VRel ρ s.heap b v) h hb fun y hb h => itEq_ (P := fun c => (∀ {Q : Value → Shared → Prop}, Q (.bool c) s → X.wp A (compareOp .Eq u v) Q E s) ∧ ∀ {Q : Value → Shared → Prop}, Q (.bool (!c)) s → X.wp A (compareOp .NotEq u v) Q E s)
      (fun x y => VRel ρ s.heap (.it x) u ∧ VRel ρ s.heap (.it y) v) h ⟨ha, hb⟩
      (fun i j q => by obtain ⟨⟨t, rfl⟩, ⟨t', rfl⟩⟩ := q; exact ⟨fun hQ => PyProof.Rows.eq_int hQ, fun hQ => PyProof.Rows.ne_int hQ⟩)
      (fun i j q => by obtain ⟨⟨t, rfl⟩, ⟨t', rfl⟩⟩ := q; exact ⟨fun hQ => PyProof.Rows.eq_str hQ, fun hQ => PyProof.Rows.ne_str hQ⟩))
    fun h => onLst_ (fun a => VRel ρ s.heap a u) h ha fun xs ha h => onLst_ (fun b => VRel ρ s.heap b v) h hb fun ys hb h => by
      obtain ⟨l, us, rfl, _, hl, hx⟩ := ha
      obtain ⟨m, vs, rfl, _, hm, hy⟩ := hb
      exact ⟨(eqNe_list h hl.isList hm.isList hx hy ok).1, (eqNe_list h hl.isList hm.isList hx hy ok).2⟩
theorem inV_sound {a b : V} {c : Bool} {u v : Value} {Q : Value → Shared → Prop} {E : Value → Shared → Prop} (h : inV a b = some c) (ok : Ok d A) (ha : VRel ρ s.heap a u) (hb : VRel ρ s.heap b v)
    (hQ : Q (.bool c) s) : X.wp A (compareOp .In u v) Q E s :=
  onIt_ (fun a => VRel ρ s.heap a u) h ha fun x ha h => lstElse_ (fun b => VRel ρ s.heap b v) h hb
    (fun ys hb h => by
      obtain ⟨m, vs, rfl, _, hm, hy⟩ := hb
      obtain ⟨f, hf, hall⟩ := inAny_at (A := A.in1) (s := s) ha h hy
      exact SeqAt.in_listAt f hm.isList (fun y hy => hf y (by simpa using hy)) (by rw [List.any_toArray, hall]; exact hQ))
    fun h => atI_ (fun x => VRel ρ s.heap (.it x) u) h ha fun x ha h => strA_ (fun x => VRel ρ s.heap (.it (.at x)) u) h ha fun x ha h => onStr_ (fun b => VRel ρ s.heap b v) h hb fun y hb h => ob_ h fun k hk h => by
      obtain ⟨t, rfl⟩ := ha; obtain ⟨t', rfl⟩ := hb
      cases h
      have hx : x = ⟨#[k]⟩ := by
        unfold one? at hk
        split at hk
        · rename_i c hc
          cases hk
          cases x with | mk a => exact congrArg Str.mk (Array.ext' hc)
        · cases hk
      subst hx
      refine PyProof.Rows.in_str ?_
      rw [StrLaws.found_one]
      have e : decide (k ∈ y.cps.toList) = has y k := by
        unfold has
        rw [← Array.any_toList, List.any_beq']
        rw [Bool.eq_iff_iff, decide_eq_true_eq, List.contains_iff_mem]
      rw [e]; exact hQ
theorem isV_sound {a b : V} {c : Bool} {u v : Value} (P : Value → Value → Bool → Prop) (h : isV a b = some c) (ha : VRel ρ s.heap a u) (hb : VRel ρ s.heap b v) (k : ∀ x y, P (.type x) (.type y) (x == y)) : P u v c :=
  onTyp_ (fun a => VRel ρ s.heap a u) h ha fun x ha h => onTyp_ (fun b => VRel ρ s.heap b v) h hb fun y hb h => by
    cases ha; cases hb
    exact fin1_ h (k x y)
theorem isNot_none {a : V} {c : Bool} {u : Value} {Q : Value → Shared → Prop} {E : Value → Shared → Prop} (h : notNone a = some c) (ha : VRel ρ s.heap a u) (hQ : Q (.bool c) s) : X.wp A (compareOp .IsNot u .none) Q E s := by
  delta notNone at h
  cases a with
  | own i =>
    obtain ⟨a, r, _, rfl⟩ := ha
    cases h
    exact PyProof.Rows.isnot_none_ne (by intro e; cases e) hQ
  | none =>
    cases ha; cases h
    exact wpAny_isNot_self rfl hQ
  | _ => exact nex h
theorem cmp_sound {op : CmpOp} {a b : V} {c : Bool} {u v : Value} {Q : Value → Shared → Prop} {E : Value → Shared → Prop} (h : cmp op a b = some c) (ok : Ok d A) (ha : VRel ρ s.heap a u) (hb : VRel ρ s.heap b v)
    (hQ : Q (.bool c) s) : X.wp A (compareOp op u v) Q E s := by
  delta cmp at h
  cases op with
  | Eq => exact (eqV_sound h ok ha hb).1 hQ
  | NotEq => exact map_ h fun c' hc e => (eqV_sound hc ok ha hb).2 (e ▸ hQ)
  | Lt =>
    exact onInt_ (fun a => VRel ρ s.heap a u) h ha fun i ha h => onInt_ (fun b => VRel ρ s.heap b v) h hb fun j hb h => by
      obtain ⟨t, rfl⟩ := ha; obtain ⟨t', rfl⟩ := hb
      cases h
      exact PyProof.Rows.lt_int hQ
  | In => exact inV_sound h ok ha hb hQ
  | Is => exact isV_sound (fun u v c => Q (.bool c) s → X.wp A (compareOp .Is u v) Q E s) h ha hb (fun x y hQ => wpAny_is_plain rfl (by rw [type_beq]; exact hQ)) hQ
  | IsNot =>
    exact bif_ h (fun e h => by
        cases b with
        | none => cases hb; exact isNot_none h ha hQ
        | _ => exact nob e)
      fun _ h => ob_ h fun c' hc h => isV_sound (fun u v c => Q (.bool (!c)) s → X.wp A (compareOp .IsNot u v) Q E s) hc ha hb (fun x y hQ => wpAny_isNot_plain rfl (by rw [type_beq]; exact hQ)) (Option.some.inj h ▸ hQ)
  | _ => exact nex h

theorem v_Compare {l b : Expr} {op : CmpOp} {pos : Pos} {x y : V} {c : Bool} (hm : behindInMarks op b = false) (h1 : X.VEval d sc loc l σ x σ₁) (h2 : X.VEval d sc loc b σ₁ y σ₂) (h : cmp op x y = some c) : X.VEval d sc loc (.Compare l [op] [b] pos) σ (.bool c) σ₂ := by
  intro A env ρ s Q E ok R L kq
  refine wpAny_Compare1 (VEval.then h1 ok R L fun ρ₁ s₁ k₁ u e₁ R₁ L₁ r₁ => VEval.then h2 ok R₁ L₁ fun ρ₂ s₂ k₂ v e₂ R₂ L₂ r₂ => ?_) hm
  exact cmp_sound h ok (r₁.ext e₂ (noSeq_none _ _)) r₂ (kq ρ₂ s₂ k₂ _ (e₁.trans e₂) R₂ rfl)
theorem c_Compare {l b : Expr} {op : CmpOp} {pos : Pos} {x y : V} {c : Bool} (hm : behindInMarks op b = false) (h1 : X.VEval d sc loc l σ x σ₁) (h2 : X.VEval d sc loc b σ₁ y σ₂) (h : cmp op x y = some c) : X.VCond d sc loc (.Compare l [op] [b] pos) σ c σ₂ := by
  intro A env ρ s Q E ok R L kq
  refine wpAny_isTrue_Compare1 (VEval.then h1 ok R L fun ρ₁ s₁ k₁ u e₁ R₁ L₁ r₁ => VEval.then h2 ok R₁ L₁ fun ρ₂ s₂ k₂ v e₂ R₂ L₂ r₂ => ?_) hm
  exact cmp_sound h ok (r₁.ext e₂ (noSeq_none _ _)) r₂ (wpAny_truthy_bool (kq ρ₂ s₂ k₂ (e₁.trans e₂) R₂))

theorem c_And {a b : Expr} {pos : Pos} {c1 c2 : Bool} (h1 : X.VCond d sc loc a σ c1 σ₁) (h2 : c1 = true → X.VCond d sc loc b σ₁ c2 σ₂) (h3 : c1 = false → c2 = false ∧ σ₂ = σ₁) : X.VCond d sc loc (.BoolOp .And [a, b] pos) σ c2 σ₂ := by
  intro A env ρ s Q E ok R L kq
  refine wpAny_isTrue_BoolOp (wpAny_allTrue_And_cons (VCond.then h1 ok R L fun ρ₁ s₁ k₁ e₁ R₁ L₁ => ?_))
  cases c1 with
  | true =>
    refine wpAny_allTrue_And_cons (VCond.then (h2 rfl) ok R₁ L₁ fun ρ₂ s₂ k₂ e₂ R₂ L₂ => ?_)
    have q := kq ρ₂ s₂ k₂ (e₁.trans e₂) R₂
    cases c2
    · exact q
    · exact wpAny_allTrue_And_nil q
  | false =>
    obtain ⟨rfl, rfl⟩ := h3 rfl
    exact kq ρ₁ s₁ k₁ e₁ R₁
theorem c_Or {a b : Expr} {pos : Pos} {c1 c2 : Bool} (h1 : X.VCond d sc loc a σ c1 σ₁) (h2 : c1 = false → X.VCond d sc loc b σ₁ c2 σ₂) (h3 : c1 = true → c2 = true ∧ σ₂ = σ₁) : X.VCond d sc loc (.BoolOp .Or [a, b] pos) σ c2 σ₂ := by
  intro A env ρ s Q E ok R L kq
  refine wpAny_isTrue_BoolOp (wpAny_allTrue_Or_cons (VCond.then h1 ok R L fun ρ₁ s₁ k₁ e₁ R₁ L₁ => ?_))
  cases c1 with
  | false =>
    refine wpAny_allTrue_Or_cons (VCond.then (h2 rfl) ok R₁ L₁ fun ρ₂ s₂ k₂ e₂ R₂ L₂ => ?_)
    have q := kq ρ₂ s₂ k₂ (e₁.trans e₂) R₂
    cases c2
    · exact wpAny_allTrue_Or_nil q
    · exact q
  | true =>
    obtain ⟨rfl, rfl⟩ := h3 rfl
    exact kq ρ₁ s₁ k₁ e₁ R₁

/-- a value by its truth -/
noncomputable def TruthOk (σ : AS) (x : V) (b : Bool) : Prop := (∃ i xs, x = .own i ∧ σ[i]? = some (.list xs) ∧ xs.length ≤ 1000000 ∧ b = !xs.isEmpty) ∨ truthy x = some b
theorem SRel.at {i : Nat} {o : AO} (R : X.SR ρ σ s.heap) {a : Addr} {r : List Addr} (hi : ρ.own[i]? = some (a :: r)) (ho : σ[i]? = some o) : AORel X.Z X.w ρ s.heap (a :: r) o := R.objs i (a :: r) o hi ho
theorem truth_sound {x : V} {b : Bool} {u : Value} {Q : Bool → Shared → Prop} {E : Value → Shared → Prop} (h : TruthOk σ x b) (R : X.SR ρ σ s.heap) (r : VRel ρ s.heap x u) (hQ : ∀ tk, Q b { s with toks := tk }) : X.wp A (PySem.truthy u) Q E s := by
  rcases h with ⟨i, xs, rfl, ho, hl, rfl⟩ | h
  · obtain ⟨a, rr, hi, rfl⟩ := r
    obtain ⟨a', vs, e, hL, hx⟩ := R.objs i _ _ hi ho
    cases e
    have hlen := itsRel_length hx
    refine wpAny_truthy_list hL.isList (by simp only [List.size_toArray]; omega) ?_
    have e : (!xs.isEmpty) = !vs.toArray.isEmpty := by
      cases hx <;> simp
    rw [← e]; exact hQ _
  · cases x with
    | bool b' => cases h; cases r; exact wpAny_truthy_bool (hQ s.toks)
    | none => cases h; cases r; exact PyProof.Rows.truthy_none (hQ s.toks)
    | _ => cases h
theorem c_plain {e : Expr} {x : V} {b : Bool} (hp : plainTest e = true) (h1 : X.VEval d sc loc e σ x σ₁) (h : TruthOk σ₁ x b) : X.VCond d sc loc e σ b σ₁ := by
  intro A env ρ s Q E ok R L kq
  have he : isTrue e env (eval e env) = (do let v ← eval e env; standAt e.pos; holding [v] (PySem.truthy v)) := by
    cases e <;> first | rfl | cases hp
  refine wpAny_isTrue_value (VEval.then h1 ok R L fun ρ₁ s₁ k₁ u e₁ R₁ L₁ r₁ => ?_) he
  exact truth_sound (s := { s with heap := s₁, toks := k₁ }) h R₁ r₁ fun tk => kq ρ₁ s₁ tk e₁ R₁

end
end Mine
end

-- part M6
section
namespace Mine
open PySem PySem.W PyProof.Rows PySem.Calls PySem.Spec

theorem lookup_cons_if {y z : Str} {v : V} {r : Loc} : List.lookup y ((z, v) :: r) = if y = z then some v else r.lookup y := by
  rw [List.lookup_cons]
  by_cases h : y = z
  · subst h; rw [if_pos rfl, beq_self_eq_true]
  · rw [if_neg h, beq_eq_false_iff_ne.mpr h]
theorem put_lookup (loc : Loc) (x : Str) (v : V) (y : Str) : (put loc x v).lookup y = if y = x then some v else loc.lookup y := by
  induction loc with
  | nil => show List.lookup y [(x, v)] = _; rw [lookup_cons_if]
  | cons p r ih =>
    obtain ⟨z, u⟩ := p
    unfold put
    by_cases hz : z = x
    · subst hz
      rw [if_pos rfl, lookup_cons_if, lookup_cons_if]
      by_cases h : y = z
      · rw [if_pos h, if_pos h]
      · rw [if_neg h, if_neg h, if_neg h]
    · rw [if_neg hz, lookup_cons_if, lookup_cons_if, ih]
      by_cases h : y = z
      · subst h
        rw [if_pos rfl, if_pos rfl, if_neg hz]
      · rw [if_neg h, if_neg h]

section
variable {Z : Shapes} {w : World} {hb : Heap} {ρ ρ' : Rho} {σ : AS} {h h' : Heap}

noncomputable def Rho.add (ρ : Rho) (fp : List Addr) : Rho := { ρ with own := ρ.own ++ [fp] }
theorem Rho.mem_add {ρ : Rho} {fp : List Addr} {a : Addr} : a ∈ (ρ.add fp).flatten ↔ a ∈ ρ.flatten ∨ a ∈ fp := by
  have := Rho.mem_more (ρ := ρ) (ρ' := ρ.add fp) (m := [fp]) (p := []) (a := a) rfl rfl
  rw [this]; simp
theorem ext_add {fp : List Addr} (k : ∀ b o, h.get? b = some o → h'.get? b = some o) (hn : ∀ a ∈ fp, h.get? a = none) : Ext noF ρ (ρ.add fp) h h' :=
  ⟨⟨[fp], [], rfl, rfl, fun a ha => ⟨hn a (by simpa using ha), id⟩⟩, fun b o _ _ e => k b o e, fun b o _ e => ⟨o, k b o e⟩⟩

theorem AORel.ext {fp : List Addr} {o : AO} (r : AORel Z w ρ h fp o) {F : Addr → Prop} (x : Ext F ρ ρ' h h') (hF : NoSeq F ρ h) (sm : ∀ a ∈ fp, ∀ o, h.get? a = some o → h'.get? a = some o) : AORel Z w ρ' h' fp o := by
  cases o with
  | list xs =>
    obtain ⟨a, vs, rfl, ⟨n', ho⟩, hi⟩ := r
    exact ⟨a, vs, rfl, ⟨n', sm a (by simp) _ ho⟩, hi.ext x hF⟩
  | dict kvs =>
    obtain ⟨a, rfl, hd⟩ := r
    exact ⟨a, rfl, Z.dictK hd (sm a (by simp))⟩
  | inst C fs =>
    obtain ⟨a, d, es, n, rfl, h1, h2, h3⟩ := r
    exact ⟨a, d, es, n, rfl, sm a (by simp) _ h1, sm d (by simp) _ h2, h3.ext x hF⟩
  | stream y => exact Z.streamK r sm
  | citer j live =>
    obtain ⟨a, rr, e, hc⟩ := r
    obtain ⟨m, _, e1, _⟩ := x.more
    exact ⟨a, rr, by rw [e1, List.getElem?_append_left (List.getElem?_eq_some_iff.mp e).1]; exact e, Z.citerK hc sm⟩
  | tbl made =>
    obtain ⟨a, rfl, hd⟩ := r
    exact ⟨a, rfl, Z.tblK hd (sm a (by simp))⟩

/-- one object more -/
theorem SRel.add (R : SRel Z w hb ρ σ h) {fp : List Addr} {o : AO} (k : ∀ b o, h.get? b = some o → h'.get? b = some o) (hn : ∀ a ∈ fp, h.get? a = none) (hnd : fp.Nodup) (ht : ∀ a ∈ fp, ∃ o, h'.get? a = some o)
    (hr : AORel Z w (ρ.add fp) h' fp o) : SRel Z w hb (ρ.add fp) (σ ++ [o]) h' := by
  have x : Ext noF ρ (ρ.add fp) h h' := ext_add k hn
  have nf := noSeq_none ρ h
  have off : ∀ a ∈ ρ.flatten, a ∉ fp := fun a ha hb' => by
    obtain ⟨o, e⟩ := R.there a ha
    rw [hn a hb'] at e; cases e
  refine ⟨fun b o e => k b o (R.base b o e), by simp [Rho.add, R.len], fun i fp' o' e1 e2 => ?_, ?_, fun a ha => ?_, fun a ha => ?_⟩
  · unfold Rho.add at e1
    dsimp only at e1
    by_cases hi : i < ρ.own.length
    · rw [List.getElem?_append_left hi] at e1
      rw [List.getElem?_append_left (R.len ▸ hi)] at e2
      exact (R.objs i fp' o' e1 e2).ext x nf fun a _ => k a
    · have hl := (List.getElem?_eq_some_iff.mp e1).1
      rw [List.length_append, List.length_singleton] at hl
      have : i = ρ.own.length := by omega
      subst this
      rw [List.getElem?_append_right (Nat.le_refl _), Nat.sub_self] at e1
      rw [R.len, List.getElem?_append_right (Nat.le_refl _), Nat.sub_self] at e2
      cases e1; cases e2
      exact hr
  · have nd := R.nd
    unfold Rho.flatten at nd ⊢
    unfold Rho.add
    dsimp only
    rw [List.flatten_append, List.flatten_singleton]
    rw [List.nodup_append] at nd ⊢
    obtain ⟨n1, n2, n3⟩ := nd
    refine ⟨List.nodup_append.mpr ⟨n1, hnd, fun a ha b hb' e => off a (Rho.mem_own ha) (e ▸ hb')⟩, n2, fun a ha b hb' e => ?_⟩
    rcases List.mem_append.mp ha with q | q
    · exact n3 a q b hb' e
    · exact off b (List.mem_append_right _ hb') (e ▸ q)
  · rcases Rho.mem_add.mp ha with ha | ha
    · exact R.fresh a ha
    · cases q : hb.get? a with
      | none => rfl
      | some o => have := R.base a o q; rw [hn a ha] at this; cases this
  · rcases Rho.mem_add.mp ha with ha | ha
    · obtain ⟨o, e⟩ := R.there a ha
      exact ⟨o, k a o e⟩
    · exact ht a ha

theorem nodup_flatten_apart {ρ : List (List Addr)} (hn : ρ.flatten.Nodup) {i j : Nat} {f g : List Addr} (hi : ρ[i]? = some f) (hj : ρ[j]? = some g) (hij : i ≠ j) {a : Addr} (ha : a ∈ f) : a ∉ g := by
  induction ρ generalizing i j with
  | nil => simp at hi
  | cons p r ih =>
    rw [List.flatten_cons, List.nodup_append] at hn
    obtain ⟨h1, h2, h3⟩ := hn
    intro hb
    cases i with
    | zero =>
      cases j with
      | zero => exact hij rfl
      | succ j =>
        simp at hi hj; subst hi
        exact h3 a ha a (List.mem_flatten.mpr ⟨g, List.mem_of_getElem? hj, hb⟩) rfl
    | succ i =>
      cases j with
      | zero =>
        simp at hi hj; subst hj
        exact h3 a hb a (List.mem_flatten.mpr ⟨f, List.mem_of_getElem? hi, ha⟩) rfl
      | succ j =>
        simp at hi hj
        exact ih h2 hi hj (fun e => hij (by rw [e])) hb

theorem nodup_flatten_sub {ρ : List (List Addr)} (hn : ρ.flatten.Nodup) {i : Nat} {f : List Addr} (hi : ρ[i]? = some f) : f.Nodup := by
  have hm := List.mem_of_getElem? hi
  clear hi
  induction ρ with
  | nil => cases hm
  | cons p r ih =>
    rw [List.flatten_cons, List.nodup_append] at hn
    rcases List.mem_cons.mp hm with rfl | hm
    · exact hn.1
    · exact ih hn.2.1 hm
theorem SRel.nodup (R : SRel Z w hb ρ σ h) : ρ.own.flatten.Nodup := (List.nodup_append.mp R.nd).1

/-- one object turned -/
theorem SRel.turn (R : SRel Z w hb ρ σ h) {i : Nat} {fp : List Addr} {o : AO} (hi : ρ.own[i]? = some fp) (k : ∀ b o, b ∉ fp → h.get? b = some o → h'.get? b = some o) (ht : ∀ a ∈ fp, ∃ o, h'.get? a = some o)
    (hr : Ext noF ρ ρ h h' → AORel Z w ρ h' fp o) : SRel Z w hb ρ (σ.set i o) h' ∧ Ext noF ρ ρ h h' := by
  have mem : ∀ a ∈ fp, a ∈ ρ.flatten := fun a ha => mem_flatten_of hi ha
  have x : Ext noF ρ ρ h h' := ⟨⟨[], [], by simp, rfl, by simp⟩, fun b o hb' _ e => k b o (fun q => hb' (List.mem_flatten.mpr ⟨fp, List.mem_of_getElem? hi, q⟩)) e, fun b o _ e => by
    by_cases q : b ∈ fp
    · exact ht b q
    · exact ⟨o, k b o q e⟩⟩
  have nf := noSeq_none ρ h
  refine ⟨⟨fun b o e => ?_, by simp [R.len], fun j fp' o' e1 e2 => ?_, R.nd, R.fresh, fun a ha => ?_⟩, x⟩
  · exact k b o (fun q => by have := R.fresh b (mem b q); rw [this] at e; cases e) (R.base b o e)
  · by_cases hj : j = i
    · subst hj
      rw [hi] at e1; cases e1
      have hl : j < σ.length := R.len ▸ (List.getElem?_eq_some_iff.mp hi).1
      rw [List.getElem?_set_self hl] at e2; cases e2
      exact hr x
    · rw [List.getElem?_set_ne (fun e => hj e.symm)] at e2
      have ap : ∀ a ∈ fp', a ∉ fp := fun a ha => nodup_flatten_apart R.nodup e1 hi hj ha
      exact (R.objs j fp' o' e1 e2).ext x nf fun a ha o e => k a o (ap a ha) e
  · obtain ⟨o, e⟩ := R.there a ha
    exact x.there a o id e

/-- the tracked ones where what turns is none of them -/
theorem SRel.frame' {F : Addr → Prop} (R : SRel Z w hb ρ σ h) (k : ∀ b o, ¬ F b → h.get? b = some o → h'.get? b = some o) (hF : NoSeq F ρ h) (hf : ∀ b, F b → b ∉ ρ.own.flatten ∧ hb.get? b = none) (lp : ∀ a ∈ ρ.priv, F a → ∃ o, h'.get? a = some o) : SRel Z w hb ρ σ h' ∧ Ext F ρ ρ h h' := by
  have x : Ext F ρ ρ h h' := ⟨⟨[], [], by simp, rfl, by simp⟩, fun b o _ hf e => k b o hf e, fun b o hf e => ⟨o, k b o hf e⟩⟩
  refine ⟨R.keep x hF (fun b f => (hf b f).2) (fun a ha o e => k a o (fun q => (hf a q).1 ha) e) fun a ha => ?_, x⟩
  by_cases q : F a
  · exact lp a ha q
  · obtain ⟨o, e⟩ := R.there a (List.mem_append_right _ ha)
    exact ⟨o, k a o q e⟩
/-- the tracked ones where only the frame turns -/
theorem SRel.frame {F : Addr → Prop} (R : SRel Z w hb ρ σ h) (k : ∀ b o, ¬ F b → h.get? b = some o → h'.get? b = some o) (hF : NoSeq F ρ h) (hf : ∀ b, F b → b ∉ ρ.flatten ∧ hb.get? b = none) : SRel Z w hb ρ σ h' ∧ Ext F ρ ρ h h' := by
  exact R.frame' k hF (fun b f => ⟨Rho.not_own (hf b f).1, (hf b f).2⟩) fun a ha f => absurd (List.mem_append_right _ ha) (hf a f).1
end

section
variable {X : Cx} {d : Nat} {A : Around} {env : Env} {ρ : Rho} {s : Shared} {sc : Scope} {loc loc' : Loc} {σ σ' σ₁ σ₂ σ₃ : AS}

theorem ERel.fp (L : ERel X.hb ρ sc loc env s.heap) : ∀ b, FP env b → b ∉ ρ.flatten ∧ X.hb.get? b = none := by
  rintro b (rfl | ⟨y, e⟩)
  · exact L.fpL
  · exact ⟨(L.fpC y b e).1, (L.fpC y b e).2.1⟩

/-- a name of the block's own is bound -/
theorem sto_sound {x : Str} {v : V} {u : Value} {Q : Unit → Shared → Prop} {E : Value → Shared → Prop} (h : sto sc loc x v = some loc') (R : X.SR ρ σ s.heap) (L : ERel X.hb ρ sc loc env s.heap) (r : VRel ρ s.heap v u)
    (hQ : ∀ h' tk, Ext (FP env) ρ ρ s.heap h' → X.SR ρ σ h' → ERel X.hb ρ sc loc' env h' → Q () { s with heap := h', toks := tk }) : X.wp A (storeName env x u) Q E s := by
  unfold sto at h
  split at h
  case isFalse => cases h
  rename_i hk
  cases h
  have hkf : env.scope.kind = .function := by rw [L.esc]; exact L.kind
  have hkx : env.kindOf x = sc.names.lookup x := by unfold Env.kindOf; rw [L.esc]
  have nF := L.noSeq
  rw [Bool.or_eq_true, beq_iff_eq, beq_iff_eq] at hk
  rcases hk with hk | hk
  · obtain ⟨m, hn, hv⟩ := L.ns
    refine wpAny_storeName_local (hkx.trans hk) hn (fun h' hn' hs => ?_) (by rw [hkf]; rfl)
    have k : ∀ b o, ¬ FP env b → s.heap.get? b = some o → h'.get? b = some o := fun b o hb e => (hs.2 b (fun q => hb (.inl q))).trans e
    obtain ⟨R', x'⟩ := R.frame k nF (ERel.fp L)
    refine hQ h' _ x' R' ?_
    refine ⟨L.esc, L.kind, L.gl, L.bi, ⟨_, hn', fun y v' e hy => ?_⟩, fun y hy => ?_, fun y v' e => ?_, L.inj, L.fpL, fun y c e => ?_⟩
    · rw [put_lookup] at e
      by_cases hyx : y = x
      · subst hyx
        rw [if_pos rfl] at e; cases e
        exact ⟨u, by simp, r.ext x' nF⟩
      · rw [if_neg hyx] at e
        obtain ⟨u', h1, h2⟩ := hv y v' e hy
        exact ⟨u', by simp [hyx, h1], h2.ext x' nF⟩
    · obtain ⟨c, u', h1, ⟨oc, hoc, hdc⟩, h3⟩ := L.cells y hy
      have hcL : c ≠ env.locals := (L.fpC y c h1).2.2.1
      refine ⟨c, u', h1, ⟨oc, (hs.2 c hcL).trans hoc, hdc⟩, fun v' e => ?_⟩
      have hyx : y ≠ x := by rintro rfl; exact hy.notLocal hk
      rw [put_lookup, if_neg hyx] at e
      obtain ⟨u'', h4, h5⟩ := h3 v' e
      exact ⟨u'', h4, h5.ext x' nF⟩
    · rw [put_lookup] at e
      by_cases hyx : y = x
      · subst hyx; exact .inl hk
      · rw [if_neg hyx] at e; exact L.kinds y v' e
    · obtain ⟨h1, h2, h3, u', oc, hoc, hdc⟩ := L.fpC y c e
      exact ⟨h1, h2, h3, u', oc, (hs.2 c h3).trans hoc, hdc⟩
  · obtain ⟨c, u₀, hc, hu₀, hv₀⟩ := L.cells x (.inl hk)
    refine wpAny_storeName_cell hkf (hkx.trans hk) hc hu₀ fun h' hc' hs => ?_
    have hcF : FP env c := .inr ⟨x, hc⟩
    have k : ∀ b o, ¬ FP env b → s.heap.get? b = some o → h'.get? b = some o := fun b o hb e => (hs.2 b (fun q => hb (q ▸ hcF))).trans e
    obtain ⟨R', x'⟩ := R.frame k nF (ERel.fp L)
    have hcL : c ≠ env.locals := (L.fpC x c hc).2.2.1
    obtain ⟨m, hn, hv⟩ := L.ns
    refine hQ h' s.toks x' R' ?_
    refine ⟨L.esc, L.kind, L.gl, L.bi, ⟨m, hn.sameBut hs (Ne.symm hcL), fun y v' e hy => ?_⟩, fun y hy => ?_, fun y v' e => ?_, L.inj, L.fpL, fun y c' e => ?_⟩
    · have hyx : y ≠ x := by rintro rfl; rw [hk] at hy; cases hy
      rw [put_lookup, if_neg hyx] at e
      obtain ⟨u', h1, h2⟩ := hv y v' e hy
      exact ⟨u', h1, h2.ext x' nF⟩
    · by_cases hyx : y = x
      · subst hyx
        refine ⟨c, some u, hc, hc', fun v' e => ?_⟩
        rw [put_lookup, if_pos rfl] at e; cases e
        exact ⟨u, rfl, r.ext x' nF⟩
      · obtain ⟨c', u', h1, ⟨oc, hoc, hdc⟩, h3⟩ := L.cells y hy
        have hne : c' ≠ c := fun q => hyx (L.inj y x c (q ▸ h1) hc)
        refine ⟨c', u', h1, ⟨oc, (hs.2 c' hne).trans hoc, hdc⟩, fun v' e => ?_⟩
        rw [put_lookup, if_neg hyx] at e
        obtain ⟨u'', h4, h5⟩ := h3 v' e
        exact ⟨u'', h4, h5.ext x' nF⟩
    · rw [put_lookup] at e
      by_cases hyx : y = x
      · subst hyx; exact .inr (.inl hk)
      · rw [if_neg hyx] at e; exact L.kinds y v' e
    · obtain ⟨h1, h2, h3, u', oc, hoc, hdc⟩ := L.fpC y c' e
      by_cases q : c' = c
      · subst q; exact ⟨h1, h2, h3, _, hc'⟩
      · exact ⟨h1, h2, h3, u', oc, (hs.2 c' q).trans hoc, hdc⟩
end
end Mine
end

-- part M7
section
namespace Mine
open PySem PySem.W PyProof.Rows PySem.Calls PySem.Spec

section
variable {Z : Shapes} {w : World} {hb : Heap} {ρ ρ' : Rho} {σ : AS} {h h' : Heap}
theorem SRel.offSize (R : SRel Z w hb ρ σ h) : h.objs.size ∉ ρ.flatten := fun q => by
  obtain ⟨o, e⟩ := R.there _ q; exact absurd (Heap.lt_size e) (Nat.lt_irrefl _)
theorem push_keeps {h : Heap} {o : Obj} : ∀ b o', h.get? b = some o' → (h.push o).get? b = some o' := fun _ _ e => Heap.get?_push_of_some o e
theorem size_none (h : Heap) : h.get? h.objs.size = none := Heap.get?_none_of_le (Nat.le_refl _)
theorem vsRel_ats {xs : List V} {us : List Value} (r : VsRel ρ h xs us) : ∀ {l : List It}, atsOf xs = some l → ItsRel ρ.flatten h l us := by
  induction r with
  | nil => intro l e; cases e; exact .nil
  | @cons x xs v vs a b ih =>
    intro l e
    cases x with
    | it i =>
      obtain ⟨l', e', rfl⟩ := Option.map_eq_some_iff.mp e
      exact .cons a (ih e')
    | _ => cases e
theorem vsRel_length {xs : List V} {us : List Value} (r : VsRel ρ h xs us) : xs.length = us.length := by
  induction r with
  | nil => rfl
  | cons _ _ ih => simp [ih]
end

section
variable {X : Cx} {d : Nat} {A : Around} {env : Env} {ρ : Rho} {s : Shared} {sc : Scope} {loc loc' : Loc} {σ σ' σ₁ σ₂ σ₃ : AS}

theorem v_List {es : List Expr} {pos : Pos} {xs : List V} {l : List It} (h1 : X.VEvals d sc loc es σ xs σ₁) (hl : atsOf xs = some l) (hn : xs.length ≤ 100) : X.VEval d sc loc (.List es pos) σ (.lst l) σ₁ := by
  intro A env ρ s Q E ok R L kq
  refine List_ (VEvals.then h1 ok R L fun ρ₁ s₁ k₁ us e₁ R₁ L₁ rs => wpAny_newList ?_ (by rw [← vsRel_length rs, sizeLine_eq]; omega))
  have r := vsRel_ats rs hl
  refine kq ρ₁ _ k₁ _ (e₁.trans (Ext.of_keeps push_keeps)) (R₁.keeps push_keeps) ⟨_, us, rfl, R₁.offSize, ⟨_, Heap.get?_push_size _ rfl⟩, r.ext (F := noF) (Ext.of_keeps push_keeps) (noSeq_none _ _)⟩
theorem v_ListT {es : List Expr} {pos : Pos} {xs : List V} {l : List It} (h1 : X.VEvals d sc loc es σ xs σ₁) (hl : atsOf xs = some l) (hn : xs.length ≤ 100) : X.VEval d sc loc (.List es pos) σ (.own σ₁.length) (σ₁ ++ [.list l]) := by
  intro A env ρ s Q E ok R L kq
  refine List_ (VEvals.then h1 ok R L fun ρ₁ s₁ k₁ us e₁ R₁ L₁ rs => wpAny_newList ?_ (by rw [← vsRel_length rs, sizeLine_eq]; omega))
  have r := vsRel_ats rs hl
  have hn : ∀ a ∈ [s₁.objs.size], s₁.get? a = none := fun a ha => by rw [List.mem_singleton.mp ha]; exact size_none _
  have x := ext_add (ρ := ρ₁) (fp := [s₁.objs.size]) (push_keeps (h := s₁) (o := { cls := .type "list", data := .seq us.toArray })) hn
  refine kq (ρ₁.add [s₁.objs.size]) _ k₁ _ (e₁.trans x) (R₁.add push_keeps hn (by simp) (fun a ha => by rw [List.mem_singleton.mp ha]; exact ⟨_, Heap.get?_push_size _ rfl⟩) ⟨_, us, rfl, ⟨_, Heap.get?_push_size _ rfl⟩, r.ext x (noSeq_none _ _)⟩)
    ⟨_, [], ?_, rfl⟩
  show (ρ₁.own ++ [[s₁.objs.size]])[σ₁.length]? = _
  rw [← R₁.len, List.getElem?_append_right (Nat.le_refl _), Nat.sub_self]; rfl

theorem v_Tuple {es : List Expr} {k : Nat} {pos : Pos} {x y : At} (h1 : X.VEvals d sc loc es σ [.it (.at x), .it (.at y)] σ₁) : X.VEval d sc loc (.Tuple es k pos) σ (.it (.pair x y)) σ₁ := by
  intro A env ρ s Q E ok R L kq
  refine Tuple_ (VEvals.then h1 ok R L fun ρ₁ s₁ k₁ us e₁ R₁ L₁ rs => wpAny_newTuple ?_ (by rw [← vsRel_length rs, sizeLine_eq]; show 2 ≤ _; decide))
  cases rs with | cons a rs => cases rs with | cons b rs => cases rs with | nil =>
  refine kq ρ₁ _ k₁ _ (e₁.trans (Ext.of_keeps push_keeps)) (R₁.keeps push_keeps) ⟨_, _, _, rfl, R₁.offSize, ⟨_, Heap.get?_push_size _ rfl, rfl, _, rfl⟩, a, b⟩

-- statements
theorem KF.now {Q : Flow → Shared → Prop} {f : Flw} {g : Flow} {tk : Nat} (k : X.KF env sc ρ s Q σ loc f) (R : X.SR ρ σ s.heap) (L : ERel X.hb ρ sc loc env s.heap) (v : FlRel ρ s.heap f g) : Q g { s with toks := tk } :=
  k ρ s.heap tk g (Ext.refl ..) R L v
theorem ERel.live (L : ERel X.hb ρ sc loc env s.heap) : ∀ b, FP env b → ∃ o, s.heap.get? b = some o := by
  rintro b (rfl | ⟨y, e⟩)
  · obtain ⟨m, ⟨o, _, _, ho, _⟩, _⟩ := L.ns
    exact ⟨o, ho⟩
  · obtain ⟨_, _, _, u, o, ho, _⟩ := L.fpC y b e
    exact ⟨o, ho⟩
/-- after an evaluation, what turns the frame -/
theorem Ext.frame {ρ₀ ρ' : Rho} {h' h'' : Heap} (L : ERel X.hb ρ sc loc env s.heap) (x : Ext noF ρ ρ₀ s.heap h') (y : Ext (FP env) ρ₀ ρ' h' h'') : Ext (FP env) ρ ρ' s.heap h'' :=
  x.then y (ERel.live L) fun _ g => .inl g
theorem Ext.up {ρ' : Rho} {h' : Heap} (L : ERel X.hb ρ sc loc env s.heap) (x : Ext noF ρ ρ' s.heap h') : Ext (FP env) ρ ρ' s.heap h' :=
  x.then (Ext.refl (FP env) ρ' h') (ERel.live L) fun _ g => .inl g

theorem x_Return {e : Expr} {pos : Pos} {a : V} (h1 : X.VEval d sc loc e σ a σ₁) : X.VExec d sc loc (.Return (some e) pos) σ (.ret a) loc σ₁ := by
  intro A env ρ s Q E ok R L kq
  refine wpAny_Return_some (VEval.then h1 ok R L fun ρ₁ s₁ k₁ u e₁ R₁ L₁ r₁ => ?_)
  exact kq ρ₁ s₁ k₁ _ (Ext.up L e₁) R₁ L₁ ⟨u, rfl, r₁⟩
theorem swaps_no {e : Expr} (h : notComp e = true) (t : Option Expr) (n : Nat) (env : Env) : swapsWith e t n env = pure false := by
  cases e <;> first | rfl | cases h
theorem inter_false (L : ERel X.hb ρ sc loc env s.heap) : interactive env = false := by
  unfold interactive
  rw [L.esc, L.kind]; rfl
theorem x_Expr {e : Expr} {pos : Pos} {a : V} (hc : notComp e = true) (h1 : X.VEval d sc loc e σ a σ₁) : X.VExec d sc loc (.Expr e pos) σ .next loc σ₁ := by
  intro A env ρ s Q E ok R L kq
  refine wpAny_Expr_any (VEval.then h1 ok R L fun ρ₁ s₁ k₁ u e₁ R₁ L₁ r₁ => ?_) (inter_false L) (swaps_no hc _ _ _)
  exact kq ρ₁ s₁ k₁ _ (Ext.up L e₁) R₁ L₁ rfl
theorem x_Continue {pos : Pos} : X.VExec d sc loc (.Continue pos) σ .cont loc σ := by
  intro A env ρ s Q E ok R L kq
  exact wpAny_Continue (kq ρ s.heap s.toks _ (Ext.refl ..) R L rfl)
theorem x_If {t : Expr} {b o : List Stmt} {pos : Pos} {c : Bool} {f : Flw} (h1 : X.VCond d sc loc t σ c σ₁) (h2 : X.VExecs d sc loc (if c then b else o) σ₁ f loc' σ₂) : X.VExec d sc loc (.If t b o pos) σ f loc' σ₂ := by
  intro A env ρ s Q E ok R L kq
  refine wpAny_If (VCond.then h1 ok R L fun ρ₁ s₁ k₁ e₁ R₁ L₁ => ?_)
  cases c
  · exact h2 A env ρ₁ _ Q E ok R₁ L₁ fun ρ₂ s₂ k₂ g e₂ R₂ L₂ r₂ => kq ρ₂ s₂ k₂ g (Ext.frame L e₁ e₂) R₂ L₂ r₂
  · exact h2 A env ρ₁ _ Q E ok R₁ L₁ fun ρ₂ s₂ k₂ g e₂ R₂ L₂ r₂ => kq ρ₂ s₂ k₂ g (Ext.frame L e₁ e₂) R₂ L₂ r₂
theorem x_nil : X.VExecs d sc loc [] σ .next loc σ := by
  intro A env ρ s Q E ok R L kq
  exact wpAny_execs_nil (kq ρ s.heap s.toks _ (Ext.refl ..) R L rfl)
theorem x_cons_next {st : Stmt} {rest : List Stmt} {f : Flw} {loc₁ : Loc} (h1 : X.VExec d sc loc st σ .next loc₁ σ₁) (h2 : X.VExecs d sc loc₁ rest σ₁ f loc' σ₂) : X.VExecs d sc loc (st :: rest) σ f loc' σ₂ := by
  intro A env ρ s Q E ok R L kq
  refine wpAny_execs_cons (h1 A env ρ s _ E ok R L fun ρ₁ s₁ k₁ g e₁ R₁ L₁ r₁ => ?_)
  cases r₁
  exact h2 A env ρ₁ _ Q E ok R₁ L₁ fun ρ₂ s₂ k₂ g e₂ R₂ L₂ r₂ => kq ρ₂ s₂ k₂ g (e₁.trans e₂) R₂ L₂ r₂
theorem x_cons_out {st : Stmt} {rest : List Stmt} {f : Flw} (hf : f ≠ .next) (h1 : X.VExec d sc loc st σ f loc' σ₁) : X.VExecs d sc loc (st :: rest) σ f loc' σ₁ := by
  intro A env ρ s Q E ok R L kq
  refine wpAny_execs_cons (h1 A env ρ s _ E ok R L fun ρ₁ s₁ k₁ g e₁ R₁ L₁ r₁ => ?_)
  cases f with
  | next => exact absurd rfl hf
  | cont => cases r₁; exact kq ρ₁ s₁ k₁ _ e₁ R₁ L₁ rfl
  | ret v => obtain ⟨u, rfl, r₁⟩ := r₁; exact kq ρ₁ s₁ k₁ _ e₁ R₁ L₁ ⟨u, rfl, r₁⟩

theorem x_AssignName {x : Str} {xp pos : Pos} {e : Expr} {v : V} (hc : notComp e = true) (h1 : X.VEval d sc loc e σ v σ₁) (hs : sto sc loc x v = some loc') : X.VExec d sc loc (.Assign [.Name x xp] e pos) σ .next loc' σ₁ := by
  intro A env ρ s Q E ok R L kq
  refine wpAny_Assign_Name (VEval.then h1 ok R L fun ρ₁ s₁ k₁ u e₁ R₁ L₁ r₁ => ?_) (swaps_no hc _ _ _)
  exact sto_sound (s := { s with heap := s₁, toks := k₁ }) hs R₁ L₁ r₁ fun h' tk e₂ R₂ L₂ => kq ρ₁ h' tk _ (Ext.frame L e₁ e₂) R₂ L₂ rfl

theorem inplace_sound {a b c : V} {u v : Value} {Q : Value → Shared → Prop} {E : Value → Shared → Prop} (h : binop .Add a b = some c) (ha : VRel ρ s.heap a u) (hb : VRel ρ s.heap b v)
    (hQ : ∀ tk z, VRel ρ s.heap c z → Q z { s with toks := tk }) : X.wp A (inplaceOp .Add u v) Q E s :=
  onAt_ (fun a => VRel ρ s.heap a u) h ha fun x ha h => onAt_ (fun b => VRel ρ s.heap b v) h hb fun y hb h => by
    delta binA at h
    cases x with
    | int x => exact intA_ (fun y => VRel ρ s.heap (.it (.at y)) v) h hb fun y hb h => (by
        obtain ⟨t, rfl⟩ := ha; obtain ⟨t', rfl⟩ := hb
        cases h
        exact PyProof.Rows.iadd_int (hQ _ _ ⟨_, rfl⟩))
    | str x => exact strA_ (fun y => VRel ρ s.heap (.it (.at y)) v) h hb fun y hb h => whenB_ h fun h1 h => whenD_ h fun hl hz => (by
        obtain ⟨t, rfl⟩ := ha; obtain ⟨t', rfl⟩ := hb
        cases hz
        exact PyProof.Rows.iadd_str (fun t' tk => hQ tk _ ⟨t', rfl⟩) (by rw [sizeLine_eq]; omega))

theorem load_loc {x : Str} {a : V} {Q : Value → Shared → Prop} {E : Value → Shared → Prop} (h : loc.lookup x = some a) (L : ERel X.hb ρ sc loc env s.heap) (hQ : ∀ u, VRel ρ s.heap a u → Q u s) : X.wp A (loadName env x) Q E s := by
  have hk : env.scope.kind = .function := by rw [L.esc]; exact L.kind
  rcases L.kinds x a h with k | k
  · obtain ⟨m, hn, hv⟩ := L.ns
    obtain ⟨u, hu, r⟩ := hv x a h k
    exact wpAny_loadName_local hk (by unfold Env.kindOf; rw [L.esc]; exact k) hn hu (hQ u r)
  · obtain ⟨c, u, hc, hu, hv⟩ := L.cells x k
    obtain ⟨u', rfl, r⟩ := hv a h
    rcases k with k | ⟨k, hx⟩
    · exact wpAny_loadName_cell hk (by unfold Env.kindOf; rw [L.esc]; exact k) hc hu (hQ u' r)
    · exact wpAny_loadName_free hk (by unfold Env.kindOf; rw [L.esc]; exact k) hc hu (hQ u' r) hx
theorem x_AugName {x : Str} {xp pos : Pos} {e : Expr} {a b v : V} (ha : loc.lookup x = some a) (h1 : X.VEval d sc loc e σ b σ₁) (hv : binop .Add a b = some v) (hs : sto sc loc x v = some loc') : X.VExec d sc loc (.AugAssign (.Name x xp) .Add e pos) σ .next loc' σ₁ := by
  intro A env ρ s Q E ok R L kq
  refine wpAny_AugAssign_Name (load_loc ha L fun u ru => VEval.then h1 ok R L fun ρ₁ s₁ k₁ u₁ e₁ R₁ L₁ r₁ => ?_)
  refine inplace_sound (s := { s with heap := s₁, toks := k₁ }) hv (ru.ext e₁ (noSeq_none _ _)) r₁ fun tk z rz => ?_
  exact sto_sound (s := { s with heap := s₁, toks := tk }) hs R₁ L₁ rz fun h' tk e₂ R₂ L₂ => kq ρ₁ h' tk _ (Ext.frame L e₁ e₂) R₂ L₂ rfl
end
end Mine
end

-- part M8
section
namespace Mine
open PySem PySem.W PyProof.Rows PySem.Calls PySem.Spec Builtin Builtin.ObjectAttr

/-- the values that are bound, the defaults among them -/
noncomputable def fullArgs (f : Fn) (vs : List Value) (kvs : List (Str × Value)) : List Value :=
  if (vs ++ kvs.map (·.2)).length < f.ps.length then vs ++ kvs.map (·.2) ++ f.df.map (fun _ => Value.none) else vs ++ kvs.map (·.2)
structure FnOk (X : Cx) (a : Addr) (f : Fn) (o : Obj) (fd : FuncData) : Prop where
  get : X.hb.get? a = some o
  data : o.data = .func fd
  body : fd.body = .stmts f.body
  scope : fd.scope = f.sc
  gl : fd.globals = mainGlobals
  bi : fd.builtins = builtinsNs
  clo : fd.closure = []
  code : X.hb.CodeRec fd.code fd.qualname
  co : f.sc.isCoroutine = false
  gen : f.sc.isGenerator = false
  kind : f.sc.kind = .function
  df : ∀ v ∈ f.df, v = .none
  ps : ∀ x ∈ f.ps, f.sc.names.lookup x = some .local ∨ f.sc.names.lookup x = some .cell
  nd : f.ps.Nodup
  nn : (f.sc.names.map (·.1)).Nodup
  nofree : ∀ x, f.sc.names.lookup x ≠ some .free
  binds : ∀ (s : Shared) vs kvs, (∀ b o, X.hb.get? b = some o → s.heap.get? b = some o) → kvs.map (·.1) = f.kwn.toList → (fullArgs f vs kvs).length = f.ps.length → BindsTo s fd ⟨vs, kvs⟩ (f.ps.zip (fullArgs f vs kvs))
structure Good (X : Cx) : Prop where
  fn : ∀ a f, X.S.fn a = some f → ∃ o fd, FnOk X a f o fd
  keep : ∀ a, X.S.keep a = true → keepIn X.K (.ref a) = true
  glb : Glb X
  kin : X.K.In X.hb
  lim : X.hb.NoLimit
  fld : ∀ C n, X.S.fld C n = true → plainGet X.K C n = true ∧ hasDictIn X.K C = true ∧ findIn X.K (.ref C) n = some none ∧ findIn X.K (.ref C) "__setattr__" = some (some (.builtin "object.__setattr__")) ∧ plainOver X.K C = true

section
variable {prog : Program} {w : World} {A : Around} {K : Frag} {C x : Addr} {s : Shared} {R : Result → Shared → Prop} {E : Value → Shared → Prop}
/-- a name of an object's own dict is set: the heap as it stands -/
theorem osa_gen {ox od od' : Obj} {dx : Addr} {name : Str} {tk : Tok} {v : Value} {es : List DictEntry} {n : Nat} (X : K.In s.heap)
    (I : PySem.W.InstAt s.heap x ox C (some od)) (hd : ox.dict = some dx) (hp : plainOver K C = true) (ht : takerIn K C name = some none) (hh : (clsIn K C).any (·.hasDict) = true)
    (hl : (lookIn name od).isSome = true)
    (e : Obj.putName name (PyData.keyHash w.params name) (.str name s.toks) v od = od') (e' : od'.data = .dict es.toArray n) (hz : es.length ≤ 1000)
    (h : ∀ h', Heap.SameBut dx s.heap h' → h'.get? dx = some od' → R (.ok (.ret .none)) { s with heap := h', toks := s.toks + 1 }) :
    codeAny (model prog w) A (.call (.builtin "object.__setattr__") ⟨[.ref x, .str name tk, v], []⟩) R s := by
  refine osa_open X I hp ht fun b => ?_
  obtain ⟨cd, hc, hd'⟩ := any_some hh
  obtain ⟨hx, hcl, hn, D⟩ := I
  obtain ⟨oc, odi, oda, osl⟩ := ox
  dsimp only at hcl hd D
  subst hcl hd
  dsimp only at D
  have D' : (s.heap.update dx (Obj.putName name (PyData.keyHash w.params name) (.str name s.toks) v)).get? dx = some od' := e ▸ Heap.get?_update_self _ D (by rw [e]; obtain ⟨_, _, dd, _⟩ := od'; cases e'; rfl)
  refine wpAny_bind (wpAny_pure (wpAny_bind (wpAny_bind (wpAny_loadPart hx (wpAny_bind ((looks_clsIn X hc).here ?_))))))
  rw [hd']
  refine wpAny_pure (a := some dx) (wpAny_bind (wpAny_pure (wpAny_bind ?_)))
  unfold nsSet
  refine wpAny_bind (wpAny_bind (wpAny_askSetting (wpAny_pure (wpAny_bind (wpAny_mkText (wpAny_bind (wpAny_loadPart D ?_)))))))
  unfold lookIn at hl
  split at hl
  · rename_i es₀ n₀ q
    rw [q]
    dsimp only
    have c : (!es₀.any (·.key.isStr name) && es₀.any (·.refKey)) = false := by
      rw [← Array.any_toList, ← Array.any_toList]
      split at hl
      · rename_i en he
        rw [List.any_eq_true.mpr ⟨en, List.mem_of_find?_eq_some he, List.find?_some he⟩]; rfl
      · split at hl
        · cases hl
        · rename_i z; rw [Bool.not_eq_true] at z; rw [z, Bool.and_false]
    rw [aRefKeyMayBeTheName_at, c]
    refine wpAny_updatePart D ?_
    refine wpAny_bind (wpAny_lookBehind D' (by rw [e']; exact pastItsLine_dict (by rw [List.size_toArray, sizeLine_eq]; omega)) ?_)
    exact wpAny_pure (h _ (Heap.SameBut.update ..) D')
  · cases hl
end

section
variable {w : World} {ρ : Rho} {h : Heap}
theorem entRel_get {fs : List (Str × V)} {es : List DictEntry} (r : EntRel w ρ h fs es) (n : Str) : match fs.lookup n with
    | some a => ∃ u, getL n es = some (some u) ∧ VRel ρ h a u
    | none => getL n es = some none := by
  have noRef : es.any (·.refKey) = false := by
    induction r with
    | nil => rfl
    | cons _ _ ih => rw [List.any_cons, ih]; rfl
  unfold getL
  induction r with
  | nil => rfl
  | @cons x t v u r es hv hr ih =>
    rw [lookup_cons_if, List.find?_cons]
    have e : (DictEntry.mk (PyData.keyHash w.params x) (.str x t) u).key.isStr n = (x == n) := rfl
    rw [e]
    by_cases q : n = x
    · subst q
      rw [if_pos rfl, beq_self_eq_true]
      exact ⟨u, rfl, hv⟩
    · rw [if_neg q, beq_eq_false_iff_ne.mpr (Ne.symm q)]
      rw [List.any_cons, Bool.or_eq_false_iff] at noRef
      have := ih noRef.2
      rw [List.any_cons, noRef.1, Bool.false_or]
      exact this
theorem entRel_put {fs : List (Str × V)} {es : List DictEntry} (r : EntRel w ρ h fs es) (n : Str) (t : Tok) {a : V} {u : Value} (hu : VRel ρ h a u) : EntRel w ρ h (put fs n a) (putL n (PyData.keyHash w.params n) (.str n t) u es) := by
  induction r with
  | nil => exact .cons hu .nil
  | @cons x t' v u' r es hv hr ih =>
    unfold put putL
    have e : (DictEntry.mk (PyData.keyHash w.params x) (.str x t') u').key.isStr n = (x == n) := rfl
    rw [e]
    by_cases q : x = n
    · subst q
      rw [if_pos rfl, beq_self_eq_true]
      exact .cons hu hr
    · rw [if_neg q, beq_eq_false_iff_ne.mpr q]
      exact .cons hv ih
theorem entRel_len {fs : List (Str × V)} {es : List DictEntry} (r : EntRel w ρ h fs es) : fs.length = es.length := by
  induction r with
  | nil => rfl
  | cons _ _ ih => simp [ih]
theorem putL_len (n : Str) (hs : Int) (k v : Value) (es : List DictEntry) : (putL n hs k v es).length ≤ es.length + 1 := by
  induction es with
  | nil => simp [putL]
  | cons e r ih => unfold putL; split <;> simp; omega
end

section
variable {X : Cx} {d : Nat} {A : Around} {env : Env} {ρ : Rho} {s : Shared} {sc : Scope} {loc loc' : Loc} {σ σ' σ₁ σ₂ σ₃ : AS}

theorem getAttr_sound (G : Good X) {i : Nat} {C : Addr} {fs : List (Str × V)} {n : Str} {a : V} {u : Value} {ex : Bool} {Q : Value → Shared → Prop} {E : Value → Shared → Prop} (ho : σ[i]? = some (.inst C fs)) (hn : fs.lookup n = some a) (hv : ∀ z, a ≠ .val z) (hf : X.S.fld C n = true)
    (R : X.SR ρ σ s.heap) (r : VRel ρ s.heap (.own i) u) (hQ : ∀ tk z, VRel ρ s.heap a z → Q z { s with toks := tk }) : X.wp A (getAttr u n ex) Q E s := by
  obtain ⟨x, rr, hi, rfl⟩ := r
  obtain ⟨x', dx, es, k, e, h1, h2, h3⟩ := R.objs i _ _ hi ho
  cases e
  obtain ⟨g1, g2, g3, _, _⟩ := G.fld C n hf
  have hg := entRel_get h3 n
  rw [hn] at hg
  obtain ⟨z, hz, rz⟩ := hg
  have K' : X.K.In s.heap := G.kin.keeps R.base
  have I : PySem.W.InstAt s.heap x (instObj C dx) C (some (dictOf es k)) := ⟨h1, rfl, rfl, h2⟩
  refine PySem.W.get_value K' I (plainGet_of g1).1 (findObj_own g2 g3 rfl hz) ?_ (hQ _ z rz)
  cases a with
  | none => cases rz; rfl
  | bool b => cases rz; rfl
  | it i => cases i with
    | «at» q => cases q with
      | int => obtain ⟨_, rfl⟩ := rz; rfl
      | str => obtain ⟨_, rfl⟩ := rz; rfl
    | pair => obtain ⟨_, _, _, rfl, _⟩ := rz; rfl
  | lst xs => obtain ⟨_, _, rfl, _⟩ := rz; rfl
  | val z' => exact absurd rfl (hv z')
  | own j => obtain ⟨_, _, _, rfl⟩ := rz; rfl

theorem setAttr_sound (G : Good X) {i : Nat} {C : Addr} {fs : List (Str × V)} {n : Str} {a : V} {u z : Value} {Q : Unit → Shared → Prop} {E : Value → Shared → Prop} (ho : σ[i]? = some (.inst C fs)) (hf : X.S.fld C n = true) (hl : fs.length ≤ 100)
    (R : X.SR ρ σ s.heap) (r : VRel ρ s.heap (.own i) u) (rz : VRel ρ s.heap a z) (hQ : ∀ h' tk, Ext noF ρ ρ s.heap h' → X.SR ρ (σ.set i (.inst C (put fs n a))) h' → Q () { s with heap := h', toks := tk }) : X.wp A (setAttr u n z) Q E s := by
  obtain ⟨x, rr, hi, rfl⟩ := r
  obtain ⟨x', dx, es, k, e, h1, h2, h3⟩ := R.objs i _ _ hi ho
  cases e
  obtain ⟨g1, g2, g3, g4, g5⟩ := G.fld C n hf
  have K' : X.K.In s.heap := G.kin.keeps R.base
  have I : PySem.W.InstAt s.heap x (instObj C dx) C (some (dictOf es k)) := ⟨h1, rfl, rfl, h2⟩
  have ht : takerIn X.K C n = some none := by unfold takerIn; rw [g3]; rfl
  have hd : x ≠ dx := by
    have := nodup_flatten_sub R.nodup hi
    simpa using this
  refine set_plain K' I g4 (osa_gen (s := { s with toks := s.toks + 1 }) (dx := dx) K' I rfl g5 ht g2 ?_ (by rw [putName_dict]) rfl ?_ fun h' hs hg => ?_)
  · rw [lookIn_dict]
    have := entRel_get h3 n
    cases q : fs.lookup n with
    | none => rw [q] at this; rw [this]; rfl
    | some a => rw [q] at this; obtain ⟨_, e, _⟩ := this; rw [e]; rfl
  · have e1 := putL_len n (PyData.keyHash X.w.params n) (.str n (s.toks + 1)) z es
    have e2 := entRel_len h3
    dsimp only
    omega
  · have k' : ∀ b o, b ∉ [x, dx] → s.heap.get? b = some o → h'.get? b = some o := fun b o hb e => (hs.2 b (fun q => hb (by simp [q]))).trans e
    obtain ⟨R', x'⟩ := R.turn (o := .inst C (put fs n a)) hi k' (fun b hb => by
      rcases List.mem_cons.mp hb with rfl | hb
      · exact ⟨_, (hs.2 _ hd).trans h1⟩
      · rw [List.mem_singleton.mp hb]; exact ⟨_, hg⟩)
      (fun ex => ⟨x, dx, _, _, rfl, (hs.2 _ hd).trans h1, hg, entRel_put (h3.ext ex (noSeq_none _ _)) n _ (rz.ext ex (noSeq_none _ _))⟩)
    exact hQ h' _ x' R'

theorem v_Attr (G : Good X) {o : Str} {op pos : Pos} {i : Nat} {C : Addr} {fs : List (Str × V)} {n : Str} {a : V} (h1 : X.VEval d sc loc (.Name o op) σ (.own i) σ₁) (ho : σ₁[i]? = some (.inst C fs)) (hn : fldVal fs n = some a) (hf : X.S.fld C n = true) :
    X.VEval d sc loc (.Attribute (.Name o op) n pos) σ a σ₁ := by
  intro A env ρ s Q E ok R L kq
  have hl : fs.lookup n = some a ∧ ∀ z, a ≠ .val z := by
    unfold fldVal at hn
    split at hn
    · cases hn
    · rename_i q; exact ⟨hn, fun z e => q z (e ▸ hn)⟩
  refine Attribute_any_ (VEval.then h1 ok R L fun ρ₁ s₁ k₁ u e₁ R₁ L₁ r₁ => ?_) (by rfl)
  exact getAttr_sound (s := { s with heap := s₁, toks := k₁ }) G ho hl.1 hl.2 hf R₁ r₁ fun tk z rz => kq ρ₁ s₁ tk z e₁ R₁ rz

theorem x_AssignAttr (G : Good X) {o e : Expr} {ap pos : Pos} {i : Nat} {C : Addr} {fs : List (Str × V)} {n : Str} {v : V} (h1 : X.VEval d sc loc e σ v σ₁) (h2 : X.VEval d sc loc o σ₁ (.own i) σ₂) (ho : σ₂[i]? = some (.inst C fs)) (hf : X.S.fld C n = true) (hl : fs.length ≤ 100) :
    X.VExec d sc loc (.Assign [.Attribute o n ap] e pos) σ .next loc (σ₂.set i (.inst C (put fs n v))) := by
  intro A env ρ s Q E ok R L kq
  refine plainObj_wpAny_Assign_Attribute (VEval.then h1 ok R L fun ρ₁ s₁ k₁ u e₁ R₁ L₁ r₁ => VEval.then h2 ok R₁ L₁ fun ρ₂ s₂ k₂ u₂ e₂ R₂ L₂ r₂ => ?_) (by cases e <;> rfl)
  exact setAttr_sound (s := { s with heap := s₂, toks := k₂ }) G ho hf hl R₂ r₂ (r₁.ext e₂ (noSeq_none _ _)) fun h' tk e₃ R₃ => kq ρ₂ h' tk _ (Ext.up L ((e₁.trans e₂).trans e₃)) R₃ (L₂.ext e₃) rfl

theorem x_AugAttr (G : Good X) {o e : Expr} {ap pos : Pos} {i : Nat} {C C' : Addr} {fs fs' : List (Str × V)} {n : Str} {a b v : V} (h1 : X.VEval d sc loc o σ (.own i) σ₁) (ho : σ₁[i]? = some (.inst C fs)) (hf : X.S.fld C n = true) (hn : fs.lookup n = some a)
    (h2 : X.VEval d sc loc e σ₁ b σ₂) (hb : binop .Add a b = some v) (ho' : σ₂[i]? = some (.inst C' fs')) (hf' : X.S.fld C' n = true) (hl : fs'.length ≤ 100) :
    X.VExec d sc loc (.AugAssign (.Attribute o n ap) .Add e pos) σ .next loc (σ₂.set i (.inst C' (put fs' n v))) := by
  intro A env ρ s Q E ok R L kq
  have hv : ∀ z, a ≠ .val z := by rintro z rfl; cases hb
  refine wpAny_AugAssign_AttributeAny (VEval.then h1 ok R L fun ρ₁ s₁ k₁ u e₁ R₁ L₁ r₁ => ?_)
  refine getAttr_sound (s := { s with heap := s₁, toks := k₁ }) G ho hn hv hf R₁ r₁ fun tk z rz => ?_
  refine VEval.then (s := { s with heap := s₁, toks := tk }) h2 ok R₁ L₁ fun ρ₂ s₂ k₂ u₂ e₂ R₂ L₂ r₂ => ?_
  refine inplace_sound (s := { s with heap := s₂, toks := k₂ }) hb (rz.ext e₂ (noSeq_none _ _)) r₂ fun tk z' rz' => ?_
  exact setAttr_sound (s := { s with heap := s₂, toks := tk }) G ho' hf' hl R₂ (r₁.ext e₂ (noSeq_none _ _)) rz' fun h' tk e₃ R₃ => kq ρ₂ h' tk _ (Ext.up L ((e₁.trans e₂).trans e₃)) R₃ (L₂.ext e₃) rfl
end
end Mine
end

-- part M9
section
namespace Mine
open PySem PySem.W PyProof.Rows PySem.Calls PySem.Spec

section
variable {prog : Program} {w : World} {A : Around} {E : Value → Shared → Prop} {R : Result → Shared → Prop} {s : Shared}
noncomputable abbrev NB (prog : Program) (w : World) (A : Around) (env : Env) (R : Result → Shared → Prop) : Value → Shared → Prop := notedBy (model prog w) A env fun e s' => R (.error e) s'

theorem forLoop_step {target : Expr} {it : Value} {body : List Stmt} {env : Env}
    (h : wpAny (model prog w) A (pyNext it) (fun r s₁ => match r with
      | none => R (.ok .next) s₁
      | some v => wpAny (model prog w) A (letOwnedTupleGo target it v) (fun _ s₂ =>
          wpAny (model prog w) A (assign target env v) (fun _ s₃ => wpAny (model prog w) A (execs body env) (fun f s₄ => match f with
            | .next | .cont => codeAny (model prog w) A (.forLoop target it body [] env) R s₄
            | .brk => R (.ok .next) s₄
            | .ret v => R (.ok (.ret v)) s₄) (NB prog w A env R) s₃) (NB prog w A env R) s₂) (NB prog w A env R) s₁) (NB prog w A env R) s) :
    codeAny (model prog w) A (.forLoop target it body [] env) R s := by
  refine codeAny_loop' rfl (fun _ s' => s' = s) (fun n s' hI => ?_) 0 rfl
  subst hI
  show wpAny _ A ((forTurn target it body [] env).onRaise (fun x => do noteFrame x env; theTreesLotGoes x)) _ _ _
  refine wpAny_noted ?_
  simp only [forTurn]
  refine wpAny_bind (wpAny_standAt (wpAny_bind (wpAny_onRaise (wpAny_mono h (fun r s₁ h₁ => ?_) fun _ _ h' => wpAny_standAt h'))))
  cases r with
  | none => exact wpAny_pure (.inr ⟨rfl, codeAny_block (wpAny_execs_nil h₁)⟩)
  | some v =>
    refine wpAny_bind (wpAny_mono h₁ (fun _ s₁' h₁' => ?_) fun _ _ h' => h')
    refine wpAny_bind (wpAny_mono h₁' (fun _ s₂ h₂ => wpAny_bind (wpAny_mono h₂ (fun f s₃ h₃ => ?_) fun _ _ h' => h')) fun _ _ h' => h')
    cases f with
    | next => exact wpAny_pure (.inr ⟨rfl, h₃⟩)
    | cont => exact wpAny_pure (.inr ⟨rfl, h₃⟩)
    | brk => exact wpAny_pure h₃
    | ret v => exact wpAny_pure h₃

theorem whileLoop_step {test : Expr} {body : List Stmt} {env : Env}
    (h : wpAny (model prog w) A (isTrue test env (eval test env)) (fun b s₂ =>
        if b then wpAny (model prog w) A (execs body env) (fun f s₃ => match f with
            | .next | .cont => codeAny (model prog w) A (.whileLoop test body [] env) R s₃
            | .brk => R (.ok .next) s₃
            | .ret v => R (.ok (.ret v)) s₃) (NB prog w A env R) s₂
        else R (.ok .next) s₂) (NB prog w A env R) s) :
    codeAny (model prog w) A (.whileLoop test body [] env) R s := by
  refine codeAny_loop' rfl (fun _ s' => s' = s) (fun n s' hI => ?_) 0 rfl
  subst hI
  show wpAny _ A ((whileTurn test body [] env).onRaise (fun x => do noteFrame x env; theTreesLotGoes x)) _ _ _
  refine wpAny_noted ?_
  simp only [whileTurn]
  refine wpAny_bind (wpAny_mono h (fun b s₂ h₂ => ?_) fun _ _ h' => h')
  cases b with
  | false =>
    simp only [Bool.false_eq_true, if_false] at h₂ ⊢
    exact wpAny_bind (wpAny_execs_nil (wpAny_pure h₂))
  | true =>
    simp only [if_true] at h₂ ⊢
    refine wpAny_bind (wpAny_mono h₂ (fun f s₃ h₃ => ?_) fun _ _ h' => h')
    cases f with
    | next => exact wpAny_pure (.inr ⟨rfl, h₃⟩)
    | cont => exact wpAny_pure (.inr ⟨rfl, h₃⟩)
    | brk => exact wpAny_pure h₃
    | ret v => exact wpAny_pure h₃
end

section
variable {X : Cx} {d : Nat} {A : Around} {env : Env} {ρ : Rho} {s : Shared} {sc : Scope} {loc loc' loc₁ : Loc} {σ σ' σ₁ σ₂ σ₃ : AS}

theorem unpack_sound {t : Expr} {x : It} {v : Value} {Q : Unit → Shared → Prop} {E : Value → Shared → Prop} (ok : Ok d A) (h : unpackT sc t x loc = some loc') (R : X.SR ρ σ s.heap) (L : ERel X.hb ρ sc loc env s.heap) (r : ItRel ρ.flatten s.heap x v)
    (hQ : ∀ h' tk, Ext (FP env) ρ ρ s.heap h' → X.SR ρ σ h' → ERel X.hb ρ sc loc' env h' → Q () { s with heap := h', toks := tk }) : X.wp A (assign t env v) Q E s := by
  refine onTN_ (fun t => X.wp A (assign t env v) Q E s) h (fun n p h => ?_) (fun n p m q k pos h => prI_ (fun x => ItRel ρ.flatten s.heap x v) h r fun a b r h => ob_ h fun loc₁ h1 h2 => ?_) nex
  · exact wpAny_assign_Name (sto_sound h R L (show VRel ρ s.heap (.it _) v from r) hQ)
  · obtain ⟨l, u, y, rfl, hl, ht, ha, hb⟩ := r
    refine wpAny_assign_Tuple ok.handled ht rfl rfl fun h' hx => ?_
    have k' : ∀ b o, s.heap.get? b = some o → h'.get? b = some o := fun b o e => hx b o (Nat.ne_of_lt (Heap.lt_size e)) e
    have R' := R.keeps k'
    have L' := L.keeps k'
    show wpAny _ A (do holding [y] (assign (.Name n p) env u); do holding [] (assign (.Name m q) env y); pure ()) _ _ _
    refine wpAny_bind (wpAny_holding (wpAny_assign_Name ?_))
    refine sto_sound (s := { s with heap := h' }) (v := .it (.at a)) h1 R' L' ha fun h₂ tk₂ e₂ R₂ L₂ => ?_
    refine wpAny_bind (wpAny_holding (wpAny_assign_Name ?_))
    refine sto_sound (s := { s with heap := h₂, toks := tk₂ }) (v := .it (.at b)) h2 R₂ L₂ hb fun h₃ tk₃ e₃ R₃ L₃ => wpAny_pure ?_
    refine hQ h₃ tk₃ ?_ R₃ L₃
    have e₀ : Ext noF ρ ρ s.heap h' := Ext.of_keeps k'
    exact Ext.frame L e₀ (e₂.trans e₃)

/-- a step of the iterator -/
theorem Iter.kept {it : Value} {J fp : List Addr} {g : Src} {St : List It → Rho → AS → Heap → Prop} {Mid : Value → List It → Rho → AS → Heap → Prop} (I : Iter X A it J fp g St Mid) {h' : Heap} (R : X.SR ρ σ s.heap) (L : ERel X.hb ρ sc loc env s.heap) (hJ : ∀ b ∈ J, b ∉ ρ.own.flatten) (nJ : NoSeq (· ∈ J) ρ s.heap) (hd : ∀ b, FP env b → b ∉ fp)
    (k : ∀ b o, b ∉ J → s.heap.get? b = some o → h'.get? b = some o) (lp : ∀ b ∈ J, b ∈ ρ.priv → ∃ o, h'.get? b = some o) : X.SR ρ σ h' ∧ Ext (· ∈ J) ρ ρ s.heap h' ∧ ERel X.hb ρ sc loc env h' := by
  obtain ⟨R', x⟩ := R.frame' (F := (· ∈ J)) k nJ (fun b hb => ⟨hJ b hb, I.freshJ b hb⟩) fun b hp hj => lp b hj hp
  exact ⟨R', x, L.ext' x nJ fun b f hb => hd b f (I.sub b hb)⟩

theorem f_nil {t : Expr} {g : Src} {b : List Stmt} : X.VFor d sc loc t g [] b σ .next loc σ := by
  intro A env it J fp St Mid ρ s R ok S L I st hd kq
  refine forLoop_step (I.done ρ σ s _ _ st S fun h' tk k lp => ?_)
  have ap := I.apart st
  obtain ⟨S', x, L'⟩ := Iter.kept I S L (fun b hb => (ap b (I.sub b hb)).1) (I.noSeq st) hd k lp
  refine kq ρ h' tk _ (x.mono (fun b hb => ?_) fun b hb => .inr hb) S' L' rfl
  rcases hb with f | hb
  · exact ERel.live L b f
  · exact (ap b (I.sub b hb)).2

/-- what a turn starts with: an item is drawn and bound -/
theorem turn_head {it : Value} {J fp : List Addr} {g : Src} {St : List It → Rho → AS → Heap → Prop} {Mid : Value → List It → Rho → AS → Heap → Prop} (I : Iter X A it J fp g St Mid) {x : It} {xs : List It} {t : Expr} {Q : Unit → Shared → Prop} {E : Value → Shared → Prop} {Qn : Option Value → Shared → Prop}
    (ok : Ok d A) (S : X.SR ρ σ s.heap) (L : ERel X.hb ρ sc loc env s.heap) (st : St (x :: xs) ρ σ s.heap) (hd : ∀ b, FP env b → b ∉ fp) (hsh : g.short = true → isTup t = true) (hu : unpackT sc t x loc = some loc') (hg : okSrc σ g = true)
    (hn : ∀ v s₁, X.wp A (letOwnedTupleGo t it v) (fun _ s₂ => X.wp A (assign t env v) Q E s₂) E s₁ → Qn (some v) s₁)
    (hQ : ∀ h' tk, Ext (fun b => FP env b ∨ b ∈ J) ρ ρ s.heap h' → X.SR ρ σ h' → ERel X.hb ρ sc loc' env h' → St xs ρ σ h' → Q () { s with heap := h', toks := tk }) : X.wp A (pyNext it) Qn E s := by
  have ap := I.apart st
  have liv : ∀ b, (FP env b ∨ b ∈ J) → ∃ o, s.heap.get? b = some o := fun b hb => hb.elim (fun f => ERel.live L b f) fun j => (ap b (I.sub b j)).2
  refine I.item x xs ρ σ s _ _ st S fun v h₁ tk₁ r₁ m₁ k₁ lp₁ => hn v _ ?_
  obtain ⟨S₁, x₁, L₁⟩ := Iter.kept I S L (fun b hb => (ap b (I.sub b hb)).1) (I.noSeq st) hd k₁ lp₁
  have ap₁ := I.apart' m₁
  have liv₁ : ∀ b, (FP env b ∨ b ∈ J) → ∃ o, h₁.get? b = some o := fun b hb => hb.elim (fun f => ERel.live (s := { s with heap := h₁ }) L₁ b f) fun j => (ap₁ b (I.sub b j)).2
  have n₁ : NoSeq (· ∈ J) ρ h₁ := I.noSeq' m₁
  refine I.go t v xs ρ σ { s with heap := h₁, toks := tk₁ } _ _ hsh m₁ fun h₂ st₂ k₂ lp₂ => ?_
  obtain ⟨S₂, x₂, L₂⟩ := Iter.kept (s := { s with heap := h₁, toks := tk₁ }) I S₁ L₁ (fun b hb => (ap₁ b (I.sub b hb)).1) n₁ hd k₂ lp₂
  have r₂ := r₁.ext x₂ n₁
  have ap₂ := I.apart st₂
  have liv₂ : ∀ b, (FP env b ∨ b ∈ J) → ∃ o, h₂.get? b = some o := fun b hb => hb.elim (fun f => ERel.live (s := { s with heap := h₂ }) L₂ b f) fun j => (ap₂ b (I.sub b j)).2
  refine unpack_sound (s := { s with heap := h₂, toks := tk₁ }) ok hu S₂ L₂ r₂ fun h₃ tk₃ x₃ S₃ L₃ => ?_
  refine hQ h₃ tk₃ (((x₁.mono liv fun b hb => .inr hb).trans (x₂.mono liv₁ fun b hb => .inr hb)).trans (x₃.mono liv₂ fun b hb => .inl hb)) S₃ L₃ ?_
  exact I.frame st₂ x₃ (ERel.noSeq L₂) S₃ (fun b hb f => hd b f hb) hg

theorem f_cons {t : Expr} {g : Src} {b : List Stmt} {x : It} {xs : List It} {f f₁ : Flw} (hsh : g.short = true → isTup t = true) (hg : okSrc σ g = true) (hu : unpackT sc t x loc = some loc₁)
    (h1 : X.VExecs d sc loc₁ b σ f₁ loc' σ₁) (hg₁ : (∀ v, f₁ ≠ .ret v) → okSrc σ₁ g = true) {loc₂ : Loc} (h2 : (∀ v, f₁ ≠ .ret v) → X.VFor d sc loc' t g xs b σ₁ f loc₂ σ₂) (h3 : ∀ v, f₁ = .ret v → f = .ret v ∧ loc₂ = loc' ∧ σ₂ = σ₁) :
    X.VFor d sc loc t g (x :: xs) b σ f loc₂ σ₂ := by
  intro A env it J fp St Mid ρ s R ok S L I st hd kq
  refine forLoop_step (turn_head I ok S L st hd hsh hu hg (fun _ _ h => h) fun h₁ tk₁ x₁ S₁ L₁ st₁ => ?_)
  refine h1 A env ρ { s with heap := h₁, toks := tk₁ } _ _ ok S₁ L₁ fun ρ₂ h₂ tk₂ fl x₂ S₂ L₂ r₂ => ?_
  have ap₁ := I.apart st₁
  have liv₁ : ∀ b, (FP env b ∨ b ∈ J) → ∃ o, h₁.get? b = some o := fun b hb => hb.elim (fun f => ERel.live (s := { s with heap := h₁ }) L₁ b f) fun j => (ap₁ b (I.sub b j)).2
  have x₁₂ := x₁.trans (x₂.mono liv₁ fun b hb => .inl hb)
  have cont : (∀ v, f₁ ≠ .ret v) → codeAny (model X.prog X.w) A (.forLoop t it b [] env) R { s with heap := h₂, toks := tk₂ } := fun hf => by
    have st₂ := I.frame st₁ x₂ (ERel.noSeq L₁) S₂ (fun b hb f => hd b f hb) (hg₁ hf)
    refine h2 hf A env it J fp St Mid ρ₂ { s with heap := h₂, toks := tk₂ } R ok S₂ L₂ I st₂ hd fun ρ₃ h₃ tk₃ fl' x₃ S₃ L₃ r₃ => ?_
    exact kq ρ₃ h₃ tk₃ fl' (x₁₂.trans x₃) S₃ L₃ r₃
  cases f₁ with
  | next => cases r₂; exact cont fun v e => by cases e
  | cont => cases r₂; exact cont fun v e => by cases e
  | ret v =>
    obtain ⟨u, rfl, r₂⟩ := r₂
    obtain ⟨rfl, rfl, rfl⟩ := h3 v rfl
    exact kq ρ₂ h₂ tk₂ _ x₁₂ S₂ L₂ ⟨u, rfl, r₂⟩

theorem x_For {t e : Expr} {b : List Stmt} {pos : Pos} {xs : List It} {g : Src} {f : Flw} (h1 : X.VIter d sc loc e σ xs g σ₁) (h2 : X.VFor d sc loc t g xs b σ₁ f loc' σ₂) : X.VExec d sc loc (.For t e b [] pos) σ f loc' σ₂ := by
  intro A env ρ s Q E ok R L kq
  refine wpAny_For (h1.2 A env ρ s _ _ ok R L fun ρ₁ s₁ k₁ it J fp St Mid x₁ R₁ I st hJ hd _ => ?_) (h1.1 env)
  refine h2 A env it J fp St Mid ρ₁ { s with heap := s₁, toks := k₁ } _ ok R₁ (L.ext x₁) I st hd fun ρ₂ s₂ k₂ fl x₂ R₂ L₂ r₂ => ?_
  exact kq ρ₂ s₂ k₂ fl (x₁.then x₂ (ERel.live L) fun b hb => hb.elim .inl fun j => .inr (hJ b j)) R₂ L₂ r₂

theorem w_out {t : Expr} {b : List Stmt} (h1 : X.VCond d sc loc t σ false σ₁) : X.VWhile d sc loc t b σ .next loc σ₁ := by
  intro A env ρ s R ok S L kq
  refine whileLoop_step (VCond.then h1 ok S L fun ρ₁ s₁ k₁ x₁ R₁ L₁ => ?_)
  exact kq ρ₁ s₁ k₁ _ (Ext.up L x₁) R₁ L₁ rfl
theorem w_turn {t : Expr} {b : List Stmt} {f f₁ : Flw} (h1 : X.VCond d sc loc t σ true σ₁) (h2 : X.VExecs d sc loc b σ₁ f₁ loc₁ σ₂) (h3 : (∀ v, f₁ ≠ .ret v) → X.VWhile d sc loc₁ t b σ₂ f loc' σ₃) (h4 : ∀ v, f₁ = .ret v → f = .ret v ∧ loc' = loc₁ ∧ σ₃ = σ₂) : X.VWhile d sc loc t b σ f loc' σ₃ := by
  intro A env ρ s R ok S L kq
  refine whileLoop_step (VCond.then h1 ok S L fun ρ₁ s₁ k₁ x₁ R₁ L₁ => ?_)
  simp only [if_true]
  refine h2 A env ρ₁ { s with heap := s₁, toks := k₁ } _ _ ok R₁ L₁ fun ρ₂ s₂ k₂ fl x₂ R₂ L₂ r₂ => ?_
  have cont : (∀ v, f₁ ≠ .ret v) → codeAny (model X.prog X.w) A (.whileLoop t b [] env) R { s with heap := s₂, toks := k₂ } := fun hf =>
    h3 hf A env ρ₂ { s with heap := s₂, toks := k₂ } R ok R₂ L₂ fun ρ₃ s₃ k₃ fl' x₃ R₃ L₃ r₃ => kq ρ₃ s₃ k₃ fl' ((Ext.frame L x₁ x₂).trans x₃) R₃ L₃ r₃
  cases f₁ with
  | next => cases r₂; exact cont fun v e => by cases e
  | cont => cases r₂; exact cont fun v e => by cases e
  | ret v =>
    obtain ⟨u, rfl, r₂⟩ := r₂
    obtain ⟨rfl, rfl, rfl⟩ := h4 v rfl
    exact kq ρ₂ s₂ k₂ _ (Ext.frame L x₁ x₂) R₂ L₂ ⟨u, rfl, r₂⟩
theorem x_While {t : Expr} {b : List Stmt} {pos : Pos} {f : Flw} (h1 : X.VWhile d sc loc t b σ f loc' σ₁) : X.VExec d sc loc (.While t b [] pos) σ f loc' σ₁ := by
  intro A env ρ s Q E ok R L kq
  exact wpAny_While (h1 A env ρ s _ ok R L fun ρ₁ s₁ k₁ fl x₁ R₁ L₁ r₁ => kq ρ₁ s₁ k₁ fl x₁ R₁ L₁ r₁)
end
end Mine
end

-- part M10
section
namespace Mine
open PySem PySem.W PyProof.Rows PySem.Calls PySem.Spec
section
variable {prog : Program} {w : World} {A : Around} {E : Value → Shared → Prop} {R : Result → Shared → Prop} {s : Shared}
variable {elt target iter target' iter' : Expr} {ifs ifs' : List Expr} {gens : List Comprehension} {scope : Scope} {pos : Pos} {depth : Nat} {it acc : Value} {env : Env}
theorem compTurn_last (elt target iter : Expr) (ifs : List Expr) (gens : List Comprehension) (scope : Scope) (pos : Pos) (depth : Nat) (it acc : Value) (env : Env) (hg : gens[depth]? = some ⟨target, iter, ifs, 0⟩) (hn : gens[depth + 1]? = none) :
    compTurn (.ListComp elt gens scope pos) depth it acc env = (do
      standAt iter.pos
      match ← pyNext it with
      | none => pure (.done .next)
      | some v =>
        letOwnedTupleGo target it v
        assign target env v
        let mut ok := true
        for c in ifs do
          if ok then ok ← isTrue c env (eval c env)
        if ok then
          (do let _ ← call (.builtin "list.append") [acc, ← eval elt env])
        again (.compLoop (.ListComp elt gens scope pos) depth it acc env)) := by
  unfold compTurn
  dsimp only
  rw [hg]
  dsimp only
  rw [hn]
  rfl
theorem compTurn_more (elt target iter target' iter' : Expr) (ifs ifs' : List Expr) (gens : List Comprehension) (scope : Scope) (pos : Pos) (depth : Nat) (it acc : Value) (env : Env) (hg : gens[depth]? = some ⟨target, iter, ifs, 0⟩) (hn : gens[depth + 1]? = some ⟨target', iter', ifs', 0⟩) :
    compTurn (.ListComp elt gens scope pos) depth it acc env = (do
      standAt iter.pos
      match ← pyNext it with
      | none => pure (.done .next)
      | some v =>
        letOwnedTupleGo target it v
        assign target env v
        let mut ok := true
        for c in ifs do
          if ok then ok ← isTrue c env (eval c env)
        if ok then
          let x ← eval iter' env
          standAt iter'.pos
          let x ← foldedSetIterable iter' env x
          let _ ← runOwn (.compStart (.ListComp elt gens scope pos) (depth + 1) (← holding [x] (pyIter x)) acc env) env
        again (.compLoop (.ListComp elt gens scope pos) depth it acc env)) := by
  unfold compTurn
  dsimp only
  rw [hg]
  dsimp only
  rw [hn]
  rfl
theorem compStart_gen (hg : gens[depth]? = some ⟨target, iter, ifs, 0⟩)
    (h0 : codeAny (model prog w) A (.compLoop (.ListComp elt gens scope pos) depth it acc env) R s)
    (h : wpAny (model prog w) A (pyIter it) (fun it' s' => codeAny (model prog w) A (.compLoop (.ListComp elt gens scope pos) depth it' acc env) R s')
      (NB prog w A env R) s) :
    codeAny (model prog w) A (.compStart (.ListComp elt gens scope pos) depth it acc env) R s := by
  refine codeAny_of_tree ?_
  show wpAny _ _ ((compStart (.ListComp elt gens scope pos) depth it acc env).onRaise (fun x => do noteFrame x env; standAt theWindowsPlace)) _ _ s
  refine wpAny_notedAt ?_
  unfold compStart
  have e : (clausesOf (.ListComp elt gens scope pos))[depth]? = some ⟨target, iter, ifs, 0⟩ := hg
  rw [e]
  show wpAny _ _ (ask >>= _) _ _ s
  refine wpAny_bind (wpAny_askSetting (wpAny_ite ?_))
  split
  · first
      | exact wpAny_bind (wpAny_pure (wpAny_pure (And.intro rfl h0)))
      | exact wpAny_pure (And.intro rfl h0)
  · first
      | exact wpAny_bind (wpAny_rule (wpAny_bind (wpAny_standAt (wpAny_bind (wpAny_mono h (fun it' s' h' => wpAny_pure (And.intro rfl h')) fun _ _ x => x)))))
      | (refine wpAny_bind (wpAny_rule ?_); show wpAny _ _ (standAt iter.pos >>= _) _ _ s; exact wpAny_bind (wpAny_standAt (wpAny_bind (wpAny_mono h (fun it' s' h' => wpAny_pure (And.intro rfl h')) fun _ _ x => x))))

noncomputable abbrev testsOf (ifs : List Expr) (env : Env) : Sem Bool := forIn ifs true fun c r => if r = true then do let ok ← isTrue c env (eval c env); pure (ForInStep.yield ok) else pure (ForInStep.yield r)
theorem compLoop_last (hg : gens[depth]? = some ⟨target, iter, ifs, 0⟩) (hn : gens[depth + 1]? = none)
    (h : wpAny (model prog w) A (pyNext it) (fun r s₁ => match r with
      | none => R (.ok .next) s₁
      | some v => wpAny (model prog w) A (letOwnedTupleGo target it v) (fun _ s₂ => wpAny (model prog w) A (assign target env v) (fun _ s₃ =>
          wpAny (model prog w) A (testsOf ifs env) (fun ok s₄ =>
            if ok = true then wpAny (model prog w) A (eval elt env) (fun x s₅ =>
              wpAny (model prog w) A (call (.builtin "list.append") [acc, x]) (fun _ s₆ => codeAny (model prog w) A (.compLoop (.ListComp elt gens scope pos) depth it acc env) R s₆) (NB prog w A env R) s₅) (NB prog w A env R) s₄
            else codeAny (model prog w) A (.compLoop (.ListComp elt gens scope pos) depth it acc env) R s₄) (NB prog w A env R) s₃) (NB prog w A env R) s₂) (NB prog w A env R) s₁) (NB prog w A env R) s) :
    codeAny (model prog w) A (.compLoop (.ListComp elt gens scope pos) depth it acc env) R s := by
  refine codeAny_loop' rfl (fun _ s' => s' = s) (fun n s' hI => ?_) 0 rfl
  subst hI
  show wpAny _ A ((compTurn (.ListComp elt gens scope pos) depth it acc env).onRaise (fun x => do noteFrame x env; theTreesLotGoes x)) _ _ _
  refine wpAny_noted ?_
  rw [compTurn_last elt target iter ifs gens scope pos depth it acc env hg hn]
  refine wpAny_bind (wpAny_standAt (wpAny_bind (wpAny_mono h (fun r s₁ h₁ => ?_) fun _ _ h' => h')))
  cases r with
  | none => exact wpAny_pure h₁
  | some v =>
    refine wpAny_bind (wpAny_mono h₁ (fun _ s₂ h₂ => ?_) fun _ _ h' => h')
    refine wpAny_bind (wpAny_mono h₂ (fun _ s₂ h₂ => wpAny_bind (wpAny_mono h₂ (fun ok s₃ h₃ => ?_) fun _ _ h' => h')) fun _ _ h' => h')
    cases ok with
    | false => exact wpAny_pure (.inr ⟨rfl, h₃⟩)
    | true =>
      exact wpAny_bind (wpAny_bind (wpAny_mono h₃ (fun x s₄ h₄ => wpAny_bind (wpAny_mono h₄ (fun _ s₅ h₅ => wpAny_pure (wpAny_pure (.inr ⟨rfl, h₅⟩))) fun _ _ h' => h')) fun _ _ h' => h'))

theorem compLoop_more (hg : gens[depth]? = some ⟨target, iter, ifs, 0⟩) (hn : gens[depth + 1]? = some ⟨target', iter', ifs', 0⟩) (hs : ∀ x, foldedSetIterable iter' env x = pure x)
    (h : wpAny (model prog w) A (pyNext it) (fun r s₁ => match r with
      | none => R (.ok .next) s₁
      | some v => wpAny (model prog w) A (letOwnedTupleGo target it v) (fun _ s₂ => wpAny (model prog w) A (assign target env v) (fun _ s₃ =>
          wpAny (model prog w) A (testsOf ifs env) (fun ok s₄ =>
            if ok = true then wpAny (model prog w) A (eval iter' env) (fun x s₅ =>
              wpAny (model prog w) A (pyIter x) (fun it' s₆ => codeAny (model prog w) A (.compStart (.ListComp elt gens scope pos) (depth + 1) it' acc env) (fun r s₇ => match r with
                | .ok _ => codeAny (model prog w) A (.compLoop (.ListComp elt gens scope pos) depth it acc env) R s₇
                | .error e => cameBackBy (model prog w) A env (NB prog w A env R) e s₇) s₆) (NB prog w A env R) s₅) (NB prog w A env R) s₄
            else codeAny (model prog w) A (.compLoop (.ListComp elt gens scope pos) depth it acc env) R s₄) (NB prog w A env R) s₃) (NB prog w A env R) s₂) (NB prog w A env R) s₁) (NB prog w A env R) s) :
    codeAny (model prog w) A (.compLoop (.ListComp elt gens scope pos) depth it acc env) R s := by
  refine codeAny_loop' rfl (fun _ s' => s' = s) (fun n s' hI => ?_) 0 rfl
  subst hI
  show wpAny _ A ((compTurn (.ListComp elt gens scope pos) depth it acc env).onRaise (fun x => do noteFrame x env; theTreesLotGoes x)) _ _ _
  refine wpAny_noted ?_
  rw [compTurn_more elt target iter target' iter' ifs ifs' gens scope pos depth it acc env hg hn]
  refine wpAny_bind (wpAny_standAt (wpAny_bind (wpAny_mono h (fun r s₁ h₁ => ?_) fun _ _ h' => h')))
  cases r with
  | none => exact wpAny_pure h₁
  | some v =>
    refine wpAny_bind (wpAny_mono h₁ (fun _ s₂ h₂ => ?_) fun _ _ h' => h')
    refine wpAny_bind (wpAny_mono h₂ (fun _ s₂ h₂ => wpAny_bind (wpAny_mono h₂ (fun ok s₃ h₃ => ?_) fun _ _ h' => h')) fun _ _ h' => h')
    cases ok with
    | false => exact wpAny_pure (.inr ⟨rfl, h₃⟩)
    | true =>
      refine wpAny_bind (wpAny_mono h₃ (fun x s₄ h₄ => wpAny_bind (wpAny_standAt (wpAny_bind (wpAny_of_eq (hs x) ?_)))) fun _ _ h' => h')
      refine wpAny_bind (wpAny_holding (wpAny_mono h₄ (fun it' s₅ h₅ => ?_) fun _ _ h' => h'))
      refine wpAny_bind (wpAny_runOwn (codeAny_mono h₅ fun r s₆ h₆ => ?_))
      cases r with
      | ok f => exact wpAny_pure (.inr ⟨rfl, h₆⟩)
      | error e => exact h₆
end
end Mine
end

-- part M11
section
namespace Mine
open PySem PySem.W PyProof.Rows PySem.Calls PySem.Spec

section
variable {Z : Shapes} {w : World} {hb : Heap} {ρ ρ' : Rho} {σ : AS} {h h' : Heap}
/-- a private object turned -/
theorem SRel.privTurn (R : SRel Z w hb ρ σ h) {D : Addr} (hD : D ∈ ρ.priv) (hs : Heap.SameBut D h h') (live : ∃ o, h'.get? D = some o) : SRel Z w hb ρ σ h' ∧ Ext (· = D) ρ ρ h h' := by
  have hm : D ∈ ρ.flatten := List.mem_append_right _ hD
  have nown : D ∉ ρ.own.flatten := fun q => (List.nodup_append.mp R.nd).2.2 D q D hD rfl
  have x : Ext (· = D) ρ ρ h h' := ⟨⟨[], [], by simp, rfl, by simp⟩, fun b o _ q e => (hs.2 b q).trans e, fun b o q e => ⟨o, (hs.2 b q).trans e⟩⟩
  have nf : NoSeq (· = D) ρ h := fun b o q n => absurd hm (q ▸ n)
  refine ⟨⟨fun b o e => ?_, R.len, fun j fp' o' e1 e2 => ?_, R.nd, R.fresh, fun a ha => ?_⟩, x⟩
  · exact (hs.2 b (fun q => by have := R.fresh D hm; rw [← q] at this; rw [this] at e; cases e)).trans (R.base b o e)
  · refine (R.objs j fp' o' e1 e2).ext x nf fun a ha o e => (hs.2 a (fun q => nown (q ▸ ?_))).trans e
    exact List.mem_flatten.mpr ⟨fp', List.mem_of_getElem? e1, ha⟩
  · obtain ⟨o, e⟩ := R.there a ha
    by_cases q : a = D
    · exact q ▸ live
    · exact x.there a o q e

theorem ItsRel.snoc {T : List Addr} {h : Heap} {xs : List It} {vs : List Value} (r : ItsRel T h xs vs) {x : It} {v : Value} (q : ItRel T h x v) : ItsRel T h (xs ++ [x]) (vs ++ [v]) := by
  induction r with
  | nil => exact .cons q .nil
  | cons a _ ih => exact .cons a ih
end

theorem ERel.less {hb : Heap} {ρ : Rho} {sc : Scope} {loc loc' : Loc} {env : Env} {h : Heap} (L : ERel hb ρ sc loc' env h) (hl : ∀ y v, loc.lookup y = some v → loc'.lookup y = some v) : ERel hb ρ sc loc env h := by
  refine ⟨L.esc, L.kind, L.gl, L.bi, ?_, fun y k => ?_, fun y v e => L.kinds y v (hl y v e), L.inj, L.fpL, L.fpC⟩
  · obtain ⟨m, hn, hv⟩ := L.ns
    exact ⟨m, hn, fun y v e k => hv y v (hl y v e) k⟩
  · obtain ⟨c, u, h1, h2, h3⟩ := L.cells y k
    exact ⟨c, u, h1, h2, fun v e => h3 v (hl y v e)⟩

theorem sto_keeps {sc : Scope} {loc loc' : Loc} {x : Str} {v : V} (h : sto sc loc x v = some loc') (hf : (loc.lookup x).isNone = true) : ∀ y u, loc.lookup y = some u → loc'.lookup y = some u := by
  unfold sto at h
  split at h
  · cases h
    intro y u e
    rw [put_lookup, if_neg (by rintro rfl; rw [e] at hf; cases hf)]
    exact e
  · cases h
theorem unpack_keeps {sc : Scope} {loc loc' : Loc} {t : Expr} {x : It} (h : unpackT sc t x loc = some loc') (hf : tFresh loc t = true) : ∀ y u, loc.lookup y = some u → loc'.lookup y = some u := by
  refine onTN_ (fun t => tFresh loc t = true → ∀ y u, loc.lookup y = some u → loc'.lookup y = some u) h (fun n p h hf => ?_) (fun n p m q k pos h hf => prI_ (fun _ => True) h trivial fun a b _ h => ob_ h fun loc₁ h1 h2 => ?_) nex hf
  · exact sto_keeps h hf
  · obtain ⟨f12, f3⟩ := Bool.and_eq_true_iff.mp hf
    obtain ⟨f1, f2⟩ := Bool.and_eq_true_iff.mp f12
    intro y u e
    refine sto_keeps h2 ?_ y u (sto_keeps h1 f1 y u e)
    unfold sto at h1
    split at h1
    · cases h1
      rw [put_lookup, if_neg (Ne.symm (bne_iff_ne.mp f3))]
      exact f2
    · cases h1

section
variable {X : Cx} {d : Nat} {A : Around} {env : Env} {ρ : Rho} {s : Shared} {sc : Scope} {loc loc' loc₁ : Loc} {σ σ' σ₁ σ₂ σ₃ : AS}
/-- a local name is bound: nothing but the frame's names turns -/
theorem sto_local {x : Str} {v : V} {u : Value} {Q : Unit → Shared → Prop} {E : Value → Shared → Prop} (hk : sc.names.lookup x = some .local) (h : sto sc loc x v = some loc') (R : X.SR ρ σ s.heap) (L : ERel X.hb ρ sc loc env s.heap) (r : VRel ρ s.heap v u)
    (hQ : ∀ h' tk, Ext (· = env.locals) ρ ρ s.heap h' → X.SR ρ σ h' → ERel X.hb ρ sc loc' env h' → Q () { s with heap := h', toks := tk }) : X.wp A (storeName env x u) Q E s := by
  have hl' : loc' = put loc x v := by
    unfold sto at h
    split at h
    · cases h; rfl
    · cases h
  subst hl'
  have hkf : env.scope.kind = .function := by rw [L.esc]; exact L.kind
  have hkx : env.kindOf x = sc.names.lookup x := by unfold Env.kindOf; rw [L.esc]
  obtain ⟨m, hn, hv⟩ := L.ns
  have nF : NoSeq (· = env.locals) ρ s.heap := fun b o e n ho => ERel.noSeq L b o (.inl e) n ho
  refine wpAny_storeName_local (hkx.trans hk) hn (fun h' hn' hs => ?_) (by rw [hkf]; rfl)
  have k : ∀ b o, ¬ b = env.locals → s.heap.get? b = some o → h'.get? b = some o := fun b o hb e => (hs.2 b hb).trans e
  obtain ⟨R', x'⟩ := R.frame k nF fun b e => ERel.fp L b (.inl e)
  refine hQ h' _ x' R' ?_
  refine ⟨L.esc, L.kind, L.gl, L.bi, ⟨_, hn', fun y v' e hy => ?_⟩, fun y hy => ?_, fun y v' e => ?_, L.inj, L.fpL, fun y c e => ?_⟩
  · rw [put_lookup] at e
    by_cases hyx : y = x
    · subst hyx
      rw [if_pos rfl] at e; cases e
      exact ⟨u, by simp, r.ext x' nF⟩
    · rw [if_neg hyx] at e
      obtain ⟨u', h1, h2⟩ := hv y v' e hy
      exact ⟨u', by simp [hyx, h1], h2.ext x' nF⟩
  · obtain ⟨c, u', h1, ⟨oc, hoc, hdc⟩, h3⟩ := L.cells y hy
    have hcL : c ≠ env.locals := (L.fpC y c h1).2.2.1
    refine ⟨c, u', h1, ⟨oc, (hs.2 c hcL).trans hoc, hdc⟩, fun v' e => ?_⟩
    have hyx : y ≠ x := by rintro rfl; exact hy.notLocal hk
    rw [put_lookup, if_neg hyx] at e
    obtain ⟨u'', h4, h5⟩ := h3 v' e
    exact ⟨u'', h4, h5.ext x' nF⟩
  · rw [put_lookup] at e
    by_cases hyx : y = x
    · subst hyx; exact .inl hk
    · rw [if_neg hyx] at e; exact L.kinds y v' e
  · obtain ⟨h1, h2, h3, u', oc, hoc, hdc⟩ := L.fpC y c e
    exact ⟨h1, h2, h3, u', oc, (hs.2 c h3).trans hoc, hdc⟩

theorem liveL (L : ERel X.hb ρ sc loc env s.heap) : ∀ b, b = env.locals → ∃ o, s.heap.get? b = some o := fun b e => ERel.live L b (.inl e)

theorem unpack_local {t : Expr} {x : It} {v : Value} {Q : Unit → Shared → Prop} {E : Value → Shared → Prop} (ok : Ok d A) (ht : tLocal sc t = true) (h : unpackT sc t x loc = some loc') (R : X.SR ρ σ s.heap) (L : ERel X.hb ρ sc loc env s.heap) (r : ItRel ρ.flatten s.heap x v)
    (hQ : ∀ h' tk, Ext (· = env.locals) ρ ρ s.heap h' → X.SR ρ σ h' → ERel X.hb ρ sc loc' env h' → Q () { s with heap := h', toks := tk }) : X.wp A (assign t env v) Q E s := by
  refine onTN_ (fun t => tLocal sc t = true → X.wp A (assign t env v) Q E s) h (fun n p h ht => ?_) (fun n p m q k pos h ht => prI_ (fun x => ItRel ρ.flatten s.heap x v) h r fun a b r h => ob_ h fun loc₁ h1 h2 => ?_) nex ht
  · exact wpAny_assign_Name (sto_local (beq_iff_eq.mp ht) h R L (show VRel ρ s.heap (.it _) v from r) hQ)
  · obtain ⟨t1, t2⟩ := Bool.and_eq_true_iff.mp ht
    obtain ⟨l, u, y, rfl, hl, ht, ha, hb⟩ := r
    refine wpAny_assign_Tuple ok.handled ht rfl rfl fun h' hx => ?_
    have k' : ∀ b o, s.heap.get? b = some o → h'.get? b = some o := fun b o e => hx b o (Nat.ne_of_lt (Heap.lt_size e)) e
    have R' := R.keeps k'
    have L' := L.keeps k'
    show wpAny _ A (do holding [y] (assign (.Name n p) env u); do holding [] (assign (.Name m q) env y); pure ()) _ _ _
    refine wpAny_bind (wpAny_holding (wpAny_assign_Name ?_))
    refine sto_local (s := { s with heap := h' }) (v := .it (.at a)) (beq_iff_eq.mp t1) h1 R' L' ha fun h₂ tk₂ e₂ R₂ L₂ => ?_
    refine wpAny_bind (wpAny_holding (wpAny_assign_Name ?_))
    refine sto_local (s := { s with heap := h₂, toks := tk₂ }) (v := .it (.at b)) (beq_iff_eq.mp t2) h2 R₂ L₂ hb fun h₃ tk₃ e₃ R₃ L₃ => wpAny_pure ?_
    refine hQ h₃ tk₃ ?_ R₃ L₃
    have e₀ : Ext noF ρ ρ s.heap h' := Ext.of_keeps k'
    exact e₀.then (e₂.trans e₃) (liveL L) fun _ g => .inl g

noncomputable abbrev FC (env : Env) (J : List Addr) : Addr → Prop := fun b => b = env.locals ∨ b ∈ J

/-- what a turn of a comprehension starts with -/
theorem comp_head {it : Value} {J fp : List Addr} {g : Src} {St : List It → Rho → AS → Heap → Prop} {Mid : Value → List It → Rho → AS → Heap → Prop} (I : Iter X A it J fp g St Mid) {x : It} {xs : List It} {t : Expr} {Q : Unit → Shared → Prop} {E : Value → Shared → Prop} {Qn : Option Value → Shared → Prop}
    (ok : Ok d A) (S : X.SR ρ σ s.heap) (L : ERel X.hb ρ sc loc env s.heap) (st : St (x :: xs) ρ σ s.heap) (hd : ∀ b, FP env b → b ∉ fp) (hsh : g.short = true → isTup t = true) (ht : tLocal sc t = true) (hu : unpackT sc t x loc = some loc') (hg : okSrc σ g = true)
    (hn : ∀ v s₁, X.wp A (letOwnedTupleGo t it v) (fun _ s₂ => X.wp A (assign t env v) Q E s₂) E s₁ → Qn (some v) s₁)
    (hQ : ∀ h' tk, Ext (FC env J) ρ ρ s.heap h' → X.SR ρ σ h' → ERel X.hb ρ sc loc' env h' → St xs ρ σ h' → Q () { s with heap := h', toks := tk }) : X.wp A (pyNext it) Qn E s := by
  have ap := I.apart st
  have liv : ∀ b, FC env J b → ∃ o, s.heap.get? b = some o := fun b hb => hb.elim (fun f => liveL L b f) fun j => (ap b (I.sub b j)).2
  refine I.item x xs ρ σ s _ _ st S fun v h₁ tk₁ r₁ m₁ k₁ lp₁ => hn v _ ?_
  obtain ⟨S₁, x₁, L₁⟩ := Iter.kept I S L (fun b hb => (ap b (I.sub b hb)).1) (I.noSeq st) hd k₁ lp₁
  have ap₁ := I.apart' m₁
  have liv₁ : ∀ b, FC env J b → ∃ o, h₁.get? b = some o := fun b hb => hb.elim (fun f => liveL (s := { s with heap := h₁ }) L₁ b f) fun j => (ap₁ b (I.sub b j)).2
  have n₁ : NoSeq (· ∈ J) ρ h₁ := I.noSeq' m₁
  refine I.go t v xs ρ σ { s with heap := h₁, toks := tk₁ } _ _ hsh m₁ fun h₂ st₂ k₂ lp₂ => ?_
  obtain ⟨S₂, x₂, L₂⟩ := Iter.kept (s := { s with heap := h₁, toks := tk₁ }) I S₁ L₁ (fun b hb => (ap₁ b (I.sub b hb)).1) n₁ hd k₂ lp₂
  have r₂ := r₁.ext x₂ n₁
  have ap₂ := I.apart st₂
  have liv₂ : ∀ b, FC env J b → ∃ o, h₂.get? b = some o := fun b hb => hb.elim (fun f => liveL (s := { s with heap := h₂ }) L₂ b f) fun j => (ap₂ b (I.sub b j)).2
  refine unpack_local (s := { s with heap := h₂, toks := tk₁ }) ok ht hu S₂ L₂ r₂ fun h₃ tk₃ x₃ S₃ L₃ => ?_
  refine hQ h₃ tk₃ (((x₁.mono liv fun b hb => .inr hb).trans (x₂.mono liv₁ fun b hb => .inr hb)).trans (x₃.mono liv₂ fun b hb => .inl hb)) S₃ L₃ ?_
  exact I.frame st₂ x₃ (fun b o e n ho => ERel.noSeq L₂ b o (.inl e) n ho) S₃ (fun b hb f => hd b (.inl f) hb) hg

theorem drop_get {α : Type} {l : List α} {n : Nat} {a : α} {r : List α} (h : l.drop n = a :: r) : l[n]? = some a ∧ l.drop (n + 1) = r := by
  constructor
  · have := congrArg (fun l => l[0]?) h
    simpa using this
  · rw [List.drop_add_one_eq_tail_drop, h]; rfl

theorem cp_nil {elt : Expr} {g : Comprehension} {gs : List Comprehension} {src : Src} : X.VComp d sc loc elt g gs src [] σ [] σ := by
  intro A env it J fp St Mid ρ s R gens scp pos depth D xs vs ok S L I st hd hDf hg hga hg0 hD hl hn hx kq
  obtain ⟨tg, ir, ifs, asy⟩ := g
  cases hg0
  obtain ⟨hg1, hg2⟩ := drop_get hg
  have ap := I.apart st
  have dn : ∀ E', X.wp A (pyNext it) (fun r s₁ => r = none ∧ R (.ok .next) s₁) E' s := fun E' => by
    refine I.done ρ σ s _ _ st S fun h' tk k lp => ⟨rfl, ?_⟩
    obtain ⟨S', x, L'⟩ := Iter.kept I S L (fun b hb => (ap b (I.sub b hb)).1) (I.noSeq st) hd k lp
    have nJ : NoSeq (· ∈ J) ρ s.heap := I.noSeq st
    refine kq ρ h' tk vs (x.mono (fun b hb => ?_) fun b hb => .inl (.inr hb)) S' L' ?_ (by rw [List.append_nil]; exact hx.ext x nJ)
    · rcases hb with (f | hb) | hb
      · exact liveL L b f
      · exact (ap b (I.sub b hb)).2
      · exact S.there b (hb ▸ List.mem_append_right _ hD)
    · exact hl.at fun o ho => k D o (fun hj => hDf (I.sub D hj)) ho
  cases gs with
  | nil =>
    refine compLoop_last hg1 (by have := congrArg List.length hg2; simp at this; exact List.getElem?_eq_none (by omega)) (wp_mono (dn _) fun r s₁ h => ?_)
    obtain ⟨rfl, h⟩ := h
    exact h
  | cons g' gs' =>
    obtain ⟨tg', ir', ifs', asy'⟩ := g'
    have : asy' = 0 := by simp at hga; exact hga.1
    subst this
    obtain ⟨hg3, _⟩ := drop_get hg2
    refine codeAny_loop' rfl (fun _ s' => s' = s) (fun n s' hI => ?_) 0 rfl
    subst hI
    show wpAny _ A ((compTurn (.ListComp elt gens scp pos) depth it (.ref D) env).onRaise (fun x => do noteFrame x env; theTreesLotGoes x)) _ _ _
    refine wpAny_noted ?_
    rw [compTurn_more elt tg ir tg' ir' ifs ifs' gens scp pos depth it (.ref D) env hg1 hg3]
    refine wpAny_bind (wpAny_standAt (wpAny_bind (wp_mono (dn _) fun r s₁ h => ?_)))
    obtain ⟨rfl, h⟩ := h
    exact wpAny_pure h

/-- the tests of a generator -/
noncomputable def Cx.VTests (X : Cx) (d : Nat) (sc : Scope) (loc : Loc) (ifs : List Expr) (σ : AS) (b : Bool) (σ' : AS) : Prop :=
  (ifs = [] ∧ b = true ∧ σ' = σ) ∨ ∃ c, ifs = [c] ∧ X.VCond d sc loc c σ b σ'
theorem tests_sound {ifs : List Expr} {b : Bool} (h : X.VTests d sc loc ifs σ b σ') (ok : Ok d A) (R : X.SR ρ σ s.heap) (L : ERel X.hb ρ sc loc env s.heap) {Q : Bool → Shared → Prop} {E : Value → Shared → Prop} (hQ : X.KB ρ s Q σ' b) : X.wp A (testsOf ifs env) Q E s := by
  rcases h with ⟨rfl, rfl, rfl⟩ | ⟨c, rfl, h⟩
  · exact wpAny_tests_nil (hQ ρ s.heap s.toks (Ext.refl ..) R)
  · exact wpAny_tests_one (h A env ρ s Q E ok R L hQ)

theorem ext_priv {F : Addr → Prop} {ρ ρ' : Rho} {h h' : Heap} (x : Ext F ρ ρ' h h') {D : Addr} (hD : D ∈ ρ.priv) : D ∈ ρ'.priv := let ⟨_, _, _, p, _⟩ := x.more; p ▸ List.mem_append_right _ hD
theorem privOff {h : Heap} (S : X.SR ρ σ h) {D : Addr} (hD : D ∈ ρ.priv) : D ∉ ρ.own.flatten := fun q => (List.nodup_append.mp S.nd).2.2 D q D hD rfl
theorem ERel.D (L : ERel X.hb ρ sc loc env s.heap) {D : Addr} (hD : D ∈ ρ.priv) : ¬ FP env D := fun f => (ERel.fp L D f).1 (List.mem_append_right _ hD)

theorem cp_last {elt : Expr} {g : Comprehension} {src : Src} {x : It} {xs out here : List It} {b : Bool} {w : It} (hsh : src.short = true → isTup g.target = true) (ht : tLocal sc g.target = true) (hf : tFresh loc g.target = true) (hg : okSrc σ src = true) (hu : unpackT sc g.target x loc = some loc₁)
    (hT : X.VTests d sc loc₁ g.ifs σ b σ₁) (h1 : b = true → X.VEval d sc loc₁ elt σ₁ (.it w) σ₂ ∧ here = [w]) (h0 : b = false → here = [] ∧ σ₂ = σ₁) (hg2 : okSrc σ₂ src = true) (h2 : X.VComp d sc loc elt g [] src xs σ₂ out σ₃) :
    X.VComp d sc loc elt g [] src (x :: xs) σ (here ++ out) σ₃ := by
  intro A env it J fp St Mid ρ s R gens scp pos depth D ys vs ok S L I st hd hDf hgs hga hg0 hD hl hn hx kq
  obtain ⟨tg, ir, ifs, asy⟩ := g
  cases hg0
  obtain ⟨hg1, hg3⟩ := drop_get hgs
  have hg4 : gens[depth + 1]? = none := by have := congrArg List.length hg3; simp at this; exact List.getElem?_eq_none (by omega)
  refine compLoop_last hg1 hg4 (comp_head I ok S L st hd hsh ht hu hg (fun _ _ h => h) fun h₁ tk₁ x₁ S₁ L₁ st₁ => ?_)
  have ap₁ := I.apart st₁
  have nFC : NoSeq (FC env J) ρ s.heap := fun b o f n e => f.elim (fun f => ERel.noSeq L b o (.inl f) n e) fun j => I.noSeq st b o j n e
  have hD₁ : h₁.PlainList D vs.toArray := by
    refine hl.at fun o ho => x₁.kept D o (privOff S hD) (fun f => ?_) ho
    rcases f with f | j
    · exact ERel.D L hD (.inl f)
    · exact hDf (I.sub D j)
  have hx₁ := hx.ext x₁ nFC
  have liv : ∀ b, FC env J b ∨ b = D → ∃ o, s.heap.get? b = some o := fun b hb => by
    rcases hb with (f | j) | q
    · exact liveL L b f
    · exact (I.apart st b (I.sub b j)).2
    · exact S.there b (q ▸ List.mem_append_right _ hD)
  -- the rest, from a heap reached by what keeps all but the list that grows
  have rest : ∀ (ρ' : Rho) (h' : Heap) (tk : Nat) (vs' : List Value), Ext (· = D) ρ ρ' h₁ h' → X.SR ρ' σ₂ h' → ERel X.hb ρ' sc loc env h' → h'.PlainList D vs'.toArray → ItsRel ρ'.flatten h' (ys ++ here) vs' → vs'.length + out.length ≤ 1000000 →
      codeAny (model X.prog X.w) A (.compLoop (.ListComp elt gens scp pos) depth it (.ref D) env) R { s with heap := h', toks := tk } := fun ρ' h' tk vs' x' S' L' hl' hx' hn' => by
    have nD : NoSeq (· = D) ρ h₁ := fun b o q n => absurd (List.mem_append_right _ hD) (q ▸ n)
    have st' := I.frame st₁ x' nD S' (fun b hb q => hDf (q ▸ hb)) hg2
    refine h2 A env it J fp St Mid ρ' { s with heap := h', toks := tk } R gens scp pos depth D (ys ++ here) vs' ok S' L' I st' hd hDf hgs hga rfl (ext_priv x' hD) hl' hn' hx' fun ρ₂ h₂ tk₂ vs₂ x₂ S₂ L₂ hl₂ hx₂ => ?_
    have liv' : ∀ b, FC env J b ∨ b = D → ∃ o, h₁.get? b = some o := fun b hb => by
      rcases hb with (f | j) | q
      · exact liveL (s := { s with heap := h₁ }) L₁ b f
      · exact (ap₁ b (I.sub b j)).2
      · exact S₁.there b (q ▸ List.mem_append_right _ hD)
    exact kq ρ₂ h₂ tk₂ vs₂ (((x₁.mono liv fun b hb => .inl hb).trans (x'.mono liv' fun b hb => .inr hb)).trans x₂) S₂ L₂ hl₂ (by rw [List.append_assoc] at hx₂; exact hx₂)
  refine tests_sound (s := { s with heap := h₁, toks := tk₁ }) hT ok S₁ L₁ fun ρ₂ h₂ tk₂ x₂ S₂ => ?_
  have L₂ := L₁.ext x₂
  have less := fun y v e => unpack_keeps hu hf y v e
  have pD₂ : D ∈ ρ₂.priv := ext_priv x₂ hD
  have lv₁ : ∀ b, b = D → ∃ o, h₁.get? b = some o := fun b q => S₁.there b (q ▸ List.mem_append_right _ hD)
  have isL : ∀ {ρ' : Rho} {h' : Heap}, Ext noF ρ ρ' h₁ h' → h'.PlainList D vs.toArray := fun x' => by
    exact hD₁.at fun o ho => x'.kept D o (privOff S₁ hD) id ho
  cases b with
  | false =>
    obtain ⟨rfl, rfl⟩ := h0 rfl
    simp only [Bool.false_eq_true, if_false]
    exact rest ρ₂ h₂ tk₂ vs (x₂.mono lv₁ fun b f => f.elim) S₂ (L₂.less less) (isL x₂) (by rw [List.append_nil]; exact hx₁.ext x₂ (noSeq_none _ _)) (by simpa using hn)
  | true =>
    obtain ⟨hE, rfl⟩ := h1 rfl
    simp only [if_true]
    refine VEval.then (s := { s with heap := h₂, toks := tk₂ }) hE ok S₂ L₂ fun ρ₃ h₃ tk₃ z x₃ S₃ L₃ r₃ => ?_
    have x₁₃ := x₂.trans x₃
    have pD₃ : D ∈ ρ₃.priv := ext_priv x₁₃ hD
    refine wpAny_list_append_plain (s := { s with heap := h₃, toks := tk₃ }) (isL x₁₃) (fun h₄ hl₄ hs₄ => ?_) (by rw [List.size_toArray, sizeLine_eq]; omega)
    obtain ⟨S₄, x₄⟩ := S₃.privTurn pD₃ hs₄ (let ⟨_, ho⟩ := hl₄; ⟨_, ho⟩)
    have nD : NoSeq (· = D) ρ₃ h₃ := fun b o q n => absurd (List.mem_append_right _ pD₃) (q ▸ n)
    have L₄ := L₃.ext' x₄ nD fun b f q => ERel.D (s := { s with heap := h₃ }) L₃ pD₃ (q ▸ f)
    have x₁₄ : Ext (· = D) ρ ρ₃ h₁ h₄ := x₁₃.then x₄ lv₁ fun b q => .inl q
    refine rest ρ₃ h₄ tk₃ (vs ++ [z]) x₁₄ S₄ (L₄.less less) (by simpa using hl₄) ?_ (by simp at hn ⊢; omega)
    exact ((hx₁.ext x₁₃ (noSeq_none _ _)).snoc r₃).ext x₄ nD

theorem cp_more {elt : Expr} {g g' : Comprehension} {gs : List Comprehension} {src src' : Src} {x : It} {xs out here its : List It} {b : Bool} {σ₄ : AS} (hsh : src.short = true → isTup g.target = true) (ht : tLocal sc g.target = true) (hf : tFresh loc g.target = true) (hg : okSrc σ src = true) (hu : unpackT sc g.target x loc = some loc₁)
    (hT : X.VTests d sc loc₁ g.ifs σ b σ₁) (h1 : b = true → X.VIter d sc loc₁ g'.iter σ₁ its src' σ₂ ∧ X.VComp d sc loc₁ elt g' gs src' its σ₂ here σ₃) (h0 : b = false → here = [] ∧ σ₃ = σ₁) (hg2 : okSrc σ₃ src = true) (h2 : X.VComp d sc loc elt g (g' :: gs) src xs σ₃ out σ₄) (hsI : ∀ env x, foldedSetIterable g'.iter env x = pure x) :
    X.VComp d sc loc elt g (g' :: gs) src (x :: xs) σ (here ++ out) σ₄ := by
  intro A env it J fp St Mid ρ s R gens scp pos depth D ys vs ok S L I st hd hDf hgs hga hg0 hD hl hn hx kq
  obtain ⟨tg, ir, ifs, asy⟩ := g
  obtain ⟨tg', ir', ifs', asy'⟩ := g'
  cases hg0
  obtain ⟨hg1, hg3⟩ := drop_get hgs
  obtain ⟨hg4, hg5⟩ := drop_get hg3
  have ha : asy' = 0 ∧ gs.all (fun g => g.is_async == 0) = true := by
    rw [List.all_cons, Bool.and_eq_true] at hga
    exact ⟨beq_iff_eq.mp hga.1, hga.2⟩
  obtain ⟨rfl, hga'⟩ := ha
  refine compLoop_more hg1 hg4 (hsI env) (comp_head I ok S L st hd hsh ht hu hg (fun _ _ h => h) fun h₁ tk₁ x₁ S₁ L₁ st₁ => ?_)
  have ap₁ := I.apart st₁
  have nFC : NoSeq (FC env J) ρ s.heap := fun b o f n e => f.elim (fun f => ERel.noSeq L b o (.inl f) n e) fun j => I.noSeq st b o j n e
  have hD₁ : h₁.PlainList D vs.toArray := by
    refine hl.at fun o ho => x₁.kept D o (privOff S hD) (fun f => ?_) ho
    rcases f with f | j
    · exact ERel.D L hD (.inl f)
    · exact hDf (I.sub D j)
  have hx₁ := hx.ext x₁ nFC
  have liv : ∀ b, FC env J b ∨ b = D → ∃ o, s.heap.get? b = some o := fun b hb => by
    rcases hb with (f | j) | q
    · exact liveL L b f
    · exact (I.apart st b (I.sub b j)).2
    · exact S.there b (q ▸ List.mem_append_right _ hD)
  have liv' : ∀ b, FC env J b ∨ b = D → ∃ o, h₁.get? b = some o := fun b hb => by
    rcases hb with (f | j) | q
    · exact liveL (s := { s with heap := h₁ }) L₁ b f
    · exact (ap₁ b (I.sub b j)).2
    · exact S₁.there b (q ▸ List.mem_append_right _ hD)
  have rest : ∀ (ρ' : Rho) (h' : Heap) (tk : Nat) (vs' : List Value), Ext (fun b => b = env.locals ∨ b = D) ρ ρ' h₁ h' → X.SR ρ' σ₃ h' → ERel X.hb ρ' sc loc env h' → h'.PlainList D vs'.toArray → ItsRel ρ'.flatten h' (ys ++ here) vs' → vs'.length + out.length ≤ 1000000 →
      codeAny (model X.prog X.w) A (.compLoop (.ListComp elt gens scp pos) depth it (.ref D) env) R { s with heap := h', toks := tk } := fun ρ' h' tk vs' x' S' L' hl' hx' hn' => by
    have nD : NoSeq (fun b => b = env.locals ∨ b = D) ρ h₁ := fun b o q n e => q.elim (fun f => ERel.noSeq L₁ b o (.inl f) n e) fun q => absurd (List.mem_append_right _ hD) (q ▸ n)
    have st' := I.frame st₁ x' nD S' (fun b hb q => q.elim (fun f => hd b (.inl f) hb) fun q => hDf (q ▸ hb)) hg2
    refine h2 A env it J fp St Mid ρ' { s with heap := h', toks := tk } R gens scp pos depth D (ys ++ here) vs' ok S' L' I st' hd hDf hgs hga rfl (ext_priv x' hD) hl' hn' hx' fun ρ₂ h₂ tk₂ vs₂ x₂ S₂ L₂ hl₂ hx₂ => ?_
    exact kq ρ₂ h₂ tk₂ vs₂ (((x₁.mono liv fun b hb => .inl hb).trans (x'.mono liv' fun b hb => hb.elim (fun f => .inl (.inl f)) .inr)).trans x₂) S₂ L₂ hl₂ (by rw [List.append_assoc] at hx₂; exact hx₂)
  refine tests_sound (s := { s with heap := h₁, toks := tk₁ }) hT ok S₁ L₁ fun ρ₂ h₂ tk₂ x₂ S₂ => ?_
  have L₂ := L₁.ext x₂
  have less := fun y v e => unpack_keeps hu hf y v e
  have lv₁ : ∀ b, (b = env.locals ∨ b = D) → ∃ o, h₁.get? b = some o := fun b q => q.elim (fun f => liv' b (.inl (.inl f))) fun q => liv' b (.inr q)
  have isL : ∀ {ρ' : Rho} {h' : Heap}, Ext noF ρ ρ' h₁ h' → h'.PlainList D vs.toArray := fun x' => by
    exact hD₁.at fun o ho => x'.kept D o (privOff S₁ hD) id ho
  cases b with
  | false =>
    obtain ⟨rfl, rfl⟩ := h0 rfl
    simp only [Bool.false_eq_true, if_false]
    exact rest ρ₂ h₂ tk₂ vs (x₂.mono lv₁ fun b f => f.elim) S₂ (L₂.less less) (isL x₂) (by rw [List.append_nil]; exact hx₁.ext x₂ (noSeq_none _ _)) (by simpa using hn)
  | true =>
    obtain ⟨hI, hC⟩ := h1 rfl
    simp only [if_true]
    refine hI.2 A env ρ₂ { s with heap := h₂, toks := tk₂ } _ _ ok S₂ L₂ fun ρ₃ h₃ tk₃ it' J' fp' St' Mid' x₃ S₃ I' st' hJ' hd' hp' => ?_
    have x₁₃ := x₂.trans x₃
    have pD₃ : D ∈ ρ₃.priv := ext_priv x₁₃ hD
    have L₃ := L₂.ext x₃
    have go : codeAny (model X.prog X.w) A (.compLoop (.ListComp elt gens scp pos) (depth + 1) it' (.ref D) env) (fun r s₇ => match r with
        | .ok _ => codeAny (model X.prog X.w) A (.compLoop (.ListComp elt gens scp pos) depth it (.ref D) env) R s₇
        | .error e => cameBackBy (model X.prog X.w) A env (NB X.prog X.w A env R) e s₇) { s with heap := h₃, toks := tk₃ } := by
      refine hC A env it' J' fp' St' Mid' ρ₃ { s with heap := h₃, toks := tk₃ } _ gens scp pos (depth + 1) D ys vs ok S₃ L₃ I' st' hd' (fun q => ?_) hg3 hga' rfl pD₃ (isL x₁₃) ?_ (hx₁.ext x₁₃ (noSeq_none _ _)) fun ρ₄ h₄ tk₄ vs₄ x₄ S₄ L₄ hl₄ hx₄ => ?_
      · exact hp' D (ext_priv x₂ hD) q
      · rw [List.length_append] at hn; omega
      · refine rest ρ₄ h₄ tk₄ vs₄ ?_ S₄ (L₄.less less) hl₄ hx₄ ?_
        · refine x₁₃.then x₄ lv₁ fun b q => ?_
          rcases q with (f | j) | q
          · exact .inl (.inl f)
          · refine .inr ?_
            cases q : h₁.get? b with
            | none => rfl
            | some o => obtain ⟨o', e'⟩ := x₂.there b o id q; have := hJ' b j; dsimp only at this; rw [e'] at this; cases this
          · exact .inl (.inr q)
        · have e1 := itsRel_length hx₄
          have e2 := itsRel_length hx
          rw [List.length_append] at e1 hn
          omega
    exact compStart_gen hg4 go (I'.self its ρ₃ σ₂ _ _ _ st' go)
end
end Mine
end

-- part M12
section
namespace Mine
open PySem PySem.W PyProof.Rows PySem.Calls PySem.Spec

-- fewer addresses that are out of bounds
section
variable {T T' : List Addr} {h : Heap}
theorem ItRel.sub {x : It} {v : Value} (r : ItRel T h x v) (hs : ∀ a, a ∈ T' → a ∈ T) : ItRel T' h x v := by
  cases x with
  | «at» a => exact r
  | pair a b => obtain ⟨l, u, y, e, hl, q⟩ := r; exact ⟨l, u, y, e, fun m => hl (hs l m), q⟩
theorem ItsRel.sub {xs : List It} {vs : List Value} (r : ItsRel T h xs vs) (hs : ∀ a, a ∈ T' → a ∈ T) : ItsRel T' h xs vs := by
  induction r with
  | nil => exact .nil
  | cons a _ ih => exact .cons (a.sub hs) ih
end
noncomputable def Rho.back (ρ' ρ : Rho) : Rho := { own := ρ'.own, priv := ρ.priv }
section
variable {Z : Shapes} {w : World} {hb : Heap} {ρ ρ' : Rho} {σ : AS} {h h' : Heap} {F : Addr → Prop}
theorem back_sub (x : Ext F ρ ρ' h h') : ∀ a, a ∈ (ρ'.back ρ).flatten → a ∈ ρ'.flatten := fun a ha => by
  obtain ⟨m, p, e1, e2, _⟩ := x.more
  unfold Rho.back Rho.flatten at ha
  unfold Rho.flatten
  rcases List.mem_append.mp ha with q | q
  · exact List.mem_append_left _ q
  · exact List.mem_append_right _ (e2 ▸ List.mem_append_right _ q)
theorem VRel.back (x : Ext F ρ ρ' h h') {v : V} {u : Value} {h₂ : Heap} (r : VRel ρ' h₂ v u) : VRel (ρ'.back ρ) h₂ v u := by
  have hs := back_sub x
  cases v with
  | none => exact r
  | bool b => exact r
  | it i => exact ItRel.sub r hs
  | lst xs => obtain ⟨l, vs, e, hl, hL, hi⟩ := r; exact ⟨l, vs, e, fun m => hl (hs l m), hL, hi.sub hs⟩
  | val u => exact r
  | own i => exact r
theorem EntRel.back (x : Ext F ρ ρ' h h') {fs : List (Str × V)} {es : List DictEntry} {h₂ : Heap} (r : EntRel w ρ' h₂ fs es) : EntRel w (ρ'.back ρ) h₂ fs es := by
  induction r with
  | nil => exact .nil
  | cons a _ ih => exact .cons (a.back x) ih
theorem SRel.back (x : Ext F ρ ρ' h h') {h₂ : Heap} (R : SRel Z w hb ρ' σ h₂) : SRel Z w hb (ρ'.back ρ) σ h₂ := by
  have hs := back_sub x
  obtain ⟨m, p, e1, e2, _⟩ := x.more
  refine ⟨R.base, R.len, fun i fp o h1 h2 => ?_, ?_, fun a ha => R.fresh a (hs a ha), fun a ha => R.there a (hs a ha)⟩
  · have r := R.objs i fp o h1 h2
    cases o with
    | list xs => obtain ⟨a, vs, e, hL, hi⟩ := r; exact ⟨a, vs, e, hL, hi.sub hs⟩
    | dict kvs => exact r
    | inst C fs => obtain ⟨a, d, es, n, e, q1, q2, q3⟩ := r; exact ⟨a, d, es, n, e, q1, q2, q3.back x⟩
    | stream y => exact r
    | citer j live => exact r
    | tbl made => exact r
  · have nd := R.nd
    unfold Rho.flatten at nd
    rw [e2] at nd
    unfold Rho.back Rho.flatten
    dsimp only
    rw [List.nodup_append] at nd ⊢
    obtain ⟨n1, n2, n3⟩ := nd
    exact ⟨n1, (List.nodup_append.mp n2).2.1, fun a ha b hb' => n3 a ha b (List.mem_append_right _ hb')⟩
theorem Ext.back (x : Ext F ρ ρ' h h') : Ext F ρ (ρ'.back ρ) h h' := by
  obtain ⟨m, p, e1, e2, e3⟩ := x.more
  exact ⟨⟨m, [], e1, rfl, fun a ha => e3 a (by simp at ha ⊢; exact .inl ha)⟩, x.kept, x.there⟩

/-- an address of one's own -/
noncomputable def Rho.hide (ρ : Rho) (D : Addr) : Rho := { ρ with priv := D :: ρ.priv }
theorem ext_hide {D : Addr} (k : ∀ b o, h.get? b = some o → h'.get? b = some o) (hD : h.get? D = none) : Ext noF ρ (ρ.hide D) h h' :=
  ⟨⟨[], [D], by simp [Rho.hide], rfl, fun a ha => by simp at ha; subst ha; exact ⟨hD, id⟩⟩, fun b o _ _ e => k b o e, fun b o _ e => ⟨o, k b o e⟩⟩
theorem SRel.hide (R : SRel Z w hb ρ σ h) {D : Addr} (k : ∀ b o, h.get? b = some o → h'.get? b = some o) (hD : h.get? D = none) (ht : ∃ o, h'.get? D = some o) : SRel Z w hb (ρ.hide D) σ h' := by
  have x : Ext noF ρ (ρ.hide D) h h' := ext_hide k hD
  have nf := noSeq_none ρ h
  have off : D ∉ ρ.flatten := fun q => by obtain ⟨o, e⟩ := R.there D q; rw [hD] at e; cases e
  have mem : ∀ a, a ∈ (ρ.hide D).flatten → a = D ∨ a ∈ ρ.flatten := fun a ha => by
    unfold Rho.hide Rho.flatten at ha
    rcases List.mem_append.mp ha with q | q
    · exact .inr (List.mem_append_left _ q)
    · rcases List.mem_cons.mp q with q | q
      · exact .inl q
      · exact .inr (List.mem_append_right _ q)
  refine ⟨fun b o e => k b o (R.base b o e), R.len, fun i fp o e1 e2 => (R.objs i fp o e1 e2).ext x nf fun a _ => k a, ?_, fun a ha => ?_, fun a ha => ?_⟩
  · have nd := R.nd
    unfold Rho.flatten at nd off
    unfold Rho.hide Rho.flatten
    dsimp only
    rw [List.nodup_append] at nd ⊢
    obtain ⟨n1, n2, n3⟩ := nd
    refine ⟨n1, List.nodup_cons.mpr ⟨fun q => off (List.mem_append_right _ q), n2⟩, fun a ha b hb' => ?_⟩
    rcases List.mem_cons.mp hb' with rfl | q
    · rintro rfl; exact off (List.mem_append_left _ ha)
    · exact n3 a ha b q
  · rcases mem a ha with rfl | q
    · cases q : hb.get? a with
      | none => rfl
      | some o => have := R.base a o q; rw [hD] at this; cases this
    · exact R.fresh a q
  · rcases mem a ha with rfl | q
    · exact ht
    · obtain ⟨o, e⟩ := R.there a q
      exact ⟨o, k a o e⟩
end

-- the cells that a comprehension catches
noncomputable def clOf (env : Env) : List (Str × NameKind) → List (Str × Addr) → List (Str × Addr)
  | [], acc => acc
  | (n, k) :: r, acc => if k == .free then (match env.cells.lookup n with | some c => clOf env r ((n, c) :: acc) | none => clOf env r acc) else clOf env r acc
theorem closure_eq {sc' : Scope} {env : Env} (h : ∀ p ∈ sc'.names, p.2 = .free → ∃ c, env.cells.lookup p.1 = some c) : closureFor sc' env = pure (clOf env sc'.names []) := by
  have gen : ∀ (names : List (Str × NameKind)) (acc : List (Str × Addr)), (∀ p ∈ names, p.2 = .free → ∃ c, env.cells.lookup p.1 = some c) →
      (forIn names acc fun (x : Str × NameKind) (cs : List (Str × Addr)) => (match x with
        | (name, kind) => if kind == .free then do let a ← cellOf env name; pure (ForInStep.yield ((name, a) :: cs)) else pure (ForInStep.yield cs) : Sem (ForInStep (List (Str × Addr))))) = pure (clOf env names acc) := by
    intro names
    induction names with
    | nil => intro acc _; rfl
    | cons p r ih =>
      intro acc hp
      obtain ⟨n, k⟩ := p
      rw [List.forIn_cons]
      dsimp only
      unfold clOf
      by_cases hk : k == .free
      · rw [if_pos hk, if_pos hk]
        obtain ⟨c, hc⟩ := hp (n, k) List.mem_cons_self (beq_iff_eq.mp hk)
        dsimp only at hc
        unfold cellOf
        rw [hc]
        exact ih _ fun q hq => hp q (List.mem_cons_of_mem _ hq)
      · rw [if_neg hk, if_neg hk]
        exact ih _ fun q hq => hp q (List.mem_cons_of_mem _ hq)
  unfold closureFor
  have := gen sc'.names [] h
  exact (congrArg (fun m => m >>= fun cs => pure cs) this).trans rfl
theorem clOf_lookup {env : Env} : ∀ {names : List (Str × NameKind)} {acc : List (Str × Addr)}, (names.map (·.1)).Nodup → ∀ x c, (clOf env names acc).lookup x = some c →
    ((x, NameKind.free) ∈ names ∧ env.cells.lookup x = some c) ∨ acc.lookup x = some c
  | [], acc, _, x, c, h => .inr h
  | (n, k) :: r, acc, hn, x, c, h => by
    rw [List.map_cons, List.nodup_cons] at hn
    unfold clOf at h
    split at h
    · rename_i hk
      have hk := beq_iff_eq.mp hk
      subst hk
      split at h
      · rename_i c' hc
        rcases clOf_lookup hn.2 x c h with ⟨a, b⟩ | q
        · exact .inl ⟨List.mem_cons_of_mem _ a, b⟩
        · rw [lookup_cons_if'] at q
          split at q
          · rename_i e; subst e; cases q; exact .inl ⟨List.mem_cons_self, hc⟩
          · exact .inr q
      · rcases clOf_lookup hn.2 x c h with ⟨a, b⟩ | q
        · exact .inl ⟨List.mem_cons_of_mem _ a, b⟩
        · exact .inr q
    · rcases clOf_lookup hn.2 x c h with ⟨a, b⟩ | q
      · exact .inl ⟨List.mem_cons_of_mem _ a, b⟩
      · exact .inr q
where
  lookup_cons_if' {α : Type} {y z : Str} {v : α} {r : List (Str × α)} : List.lookup y ((z, v) :: r) = if y = z then some v else r.lookup y := by
    rw [List.lookup_cons]
    by_cases h : y = z
    · subst h; rw [if_pos rfl, beq_self_eq_true]
    · rw [if_neg h, beq_eq_false_iff_ne.mpr h]
end Mine
end

-- part M13
section
namespace Mine
open PySem PySem.W PyProof.Rows PySem.Calls PySem.Spec

theorem lk_cons {α : Type} {y z : Str} {v : α} {r : List (Str × α)} : List.lookup y ((z, v) :: r) = if y = z then some v else r.lookup y := clOf_lookup.lookup_cons_if'
theorem lk_mem {α : Type} {y : Str} {v : α} : ∀ {r : List (Str × α)}, r.lookup y = some v → (y, v) ∈ r
  | [], h => by cases h
  | (z, u) :: r, h => by
    rw [lk_cons] at h
    split at h
    · rename_i e; subst e; cases h; exact List.mem_cons_self
    · exact List.mem_cons_of_mem _ (lk_mem h)
theorem lk_of_mem {α : Type} {y : Str} {v : α} : ∀ {r : List (Str × α)}, (r.map (·.1)).Nodup → (y, v) ∈ r → r.lookup y = some v
  | (z, u) :: r, hn, h => by
    rw [List.map_cons, List.nodup_cons] at hn
    rw [lk_cons]
    rcases List.mem_cons.mp h with e | h
    · cases e; rw [if_pos rfl]
    · rw [if_neg, lk_of_mem hn.2 h]
      intro e
      exact hn.1 (List.mem_map.mpr ⟨(y, v), h, e⟩)
theorem clOf_skip {env : Env} {x : Str} : ∀ {names : List (Str × NameKind)} {acc : List (Str × Addr)}, x ∉ names.map (·.1) → (clOf env names acc).lookup x = acc.lookup x
  | [], acc, _ => rfl
  | (n, k) :: r, acc, h => by
    rw [List.map_cons, List.mem_cons, not_or] at h
    unfold clOf
    split
    · split
      · rw [clOf_skip h.2, lk_cons, if_neg h.1]
      · exact clOf_skip h.2
    · exact clOf_skip h.2
theorem clOf_find {env : Env} {x : Str} {c : Addr} (hc : env.cells.lookup x = some c) : ∀ {names : List (Str × NameKind)} {acc : List (Str × Addr)}, (names.map (·.1)).Nodup → (x, NameKind.free) ∈ names → (clOf env names acc).lookup x = some c
  | (n, k) :: r, acc, hn, h => by
    rw [List.map_cons, List.nodup_cons] at hn
    rcases List.mem_cons.mp h with e | h
    · cases e
      unfold clOf
      rw [if_pos (beq_self_eq_true _), hc]
      dsimp only
      rw [clOf_skip hn.1, lk_cons, if_pos rfl]
    · unfold clOf
      split
      · split
        · exact clOf_find hc hn.2 h
        · exact clOf_find hc hn.2 h
      · exact clOf_find hc hn.2 h
theorem relab_lookup {x : Str} (sc : Scope) : (relab sc).names.lookup x = (sc.names.lookup x).map fun k => if k == .free then .cell else k := by
  show List.lookup x (sc.names.map _) = _
  induction sc.names with
  | nil => rfl
  | cons p r ih =>
    obtain ⟨n, k⟩ := p
    rw [List.map_cons, lk_cons (r := r)]
    dsimp only
    by_cases e : x = n
    · subst e
      rw [if_pos rfl]
      split
      · rename_i q; rw [lk_cons, if_pos rfl, Option.map_some, if_pos q]
      · rename_i q; rw [lk_cons, if_pos rfl, Option.map_some, if_neg q]
    · rw [if_neg e]
      split <;> rw [lk_cons, if_neg e, ← ih]
theorem freeLoc_lookup {sc : Scope} {loc : Loc} {x : Str} {v : V} (hn : (sc.names.map (·.1)).Nodup) (h : (freeLoc sc loc).lookup x = some v) : sc.names.lookup x = some .free ∧ loc.lookup x = some v := by
  unfold freeLoc at h
  have m := lk_mem h
  obtain ⟨⟨n, k⟩, hp, he⟩ := List.mem_filterMap.mp m
  dsimp only at he
  split at he
  · rename_i hk
    obtain ⟨u, hu, e⟩ := Option.map_eq_some_iff.mp he
    cases e
    rw [beq_iff_eq.mp hk] at hp
    exact ⟨lk_of_mem hn hp, hu⟩
  · cases he

section
variable {X : Cx} {d : Nat} {A : Around} {env : Env} {ρ : Rho} {s : Shared} {sc : Scope} {loc loc' loc₁ : Loc} {σ σ' σ₁ σ₂ σ₃ : AS}

structure CompOk (sc sc' : Scope) (g : Comprehension) (gs : List Comprehension) : Prop where
  k' : sc'.kind = .function
  k : sc.kind = .function
  a0 : g.is_async = 0
  as : gs.all (fun g => g.is_async == 0) = true
  ns : ∀ g ∈ gs, notSet g.iter = true
  kinds : ∀ n k, (n, k) ∈ sc'.names → k = .local ∨ k = .globalImplicit ∨ (k = .free ∧ sc.names.lookup n = some .cell)
  loc : ∀ n k, (n, k) ∈ sc'.names → k = .local → sc'.names.lookup n = some .local
  nd : (sc'.names.map (·.1)).Nodup
theorem compOk_of {sc sc' : Scope} {g : Comprehension} {gs : List Comprehension} (h : compOk sc sc' g gs = true) : CompOk sc sc' g gs := by
  unfold compOk at h
  simp only [Bool.and_eq_true] at h
  obtain ⟨⟨⟨⟨⟨⟨⟨h1, h2⟩, h3⟩, h4⟩, h5⟩, h6⟩, h7⟩, h8⟩ := h
  refine ⟨beq_iff_eq.mp h1, beq_iff_eq.mp h2, beq_iff_eq.mp h3, h4, List.all_eq_true.mp h5, fun n k m => ?_, fun n k m e => ?_, of_decide_eq_true h8⟩
  · have := List.all_eq_true.mp h6 (n, k) m
    dsimp only at this
    simp only [Bool.or_eq_true, Bool.and_eq_true, beq_iff_eq] at this
    rcases this with (h | h) | h
    · exact .inl h
    · exact .inr (.inl h)
    · exact .inr (.inr h)
  · have := List.all_eq_true.mp h7 (n, k) m
    dsimp only at this
    subst e
    simpa using this

theorem relab_eq {sc sc' : Scope} {g : Comprehension} {gs : List Comprehension} (C : CompOk sc sc' g gs) (L : ERel X.hb ρ sc loc env s.heap) : relabel sc' env = relab sc' := by
  unfold relabel relab
  congr 1
  refine List.map_congr_left fun p hp => ?_
  obtain ⟨n, k⟩ := p
  dsimp only
  rcases C.kinds n k hp with rfl | rfl | ⟨rfl, hc⟩
  · rfl
  · rfl
  · have e1 : env.scope.kind = .function := by rw [L.esc]; exact L.kind
    have e2 : env.kindOf n = some .cell := by unfold Env.kindOf; rw [L.esc]; exact hc
    rw [e1, e2]; rfl

theorem comp_core {elt : Expr} {g : Comprehension} {gs : List Comprehension} {sc' : Scope} {pos : Pos} {items out : List It} {src : Src} {use : Option (Value → Sem Unit)} (hok : compOk sc sc' g gs = true)
    (hI : X.VIter d sc loc g.iter σ items src σ₁) (hC : X.VComp d (relab sc') (freeLoc sc' loc) elt g gs src items σ₁ out σ₂) (hn : out.length ≤ 1000000) (ok : Ok d A) (R : X.SR ρ σ s.heap) (L : ERel X.hb ρ sc loc env s.heap) {Q : Value → Shared → Prop} {E : Value → Shared → Prop}
    (hEnd : ∀ ρ' h' tk D C, Ext noF ρ ρ' s.heap h' → X.SR ρ' σ₂ h' → ERel X.hb ρ' sc loc env h' → VRel ρ' h' (.lst out) (.ref D) → (∃ m, h'.Ns C m) → C ∉ ρ'.flatten → X.hb.get? C = none → ¬ FP env C → s.heap.get? C = none → C ≠ D →
      compPost (model X.prog X.w) A E use Q (.ref D) C (.ok .next) { s with heap := h', toks := tk }) :
    X.wp A (comprehension (.ListComp elt (g :: gs) sc' pos) sc' env (firstIterPos (g :: gs) pos) (newList []) (firstAsync (g :: gs)) (firstIter (g :: gs) env) use) Q E s := by
  have C := compOk_of hok
  obtain ⟨tg, ir, ifs, asy⟩ := g
  have a0 := C.a0
  dsimp only at a0
  subst a0
  have rl := relab_eq C L
  have hcell : ∀ p ∈ sc'.names, p.2 = .free → ∃ c, env.cells.lookup p.1 = some c := fun p hp e => by
    obtain ⟨n, k⟩ := p
    dsimp only at e
    subst e
    rcases C.kinds n _ hp with h | h | ⟨_, h⟩
    · cases h
    · cases h
    · obtain ⟨c, u, h1, _⟩ := L.cells n (.inl h)
      exact ⟨c, h1⟩
  have a0 : firstAsync (⟨tg, ir, ifs, 0⟩ :: gs) = false := rfl
  rw [a0]
  refine wpAny_comprehension_free (g := ⟨tg, ir, ifs, 0⟩) (gs := gs) rfl (hI.1 env) (closure_eq hcell) C.k' (fun p hp e => C.loc p.1 p.2 hp e) ?_
  show X.wp A (eval ir env) _ E s
  refine wpAny_mono (hI.2 A env ρ s _ E ok R L fun ρ₁ h₁ k₁ it J fp St Mid x₁ R₁ I st hJ hd _ => ?_) (fun _ _ h => h) fun _ _ h => h
  have L₁ := L.ext x₁
  -- the list that grows
  refine wpAny_newList ?_ (by rw [sizeLine_eq]; decide)
  have hDn : h₁.get? h₁.objs.size = none := size_none _
  generalize hD : h₁.objs.size = D at hDn ⊢
  have k₂ : ∀ b o, h₁.get? b = some o → (h₁.push { cls := .type "list", data := .seq ([] : List Value).toArray }).get? b = some o := push_keeps
  have hL₂ : (h₁.push { cls := .type "list", data := .seq ([] : List Value).toArray }).PlainList D ([] : List Value).toArray := by
    rw [← hD]; exact ⟨_, Heap.get?_push_size _ rfl⟩
  show X.wp A (newFunctionEnv sc' env.globals (clOf env sc'.names []) [] env.qual none .none (some env)) _ E { s with heap := h₁.push { cls := .type "list", data := .seq ([] : List Value).toArray }, toks := k₁ }
  generalize h₁.push { cls := .type "list", data := .seq ([] : List Value).toArray } = h₂ at k₂ hL₂ ⊢
  have R₂ := R₁.hide (D := D) k₂ hDn (let ⟨_, ho⟩ := hL₂; ⟨_, ho⟩)
  have x₂ : Ext noF ρ₁ (ρ₁.hide D) h₁ h₂ := ext_hide k₂ hDn
  have L₂ := L₁.ext x₂
  -- its names
  refine wpAny_newFunctionEnv (s := { s with heap := h₂, toks := k₁ }) (fun p hp e => ?_) (by intro p hp; cases hp) (fun h₃ hns hsb => ?_) C.k'
  · rcases C.kinds p.1 p.2 hp with h | h | ⟨h, _⟩ <;> rw [h] at e <;> cases e
  have hCn : h₂.get? h₂.objs.size = none := size_none _
  dsimp only at hns hsb ⊢
  have k₃ : ∀ b o, h₂.get? b = some o → h₃.get? b = some o := fun b o e => hsb.extBut b o (Nat.ne_of_lt (Heap.lt_size e)) (Heap.get?_push_of_some _ e)
  rw [rl]
  generalize hCl : h₂.objs.size = Cl at hns hCn ⊢
  have R₃ := R₂.keeps k₃
  have x₃ : Ext noF (ρ₁.hide D) (ρ₁.hide D) h₂ h₃ := Ext.of_keeps k₃
  have L₃ := L₂.ext x₃
  have x₁₃ : Ext noF ρ₁ (ρ₁.hide D) h₁ h₃ := x₂.trans x₃
  have hCD : Cl ≠ D := fun e => by obtain ⟨o, ho⟩ := hL₂; rw [← e, hCn] at ho; cases ho
  have hC1 : h₁.get? Cl = none := by
    cases q : h₁.get? Cl with
    | none => rfl
    | some o => have := k₂ _ _ q; rw [hCn] at this; cases this
  have hC0 : s.heap.get? Cl = none := by
    cases q : s.heap.get? Cl with
    | none => rfl
    | some o => obtain ⟨o', e'⟩ := x₁.there _ o id q; rw [hC1] at e'; cases e'
  have hCb : X.hb.get? Cl = none := by
    cases q : X.hb.get? Cl with
    | none => rfl
    | some o => have := R₁.base _ o q; rw [hC1] at this; cases this
  have hCr : Cl ∉ (ρ₁.hide D).flatten := fun q => by obtain ⟨o, e⟩ := R₂.there Cl q; rw [hCn] at e; cases e
  have hCf : ¬ FP env Cl := fun f => by obtain ⟨o, e⟩ := ERel.live L Cl f; rw [hC0] at e; cases e
  -- what the comprehension's own frame is
  have hkf : ∀ x, (relab sc').names.lookup x = some .cell → sc'.names.lookup x = some .free := fun x e => by
    rw [relab_lookup] at e
    cases q : sc'.names.lookup x with
    | none => rw [q] at e; cases e
    | some k =>
      rw [q] at e
      rcases C.kinds x k (lk_mem q) with rfl | rfl | ⟨rfl, _⟩
      · cases e
      · cases e
      · rfl
  generalize hcenv : ({ newEnv sc' Cl env.globals (clOf env sc'.names []) env.qual none Value.none (some env) builtinsNs with scope := relab sc' } : Env) = cenv
  have cE : cenv.locals = Cl ∧ cenv.scope = relab sc' ∧ cenv.globals = env.globals ∧ cenv.builtins = env.builtins ∧ cenv.cells = clOf env sc'.names [] := by subst hcenv; exact ⟨rfl, rfl, rfl, rfl, rfl⟩
  obtain ⟨cL, cS, cG, cB, cC⟩ := cE
  have cellOfC : ∀ x c, cenv.cells.lookup x = some c → (x, NameKind.free) ∈ sc'.names ∧ env.cells.lookup x = some c := fun x c e => by
    rw [cC] at e
    rcases clOf_lookup C.nd x c e with h | h
    · exact h
    · cases h
  have LC : ERel X.hb (ρ₁.hide D) (relab sc') (freeLoc sc' loc) cenv h₃ := by
    refine ⟨cS, C.k', cG.trans L.gl, cB.trans L.bi, ⟨_, cL ▸ hns, fun x v e k => ?_⟩, fun x k => ?_, fun x v e => ?_, fun x y c e1 e2 => ?_, ?_, fun x c e => ?_⟩
    · have := (freeLoc_lookup C.nd e).1
      rw [relab_lookup, this] at k; cases k
    · have hf := hkf x (by
        rcases k with k | ⟨k, _⟩
        · exact k
        · rw [relab_lookup] at k
          obtain ⟨k', _, e⟩ := Option.map_eq_some_iff.mp k
          split at e
          · cases e
          · rename_i z; rw [e] at z; exact absurd rfl z)
      have hm := lk_mem hf
      rcases C.kinds x _ hm with h | h | ⟨_, h⟩
      · cases h
      · cases h
      · obtain ⟨c, u, h1, h2, h3⟩ := L₃.cells x (.inl h)
        exact ⟨c, u, cC ▸ clOf_find h1 C.nd hm, h2, fun v e => h3 v (freeLoc_lookup C.nd e).2⟩
    · right; left
      rw [relab_lookup, (freeLoc_lookup C.nd e).1]; rfl
    · exact L.inj x y c (cellOfC x c e1).2 (cellOfC y c e2).2
    · rw [cL]; exact ⟨hCr, hCb⟩
    · have e' := (cellOfC x c e).2
      obtain ⟨h1, h2, h3, u, hu⟩ := L₃.fpC x c e'
      refine ⟨h1, h2, fun q => hCf (.inr ⟨x, ?_⟩), u, hu⟩
      rw [← cL, ← q]; exact e'
  have hdC : ∀ b, FP cenv b → b ∉ fp := by
    rintro b (rfl | ⟨x, e⟩)
    · rw [cL]
      intro q
      obtain ⟨_, o, e⟩ := I.apart st Cl q
      rw [hC1] at e; cases e
    · exact hd b (.inr ⟨x, (cellOfC x b e).2⟩)
  have st₃ := I.frame st x₁₃ (noSeq_none _ _) R₃ (fun _ _ f => f) (I.okAt st)
  -- the turns
  have go : codeAny (model X.prog X.w) A (.compLoop (.ListComp elt (⟨tg, ir, ifs, 0⟩ :: gs) sc' pos) 0 it (.ref D) cenv) (compPost (model X.prog X.w) A E use Q (.ref D) Cl) { s with heap := h₃, toks := k₁ } := by
    refine hC A cenv it J fp St Mid (ρ₁.hide D) { s with heap := h₃, toks := k₁ } _ (⟨tg, ir, ifs, 0⟩ :: gs) sc' pos 0 D [] [] ok R₃ LC I st₃ hdC (fun q => by obtain ⟨_, o, e⟩ := I.apart st D q; rw [hDn] at e; cases e) rfl C.as rfl List.mem_cons_self ?_ (by simpa using hn) .nil fun ρ₄ h₄ k₄ vs x₄ R₄ L₄ hl₄ hx₄ => ?_
    · exact hL₂.at fun o ho => k₃ _ o ho
    · have ap := I.apart st
      have x₁₄ : Ext (· ∈ J) ρ₁ ρ₄ h₁ h₄ := x₁₃.then x₄ (fun b j => (ap b (I.sub b j)).2) fun b q => by
        rcases q with (q | j) | q
        · right; rw [q, cL]; exact hC1
        · exact .inl j
        · right; rw [q]; exact hDn
      have x₁₅ := x₁₄.back
      have R₅ := R₄.back x₁₄
      have nJ : NoSeq (· ∈ J) ρ₁ h₁ := I.noSeq st
      have L₅ := L₁.ext' x₁₅ nJ fun b f j => hd b f (I.sub b j)
      have x₀₅ : Ext noF ρ (ρ₄.back ρ₁) s.heap h₄ := x₁.then x₁₅ (fun _ f => f.elim) fun b j => .inr (hJ b j)
      have hDr : D ∉ (ρ₄.back ρ₁).flatten := fun q => by
        rcases List.mem_append.mp q with q | q
        · exact privOff R₄ (ext_priv x₄ List.mem_cons_self) q
        · obtain ⟨o, e⟩ := R₁.there D (List.mem_append_right _ q)
          rw [hDn] at e; cases e
      refine hEnd (ρ₄.back ρ₁) h₄ k₄ D Cl x₀₅ R₅ L₅ ⟨D, vs, rfl, hDr, hl₄, (by simpa using hx₄ : ItsRel ρ₄.flatten h₄ out vs).sub (back_sub x₁₄)⟩ ?_ (fun q => ?_) hCb hCf hC0 hCD
      · obtain ⟨m, hm, _⟩ := L₄.ns
        exact ⟨m, cL ▸ hm⟩
      · exact L₄.fpL.1 (cL ▸ back_sub x₁₄ _ q)
  exact compStart_gen rfl go (I.self items (ρ₁.hide D) σ₁ _ _ _ st₃ go)

/-- the names of a comprehension are let go -/
theorem letGo_after {ρ' : Rho} {h' h'' : Heap} {C : Addr} (x : Ext noF ρ ρ' s.heap h') (R : X.SR ρ' σ h') (L : ERel X.hb ρ' sc loc env h') (hn : ∃ m, h'.Ns C m) (hr : C ∉ ρ'.flatten) (hb : X.hb.get? C = none) (hf : ¬ FP env C) (h0 : s.heap.get? C = none) (hs : Heap.SameBut C h' h'') :
    Ext noF ρ ρ' s.heap h'' ∧ X.SR ρ' σ h'' ∧ ERel X.hb ρ' sc loc env h'' ∧ ∀ v u, VRel ρ' h' v u → VRel ρ' h'' v u := by
  obtain ⟨m, hm⟩ := hn
  have nC : NoSeq (· = C) ρ' h' := fun b o q _ e => Ns.notSeq (q ▸ hm) e
  obtain ⟨R', y⟩ := R.frame (F := (· = C)) (fun b o hb' e => (hs.2 b hb').trans e) nC fun b q => by subst q; exact ⟨hr, hb⟩
  exact ⟨x.then y (fun _ f => f.elim) fun b q => .inr (q ▸ h0), R', L.ext' y nC fun b f q => hf (q ▸ f), fun v u r => r.ext y nC⟩

theorem v_ListComp {elt : Expr} {g : Comprehension} {gs : List Comprehension} {sc' : Scope} {pos : Pos} {items out : List It} {src : Src} (hok : compOk sc sc' g gs = true)
    (hI : X.VIter d sc loc g.iter σ items src σ₁) (hC : X.VComp d (relab sc') (freeLoc sc' loc) elt g gs src items σ₁ out σ₂) (hn : out.length ≤ 1000000) : X.VEval d sc loc (.ListComp elt (g :: gs) sc' pos) σ (.lst out) σ₂ := by
  intro A env ρ s Q E ok R L kq
  rw [eval_ListComp]
  refine comp_core hok hI hC hn ok R L fun ρ' h' tk D C x R' L' r m hr hb hf h0 _ => ?_
  obtain ⟨mm, hm⟩ := id m
  refine ⟨mm, hm, fun h'' hs => ?_⟩
  obtain ⟨x', R'', _, v'⟩ := letGo_after x R' L' m hr hb hf h0 hs
  exact kq ρ' h'' tk _ x' R'' (v' _ _ r)

theorem x_AssignComp {x : Str} {xp pos ps : Pos} {elt : Expr} {g : Comprehension} {gs : List Comprehension} {sc' : Scope} {items out : List It} {src : Src} (hok : compOk sc sc' g gs = true)
    (hI : X.VIter d sc loc g.iter σ items src σ₁) (hC : X.VComp d (relab sc') (freeLoc sc' loc) elt g gs src items σ₁ out σ₂) (hn : out.length ≤ 1000000) (hs : sto sc loc x (.lst out) = some loc') : X.VExec d sc loc (.Assign [.Name x xp] (.ListComp elt (g :: gs) sc' pos) ps) σ .next loc' σ₂ := by
  intro A env ρ s Q E ok R L kq
  have sw : ∃ b, swapsWith (.ListComp elt (g :: gs) sc' pos) (some (.Name x xp)) ps.line env = pure b := ⟨_, rfl⟩
  obtain ⟨b, sw⟩ := sw
  cases b with
  | false =>
    refine wpAny_Assign_Name (VEval.then (v_ListComp hok hI hC hn) ok R L fun ρ₁ s₁ k₁ u e₁ R₁ L₁ r₁ => ?_) sw
    exact sto_sound (s := { s with heap := s₁, toks := k₁ }) hs R₁ L₁ r₁ fun h' tk e₂ R₂ L₂ => kq ρ₁ h' tk _ (Ext.frame L e₁ e₂) R₂ L₂ rfl
  | true =>
    rw [exec_Assign_Name_used _ _ _ _ sw]
    refine wpAny_bind (wpAny_standAt (wpAny_bind ?_))
    show wpAny _ _ (comprehension (.ListComp elt (g :: gs) sc' pos) sc' env (firstIterPos (g :: gs) pos) (newList []) (firstAsync (g :: gs)) (firstIter (g :: gs) env) (some (assign (.Name x xp) env)) >>= fun _ => pure ()) _ _ _
    refine wpAny_bind (comp_core hok hI hC hn ok R L fun ρ' h' tk D C y R' L' r m hr hb hf h0 _ => ?_)
    refine wpAny_assign_Name (sto_sound (s := { s with heap := h', toks := tk }) hs R' L' r fun h₂ tk₂ e₂ R₂ L₂ => ?_)
    have y₂ : Ext (FP env) ρ ρ' s.heap h₂ := Ext.frame L y e₂
    obtain ⟨mm, hm⟩ := m
    have hm₂ : h₂.Ns C mm := hm.at fun o e => e₂.kept C o (Rho.not_own hr) hf e
    refine ⟨mm, hm₂, fun h₃ hs₃ => ?_⟩
    have nC : NoSeq (· = C) ρ' h₂ := fun b o q _ e => Ns.notSeq (q ▸ hm₂) e
    obtain ⟨R₃, y₃⟩ := R₂.frame (F := (· = C)) (fun b o hb' e => (hs₃.2 b hb').trans e) nC fun b q => by subst q; exact ⟨hr, hb⟩
    have L₃ := L₂.ext' y₃ nC fun b f q => hf (q ▸ f)
    have fin : Ext (FP env) ρ ρ' s.heap h₃ := by
      have e₂₃ : Ext (fun b => FP env b ∨ b = C) ρ' ρ' h' h₃ := (e₂.mono (fun b q => q.elim (fun f => ERel.live (s := { s with heap := h' }) L' b f) fun q => q ▸ let ⟨o, _, _, ho, _⟩ := hm; ⟨o, ho⟩) fun b f => .inl f).trans
        (y₃.mono (fun b q => q.elim (fun f => ERel.live (s := { s with heap := h₂ }) L₂ b f) fun q => q ▸ let ⟨o, _, _, ho, _⟩ := hm₂; ⟨o, ho⟩) fun b f => .inr f)
      exact y.then e₂₃ (ERel.live L) fun b q => q.elim .inl fun q => .inr (q ▸ h0)
    exact wpAny_pure (wpAny_pure (kq ρ' h₃ tk₂ _ fin R₃ L₃ rfl))
end
end Mine
end

-- part M14
section
namespace Mine
open PySem PySem.W PyProof.Rows PySem.Calls PySem.Spec

theorem cellsFrom_acc {x : Str} : ∀ (names : List (Str × NameKind)) (n : Nat) (acc : List (Str × Addr)), (acc.lookup x).isSome = true → ((cellsFrom n names acc).lookup x).isSome = true
  | [], _, _, h => h
  | (m, k) :: r, n, acc, h => by
    unfold cellsFrom
    split
    · refine cellsFrom_acc r _ _ ?_
      rw [lk_cons]
      split
      · rfl
      · exact h
    · exact cellsFrom_acc r _ _ h
theorem cellsFrom_find {x : Str} : ∀ (names : List (Str × NameKind)) (n : Nat) (acc : List (Str × Addr)), (x, NameKind.cell) ∈ names → ((cellsFrom n names acc).lookup x).isSome = true
  | (m, k) :: r, n, acc, h => by
    unfold cellsFrom
    rcases List.mem_cons.mp h with e | h
    · cases e
      rw [if_pos (beq_self_eq_true _)]
      refine cellsFrom_acc r _ _ ?_
      rw [lk_cons, if_pos rfl]; rfl
    · split <;> exact cellsFrom_find r _ _ h

theorem bindL_off {kindOf : Str → Option NameKind} {x : Str} : ∀ (binds : List (Str × Value)) (m : Str → Option Value), x ∉ binds.map (·.1) → bindL kindOf binds m x = m x
  | [], _, _ => rfl
  | (n, v) :: r, m, h => by
    rw [List.map_cons, List.mem_cons, not_or] at h
    unfold bindL
    rw [bindL_off r _ h.2]
    split
    · exact if_neg h.1
    · rfl
theorem bindL_at {kindOf : Str → Option NameKind} {x : Str} {u : Value} (hk : kindOf x = some .local) : ∀ (binds : List (Str × Value)) (m : Str → Option Value), (binds.map (·.1)).Nodup → binds.lookup x = some u → bindL kindOf binds m x = some u
  | (n, v) :: r, m, hn, h => by
    rw [List.map_cons, List.nodup_cons] at hn
    rw [lk_cons] at h
    unfold bindL
    split at h
    · rename_i e
      subst e
      cases h
      rw [bindL_off r _ hn.1, if_pos hk]
      exact if_pos rfl
    · exact bindL_at hk r _ hn.2 h
theorem bindC_off {kindOf : Str → Option NameKind} {x : Str} : ∀ (binds : List (Str × Value)) (m : Str → Option Value), x ∉ binds.map (·.1) → bindC kindOf binds m x = m x
  | [], _, _ => rfl
  | (n, v) :: r, m, h => by
    rw [List.map_cons, List.mem_cons, not_or] at h
    unfold bindC
    rw [bindC_off r _ h.2]
    split
    · rfl
    · exact if_neg h.1
theorem bindC_at {kindOf : Str → Option NameKind} {x : Str} {u : Value} (hk : kindOf x ≠ some .local) : ∀ (binds : List (Str × Value)) (m : Str → Option Value), (binds.map (·.1)).Nodup → binds.lookup x = some u → bindC kindOf binds m x = some u
  | (n, v) :: r, m, hn, h => by
    rw [List.map_cons, List.nodup_cons] at hn
    rw [lk_cons] at h
    unfold bindC
    split at h
    · rename_i e
      subst e
      cases h
      rw [bindC_off r _ hn.1, if_neg hk]
      exact if_pos rfl
    · exact bindC_at hk r _ hn.2 h

section
variable {ρ : Rho} {h : Heap}
theorem bindP_rel {ps : List Str} {vals : List V} {us : List Value} {loc : Loc} (hb : bindP ps vals = some loc) (r : VsRel ρ h vals us) : us.length = ps.length ∧ (∀ x v, loc.lookup x = some v → x ∈ ps ∧ ∃ u, (ps.zip us).lookup x = some u ∧ VRel ρ h v u) := by
  induction ps generalizing vals us loc with
  | nil =>
    cases vals with
    | nil => cases hb; cases r; exact ⟨rfl, fun x v e => by cases e⟩
    | cons => cases hb
  | cons p ps ih =>
    cases vals with
    | nil => cases hb
    | cons v vs =>
      obtain ⟨loc', h1, rfl⟩ := Option.map_eq_some_iff.mp hb
      cases r with | @cons _ _ u us a b =>
      obtain ⟨i1, i2⟩ := ih h1 b
      refine ⟨by simp [i1], fun x w e => ?_⟩
      rw [lk_cons] at e
      rw [List.zip_cons_cons, lk_cons]
      split at e
      · rename_i q; subst q; cases e; exact ⟨List.mem_cons_self, u, by rw [if_pos rfl], a⟩
      · rename_i q
        obtain ⟨m, u', h2, h3⟩ := i2 x w e
        exact ⟨List.mem_cons_of_mem _ m, u', by rw [if_neg q]; exact h2, h3⟩
theorem zip_keys {ps : List Str} {us : List Value} (h : us.length = ps.length) : (ps.zip us).map (·.1) = ps := List.map_fst_zip (Nat.le_of_eq h.symm)
theorem VsRel.app {xs ys : List V} {us vs : List Value} (a : VsRel ρ h xs us) (b : VsRel ρ h ys vs) : VsRel ρ h (xs ++ ys) (us ++ vs) := by
  induction a with
  | nil => exact b
  | cons q _ ih => exact .cons q ih
theorem VsRel.nones {df : List V} (hd : ∀ v ∈ df, v = .none) : VsRel ρ h df (df.map fun _ => Value.none) := by
  induction df with
  | nil => exact .nil
  | cons v r ih =>
    have := hd v List.mem_cons_self
    subst this
    exact .cons rfl (ih fun v hv => hd v (List.mem_cons_of_mem _ hv))
end

section
variable {X : Cx} {d : Nat} {A : Around} {env : Env} {ρ : Rho} {s : Shared} {sc : Scope} {loc loc' loc₁ : Loc} {σ σ' σ₁ σ₂ σ₃ : AS}

theorem Ok.deeper (ok : Ok d A) (hd : d < 25) (env : Env) : Ok (d + 1) (A.deeper env) :=
  ⟨ok.handled, by have := ok.depth; show A.depth + 1 ≤ _; omega, by have := ok.units; show A.units + 3 ≤ _; omega, by omega⟩

noncomputable def flV (f : Flow) : Value := match f with | .ret v => v | _ => .none
noncomputable def Cx.KR (X : Cx) (ρ : Rho) (s : Shared) (R : Result → Shared → Prop) (σ' : AS) (a : V) : Prop :=
  ∀ ρ' h' tk u, Ext noF ρ ρ' s.heap h' → X.SR ρ' σ' h' → VRel ρ' h' a u → R (.ok (.ret u)) { s with heap := h', toks := tk }
/-- a call of what lies at an address, as the machine's own code -/
noncomputable def Cx.VCallC (X : Cx) (d : Nat) (a : Addr) (args : List V) (kw : List (Str × V)) (σ : AS) (v : V) (σ' : AS) : Prop :=
  ∀ (A : Around) (ρ : Rho) (s : Shared) (vs : List Value) (kvs : List (Str × Value)) (R : Result → Shared → Prop), Ok d A → X.SR ρ σ s.heap →
    VsRel ρ s.heap args vs → kvs.map (·.1) = kw.map (·.1) → VsRel ρ s.heap (kw.map (·.2)) (kvs.map (·.2)) → X.KR ρ s R σ' v → codeAny (model X.prog X.w) A (.call (.ref a) ⟨vs, kvs⟩) R s
theorem Cx.VCallC.call {a : Addr} {args : List V} {kw : List (Str × V)} {v : V} (h : X.VCallC d a args kw σ v σ') : X.VCall d (.val (.ref a)) args kw σ v σ' := by
  intro A ρ s fv vs kvs Q E ok R rf ra ek rk kq
  cases rf
  exact wpAny_call (h A ρ s vs kvs _ ok R ra ek rk fun ρ' h' tk u x R' r => kq ρ' h' tk u x R' r)
/-- a function of the text is called: its block, from its own frame -/
theorem call_frame (G : Good X) {a : Addr} {f : Fn} {args : List V} {kw : List (Str × V)} {vs : List Value} {kvs : List (Str × Value)} {Rz : Result → Shared → Prop} (hf : X.S.fn a = some f) (hd : d < 25) (ok : Ok d A) (R : X.SR ρ σ s.heap)
    (hl : bindP f.ps (if (args ++ kw.map (·.2)).length < f.ps.length then args ++ kw.map (·.2) ++ f.df else args ++ kw.map (·.2)) = some loc) (hk : kw.map (·.1) = f.kwn.toList)
    (ra : VsRel ρ s.heap args vs) (ek : kvs.map (·.1) = kw.map (·.1)) (rk : VsRel ρ s.heap (kw.map (·.2)) (kvs.map (·.2)))
    (h : ∀ env h' tk A' o fd, FnOk X a f o fd → env.code = fd.code → env.qual = fd.qualname ++ ".<locals>." → (∀ b o, s.heap.get? b = some o → h'.get? b = some o) → (∀ b, FP env b → s.heap.get? b = none) → Ok (d + 1) A' → X.SR ρ σ h' → ERel X.hb ρ f.sc loc env h' →
      ∀ E', X.wp A' (execs f.body env) (fun fl s' => Rz (.ok (.ret (flV fl))) s') E' { s with heap := h', toks := tk }) :
    codeAny (model X.prog X.w) A (.call (.ref a) ⟨vs, kvs⟩) Rz s := by
  obtain ⟨o, fd, F⟩ := G.fn a f hf
  have hroom : A.depth < recursionLimit := by have := ok.depth; show A.depth < 1000; omega
  have lenA := vsRel_length ra
  have lenK := vsRel_length rk
  have rf : VsRel ρ s.heap (if (args ++ kw.map (·.2)).length < f.ps.length then args ++ kw.map (·.2) ++ f.df else args ++ kw.map (·.2)) (fullArgs f vs kvs) := by
    unfold fullArgs
    have e : (args ++ kw.map (·.2)).length = (vs ++ kvs.map (·.2)).length := by rw [List.length_append, List.length_append, lenA, lenK]
    rw [← e]
    split
    · exact (ra.app rk).app (VsRel.nones F.df)
    · exact ra.app rk
  obtain ⟨hlen, hloc⟩ := bindP_rel hl rf
  have keys := zip_keys hlen
  have off := R.offSize
  refine (codeAny_call_function hroom (R.base a o F.get) F.data (by rw [F.scope]; exact F.co) (by rw [F.scope]; exact F.gen) F.body (F.code.keeps R.base) (F.binds s vs kvs R.base (ek.trans hk) hlen _ _ _ _ ?_))
  rw [F.clo, F.scope, F.gl, F.bi]
  refine wpAny_newFunctionEnv_cells F.kind (fun p hp => ?_) fun env' he s' x => ?_
  · have m : p.1 ∈ f.ps := by rw [← keys]; exact List.mem_map.mpr ⟨p, hp, rfl⟩
    rcases F.ps p.1 m with q | q
    · exact .inl q
    · exact .inr ⟨q, cellsFrom_find _ _ _ (lk_mem q)⟩
  · obtain ⟨hsame, hns, hkeep, _⟩ := id x.toInCall
    obtain ⟨h', tk, rfl⟩ := hsame
    dsimp only at hns hkeep
    have eL : env'.locals = s.heap.objs.size := by rw [he]; rfl
    have eS : env'.scope = f.sc := by rw [he]; rfl
    have eC : env'.cells = cellsFrom (s.heap.objs.size + 1) f.sc.names [] := by rw [he]; rfl
    have eG : env'.globals = mainGlobals := by rw [he]; rfl
    have eB : env'.builtins = builtinsNs := by rw [he]; rfl
    have eK : ∀ y, env'.kindOf y = f.sc.names.lookup y := fun y => by unfold Env.kindOf; rw [eS]
    have R' := R.keeps hkeep
    have up : ∀ n c, env'.cells.lookup n = some c → s.heap.objs.size < c := fun n c e => eL ▸ x.above n c (mem_of_lookup e)
    have none_of : ∀ c, s.heap.objs.size ≤ c → s.heap.get? c = none := fun c hc => Heap.get?_none_of_le hc
    have fpn : ∀ b, FP env' b → s.heap.get? b = none := by
      rintro b (rfl | ⟨y, e⟩)
      · exact none_of _ (Nat.le_of_eq eL.symm)
      · exact none_of _ (Nat.le_of_lt (up y b e))
    have offT : ∀ b, s.heap.get? b = none → b ∉ ρ.flatten ∧ X.hb.get? b = none := fun b hb => by
      refine ⟨fun q => ?_, ?_⟩
      · obtain ⟨o, e⟩ := R.there b q; rw [hb] at e; cases e
      · cases q : X.hb.get? b with
        | none => rfl
        | some o => have := R.base b o q; rw [hb] at this; cases this
    have L' : ERel X.hb ρ f.sc loc env' h' := by
      refine ⟨eS, F.kind, eG, eB, ⟨_, hns, fun y v e k => ?_⟩, fun y k => ?_, fun y v e => ?_, fun y z c e1 e2 => ?_, ?_, fun y c e => ?_⟩
      · obtain ⟨_, u, h1, h2⟩ := hloc y v e
        exact ⟨u, bindL_at ((eK y).trans k) _ _ (keys.symm ▸ F.nd) h1, h2.keeps hkeep⟩
      · have k : f.sc.names.lookup y = some .cell := by
          rcases k with k | ⟨k, _⟩
          · exact k
          · exact absurd k (F.nofree y)
        have hs : (env'.cells.lookup y).isSome = true := by rw [eC]; exact cellsFrom_find _ _ _ (lk_mem k)
        obtain ⟨c, hc⟩ := Option.isSome_iff_exists.mp hs
        refine ⟨c, _, hc, x.cell y c hc, fun v e => ?_⟩
        obtain ⟨_, u, h1, h2⟩ := hloc y v e
        exact ⟨u, bindC_at (by rw [eK, k]; decide) _ _ (keys.symm ▸ F.nd) h1, h2.keeps hkeep⟩
      · exact (F.ps y (hloc y v e).1).imp id .inl
      · exact name_of_addr x.apart (mem_of_lookup e1) (mem_of_lookup e2)
      · exact offT _ (fpn _ (.inl rfl))
      · obtain ⟨q1, q2⟩ := offT c (fpn c (.inr ⟨y, e⟩))
        exact ⟨q1, q2, fun q => absurd (up y c e) (by rw [q, eL]; exact Nat.lt_irrefl _), _, x.cell y c e⟩
    refine ⟨(G.lim.keeps R.base).keeps hkeep, codeAny_func ?_⟩
    refine wp_mono (h env' h' tk (A.deeper env') o fd F (by rw [he]; rfl) (by rw [he]; rfl) hkeep fpn (ok.deeper hd env') R' L' _) fun fl s' q => ?_
    cases fl <;> exact q

theorem FlRel.val {f : Flw} {fl : Flow} {h : Heap} (r : FlRel ρ h f fl) (hf : f ≠ .cont) : VRel ρ h (retOf f) (flV fl) := by
  cases f with
  | next => cases r; exact rfl
  | cont => exact absurd rfl hf
  | ret v => obtain ⟨u, rfl, q⟩ := r; exact q

theorem c_inl (G : Good X) {a : Addr} {f : Fn} {args : List V} {kw : List (Str × V)} {fl : Flw} (hf : X.S.fn a = some f) (hd : d < 25)
    (hl : bindP f.ps (if (args ++ kw.map (·.2)).length < f.ps.length then args ++ kw.map (·.2) ++ f.df else args ++ kw.map (·.2)) = some loc) (hk : kw.map (·.1) = f.kwn.toList)
    (hb : X.VExecs (d + 1) f.sc loc f.body σ fl loc' σ₁) (hc : fl ≠ .cont) : X.VCallC d a args kw σ (retOf fl) σ₁ := by
  intro A ρ s vs kvs Q ok R ra ek rk kq
  refine call_frame G hf hd ok R hl hk ra ek rk fun env h' tk A' _ _ _ _ _ hkeep fpn ok' R' L' E' => ?_
  refine hb A' env ρ { s with heap := h', toks := tk } _ E' ok' R' L' fun ρ₁ h₁ tk₁ g x₁ R₁ L₁ r₁ => ?_
  have x₀ : Ext noF ρ ρ s.heap h' := Ext.of_keeps hkeep
  exact kq ρ₁ h₁ tk₁ _ (x₀.then x₁ (fun _ f => f.elim) fun b f => .inr (fpn b f)) R₁ (FlRel.val r₁ hc)

/-- a value that leads to no tracked object -/
theorem VRel.flat {h : Heap} {v : V} {u : Value} (r : VRel ρ h v u) (hf : flat v = true) {ρ' : Rho} (hs : ∀ a, a ∈ ρ'.flatten → a ∈ ρ.flatten) : VRel ρ' h v u := by
  cases v with
  | none => exact r
  | bool b => exact r
  | it i => exact ItRel.sub r hs
  | lst xs => obtain ⟨l, vs, e, hl, hL, hi⟩ := r; exact ⟨l, vs, e, fun m => hl (hs l m), hL, hi.sub hs⟩
  | val u => exact r
  | own i => cases hf
theorem VsRel.flat {h : Heap} {vs : List V} {us : List Value} (r : VsRel ρ h vs us) (hf : vs.all Mine.flat = true) {ρ' : Rho} (hs : ∀ a, a ∈ ρ'.flatten → a ∈ ρ.flatten) : VsRel ρ' h vs us := by
  induction r with
  | nil => exact .nil
  | cons a _ ih =>
    rw [List.all_cons, Bool.and_eq_true] at hf
    exact .cons (VRel.flat a hf.1 hs) (ih hf.2)

theorem c_pure (G : Good X) {a : Addr} {f : Fn} {args : List V} {kw : List (Str × V)} {fl : Flw} {τ : AS} {v : V} (hf : X.S.fn a = some f) (hd : d < 25)
    (hl : bindP f.ps (if (args ++ kw.map (·.2)).length < f.ps.length then args ++ kw.map (·.2) ++ f.df else args ++ kw.map (·.2)) = some loc) (hk : kw.map (·.1) = f.kwn.toList)
    (h1 : args.all flat = true) (h2 : (kw.map (·.2)).all flat = true) (hb : X.VExecs (d + 1) f.sc loc f.body [] fl loc' τ) (hc : fl ≠ .cont) (hv : freeze τ (retOf fl) = v) (hfl : flat v = true) : X.VCallC d a args kw σ v σ := by
  intro A ρ s vs kvs Q ok R ra ek rk kq
  have hs : ∀ a, a ∈ (⟨[], ρ.flatten⟩ : Rho).flatten → a ∈ ρ.flatten := fun a ha => by simpa [Rho.flatten] using ha
  have R₀ : X.SR ⟨[], ρ.flatten⟩ [] s.heap := ⟨R.base, rfl, fun i fp o e => (by cases e), (by simpa [Rho.flatten] using R.nd), fun a ha => R.fresh a (hs a ha), fun a ha => R.there a (hs a ha)⟩
  refine call_frame G hf hd ok R₀ hl hk (VsRel.flat ra h1 hs) ek (VsRel.flat rk h2 hs) fun env h' tk A' _ _ _ _ _ hkeep fpn ok' R' L' E' => ?_
  refine hb A' env _ { s with heap := h', toks := tk } _ E' ok' R' L' fun ρ₁ h₁ tk₁ g x₁ R₁ L₁ r₁ => ?_
  have x₀ : Ext noF ⟨[], ρ.flatten⟩ ⟨[], ρ.flatten⟩ s.heap h' := Ext.of_keeps hkeep
  have x : Ext noF ⟨[], ρ.flatten⟩ ρ₁ s.heap h₁ := x₀.then x₁ (fun _ f => f.elim) fun b f => .inr (fpn b f)
  have kp : ∀ b o, s.heap.get? b = some o → h₁.get? b = some o := fun b o e => x.kept b o (by simp) id e
  obtain ⟨m, p, e1, e2, e3⟩ := x.more
  have up : ∀ a, a ∈ ρ.flatten → a ∈ ρ₁.flatten := fun a ha => by
    unfold Rho.flatten
    rw [e2]
    exact List.mem_append_right _ (List.mem_append_right _ ha)
  have rv := FlRel.val r₁ hc
  have rr : VRel ρ h₁ v (flV g) := by
    subst hv
    cases q : retOf fl with
    | own i =>
      rw [q] at rv hfl
      unfold freeze at hfl ⊢
      dsimp only at hfl ⊢
      split at hfl
      · rename_i xs ho
        obtain ⟨l, r, hi, e⟩ := rv
        rw [e]
        obtain ⟨l', us, el, hL, hx⟩ := R₁.objs i _ _ hi ho
        cases el
        refine ⟨l, us, rfl, fun hm => ?_, hL, hx.sub up⟩
        have : l ∈ m.flatten := by
          have z : l ∈ ρ₁.own.flatten := List.mem_flatten.mpr ⟨_, List.mem_of_getElem? hi, List.mem_cons_self⟩
          rw [e1] at z; simpa using z
        have := (e3 l (List.mem_append_left _ this)).1
        obtain ⟨o, e⟩ := R.there l hm
        rw [this] at e; cases e
      · cases hfl
    | _ => rw [q] at rv hfl; exact VRel.flat rv hfl up
  exact kq ρ h₁ tk₁ _ (Ext.of_keeps kp) (R.keeps kp) rr
end
end Mine
end

-- part M15
section
namespace Mine
open PySem PySem.W PyProof.Rows PySem.Calls PySem.Spec

-- calls in a tree
theorem starEach_plain {env : Env} {pos : Pos} : ∀ {es : List Expr}, es.all notStar = true → (backTo pos (starEach es env)).any (·.1) = false
  | [], _ => rfl
  | e :: es, h => by
    rw [List.all_cons, Bool.and_eq_true] at h
    rw [starEach_cons h.1]
    unfold backTo
    rw [List.map_cons, List.any_cons]
    have := starEach_plain (env := env) (pos := pos) h.2
    unfold backTo at this
    rw [this]; rfl
theorem evalArgs_any {M : Model} {A : Around} {E : Value → Shared → Prop} {s : Shared} {f : Value} {trees : List (Bool × Sem Value)} {Q : Args → Shared → Prop} (hp : trees.any (·.1) = false)
    (h : wpAny M A (spliced trees) (fun vs s' => Q ⟨vs, []⟩ s') E s) : wpAny M A (evalArgs f true trees []) Q E s := by
  cases trees with
  | nil =>
    have h' : Q ⟨[], []⟩ s ∨ True := .inr trivial
    unfold evalArgs
    show wpAny M A (spliced [] >>= _) Q E s
    refine wpAny_bind (wpAny_mono h (fun vs s' q => ?_) fun _ _ x => x)
    refine wpAny_bind (wpAny_pure ?_)
    refine wpAny_holding ?_
    exact wpAny_bind (wpAny_pure (wpAny_bind (wpAny_pure (wpAny_pure q))))
  | cons t r =>
    obtain ⟨b, x⟩ := t
    rw [List.any_cons, Bool.or_eq_false_iff] at hp
    obtain ⟨rfl, _⟩ := hp
    exact Calls.evalArgs_plain h
theorem calleeCases {S : Setup} {v : V} (h : calleeOk S v = true) : (∃ i, v = .val (.builtin i)) ∨ (∃ T, v = .val (.type T)) ∨ ∃ a, v = .val (.ref a) ∧ S.keep a = true := by
  unfold calleeOk at h
  split at h
  · exact .inl ⟨_, rfl⟩
  · exact .inr (.inl ⟨_, rfl⟩)
  · exact .inr (.inr ⟨_, rfl, h⟩)
  · cases h

section
variable {X : Cx} {d : Nat} {A : Around} {env : Env} {ρ : Rho} {s : Shared} {sc : Scope} {loc loc' loc₁ : Loc} {σ σ' σ₁ σ₂ σ₃ : AS}

/-- a callee and its arguments, evaluated -/
theorem callWith_any (G : Good X) {f : V} {u : Value} {as : List Expr} {pos : Pos} {first : List Value} {vs : List V} {Q : Value → Shared → Prop} {E : Value → Shared → Prop} (hf : calleeOk X.S f = true) (hu : VRel ρ s.heap f u) (ha : as.all notStar = true)
    (h2 : X.VEvals d sc loc as σ vs σ₁) (ok : Ok d A) (R : X.SR ρ σ s.heap) (L : ERel X.hb ρ sc loc env s.heap)
    (h : ∀ ρ' h' tk us, Ext noF ρ ρ' s.heap h' → X.SR ρ' σ₁ h' → ERel X.hb ρ' sc loc env h' → VsRel ρ' h' vs us → X.wp A (PySem.call u (first ++ us) []) Q E { s with heap := h', toks := tk }) :
    X.wp A (callWith pos u first (backTo pos (starEach as env)) []) Q E s := by
  have hp := starEach_plain (env := env) (pos := pos) ha
  have body : ∀ (P : Args → Shared → Prop), (∀ ρ' h' tk us, Ext noF ρ ρ' s.heap h' → X.SR ρ' σ₁ h' → ERel X.hb ρ' sc loc env h' → VsRel ρ' h' vs us → P ⟨us, []⟩ { s with heap := h', toks := tk }) →
      X.wp A (evalArgs u true (backTo pos (starEach as env)) []) P E s := fun P hP => evalArgs_any hp (VEvals.then h2 ok R L hP)
  rcases calleeCases hf with ⟨i, rfl⟩ | ⟨T, rfl⟩ | ⟨a, rfl, hk⟩
  · cases hu; exact Calls.callWith_builtin hp (body _ h)
  · cases hu; exact PySem.callWith_type hp (body _ h)
  · cases hu
    refine callWith_of (P := X.K.In) (by rw [hp]; rfl) (keeps_K (G.keep a hk)) (body _ fun ρ' h' tk us x R' L' r => ⟨G.kin.keeps R'.base, h ρ' h' tk us x R' L' r⟩)
theorem callName (G : Good X) {x : Str} {xp pos : Pos} {f : V} {as : List Expr} {vs : List V} {Q : Value → Shared → Prop} {E : Value → Shared → Prop} (hf : calleeOk X.S f = true) (ha : as.all notStar = true)
    (h1 : X.VEval d sc loc (.Name x xp) σ f σ₁) (h2 : X.VEvals d sc loc as σ₁ vs σ₂) (ok : Ok d A) (R : X.SR ρ σ s.heap) (L : ERel X.hb ρ sc loc env s.heap)
    (h : ∀ ρ' h' tk u us, Ext noF ρ ρ' s.heap h' → X.SR ρ' σ₂ h' → ERel X.hb ρ' sc loc env h' → VRel ρ' h' f u → VsRel ρ' h' vs us → X.wp A (PySem.call u us []) Q E { s with heap := h', toks := tk }) :
    X.wp A (eval (.Call (.Name x xp) as [] pos) env) Q E s := by
  refine Call_Name rfl (VEval.then h1 ok R L fun ρ₁ s₁ k₁ u e₁ R₁ L₁ r₁ => ?_)
  refine callWith_any (s := { s with heap := s₁, toks := k₁ }) G hf r₁ ha h2 ok R₁ L₁ fun ρ₂ s₂ k₂ us e₂ R₂ L₂ r₂ => ?_
  exact h ρ₂ s₂ k₂ u us (e₁.trans e₂) R₂ L₂ (r₁.ext e₂ (noSeq_none _ _)) r₂
theorem v_CallName (G : Good X) {x : Str} {xp pos : Pos} {f a : V} {as : List Expr} {vs : List V} (hf : calleeOk X.S f = true) (ha : as.all notStar = true)
    (h1 : X.VEval d sc loc (.Name x xp) σ f σ₁) (h2 : X.VEvals d sc loc as σ₁ vs σ₂) (h3 : X.VCall d f vs [] σ₂ a σ₃) : X.VEval d sc loc (.Call (.Name x xp) as [] pos) σ a σ₃ := by
  intro A env ρ s Q E ok R L kq
  refine callName G hf ha h1 h2 ok R L fun ρ₁ s₁ k₁ u us e₁ R₁ L₁ r₁ r₂ => ?_
  exact h3 A ρ₁ { s with heap := s₁, toks := k₁ } u us [] Q E ok R₁ r₁ r₂ rfl .nil fun ρ₂ s₂ k₂ z e₂ R₂ rz => kq ρ₂ s₂ k₂ z (e₁.trans e₂) R₂ rz

-- iterators
noncomputable def owners : List String := ["enumerate", "zip", "dict_itemiterator", "dict_reverseitemiterator", "odict_iterator", "itertools.zip_longest", "itertools.pairwise"]
theorem go_plain {t : Expr} {I : Addr} {v : Value} {o : Obj} {T : String} {Q : Unit → Shared → Prop} {E : Value → Shared → Prop} (ho : s.heap.get? I = some o) (hc : o.cls = .type T) (hn : owners.contains T = false) (hq : Q () s) : X.wp A (letOwnedTupleGo t (.ref I) v) Q E s := by
  have core : ∀ (a : Addr), X.wp A (do
      let o ← load I
      match o.cls, o.data with
      | .type n, .fields vs =>
        if owners.contains n && vs[0]? == some (rawInt a) then
          rule "for.unpacks-the-owned-tuple"
          updateField I 0 .none
      | _, _ => pure () : Sem Unit) Q E s := fun a => by
    refine wpAny_bind (wpAny_load ho ?_)
    rw [hc]
    split
    · rename_i n vs e1 _
      cases e1
      rw [hn]
      exact wpAny_pure hq
    · exact wpAny_pure hq
  unfold letOwnedTupleGo
  cases t <;> first
    | exact wpAny_pure hq
    | (cases v <;> first
        | exact wpAny_pure hq
        | exact core _)

theorem iter_walks {I : Addr} {fp wr : List Addr} {n : Nat} {P : Nat → Value → Prop} {St : Nat → Heap → Prop} (W : Walks X.prog X.w A I fp wr n P St) (all : List It) (hn : all.length = n) (hb : ∀ b ∈ wr, X.hb.get? b = none)
    (hlive : ∀ i h, St i h → ∀ b ∈ fp, ∃ o, h.get? b = some o) (hns : ∀ i h, St i h → ∀ b ∈ wr, ∀ o, h.get? b = some o → ∀ ys m, o.data ≠ .seq ys m) (hcl : ∀ i h, St i h → ∃ o T, h.get? I = some o ∧ o.cls = .type T ∧ owners.contains T = false) :
    Iter X A (.ref I) wr fp {} (fun xs ρ _ h => ∃ i, i ≤ n ∧ xs = all.drop i ∧ St i h ∧ (∀ b ∈ fp, b ∉ ρ.own.flatten) ∧ (∀ b ∈ wr, b ∉ ρ.flatten) ∧ ∀ j v, j < n → P j v → ∃ x, all[j]? = some x ∧ ItRel ρ.flatten h x v)
      (fun _ xs ρ _ h => ∃ i, i ≤ n ∧ xs = all.drop i ∧ St i h ∧ (∀ b ∈ fp, b ∉ ρ.own.flatten) ∧ (∀ b ∈ wr, b ∉ ρ.flatten) ∧ ∀ j v, j < n → P j v → ∃ x, all[j]? = some x ∧ ItRel ρ.flatten h x v) where
  sub := W.sub
  frame := fun {xs ρ ρ' σ σ' h h' F} st x nF R' hF hg => by
    obtain ⟨i, h1, h2, h3, h4, h5, h6⟩ := st
    have k : ∀ b ∈ fp, ∀ o, h.get? b = some o → h'.get? b = some o := fun b hb o e => x.kept b o (h4 b hb) (hF b hb) e
    obtain ⟨m, p, e1, e2, e3⟩ := x.more
    refine ⟨i, h1, h2, W.frame i h h' h3 k, fun b hb q => ?_, fun b hb q => ?_, fun j v hj pj => ?_⟩
    · rw [e1, List.flatten_append, List.mem_append] at q
      rcases q with q | q
      · exact h4 b hb q
      · obtain ⟨o, e⟩ := hlive i h h3 b hb
        rw [(e3 b (List.mem_append_left _ q)).1] at e; cases e
    · rcases (Rho.mem_more e1 e2).mp q with q | q
      · exact h5 b hb q
      · obtain ⟨o, e⟩ := hlive i h h3 b (W.sub b hb)
        rw [(e3 b q).1] at e; cases e
    · obtain ⟨y, a, b⟩ := h6 j v hj pj
      exact ⟨y, a, b.ext x nF⟩
  okAt := fun _ => rfl
  freshJ := hb
  apart' := fun st b hb => by obtain ⟨i, _, _, h3, h4, _⟩ := st; exact ⟨h4 b hb, hlive i _ h3 b hb⟩
  apart := fun st b hb => by obtain ⟨i, _, _, h3, h4, _⟩ := st; exact ⟨h4 b hb, hlive i _ h3 b hb⟩
  noSeq := fun st b o hb _ e => by obtain ⟨i, _, _, h3, _⟩ := st; exact hns i _ h3 b hb o e
  noSeq' := fun st b o hb _ e => by obtain ⟨i, _, _, h3, _⟩ := st; exact hns i _ h3 b hb o e
  item := fun x xs ρ σ s Q E st R hQ => by
    obtain ⟨i, h1, h2, h3, h4, h5, h6⟩ := st
    have hi : i < n := by
      rcases Nat.lt_or_ge i n with h | h
      · exact h
      · rw [List.drop_eq_nil_of_le (by omega)] at h2; cases h2
    refine W.item i s Q E hi h3 fun v h' tk pv st' k => ?_
    have xk : Ext (· ∈ wr) ρ ρ s.heap h' := by
      refine ⟨⟨[], [], by simp, rfl, by simp⟩, fun b o _ q e => k b o q e, fun b o q e => ⟨o, k b o q e⟩⟩
    have nW : NoSeq (· ∈ wr) ρ s.heap := fun b o hb _ e => hns i _ h3 b hb o e
    have h6' : ∀ j v, j < n → P j v → ∃ x, all[j]? = some x ∧ ItRel ρ.flatten h' x v := fun j v hj pj => by
      obtain ⟨y, a, b⟩ := h6 j v hj pj
      exact ⟨y, a, b.ext xk nW⟩
    obtain ⟨y, hy, r⟩ := h6' i v hi pv
    have hx : all[i]? = some x ∧ all.drop (i + 1) = xs := drop_get h2.symm
    rw [hx.1] at hy; cases hy
    exact hQ v h' tk r ⟨i + 1, hi, hx.2.symm, st', h4, h5, h6'⟩ k fun b hb hp => absurd (List.mem_append_right _ hp) (h5 b hb)
  go := fun t v xs ρ σ s Q E _ st hQ => by
    obtain ⟨i, h1, h2, h3, h4⟩ := id st
    obtain ⟨o, T, ho, hc, hno⟩ := hcl i _ h3
    have h5 := h4.2.1
    exact go_plain ho hc hno (hQ s.heap st (fun _ _ _ e => e) fun b hb hp => absurd (List.mem_append_right _ hp) (h5 b hb))
  done := fun ρ σ s Q E st R hQ => by
    obtain ⟨i, h1, h2, h3, h4, h5, h6⟩ := st
    have hi : i = n := by
      rcases Nat.lt_or_ge i n with h | h
      · have := congrArg List.length h2
        rw [List.length_drop, List.length_nil] at this; omega
      · omega
    subst hi
    exact W.done s Q E h3 fun h' tk k => hQ h' tk k fun b hb hp => absurd (List.mem_append_right _ hp) (h5 b hb)
  self := fun xs ρ σ s Q E st hq => by
    obtain ⟨i, h1, h2, h3, _⟩ := st
    exact W.self i s Q E h3 hq
end
end Mine
end

-- part M16
section
namespace Mine
open PySem PySem.W PyProof.Rows PySem.Calls PySem.Spec

theorem folded_pure {e : Expr} (h : notSet e = true) (env : Env) (x : Value) : foldedSetIterable e env x = pure x := by
  cases e <;> first | rfl | cases h

theorem itsRel_get {T : List Addr} {h : Heap} {xs : List It} {vs : List Value} (r : ItsRel T h xs vs) {i : Nat} {v : Value} (hv : vs[i]? = some v) : ∃ x, xs[i]? = some x ∧ ItRel T h x v := by
  induction r generalizing i with
  | nil => simp at hv
  | cons a _ ih =>
    cases i with
    | zero => simp at hv; subst hv; exact ⟨_, by simp, a⟩
    | succ i => simp at hv; obtain ⟨x, h1, h2⟩ := ih hv; exact ⟨x, by simpa using h1, h2⟩
theorem itsRel_get' {T : List Addr} {h : Heap} {xs : List It} {vs : List Value} (r : ItsRel T h xs vs) {i : Nat} {x : It} (hx : xs[i]? = some x) : ∃ v, vs[i]? = some v ∧ ItRel T h x v := by
  induction r generalizing i with
  | nil => simp at hx
  | cons a _ ih =>
    cases i with
    | zero => simp at hx; subst hx; exact ⟨_, by simp, a⟩
    | succ i => simp at hx; obtain ⟨v, h1, h2⟩ := ih hx; exact ⟨v, by simpa using h1, h2⟩
theorem atSame_refl (a : At) : atSame a a = true := by cases a <;> exact decide_eq_true rfl
theorem itSame_refl (a : It) : itSame a a = true := by
  cases a with
  | «at» a => exact atSame_refl a
  | pair x y => exact Bool.and_eq_true_iff.mpr ⟨atSame_refl x, atSame_refl y⟩
theorem itsSame_refl : ∀ xs : List It, itsSame xs xs = true
  | [] => rfl
  | a :: r => by unfold itsSame; rw [itSame_refl, itsSame_refl r]; rfl
theorem atSame_eq {a b : At} (h : atSame a b = true) : a = b := by
  cases a with
  | int i => cases b with
    | int j => exact congrArg At.int (of_decide_eq_true h)
    | str => exact nob h
  | str i => cases b with
    | int => exact nob h
    | str j => exact congrArg At.str (of_decide_eq_true h)
theorem itSame_eq {a b : It} (h : itSame a b = true) : a = b := by
  cases a with
  | «at» x => cases b with
    | «at» y => exact congrArg It.at (atSame_eq h)
    | pair => exact nob h
  | pair x y => cases b with
    | «at» => exact nob h
    | pair u v => rw [atSame_eq (and_ h).1, atSame_eq (and_ h).2]
theorem itsSame_eq : ∀ {xs ys : List It}, itsSame xs ys = true → xs = ys
  | [], [], _ => rfl
  | a :: r, b :: q, h => by
    unfold itsSame at h
    rw [Bool.and_eq_true] at h
    rw [itSame_eq h.1, itsSame_eq h.2]

section
variable {X : Cx} {d : Nat} {A : Around} {env : Env} {ρ : Rho} {s : Shared} {sc : Scope} {loc loc' loc₁ : Loc} {σ σ' σ₁ σ₂ σ₃ : AS}

theorem newOff {h : Heap} (R : X.SR ρ σ h) : h.objs.size ∉ ρ.flatten ∧ X.hb.get? h.objs.size = none := by
  refine ⟨R.offSize, ?_⟩
  cases q : X.hb.get? h.objs.size with
  | none => rfl
  | some o => have := R.base _ o q; rw [size_none] at this; cases this

theorem back_none {h h' : Heap} (x : Ext noF ρ ρ' h h') {a : Addr} (ha : h'.get? a = none) : h.get? a = none := by
  cases q : h.get? a with
  | none => rfl
  | some o => obtain ⟨o', e'⟩ := x.there a o id q; rw [ha] at e'; cases e'

/-- a frozen list is walked -/
theorem i_lst {e : Expr} {xs : List It} (hs : notSet e = true) (h1 : X.VEval d sc loc e σ (.lst xs) σ₁) : X.VIter d sc loc e σ xs {} σ₁ := by
  refine ⟨fun env x => folded_pure hs env x, fun A env ρ s Q E ok R L kq => ?_⟩
  refine VEval.then h1 ok R L fun ρ₁ s₁ k₁ u e₁ R₁ L₁ r₁ => ?_
  obtain ⟨l, vs, rfl, hl, hP, hx⟩ := r₁
  have hL := hP.isList
  refine wpAny_pyIter_list (s := { s with heap := s₁, toks := k₁ }) hL ?_
  obtain ⟨n1, n2⟩ := newOff R₁
  have hI := size_none s₁
  have hg : (s₁.push { cls := .type "list_iterator", data := .fields #[.ref l, .int 0 0] }).get? s₁.objs.size = some _ := Heap.get?_push_size _ rfl
  have k₂ : ∀ b o, s₁.get? b = some o → (s₁.push { cls := .type "list_iterator", data := .fields #[.ref l, .int 0 0] }).get? b = some o := push_keeps
  have hne : l ≠ s₁.objs.size := fun e => by obtain ⟨o, ho, _⟩ := hL; rw [e, hI] at ho; cases ho
  have hL₂ := hL
  obtain ⟨ol, hol, hcl, hdl⟩ := hL
  have hL' : (s₁.push { cls := .type "list_iterator", data := .fields #[.ref l, .int 0 0] }).IsList l vs.toArray := ⟨ol, k₂ _ _ hol, hcl, hdl⟩
  refine kq ρ₁ _ k₁ (.ref s₁.objs.size) [s₁.objs.size] [s₁.objs.size, l] _ _ (e₁.trans (Ext.of_keeps push_keeps)) (R₁.keeps push_keeps)
    (iter_walks (Walks.list ok.handled s₁.objs.size l hne vs.toArray) xs (by rw [itsRel_length hx]; simp) (fun b hb => by rw [List.mem_singleton.mp hb]; exact n2) ?_ ?_ ?_) ?_ ?_ ?_ ?_
  · intro i h st b hb
    rcases List.mem_cons.mp hb with rfl | hb
    · obtain ⟨o, ho, _⟩ := st.1; exact ⟨o, ho⟩
    · rw [List.mem_singleton.mp hb]; obtain ⟨o, ho, _⟩ := st.2; exact ⟨o, ho⟩
  · intro i h st b hb o ho ys m e
    rw [List.mem_singleton.mp hb] at ho
    obtain ⟨o', ho', _, hd⟩ := st.1
    rw [ho'] at ho; cases ho
    rw [hd] at e; cases e
  · intro i h st
    obtain ⟨o, ho, hc, _⟩ := st.1
    exact ⟨o, "list_iterator", ho, hc, by decide⟩
  · refine ⟨0, Nat.zero_le _, by simp, ⟨⟨_, hg, rfl, rfl⟩, hL'⟩, fun b hb => ?_, fun b hb => by rw [List.mem_singleton.mp hb]; exact n1, fun j v hj pj => ?_⟩
    · rcases List.mem_cons.mp hb with rfl | hb
      · exact Rho.not_own n1
      · rw [List.mem_singleton.mp hb]; exact Rho.not_own hl
    · exact itsRel_get (hx.ext (F := noF) (Ext.of_keeps k₂) (noSeq_none _ _)) (by simpa using pj)
  · intro b hb; rw [List.mem_singleton.mp hb]; exact back_none e₁ hI
  · intro b f hb
    rcases List.mem_cons.mp hb with rfl | hb
    · obtain ⟨o, e⟩ := ERel.live (s := { s with heap := s₁ }) L₁ _ f; dsimp only at e; rw [hI] at e; cases e
    · rw [List.mem_singleton.mp hb] at f
      obtain ⟨n, hd⟩ := hdl
      exact ERel.noSeq L₁ l ol f hl hol _ _ hd
  · intro b hb hm
    have hb' : b ∈ ρ₁.flatten := List.mem_append_right _ (ext_priv e₁ hb)
    rcases List.mem_cons.mp hm with rfl | hm
    · exact n1 hb'
    · rw [List.mem_singleton.mp hm] at hb'; exact hl hb'

/-- a text is walked -/
theorem i_str {e : Expr} {x : Str} (hs : notSet e = true) (h1 : X.VEval d sc loc e σ (.str x) σ₁) : X.VIter d sc loc e σ (chars x) {} σ₁ := by
  refine ⟨fun env x => folded_pure hs env x, fun A env ρ s Q E ok R L kq => ?_⟩
  refine VEval.then h1 ok R L fun ρ₁ s₁ k₁ u e₁ R₁ L₁ r₁ => ?_
  obtain ⟨t, rfl⟩ := r₁
  obtain ⟨n1, n2⟩ := newOff R₁
  have hI := size_none s₁
  have hch : (chars x).length = x.cps.size := by simp [chars]
  have gen : ∀ (T : String), owners.contains T = false → Walks X.prog X.w A s₁.objs.size [s₁.objs.size] [s₁.objs.size] x.cps.size (SignAt x) (fun i h => h.IsStrIter s₁.objs.size T x t i) →
      X.wp A (pyIter (.str x t)) Q E { s with heap := s₁, toks := k₁ } ∨ Q (.ref s₁.objs.size) { s with heap := s₁.push { cls := .type T, data := .fields #[.str x t, .int 0 0] }, toks := k₁ } := fun T hT W => by
    right
    have hg : (s₁.push { cls := .type T, data := .fields #[.str x t, .int 0 0] }).get? s₁.objs.size = some _ := Heap.get?_push_size _ rfl
    refine kq ρ₁ _ k₁ (.ref s₁.objs.size) [s₁.objs.size] [s₁.objs.size] _ _ (e₁.trans (Ext.of_keeps push_keeps)) (R₁.keeps push_keeps)
      (iter_walks W (chars x) hch (fun b hb => by rw [List.mem_singleton.mp hb]; exact n2) ?_ ?_ ?_) ?_ ?_ ?_ ?_
    · intro i h st b hb
      rw [List.mem_singleton.mp hb]; obtain ⟨o, ho, _⟩ := st; exact ⟨o, ho⟩
    · intro i h st b hb o ho ys m e
      rw [List.mem_singleton.mp hb] at ho
      obtain ⟨o', ho', _, hd⟩ := st
      rw [ho'] at ho; cases ho
      rw [hd] at e; cases e
    · intro i h st
      obtain ⟨o, ho, hc, _⟩ := st
      exact ⟨o, T, ho, hc, hT⟩
    · refine ⟨0, Nat.zero_le _, by simp, ⟨_, hg, rfl, rfl⟩, fun b hb => by rw [List.mem_singleton.mp hb]; exact Rho.not_own n1, fun b hb => by rw [List.mem_singleton.mp hb]; exact n1, fun j v hj pj => ?_⟩
      obtain ⟨c, u, hc, rfl⟩ := pj
      refine ⟨.at (.str ⟨#[c]⟩), ?_, u, rfl⟩
      unfold chars
      rw [List.getElem?_map, Array.getElem?_toList, hc]; rfl
    · intro b hb; rw [List.mem_singleton.mp hb]; exact back_none e₁ hI
    · intro b f hb
      rw [List.mem_singleton.mp hb] at f
      obtain ⟨o, e⟩ := ERel.live (s := { s with heap := s₁ }) L₁ _ f; dsimp only at e; rw [hI] at e; cases e
    · intro b hb hm
      have hb' : b ∈ ρ₁.flatten := List.mem_append_right _ (ext_priv e₁ hb)
      rw [List.mem_singleton.mp hm] at hb'; exact n1 hb'
  cases ha : x.cps.all (· < 128) with
  | true => exact (gen "str_ascii_iterator" (by decide) (Walks.strAscii ok.handled _ x t)).elim id fun q => wpAny_pyIter_ascii (s := { s with heap := s₁, toks := k₁ }) ha q
  | false => exact (gen "str_iterator" (by decide) (Walks.strWide ok.handled _ x t)).elim id fun q => wpAny_pyIter_wide (s := { s with heap := s₁, toks := k₁ }) ha q

/-- a tracked list is walked -/
theorem iter_own {k : Nat} {all : List It} {I : Addr} (ok : Ok d A) (hb : X.hb.get? I = none) :
    Iter X A (.ref I) [I] [I] { own := some (k, all) } (fun xs ρ σ h => ∃ i l rr, xs = all.drop i ∧ ρ.own[k]? = some (l :: rr) ∧ σ[k]? = some (.list all) ∧ h.IsListIter I l i ∧ I ∉ ρ.flatten)
      (fun _ xs ρ σ h => ∃ i l rr, xs = all.drop i ∧ ρ.own[k]? = some (l :: rr) ∧ σ[k]? = some (.list all) ∧ h.IsListIter I l i ∧ I ∉ ρ.flatten) where
  sub := fun _ h => h
  frame := fun {xs ρ ρ' σ σ' h h' F} st x nF R' hF hg => by
    obtain ⟨i, l, rr, h1, h2, h3, h4, h5⟩ := st
    obtain ⟨m, p, e1, e2, e3⟩ := x.more
    refine ⟨i, l, rr, h1, by rw [e1, List.getElem?_append_left (List.getElem?_eq_some_iff.mp h2).1]; exact h2, ?_, h4.at fun o e => x.kept I o (Rho.not_own h5) (hF I (by simp)) e, fun q => ?_⟩
    · unfold okSrc at hg
      dsimp only at hg
      split at hg
      · rename_i ys q; rw [q, itsSame_eq hg]
      · cases hg
    · rcases (Rho.mem_more e1 e2).mp q with q | q
      · exact h5 q
      · obtain ⟨o, ho, _⟩ := h4
        rw [(e3 I q).1] at ho; cases ho
  okAt := fun st => by
    obtain ⟨_, _, _, _, _, h3, _⟩ := st
    unfold okSrc
    dsimp only
    rw [h3]
    exact itsSame_refl all
  freshJ := fun b h => by rw [List.mem_singleton.mp h]; exact hb
  apart' := fun st b hb => by
    obtain ⟨_, _, _, _, _, _, ⟨o, ho, _⟩, h5⟩ := st
    rw [List.mem_singleton.mp hb]; exact ⟨Rho.not_own h5, o, ho⟩
  apart := fun st b hb => by
    obtain ⟨_, _, _, _, _, _, ⟨o, ho, _⟩, h5⟩ := st
    rw [List.mem_singleton.mp hb]; exact ⟨Rho.not_own h5, o, ho⟩
  noSeq := fun st b o hb _ e ys n hd => by
    obtain ⟨_, _, _, _, _, _, ⟨o', ho, _, hd'⟩, _⟩ := st
    rw [List.mem_singleton.mp hb, ho] at e; cases e
    rw [hd'] at hd; cases hd
  noSeq' := fun st b o hb _ e ys n hd => by
    obtain ⟨_, _, _, _, _, _, ⟨o', ho, _, hd'⟩, _⟩ := st
    rw [List.mem_singleton.mp hb, ho] at e; cases e
    rw [hd'] at hd; cases hd
  item := fun x xs ρ σ s Q E st R hQ => by
    obtain ⟨i, l, rr, h1, h2, h3, h4, h5⟩ := st
    obtain ⟨l', vs, e, hL, hx⟩ := R.objs k _ _ h2 h3
    cases e
    obtain ⟨hi, hr⟩ := drop_get h1.symm
    obtain ⟨v, hv, r⟩ := itsRel_get' hx hi
    refine wpAny_pyNext_list_item h4 hL.isList (x := v) (by simpa using hv) fun h' hit' hs' => ?_
    have xk : Ext (· ∈ [I]) ρ ρ s.heap h' := ⟨⟨[], [], by simp, rfl, by simp⟩, fun b o _ q e => (hs'.2 b (fun z => q (by simp [z]))).trans e, fun b o q e => ⟨o, (hs'.2 b (fun z => q (by simp [z]))).trans e⟩⟩
    have nW : NoSeq (· ∈ [I]) ρ s.heap := fun b o hb _ e ys n hd => by
      obtain ⟨o', ho, _, hd'⟩ := h4
      rw [List.mem_singleton.mp hb, ho] at e; cases e
      rw [hd'] at hd; cases hd
    exact hQ v h' s.toks (r.ext xk nW) ⟨i + 1, l, [], hr.symm, h2, h3, hit', h5⟩ (fun b o hb e => (hs'.2 b (fun z => hb (by simp [z]))).trans e) fun b hb hp => absurd (List.mem_append_right _ hp) (List.mem_singleton.mp hb ▸ h5)
  go := fun t v xs ρ σ s Q E _ st hQ => by
    obtain ⟨i, l, rr, h1, h2, h3, ⟨o, ho, hc, hd⟩, h5⟩ := id st
    exact go_plain ho hc (by decide) (hQ s.heap st (fun _ _ _ e => e) fun b hb hp => absurd (List.mem_append_right _ hp) (List.mem_singleton.mp hb ▸ h5))
  done := fun ρ σ s Q E st R hQ => by
    obtain ⟨i, l, rr, h1, h2, h3, h4, h5⟩ := st
    obtain ⟨l', vs, e, hL, hx⟩ := R.objs k _ _ h2 h3
    cases e
    have hlen := itsRel_length hx
    have hi : all.length ≤ i := by
      have := congrArg List.length h1
      rw [List.length_drop, List.length_nil] at this; omega
    exact wpAny_pyNext_list_end ok.handled h4 hL.isList (by simp; omega) fun h' he => hQ h' s.toks (fun b o hb e => he b o (fun z => hb (by simp [z])) e) fun b hb hp => absurd (List.mem_append_right _ hp) (List.mem_singleton.mp hb ▸ h5)
  self := fun xs ρ σ s Q E st hq => by
    obtain ⟨_, _, _, _, _, _, h4, _⟩ := st
    exact wpAny_pyIter_listiter h4 hq

theorem i_own {e : Expr} {k : Nat} {xs : List It} (hs : notSet e = true) (h1 : X.VEval d sc loc e σ (.own k) σ₁) (hk : σ₁[k]? = some (.list xs)) : X.VIter d sc loc e σ xs { own := some (k, xs) } σ₁ := by
  refine ⟨fun env x => folded_pure hs env x, fun A env ρ s Q E ok R L kq => ?_⟩
  refine VEval.then h1 ok R L fun ρ₁ s₁ k₁ u e₁ R₁ L₁ r₁ => ?_
  obtain ⟨l, rr, hi, rfl⟩ := r₁
  obtain ⟨l', vs, e, hL, hx⟩ := R₁.objs k _ _ hi hk
  cases e
  refine wpAny_pyIter_list (s := { s with heap := s₁, toks := k₁ }) hL.isList ?_
  obtain ⟨n1, n2⟩ := newOff R₁
  have hI := size_none s₁
  have hg : (s₁.push { cls := .type "list_iterator", data := .fields #[.ref l, .int 0 0] }).get? s₁.objs.size = some _ := Heap.get?_push_size _ rfl
  refine kq ρ₁ _ k₁ (.ref s₁.objs.size) [s₁.objs.size] [s₁.objs.size] _ _ (e₁.trans (Ext.of_keeps push_keeps)) (R₁.keeps push_keeps)
    (iter_own ok n2) ⟨0, l, [], by simp, hi, hk, ⟨_, hg, rfl, rfl⟩, n1⟩ ?_ ?_ ?_
  · intro b hb; rw [List.mem_singleton.mp hb]; exact back_none e₁ hI
  · intro b f hb
    rw [List.mem_singleton.mp hb] at f
    obtain ⟨o, e⟩ := ERel.live (s := { s with heap := s₁ }) L₁ _ f; dsimp only at e; rw [hI] at e; cases e
  · intro b hb hm
    have hb' : b ∈ ρ₁.flatten := List.mem_append_right _ (ext_priv e₁ hb)
    rw [List.mem_singleton.mp hm] at hb'; exact n1 hb'

/-- range(n) is walked -/
theorem i_range (G : Good X) {x : Str} {xp pos : Pos} {as : List Expr} {n : Int} (ha : as.all notStar = true) (h1 : X.VEval d sc loc (.Name x xp) σ (.val (.type "range")) σ₁) (h2 : X.VEvals d sc loc as σ₁ [.int n] σ₂) (h0 : 0 ≤ n) (hn : n ≤ 100) :
    X.VIter d sc loc (.Call (.Name x xp) as [] pos) σ (rangeI n.toNat) {} σ₂ := by
  refine ⟨fun env x => folded_pure rfl env x, fun A env ρ s Q E ok R L kq => ?_⟩
  refine callName G rfl ha h1 h2 ok R L fun ρ₁ s₁ k₁ u us e₁ R₁ L₁ r₁ r₂ => ?_
  cases r₁
  cases r₂ with | cons a b => cases b with | nil =>
  obtain ⟨t, rfl⟩ := a
  refine call_range_1 (s := { s with heap := s₁, toks := k₁ }) ?_
  have hn1 := size_none s₁
  have hsz : Builtin.Range.rangeSize 0 n 1 = (n.toNat : Int) := by rw [rangeSize_one]; split <;> omega
  have k₂ : ∀ b o, s₁.get? b = some o → (s₁.push { cls := .type "range", data := .fields #[.int 0 k₁, .int n t, .int 1 (k₁ + 1)] }).get? b = some o := push_keeps
  have hR : IsRange (s₁.push { cls := .type "range", data := .fields #[.int 0 k₁, .int n t, .int 1 (k₁ + 1)] }) s₁.objs.size 0 n 1 k₁ t (k₁ + 1) := IsRange.new ..
  dsimp only
  generalize s₁.push { cls := .type "range", data := .fields #[.int 0 k₁, .int n t, .int 1 (k₁ + 1)] } = s₂ at k₂ hR ⊢
  have R₂ := R₁.keeps k₂
  have L₂ := L₁.keeps k₂
  have e₂ : Ext noF ρ ρ₁ s.heap s₂ := e₁.trans (Ext.of_keeps k₂)
  refine wpAny_pyIter_range (s := { s with heap := s₂, toks := k₁ + 1 + 1 }) hR (small_one (by decide) (by decide) (by omega) (by omega)) ?_
  obtain ⟨n1, n2⟩ := newOff R₂
  have hI := size_none s₂
  refine kq ρ₁ _ _ (.ref s₂.objs.size) [s₂.objs.size] [s₂.objs.size] _ _ (e₂.trans (Ext.of_keeps push_keeps)) (R₂.keeps push_keeps)
    (iter_walks (Walks.range ok.handled s₂.objs.size 0 1 n.toNat) (rangeI n.toNat) (by simp [rangeI]) (fun b hb => by rw [List.mem_singleton.mp hb]; exact n2) ?_ ?_ ?_) ?_ ?_ ?_ ?_
  · intro i h st b hb
    rw [List.mem_singleton.mp hb]; exact ⟨_, st⟩
  · intro i h st b hb o ho ys m e
    rw [List.mem_singleton.mp hb] at ho
    rw [st] at ho; cases ho
    cases e
  · intro i h st
    exact ⟨_, "range_iterator", st, rfl, by decide⟩
  · refine ⟨0, Nat.zero_le _, by simp, ?_, fun b hb => by rw [List.mem_singleton.mp hb]; exact Rho.not_own n1, fun b hb => by rw [List.mem_singleton.mp hb]; exact n1, fun j v hj pj => ?_⟩
    · have e1 : (0 + ((0 : Nat) : Int) * 1) = 0 := by simp
      have e2 : ((n.toNat : Int) - ((0 : Nat) : Int)) = Builtin.Range.rangeSize 0 n 1 := by rw [hsz]; simp
      rw [e1, e2]
      exact Heap.get?_push_size _ rfl
    · obtain ⟨t', rfl⟩ := pj
      exact ⟨.at (.int j), by simp [rangeI, hj], t', by simp⟩
  · intro b hb; rw [List.mem_singleton.mp hb]; exact back_none e₂ hI
  · intro b f hb
    rw [List.mem_singleton.mp hb] at f
    obtain ⟨o, e⟩ := ERel.live (s := { s with heap := s₂ }) L₂ _ f; dsimp only at e; rw [hI] at e; cases e
  · intro b hb hm
    have hb' : b ∈ ρ₁.flatten := List.mem_append_right _ (ext_priv e₁ hb)
    rw [List.mem_singleton.mp hm] at hb'; exact n1 hb'
end
end Mine
end

-- part M17
section
namespace Mine
open PySem PySem.W PyProof.Rows PySem.Calls PySem.Spec

structure ZA (z TI TO i1 i2 : Addr) (fp1 fp2 : List Addr) : Prop where
  TIz : TI ≠ z
  TOz : TO ≠ z
  i1z : i1 ≠ z
  i2z : i2 ≠ z
  TITO : TI ≠ TO
  TIi1 : TI ≠ i1
  TIi2 : TI ≠ i2
  TOi1 : TO ≠ i1
  TOi2 : TO ≠ i2
  i12 : i1 ≠ i2
  z1 : z ∉ fp1
  z2 : z ∉ fp2
  TO1 : TO ∉ fp1
  TO2 : TO ∉ fp2
  i1f2 : i1 ∉ fp2
  i2f1 : i2 ∉ fp1

section
variable {prog : Program} {w : World} {A : Around} {E : Value → Shared → Prop} {s : Shared}
variable {z TI TO i1 i2 : Addr} {fp1 fp2 : List Addr} {n1 n2 k1 k2 : Nat} {P1 P2 : Nat → Value → Prop} {St1 St2 : Nat → Heap → Prop} {a b : Value}

theorem keepF {n : Nat} {it c : Addr} {fp : List Addr} {P : Nat → Value → Prop} {St : Nat → Heap → Prop} (D : Draws prog w A it fp n P St) {i : Nat} {h h' : Heap} (st : St i h) (hs : Heap.SameBut c h h') (hc : c ∉ fp) : St i h' :=
  D.frame i h h' st fun b hb o e => (hs.2 b fun q => hc (q ▸ hb)).trans e

theorem zip_itemD {Q : Value → Shared → Prop} (Z : ZA z TI TO i1 i2 fp1 fp2) (D1 : Draws prog w A i1 fp1 n1 P1 St1) (D2 : Draws prog w A i2 fp2 n2 P2 St2)
    (hz : IsZip s.heap z TI TO .none) (hTI : IsPair s.heap TI (.ref i1) (.ref i2)) (hTO : IsPair s.heap TO a b) (h1 : St1 k1 s.heap) (h2 : St2 k2 s.heap) (hk1 : k1 < n1) (hk2 : k2 < n2)
    (hQ : ∀ x y T h' tk, P1 k1 x → P2 k2 y → s.heap.get? T = none → IsZip h' z TI TO (rawInt T) → IsPair h' TO x y → St1 (k1 + 1) h' → St2 (k2 + 1) h' → IsPair h' T x y →
      (∀ c o, c ≠ z → c ≠ TO → c ≠ i1 → c ≠ i2 → s.heap.get? c = some o → h'.get? c = some o) → Q (.ref T) { s with heap := h', toks := tk }) :
    wpAny (model prog w) A (Builtin.«zip.__next__» ⟨[.ref z], []⟩) (fun fin s' => ∃ v, fin = .done (.ret v) ∧ Q v s') E s := by
  obtain ⟨hp, g, dr, tk0, os⟩ := s
  dsimp only at hz hTI hTO h1 h2 hQ
  show wpAny _ _ (field (.ref z) 2 >>= _) _ _ _
  refine wpAny_bind (wpAny_field hz rfl (x := .bool false) rfl ?_)
  show wpAny _ _ (field (.ref z) 3 >>= _) _ _ _
  refine wpAny_bind (wpAny_field hz rfl (x := .ref TI) rfl ?_)
  refine wpAny_bind (wpAny_seqItems hTI rfl ?_)
  show wpAny _ _ (Builtin.SmallTypes.ownedTupleIsFree (.ref z) >>= _) _ _ _
  refine wpAny_bind ?_
  unfold Builtin.SmallTypes.ownedTupleIsFree
  refine wpAny_bind (wpAny_field hz rfl (x := .none) rfl (wpAny_pure ?_))
  simp only [if_true]
  refine wpAny_bind (wpAny_rule ?_)
  refine wpAny_bind (wpAny_field hz rfl (x := .ref TO) rfl ?_)
  refine wpAny_bind (wpAny_setField_rec hz (by simp) fun h₁ hz₁ hs₁ => ?_)
  replace hz₁ : IsZip h₁ z TI TO .ellipsis := hz₁
  replace hs₁ : Heap.SameBut z hp h₁ := hs₁
  have s1₁ := keepF D1 h1 hs₁ Z.z1
  have s2₁ := keepF D2 h2 hs₁ Z.z2
  refine wpAny_bind ?_
  simp only [List.zipIdx_cons, List.zipIdx_nil, List.forIn_cons, List.forIn_nil]
  refine wpAny_bind (wpAny_bind (wpAny_onRaise ?_))
  show wpAny _ _ (Builtin.SmallTypes.nextOf (.ref i1) >>= _) _ _ _
  refine wpAny_bind (D1.item k1 _ _ _ hk1 s1₁ fun x h₂ tk₂ px s1₂ hs₂ => wpAny_pure ?_)
  replace hs₂ : Heap.SameBut i1 h₁ h₂ := hs₂
  have s2₂ := keepF D2 s2₁ hs₂ Z.i1f2
  have hTO₂ : IsPair h₂ TO a b := hs₂.extBut _ _ Z.TOi1 (hs₁.extBut _ _ Z.TOz hTO)
  refine wpAny_bind (wpAny_seqItems hTO₂ rfl ?_)
  refine wpAny_bind (wpAny_updateSeq_pair hTO₂ fun h₃ hTO₃ hs₃ => ?_)
  replace hTO₃ : IsPair h₃ TO x b := hTO₃
  replace hs₃ : Heap.SameBut TO h₂ h₃ := hs₃
  have s1₃ := keepF D1 s1₂ hs₃ Z.TO1
  have s2₃ := keepF D2 s2₂ hs₃ Z.TO2
  refine wpAny_bind (wpAny_letGo (wpAny_pure ?_))
  refine wpAny_bind (wpAny_bind (wpAny_onRaise ?_))
  show wpAny _ _ (Builtin.SmallTypes.nextOf (.ref i2) >>= _) _ _ _
  refine wpAny_bind (D2.item k2 _ _ _ hk2 s2₃ fun y h₄ tk₄ py s2₄ hs₄ => wpAny_pure ?_)
  replace hs₄ : Heap.SameBut i2 h₃ h₄ := hs₄
  have s1₄ := keepF D1 s1₃ hs₄ Z.i2f1
  have hTO₄ : IsPair h₄ TO x b := hs₄.extBut _ _ Z.TOi2 hTO₃
  refine wpAny_bind (wpAny_seqItems hTO₄ rfl ?_)
  refine wpAny_bind (wpAny_updateSeq_pair hTO₄ fun h₅ hTO₅ hs₅ => ?_)
  replace hTO₅ : IsPair h₅ TO x y := hTO₅
  replace hs₅ : Heap.SameBut TO h₄ h₅ := hs₅
  have s1₅ := keepF D1 s1₄ hs₅ Z.TO1
  have s2₅ := keepF D2 s2₄ hs₅ Z.TO2
  refine wpAny_bind (wpAny_letGo (wpAny_pure (wpAny_pure ?_)))
  refine wpAny_bind (wpAny_seqItems hTO₅ rfl ?_)
  refine wpAny_bind (wpAny_newTuple ?_)
  have hsz : h₅.objs.size = hp.objs.size := by rw [hs₅.1, hs₄.1, hs₃.1, hs₂.1, hs₁.1]
  have hz₅ : IsZip h₅ z TI TO .ellipsis := hs₅.extBut _ _ Z.TOz.symm (hs₄.extBut _ _ Z.i2z.symm (hs₃.extBut _ _ Z.TOz.symm (hs₂.extBut _ _ Z.i1z.symm hz₁)))
  have hk₅ : ∀ c o, c ≠ z → c ≠ TO → c ≠ i1 → c ≠ i2 → hp.get? c = some o → h₅.get? c = some o := fun c o c1 c2 c3 c4 e =>
    hs₅.extBut _ _ c2 (hs₄.extBut _ _ c4 (hs₃.extBut _ _ c2 (hs₂.extBut _ _ c3 (hs₁.extBut _ _ c1 e))))
  have hzlt : z < h₅.objs.size := Heap.lt_size hz₅
  have hTOlt : TO < h₅.objs.size := Heap.lt_size hTO₅
  show wpAny _ _ (Builtin.SmallTypes.ownedTupleHandOut (.ref z) (.ref h₅.objs.size) >>= _) _ _ _
  refine wpAny_bind ?_
  unfold Builtin.SmallTypes.ownedTupleHandOut
  have hz₆ : IsZip (h₅.push { cls := .type "tuple", data := .seq #[x, y] }) z TI TO .ellipsis := Heap.get?_push_of_some _ hz₅
  refine wpAny_bind (wpAny_setField_rec hz₆ (by simp) fun h₇ hz₇ hs₇ => ?_)
  replace hz₇ : IsZip h₇ z TI TO (rawInt h₅.objs.size) := hz₇
  replace hs₇ : Heap.SameBut z (h₅.push { cls := .type "tuple", data := .seq #[x, y] }) h₇ := hs₇
  refine wpAny_setField_rec hz₇ (by simp) fun h₈ hz₈ hs₈ => ?_
  replace hz₈ : IsZip h₈ z TI TO (rawInt h₅.objs.size) := hz₈
  replace hs₈ : Heap.SameBut z h₇ h₈ := hs₈
  have up : ∀ c o, c ≠ z → h₅.get? c = some o → h₈.get? c = some o := fun c o c1 e => hs₈.extBut _ _ c1 (hs₇.extBut _ _ c1 (Heap.get?_push_of_some _ e))
  have hT₈ : IsPair h₈ h₅.objs.size x y := hs₈.extBut _ _ (Nat.ne_of_gt hzlt) (hs₇.extBut _ _ (Nat.ne_of_gt hzlt) (Heap.get?_push_size _ rfl))
  have s1₈ : St1 (k1 + 1) h₈ := D1.frame _ _ _ s1₅ fun c hc o e => up c o (fun q => Z.z1 (q ▸ hc)) e
  have s2₈ : St2 (k2 + 1) h₈ := D2.frame _ _ _ s2₅ fun c hc o e => up c o (fun q => Z.z2 (q ▸ hc)) e
  refine wpAny_pure ⟨_, rfl, ?_⟩
  show Q (.ref h₅.objs.size) _
  refine hQ x y h₅.objs.size h₈ _ px py (by rw [hsz]; exact size_none hp) hz₈ (up _ _ Z.TOz hTO₅) s1₈ s2₈ hT₈ fun c o c1 c2 c3 c4 e => up c o c1 (hk₅ c o c1 c2 c3 c4 e)

theorem zip_endD {Q : Fin → Shared → Prop} (Z : ZA z TI TO i1 i2 fp1 fp2) (D1 : Draws prog w A i1 fp1 n1 P1 St1) (D2 : Draws prog w A i2 fp2 n2 P2 St2)
    (hz : IsZip s.heap z TI TO .none) (hTI : IsPair s.heap TI (.ref i1) (.ref i2)) (hTO : IsPair s.heap TO a b) (h1 : St1 k1 s.heap) (h2 : St2 k2 s.heap) (hend : k1 = n1 ∨ (k1 < n1 ∧ k2 = n2))
    (hE : ∀ h' tk e, (∀ c o, c ≠ z → c ≠ TO → c ≠ i1 → c ≠ i2 → s.heap.get? c = some o → h'.get? c = some o) → (∃ o, h'.get? TO = some o) → (∃ o, h'.get? e = some o ∧ o.cls = .type "StopIteration") → E (.ref e) { s with heap := h', toks := tk }) :
    wpAny (model prog w) A (Builtin.«zip.__next__» ⟨[.ref z], []⟩) Q E s := by
  obtain ⟨hp, g, dr, tk0, os⟩ := s
  dsimp only at hz hTI hTO h1 h2 hE
  show wpAny _ _ (field (.ref z) 2 >>= _) _ _ _
  refine wpAny_bind (wpAny_field hz rfl (x := .bool false) rfl ?_)
  show wpAny _ _ (field (.ref z) 3 >>= _) _ _ _
  refine wpAny_bind (wpAny_field hz rfl (x := .ref TI) rfl ?_)
  refine wpAny_bind (wpAny_seqItems hTI rfl ?_)
  show wpAny _ _ (Builtin.SmallTypes.ownedTupleIsFree (.ref z) >>= _) _ _ _
  refine wpAny_bind ?_
  unfold Builtin.SmallTypes.ownedTupleIsFree
  refine wpAny_bind (wpAny_field hz rfl (x := .none) rfl (wpAny_pure ?_))
  simp only [if_true]
  refine wpAny_bind (wpAny_rule ?_)
  refine wpAny_bind (wpAny_field hz rfl (x := .ref TO) rfl ?_)
  refine wpAny_bind (wpAny_setField_rec hz (by simp) fun h₁ hz₁ hs₁ => ?_)
  replace hz₁ : IsZip h₁ z TI TO .ellipsis := hz₁
  replace hs₁ : Heap.SameBut z hp h₁ := hs₁
  have s1₁ := keepF D1 h1 hs₁ Z.z1
  have s2₁ := keepF D2 h2 hs₁ Z.z2
  have hTO₁ : IsPair h₁ TO a b := hs₁.extBut _ _ Z.TOz hTO
  refine wpAny_bind ?_
  simp only [List.zipIdx_cons, List.zipIdx_nil, List.forIn_cons, List.forIn_nil]
  refine wpAny_bind (wpAny_bind (wpAny_onRaise ?_))
  show wpAny _ _ (Builtin.SmallTypes.nextOf (.ref i1) >>= _) _ _ _
  rcases hend with rfl | ⟨hk1, rfl⟩
  · refine wpAny_bind (D1.done _ _ _ s1₁ fun h₂ e hs₂ he => ?_)
    obtain ⟨oe, hoe, hce⟩ := he
    replace hs₂ : Heap.ExtBut i1 h₁ h₂ := hs₂
    have hz₂ : IsZip h₂ z TI TO .ellipsis := hs₂ _ _ Z.i1z.symm hz₁
    have hez : e ≠ z := fun x => by subst x; rw [hz₂] at hoe; cases hoe; simp at hce
    refine wpAny_setField_rec hz₂ (by simp) fun h₃ _ hs₃ => hE h₃ _ e (fun c o c1 _ c3 _ x => hs₃.extBut _ _ c1 (hs₂ _ _ c3 (hs₁.extBut _ _ c1 x))) ⟨_, hs₃.extBut _ _ Z.TOz (hs₂ _ _ Z.TOi1 hTO₁)⟩ ⟨oe, hs₃.extBut _ _ hez hoe, hce⟩
  · refine wpAny_bind (D1.item k1 _ _ _ hk1 s1₁ fun x h₂ tk₂ px s1₂ hs₂ => wpAny_pure ?_)
    replace hs₂ : Heap.SameBut i1 h₁ h₂ := hs₂
    have s2₂ := keepF D2 s2₁ hs₂ Z.i1f2
    have hTO₂ : IsPair h₂ TO a b := hs₂.extBut _ _ Z.TOi1 hTO₁
    refine wpAny_bind (wpAny_seqItems hTO₂ rfl ?_)
    refine wpAny_bind (wpAny_updateSeq_pair hTO₂ fun h₃ hTO₃ hs₃ => ?_)
    replace hs₃ : Heap.SameBut TO h₂ h₃ := hs₃
    have s2₃ := keepF D2 s2₂ hs₃ Z.TO2
    refine wpAny_bind (wpAny_letGo (wpAny_pure ?_))
    refine wpAny_bind (wpAny_bind (wpAny_onRaise ?_))
    show wpAny _ _ (Builtin.SmallTypes.nextOf (.ref i2) >>= _) _ _ _
    refine wpAny_bind (D2.done _ _ _ s2₃ fun h₄ e hs₄ he => ?_)
    replace hs₄ : Heap.ExtBut i2 h₃ h₄ := hs₄
    obtain ⟨oe, hoe, hce⟩ := he
    have hz₄ : IsZip h₄ z TI TO .ellipsis := hs₄ _ _ Z.i2z.symm (hs₃.extBut _ _ Z.TOz.symm (hs₂.extBut _ _ Z.i1z.symm hz₁))
    have hez : e ≠ z := fun x => by subst x; rw [hz₄] at hoe; cases hoe; simp at hce
    refine wpAny_setField_rec hz₄ (by simp) fun h₅ _ hs₅ => hE h₅ _ e (fun c o c1 c2 c3 c4 x => hs₅.extBut _ _ c1 (hs₄ _ _ c4 (hs₃.extBut _ _ c2 (hs₂.extBut _ _ c3 (hs₁.extBut _ _ c1 x))))) ⟨_, hs₅.extBut _ _ Z.TOz (hs₄ _ _ Z.TOi2 hTO₃)⟩ ⟨oe, hs₅.extBut _ _ hez hoe, hce⟩

theorem next_zip_itemD {Q : Option Value → Shared → Prop} (Z : ZA z TI TO i1 i2 fp1 fp2) (D1 : Draws prog w A.in1 i1 fp1 n1 P1 St1) (D2 : Draws prog w A.in1 i2 fp2 n2 P2 St2)
    (hz : IsZip s.heap z TI TO .none) (hTI : IsPair s.heap TI (.ref i1) (.ref i2)) (hTO : IsPair s.heap TO a b) (h1 : St1 k1 s.heap) (h2 : St2 k2 s.heap) (hk1 : k1 < n1) (hk2 : k2 < n2)
    (hQ : ∀ x y T h' tk, P1 k1 x → P2 k2 y → s.heap.get? T = none → IsZip h' z TI TO (rawInt T) → IsPair h' TO x y → St1 (k1 + 1) h' → St2 (k2 + 1) h' → IsPair h' T x y →
      (∀ c o, c ≠ z → c ≠ TO → c ≠ i1 → c ≠ i2 → s.heap.get? c = some o → h'.get? c = some o) → Q (some (.ref T)) { s with heap := h', toks := tk }) :
    wpAny (model prog w) A (pyNext (.ref z)) Q E s := by
  have hT : s.TypeIs (.ref z) "zip" := ⟨_, hz, rfl⟩
  unfold pyNext
  exact wpAny_bind (wpAny_attempt (wpAny_callSpecial?_slot (name := Str.ofString "__next__") hT F.slot_zip_next
    (wpAny_call_entry F.slot_zip_next hT F.entry_zip_next
      (zip_itemD Z D1 D2 hz hTI hTO h1 h2 hk1 hk2 fun x y T h' tk a0 a00 a1 a2 a3 a4 a5 a6 a7 => wpAny_pure (hQ x y T h' tk a0 a00 a1 a2 a3 a4 a5 a6 a7)) (F.args_zip_next_1 _))))
theorem next_zip_endD {Q : Option Value → Shared → Prop} (Z : ZA z TI TO i1 i2 fp1 fp2) (D1 : Draws prog w A.in1 i1 fp1 n1 P1 St1) (D2 : Draws prog w A.in1 i2 fp2 n2 P2 St2)
    (hz : IsZip s.heap z TI TO .none) (hTI : IsPair s.heap TI (.ref i1) (.ref i2)) (hTO : IsPair s.heap TO a b) (h1 : St1 k1 s.heap) (h2 : St2 k2 s.heap) (hend : k1 = n1 ∨ (k1 < n1 ∧ k2 = n2))
    (hQ : ∀ h' tk, (∀ c o, c ≠ z → c ≠ TO → c ≠ i1 → c ≠ i2 → s.heap.get? c = some o → h'.get? c = some o) → (∃ o, h'.get? TO = some o) → Q none { s with heap := h', toks := tk }) :
    wpAny (model prog w) A (pyNext (.ref z)) Q E s := by
  have hT : s.TypeIs (.ref z) "zip" := ⟨_, hz, rfl⟩
  unfold pyNext
  refine wpAny_bind (wpAny_attempt (wpAny_callSpecial?_slot (name := Str.ofString "__next__") hT F.slot_zip_next
    (wpAny_call_entry F.slot_zip_next hT F.entry_zip_next (zip_endD Z D1 D2 hz hTI hTO h1 h2 hend fun h' tk e hk hl he => ?_) (F.args_zip_next_1 _))))
  obtain ⟨o, ho, hc⟩ := he
  refine wpAny_bind (wpAny_isInstance (T := "StopIteration") (b := true) ⟨o, ho, hc⟩ isSubtype_stop ?_)
  exact wpAny_pure (hQ h' tk hk hl)
end
end Mine
end

-- part M18
section
namespace Mine
open PySem PySem.W PyProof.Rows PySem.Calls PySem.Spec

theorem isTup_eq {t : Expr} (h : isTup t = true) : ∃ elts k pos, t = .Tuple elts k pos := by
  cases t with
  | Tuple => exact ⟨_, _, _, rfl⟩
  | _ => exact nob h

/-- frozen addresses stay out of the tracked ones -/
theorem stay_own {F : Addr → Prop} {ρ ρ' : Rho} {h h' : Heap} (x : Ext F ρ ρ' h h') {b : Addr} (hl : ∃ o, h.get? b = some o) (hb : b ∉ ρ.own.flatten) : b ∉ ρ'.own.flatten := by
  obtain ⟨m, p, e1, e2, e3⟩ := x.more
  intro q
  rw [e1, List.flatten_append, List.mem_append] at q
  rcases q with q | q
  · exact hb q
  · obtain ⟨o, e⟩ := hl
    rw [(e3 b (List.mem_append_left _ q)).1] at e; cases e
theorem stay_off {F : Addr → Prop} {ρ ρ' : Rho} {h h' : Heap} (x : Ext F ρ ρ' h h') {b : Addr} (hl : ∃ o, h.get? b = some o) (hb : b ∉ ρ.flatten) : b ∉ ρ'.flatten := by
  obtain ⟨m, p, e1, e2, e3⟩ := x.more
  intro q
  rcases (Rho.mem_more e1 e2).mp q with q | q
  · exact hb q
  · obtain ⟨o, e⟩ := hl
    rw [(e3 b q).1] at e; cases e

section
variable {X : Cx} {d : Nat} {A : Around} {env : Env} {ρ : Rho} {s : Shared} {sc : Scope} {loc loc' loc₁ : Loc} {σ σ' σ₁ σ₂ σ₃ : AS}
variable {z TI TO i1 i2 : Addr} {fp1 fp2 : List Addr} {n1 n2 : Nat} {P1 P2 : Nat → Value → Prop} {St1 St2 : Nat → Heap → Prop}

noncomputable def zFp (z TI TO i1 i2 : Addr) (fp1 fp2 : List Addr) : List Addr := z :: TI :: TO :: i1 :: i2 :: (fp1 ++ fp2)
structure ZSt (z TI TO i1 i2 : Addr) (fp1 fp2 : List Addr) (n : Nat) (P1 P2 : Nat → Value → Prop) (St1 St2 : Nat → Heap → Prop) (all : List It) (f0 : Value) (xs : List It) (ρ : Rho) (h : Heap) (i : Nat) : Prop where
  le : i ≤ n
  xs : xs = all.drop i
  hz : IsZip h z TI TO f0
  hTI : IsPair h TI (.ref i1) (.ref i2)
  hTO : ∃ a b, IsPair h TO a b
  s1 : St1 i h
  s2 : St2 i h
  pr : TO ∈ ρ.priv
  own : ∀ b ∈ zFp z TI TO i1 i2 fp1 fp2, b ∉ ρ.own.flatten
  off : z ∉ ρ.flatten ∧ i1 ∉ ρ.flatten ∧ i2 ∉ ρ.flatten
  its : ∀ j x y, j < n → P1 j x → P2 j y → ∃ a b, all[j]? = some (.pair a b) ∧ AtRel a x ∧ AtRel b y

theorem iter_zip {all : List It} (ok : Ok d A) (Z : ZA z TI TO i1 i2 fp1 fp2) (zTI1 : TI ∉ fp1) (zTI2 : TI ∉ fp2) (D1 : Draws X.prog X.w A.in1 i1 fp1 n1 P1 St1) (D2 : Draws X.prog X.w A.in1 i2 fp2 n2 P2 St2) (hn : all.length = min n1 n2)
    (hb : ∀ b ∈ [z, TO, i1, i2], X.hb.get? b = none) (l1 : ∀ i h, St1 i h → ∀ b ∈ fp1, ∃ o, h.get? b = some o) (l2 : ∀ i h, St2 i h → ∀ b ∈ fp2, ∃ o, h.get? b = some o)
    (q1 : ∀ i h, St1 i h → ∀ o, h.get? i1 = some o → ∀ ys m, o.data ≠ .seq ys m) (q2 : ∀ i h, St2 i h → ∀ o, h.get? i2 = some o → ∀ ys m, o.data ≠ .seq ys m) :
    Iter X A (.ref z) [z, TO, i1, i2] (zFp z TI TO i1 i2 fp1 fp2) { short := true }
      (fun xs ρ _ h => ∃ i, ZSt z TI TO i1 i2 fp1 fp2 (min n1 n2) P1 P2 St1 St2 all .none xs ρ h i)
      (fun v xs ρ _ h => ∃ T i, v = .ref T ∧ ZSt z TI TO i1 i2 fp1 fp2 (min n1 n2) P1 P2 St1 St2 all (rawInt T) xs ρ h i) := by
  have live : ∀ {f0 xs ρ h i}, ZSt z TI TO i1 i2 fp1 fp2 (min n1 n2) P1 P2 St1 St2 all f0 xs ρ h i → ∀ b ∈ zFp z TI TO i1 i2 fp1 fp2, ∃ o, h.get? b = some o := fun {f0 xs ρ h i} S b hb => by
    unfold zFp at hb
    rcases List.mem_cons.mp hb with rfl | hb
    · exact ⟨_, S.hz⟩
    rcases List.mem_cons.mp hb with rfl | hb
    · exact ⟨_, S.hTI⟩
    rcases List.mem_cons.mp hb with rfl | hb
    · obtain ⟨_, _, e⟩ := S.hTO; exact ⟨_, e⟩
    rcases List.mem_cons.mp hb with rfl | hb
    · exact D1.live _ _ S.s1
    rcases List.mem_cons.mp hb with rfl | hb
    · exact D2.live _ _ S.s2
    rcases List.mem_append.mp hb with hb | hb
    · exact l1 _ _ S.s1 b hb
    · exact l2 _ _ S.s2 b hb
  have nsq : ∀ {f0 xs ρ h i}, ZSt z TI TO i1 i2 fp1 fp2 (min n1 n2) P1 P2 St1 St2 all f0 xs ρ h i → NoSeq (· ∈ [z, TO, i1, i2]) ρ h := fun {f0 xs ρ h i} S b o hb hn e ys m hd => by
    rcases List.mem_cons.mp hb with rfl | hb
    · rw [S.hz] at e; cases e; cases hd
    rcases List.mem_cons.mp hb with rfl | hb
    · exact hn (List.mem_append_right _ S.pr)
    rcases List.mem_cons.mp hb with rfl | hb
    · exact q1 _ _ S.s1 o e _ _ hd
    · rw [List.mem_singleton.mp hb] at e; exact q2 _ _ S.s2 o e _ _ hd
  have sub : ∀ b ∈ [z, TO, i1, i2], b ∈ zFp z TI TO i1 i2 fp1 fp2 := fun b hb => by
    unfold zFp
    simp at hb ⊢
    rcases hb with rfl | rfl | rfl | rfl <;> simp
  have lpr : ∀ {f0 xs ρ h i}, ZSt z TI TO i1 i2 fp1 fp2 (min n1 n2) P1 P2 St1 St2 all f0 xs ρ h i → ∀ b ∈ [z, TO, i1, i2], b ∈ ρ.priv → ∃ o, h.get? b = some o := fun S b hb _ => live S b (sub b hb)
  refine ⟨sub, ?_, fun _ => rfl, hb, ?_, ?_, ?_, ?_, ?_, ?_, ?_, ?_⟩
  · intro xs ρ ρ' σ σ' h h' F st x nF R' hF hg
    obtain ⟨i, S⟩ := st
    have lv := live S
    have k : ∀ b ∈ zFp z TI TO i1 i2 fp1 fp2, ∀ o, h.get? b = some o → h'.get? b = some o := fun b hb o e => x.kept b o (S.own b hb) (hF b hb) e
    have m1 : ∀ b ∈ fp1, b ∈ zFp z TI TO i1 i2 fp1 fp2 := fun b hb => by unfold zFp; simp [hb]
    have m2 : ∀ b ∈ fp2, b ∈ zFp z TI TO i1 i2 fp1 fp2 := fun b hb => by unfold zFp; simp [hb]
    refine ⟨i, S.le, S.xs, k z (by simp [zFp]) _ S.hz, k TI (by simp [zFp]) _ S.hTI, ?_, D1.frame _ _ _ S.s1 fun b hb => k b (m1 b hb), D2.frame _ _ _ S.s2 fun b hb => k b (m2 b hb), ext_priv x S.pr,
      fun b hb => stay_own x (lv b hb) (S.own b hb), ⟨stay_off x (lv z (by simp [zFp])) S.off.1, stay_off x (lv i1 (by simp [zFp])) S.off.2.1, stay_off x (lv i2 (by simp [zFp])) S.off.2.2⟩, S.its⟩
    obtain ⟨a, b, e⟩ := S.hTO
    exact ⟨a, b, k TO (by simp [zFp]) _ e⟩
  · intro v xs ρ σ h st b hb
    obtain ⟨T, i, _, S⟩ := st
    exact ⟨S.own b hb, live S b hb⟩
  · intro xs ρ σ h st b hb
    obtain ⟨i, S⟩ := st
    exact ⟨S.own b hb, live S b hb⟩
  · intro xs ρ σ h st
    obtain ⟨i, S⟩ := st
    exact nsq S
  · intro v xs ρ σ h st
    obtain ⟨T, i, _, S⟩ := st
    exact nsq S
  · intro x xs ρ σ s Q E st R hQ
    obtain ⟨i, S⟩ := st
    have hi : i < min n1 n2 := by
      rcases Nat.lt_or_ge i (min n1 n2) with h | h
      · exact h
      · have := S.xs; rw [List.drop_eq_nil_of_le (by omega)] at this; cases this
    obtain ⟨a, b, hTO⟩ := S.hTO
    refine next_zip_itemD Z D1 D2 S.hz S.hTI hTO S.s1 S.s2 (by omega) (by omega) fun u y T h' tk pu py hTn hz' hTO' s1' s2' hT' k => ?_
    obtain ⟨a', b', e, ra, rb⟩ := S.its i u y hi pu py
    obtain ⟨hx, hr⟩ := drop_get S.xs.symm
    rw [hx] at e; cases e
    have kk : ∀ c o, c ∉ [z, TO, i1, i2] → s.heap.get? c = some o → h'.get? c = some o := fun c o hc e => k c o (fun q => hc (by simp [q])) (fun q => hc (by simp [q])) (fun q => hc (by simp [q])) (fun q => hc (by simp [q])) e
    have hTr : T ∉ ρ.flatten := fun q => by obtain ⟨o, e⟩ := R.there T q; rw [hTn] at e; cases e
    have S' : ZSt z TI TO i1 i2 fp1 fp2 (min n1 n2) P1 P2 St1 St2 all (rawInt T) xs ρ h' (i + 1) :=
      ⟨hi, hr.symm, hz', k TI _ Z.TIz Z.TITO Z.TIi1 Z.TIi2 S.hTI, ⟨_, _, hTO'⟩, s1', s2', S.pr, S.own, S.off, S.its⟩
    exact hQ (.ref T) h' tk ⟨T, u, y, rfl, hTr, ⟨_, hT', rfl, _, rfl⟩, ra, rb⟩ ⟨T, i + 1, rfl, S'⟩ kk (lpr S')
  · intro t v xs ρ σ s Q E ht st hQ
    obtain ⟨T, i, rfl, S⟩ := st
    obtain ⟨elts, k, pos, rfl⟩ := isTup_eq (ht rfl)
    refine wpAny_letOwnedTupleGo_zip S.hz fun h' hz' hs' => ?_
    have m1 : ∀ b ∈ fp1, b ≠ z := fun b hb q => Z.z1 (q ▸ hb)
    have m2 : ∀ b ∈ fp2, b ≠ z := fun b hb q => Z.z2 (q ▸ hb)
    obtain ⟨a, b, hTO⟩ := S.hTO
    have S' : ZSt z TI TO i1 i2 fp1 fp2 (min n1 n2) P1 P2 St1 St2 all .none xs ρ h' i :=
      ⟨S.le, S.xs, hz', hs'.extBut _ _ Z.TIz S.hTI, ⟨a, b, hs'.extBut _ _ Z.TOz hTO⟩, keepF D1 S.s1 hs' Z.z1, keepF D2 S.s2 hs' Z.z2, S.pr, S.own, S.off, S.its⟩
    exact hQ h' ⟨i, S'⟩ (fun c o hc e => hs'.extBut _ _ (fun q => hc (by simp [q])) e) (lpr S')
  · intro ρ σ s Q E st R hQ
    obtain ⟨i, S⟩ := st
    have hi : min n1 n2 ≤ i := by
      have := congrArg List.length S.xs
      rw [List.length_drop, List.length_nil] at this; omega
    have hle := S.le
    obtain ⟨a, b, hTO⟩ := S.hTO
    refine next_zip_endD Z D1 D2 S.hz S.hTI hTO S.s1 S.s2 (by omega) fun h' tk k hl => ?_
    refine hQ h' tk (fun c o hc e => k c o (fun q => hc (by simp [q])) (fun q => hc (by simp [q])) (fun q => hc (by simp [q])) (fun q => hc (by simp [q])) e) fun b hb hp => ?_
    rcases List.mem_cons.mp hb with rfl | hb
    · exact absurd (List.mem_append_right _ hp) S.off.1
    rcases List.mem_cons.mp hb with rfl | hb
    · exact hl
    rcases List.mem_cons.mp hb with rfl | hb
    · exact absurd (List.mem_append_right _ hp) S.off.2.1
    · exact absurd (List.mem_append_right _ hp) (List.mem_singleton.mp hb ▸ S.off.2.2)
  · intro xs ρ σ s Q E st hq
    obtain ⟨i, S⟩ := st
    exact wpAny_pyIter_zip S.hz hq
end
end Mine
end

-- part M19
section
namespace Mine
open PySem PySem.W PyProof.Rows PySem.Calls PySem.Spec

noncomputable abbrev zsH1 (h : Heap) (x : Str) (t : Tok) : Heap := h.push { cls := .type (strIterType x), data := .fields #[.str x t, .int 0 0] }
noncomputable abbrev zsH2 (h : Heap) (x : Str) (t : Tok) (y : Str) (u : Tok) : Heap := (zsH1 h x t).push { cls := .type (strIterType y), data := .fields #[.str y u, .int 0 0] }
noncomputable abbrev zsH3 (h : Heap) (x : Str) (t : Tok) (y : Str) (u : Tok) : Heap := (zsH2 h x t y u).push { cls := .type "tuple", data := .seq #[.ref h.objs.size, .ref (zsH1 h x t).objs.size] }
noncomputable abbrev zsH4 (h : Heap) (x : Str) (t : Tok) (y : Str) (u : Tok) : Heap := (zsH3 h x t y u).push { cls := .type "tuple", data := .seq #[.none, .none] }
noncomputable abbrev zsH5 (h : Heap) (x : Str) (t : Tok) (y : Str) (u : Tok) : Heap := (zsH4 h x t y u).push { cls := .type "zip", data := .fields #[.none, .bool false, .bool false, .ref (zsH2 h x t y u).objs.size, .ref (zsH3 h x t y u).objs.size] }

set_option maxHeartbeats 2000000 in
theorem meets_zip_newS (x : Str) (t : Tok) (y : Str) (u : Tok) :
    Meets (Builtin.«zip.__new__» ⟨[.type "zip", .str x t, .str y u], []⟩) (fun _ R s =>
      R (.ok (.ret (.ref (zsH4 s.heap x t y u).objs.size))) { s with heap := zsH5 s.heap x t y u }) :=
  .of_wp fun prog w A R s h => by
    obtain ⟨hp, g, d, tk, os⟩ := s
    have hsub := sub_zip
    wp_walk using wpAny_pyIter_strU
    exact ⟨_, rfl, h⟩

section
variable {prog : Program} {w : World} {A : Around} {E : Value → Shared → Prop} {s : Shared}
theorem call_zip_S {x : Str} {t : Tok} {y : Str} {u : Tok} {Q : Value → Shared → Prop}
    (h : ∀ h', IsZip h' (s.heap.objs.size + 4) (s.heap.objs.size + 2) (s.heap.objs.size + 3) .none → IsPair h' (s.heap.objs.size + 2) (.ref s.heap.objs.size) (.ref (s.heap.objs.size + 1)) →
      IsPair h' (s.heap.objs.size + 3) .none .none → h'.IsStrIter s.heap.objs.size (strIterType x) x t 0 → h'.IsStrIter (s.heap.objs.size + 1) (strIterType y) y u 0 →
      (∀ c o, s.heap.get? c = some o → h'.get? c = some o) → Q (.ref (s.heap.objs.size + 4)) { s with heap := h' }) :
    wpAny (model prog w) A (call (.type "zip") [.str x t, .str y u]) Q E s := by
  refine callType_new F.called_zip (by decide) (F.typeCall_zip_2 _ _) (F.newCall_zip_2 _ _) (fun obj => F.args_object_init_3 obj _ _) F.entry_zip_new
    (meets_zip_newS x t y u) ?_
  have z1 : (zsH1 s.heap x t).objs.size = s.heap.objs.size + 1 := Heap.size_push ..
  have z2 : (zsH2 s.heap x t y u).objs.size = s.heap.objs.size + 2 := by rw [Heap.size_push, z1]
  have z3 : (zsH3 s.heap x t y u).objs.size = s.heap.objs.size + 3 := by rw [Heap.size_push, z2]
  have z4 : (zsH4 s.heap x t y u).objs.size = s.heap.objs.size + 4 := by rw [Heap.size_push, z3]
  have g5 : (zsH5 s.heap x t y u).get? (zsH4 s.heap x t y u).objs.size = some _ := Heap.get?_push_size _ rfl
  have g4 : (zsH5 s.heap x t y u).get? (zsH3 s.heap x t y u).objs.size = some _ := Heap.get?_push_of_some _ (Heap.get?_push_size _ rfl)
  have g3 : (zsH5 s.heap x t y u).get? (zsH2 s.heap x t y u).objs.size = some _ := Heap.get?_push_of_some _ (Heap.get?_push_of_some _ (Heap.get?_push_size _ rfl))
  have g2 : (zsH5 s.heap x t y u).get? (zsH1 s.heap x t).objs.size = some _ := Heap.get?_push_of_some _ (Heap.get?_push_of_some _ (Heap.get?_push_of_some _ (Heap.get?_push_size _ rfl)))
  have g1 : (zsH5 s.heap x t y u).get? s.heap.objs.size = some _ := Heap.get?_push_of_some _ (Heap.get?_push_of_some _ (Heap.get?_push_of_some _ (Heap.get?_push_of_some _ (Heap.get?_push_size _ rfl))))
  show _ ∧ _
  rw [z2, z3, z4] at g5
  rw [z1, z2] at g3
  rw [z3] at g4
  rw [z1] at g2
  rw [z4]
  exact ⟨⟨_, g5, rfl⟩, h _ g5 g3 g4 ⟨_, g1, rfl, rfl⟩ ⟨_, g2, rfl, rfl⟩ fun c o x =>
    Heap.get?_push_of_some _ (Heap.get?_push_of_some _ (Heap.get?_push_of_some _ (Heap.get?_push_of_some _ (Heap.get?_push_of_some _ x))))⟩
end

theorem draws_str {prog : Program} {w : World} {A : Around} (hh : A.handled = none) (it : Addr) (x : Str) (t : Tok) :
    Draws prog w A it [it] x.cps.size (fun i v => ∃ c u, x.cps[i]? = some c ∧ v = .str ⟨#[c]⟩ u) (fun i h => h.IsStrIter it (strIterType x) x t i) := by
  unfold strIterType
  cases x.cps.all (· < 128)
  · exact Draws.strWide hh it x t
  · exact Draws.strAscii hh it x t

/-- pairs of two lists of items -/
theorem zipI_get : ∀ {xs ys l : List It}, zipI xs ys = some l → l.length = min xs.length ys.length ∧ ∀ j, j < min xs.length ys.length → ∃ a b, xs[j]? = some (.at a) ∧ ys[j]? = some (.at b) ∧ l[j]? = some (.pair a b)
  | [], ys, l, h => by cases ys <;> cases h <;> exact ⟨by simp, fun j hj => by simp at hj⟩
  | x :: xs, [], l, h => by
    have : l = [] := by cases x <;> (try (rename_i a; cases a)) <;> simp [zipI] at h <;> exact h
    subst this
    exact ⟨by simp, fun j hj => by simp at hj⟩
  | x :: xs, y :: ys, l, h => by
    cases x with
    | pair a b => cases y <;> simp [zipI] at h
    | «at» a => cases y with
      | pair => simp [zipI] at h
      | «at» b =>
        simp only [zipI, Option.map_eq_some_iff] at h
        obtain ⟨l', h1, rfl⟩ := h
        obtain ⟨e, q⟩ := zipI_get h1
        refine ⟨by simp [e, Nat.succ_min_succ], fun j hj => ?_⟩
        cases j with
        | zero => exact ⟨a, b, by simp, by simp, by simp⟩
        | succ j =>
          obtain ⟨a', b', q1, q2, q3⟩ := q j (by simp at hj ⊢; omega)
          exact ⟨a', b', by simpa using q1, by simpa using q2, by simpa using q3⟩
theorem enumI_get : ∀ {xs l : List It} {k : Nat}, enumI k xs = some l → l.length = xs.length ∧ ∀ j, j < xs.length → ∃ a, xs[j]? = some (.at a) ∧ l[j]? = some (.pair (.int ((k + j : Nat) : Int)) a)
  | [], l, k, h => by cases h; exact ⟨rfl, fun j hj => by simp at hj⟩
  | x :: xs, l, k, h => by
    cases x with
    | pair => simp [enumI] at h
    | «at» a =>
      simp only [enumI, Option.map_eq_some_iff] at h
      obtain ⟨l', h1, rfl⟩ := h
      obtain ⟨e, q⟩ := enumI_get h1
      refine ⟨by simp [e], fun j hj => ?_⟩
      cases j with
      | zero => exact ⟨a, by simp, by simp⟩
      | succ j =>
        obtain ⟨a', q1, q2⟩ := q j (by simpa using hj)
        refine ⟨a', by simpa using q1, ?_⟩
        rw [List.getElem?_cons_succ, q2]
        congr 4
        omega

section
variable {X : Cx} {d : Nat} {A : Around} {env : Env} {ρ : Rho} {s : Shared} {sc : Scope} {loc loc' loc₁ : Loc} {σ σ' σ₁ σ₂ σ₃ : AS}

/-- an address that is free now was never in use -/
theorem free_of {ρ₁ : Rho} {h : Heap} (R : X.SR ρ₁ σ h) {a : Addr} (ha : h.get? a = none) : a ∉ ρ₁.flatten ∧ X.hb.get? a = none := by
  refine ⟨fun q => ?_, ?_⟩
  · obtain ⟨o, e⟩ := R.there a q; rw [ha] at e; cases e
  · cases q : X.hb.get? a with
    | none => rfl
    | some o => have := R.base _ o q; rw [ha] at this; cases this

theorem i_zipS (G : Good X) {x : Str} {xp pos : Pos} {as : List Expr} {a b : Str} {l : List It} (ha : as.all notStar = true) (h1 : X.VEval d sc loc (.Name x xp) σ (.val (.type "zip")) σ₁) (h2 : X.VEvals d sc loc as σ₁ [.str a, .str b] σ₂) (hz : zipI (chars a) (chars b) = some l) :
    X.VIter d sc loc (.Call (.Name x xp) as [] pos) σ l { short := true } σ₂ := by
  refine ⟨fun env x => folded_pure rfl env x, fun A env ρ s Q E ok R L kq => ?_⟩
  refine callName G rfl ha h1 h2 ok R L fun ρ₁ s₁ k₁ u us e₁ R₁ L₁ r₁ r₂ => ?_
  cases r₁
  cases r₂ with | cons ra rb => cases rb with | cons rb rc => cases rc with | nil =>
  obtain ⟨t, rfl⟩ := ra
  obtain ⟨t', rfl⟩ := rb
  refine call_zip_S (s := { s with heap := s₁, toks := k₁ }) fun h' hzp hTI hTO hI1 hI2 k => ?_
  dsimp only at hzp hTI hTO hI1 hI2 k
  have fr : ∀ j, s₁.get? (s₁.objs.size + j) = none := fun j => Heap.get?_none_of_le (Nat.le_add_right _ _)
  have fr0 : s₁.get? s₁.objs.size = none := size_none s₁
  generalize hn : s₁.objs.size = n at *
  have nf : ∀ j, n + j ∉ ρ₁.flatten ∧ X.hb.get? (n + j) = none := fun j => free_of R₁ (fr j)
  have nf0 := free_of R₁ fr0
  refine wpAny_pyIter_zip (s := { s with heap := h', toks := k₁ }) hzp ?_
  have ne : ∀ i j : Nat, i ≠ j → n + i ≠ n + j := fun i j h => by omega
  have Z : ZA (n + 4) (n + 2) (n + 3) n (n + 1) [n] [n + 1] := by
    constructor <;> simp <;> omega
  obtain ⟨hl, hg⟩ := zipI_get hz
  have hc1 : (chars a).length = a.cps.size := by simp [chars]
  have hc2 : (chars b).length = b.cps.size := by simp [chars]
  have D1 := draws_str (prog := X.prog) (w := X.w) (A := A.in1) ok.handled n a t
  have D2 := draws_str (prog := X.prog) (w := X.w) (A := A.in1) ok.handled (n + 1) b t'
  have I := iter_zip (X := X) (A := A) (all := l) ok Z (by simp) (by simp) D1 D2 (by rw [hl, hc1, hc2]) (by
      intro c hc
      simp at hc
      rcases hc with rfl | rfl | rfl | rfl
      · exact (nf 4).2
      · exact (nf 3).2
      · exact nf0.2
      · exact (nf 1).2) (fun i h st c hc => by rw [List.mem_singleton.mp hc]; obtain ⟨o, ho, _⟩ := st; exact ⟨o, ho⟩) (fun i h st c hc => by rw [List.mem_singleton.mp hc]; obtain ⟨o, ho, _⟩ := st; exact ⟨o, ho⟩)
      (fun i h st o ho ys m hd => by obtain ⟨o', ho', _, hd'⟩ := st; rw [ho'] at ho; cases ho; rw [hd'] at hd; cases hd) (fun i h st o ho ys m hd => by obtain ⟨o', ho', _, hd'⟩ := st; rw [ho'] at ho; cases ho; rw [hd'] at hd; cases hd)
  have xh : Ext noF ρ₁ (ρ₁.hide (n + 3)) s₁ h' := ext_hide k (fr 3)
  have fpc : ∀ c ∈ zFp (n + 4) (n + 2) (n + 3) n (n + 1) [n] [n + 1], s₁.get? c = none := fun c hc => by
    simp [zFp] at hc
    rcases hc with rfl | rfl | rfl | rfl | rfl | rfl | rfl
    · exact fr 4
    · exact fr 2
    · exact fr 3
    · exact fr0
    · exact fr 1
    · exact fr0
    · exact fr 1
  have mem_hide : ∀ c, c ∈ (ρ₁.hide (n + 3)).flatten → c = n + 3 ∨ c ∈ ρ₁.flatten := fun c hc => by
    unfold Rho.hide Rho.flatten at hc
    rcases List.mem_append.mp hc with q | q
    · exact .inr (List.mem_append_left _ q)
    · rcases List.mem_cons.mp q with q | q
      · exact .inl q
      · exact .inr (List.mem_append_right _ q)
  refine kq (ρ₁.hide (n + 3)) h' k₁ _ _ _ _ _ (e₁.trans xh) (R₁.hide k (fr 3) ⟨_, hTO⟩) I ⟨0, Nat.zero_le _, by simp, hzp, hTI, ⟨_, _, hTO⟩, hI1, hI2, List.mem_cons_self, ?_, ?_, ?_⟩ ?_ ?_ ?_
  · intro c hc q
    exact (free_of R₁ (fpc c hc)).1 (Rho.mem_own q)
  · refine ⟨fun q => ?_, fun q => ?_, fun q => ?_⟩
    · rcases mem_hide _ q with q | q
      · simp at q
      · exact (nf 4).1 q
    · rcases mem_hide _ q with q | q
      · simp at q
      · exact nf0.1 q
    · rcases mem_hide _ q with q | q
      · simp at q
      · exact (nf 1).1 q
  · intro j v y hj pv py
    obtain ⟨a', b', g1, g2, g3⟩ := hg j (by rw [hc1, hc2]; exact hj)
    obtain ⟨c, u, hc, rfl⟩ := pv
    obtain ⟨c', u', hc', rfl⟩ := py
    refine ⟨a', b', g3, ?_, ?_⟩
    · unfold chars at g1
      rw [List.getElem?_map, Array.getElem?_toList, hc] at g1; cases g1; exact ⟨u, rfl⟩
    · unfold chars at g2
      rw [List.getElem?_map, Array.getElem?_toList, hc'] at g2; cases g2; exact ⟨u', rfl⟩
  · intro c hc
    refine back_none e₁ (fpc c (I.sub c hc))
  · intro c f hc
    obtain ⟨o, e⟩ := ERel.live (s := { s with heap := s₁ }) L₁ _ f
    dsimp only at e; rw [fpc c hc] at e; cases e
  · intro c hc hm
    exact (free_of R₁ (fpc c hm)).1 (List.mem_append_right _ (ext_priv e₁ hc))

theorem i_zipL (G : Good X) {x : Str} {xp pos : Pos} {as : List Expr} {xs ys : List It} {l : List It} (ha : as.all notStar = true) (h1 : X.VEval d sc loc (.Name x xp) σ (.val (.type "zip")) σ₁) (h2 : X.VEvals d sc loc as σ₁ [.lst xs, .lst ys] σ₂) (hz : zipI xs ys = some l) :
    X.VIter d sc loc (.Call (.Name x xp) as [] pos) σ l { short := true } σ₂ := by
  refine ⟨fun env x => folded_pure rfl env x, fun A env ρ s Q E ok R L kq => ?_⟩
  refine callName G rfl ha h1 h2 ok R L fun ρ₁ s₁ k₁ u us e₁ R₁ L₁ r₁ r₂ => ?_
  cases r₁
  cases r₂ with | cons ra rb => cases rb with | cons rb rc => cases rc with | nil =>
  obtain ⟨l1, vs1, rfl, hl1, hP1, hx1⟩ := ra
  obtain ⟨l2, vs2, rfl, hl2, hP2, hx2⟩ := rb
  have hL1 := hP1.isList
  have hL2 := hP2.isList
  refine call_zip_2 (s := { s with heap := s₁, toks := k₁ }) hL1 hL2 fun h' hzp hTI hTO hI1 hI2 _ k => ?_
  dsimp only at hzp hTI hTO hI1 hI2 k
  have fr : ∀ j, s₁.get? (s₁.objs.size + j) = none := fun j => Heap.get?_none_of_le (Nat.le_add_right _ _)
  have fr0 : s₁.get? s₁.objs.size = none := size_none s₁
  have b1 : l1 < s₁.objs.size := by obtain ⟨o, ho, _⟩ := hL1; exact Heap.lt_size ho
  have b2 : l2 < s₁.objs.size := by obtain ⟨o, ho, _⟩ := hL2; exact Heap.lt_size ho
  generalize hn : s₁.objs.size = n at *
  have nf : ∀ j, n + j ∉ ρ₁.flatten ∧ X.hb.get? (n + j) = none := fun j => free_of R₁ (fr j)
  have nf0 := free_of R₁ fr0
  refine wpAny_pyIter_zip (s := { s with heap := h', toks := k₁ }) hzp ?_
  have ne1 : ∀ j, n + j ≠ l1 := fun j => Nat.ne_of_gt (Nat.lt_of_lt_of_le b1 (Nat.le_add_right n j))
  have ne2 : ∀ j, n + j ≠ l2 := fun j => Nat.ne_of_gt (Nat.lt_of_lt_of_le b2 (Nat.le_add_right n j))
  have ne10 : n ≠ l1 := ne1 0
  have ne20 : n ≠ l2 := ne2 0
  have Z : ZA (n + 4) (n + 2) (n + 3) n (n + 1) [n, l1] [n + 1, l2] := by
    constructor <;> simp [ne1, ne2, ne10, ne20]
  obtain ⟨hl, hg⟩ := zipI_get hz
  have hc1 : xs.length = vs1.toArray.size := by rw [itsRel_length hx1]; simp
  have hc2 : ys.length = vs2.toArray.size := by rw [itsRel_length hx2]; simp
  have kL : ∀ {l : Addr} {vs : List Value}, s₁.IsList l vs.toArray → h'.IsList l vs.toArray := fun hL => by obtain ⟨o, ho, q⟩ := hL; exact ⟨o, k _ o ho, q⟩
  have hlv : ∀ {it l : Addr} {vs : List Value} (i : Nat) (h : Heap), h.IsListIter it l i ∧ h.IsList l vs.toArray → ∀ c ∈ [it, l], ∃ o, h.get? c = some o := fun i h st c hc => by
    rcases List.mem_cons.mp hc with rfl | hc
    · obtain ⟨o, ho, _⟩ := st.1; exact ⟨o, ho⟩
    · rw [List.mem_singleton.mp hc]; obtain ⟨o, ho, _⟩ := st.2; exact ⟨o, ho⟩
  have D1 := Draws.list (prog := X.prog) (w := X.w) (A := A.in1) ok.handled n l1 (Ne.symm ne10) vs1.toArray
  have D2 := Draws.list (prog := X.prog) (w := X.w) (A := A.in1) ok.handled (n + 1) l2 (Ne.symm (ne2 1)) vs2.toArray
  have I := iter_zip (X := X) (A := A) (all := l) ok Z (by simp [ne1]) (by simp [ne2]) D1 D2 (by rw [hl, hc1, hc2]) (by
      intro c hc
      simp at hc
      rcases hc with rfl | rfl | rfl | rfl
      · exact (nf 4).2
      · exact (nf 3).2
      · exact nf0.2
      · exact (nf 1).2) hlv hlv
      (fun i h st o ho ys m hd => by obtain ⟨o', ho', _, hd'⟩ := st.1; rw [ho'] at ho; cases ho; rw [hd'] at hd; cases hd) (fun i h st o ho ys m hd => by obtain ⟨o', ho', _, hd'⟩ := st.1; rw [ho'] at ho; cases ho; rw [hd'] at hd; cases hd)
  have xh : Ext noF ρ₁ (ρ₁.hide (n + 3)) s₁ h' := ext_hide k (fr 3)
  have fpc : ∀ c ∈ zFp (n + 4) (n + 2) (n + 3) n (n + 1) [n, l1] [n + 1, l2], s₁.get? c = none ∨ c = l1 ∨ c = l2 := fun c hc => by
    simp [zFp] at hc
    rcases hc with rfl | rfl | rfl | rfl | rfl | rfl | rfl | rfl | rfl
    · exact .inl (fr 4)
    · exact .inl (fr 2)
    · exact .inl (fr 3)
    · exact .inl fr0
    · exact .inl (fr 1)
    · exact .inl fr0
    · exact .inr (.inl rfl)
    · exact .inl (fr 1)
    · exact .inr (.inr rfl)
  have off : ∀ c ∈ zFp (n + 4) (n + 2) (n + 3) n (n + 1) [n, l1] [n + 1, l2], c ∉ ρ₁.flatten := fun c hc => by
    rcases fpc c hc with h | rfl | rfl
    · exact (free_of R₁ h).1
    · exact hl1
    · exact hl2
  have mem_hide : ∀ c, c ∈ (ρ₁.hide (n + 3)).flatten → c = n + 3 ∨ c ∈ ρ₁.flatten := fun c hc => by
    unfold Rho.hide Rho.flatten at hc
    rcases List.mem_append.mp hc with q | q
    · exact .inr (List.mem_append_left _ q)
    · rcases List.mem_cons.mp q with q | q
      · exact .inl q
      · exact .inr (List.mem_append_right _ q)
  refine kq (ρ₁.hide (n + 3)) h' k₁ _ _ _ _ _ (e₁.trans xh) (R₁.hide k (fr 3) ⟨_, hTO⟩) I ⟨0, Nat.zero_le _, by simp, hzp, hTI, ⟨_, _, hTO⟩, ⟨hI1, kL hL1⟩, ⟨hI2, kL hL2⟩, List.mem_cons_self, ?_, ?_, ?_⟩ ?_ ?_ ?_
  · intro c hc q
    exact off c hc (Rho.mem_own q)
  · refine ⟨fun q => ?_, fun q => ?_, fun q => ?_⟩
    · rcases mem_hide _ q with q | q
      · simp at q
      · exact (nf 4).1 q
    · rcases mem_hide _ q with q | q
      · simp at q
      · exact nf0.1 q
    · rcases mem_hide _ q with q | q
      · simp at q
      · exact (nf 1).1 q
  · intro j v y hj pv py
    obtain ⟨a', b', g1, g2, g3⟩ := hg j (by rw [hc1, hc2]; exact hj)
    refine ⟨a', b', g3, ?_, ?_⟩
    · obtain ⟨x, hx, r⟩ := itsRel_get hx1 (i := j) (v := v) (by simpa using pv)
      rw [g1] at hx; cases hx; exact r
    · obtain ⟨x, hx, r⟩ := itsRel_get hx2 (i := j) (v := y) (by simpa using py)
      rw [g2] at hx; cases hx; exact r
  · intro c hc
    refine back_none e₁ ?_
    simp at hc
    rcases hc with rfl | rfl | rfl | rfl
    · exact fr 4
    · exact fr 3
    · exact fr0
    · exact fr 1
  · intro c f hc
    rcases fpc c hc with h | rfl | rfl
    · obtain ⟨o, e⟩ := ERel.live (s := { s with heap := s₁ }) L₁ _ f
      dsimp only at e; rw [h] at e; cases e
    · obtain ⟨o, ho, _, n, hd⟩ := hL1
      exact ERel.noSeq L₁ c o f hl1 ho _ _ hd
    · obtain ⟨o, ho, _, n, hd⟩ := hL2
      exact ERel.noSeq L₁ c o f hl2 ho _ _ hd
  · intro c hc hm
    exact off c hm (List.mem_append_right _ (ext_priv e₁ hc))
end
end Mine
end

-- part M20
section
namespace Mine
open PySem PySem.W PyProof.Rows PySem.Calls PySem.Spec

section
variable {X : Cx} {d : Nat} {A : Around} {env : Env} {ρ : Rho} {s : Shared} {sc : Scope} {loc loc' loc₁ : Loc} {σ σ' σ₁ σ₂ σ₃ : AS}

structure TSt (fp wr : List Addr) (n : Nat) (Pt : Nat → Array Value → Prop) (all : List It) (xs : List It) (ρ : Rho) (i : Nat) : Prop where
  le : i ≤ n
  xs : xs = all.drop i
  own : ∀ b ∈ fp, b ∉ ρ.own.flatten
  off : ∀ b ∈ wr, b ∉ ρ.flatten
  its : ∀ j vals, j < n → Pt j vals → ∃ a b u y, all[j]? = some (.pair a b) ∧ vals = #[u, y] ∧ AtRel a u ∧ AtRel b y

theorem iter_walksT {I : Addr} {fp wr : List Addr} {n : Nat} {Pt : Nat → Array Value → Prop} {St : Nat → Heap → Prop} {Mid : Nat → Addr → Heap → Prop} (W : WalksT X.prog X.w A I fp wr n Pt St Mid) (all : List It) (hn : all.length = n) (hb : ∀ b ∈ wr, X.hb.get? b = none)
    (hlive : ∀ i h, St i h → ∀ b ∈ fp, ∃ o, h.get? b = some o) (hns : ∀ i h, St i h → ∀ b ∈ wr, ∀ o, h.get? b = some o → ∀ ys m, o.data ≠ .seq ys m)
    (hlive' : ∀ i T h, Mid i T h → ∀ b ∈ fp, ∃ o, h.get? b = some o) (hns' : ∀ i T h, Mid i T h → ∀ b ∈ wr, ∀ o, h.get? b = some o → ∀ ys m, o.data ≠ .seq ys m) :
    Iter X A (.ref I) wr fp { short := true } (fun xs ρ _ h => ∃ i, TSt fp wr n Pt all xs ρ i ∧ St i h) (fun v xs ρ _ h => ∃ T i, v = .ref T ∧ TSt fp wr n Pt all xs ρ (i + 1) ∧ Mid i T h) where
  sub := W.sub
  frame := fun {xs ρ ρ' σ σ' h h' F} st x nF R' hF hg => by
    obtain ⟨i, S, st⟩ := st
    have k : ∀ b ∈ fp, ∀ o, h.get? b = some o → h'.get? b = some o := fun b hb o e => x.kept b o (S.own b hb) (hF b hb) e
    exact ⟨i, ⟨S.le, S.xs, fun b hb => stay_own x (hlive i h st b hb) (S.own b hb), fun b hb => stay_off x (hlive i h st b (W.sub b hb)) (S.off b hb), S.its⟩, W.frame i h h' st k⟩
  okAt := fun _ => rfl
  freshJ := hb
  apart' := fun st b hb => by obtain ⟨T, i, _, S, m⟩ := st; exact ⟨S.own b hb, hlive' i T _ m b hb⟩
  apart := fun st b hb => by obtain ⟨i, S, st⟩ := st; exact ⟨S.own b hb, hlive i _ st b hb⟩
  noSeq := fun st b o hb _ e => by obtain ⟨i, S, st⟩ := st; exact hns i _ st b hb o e
  noSeq' := fun st b o hb _ e => by obtain ⟨T, i, _, S, m⟩ := st; exact hns' i T _ m b hb o e
  item := fun x xs ρ σ s Q E st R hQ => by
    obtain ⟨i, S, st⟩ := st
    have hi : i < n := by
      rcases Nat.lt_or_ge i n with h | h
      · exact h
      · have := S.xs; rw [List.drop_eq_nil_of_le (by omega)] at this; cases this
    refine W.item i s Q E hi st fun T vals h' tk pv hT hIs hm k => ?_
    obtain ⟨a, b, u, y, e1, rfl, ra, rb⟩ := S.its i vals hi pv
    obtain ⟨hx, hr⟩ := drop_get S.xs.symm
    rw [hx] at e1; cases e1
    have hTn := Heap.get?_none_of_le hT
    exact hQ (.ref T) h' tk ⟨T, u, y, rfl, (free_of R hTn).1, hIs, ra, rb⟩ ⟨T, i, rfl, ⟨hi, hr.symm, S.own, S.off, S.its⟩, hm⟩ k fun b hb hp => absurd (List.mem_append_right _ hp) (S.off b hb)
  go := fun t v xs ρ σ s Q E ht st hQ => by
    obtain ⟨T, i, rfl, S, m⟩ := st
    obtain ⟨elts, k, pos, rfl⟩ := isTup_eq (ht rfl)
    exact W.go elts k pos i T s Q E m fun h' st' kk => hQ h' ⟨i + 1, S, st'⟩ kk fun b hb hp => absurd (List.mem_append_right _ hp) (S.off b hb)
  done := fun ρ σ s Q E st R hQ => by
    obtain ⟨i, S, st⟩ := st
    have hi : i = n := by
      have := congrArg List.length S.xs
      rw [List.length_drop, List.length_nil] at this
      have := S.le
      omega
    subst hi
    exact W.done s Q E st fun h' tk k => hQ h' tk k fun b hb hp => absurd (List.mem_append_right _ hp) (S.off b hb)
  self := fun xs ρ σ s Q E st hq => by
    obtain ⟨i, S, st⟩ := st
    exact W.self i s Q E st hq

theorem i_enumL (G : Good X) {x : Str} {xp pos : Pos} {as : List Expr} {xs : List It} {l : List It} (ha : as.all notStar = true) (h1 : X.VEval d sc loc (.Name x xp) σ (.val (.type "enumerate")) σ₁) (h2 : X.VEvals d sc loc as σ₁ [.lst xs] σ₂) (hz : enumI 0 xs = some l) :
    X.VIter d sc loc (.Call (.Name x xp) as [] pos) σ l { short := true } σ₂ := by
  refine ⟨fun env x => folded_pure rfl env x, fun A env ρ s Q E ok R L kq => ?_⟩
  refine callName G rfl ha h1 h2 ok R L fun ρ₁ s₁ k₁ u us e₁ R₁ L₁ r₁ r₂ => ?_
  cases r₁
  cases r₂ with | cons ra rb => cases rb with | nil =>
  obtain ⟨l1, vs1, rfl, hl1, hP1, hx1⟩ := ra
  have hL1 := hP1.isList
  refine call_enumerate_list (s := { s with heap := s₁, toks := k₁ }) hL1 fun h' hE hI1 _ k => ?_
  dsimp only at hE hI1 k
  have fr1 : s₁.get? (s₁.objs.size + 1) = none := Heap.get?_none_of_le (Nat.le_add_right _ _)
  have fr0 : s₁.get? s₁.objs.size = none := size_none s₁
  have b1 : l1 < s₁.objs.size := by obtain ⟨o, ho, _⟩ := hL1; exact Heap.lt_size ho
  generalize hn : s₁.objs.size = n at *
  have ne0 : n ≠ l1 := Nat.ne_of_gt b1
  have ne1 : n + 1 ≠ l1 := Nat.ne_of_gt (Nat.lt_of_lt_of_le b1 (Nat.le_add_right n 1))
  have nf1 := free_of R₁ fr1
  have nf0 := free_of R₁ fr0
  refine wpAny_pyIter_enum (s := { s with heap := h', toks := k₁ }) hE ?_
  obtain ⟨hl, hg⟩ := enumI_get hz
  have hc1 : xs.length = vs1.toArray.size := by rw [itsRel_length hx1]; simp
  have D1 := Draws.list (prog := X.prog) (w := X.w) (A := A.in1) ok.handled n l1 (Ne.symm ne0) vs1.toArray
  have W := WalksT.enumerateD D1 (n + 1) (by simp) (by simp [ne1]) (by simp)
  have hL' : h'.IsList l1 vs1.toArray := by obtain ⟨o, ho, q⟩ := hL1; exact ⟨o, k _ o ho, q⟩
  have fpc : ∀ c ∈ [n + 1, n, l1], s₁.get? c = none ∨ c = l1 := fun c hc => by
    simp at hc
    rcases hc with rfl | rfl | rfl
    · exact .inl fr1
    · exact .inl fr0
    · exact .inr rfl
  have off : ∀ c ∈ [n + 1, n, l1], c ∉ ρ₁.flatten := fun c hc => by
    rcases fpc c hc with h | rfl
    · exact (free_of R₁ h).1
    · exact hl1
  have xk : Ext noF ρ₁ ρ₁ s₁ h' := Ext.of_keeps k
  have I := iter_walksT (X := X) W l (by rw [hl, hc1]) (by
      intro c hc; simp at hc
      rcases hc with rfl | rfl
      · exact nf1.2
      · exact nf0.2)
    (by
      rintro i h ⟨⟨old, he⟩, hi, hL⟩ c hc
      simp at hc
      rcases hc with rfl | rfl | rfl
      · exact ⟨_, he⟩
      · obtain ⟨o, ho, _⟩ := hi; exact ⟨o, ho⟩
      · obtain ⟨o, ho, _⟩ := hL; exact ⟨o, ho⟩)
    (by
      rintro i h ⟨⟨old, he⟩, ⟨o', ho', _, hd'⟩, hL⟩ c hc o ho ys m hd
      simp at hc
      rcases hc with rfl | rfl
      · rw [he] at ho; cases ho; cases hd
      · rw [ho'] at ho; cases ho; rw [hd'] at hd; cases hd)
    (by
      rintro i T h ⟨⟨old, he⟩, ⟨hi, hL⟩, _⟩ c hc
      simp at hc
      rcases hc with rfl | rfl | rfl
      · exact ⟨_, he⟩
      · obtain ⟨o, ho, _⟩ := hi; exact ⟨o, ho⟩
      · obtain ⟨o, ho, _⟩ := hL; exact ⟨o, ho⟩)
    (by
      rintro i T h ⟨⟨old, he⟩, ⟨⟨o', ho', _, hd'⟩, hL⟩, _⟩ c hc o ho ys m hd
      simp at hc
      rcases hc with rfl | rfl
      · rw [he] at ho; cases ho; cases hd
      · rw [ho'] at ho; cases ho; rw [hd'] at hd; cases hd)
  refine kq ρ₁ h' k₁ _ _ _ _ _ (e₁.trans xk) (R₁.keeps k) I ⟨0, ⟨Nat.zero_le _, by simp, fun c hc q => off c hc (Rho.mem_own q), fun c hc => off c (I.sub c hc), ?_⟩, ⟨.none, hE⟩, hI1, hL'⟩ ?_ ?_ ?_
  · rintro j vals hj ⟨t, x, px, rfl⟩
    obtain ⟨a, g1, g2⟩ := hg j (by rw [hc1]; exact hj)
    obtain ⟨y, hy, r⟩ := itsRel_get hx1 (i := j) (v := x) (by simpa using px)
    rw [g1] at hy; cases hy
    exact ⟨_, a, _, x, g2, rfl, ⟨t, by simp⟩, r⟩
  · intro c hc
    refine back_none e₁ ?_
    simp at hc
    rcases hc with rfl | rfl
    · exact fr1
    · exact fr0
  · intro c f hc
    rcases fpc c hc with h | rfl
    · obtain ⟨o, e⟩ := ERel.live (s := { s with heap := s₁ }) L₁ _ f
      dsimp only at e; rw [h] at e; cases e
    · obtain ⟨o, ho, _, n, hd⟩ := hL1
      exact ERel.noSeq L₁ c o f hl1 ho _ _ hd
  · intro c hc hm
    exact off c hm (List.mem_append_right _ (ext_priv e₁ hc))
end
end Mine
end

-- part M21
section
namespace Mine
open PySem PySem.W PyProof.Rows PySem.Calls PySem.Spec

theorem subscripted_ok (sl : Expr) (o i : Value) : ∃ ops, subscripted sl false o i = operate ops (getItem o i) := by
  unfold subscripted
  split <;> first | exact ⟨_, rfl⟩ | contradiction

theorem pick_rel {T : List Addr} {h : Heap} {xs : List It} {vs : List Value} (r : ItsRel T h xs vs) : ∀ ks : List Nat, ItsRel T h (pick xs ks) (ks.filterMap (vs.toArray[·]?))
  | [] => .nil
  | k :: ks => by
    unfold pick
    have ih := pick_rel r ks
    unfold pick at ih
    cases hx : xs[k]? with
    | none =>
      have hv : vs.toArray[k]? = none := by
        have := itsRel_length r
        rw [List.getElem?_eq_none_iff] at hx
        simp; omega
      rw [List.filterMap_cons_none hx, List.filterMap_cons_none hv]
      exact ih
    | some x =>
      obtain ⟨v, hv, q⟩ := itsRel_get' r hx
      rw [List.filterMap_cons_some hx, List.filterMap_cons_some (b := v) (by simpa using hv)]
      exact .cons q ih

section
variable {X : Cx} {d : Nat} {A : Around} {env : Env} {ρ : Rho} {s : Shared} {sc : Scope} {loc loc' loc₁ : Loc} {σ σ' σ₁ σ₂ σ₃ σ₄ : AS}

theorem seqIndex_nat {k : Int} {n : Nat} (h0 : 0 ≤ k) (h : k.toNat < n) : seqIndex? k n = some k.toNat := by
  unfold seqIndex?
  have : ¬ k < 0 := by omega
  simp [this, h0]
  omega

theorem sub_sound {a c : V} {k : Int} {t : Tok} {u : Value} {value sl : Expr} {Q : Value → Shared → Prop} {E : Value → Shared → Prop} (h : sub a k = some c) (r : VRel ρ s.heap a u) (hQ : ∀ tk z, VRel ρ s.heap c z → Q z { s with toks := tk }) :
    X.wp A (subscriptTail value sl u (.int k t)) Q E s := by
  obtain ⟨ops, hs⟩ := subscripted_ok sl u (.int k t)
  unfold sub at h
  split at h
  · cases h
  rename_i hk
  split at h
  · rename_i x
    split at h
    · rename_i h0
      obtain ⟨cc, hc, rfl⟩ := Option.map_eq_some_iff.mp h
      obtain ⟨t', rfl⟩ := r
      refine tail_any (typeIs_str s x t') F.slot_str_getitem.lookup (PyProof.Rows.getItem_str (c := cc) ?_ ?_ (hQ _ _ ⟨_, rfl⟩)) hs
      · simp; omega
      · have hlt : k.toNat < x.cps.size := (Array.getElem?_eq_some_iff.mp hc).1
        have e : seqIndex? k x.length = some k.toNat := seqIndex_nat h0 hlt
        rw [e]; exact hc
    · cases h
  · rename_i p q
    obtain ⟨l, u1, u2, rfl, hl, ht, ra, rb⟩ := r
    split at h
    · rename_i h0
      cases h
      subst h0
      exact tail_any ht.typeIs slot_tuple_getitem.lookup (PyProof.Rows.getItem_tuple ht (by decide) (by decide) (j := 0) (by rfl) (by rfl) (hQ s.toks u1 ra)) hs
    · split at h
      · rename_i h0
        cases h
        subst h0
        exact tail_any ht.typeIs slot_tuple_getitem.lookup (PyProof.Rows.getItem_tuple ht (by decide) (by decide) (j := 1) (by rfl) (by rfl) (hQ s.toks u2 rb)) hs
      · cases h
  · rename_i xs
    obtain ⟨l, vs, rfl, hl, hP, hx⟩ := r
    have hL := hP.isList
    split at h
    · rename_i h0
      obtain ⟨x, hc, rfl⟩ := Option.map_eq_some_iff.mp h
      obtain ⟨v, hv, rv⟩ := itsRel_get' hx hc
      exact tail_any hL.typeIs slot_list_getitem.lookup (wpAny_getItem_list hL h0 (by omega) (x := v) (by simpa using hv) (hQ s.toks v rv)) hs
    · cases h
  · cases h

theorem v_Sub {o k : Expr} {pos : Pos} {a c : V} {i : Int} (h1 : X.VEval d sc loc o σ a σ₁) (h2 : X.VEval d sc loc k σ₁ (.int i) σ₂) (h : sub a i = some c) : X.VEval d sc loc (.Subscript o k pos) σ c σ₂ := by
  intro A env ρ s Q E ok R L kq
  refine Subscript_ (VEval.then h1 ok R L fun ρ₁ s₁ k₁ u e₁ R₁ L₁ r₁ => VEval.then h2 ok R₁ L₁ fun ρ₂ s₂ k₂ v e₂ R₂ L₂ r₂ => ?_)
  obtain ⟨t, rfl⟩ := r₂
  exact sub_sound (s := { s with heap := s₂, toks := k₂ }) h (r₁.ext e₂ (noSeq_none _ _)) fun tk z rz => kq ρ₂ s₂ tk z (e₁.trans e₂) R₂ rz

-- slices
noncomputable def Cx.VPart (X : Cx) (d : Nat) (sc : Scope) (loc : Loc) (e : Option Expr) (σ : AS) (k : Option Int) (σ' : AS) : Prop :=
  ∀ (A : Around) (env : Env) (ρ : Rho) (s : Shared) (Q : Value → Shared → Prop) (E : Value → Shared → Prop), Ok d A → X.SR ρ σ s.heap → ERel X.hb ρ sc loc env s.heap →
    (∀ ρ' h' tk v, Ext noF ρ ρ' s.heap h' → X.SR ρ' σ' h' → ERel X.hb ρ' sc loc env h' → IsPart v k → Q v { s with heap := h', toks := tk }) → X.wp A (evalPart e env) Q E s
theorem p_none : X.VPart d sc loc none σ none σ := by
  intro A env ρ s Q E ok R L h
  exact wpAny_pure (h ρ s.heap s.toks .none (Ext.refl ..) R L .none)
theorem p_some {e : Expr} {i : Int} (h1 : X.VEval d sc loc e σ (.int i) σ₁) : X.VPart d sc loc (some e) σ (some i) σ₁ := by
  intro A env ρ s Q E ok R L h
  show X.wp A (eval e env) Q E s
  refine VEval.then h1 ok R L fun ρ₁ s₁ k₁ u e₁ R₁ L₁ r₁ => ?_
  obtain ⟨t, rfl⟩ := r₁
  exact h ρ₁ s₁ k₁ _ e₁ R₁ L₁ (.int i t)

/-- a slice's parts, evaluated -/
theorem slice_head {lo hi st : Option Expr} {p : Pos} {l h' s' : Option Int} {Q : Value → Shared → Prop} {E : Value → Shared → Prop} (h1 : X.VPart d sc loc lo σ l σ₁) (h2 : X.VPart d sc loc hi σ₁ h' σ₂) (h3 : X.VPart d sc loc st σ₂ s' σ₃) (ok : Ok d A) (R : X.SR ρ σ s.heap) (L : ERel X.hb ρ sc loc env s.heap)
    (h : ∀ ρ' g tk vl vu vs, Ext noF ρ ρ' s.heap g → X.SR ρ' σ₃ g → ERel X.hb ρ' sc loc env g → IsPart vl l → IsPart vu h' → IsPart vs s' → Q (.ref g.objs.size) { s with heap := g.push { cls := .type "slice", data := .fields #[vl, vu, vs] }, toks := tk }) :
    X.wp A (eval (.Slice lo hi st p) env) Q E s := by
  refine wpAny_Slice (h1 A env ρ s _ E ok R L fun ρ₁ s₁ k₁ v₁ e₁ R₁ L₁ p₁ => ?_)
  refine h2 A env ρ₁ { s with heap := s₁, toks := k₁ } _ E ok R₁ L₁ fun ρ₂ s₂ k₂ v₂ e₂ R₂ L₂ p₂ => ?_
  refine h3 A env ρ₂ { s with heap := s₂, toks := k₂ } _ E ok R₂ L₂ fun ρ₃ s₃ k₃ v₃ e₃ R₃ L₃ p₃ => ?_
  exact h ρ₃ s₃ k₃ v₁ v₂ v₃ ((e₁.trans e₂).trans e₃) R₃ L₃ p₁ p₂ p₃

theorem part_of {v : Value} {k : Option Int} (h : IsPart v k) : ∃ q : Option (Int × Tok), v = partValue q ∧ q.map (·.1) = k := by
  cases h with
  | none => exact ⟨none, rfl, rfl⟩
  | int i t => exact ⟨some (i, t), rfl, rfl⟩

theorem v_SliceS {o : Expr} {lo hi : Option Expr} {p pos : Pos} {x : Str} {l h' : Option Int} (h0 : X.VEval d sc loc o σ (.str x) σ₁) (h1 : X.VPart d sc loc lo σ₁ l σ₂) (h2 : X.VPart d sc loc hi σ₂ h' σ₃) (hx : (sliceS x l h').length ≤ 100000) :
    X.VEval d sc loc (.Subscript o (.Slice lo hi none p) pos) σ (.str (sliceS x l h')) σ₃ := by
  intro A env ρ s Q E ok R L kq
  refine Subscript_ (VEval.then h0 ok R L fun ρ₁ s₁ k₁ u e₁ R₁ L₁ r₁ => ?_)
  obtain ⟨t, rfl⟩ := r₁
  refine slice_head (s := { s with heap := s₁, toks := k₁ }) h1 h2 p_none ok R₁ L₁ fun ρ₂ g tk vl vu vs e₂ R₂ L₂ pl pu ps => ?_
  obtain ⟨q1, rfl, w1⟩ := part_of pl
  obtain ⟨q2, rfl, w2⟩ := part_of pu
  cases ps
  obtain ⟨ops, hs⟩ := subscripted_ok (.Slice lo hi none p) (.str x t) (.ref g.objs.size)
  have fin : ∀ tk' z, (∃ t', z = Value.str (sliceS x l h') t') → Q z { s with heap := g.push { cls := .type "slice", data := .fields #[partValue q1, partValue q2, .none] }, toks := tk' } := fun tk' z hz =>
    kq ρ₂ _ tk' z ((e₁.trans e₂).trans (Ext.of_keeps push_keeps)) (R₂.keeps push_keeps) hz
  refine tail_any (typeIs_str _ x t) F.slot_str_getitem.lookup (wpAny_getItem_str_slice (l := q1) (u := q2) (st := none) ⟨_, Heap.get?_push_size _ rfl, rfl, rfl⟩ rfl ?_) hs
  unfold sliceMade slicePicked
  rw [w1, w2]
  have e1 : ((Option.map (fun x => x.1) (none : Option (Int × Tok))).getD 1) = (1 : Int) := rfl
  rw [e1]
  have tt : ((1 : Int) == 1) = true := rfl
  rw [tt, Bool.true_and]
  split
  · rename_i hq
    exact fin _ _ ⟨t, by unfold sliceS; dsimp only; rw [if_pos hq]⟩
  · rename_i hq
    refine ⟨?_, fin _ _ ⟨_, by unfold sliceS; dsimp only; rw [if_neg hq]⟩⟩
    unfold sliceS at hx
    dsimp only at hx
    rw [if_neg hq] at hx
    rw [sizeLine_eq]
    exact Nat.le_trans hx (by decide)

theorem v_SliceL {o : Expr} {lo hi st : Option Expr} {p pos : Pos} {xs : List It} {l h' st' : Option Int} (h0 : X.VEval d sc loc o σ (.lst xs) σ₁) (h1 : X.VPart d sc loc lo σ₁ l σ₂) (h2 : X.VPart d sc loc hi σ₂ h' σ₃) (h3 : X.VPart d sc loc st σ₃ st' σ₄) (hs0 : st' ≠ some 0) (hx : xs.length ≤ 1000000) :
    X.VEval d sc loc (.Subscript o (.Slice lo hi st p) pos) σ (.lst (sliceL xs l h' st')) σ₄ := by
  intro A env ρ s Q E ok R L kq
  refine Subscript_ (VEval.then h0 ok R L fun ρ₁ s₁ k₁ u e₁ R₁ L₁ r₁ => ?_)
  refine slice_head (s := { s with heap := s₁, toks := k₁ }) h1 h2 h3 ok R₁ L₁ fun ρ₂ g tk vl vu vs e₂ R₂ L₂ pl pu ps => ?_
  obtain ⟨a, us, rfl, hl, hP, hi'⟩ := r₁.ext e₂ (noSeq_none _ _)
  have hL := hP.isList
  obtain ⟨ops, hs⟩ := subscripted_ok (.Slice lo hi st p) (.ref a) (.ref g.objs.size)
  have k₃ : ∀ b o, g.get? b = some o → (g.push { cls := .type "slice", data := .fields #[vl, vu, vs] }).get? b = some o := push_keeps
  have hSl := Heap.IsSliceOf.new g vl vu vs
  generalize g.push { cls := .type "slice", data := .fields #[vl, vu, vs] } = g' at k₃ hSl ⊢
  have hL' : g'.IsList a us.toArray := by obtain ⟨o, ho, q⟩ := hL; exact ⟨o, k₃ _ o ho, q⟩
  have hlen := itsRel_length hi'
  refine tail_any (s := { s with heap := g', toks := tk }) hL'.typeIs slot_list_getitem.lookup (wpAny_getItem_list_slice (s := { s with heap := g', toks := tk }) hL' hSl pl pu ps hs0 ?_ (by rw [List.size_toArray, ← hlen, sizeLine_eq]; omega)) hs
  have R₃ := R₂.keeps k₃
  refine kq ρ₂ _ tk _ (((e₁.trans e₂).trans (Ext.of_keeps k₃)).trans (Ext.of_keeps push_keeps)) (R₃.keeps push_keeps) ⟨_, _, rfl, R₃.offSize, ⟨_, Heap.get?_push_size _ rfl⟩, ?_⟩
  have e : (sliceBounds l h' st' us.toArray.size) = sliceBounds l h' st' xs.length := by rw [List.size_toArray, hlen]
  unfold sliceL
  rw [← e]
  exact (pick_rel (hi'.ext (F := noF) ((Ext.of_keeps k₃).trans (Ext.of_keeps push_keeps)) (noSeq_none _ _)) _)
end
end Mine
end

-- part M22
section
namespace Mine
open PySem PySem.W PyProof.Rows PySem.Calls PySem.Spec

section
variable {X : Cx} {d : Nat} {A : Around} {env : Env} {ρ : Rho} {s : Shared} {sc : Scope} {loc loc' loc₁ : Loc} {σ σ' σ₁ σ₂ σ₃ σ₄ : AS}

-- a method is called
theorem methCall {o : Expr} {m : Str} {ap pos : Pos} {as : List Expr} {ks : List Keyword} {Q : Value → Shared → Prop} {E : Value → Shared → Prop} (hb : baseOk o = true) (ha : as.all notStar = true) (hl : (ap.endLine == pos.line) = true) (hn : as.length + ks.length < 20)
    (hk : (backToKw pos (keywordEach ks env)).all (·.1.isSome) = true)
    (h : X.wp A (eval o env) (fun ov s₁ => ∀ pl, X.wp A (getMethod ov m pl) (fun fx s₂ => X.wp A (callWith pos fx.1 fx.2 (backTo pos (starEach as env)) (backToKw pos (keywordEach ks env))) Q E s₂) E s₁) E s) :
    X.wp A (eval (.Call (.Attribute o m ap) as ks pos) env) Q E s := by
  have hbase : attributeBase o m env (eval o env) = eval o env := by cases o <;> first | rfl | cases hb
  rw [arm_eval_Call, hbase]
  refine wpAny_bind (wpAny_mono h (fun ov s₁ h₁ => ?_) fun _ _ e => e)
  refine wpAny_bind (wpAny_standAt ?_)
  have hp := starEach_plain (env := env) (pos := pos) ha
  have hform : methodCallForm (as.length + ks.length) (backTo pos (starEach as env)) (backToKw pos (keywordEach ks env)) = true := by
    unfold methodCallForm
    have e1 : (backTo pos (starEach as env)).all (!·.1) = true := by
      rw [List.any_eq_false] at hp
      exact List.all_eq_true.mpr fun x hx => by have := hp x hx; simpa using this
    rw [e1, hk]
    have e2 : as.length + ks.length + (if (backToKw pos (keywordEach ks env)).isEmpty then 0 else 1) < 30 := by split <;> omega
    simpa using e2
  have hpos : methodCallPos true o env ap pos = pure pos := by unfold methodCallPos; simp [hl]
  unfold methodCall
  rw [hform]
  refine wpAny_bind (wpAny_holding (wpAny_mono (h₁ _) (fun fx s₂ h₂ => ?_) fun _ _ e => e))
  exact wpAny_bind (wpAny_of_eq hpos h₂)

/-- a built-in method of a value that stands by itself -/
theorem methB (G : Good X) {o : Expr} {m : Str} {ap pos : Pos} {as : List Expr} {a : V} {vs : List V} {T id : String} {Q : Value → Shared → Prop} {E : Value → Shared → Prop} (hb : baseOk o = true) (ha : as.all notStar = true) (hl : (ap.endLine == pos.line) = true) (hn : as.length < 20)
    (h1 : X.VEval d sc loc o σ a σ₁) (h2 : X.VEvals d sc loc as σ₁ vs σ₂) (pa : PlainAttrs T) (slot : Slot T m id) (hty : typeOf (.builtin id) = pure (.type "method_descriptor")) (ok : Ok d A) (R : X.SR ρ σ s.heap) (L : ERel X.hb ρ sc loc env s.heap)
    (hT : ∀ ρ' h' tk u, X.SR ρ' σ₁ h' → VRel ρ' h' a u → ({ s with heap := h', toks := tk } : Shared).TypeIs u T ∧ ∀ b, u = .ref b → ∃ o, h'.get? b = some o ∧ o.dict = none)
    (h : ∀ ρ' h' tk u us, Ext noF ρ ρ' s.heap h' → X.SR ρ' σ₂ h' → ERel X.hb ρ' sc loc env h' → VRel ρ' h' a u → VsRel ρ' h' vs us → X.wp A (PySem.call (.builtin id) (u :: us) []) Q E { s with heap := h', toks := tk }) :
    X.wp A (eval (.Call (.Attribute o m ap) as [] pos) env) Q E s := by
  refine methCall hb ha hl (by simpa using hn) rfl (VEval.then h1 ok R L fun ρ₁ s₁ k₁ u e₁ R₁ L₁ r₁ => fun pl => ?_)
  obtain ⟨t1, t2⟩ := hT ρ₁ s₁ k₁ u R₁ r₁
  refine getMethod_builtin t1 pa slot hty t2 ?_
  refine callWith_any (s := { s with heap := s₁, toks := k₁ }) (f := .val (.builtin id)) (first := [u]) G rfl rfl ha h2 ok R₁ L₁ fun ρ₂ s₂ k₂ us e₂ R₂ L₂ r₂ => ?_
  exact h ρ₂ s₂ k₂ u us (e₁.trans e₂) R₂ L₂ (r₁.ext e₂ (noSeq_none _ _)) r₂

theorem own_list {i : Nat} {xs : List It} {u : Value} {h : Heap} (R : X.SR ρ σ h) (hi : σ[i]? = some (.list xs)) (r : VRel ρ h (.own i) u) : ∃ l vs, u = .ref l ∧ ρ.own[i]? = some [l] ∧ h.PlainList l vs.toArray ∧ ItsRel ρ.flatten h xs vs := by
  obtain ⟨l, rr, e, rfl⟩ := r
  obtain ⟨l', vs, e', hL, hx⟩ := R.objs i _ _ e hi
  cases e'
  exact ⟨l, vs, rfl, e, hL, hx⟩
/-- a tracked list is turned -/
theorem turn_list {i : Nat} {l : Addr} {xs : List It} {vs : List Value} {h h' : Heap} (R : X.SR ρ σ h) (hi : ρ.own[i]? = some [l]) (hs : Heap.SameBut l h h') (hL : h'.PlainList l vs.toArray) (hx : ItsRel ρ.flatten h xs vs) :
    X.SR ρ (σ.set i (.list xs)) h' ∧ Ext noF ρ ρ h h' :=
  R.turn hi (fun b o hb e => (hs.2 b (fun q => hb (by simp [q]))).trans e) (fun b hb => by rw [List.mem_singleton.mp hb]; obtain ⟨n, e⟩ := hL; exact ⟨_, e⟩) fun x => ⟨l, vs, rfl, hL, hx.ext x (noSeq_none _ _)⟩

theorem list_type {i : Nat} {xs : List It} (hi : σ[i]? = some (.list xs)) : ∀ ρ' h' tk u, X.SR ρ' σ h' → VRel ρ' h' (.own i) u → ({ s with heap := h', toks := tk } : Shared).TypeIs u "list" ∧ ∀ b, u = .ref b → ∃ o, h'.get? b = some o ∧ o.dict = none := fun ρ' h' tk u R r => by
  obtain ⟨l, vs, rfl, _, ⟨n, e⟩, _⟩ := own_list R hi r
  exact ⟨⟨_, e, rfl⟩, fun b q => by cases q; exact ⟨_, e, rfl⟩⟩

theorem v_append (G : Good X) {o : Expr} {ap pos : Pos} {as : List Expr} {i : Nat} {xs ys : List It} {v : It} (hb : baseOk o = true) (ha : as.all notStar = true) (hl : (ap.endLine == pos.line) = true) (hn : as.length < 20)
    (h1 : X.VEval d sc loc o σ (.own i) σ₁) (hi : σ₁[i]? = some (.list xs)) (h2 : X.VEvals d sc loc as σ₁ [.it v] σ₂) (hi2 : σ₂[i]? = some (.list ys)) (hy : ys.length ≤ 100000) : X.VEval d sc loc (.Call (.Attribute o "append" ap) as [] pos) σ .none (σ₂.set i (.list (ys ++ [v]))) := by
  intro A env ρ s Q E ok R L kq
  refine methB G hb ha hl hn h1 h2 PySem.F.plainAttrs_list slot_list_append type_list_append ok R L (list_type hi) fun ρ₁ s₁ k₁ u us e₁ R₁ L₁ r₁ r₂ => ?_
  cases r₂ with | cons ra rb => cases rb with | nil =>
  obtain ⟨l, vs, rfl, hil, hL, hx⟩ := own_list R₁ hi2 r₁
  refine wpAny_list_append_plain (s := { s with heap := s₁, toks := k₁ }) hL (fun h' hL' hs' => ?_) (by rw [List.size_toArray, ← itsRel_length hx, sizeLine_eq]; omega)
  obtain ⟨R₂, e₂⟩ := turn_list (vs := vs ++ [_]) R₁ hil hs' (by simpa using hL') (hx.snoc ra)
  exact kq ρ₁ h' k₁ .none (e₁.trans e₂) R₂ rfl

theorem v_pop (G : Good X) {o : Expr} {ap pos : Pos} {as : List Expr} {i : Nat} {xs rest : List It} {y : It} (hb : baseOk o = true) (ha : as.all notStar = true) (hl : (ap.endLine == pos.line) = true) (hn : as.length < 20)
    (h1 : X.VEval d sc loc o σ (.own i) σ₁) (hi : σ₁[i]? = some (.list xs)) (h2 : X.VEvals d sc loc as σ₁ [.int 0] σ₂) (hi2 : σ₂[i]? = some (.list (y :: rest))) (hy : rest.length ≤ 100000) : X.VEval d sc loc (.Call (.Attribute o "pop" ap) as [] pos) σ (.it y) (σ₂.set i (.list rest)) := by
  intro A env ρ s Q E ok R L kq
  refine methB G hb ha hl hn h1 h2 PySem.F.plainAttrs_list PySem.F.slot_list_pop PySem.F.type_list_pop ok R L (list_type hi) fun ρ₁ s₁ k₁ u us e₁ R₁ L₁ r₁ r₂ => ?_
  cases r₂ with | cons ra rb => cases rb with | nil =>
  obtain ⟨t, rfl⟩ := ra
  obtain ⟨l, vs, rfl, hil, ⟨n, hL⟩, hx⟩ := own_list R₁ hi2 r₁
  cases hx with | @cons _ _ v vs hv hx =>
  have hlen := itsRel_length hx
  refine PySem.call_meets PySem.F.slot_list_pop ⟨_, hL, rfl⟩ PySem.F.entry_list_pop (PySem.F.args_list_pop_2 _ _) (PySem.MeetsSeq.list_pop_at l _ n 0 t 0 v (by rfl) ?_ (by simp) (by rw [List.size_toArray, List.length_cons, ← hlen, sizeLine_eq]; omega)) ⟨hL, ?_⟩
  · unfold seqIndex?; simp
  · have e : ((v :: vs).toArray).eraseIdxIfInBounds 0 = vs.toArray := kl_erase [] vs v
    have q := PySem.IsL.update hL (fun a => a.eraseIdxIfInBounds 0)
    rw [e] at q
    obtain ⟨R₂, e₂⟩ := turn_list R₁ hil (Heap.SameBut.update ..) ⟨_, q⟩ hx
    exact kq ρ₁ _ k₁ v (e₁.trans e₂) R₂ (ItRel.ext e₂ (noSeq_none _ _) hv)

theorem v_SubOwn {o k : Expr} {pos : Pos} {j : Nat} {xs : List It} {c : V} {i : Int} (h1 : X.VEval d sc loc o σ (.own j) σ₁) (h2 : X.VEval d sc loc k σ₁ (.int i) σ₂) (hj : σ₂[j]? = some (.list xs)) (h : sub (.lst xs) i = some c) : X.VEval d sc loc (.Subscript o k pos) σ c σ₂ := by
  intro A env ρ s Q E ok R L kq
  refine Subscript_ (VEval.then h1 ok R L fun ρ₁ s₁ k₁ u e₁ R₁ L₁ r₁ => VEval.then h2 ok R₁ L₁ fun ρ₂ s₂ k₂ v e₂ R₂ L₂ r₂ => ?_)
  obtain ⟨t, rfl⟩ := r₂
  obtain ⟨l, vs, rfl, hil, hL, hx⟩ := own_list R₂ hj (r₁.ext e₂ (noSeq_none _ _))
  obtain ⟨ops, hs⟩ := subscripted_ok k (.ref l) (.int i t)
  unfold sub at h
  split at h
  · cases h
  rename_i hk
  dsimp only at h
  split at h
  · rename_i h0
    obtain ⟨x, hc, rfl⟩ := Option.map_eq_some_iff.mp h
    obtain ⟨v, hv, rv⟩ := itsRel_get' hx hc
    exact tail_any (s := { s with heap := s₂, toks := k₂ }) hL.isList.typeIs slot_list_getitem.lookup (wpAny_getItem_list hL.isList h0 (by omega) (x := v) (by simpa using hv) (kq ρ₂ s₂ k₂ v (e₁.trans e₂) R₂ rv)) hs
  · cases h

theorem itsRel_set {T : List Addr} {h : Heap} {xs : List It} {vs : List Value} (r : ItsRel T h xs vs) {w : It} {v : Value} (q : ItRel T h w v) (j : Nat) : ItsRel T h (xs.set j w) (vs.set j v) := by
  induction r generalizing j with
  | nil => exact .nil
  | cons a b ih =>
    cases j with
    | zero => exact .cons q b
    | succ j => exact .cons a (ih j)
end
end Mine
end

-- part M23
section
namespace Mine
open PySem PySem.W PyProof.Rows PySem.Calls PySem.Spec

section
variable {prog : Program} {w : World} {A : Around} {E : Value → Shared → Prop} {s : Shared}
theorem setItem_plain {l : Addr} {items : Array Value} {k : Int} {t : Tok} {v : Value} {Q : Unit → Shared → Prop} (hl : s.heap.PlainList l items)
    (h0 : 0 ≤ k) (hfit : k < 2 ^ 63) (hn : k < items.size)
    (hQ : ∀ h', h'.PlainList l (items.setIfInBounds k.toNat v) → Heap.SameBut l s.heap h' → Q () { s with heap := h' }) :
    wpAny (model prog w) A (setItem (.ref l) (.int k t) v) Q E s := by
  obtain ⟨n, ho⟩ := hl
  have hl : s.heap.IsList l items := ⟨_, ho, rfl, n, rfl⟩
  unfold setItem
  try with_reducible refine wpAny_holding ?_
  first | refine wpAny_bind (wpAny_pure ?_) | skip
  refine wpAny_bind (wpAny_sequenceKey hl.typeIs (by decide) ?_)
  refine wpAny_bind (wpAny_callSpecial?_slot (name := Str.ofString "__setitem__") hl.typeIs slot_list_setitem
    (wpAny_call_entry slot_list_setitem hl.typeIs entry_list_setitem ?_ (args_list_setitem _ _ _)))
  show wpAny _ _ (Builtin.List.listSubscript? (.int k t) >>= _) _ _ s
  refine wpAny_bind (wpAny_listSubscript_int (fitsIndex_of h0 hfit) ?_)
  clear hfit
  obtain ⟨j, rfl⟩ := Int.eq_ofNat_of_zero_le h0
  have hj : j < items.size := by omega
  have hx' : items[j]? = some items[j] := Array.getElem?_eq_getElem hj
  show wpAny _ _ ((seqItemAt l j >>= fun r => pure (r.map (j, ·))) >>= _) _ _ s
  refine wpAny_bind (wpAny_bind (wpAny_seqItemAt ho rfl (wpAny_pure ?_)))
  rw [hx']
  show wpAny _ _ (setSeqItemAt l j v >>= _) _ _ s
  have hfin : (s.heap.update l (Obj.mapSeq (·.setIfInBounds j v))).PlainList l (items.setIfInBounds j v) := ⟨_, PySem.IsL.update ho _⟩
  refine wpAny_bind (wpAny_setSeqItemAt ho rfl ?_)
  first
    | exact wpAny_bind (wpAny_pure (wpAny_pure ⟨.none, rfl, wpAny_pure (hQ _ hfin (Heap.SameBut.update ..))⟩))
    | exact wpAny_pure ⟨.none, rfl, wpAny_pure (hQ _ hfin (Heap.SameBut.update ..))⟩

/-- l[:] = m -/
theorem setItem_all {l m sl : Addr} {items new : Array Value} {Q : Unit → Shared → Prop} (hl : s.heap.PlainList l items) (hm : s.heap.IsList m new) (hs : s.heap.IsSliceOf sl .none .none .none) (hne : l ≠ m) (h1 : items.size ≤ 1000000) (h2 : new.size ≤ 1000000)
    (hQ : ∀ h', h'.PlainList l new → Heap.SameBut l s.heap h' → Q () { s with heap := h' }) :
    wpAny (model prog w) A (setItem (.ref l) (.ref sl) (.ref m)) Q E s := by
  obtain ⟨n, ho⟩ := hl
  have hl : s.heap.IsList l items := ⟨_, ho, rfl, n, rfl⟩
  obtain ⟨os, hos, hcs, hds⟩ := id hs
  obtain ⟨om, hom, hcm, nm, hdm⟩ := id hm
  have hTs : s.TypeIs (.ref sl) "slice" := ⟨os, hos, hcs⟩
  unfold setItem
  try with_reducible refine wpAny_holding ?_
  first | refine wpAny_bind (wpAny_pure ?_) | skip
  refine wpAny_bind (wpAny_sequenceKey hl.typeIs (by decide) ?_)
  refine wpAny_bind (wpAny_callSpecial?_slot (name := Str.ofString "__setitem__") hl.typeIs slot_list_setitem
    (wpAny_call_entry slot_list_setitem hl.typeIs entry_list_setitem ?_ (args_list_setitem _ _ _)))
  show wpAny _ _ (Builtin.List.listSubscript? (.ref sl) >>= _) _ _ s
  refine wpAny_bind ?_
  unfold Builtin.List.listSubscript?
  refine wpAny_bind (wpAny_specialOf hTs slice_no_index ?_)
  simp only [Option.isNone_none, if_true]
  refine wpAny_pure ?_
  show wpAny _ _ (typeOf (.ref sl) >>= _) _ _ s
  refine wpAny_bind (wpAny_typeOf hTs ?_)
  rw [if_neg (by decide)]
  rw [listSliceParts_eq]
  refine wpAny_bind (wpAny_bind (wpAny_field hos hds (x := .none) rfl (wpAny_bind (wpAny_listPart .none ?_))))
  rw [if_neg (show ¬ ((rawPart none == rawInt 0) = true) from Bool.false_ne_true)]
  refine wpAny_bind (wpAny_field hos hds (x := .none) rfl (wpAny_bind (wpAny_listPart .none ?_)))
  refine wpAny_bind (wpAny_field hos hds (x := .none) rfl (wpAny_bind (wpAny_listPart .none (wpAny_pure ?_))))
  have hsame : Builtin.List.listSameRef (.ref l) (.ref m) = false := beq_eq_false_iff_ne.mpr hne
  rw [hsame]
  simp only [Bool.false_eq_true, if_false]
  refine wpAny_bind (m := Builtin.List.listAllItems (.ref m) _) ?_
  unfold Builtin.List.listAllItems
  refine wpAny_bind (wpAny_typeOf hm.typeIs ?_)
  rw [if_pos (by decide)]
  unfold Builtin.List.listItems
  refine wpAny_bind (wpAny_seqItems hom hdm (wpAny_pure ?_))
  refine wpAny_bind (wpAny_bind (wpAny_seqItems ho rfl (wpAny_pure ?_)))
  refine wpAny_bind (wpAny_of_eq (sliceIndices_raw none none none items.size (by simp)) ?_)
  have hb : sliceBounds none none none items.size = (0, (items.size : Int), 1) := rfl
  rw [hb]
  dsimp only
  rw [if_pos (by decide)]
  refine wpAny_bind (wpAny_rule ?_)
  have hlong : Builtin.List.listTooLong (items.size + new.size) = false := by
    unfold Builtin.List.listTooLong
    rw [decide_eq_false_iff_not, sizeLine_eq]; omega
  rw [hlong]
  simp only [Bool.false_eq_true, if_false]
  unfold Builtin.List.listUpdate
  dsimp only
  have e1 : ((0 : Int).toNat) = 0 := rfl
  have e2 : (max (0 : Int) (items.size : Int)).toNat = items.size := by omega
  rw [e1, e2]
  have fin : (s.heap.update l (Obj.mapSeq fun xs => xs.extract 0 0 ++ new ++ xs.extract items.size xs.size)).PlainList l new := by
    have q := PySem.IsL.update ho (fun xs => xs.extract 0 0 ++ new ++ xs.extract items.size xs.size)
    have e : items.extract 0 0 ++ new ++ items.extract items.size items.size = new := by simp
    rw [e] at q
    exact ⟨_, q⟩
  have hsz : (Data.seq new 0).pastItsLine = none ∨ True := .inr trivial
  refine wpAny_bind (wpAny_updateSeq ho rfl ?_ )
  refine wpAny_bind (wpAny_letGo ?_)
  exact wpAny_bind (wpAny_pure (wpAny_pure ⟨.none, rfl, wpAny_pure (hQ _ fin (Heap.SameBut.update ..))⟩))
end
end Mine
end

-- part M24
section
namespace Mine
open PySem PySem.W PyProof.Rows PySem.Calls PySem.Spec

section
variable {X : Cx} {d : Nat} {A : Around} {env : Env} {ρ : Rho} {s : Shared} {sc : Scope} {loc loc' loc₁ : Loc} {σ σ' σ₁ σ₂ σ₃ σ₄ : AS}

theorem x_AssignItem {o k e : Expr} {sp pos : Pos} {i : Nat} {j : Int} {w : It} {xs xs' : List It} (h1 : X.VEval d sc loc e σ (.it w) σ₁) (h2 : X.VEval d sc loc o σ₁ (.own i) σ₂) (h3 : X.VEval d sc loc k σ₂ (.int j) σ₃) (hi : σ₃[i]? = some (.list xs)) (hs : setAt xs j w = some xs') :
    X.VExec d sc loc (.Assign [.Subscript o k sp] e pos) σ .next loc (σ₃.set i (.list xs')) := by
  intro A env ρ s Q E ok R L kq
  unfold setAt at hs
  split at hs
  case isFalse => cases hs
  rename_i hj
  cases hs
  refine wpAny_Assign_Subscript (VEval.then h1 ok R L fun ρ₁ s₁ k₁ u e₁ R₁ L₁ r₁ => VEval.then h2 ok R₁ L₁ fun ρ₂ s₂ k₂ u₂ e₂ R₂ L₂ r₂ => VEval.then h3 ok R₂ L₂ fun ρ₃ s₃ k₃ u₃ e₃ R₃ L₃ r₃ => ?_) (by cases e <;> rfl)
  obtain ⟨t, rfl⟩ := r₃
  obtain ⟨l, vs, rfl, hil, hL, hx⟩ := own_list R₃ hi (r₂.ext e₃ (noSeq_none _ _))
  have hlen := itsRel_length hx
  refine setItem_plain (s := { s with heap := s₃, toks := k₃ }) hL hj.1 (by omega) (by rw [List.size_toArray, ← hlen]; exact hj.2.1) fun h' hL' hs' => ?_
  have rw' : ItRel ρ₃.flatten s₃ w u := ItRel.ext (e₂.trans e₃) (noSeq_none _ _) r₁
  obtain ⟨R₄, e₄⟩ := turn_list (vs := vs.set j.toNat u) R₃ hil hs' (by simpa using hL') (itsRel_set hx rw' j.toNat)
  exact kq ρ₃ h' k₃ _ (Ext.up L (((e₁.trans e₂).trans e₃).trans e₄)) R₄ (L₃.ext e₄) rfl

theorem x_AssignAll {o e : Expr} {p sp pos : Pos} {i : Nat} {xs ys : List It} (h1 : X.VEval d sc loc e σ (.lst ys) σ₁) (h2 : X.VEval d sc loc o σ₁ (.own i) σ₂) (hi : σ₂[i]? = some (.list xs)) (hx : xs.length ≤ 1000000) (hy : ys.length ≤ 1000000) :
    X.VExec d sc loc (.Assign [.Subscript o (.Slice none none none p) sp] e pos) σ .next loc (σ₂.set i (.list ys)) := by
  intro A env ρ s Q E ok R L kq
  refine wpAny_Assign_Subscript (VEval.then h1 ok R L fun ρ₁ s₁ k₁ u e₁ R₁ L₁ r₁ => VEval.then h2 ok R₁ L₁ fun ρ₂ s₂ k₂ u₂ e₂ R₂ L₂ r₂ => ?_) (by cases e <;> rfl)
  refine slice_head (s := { s with heap := s₂, toks := k₂ }) p_none p_none p_none ok R₂ L₂ fun ρ₃ g tk vl vu vs e₃ R₃ L₃ p1 p2 p3 => ?_
  cases p1; cases p2; cases p3
  obtain ⟨m, us, rfl, hm, hMP, hyv⟩ := r₁.ext (e₂.trans e₃) (noSeq_none _ _)
  have hM := hMP.isList
  obtain ⟨l, vs, rfl, hil, ⟨n, hL⟩, hxv⟩ := own_list R₃ hi (r₂.ext e₃ (noSeq_none _ _))
  have hne : l ≠ m := fun q => hm (q ▸ mem_flatten_of hil (by simp))
  have k₃ : ∀ b o, g.get? b = some o → (g.push { cls := .type "slice", data := .fields #[.none, .none, .none] }).get? b = some o := push_keeps
  have hSl := Heap.IsSliceOf.new g .none .none .none
  generalize g.push { cls := .type "slice", data := .fields #[.none, .none, .none] } = g' at k₃ hSl ⊢
  have xk : Ext noF ρ₃ ρ₃ g g' := Ext.of_keeps k₃
  have R₄ := R₃.keeps k₃
  have hM' : g'.IsList m us.toArray := by obtain ⟨o, ho, q⟩ := hM; exact ⟨o, k₃ _ o ho, q⟩
  have l1 := itsRel_length hxv
  have l2 := itsRel_length hyv
  refine setItem_all (s := { s with heap := g', toks := tk }) ⟨n, k₃ _ _ hL⟩ hM' hSl hne (by rw [List.size_toArray, ← l1]; exact hx) (by rw [List.size_toArray, ← l2]; exact hy) fun h' hL' hs' => ?_
  obtain ⟨R₅, e₅⟩ := turn_list R₄ hil hs' hL' (hyv.ext xk (noSeq_none _ _))
  exact kq ρ₃ h' tk _ (Ext.up L ((((e₁.trans e₂).trans e₃).trans xk).trans e₅)) R₅ ((L₃.ext xk).ext e₅) rfl

theorem v_SliceOwn {o : Expr} {lo hi st : Option Expr} {p pos : Pos} {i : Nat} {xs : List It} {l h' st' : Option Int} (h0 : X.VEval d sc loc o σ (.own i) σ₁) (h1 : X.VPart d sc loc lo σ₁ l σ₂) (h2 : X.VPart d sc loc hi σ₂ h' σ₃) (h3 : X.VPart d sc loc st σ₃ st' σ₄) (ho : σ₄[i]? = some (.list xs)) (hs0 : st' ≠ some 0) (hx : xs.length ≤ 1000000) :
    X.VEval d sc loc (.Subscript o (.Slice lo hi st p) pos) σ (.lst (sliceL xs l h' st')) σ₄ := by
  intro A env ρ s Q E ok R L kq
  refine Subscript_ (VEval.then h0 ok R L fun ρ₁ s₁ k₁ u e₁ R₁ L₁ r₁ => ?_)
  refine slice_head (s := { s with heap := s₁, toks := k₁ }) h1 h2 h3 ok R₁ L₁ fun ρ₂ g tk vl vu vs e₂ R₂ L₂ pl pu ps => ?_
  obtain ⟨a, us, rfl, hil, hP, hi'⟩ := own_list R₂ ho (r₁.ext e₂ (noSeq_none _ _))
  have hL := hP.isList
  obtain ⟨ops, hs⟩ := subscripted_ok (.Slice lo hi st p) (.ref a) (.ref g.objs.size)
  have k₃ : ∀ b o, g.get? b = some o → (g.push { cls := .type "slice", data := .fields #[vl, vu, vs] }).get? b = some o := push_keeps
  have hSl := Heap.IsSliceOf.new g vl vu vs
  generalize g.push { cls := .type "slice", data := .fields #[vl, vu, vs] } = g' at k₃ hSl ⊢
  have hL' : g'.IsList a us.toArray := by obtain ⟨o, ho, q⟩ := hL; exact ⟨o, k₃ _ o ho, q⟩
  have hlen := itsRel_length hi'
  refine tail_any (s := { s with heap := g', toks := tk }) hL'.typeIs slot_list_getitem.lookup (wpAny_getItem_list_slice (s := { s with heap := g', toks := tk }) hL' hSl pl pu ps hs0 ?_ (by rw [List.size_toArray, ← hlen, sizeLine_eq]; omega)) hs
  have R₃ := R₂.keeps k₃
  refine kq ρ₂ _ tk _ (((e₁.trans e₂).trans (Ext.of_keeps k₃)).trans (Ext.of_keeps push_keeps)) (R₃.keeps push_keeps) ⟨_, _, rfl, R₃.offSize, ⟨_, Heap.get?_push_size _ rfl⟩, ?_⟩
  have e : (sliceBounds l h' st' us.toArray.size) = sliceBounds l h' st' xs.length := by rw [List.size_toArray, hlen]
  unfold sliceL
  rw [← e]
  exact (pick_rel (hi'.ext (F := noF) ((Ext.of_keeps k₃).trans (Ext.of_keeps push_keeps)) (noSeq_none _ _)) _)
end
end Mine
end

-- part M25
section
namespace Mine
open PySem PySem.W PyProof.Rows PySem.Calls PySem.Spec

theorem find_xyz (c : Nat) : Txt.find ⟨#[120, 121, 122]⟩ ⟨#[c]⟩ = findC ⟨#[120, 121, 122]⟩ c := by
  by_cases h0 : c = 120
  · subst h0; decide +kernel
  by_cases h1 : c = 121
  · subst h1; decide +kernel
  by_cases h2 : c = 122
  · subst h2; decide +kernel
  have e2 : findC ⟨#[120, 121, 122]⟩ c = -1 := by
    unfold findC
    have : ([120, 121, 122] : List Nat).findIdx? (· == c) = none := by
      rw [List.findIdx?_eq_none_iff]
      intro x hx
      simp at hx
      rcases hx with rfl | rfl | rfl <;> simp <;> omega
    show (match ([120, 121, 122] : List Nat).findIdx? (· == c) with | some i => (i : Int) | none => -1) = -1
    rw [this]
  rw [e2]
  have s0 : Builtin.Str.subAt ⟨#[120, 121, 122]⟩ ⟨#[c]⟩ 0 = false := by
    show ((#[120] : Array Nat) == #[c]) = false
    rw [beq_eq_false_iff_ne]; intro e; injection e with e; injection e with e; omega
  have s1 : Builtin.Str.subAt ⟨#[120, 121, 122]⟩ ⟨#[c]⟩ 1 = false := by
    show ((#[121] : Array Nat) == #[c]) = false
    rw [beq_eq_false_iff_ne]; intro e; injection e with e; injection e with e; omega
  have s2 : Builtin.Str.subAt ⟨#[120, 121, 122]⟩ ⟨#[c]⟩ 2 = false := by
    show ((#[122] : Array Nat) == #[c]) = false
    rw [beq_eq_false_iff_ne]; intro e; injection e with e; injection e with e; omega
  have occ : Builtin.Str.occurrences ⟨#[120, 121, 122]⟩ ⟨#[c]⟩ 0 3 1 = [] := by
    unfold Builtin.Str.occurrences
    have hl : (⟨#[c]⟩ : Str).length = 1 := rfl
    simp [Std.Legacy.Range.forIn_eq_forIn_range', List.range', s0, s1, s2, hl, Id.run]
    rfl
  show (match Builtin.Str.occurrences ⟨#[120, 121, 122]⟩ ⟨#[c]⟩ 0 3 1 with | i :: _ => (i : Int) | [] => -1) = -1
  rw [occ]

theorem str_append_nil (x : Str) : x ++ (⟨#[]⟩ : Str) = x := by
  cases x with | mk a => show (⟨a ++ #[]⟩ : Str) = ⟨a⟩; rw [Array.append_empty]
theorem str_nil_append (x : Str) : (⟨#[]⟩ : Str) ++ x = x := by
  cases x with | mk a => show (⟨#[] ++ a⟩ : Str) = ⟨a⟩; rw [Array.empty_append]
theorem str_len_append (x y : Str) : (x ++ y).length = x.length + y.length := by
  cases x with | mk a => cases y with | mk b => show (a ++ b).size = a.size + b.size; rw [Array.size_append]
theorem joinS_rel {T : List Addr} {h : Heap} : ∀ {xs : List It} {vs : List Value} {y : Str}, joinS xs = some y → ItsRel T h xs vs → ∃ ys, StrsAre vs ys ∧ y = Txt.join ⟨#[]⟩ ys ∧ (ys.map (·.length)).sum = y.length ∧ ys.length = xs.length
  | [], _, y, e, .nil => by cases e; exact ⟨[], .nil, rfl, rfl, rfl⟩
  | x :: xs, _, y, e, .cons (v := v) (vs := vs) a b => by
    unfold joinS at e
    simp only [Option.bind_eq_bind, Option.pure_def, Option.bind_eq_some_iff, Option.some.injEq] at e
    obtain ⟨z, hz, y', hy, rfl⟩ := e
    obtain ⟨ys, h1, h2, h3, h4⟩ := joinS_rel hy b
    have hx : x = .at (.str z) := by
      unfold asStr at hz
      split at hz
      · cases hz; rfl
      · cases hz
    subst hx
    obtain ⟨t, rfl⟩ := a
    refine ⟨z :: ys, .cons z t h1, ?_, ?_, by simp [h4]⟩
    · rw [h2]
      show z ++ Builtin.Str.glued ⟨#[]⟩ ys = Builtin.Str.glued ⟨#[]⟩ (z :: ys)
      rw [StrLaws.glued_eq_join, StrLaws.glued_eq_join]
      cases ys with
      | nil => exact str_append_nil z
      | cons w ys => show z ++ Str.join ⟨#[]⟩ (w :: ys) = z ++ ⟨#[]⟩ ++ Str.join ⟨#[]⟩ (w :: ys); rw [str_append_nil]
    · rw [List.map_cons, List.sum_cons, h3, str_len_append]

section
variable {X : Cx} {d : Nat} {A : Around} {env : Env} {ρ : Rho} {s : Shared} {sc : Scope} {loc loc' loc₁ : Loc} {σ σ' σ₁ σ₂ σ₃ σ₄ : AS}

theorem str_type {x : Str} : ∀ ρ' h' tk u, X.SR ρ' σ h' → VRel ρ' h' (.str x) u → ({ s with heap := h', toks := tk } : Shared).TypeIs u "str" ∧ ∀ b, u = .ref b → ∃ o, h'.get? b = some o ∧ o.dict = none := fun ρ' h' tk u _ r => by
  obtain ⟨t, rfl⟩ := r
  exact ⟨typeIs_str _ x t, fun b q => by cases q⟩

theorem itemsArg_rel {v : V} {xs : List It} {u : Value} {h : Heap} (R : X.SR ρ σ h) (hv : itemsArg σ v = some xs) (r : VRel ρ h v u) : ∃ l vs, u = .ref l ∧ h.IsList l vs.toArray ∧ ItsRel ρ.flatten h xs vs := by
  unfold itemsArg at hv
  split at hv
  · cases hv; obtain ⟨l, vs, e, _, hL, hx⟩ := r; exact ⟨l, vs, e, hL.isList, hx⟩
  · split at hv
    · rename_i i ys hi
      cases hv
      obtain ⟨l, vs, e, _, hL, hx⟩ := own_list R hi r
      exact ⟨l, vs, e, hL.isList, hx⟩
    · cases hv
  · cases hv

theorem v_methP (G : Good X) {o : Expr} {m : Str} {ap pos : Pos} {as : List Expr} {x : Str} {vs : List V} {c : V} (hb : baseOk o = true) (ha : as.all notStar = true) (hl : (ap.endLine == pos.line) = true) (hn : as.length < 20)
    (h1 : X.VEval d sc loc o σ (.str x) σ₁) (h2 : X.VEvals d sc loc as σ₁ vs σ₂) (hm : methP σ₂ x m vs = some c) : X.VEval d sc loc (.Call (.Attribute o m ap) as [] pos) σ c σ₂ := by
  intro A env ρ s Q E ok R L kq
  unfold methP at hm
  split at hm
  · split at hm
    · rename_i hc
      cases hm
      rw [Bool.and_eq_true, Bool.and_eq_true] at hc
      obtain ⟨⟨hc1, hc2⟩, hc3⟩ := hc
      have hc1 := of_decide_eq_true hc1
      have hc3 := of_decide_eq_true hc3
      subst hc1
      refine methB G hb ha hl hn h1 h2 F.plainAttrs_str F.slot_str_lower F.type_str_lower ok R L str_type fun ρ₁ s₁ k₁ u us e₁ R₁ L₁ r₁ r₂ => ?_
      cases r₂
      obtain ⟨t, rfl⟩ := r₁
      refine SCL.lower (s := { s with heap := s₁, toks := k₁ }) (by omega) fun _ => kq ρ₁ s₁ _ _ e₁ R₁ ⟨k₁, ?_⟩
      have hA : ∀ c ∈ x.cps.toList, c < 128 := fun c hc => by
        unfold isAsc at hc2
        rw [← Array.all_toList, List.all_eq_true] at hc2
        simpa using hc2 c hc
      show Value.str (Txt.lower x) k₁ = Value.str (lower x) k₁
      rw [lower_ascii hA]
      rfl
    · cases hm
  · split at hm
    · rename_i a hj
      subst hj
      split at hm
      · rename_i hx0
        simp only [Option.bind_eq_bind, Option.bind_eq_some_iff] at hm
        obtain ⟨xs, hxs, y, hy, hm⟩ := hm
        split at hm
        · rename_i hz
          cases hm
          rw [Bool.and_eq_true] at hz
          have z1 := of_decide_eq_true hz.1
          have z2 := of_decide_eq_true hz.2
          have hx : x = ⟨#[]⟩ := by
            cases x with | mk a => rw [beq_iff_eq] at hx0; exact congrArg Str.mk (Array.eq_empty_of_size_eq_zero hx0)
          subst hx
          refine methB G hb ha hl hn h1 h2 F.plainAttrs_str F.slot_str_join F.type_str_join ok R L str_type fun ρ₁ s₁ k₁ u us e₁ R₁ L₁ r₁ r₂ => ?_
          cases r₂ with | cons ra rb => cases rb with | nil =>
          obtain ⟨t, rfl⟩ := r₁
          obtain ⟨l, us, rfl, hL, hr⟩ := itemsArg_rel R₁ hxs ra
          obtain ⟨ys, q1, q2, q3, q4⟩ := joinS_rel hy hr
          refine join_list (s := { s with heap := s₁, toks := k₁ }) hL (ys := ys) (by simpa using q1) ?_ fun t' k => kq ρ₁ s₁ k _ e₁ R₁ ⟨t', by rw [q2]⟩
          have : (⟨#[]⟩ : Str).length = 0 := rfl
          rw [this, q3]; omega
        · cases hm
      · cases hm
    · split at hm
      · rename_i hf
        subst hf
        split at hm
        · rename_i y
          split at hm
          · rename_i hx
            subst hx
            obtain ⟨cc, hc, rfl⟩ := Option.map_eq_some_iff.mp hm
            have hy : y = ⟨#[cc]⟩ := by
              unfold one? at hc
              split at hc
              · rename_i c hc'
                cases hc
                cases y with | mk a => exact congrArg Str.mk (Array.ext' hc')
              · cases hc
            subst hy
            refine methB G hb ha hl hn h1 h2 F.plainAttrs_str F.slot_str_find F.type_str_find ok R L str_type fun ρ₁ s₁ k₁ u us e₁ R₁ L₁ r₁ r₂ => ?_
            cases r₂ with | cons ra rb => cases rb with | nil =>
            obtain ⟨t, rfl⟩ := r₁
            obtain ⟨t', rfl⟩ := ra
            refine SC.find (s := { s with heap := s₁, toks := k₁ }) ?_
            rw [find_xyz]
            exact kq ρ₁ s₁ _ _ e₁ R₁ ⟨_, rfl⟩
          · cases hm
        · cases hm
      · cases hm
  · cases hm
end
end Mine
end

-- part M26
section
namespace Mine
open PySem PySem.W PyProof.Rows PySem.Calls PySem.Spec

section
variable {prog : Program} {w : World} {A : Around} {E : Value → Shared → Prop} {s : Shared}
theorem cmp_strs_gt {P : Nat → Value → Prop} (val : Nat → Str) (hval : ∀ i v, P i v → ∃ t, v = .str (val i) t) :
    CmpOf prog w A .Gt P (fun i j => decide ((val j).cps.toList < (val i).cps.toList)) := fun i j vi vj s Q E hi hj h => by
  obtain ⟨t, rfl⟩ := hval i vi hi
  obtain ⟨u, rfl⟩ := hval j vj hj
  exact richCompare_gives (op := .Gt) (typeIs_str s _ t) (typeIs_str s _ u) F.slot_str_gt F.entry_str_gt (F.args_str_gt_2 _ _) (gives_str_gt _ _ t u) (fun x => nomatch x) h

theorem max_two_strs {x y : Str} {t u : Tok} {Q : Value → Shared → Prop} (hh : A.handled = none)
    (h : ∀ h' tk, (∀ c o, s.heap.get? c = some o → h'.get? c = some o) → Q (if x.cps.toList < y.cps.toList then .str y u else .str x t) { s with heap := h', toks := tk }) :
    wpAny (model prog w) A (call (.builtin "max") [.str x t, .str y u]) Q E s := by
  have hT : (s.heap.push { cls := .type "tuple", data := .seq #[.str x t, .str y u] }).IsTuple s.heap.objs.size #[.str x t, .str y u] := ⟨_, Heap.get?_push_size _ rfl, rfl, 0, rfl⟩
  refine call_max_two (wpAny_pyIter_tuple hT ?_)
  have hsz : (s.heap.push { cls := .type "tuple", data := .seq #[.str x t, .str y u] }).objs.size = s.heap.objs.size + 1 := Heap.size_push ..
  refine ⟨_, [_, s.heap.objs.size], [_], _, _, _, _, rfl, Walks.tuple (A := A.in1) hh _ s.heap.objs.size (by rw [hsz]; exact Nat.ne_of_lt (Nat.lt_succ_self _)) #[.str x t, .str y u],
    ⟨⟨_, Heap.get?_push_size _ rfl, rfl, rfl⟩, hT.push _⟩, fun c hc => ?_, by simp, cmp_strs_gt (fun i => if i = 0 then x else y) (fun i v hv => ?_), fun v h' tk hP hk => ?_⟩
  · show c < ((s.heap.push _).push _).objs.size
    rw [Heap.size_push, hsz]
    rcases List.mem_cons.mp hc with rfl | hc
    · rw [hsz]; exact Nat.lt_succ_self _
    · rcases List.mem_cons.mp hc with rfl | hc
      · exact Nat.lt_succ_of_lt (Nat.lt_succ_self _)
      · cases hc
  · match i, hv with
    | 0, hv => exact ⟨t, by simpa using hv.symm⟩
    | 1, hv => exact ⟨u, by simpa using hv.symm⟩
    | n + 2, hv => simp at hv
  · have hold : ∀ c o, s.heap.get? c = some o → h'.get? c = some o := fun c o e => by
      refine hk c o (fun hm => ?_) (Heap.get?_push_of_some _ (Heap.get?_push_of_some _ e))
      rcases List.mem_cons.mp hm with e1 | hm
      · have := Heap.lt_size e; rw [e1, hsz] at this; exact Nat.lt_irrefl _ (Nat.lt_of_succ_lt this)
      · cases hm
    have := h h' tk hold
    have hv : v = if x.cps.toList < y.cps.toList then Value.str y u else Value.str x t := by
      have e : argBest (fun i j => decide ((if j = 0 then x else y).cps.toList < (if i = 0 then x else y).cps.toList)) 1 = if x.cps.toList < y.cps.toList then 1 else 0 := by
        show (if decide (x.cps.toList < y.cps.toList) = true then 1 else 0) = _
        by_cases hba : x.cps.toList < y.cps.toList
        · rw [if_pos hba, decide_eq_true hba, if_pos rfl]
        · rw [if_neg hba, decide_eq_false hba, if_neg Bool.false_ne_true]
      have hP' : (#[Value.str x t, Value.str y u] : Array Value)[argBest (fun i j => decide ((if j = 0 then x else y).cps.toList < (if i = 0 then x else y).cps.toList)) 1]? = some v := hP
      rw [e] at hP'
      by_cases hba : x.cps.toList < y.cps.toList
      · rw [if_pos hba] at hP' ⊢
        have : some (Value.str y u) = some v := hP'
        cases this; rfl
      · rw [if_neg hba] at hP' ⊢
        have : some (Value.str x t) = some v := hP'
        cases this; rfl
    rw [hv]; exact this
end

section
variable {X : Cx} {d : Nat} {A : Around} {env : Env} {ρ : Rho} {s : Shared} {sc : Scope} {loc loc' loc₁ : Loc} {σ σ' σ₁ σ₂ σ₃ σ₄ : AS}

theorem c_len_lst {xs : List It} (h : xs.length ≤ 1000000) : X.VCall d (.val (.builtin "len")) [.lst xs] [] σ (.int xs.length) σ := by
  intro A ρ s fv vs kvs Q E ok R rf ra ek rk kq
  cases rf
  cases kvs with | cons => cases ek | nil =>
  cases ra with | cons ra rb => cases rb with | nil =>
  obtain ⟨l, us, rfl, _, hL, hx⟩ := ra
  have e := itsRel_length hx
  exact call_len_list hL.isList (by rw [List.size_toArray]; omega) (kq ρ s.heap _ _ (Ext.refl ..) R ⟨_, by rw [List.size_toArray, e]⟩)
theorem c_len_str {x : Str} (h : x.length ≤ 1000000) : X.VCall d (.val (.builtin "len")) [.str x] [] σ (.int x.length) σ := by
  intro A ρ s fv vs kvs Q E ok R rf ra ek rk kq
  cases rf
  cases kvs with | cons => cases ek | nil =>
  cases ra with | cons ra rb => cases rb with | nil =>
  obtain ⟨t, rfl⟩ := ra
  exact PyProof.Rows.len_str (by omega) (kq ρ s.heap _ _ (Ext.refl ..) R ⟨_, rfl⟩)
theorem c_max {x y : Str} : X.VCall d (.val (.builtin "max")) [.str x, .str y] [] σ (.str (if x.cps.toList < y.cps.toList then y else x)) σ := by
  intro A ρ s fv vs kvs Q E ok R rf ra ek rk kq
  cases rf
  cases kvs with | cons => cases ek | nil =>
  cases ra with | cons ra rb => cases rb with | cons rb rc => cases rc with | nil =>
  obtain ⟨t, rfl⟩ := ra
  obtain ⟨u, rfl⟩ := rb
  refine max_two_strs ok.handled fun h' tk k => kq ρ h' tk _ (Ext.of_keeps k) (R.keeps k) ?_
  split
  · exact ⟨u, rfl⟩
  · exact ⟨t, rfl⟩
end
end Mine
end

-- part M27
section
namespace Mine
open PySem PySem.W PyProof.Rows PySem.Calls PySem.Spec

theorem ints_of {T : List Addr} {h : Heap} : ∀ {xs : List It} {vs : List Value}, xs.all smallI = true → ItsRel T h xs vs → ∃ ps : List (Int × Tok), vs = ps.map (fun p => Value.int p.1 p.2) ∧ sumI xs = some (ps.map (·.1)).sum ∧ ∀ p ∈ ps, p.1.natAbs < 2 ^ 40
  | [], _, _, .nil => ⟨[], rfl, rfl, by simp⟩
  | x :: xs, _, ha, .cons (v := v) (vs := vs) a b => by
    rw [List.all_cons, Bool.and_eq_true] at ha
    obtain ⟨ps, h1, h2, h3⟩ := ints_of ha.2 b
    have hx := ha.1
    unfold smallI at hx
    split at hx
    · rename_i k
      obtain ⟨t, rfl⟩ := a
      refine ⟨(k, t) :: ps, by rw [h1]; rfl, ?_, ?_⟩
      · unfold sumI
        rw [h2]; rfl
      · intro p hp
        rcases List.mem_cons.mp hp with rfl | hp
        · exact of_decide_eq_true hx
        · exact h3 p hp
    · cases hx
theorem preSum_take (ps : List (Int × Tok)) : ∀ j, j ≤ ps.length → preSum (numAt ps.toArray) j = ((ps.map (·.1)).take j).sum
  | 0, _ => by simp [preSum]
  | j + 1, h => by
    unfold preSum
    rw [preSum_take ps j (by omega), List.take_add_one, List.sum_append]
    have hj : j < ps.length := by omega
    unfold numAt
    simp [hj]
theorem sum_bound : ∀ (l : List Int), (∀ k ∈ l, k.natAbs < 2 ^ 40) → l.sum.natAbs ≤ l.length * 2 ^ 40
  | [], _ => by simp
  | k :: l, h => by
    have h1 := h k List.mem_cons_self
    have h2 := sum_bound l fun q hq => h q (List.mem_cons_of_mem _ hq)
    rw [List.sum_cons, List.length_cons]
    omega

section
variable {X : Cx} {d : Nat} {A : Around} {env : Env} {ρ : Rho} {s : Shared} {sc : Scope} {loc loc' loc₁ : Loc} {σ σ' σ₁ σ₂ σ₃ σ₄ : AS}
theorem c_sum {xs : List It} {k : Int} (hn : xs.length ≤ 100) (ha : xs.all smallI = true) (hk : sumI xs = some k) : X.VCall d (.val (.builtin "sum")) [.lst xs] [] σ (.int k) σ := by
  intro A ρ s fv vs kvs Q E ok R rf ra ek rk kq
  cases rf
  cases kvs with | cons => cases ek | nil =>
  cases ra with | cons ra rb => cases rb with | nil =>
  obtain ⟨l, us, rfl, _, hL, hx⟩ := ra
  have e := itsRel_length hx
  obtain ⟨ps, rfl, h2, h3⟩ := ints_of ha hx
  rw [hk] at h2
  cases h2
  have hL' : s.heap.IsList l (intItems ps.toArray) := by
    have : (ps.map fun p => Value.int p.1 p.2).toArray = intItems ps.toArray := by simp [intItems]
    rw [this] at hL; exact hL.isList
  rw [List.length_map] at e
  refine sum_intList ok.handled hL' (fun j hj => ?_) fun h' tk t' kp => ?_
  · have hj' : j < ps.length := by simpa using hj
    constructor
    · have : (numAt ps.toArray j).natAbs < 2 ^ 40 := by
        unfold numAt
        simp [hj']
        exact h3 _ (List.getElem_mem hj')
      unfold InLong; omega
    · rw [preSum_take ps (j + 1) (by omega)]
      have b := sum_bound ((ps.map (·.1)).take (j + 1)) fun q hq => by
        obtain ⟨p, hp, rfl⟩ := List.mem_map.mp (List.mem_of_mem_take hq)
        exact h3 p hp
      have lt : ((ps.map (·.1)).take (j + 1)).length ≤ 100 := by rw [List.length_take, List.length_map]; omega
      unfold InLong; omega
  · have e2 : preSum (numAt ps.toArray) ps.toArray.size = (ps.map (·.1)).sum := by
      rw [List.size_toArray, preSum_take ps ps.length (Nat.le_refl _), List.take_of_length_le (by simp)]
    rw [e2]
    exact kq ρ h' tk _ (Ext.of_keeps kp) (R.keeps kp) ⟨t', rfl⟩
end
end Mine
end

-- part M28
section
namespace Mine
open PySem PySem.W PyProof.Rows PySem.Calls PySem.Spec

noncomputable def LeS (x y : Str) : Prop := x.cps.toList ≤ y.cps.toList
theorem leStr_iff {x y : Str} : leStr x y = true ↔ LeS x y := by
  unfold leStr LeS
  rw [Bool.not_eq_true', decide_eq_false_iff_not]
  exact Iff.rfl
theorem LeS.trans {x y z : Str} (a : LeS x y) (b : LeS y z) : LeS x z := List.le_trans a b
theorem LeS.total (x y : Str) : LeS x y ∨ LeS y x := List.le_total _ _
theorem LeS.antisymm {x y : Str} (a : LeS x y) (b : LeS y x) : x = y := by
  have := List.le_antisymm a b
  cases x with | mk a => cases y with | mk b => exact congrArg Str.mk (Array.ext' this)
theorem insS_perm (x : Str) : ∀ l, (insS x l).Perm (x :: l)
  | [] => .refl _
  | y :: r => by
    unfold insS
    split
    · exact .refl _
    · exact ((insS_perm x r).cons y).trans (.swap x y r)
theorem sortS_perm : ∀ l, (sortS l).Perm l
  | [] => .refl _
  | x :: r => (insS_perm x _).trans ((sortS_perm r).cons x)
theorem insS_sorted (x : Str) : ∀ l, l.Pairwise LeS → (insS x l).Pairwise LeS
  | [], _ => by simp [insS]
  | y :: r, h => by
    unfold insS
    rw [List.pairwise_cons] at h
    split
    · rename_i hxy
      have hxy := leStr_iff.mp hxy
      refine List.pairwise_cons.mpr ⟨fun z hz => ?_, List.pairwise_cons.mpr h⟩
      rcases List.mem_cons.mp hz with rfl | hz
      · exact hxy
      · exact hxy.trans (h.1 z hz)
    · rename_i hxy
      have hyx : LeS y x := (LeS.total x y).resolve_left fun q => hxy (leStr_iff.mpr q)
      refine List.pairwise_cons.mpr ⟨fun z hz => ?_, insS_sorted x r h.2⟩
      rcases List.mem_cons.mp ((insS_perm x r).mem_iff.mp hz) with rfl | hz
      · exact hyx
      · exact h.1 z hz
theorem sortS_sorted : ∀ l, (sortS l).Pairwise LeS
  | [] => .nil
  | x :: r => insS_sorted x _ (sortS_sorted r)
theorem risingS_pairwise : ∀ (l : List Str) (p : Str), risingS p l = true → (p :: l).Pairwise LeS
  | [], p, _ => by simp
  | y :: r, p, h => by
    unfold risingS at h
    rw [Bool.and_eq_true] at h
    have ih := risingS_pairwise r y h.2
    have hpy : LeS p y := by
      have := h.1
      rw [Bool.not_eq_true', ltCps_eq, decide_eq_false_iff_not] at this
      exact this
    refine List.pairwise_cons.mpr ⟨fun z hz => ?_, ih⟩
    rcases List.mem_cons.mp hz with rfl | hz
    · exact hpy
    · exact hpy.trans ((List.pairwise_cons.mp ih).1 z hz)
theorem sortS_unique {l l' : List Str} (hp : l'.Perm l) (hs : sortedS l' = true) : l' = sortS l := by
  refine List.Perm.eq_of_pairwise (le := LeS) (fun a b _ _ => LeS.antisymm) ?_ (sortS_sorted l) (hp.trans (sortS_perm l).symm)
  cases l' with
  | nil => exact .nil
  | cons x r => exact risingS_pairwise r x hs

theorem strs_of {T : List Addr} {h : Heap} : ∀ {xs : List It} {vs : List Value} {ss : List Str}, xs.mapM asStr = some ss → ItsRel T h xs vs → StrsAre vs ss
  | [], _, ss, e, .nil => by simp at e; subst e; exact .nil
  | x :: xs, _, ss, e, .cons (v := v) (vs := vs) a b => by
    simp only [List.mapM_cons, Option.pure_def, Option.bind_eq_bind, Option.bind_eq_some_iff, Option.some.injEq] at e
    obtain ⟨z, hz, ss', h', rfl⟩ := e
    have hx : x = .at (.str z) := by
      unfold asStr at hz
      split at hz
      · cases hz; rfl
      · cases hz
    subst hx
    obtain ⟨t, rfl⟩ := a
    exact .cons z t (strs_of h' b)
theorem its_of_strs {T : List Addr} {h : Heap} : ∀ {vs : List Value} {ss : List Str}, StrsAre vs ss → ItsRel T h (ss.map fun x => .at (.str x)) vs
  | _, _, .nil => .nil
  | _, _, .cons y t r => .cons ⟨t, rfl⟩ (its_of_strs r)

section
variable {X : Cx} {d : Nat} {A : Around} {env : Env} {ρ : Rho} {s : Shared} {σ : AS}
theorem c_sorted {xs : List It} {l : List Str} (hl : xs.mapM asStr = some l) (hn : l.length < 64) : X.VCall d (.val (.builtin "sorted")) [.lst xs] [] σ (.lst ((sortS l).map fun x => .at (.str x))) σ := by
  intro A ρ s fv vs kvs Q E ok R rf ra ek rk kq
  cases rf
  cases kvs with | cons => cases ek | nil =>
  cases ra with | cons ra rb => cases rb with | nil =>
  obtain ⟨a, us, rfl, _, hL, hx⟩ := ra
  have hS := strs_of hl hx
  refine sorted_strs hL.isList hS (by rw [StrsAre.length hS]; exact hn) fun out ss' h1 hp hs => ?_
  have e := sortS_unique hp hs
  subst e
  obtain ⟨k, he⟩ := sortedAll_at s.heap us out
  have kp : ∀ b o, s.heap.get? b = some o → (sortedAll s.heap us out).get? b = some o := fun b o => sortedAll_old
  have hfree := free_of R (a := s.heap.objs.size + 1) (Heap.get?_none_of_le (Nat.le_add_right _ _))
  refine kq ρ _ s.toks _ (Ext.of_keeps kp) (R.keeps kp) ⟨_, out.toList, rfl, hfree.1, ⟨k, he⟩, its_of_strs h1⟩
end
end Mine
end

-- part M29
section
namespace Mine
open PySem PySem.W PyProof.Rows PySem.Calls PySem.Spec

theorem int_text : ∀ c, c < 58 → 48 ≤ c → PySem.intText? ⟨#[c]⟩ = some (Int.ofNat (c - 48)) := by decide +kernel
theorem int_str : ∀ n, n < 10 → Str.ofString (toString (Int.ofNat n)) = ⟨#[48 + (Int.ofNat n).toNat]⟩ ∧ (Int.ofNat n).natAbs.log2 < 1920 := by decide +kernel
section
variable {X : Cx} {d : Nat} {A : Around} {env : Env} {ρ : Rho} {s : Shared} {σ : AS}
theorem c_int {x : Str} {k : Int} (h : posInts x = some k) : X.VCall d (.val (.type "int")) [.str x] [] σ (.int k) σ := by
  intro A ρ s fv vs kvs Q E ok R rf ra ek rk kq
  cases rf
  cases kvs with | cons => cases ek | nil =>
  cases ra with | cons ra rb => cases rb with | nil =>
  obtain ⟨t, rfl⟩ := ra
  unfold posInts at h
  obtain ⟨c, hc, h'⟩ := Option.bind_eq_some_iff.mp h
  clear h
  have hx : x = ⟨#[c]⟩ := by
    unfold one? at hc
    split at hc
    · rename_i c' hc'
      cases hc
      cases x with | mk a => exact congrArg Str.mk (Array.ext' hc')
    · cases hc
  subst hx
  split at h'
  case isFalse => cases h'
  rename_i hr
  cases h'
  have e : PySem.intText? ⟨#[c]⟩ = some (Int.ofNat (c - 48)) := by
    exact int_text c (Nat.lt_succ_of_le hr.2) hr.1
  exact KIN.call_text e (by show 1 ≤ 640; decide) (kq ρ s.heap _ _ (Ext.refl ..) R ⟨_, rfl⟩)
theorem c_str {i : Int} (h0 : 0 ≤ i) (h9 : i ≤ 9) : X.VCall d (.val (.type "str")) [.int i] [] σ (.str ⟨#[48 + i.toNat]⟩) σ := by
  intro A ρ s fv vs kvs Q E ok R rf ra ek rk kq
  cases rf
  cases kvs with | cons => cases ek | nil =>
  cases ra with | cons ra rb => cases rb with | nil =>
  obtain ⟨t, rfl⟩ := ra
  obtain ⟨n, rfl⟩ := Int.eq_ofNat_of_zero_le h0
  have e := int_str n (Nat.lt_succ_of_le (Int.ofNat_le.mp h9))
  refine PySem.P.str_of_int e.2 ?_
  exact kq ρ s.heap _ _ (Ext.refl ..) R ⟨s.toks, congrArg (Value.str · s.toks) e.1⟩
theorem c_typeS {x : Str} : X.VCall d (.val (.type "type")) [.str x] [] σ (.val (.type "str")) σ := by
  intro A ρ s fv vs kvs Q E ok R rf ra ek rk kq
  cases rf
  cases kvs with | cons => cases ek | nil =>
  cases ra with | cons ra rb => cases rb with | nil =>
  obtain ⟨t, rfl⟩ := ra
  exact call_type_of (typeIs_str s x t) (by decide) (kq ρ s.heap s.toks _ (Ext.refl ..) R rfl)
theorem c_typeL {i : Nat} {xs : List It} (hi : σ[i]? = some (.list xs)) : X.VCall d (.val (.type "type")) [.own i] [] σ (.val (.type "list")) σ := by
  intro A ρ s fv vs kvs Q E ok R rf ra ek rk kq
  cases rf
  cases kvs with | cons => cases ek | nil =>
  cases ra with | cons ra rb => cases rb with | nil =>
  obtain ⟨l, vs, rfl, _, hL, _⟩ := own_list R hi ra
  exact call_type_of hL.isList.typeIs (by decide) (kq ρ s.heap s.toks _ (Ext.refl ..) R rfl)
end
end Mine
end

-- part M30
section
namespace Mine
open PySem PySem.W PyProof.Rows PySem.Calls PySem.Spec

inductive KvRel : List (Str × Int) → List (Str × Value) → Prop
  | nil : KvRel [] []
  | cons {x i t r vs} : KvRel r vs → KvRel ((x, i) :: r) ((x, .int i t) :: vs)
noncomputable def DictRep (prog : Program) (w : World) (h : Heap) (a : Addr) (kvs : List (Str × Int)) : Prop := ∃ vs, h.DictOf (PySem.strKind prog w) a vs ∧ KvRel kvs vs
/-- what else is known of the setting: the shapes -/
structure Good2 (X : Cx) : Prop extends Good X where
  zd : ∀ h a kvs, X.Z.dict X.w h a kvs ↔ DictRep X.prog X.w h a kvs

theorem kv_find {kvs : List (Str × Int)} {vs : List (Str × Value)} (r : KvRel kvs vs) {x : Str} {i : Int} (h : kvs.lookup x = some i) : ∃ t, PySem.valueAt vs x = some (.int i t) := by
  induction r with
  | nil => cases h
  | @cons y j t r vs _ ih =>
    rw [lk_cons] at h
    unfold PySem.valueAt
    rw [List.find?_cons]
    by_cases q : x = y
    · subst q
      rw [if_pos rfl] at h
      cases h
      exact ⟨t, by simp⟩
    · rw [if_neg q] at h
      obtain ⟨t', e⟩ := ih h
      refine ⟨t', ?_⟩
      have : decide (y = x) = false := decide_eq_false (fun e => q e.symm)
      dsimp only
      rw [this]
      exact e

section
variable {X : Cx} {d : Nat} {A : Around} {env : Env} {ρ : Rho} {s : Shared} {sc : Scope} {loc loc' loc₁ : Loc} {σ σ' σ₁ σ₂ σ₃ σ₄ : AS}
theorem v_SubDict (G : Good2 X) {o k : Expr} {pos : Pos} {j : Nat} {kvs : List (Str × Int)} {x : Str} {i : Int} (h1 : X.VEval d sc loc o σ (.own j) σ₁) (h2 : X.VEval d sc loc k σ₁ (.str x) σ₂) (hj : σ₂[j]? = some (.dict kvs)) (h : kvs.lookup x = some i) : X.VEval d sc loc (.Subscript o k pos) σ (.int i) σ₂ := by
  intro A env ρ s Q E ok R L kq
  refine Subscript_ (VEval.then h1 ok R L fun ρ₁ s₁ k₁ u e₁ R₁ L₁ r₁ => VEval.then h2 ok R₁ L₁ fun ρ₂ s₂ k₂ v e₂ R₂ L₂ r₂ => ?_)
  obtain ⟨t, rfl⟩ := r₂
  have r₁' := r₁.ext e₂ (noSeq_none _ _)
  obtain ⟨a, rr, hi, rfl⟩ := r₁'
  obtain ⟨a', e, hd⟩ := R₂.objs j _ _ hi hj
  cases e
  obtain ⟨vs, hD, hK⟩ := (G.zd _ _ _).mp hd
  obtain ⟨t', hv⟩ := kv_find hK h
  obtain ⟨ops, hs⟩ := subscripted_ok k (.ref a) (.str x t)
  exact tail_any (s := { s with heap := s₂, toks := k₂ }) hD.typeIs slot_dict_getitem.lookup (PySem.wpAny_getItem_of (PySem.strKind_is _ _ x t) hD.mapOf hv (kq ρ₂ s₂ _ _ (e₁.trans e₂) R₂ ⟨_, rfl⟩)) hs
end
end Mine
end

-- part M31
section
namespace Mine
open PySem PySem.W PyProof.Rows PySem.Calls PySem.Spec

section
variable {prog : Program} {w : World} {A : Around} {E : Value → Shared → Prop} {s : Shared}
theorem list_no_keys : typeLookup (.type "list") "keys" = pure none := am_miss_of_fast (by decide +kernel)
/-- a list has no method keys -/
theorem getAttrQ_keys {a : Addr} {xs : Array Value} {k : Nat} {Q : Option Value → Shared → Prop}
    (hx : s.heap.get? a = some { cls := .type "list", data := .seq xs k }) (hA : A.handled = none)
    (h : ∀ h' tk, (∀ b o, s.heap.get? b = some o → h'.get? b = some o) → Q none { s with heap := h', toks := tk }) :
    wpAny (model prog w) A (getAttr? (.ref a) "keys") Q E s := by
  obtain ⟨hp, g, d, tk, os⟩ := s
  have hT : ∀ tk', (⟨hp, g, d, tk', os⟩ : Shared).TypeIs (.ref a) "list" := fun _ => ⟨_, hx, rfl⟩
  have f1 := sub_AttributeError
  have f3 := F.slot_list_getattribute.lookup
  have f4 := F.slot_list_getattribute.bind (.ref a)
  have f5 := am_list_getattr_none
  unfold getAttr? getAttrBy? getAttrBy
  repeat (any_goals (first | assumption | exact hT _ | ((with_reducible show wpAny _ _ (call (Value.builtin "list.__getattribute__") _ _) _ _ _); refine call_meets F.slot_list_getattribute (hT _) am_entry_list_getattribute (F.args_list_getattribute_2 _ _) (meets_getattribute_miss_list a xs k #[] "keys" _ list_no_keys (by decide +kernel) (by size_fits)) ⟨hx, hA, fun h' tk' e hx' => ?_⟩) | wp_step))
  obtain ⟨t', u', he⟩ := hx'.there
  show wpAny _ _ (getattributeRaised _ _ _ _ _ _ _) _ _ _
  unfold getattributeRaised
  repeat (any_goals (first | assumption | wp_step))
  exact h _ _ hx'.keeps
end
end Mine
end

-- part M31b
section
namespace Mine
open PySem PySem.W PyProof.Rows PySem.Calls PySem.Spec

theorem kvRel_len {kvs : List (Str × Int)} {vs : List (Str × Value)} (r : KvRel kvs vs) : vs.length = kvs.length := by
  induction r with
  | nil => rfl
  | cons _ ih => simp [ih]
theorem kvRel_keys {kvs : List (Str × Int)} {vs : List (Str × Value)} (r : KvRel kvs vs) : vs.map (·.1) = kvs.map (·.1) := by
  induction r with
  | nil => rfl
  | cons _ ih => simp [ih]
theorem kvRel_snoc {kvs : List (Str × Int)} {vs : List (Str × Value)} (r : KvRel kvs vs) (x : Str) (i : Int) (t : Tok) : KvRel (kvs ++ [(x, i)]) (vs ++ [(x, .int i t)]) := by
  induction r with
  | nil => exact .cons .nil
  | cons _ ih => exact .cons ih
theorem stored_new {kvs : List (Str × Value)} {x : Str} {v : Value} (h : x ∉ kvs.map (·.1)) : PySem.stored kvs x v = kvs ++ [(x, v)] := by
  unfold PySem.stored
  rw [if_neg]
  rw [List.any_eq_true]
  rintro ⟨kv, hkv, he⟩
  exact h (List.mem_map.mpr ⟨kv, hkv, of_decide_eq_true he⟩)
theorem itsRel_map {T : List Addr} {h h' : Heap} {xs : List It} {vs : List Value} (r : ItsRel T h xs vs) (k : ∀ l u x, IsTup h l #[u, x] → IsTup h' l #[u, x]) : ItsRel T h' xs vs := by
  induction r with
  | nil => exact .nil
  | cons a _ ih =>
    refine .cons ?_ ih
    rename_i x _ _ _ _
    cases x with
    | «at» a' => exact a
    | pair p q =>
      obtain ⟨l, u, y, rfl, hl, ht, ha, hb⟩ := a
      exact ⟨l, u, y, rfl, hl, k _ _ _ ht, ha, hb⟩
theorem entry_update_loop : entryFor table "dict.update.loop" = some Builtin.«dict.update.loop» := entryFor_of_tree (by kernel_rfl)
theorem quiet_update_loop (args : Args) : (Code.builtin "dict.update.loop" args).quiet = true := Code.quiet_builtin _ (by decide +kernel)

section
variable {prog : Program} {w : World}
theorem wpAny_pair {A : Around} {E : Value → Shared → Prop} {s : Shared} {l : Addr} {u v : Value} {Q : List Value → Shared → Prop} (ht : IsTup s.heap l #[u, v]) (h : Q [u, v] s) : wpAny (model prog w) A (Builtin.Dict.pairItems (.ref l)) Q E s := by
  obtain ⟨o, e, hc, n, hd⟩ := ht
  have hT : s.TypeIs (.ref l) "tuple" := ⟨o, e, hc⟩
  unfold Builtin.Dict.pairItems
  refine wpAny_bind (wpAny_typeOf hT ?_)
  rw [if_pos (by decide)]
  exact wpAny_bind (wpAny_seqItems e hd (wpAny_pure h))

theorem dict_loop {l I D : Addr} {vs : Array Value} (T : List Addr) (hIl : l ≠ I) (hID : I ≠ D) (hlD : l ≠ D) : ∀ (rest : List It) (A : Around) (i : Nat) (n : Int) (t : Tok) (s : Shared) (kvs kvs' : List (Str × Int)) (ws : List (Str × Value)) (R : Result → Shared → Prop),
    A.handled = none → vs.size = i + rest.length → ItsRel T s.heap rest (vs.toList.drop i) → dictOfI rest = some kvs' → ((kvs ++ kvs').map (·.1)).Nodup → kvs.length + rest.length ≤ 1000 → KvRel kvs ws → s.heap.DictOf (PySem.strKind prog w) D ws → s.heap.IsListIter I l i → s.heap.IsList l vs →
    (∀ h' tk ws', KvRel (kvs ++ kvs') ws' → h'.DictOf (PySem.strKind prog w) D ws' → (∀ b o, b ≠ I → b ≠ D → s.heap.get? b = some o → h'.get? b = some o) → R (.ok (.ret .none)) { s with heap := h', toks := tk }) →
    codeAny (model prog w) A (.builtin "dict.update.loop" ⟨[.ref D, .ref I, .int n t, .none], []⟩) R s := by
  intro rest
  induction rest with
  | nil =>
    intro A i n t s kvs kvs' ws R hh hs hx hk hnd hsz hr hD hit hl hR
    cases hk
    refine codeAny_builtin entry_update_loop ?_
    unfold Builtin.«dict.update.loop»
    refine wpAny_bind (wpAny_pyNext_list_end (by exact hh) hit hl (by simp at hs; simp; omega) fun h' hs' => ?_)
    dsimp only
    refine wpAny_bind (wpAny_pure (wpAny_pure ?_))
    exact hR h' s.toks ws (by simpa using hr) (hD.extBut hs' (Ne.symm hID)) fun b o hb _ e => hs' b o hb e
  | cons p rest ih =>
    intro A i n t s kvs kvs' ws R hh hs hx hk hnd hsz hr hD hit hl hR
    obtain ⟨v, hv⟩ : ∃ v, vs[i]? = some v := ⟨vs[i]'(by simp at hs; omega), by simp⟩
    have hdrop : vs.toList.drop i = v :: vs.toList.drop (i + 1) := by
      have hlt : i < vs.toList.length := by simp at hs; simp; omega
      rw [List.drop_eq_getElem_cons hlt]
      congr 1
      have := hv
      rw [Array.getElem?_eq_getElem (by simpa using hlt)] at this
      cases this
      simp
    rw [hdrop] at hx
    cases hx with | cons hv1 hx =>
    unfold dictOfI at hk
    split at hk
    rotate_left
    · simp_all
    · cases hk
    rename_i x j r heq
    cases heq
    obtain ⟨kvs'', hk', rfl⟩ := Option.map_eq_some_iff.mp hk
    obtain ⟨la, ua, ub, rfl, hla, ht, ra, rb⟩ := hv1
    obtain ⟨ta, rfl⟩ := ra
    obtain ⟨tb, rfl⟩ := rb
    refine codeAny_builtin entry_update_loop ?_
    unfold Builtin.«dict.update.loop»
    refine wpAny_bind (wpAny_pyNext_list_item hit hl hv fun h' hit' hs' => ?_)
    dsimp only
    have hlaI : la ≠ I := fun q => by
      obtain ⟨o, e, hc, _⟩ := ht
      obtain ⟨o', e', hc', _⟩ := hit
      rw [← q, e] at e'; cases e'
      rw [hc] at hc'; exact absurd hc' (by decide)
    have hlaD : la ≠ D := fun q => by
      obtain ⟨o, e, hc, _⟩ := ht
      obtain ⟨o', e', hc'⟩ := hD.typeIs
      rw [← q, e] at e'; cases e'
      rw [hc] at hc'; exact absurd hc' (by decide)
    have ht' : IsTup h' la #[.str x ta, .int j tb] := by
      obtain ⟨o, e, r⟩ := ht
      exact ⟨o, (hs'.2 la hlaI).trans e, r⟩
    refine wpAny_bind (wpAny_holding (wpAny_bind (wpAny_tryCatch (wpAny_pair (s := { s with heap := h' }) ht' ?_))))
    dsimp only
    have hxn : x ∉ ws.map (·.1) := by
      rw [kvRel_keys hr]
      intro q
      rw [List.map_append, List.nodup_append] at hnd
      exact hnd.2.2 x q x (by simp) rfl
    refine wpAny_holding (PySem.wpAny_dictSet_pairs (s := { s with heap := h' }) (PySem.strKind_is prog w x ta) (hD.sameBut hs' (Ne.symm hID)) (fun h'' hD'' hs'' => ?_) (by rw [kvRel_len hr, sizeLine_eq]; simp at hsz; omega))
    rw [stored_new hxn] at hD''
    refine wpAny_pure ⟨quiet_update_loop _, ?_⟩
    have keep : ∀ b o, b ≠ I → b ≠ D → s.heap.get? b = some o → h''.get? b = some o := fun b o h1 h2 e => (hs''.2 b h2).trans ((hs'.2 b h1).trans e)
    refine ih _ (i + 1) (n + 1) _ { s with heap := h'', toks := _ } (kvs ++ [(x, j)]) kvs'' _ R hh (by simp at hs; omega) ?_ hk' (by simpa using hnd) (by simp at hsz ⊢; omega) (kvRel_snoc hr x j tb) hD'' ?_ ?_ ?_
    · refine itsRel_map hx fun l' u' x' ht₀ => ?_
      obtain ⟨o, e, hc, hd⟩ := ht₀
      refine ⟨o, keep l' o (fun q => ?_) (fun q => ?_) e, hc, hd⟩
      · obtain ⟨o', e', hc', _⟩ := hit
        rw [← q, e] at e'; cases e'
        rw [hc] at hc'; exact absurd hc' (by decide)
      · obtain ⟨o', e', hc'⟩ := hD.typeIs
        rw [← q, e] at e'; cases e'
        rw [hc] at hc'; exact absurd hc' (by decide)
    · obtain ⟨o, e, r⟩ := hit'
      exact ⟨o, (hs''.2 I hID).trans e, r⟩
    · obtain ⟨o, e, r⟩ := hl
      exact ⟨o, keep l o hIl hlD e, r⟩
    · intro h₃ tk ws' hr' hD' hk₃
      exact hR h₃ tk ws' (by simpa using hr') hD' fun b o h1 h2 e => hk₃ b o h1 h2 (keep b o h1 h2 e)
end
end Mine
end

-- part M31c
section
namespace Mine
open PySem PySem.W PyProof.Rows PySem.Calls PySem.Spec

section
variable {X : Cx} {d : Nat} {A : Around} {env : Env} {ρ : Rho} {s : Shared} {σ : AS}
theorem dictOfI_len {xs : List It} {kvs : List (Str × Int)} (h : dictOfI xs = some kvs) : kvs.length = xs.length := by
  induction xs generalizing kvs with
  | nil => cases h; rfl
  | cons p r ih =>
    unfold dictOfI at h
    split at h
    · rename_i heq
      cases heq
      obtain ⟨k, hk, rfl⟩ := Option.map_eq_some_iff.mp h
      simp [ih hk]
    · rename_i heq; cases heq
    · cases h
theorem c_dict (G : Good2 X) {xs : List It} {kvs : List (Str × Int)} (hk : dictOfI xs = some kvs) (hl : kvs.length ≤ 100) (hn : (kvs.map (·.1)).Nodup) : X.VCall d (.val (.type "dict")) [.lst xs] [] σ (.own σ.length) (σ ++ [.dict kvs]) := by
  intro A ρ s fv vs kvs₀ Q E ok R rf ra ek rk kq
  cases rf
  cases kvs₀ with | cons => cases ek | nil =>
  cases ra with | cons ra rb => cases rb with | nil =>
  obtain ⟨l, us, rfl, hl1, hP, hx⟩ := ra
  have hA := ok.handled
  refine PySem.callType_codes (Q₁ := fun obj s₁ => obj = .ref s.heap.objs.size ∧ s₁ = { s with heap := s.heap.push { cls := .type "dict", data := .dict #[] } }) PySem.F.kt_called_dict (PySem.F.kt_typeCall_dict_1 _) PySem.F.entry_dict_init (PySem.kt_code_dict_new _ ⟨rfl, rfl⟩) ?_
  rintro obj s₁ ⟨rfl, rfl⟩
  have hnew : (s.heap.push { cls := .type "dict", data := .dict #[] }).DictOf (PySem.strKind X.prog X.w) s.heap.objs.size [] := Heap.DictOf.new s.heap
  refine ⟨hnew.typeIs, PySem.F.args_dict_init_2 _ _, ?_⟩
  have k0 : ∀ b o, s.heap.get? b = some o → (s.heap.push { cls := .type "dict", data := .dict #[] }).get? b = some o := push_keeps
  have hP0 := hP.at (k0 l)
  obtain ⟨n, hP1⟩ := id hP0
  have hlD : l ≠ s.heap.objs.size := fun e => by obtain ⟨n, ho⟩ := hP; rw [e, size_none] at ho; cases ho
  generalize hh0 : s.heap.push { cls := .type "dict", data := .dict #[] } = h0 at *
  unfold Builtin.«dict.__init__»
  refine wpAny_bind ?_
  unfold Builtin.Dict.selfAndRest
  refine wpAny_bind (wpAny_notOrdered_dict hnew.typeIs ?_)
  show wpAny _ _ (pure (s.heap.objs.size, [Value.ref l])) _ _ _
  refine wpAny_pure ?_
  show wpAny _ _ (Builtin.Dict.updateFrom "dict.__init__" s.heap.objs.size (.ref l) [] .none) _ _ _
  unfold Builtin.Dict.updateFrom
  refine wpAny_bind (wpAny_typeOf hP0.isList.typeIs ?_)
  rw [if_pos (by decide)]
  refine wpAny_bind (getAttrQ_keys (s := { s with heap := h0 }) hP1 hA fun h1 k1 keep1 => ?_)
  rw [if_pos (by rfl)]
  refine wpAny_bind (wpAny_rule (wpAny_bind ?_))
  refine wpAny_pyIter_list (s := { s with heap := h1, toks := k1 }) (hP0.at (keep1 l)).isList ?_
  refine wpAny_pure ⟨quiet_update_loop _, ?_⟩
  obtain ⟨oD, hgD, _⟩ := Heap.DictOf.typeIs (s := { s with heap := h0 }) hnew
  have hDt : ∃ o, h1.get? s.heap.objs.size = some o := ⟨oD, keep1 _ _ hgD⟩
  have hnew : h0.DictOf (PySem.strKind X.prog X.w) s.heap.objs.size [] := by rw [← hh0]; exact Heap.DictOf.new s.heap
  have hID : h1.objs.size ≠ s.heap.objs.size := fun e => by
    obtain ⟨o, ho⟩ := hDt
    rw [← e, size_none] at ho; cases ho
  have hlI : l ≠ h1.objs.size := fun e => by
    have := keep1 l _ hP1
    rw [e, size_none] at this; cases this
  have k2 : ∀ b o, h1.get? b = some o → (h1.push { cls := .type "list_iterator", data := .fields #[.ref l, .int 0 0] }).get? b = some o := push_keeps
  have k02 : ∀ b o, h0.get? b = some o → (h1.push { cls := .type "list_iterator", data := .fields #[.ref l, .int 0 0] }).get? b = some o := fun b o e => k2 b o (keep1 b o e)
  have k : ∀ b o, s.heap.get? b = some o → (h1.push { cls := .type "list_iterator", data := .fields #[.ref l, .int 0 0] }).get? b = some o := fun b o e => k02 b o (k0 b o e)
  refine dict_loop (w := X.w) (vs := us.toArray) ρ.flatten hlI hID hlD xs _ 0 0 _ { s with heap := _, toks := k1 } [] kvs [] _ hA (by have := itsRel_length hx; simp; omega) ?_ hk (by simpa using hn) (by rw [← dictOfI_len hk]; simp; omega) .nil ?_ ?_ ?_ fun h' tk ws' hr hD hk' => ?_
  · exact itsRel_map hx fun l' u' x' ht₀ => by
      obtain ⟨o, e, r⟩ := ht₀
      exact ⟨o, k _ _ e, r⟩
  · obtain ⟨o, es, ep, e, r⟩ := hnew
    exact ⟨o, es, ep, k02 _ _ e, r⟩
  · exact ⟨_, Heap.get?_push_size _ rfl, rfl, rfl⟩
  · exact (hP0.at fun o e => k02 _ _ e).isList
  · refine ⟨rfl, ?_⟩
    have kk : ∀ b o, s.heap.get? b = some o → h'.get? b = some o := fun b o e => hk' b o (fun q => by
      have := keep1 b o (k0 b o e)
      rw [q, size_none] at this; cases this) (fun q => by rw [q, size_none] at e; cases e) (k b o e)
    have hnn : ∀ a ∈ [s.heap.objs.size], s.heap.get? a = none := fun a ha => by rw [List.mem_singleton.mp ha]; exact size_none _
    have R' : X.SR (ρ.add [s.heap.objs.size]) (σ ++ [.dict kvs]) h' := R.add kk hnn (by simp) (fun a ha => by
      rw [List.mem_singleton.mp ha]
      obtain ⟨o, _, _, e, _⟩ := hD
      exact ⟨o, e⟩) ⟨_, rfl, (G.zd _ _ _).mpr ⟨ws', by simpa using hD, by simpa using hr⟩⟩
    refine kq (ρ.add [s.heap.objs.size]) h' tk _ (ext_add kk hnn) R' ⟨s.heap.objs.size, [], ?_, rfl⟩
    rw [← R.len]
    simp [Rho.add]
end
end Mine
end

-- part M32
section
namespace Mine
open PySem PySem.W PyProof.Rows PySem.Calls PySem.Spec Builtin.Re

theorem plainAttrs_pattern : PlainAttrs "re.Pattern" :=
  ⟨⟨"object.__getattribute__", by rw [typeLookup_type, builtinLookup_eq_fast]; kernel_rfl, by decide +kernel⟩, by rw [typeLookup_type, builtinLookup_eq_fast]; kernel_rfl⟩
theorem slot_search : PySem.Slot "re.Pattern" "search" "re.Pattern.search" :=
  .of (owner := "re.Pattern") (n := "search") (by rw [typeLookup_type, builtinLookup_eq_fast]; kernel_rfl) (by decide +kernel) (by decide +kernel) (by decide +kernel)
    (by first | exact .inl (by decide +kernel) | exact .inr (by decide +kernel)) (by rw [isSubtype_type]; kernel_rfl)
theorem type_search : typeOf (.builtin "re.Pattern.search") = pure (.type "method_descriptor") := by show builtinType _ = _; rw [builtinType_eq_fast]; kernel_rfl
theorem entry_search : entryFor table "re.Pattern.search" = some Builtin.«re.Pattern.search» := entryFor_of_tree (by kernel_rfl)
theorem args_search (a b : Value) : argsOk "re.Pattern.search" ⟨[a, b], []⟩ := by kernel_rfl
theorem named_search (a : Value) : reNamed "re.Pattern.search" "search" ["string", "pos", "endpos"] 1 [a] [] = pure [some a, none, none] := by rfl

-- the machine finds nothing
noncomputable def Clean (code : Array Nat) (c : Nat) : Prop := ∀ seen, ∃ seen', Sre.inSet code c code.size 5 true seen = .ok (false, seen')
theorem admitted_none {code : Array Nat} (m : Sre.M) (hc : m.code = code) (hx : ∀ c ∈ m.text.toList, Clean code c) (hl : m.lim ≤ m.text.size) : ∀ (fuel i : Nat) (seen : Sre.Seen), ∃ seen', m.admitted fuel i seen = .ok (none, seen')
  | 0, i, seen => ⟨seen, rfl⟩
  | fuel + 1, i, seen => by
    unfold Sre.M.admitted
    by_cases h : i ≥ m.lim
    · rw [if_pos h]; exact ⟨seen, rfl⟩
    · rw [if_neg h]
      have hi : i < m.text.size := by omega
      have e : m.text.getD i 0 = m.text[i] := by simp [Array.getD, hi]
      obtain ⟨seen', q⟩ := hx _ (Array.mem_toList_iff.mpr (Array.getElem_mem hi)) seen
      rw [e, hc, q]
      exact admitted_none m hc hx hl fuel (i + 1) seen'
noncomputable def Still (m : Sre.M) : Prop := m.answer = some false ∧ m.frames = [] ∧ m.outcome = none
theorem still_run {m : Sre.M} (h : Still m) : (m.runFor 4).outcome = some .failed := by
  obtain ⟨h1, h2, h3⟩ := h
  have e : m.step = { m with outcome := some .failed } := by
    unfold Sre.M.step
    rw [h3, h1, h2]
    rfl
  unfold Sre.M.runFor
  rw [h3]
  simp only [Option.isSome_none, Bool.false_eq_true, if_false]
  unfold Sre.M.runFor
  rw [e]
  rfl
noncomputable def isInfo (code : Array Nat) : Bool := match Sre.ops[code.getD 0 0]? with
  | some .INFO => true
  | _ => false
theorem attempt_still {code : Array Nat} (m : Sre.M) (hc : m.code = code) (h0 : isInfo code = true) (h2 : code.getD 2 0 = 4) (hx : ∀ c ∈ m.text.toList, Clean code c) (hl : m.lim ≤ m.text.size) (hf : m.frames = []) (ho : m.outcome = none) (s : Nat) : Still (m.attemptFrom s true) := by
  unfold Sre.M.attemptFrom
  have e : m.hasFirstSet = true := by
    have : m.hasFirstSet = (isInfo m.code && m.code.getD 2 0 == 4) := rfl
    rw [this, hc, h2, h0]; rfl
  rw [e]
  obtain ⟨seen', q⟩ := admitted_none m hc hx hl (m.lim + 1 - s) s m.seen
  rw [q]
  exact ⟨rfl, hf, ho⟩
theorem search_still {code : Array Nat} {x : Str} {g : Nat} (h0 : isInfo code = true) (h2 : code.getD 2 0 = 4) (hx : ∀ c ∈ x.cps.toList, Clean code c) : Still (Sre.forSearch code x.cps g 0 x.cps.size false) := by
  unfold Sre.forSearch
  dsimp only
  split
  · exact ⟨rfl, rfl, rfl⟩
  · exact attempt_still _ rfl h0 h2 hx (Nat.le_refl _) rfl rfl 0
noncomputable def nameCode : Array Nat := #[14, 10, 4, 1, 1, 22, 0, 31, 16, 127, 0, 13, 7, 22, 0, 31, 16, 127, 0, 1]
noncomputable def valCode : Array Nat := #[14, 14, 4, 1, 1, 9, 4294966783, 0, 0, 2147483648, 0, 0, 0, 0, 0, 13, 11, 9, 4294966783, 0, 0, 2147483648, 0, 0, 0, 0, 0, 1]
theorem name_clean {c : Nat} (h1 : 32 ≤ c) (h2 : c < 127) : Clean nameCode c := fun seen => by
  refine ⟨((seen.add 22).add 16).add 0, ?_⟩
  show Sre.inSet nameCode c 20 5 true seen = _
  unfold Sre.inSet
  have e1 : (decide (0 ≤ c) && decide (c ≤ 31)) = false := by simp; omega
  show (if (decide (0 ≤ c) && decide (c ≤ 31)) = true then _ else Sre.inSet nameCode c 19 8 true _) = _
  rw [e1, if_neg Bool.false_ne_true]
  unfold Sre.inSet
  have e2 : (c == 127) = false := by simp; omega
  show (if (c == 127) = true then _ else Sre.inSet nameCode c 18 10 true _) = _
  rw [e2, if_neg Bool.false_ne_true]
  unfold Sre.inSet
  rfl
theorem val_bits : ∀ c < 127, 32 ≤ c → (decide (c < 256) && (valCode.getD (5 + (1 + c / 32)) 0).testBit (c % 32)) = false := by decide +kernel
theorem val_clean {c : Nat} (h1 : 32 ≤ c) (h2 : c < 127) : Clean valCode c := fun seen => by
  refine ⟨(seen.add 9).add 0, ?_⟩
  show Sre.inSet valCode c 28 5 true seen = _
  unfold Sre.inSet
  show (if (decide (c < 256) && (valCode.getD (5 + (1 + c / 32)) 0).testBit (c % 32)) = true then _ else Sre.inSet valCode c 27 14 true _) = _
  rw [val_bits c h2 h1, if_neg Bool.false_ne_true]
  unfold Sre.inSet
  rfl
section
variable {prog : Program} {w : World} {A : Around} {E : Value → Shared → Prop} {s : Shared}
theorem wpAny_drive {m : Sre.M} (h : Still m) (n : Nat) {Q : Sre.M → Shared → Prop} (hq : Q (m.runFor 4) s) : wpAny (model prog w) A (reDrive (n + 1) m) Q E s := by
  unfold reDrive
  show wpAny _ _ (if (m.runFor reTurnSteps).outcome.isSome = true then _ else _) _ _ _
  have e : (m.runFor reTurnSteps).outcome = some .failed := still_run h
  rw [e, if_pos (by rfl)]
  exact wpAny_pure hq
theorem wpAny_runToEnd {m : Sre.M} (h : Still m) {Q : Option Sre.M → Shared → Prop} (hq : Q none s) : wpAny (model prog w) A (reRunToEnd m) Q E s := by
  unfold reRunToEnd
  have e : (m.runFor reTurnSteps).outcome = some .failed := still_run h
  refine wpAny_bind (wpAny_drive h (2 ^ 64 - 1) ?_)
  refine wpAny_bind (wpAny_forIn_list _ (fun _ _ s' => s' = s) _ ?_ ?_ _ _ rfl)
  · rintro i rest b s' rfl
    split
    · exact wpAny_bind (wpAny_rule (wpAny_pure rfl))
    · exact wpAny_pure rfl
  · rintro b s' rfl
    rw [show (m.runFor 4).outcome = some .failed from e]
    exact wpAny_pure hq
structure PatAt (h : Heap) (a : Addr) (code : Array Nat) : Prop where
  ex : ∃ o fs l ol xs n, h.get? a = some o ∧ o.cls = .type "re.Pattern" ∧ o.dict = none ∧ o.data = .fields fs ∧ reRawNat (fs.getD 6 .none) = 0 ∧ fs.getD 5 .none = .ref l ∧ h.get? l = some ol ∧ ol.data = .seq xs n ∧ (xs.map reRawOf).map (·.toNat) = code
theorem PatAt.keeps {h h' : Heap} {a : Addr} {code : Array Nat} (p : PatAt h a code) (k : ∀ b o, h.get? b = some o → h'.get? b = some o) : PatAt h' a code := by
  obtain ⟨o, fs, l, ol, xs, n, h1, h2, h3, h4, h5, h6, h7, h8, h9⟩ := p.ex
  exact ⟨⟨o, fs, l, ol, xs, n, k _ _ h1, h2, h3, h4, h5, h6, k _ _ h7, h8, h9⟩⟩
theorem PatAt.type {a : Addr} {code : Array Nat} (p : PatAt s.heap a code) : s.TypeIs (.ref a) "re.Pattern" := by
  obtain ⟨o, fs, l, ol, xs, n, h1, h2, _⟩ := p.ex
  exact ⟨o, h1, h2⟩
theorem wpAny_rawItems {l : Addr} {ol : Obj} {xs : Array Value} {n : Nat} {Q : Array Int → Shared → Prop} (h1 : s.heap.get? l = some ol) (h2 : ol.data = .seq xs n) (hq : Q (xs.map reRawOf) s) : wpAny (model prog w) A (reRawItems (.ref l)) Q E s := by
  unfold reRawItems
  exact wpAny_bind (wpAny_seqItems h1 h2 (wpAny_pure hq))
theorem search_wp {a : Addr} {code : Array Nat} {x : Str} {t : Tok} {R : Fin → Shared → Prop} (p : PatAt s.heap a code) (h0 : isInfo code = true) (h2 : code.getD 2 0 = 4) (hx : ∀ c ∈ x.cps.toList, Clean code c) (hs : x.cps.size < 2 ^ 60)
    (hq : R (.done (.ret .none)) s) : wpAny (model prog w) A (Builtin.«re.Pattern.search» ⟨[.ref a, .str x t], []⟩) R E s := by
  obtain ⟨o, fs, l, ol, xs, n, h1, hc, hd, h4, h5, h6, h7, h8, h9⟩ := p.ex
  unfold Builtin.«re.Pattern.search»
  refine wpAny_bind ?_
  unfold reTarget
  refine wpAny_bind (wpAny_of_eq (named_search _) ?_)
  refine wpAny_bind (wpAny_pure (wpAny_bind (wpAny_pure (wpAny_bind (wpAny_fieldsOf h1 h4 ?_)))))
  have ht : reTextOf (.str x t) = pure (x.cps, 0) := rfl
  refine wpAny_bind (wpAny_of_eq ht ?_)
  dsimp only
  rw [h5]
  rw [if_neg (by decide), if_neg (by decide)]
  have hn : reNoCollectionInside (.str x t) 0 = pure () := rfl
  refine wpAny_bind (wpAny_of_eq hn ?_)
  rw [h6]
  refine wpAny_bind (wpAny_rawItems h7 h8 (wpAny_pure ?_))
  rw [h9]
  unfold reAnswer
  refine wpAny_bind (wpAny_runToEnd ?_ (wpAny_pure ?_))
  · have e1 : min (0 : Int).toNat x.cps.size = 0 := by simp
    have e2 : min (2 ^ 63 - 1 : Int).toNat x.cps.size = x.cps.size := by omega
    dsimp only
    rw [e1, e2]
    exact search_still h0 h2 hx
  · exact hq
end
end Mine
end

-- part M33
section
namespace Mine
open PySem PySem.W PyProof.Rows PySem.Calls PySem.Spec

structure Good3 (X : Cx) : Prop extends Good2 X where
  tab : ∀ a kvs, X.S.tab a = some kvs → KTD.TextTab X.hb a (kvs.map fun p => (p.1, KTD.Dat.flat (.int p.2)))
  quiet : ∀ a x, X.S.quiet a x = true → ∃ code, PatAt X.hb a code ∧ isInfo code = true ∧ code.getD 2 0 = 4 ∧ (∀ c ∈ x.cps.toList, Clean code c) ∧ x.cps.size < 2 ^ 60

section
variable {X : Cx} {d : Nat} {A : Around} {env : Env} {ρ : Rho} {s : Shared} {sc : Scope} {loc loc' loc₁ : Loc} {σ σ' σ₁ σ₂ σ₃ σ₄ : AS}
theorem v_search (G : Good3 X) {o : Expr} {ap pos : Pos} {as : List Expr} {a : Addr} {x : Str} (hb : baseOk o = true) (ha : as.all notStar = true) (hl : (ap.endLine == pos.line) = true) (hn : as.length < 20)
    (h1 : X.VEval d sc loc o σ (.val (.ref a)) σ₁) (h2 : X.VEvals d sc loc as σ₁ [.str x] σ₂) (hq : X.S.quiet a x = true) : X.VEval d sc loc (.Call (.Attribute o "search" ap) as [] pos) σ .none σ₂ := by
  intro A env ρ s Q E ok R L kq
  obtain ⟨code, P, i0, i2, hx, hs⟩ := G.quiet a x hq
  refine methB G.toGood hb ha hl hn h1 h2 plainAttrs_pattern slot_search type_search ok R L (fun ρ' h' tk u R' r => ?_) fun ρ₁ s₁ k₁ u us e₁ R₁ L₁ r₁ r₂ => ?_
  · cases r
    obtain ⟨o, fs, l, ol, xs, n, h1, h2, h3, _⟩ := (P.keeps R'.base).ex
    exact ⟨⟨o, h1, h2⟩, fun b q => by cases q; exact ⟨_, h1, h3⟩⟩
  · cases r₁
    cases r₂ with | cons ra rb => cases rb with | nil =>
    obtain ⟨t, rfl⟩ := ra
    have P' : PatAt s₁ a code := P.keeps R₁.base
    refine wpAny_call_entry (s := { s with heap := s₁, toks := k₁ }) slot_search (PatAt.type (s := { s with heap := s₁, toks := k₁ }) P') entry_search ?_ (args_search _ _)
    exact search_wp (s := { s with heap := s₁, toks := k₁ }) P' i0 i2 hx hs ⟨_, rfl, kq ρ₁ s₁ k₁ .none e₁ R₁ rfl⟩

theorem datum_lookup {k : Str} : ∀ (kvs : List (Str × Int)), KTD.datumAt k (kvs.map fun p => (p.1, KTD.Dat.flat (.int p.2))) = (kvs.lookup k).map fun i => KTD.Dat.flat (.int i)
  | [] => rfl
  | (x, i) :: r => by
    rw [lk_cons]
    show (if decide (k = x) = true then some (KTD.Dat.flat (.int i)) else _) = _
    by_cases h : k = x
    · simp [h]
    · simp only [h, decide_false, Bool.false_eq_true, if_false]
      exact datum_lookup r
theorem v_get (G : Good3 X) {o : Expr} {ap pos : Pos} {as : List Expr} {a : Addr} {kvs : List (Str × Int)} {x : Str} {i : Int} (hb : baseOk o = true) (ha : as.all notStar = true) (hl : (ap.endLine == pos.line) = true) (hn : as.length < 20)
    (h1 : X.VEval d sc loc o σ (.val (.ref a)) σ₁) (h2 : X.VEvals d sc loc as σ₁ [.str x, .int i] σ₂) (hq : X.S.tab a = some kvs) : X.VEval d sc loc (.Call (.Attribute o "get" ap) as [] pos) σ (.int ((kvs.lookup x).getD i)) σ₂ := by
  intro A env ρ s Q E ok R L kq
  have T := G.tab a kvs hq
  refine methB G.toGood hb ha hl hn h1 h2 PySem.F.plainAttrs_dict PySem.F.slot_dict_get PySem.F.type_dict_get ok R L (fun ρ' h' tk u R' r => ?_) fun ρ₁ s₁ k₁ u us e₁ R₁ L₁ r₁ r₂ => ?_
  · cases r
    have H : KTD.Here X.hb ({ s with heap := h', toks := tk } : Shared).heap a _ := ⟨T, R'.base⟩
    exact ⟨H.typeIs, H.noDict⟩
  · cases r₁
    cases r₂ with | cons ra rb => cases rb with | cons rb rc => cases rc with | nil =>
    obtain ⟨t, rfl⟩ := ra
    obtain ⟨t', rfl⟩ := rb
    have H : KTD.Here X.hb ({ s with heap := s₁, toks := k₁ } : Shared).heap a _ := ⟨T, R₁.base⟩
    refine PySem.call_meetsIn (s := { s with heap := s₁, toks := k₁ }) PySem.F.slot_dict_get H.typeIs PySem.F.entry_dict_get (PySem.F.args_dict_get_3 _ _ _) (KTD.meets_get2 (h₀ := X.hb)) ⟨H, fun dd v hd hv => ?_, fun hd => ?_⟩
    · rw [datum_lookup] at hd
      obtain ⟨j, hj, rfl⟩ := Option.map_eq_some_iff.mp hd
      rw [hj] at kq
      exact kq ρ₁ s₁ _ v e₁ R₁ (KTD.Opened.of (h := X.hb) (P := fun v => VRel ρ₁ s₁ (V.int j) v) (KTD.opened_int fun t => ⟨t, rfl⟩) v hv)
    · rw [datum_lookup, Option.map_eq_none_iff] at hd
      rw [hd] at kq
      exact kq ρ₁ s₁ _ _ e₁ R₁ ⟨_, rfl⟩
end
end Mine
end

-- part M34
section
namespace Mine
open PySem PySem.W PyProof.Rows PySem.Calls PySem.Spec

structure Good4 (X : Cx) : Prop extends Good3 X where
  meth : ∀ C m f, X.S.meth C m = some f → X.S.keep f = true ∧ plainGet X.K C m = true ∧ findIn X.K (.ref C) m = some (some (.ref f)) ∧ typeIn X.K (.ref f) = some (.type "function")

section
variable {X : Cx} {d : Nat} {A : Around} {env : Env} {ρ : Rho} {s : Shared} {sc : Scope} {loc loc' loc₁ : Loc} {σ σ' σ₁ σ₂ σ₃ σ₄ : AS}
/-- a method of an own class -/
theorem getMethod_own (G : Good4 X) {i : Nat} {C f : Addr} {fs : List (Str × V)} {m : Str} {u : Value} {pl : Sem Bool} {Q : Value × List Value → Shared → Prop} {E : Value → Shared → Prop} (ho : σ[i]? = some (.inst C fs)) (hn : (fs.lookup m).isSome = false) (hf : X.S.meth C m = some f)
    (R : X.SR ρ σ s.heap) (r : VRel ρ s.heap (.own i) u) (hQ : Q (.ref f, [u]) s) : X.wp A (getMethod u m pl) Q E s := by
  obtain ⟨x, rr, hi, rfl⟩ := r
  obtain ⟨x', dx, es, k, e, h1, h2, h3⟩ := R.objs i _ _ hi ho
  cases e
  obtain ⟨g0, g1, g2, g3⟩ := G.meth C m f hf
  have hg := entRel_get h3 m
  have hl : getL m es = some none := by
    cases q : fs.lookup m with
    | none => rw [q] at hg; exact hg
    | some a => rw [q] at hn; cases hn
  have K' : X.K.In s.heap := G.kin.keeps R.base
  have I : PySem.W.InstAt s.heap x (instObj C dx) C (some (dictOf es k)) := ⟨h1, rfl, rfl, h2⟩
  exact method_fn K' I (plainGet_of g1).1 (plainGet_of g1).2 g2 g3 (by show (lookIn m (dictOf es k)).map _ = _; rw [lookIn_dict, hl]; rfl) hQ

theorem v_Meth (G : Good4 X) {o : Expr} {m : Str} {ap pos : Pos} {as : List Expr} {i : Nat} {C f : Addr} {fs : List (Str × V)} {vs : List V} {a : V} (hb : baseOk o = true) (ha : as.all notStar = true) (hl : (ap.endLine == pos.line) = true) (hn : as.length < 20)
    (h1 : X.VEval d sc loc o σ (.own i) σ₁) (hi : σ₁[i]? = some (.inst C fs)) (hs : (fs.lookup m).isSome = false) (hf : X.S.meth C m = some f) (h2 : X.VEvals d sc loc as σ₁ vs σ₂) (h3 : X.VCall d (.val (.ref f)) (.own i :: vs) [] σ₂ a σ₃) :
    X.VEval d sc loc (.Call (.Attribute o m ap) as [] pos) σ a σ₃ := by
  intro A env ρ s Q E ok R L kq
  refine methCall hb ha hl (by simpa using hn) rfl (VEval.then h1 ok R L fun ρ₁ s₁ k₁ u e₁ R₁ L₁ r₁ => fun pl => ?_)
  refine getMethod_own (s := { s with heap := s₁, toks := k₁ }) G hi hs hf R₁ r₁ ?_
  refine callWith_any (s := { s with heap := s₁, toks := k₁ }) (f := .val (.ref f)) (first := [u]) G.toGood (G.meth C m f hf).1 rfl ha h2 ok R₁ L₁ fun ρ₂ s₂ k₂ us e₂ R₂ L₂ r₂ => ?_
  exact h3 A ρ₂ { s with heap := s₂, toks := k₂ } (.ref f) (u :: us) [] Q E ok R₂ rfl (.cons (r₁.ext e₂ (noSeq_none _ _)) r₂) rfl .nil fun ρ₃ s₃ k₃ z e₃ R₃ rz => kq ρ₃ s₃ k₃ z ((e₁.trans e₂).trans e₃) R₃ rz

theorem v_MethKw (G : Good4 X) {o : Expr} {m : Str} {ap pos kp : Pos} {as : List Expr} {n : Str} {e : Expr} {i : Nat} {C f : Addr} {fs : List (Str × V)} {vs : List V} {b a : V} (hb : baseOk o = true) (ha : as.all notStar = true) (hl : (ap.endLine == pos.line) = true) (hn : as.length + 1 < 20) (hne : as.isEmpty = false)
    (h1 : X.VEval d sc loc o σ (.own i) σ₁) (hi : σ₁[i]? = some (.inst C fs)) (hs : (fs.lookup m).isSome = false) (hf : X.S.meth C m = some f) (h2 : X.VEvals d sc loc as σ₁ vs σ₂) (h3 : X.VEval d sc loc e σ₂ b σ₃) (h4 : X.VCall d (.val (.ref f)) (.own i :: vs) [(n, b)] σ₃ a σ₄) :
    X.VEval d sc loc (.Call (.Attribute o m ap) as [⟨some n, e, kp⟩] pos) σ a σ₄ := by
  intro A env ρ s Q E ok R L kq
  refine methCall hb ha hl (by simpa using hn) rfl (VEval.then h1 ok R L fun ρ₁ s₁ k₁ u e₁ R₁ L₁ r₁ => fun pl => ?_)
  refine getMethod_own (s := { s with heap := s₁, toks := k₁ }) G hi hs hf R₁ r₁ ?_
  cases as with | nil => cases hne | cons e0 rest =>
  have hst : starEach (e0 :: rest) env = (false, eval e0 env) :: starEach rest env := starEach_cons (by rw [List.all_cons, Bool.and_eq_true] at ha; exact ha.1)
  refine callWith_of (P := X.K.In) (by rw [starEach_plain ha]; rfl) (keeps_K (G.keep f (G.meth C m f hf).1)) ?_
  refine evalArgs_kw2 rfl ?_ hst
  refine VEvals.then (s := { s with heap := s₁, toks := k₁ }) h2 ok R₁ L₁ fun ρ₂ s₂ k₂ us e₂ R₂ L₂ r₂ => ?_
  refine kwAll_cons ?_
  refine VEval.then (s := { s with heap := s₂, toks := k₂ }) h3 ok R₂ L₂ fun ρ₃ s₃ k₃ z e₃ R₃ L₃ r₃ => ?_
  refine kwAll_nil ⟨G.kin.keeps R₃.base, ?_⟩
  show X.wp A (PySem.call (.ref f) ([u] ++ us) [(n, z)]) Q E _
  have e23 := e₂.trans e₃
  exact h4 A ρ₃ { s with heap := s₃, toks := k₃ } (.ref f) (u :: us) [(n, z)] Q E ok R₃ rfl (.cons (r₁.ext e23 (noSeq_none _ _)) (r₂.ext e₃ (noSeq_none _ _))) rfl (.cons r₃ .nil) fun ρ₄ s₄ k₄ z' e₄ R₄ rz => kq ρ₄ s₄ k₄ z' ((e₁.trans e23).trans e₄) R₄ rz
end
end Mine
end

-- part M35
section
namespace Mine
open PySem PySem.W PyProof.Rows PySem.Calls PySem.Spec

structure Good5 (X : Cx) : Prop extends Good4 X where
  cls : ∀ C f, X.S.cls C = some f → makesIn X.K C = true ∧ findIn X.K (.ref C) "__init__" = some (some (.ref f)) ∧ typeIn X.K (.ref f) = some (.type "function")

section
variable {X : Cx} {d : Nat} {A : Around} {env : Env} {ρ : Rho} {s : Shared} {sc : Scope} {loc loc' loc₁ : Loc} {σ σ' σ₁ σ₂ σ₃ σ₄ : AS}
theorem Ok.under (ok : Ok d A) (hd : d < 25) {c : Code} (hw : c.weight ≤ 5) (hu : c.cUnits ≤ 5) : Ok (d + 1) (A.under c) := by
  refine ⟨ok.handled, ?_, ?_, by omega⟩
  · have := ok.depth
    show A.depth + c.weight ≤ _
    omega
  · have := ok.units
    show A.units + c.cUnits ≤ _
    omega
theorem call_weight (C : Addr) (rest : List Value) (kw : List (Str × Value)) : (Code.builtin "type.__call__" ⟨.ref C :: rest, kw⟩).weight = 1 := by kernel_rfl
theorem call_units (C : Addr) (rest : List Value) (kw : List (Str × Value)) : (Code.builtin "type.__call__" ⟨.ref C :: rest, kw⟩).cUnits = 1 := by kernel_rfl
/-- an object of an own class is made -/
theorem c_cls (G : Good5 X) {C f : Addr} {args : List V} (hf : X.S.cls C = some f) (hd : d < 25) (h : X.VCallC (d + 1) f (.own σ.length :: args) [] (σ ++ [.inst C []]) .none σ₂) : X.VCallC d C args [] σ (.own σ.length) σ₂ := by
  intro A ρ s vs kvs Q ok R ra ek rk kq
  cases kvs with | cons => cases ek | nil =>
  obtain ⟨g1, g2, g3⟩ := G.cls C f hf
  have K' : X.K.In s.heap := G.kin.keeps R.base
  obtain ⟨h0, g, dr, tk, os⟩ := s
  refine make_core (makes_of K' g1) (looks_findIn K' g2) (fun self => bind_fn K' self g3) (.inl rfl) ?_
  have k : ∀ b o, h0.get? b = some o → ((h0.push emptyDict).push (instObj C h0.objs.size)).get? b = some o := fun b o e => Heap.get?_push_of_some _ (Heap.get?_push_of_some _ e)
  have hx : ((h0.push emptyDict).push (instObj C h0.objs.size)).get? (h0.objs.size + 1) = some (instObj C h0.objs.size) := by heap_get
  have hdx : ((h0.push emptyDict).push (instObj C h0.objs.size)).get? h0.objs.size = some emptyDict := by heap_get
  have hn : ∀ a ∈ [h0.objs.size + 1, h0.objs.size], h0.get? a = none := fun a ha => by
    rcases List.mem_cons.mp ha with rfl | ha
    · exact Heap.get?_none_of_le (by omega)
    · rw [List.mem_singleton.mp ha]; exact size_none _
  have R' : X.SR (ρ.add [h0.objs.size + 1, h0.objs.size]) (σ ++ [.inst C []]) ((h0.push emptyDict).push (instObj C h0.objs.size)) := R.add k hn (by simp) (fun a ha => by
    rcases List.mem_cons.mp ha with rfl | ha
    · exact ⟨_, hx⟩
    · rw [List.mem_singleton.mp ha]; exact ⟨_, hdx⟩) ⟨_, _, [], 0, rfl, hx, hdx, .nil⟩
  have x := ext_add (ρ := ρ) k hn
  have ho : (ρ.add [h0.objs.size + 1, h0.objs.size]).own[σ.length]? = some [h0.objs.size + 1, h0.objs.size] := by
    have e : ρ.own.length = σ.length := R.len
    rw [← e]; simp [Rho.add]
  refine h _ (ρ.add [h0.objs.size + 1, h0.objs.size]) ⟨_, g, dr, tk, os⟩ (.ref (h0.objs.size + 1) :: vs) [] _ (ok.under hd (by rw [call_weight]; decide) (by rw [call_units]; decide)) R' (.cons ⟨_, _, ho, rfl⟩ (ra.ext x (noSeq_none _ _))) rfl .nil fun ρ' h' tk' u x' R'' r => ?_
  cases r
  refine ⟨rfl, ?_⟩
  refine kq ρ' h' tk' _ (x.trans x') R'' ?_
  obtain ⟨m, _, e1, _⟩ := x'.more
  refine ⟨h0.objs.size + 1, [h0.objs.size], ?_, rfl⟩
  rw [e1, List.getElem?_append_left (List.getElem?_eq_some_iff.mp ho).1]
  exact ho
end
end Mine
end

-- part M36
section
namespace Mine
open PySem PySem.W PyProof.Rows PySem.Calls PySem.Spec

structure Good6 (X : Cx) : Prop extends Good5 X where
  noseq : ∀ C f, X.S.meth C "__setitem__" = some f ∨ X.S.meth C "__delitem__" = some f → noSeq X.K C = true

section
variable {X : Cx} {d : Nat} {A : Around} {env : Env} {ρ : Rho} {s : Shared} {sc : Scope} {loc loc' loc₁ : Loc} {σ σ' σ₁ σ₂ σ₃ σ₄ : AS}
theorem Ok.up (ok : Ok d A) (hd : d < 25) : Ok (d + 1) A := ⟨ok.handled, by have := ok.depth; omega, by have := ok.units; omega, by omega⟩
theorem own_inst {i : Nat} {C : Addr} {fs : List (Str × V)} {u : Value} {h : Heap} (R : X.SR ρ σ h) (hi : σ[i]? = some (.inst C fs)) (r : VRel ρ h (.own i) u) : ∃ x dx es k, u = .ref x ∧ ρ.own[i]? = some [x, dx] ∧ InstAt h x (instObj C dx) C (some (dictOf es k)) ∧ EntRel X.w ρ h fs es := by
  obtain ⟨x, rr, e, rfl⟩ := r
  obtain ⟨x', dx, es, k, e', h1, h2, h3⟩ := R.objs i _ _ e hi
  cases e'
  exact ⟨x, dx, es, k, rfl, e, ⟨h1, rfl, rfl, h2⟩, h3⟩
theorem x_AssignOwn (G : Good6 X) {o k e : Expr} {sp pos : Pos} {i : Nat} {C f : Addr} {fs : List (Str × V)} {v y z : V} (hd : d < 25) (h1 : X.VEval d sc loc e σ v σ₁) (h2 : X.VEval d sc loc o σ₁ (.own i) σ₂) (h3 : X.VEval d sc loc k σ₂ y σ₃) (hi : σ₃[i]? = some (.inst C fs)) (hf : X.S.meth C "__setitem__" = some f)
    (h4 : X.VCall (d + 1) (.val (.ref f)) [.own i, y, v] [] σ₃ z σ₄) : X.VExec d sc loc (.Assign [.Subscript o k sp] e pos) σ .next loc σ₄ := by
  intro A env ρ s Q E ok R L kq
  refine wpAny_Assign_Subscript (VEval.then h1 ok R L fun ρ₁ s₁ k₁ u e₁ R₁ L₁ r₁ => VEval.then h2 ok R₁ L₁ fun ρ₂ s₂ k₂ u₂ e₂ R₂ L₂ r₂ => VEval.then h3 ok R₂ L₂ fun ρ₃ s₃ k₃ u₃ e₃ R₃ L₃ r₃ => ?_) (by cases e <;> rfl)
  have r₂' := r₂.ext e₃ (noSeq_none _ _)
  obtain ⟨x, dx, es, n, rfl, hx, I, hes⟩ := own_inst R₃ hi r₂'
  obtain ⟨g0, g1, g2, g3⟩ := G.meth C _ f hf
  have K' : X.K.In s₃ := G.kin.keeps R₃.base
  unfold setItem sequenceKey
  refine wpAny_holding (wpAny_bind (wpAny_bind (I.type.here ?_)))
  refine wpAny_bind ((anyM_none K' (G.noseq C f (.inl hf))).here ?_)
  rw [if_pos (show (!false) = true from rfl)]
  refine wpAny_pure (wpAny_bind (special_fn (s := { s with heap := s₃, toks := k₃ }) K' I g2 g3 ?_))
  refine h4 _ ρ₃ { s with heap := s₃, toks := k₃ } (.ref f) [.ref x, u₃, u] [] _ _ (ok.up hd) R₃ rfl (.cons r₂' (.cons r₃ (.cons (r₁.ext (e₂.trans e₃) (noSeq_none _ _)) .nil))) rfl .nil fun ρ₄ s₄ k₄ z' e₄ R₄ rz => ?_
  exact wpAny_pure (kq ρ₄ s₄ k₄ _ (Ext.up L (((e₁.trans e₂).trans e₃).trans e₄)) R₄ (L₃.ext e₄) rfl)
theorem x_Delete (G : Good6 X) {o k : Expr} {sp pos : Pos} {i : Nat} {C f : Addr} {fs : List (Str × V)} {y z : V} (hd : d < 25) (h2 : X.VEval d sc loc o σ (.own i) σ₂) (h3 : X.VEval d sc loc k σ₂ y σ₃) (hi : σ₃[i]? = some (.inst C fs)) (hf : X.S.meth C "__delitem__" = some f)
    (h4 : X.VCall (d + 1) (.val (.ref f)) [.own i, y] [] σ₃ z σ₄) : X.VExec d sc loc (.Delete [.Subscript o k sp] pos) σ .next loc σ₄ := by
  intro A env ρ s Q E ok R L kq
  refine wpAny_Delete (wpAny_deleteEach_cons (wpAny_delete_Subscript (VEval.then h2 ok R L fun ρ₂ s₂ k₂ u₂ e₂ R₂ L₂ r₂ => VEval.then h3 ok R₂ L₂ fun ρ₃ s₃ k₃ u₃ e₃ R₃ L₃ r₃ => ?_)))
  have r₂' := r₂.ext e₃ (noSeq_none _ _)
  obtain ⟨x, dx, es, n, rfl, hx, I, hes⟩ := own_inst R₃ hi r₂'
  obtain ⟨g0, g1, g2, g3⟩ := G.meth C _ f hf
  have K' : X.K.In s₃ := G.kin.keeps R₃.base
  unfold delItem sequenceKey
  refine wpAny_holding (wpAny_bind (wpAny_bind (I.type.here ?_)))
  refine wpAny_bind ((anyM_none K' (G.noseq C f (.inr hf))).here ?_)
  rw [if_pos (show (!false) = true from rfl)]
  refine wpAny_pure (wpAny_bind (special_fn (s := { s with heap := s₃, toks := k₃ }) K' I g2 g3 ?_))
  refine h4 _ ρ₃ { s with heap := s₃, toks := k₃ } (.ref f) [.ref x, u₃] [] _ _ (ok.up hd) R₃ rfl (.cons r₂' (.cons r₃ .nil)) rfl .nil fun ρ₄ s₄ k₄ z' e₄ R₄ rz => ?_
  exact wpAny_pure (wpAny_deleteEach_nil (kq ρ₄ s₄ k₄ _ (Ext.up L ((e₂.trans e₃).trans e₄)) R₄ (L₃.ext e₄) rfl))
end
end Mine
end

-- part M37
section
namespace Mine
open PySem PySem.W PyProof.Rows PySem.Calls PySem.Spec

theorem fn_ga : typeLookup (.type "function") "__getattribute__" = pure (some (.builtin "object.__getattribute__")) := by rw [typeLookup_type, builtinLookup_eq_fast]; kernel_rfl
theorem fn_noGa : typeLookup (.type "function") "__getattr__" = pure none := am_miss_of_fast (by decide +kernel)
theorem fn_noRead : typeLookup (.type "function") "read" = pure none := am_miss_of_fast (by decide +kernel)
theorem slot_fn_ga : PySem.Slot "function" "__getattribute__" "object.__getattribute__" :=
  .of (owner := "object") (n := "__getattribute__") fn_ga (by decide +kernel) (by decide +kernel) (by decide +kernel)
    (by first | exact .inl (by decide +kernel) | exact .inr (by decide +kernel)) (by rw [isSubtype_type]; kernel_rfl)
theorem slot_fn_sa : PySem.Slot "function" "__setattr__" "object.__setattr__" :=
  .of (owner := "object") (n := "__setattr__") (by rw [typeLookup_type, builtinLookup_eq_fast]; kernel_rfl) (by decide +kernel) (by decide +kernel) (by decide +kernel)
    (by first | exact .inl (by decide +kernel) | exact .inr (by decide +kernel)) (by rw [isSubtype_type]; kernel_rfl)

section
variable {prog : Program} {w : World} {A : Around} {E : Value → Shared → Prop} {s : Shared}
theorem ga_fn {f dd : Addr} {fd : FuncData} {hh : Int} {t₁ : Tok} {n : Nat} {v : Value} {t : Tok} {R : Fin → Shared → Prop} (ho : s.heap.get? f = some { cls := .type "function", dict := some dd, data := .func fd }) (hd : s.heap.get? dd = some (dictOf [⟨hh, .str "read" t₁, v⟩] n))
    (hq : R (.done (.ret v)) s) : wpAny (model prog w) A (Builtin.«object.__getattribute__» ⟨[.ref f, .str "read" t], []⟩) R E s := by
  obtain ⟨hp, g, d, tk, os⟩ := s
  have hT : ∀ tk', (⟨hp, g, d, tk', os⟩ : Shared).TypeIs (.ref f) "function" := fun _ => ⟨_, ho, rfl⟩
  have f1 := fn_noRead
  unfold Builtin.«object.__getattribute__»
  repeat (any_goals (first | assumption | exact hT _ | wp_step))
theorem getAttr_fn {f dd : Addr} {fd : FuncData} {hh : Int} {t₁ : Tok} {n : Nat} {g : Addr} {ex : Bool} {Q : Value → Shared → Prop} (ho : s.heap.get? f = some { cls := .type "function", dict := some dd, data := .func fd }) (hd : s.heap.get? dd = some (dictOf [⟨hh, .str "read" t₁, .ref g⟩] n))
    (hq : ∀ tk, Q (.ref g) { s with toks := tk }) : wpAny (model prog w) A (getAttr (.ref f) "read" ex) Q E s := by
  obtain ⟨hp, gg, d, tk, os⟩ := s
  have hT : ∀ tk', (⟨hp, gg, d, tk', os⟩ : Shared).TypeIs (.ref f) "function" := fun _ => ⟨_, ho, rfl⟩
  have f3 := slot_fn_ga.lookup
  have f4 := slot_fn_ga.bind (.ref f)
  unfold getAttr getAttrBy
  repeat (any_goals (first | assumption | exact hT _ | exact hq _ | ((with_reducible show wpAny _ _ (call (Value.builtin "object.__getattribute__") _ _) _ _ _); refine wpAny_call_entry slot_fn_ga (hT _) F.entry_object_getattribute (ga_fn (s := ⟨hp, gg, d, _, os⟩) ho hd ⟨_, rfl, ?_⟩) (F.args_object_getattribute_2 _ _)) | rw [if_neg (show ¬ ((ex && onTheHeap (Value.builtin "object.__getattribute__")) = true) by cases ex <;> decide)] | wp_step))
theorem getMethod_fn {f dd : Addr} {fd : FuncData} {hh : Int} {t₁ : Tok} {n : Nat} {g : Addr} {pl : Sem Bool} {Q : Value × List Value → Shared → Prop} (ho : s.heap.get? f = some { cls := .type "function", dict := some dd, data := .func fd }) (hd : s.heap.get? dd = some (dictOf [⟨hh, .str "read" t₁, .ref g⟩] n))
    (hq : ∀ tk, Q (.ref g, []) { s with toks := tk }) : wpAny (model prog w) A (getMethod (.ref f) "read" pl) Q E s := by
  have hT : s.TypeIs (.ref f) "function" := ⟨_, ho, rfl⟩
  have f3 := slot_fn_ga.lookup
  have f5 := fn_noGa
  have f6 := fn_noRead
  unfold getMethod
  refine wpAny_bind (wpAny_specialOf hT f3 ?_)
  have hcan : (Manifest.canonical "object.__getattribute__" != "object.__getattribute__") = false := by decide +kernel
  show wpAny _ _ (if (Manifest.canonical "object.__getattribute__" != "object.__getattribute__") = true then _ else _) _ _ _
  rw [hcan, if_neg Bool.false_ne_true]
  refine wpAny_bind (wpAny_specialOf hT f5 ?_)
  rw [if_neg (by decide)]
  refine wpAny_bind (wpAny_specialOf hT f6 ?_)
  show wpAny _ _ (getAttr (.ref f) "read" >>= fun v => pure (v, [])) _ _ _
  exact wpAny_bind (getAttr_fn ho hd fun tk => wpAny_pure (hq tk))
end
end Mine
end

-- part M38
section
namespace Mine
open PySem PySem.W PyProof.Rows PySem.Calls PySem.Spec

section
variable {prog : Program} {w : World} {A : Around} {E : Value → Shared → Prop} {s : Shared}
theorem fn_mro : mroOf (.type "function") = pure [.type "function", .type "object"] := by rw [mroOf_type]; kernel_rfl
theorem fn_own : classOwn (.type "function") "__setattr__" = pure none := by kernel_rfl
theorem ob_own : ∃ v, classOwn (.type "object") "__setattr__" = pure (some v) := ⟨.builtin "object.__setattr__", by kernel_rfl⟩
theorem not_over {f : Addr} {Q : Unit → Shared → Prop} (hT : s.TypeIs (.ref f) "function") (hq : Q () s) : wpAny (model prog w) A (Builtin.ObjectAttr.refuseIfOverridden (.ref f) "__setattr__") Q E s := by
  unfold Builtin.ObjectAttr.refuseIfOverridden
  refine wpAny_bind (wpAny_typeOf hT ?_)
  rw [fn_mro]
  refine wpAny_bind (wpAny_pure ?_)
  exact wpAny_of_eq (a := ()) (by kernel_rfl) hq
theorem sa_fn {f : Addr} {fd : FuncData} {v : Value} {t : Tok} {R : Fin → Shared → Prop} (ho : s.heap.get? f = some { cls := .type "function", data := .func fd })
    (hq : ∀ h' tk dd hh t n, (∀ b o, b ≠ f → s.heap.get? b = some o → h'.get? b = some o) → s.heap.get? dd = none → h'.get? f = some { cls := .type "function", dict := some dd, data := .func fd } → h'.get? dd = some (dictOf [⟨hh, .str "read" t, v⟩] n) → R (.done (.ret .none)) { s with heap := h', toks := tk }) :
    wpAny (model prog w) A (Builtin.«object.__setattr__» ⟨[.ref f, .str "read" t, v], []⟩) R E s := by
  have hT : s.TypeIs (.ref f) "function" := ⟨_, ho, rfl⟩
  rw [osa_eq]
  refine wpAny_bind (not_over hT ?_)
  refine wpAny_bind (wpAny_typeOf hT ?_)
  rw [fn_noRead]
  refine wpAny_bind (wpAny_pure (wpAny_bind (wpAny_pure ?_)))
  show wpAny _ _ (Builtin.ObjectAttr.storeInOwnDict (.ref f) (.type "function") (.str "read" t) "read" v false) _ _ _
  unfold Builtin.ObjectAttr.storeInOwnDict
  have h1 : ownStreamTells (.ref f) (.type "function") = pure () := by rfl
  rw [h1]
  refine wpAny_bind (wpAny_pure ?_)
  rw [if_neg (by decide)]
  refine wpAny_bind ?_
  show wpAny _ _ (instanceDict f true) _ _ _
  unfold instanceDict
  refine wpAny_bind (wpAny_loadPart ho ?_)
  dsimp only
  have hdf : typeHasDict (.type "function") = true := by decide +kernel
  rw [hdf, if_neg (by decide)]
  refine wpAny_bind (wpAny_alloc ?_)
  have hk1 : ∀ b o, s.heap.get? b = some o → (s.heap.push emptyDict).get? b = some o := push_keeps
  refine wpAny_bind (wpAny_update (s := { s with heap := s.heap.push emptyDict }) (hk1 _ _ ho) ?_)
  have hcyc : dictMade (.type "function") f s.heap.objs.size = pure (some s.heap.objs.size) := by rfl
  rw [hcyc]
  refine wpAny_pure ?_
  dsimp only
  have hnf : f ≠ s.heap.objs.size := fun q => by rw [q, size_none] at ho; cases ho
  have hdx : (s.heap.push emptyDict).get? s.heap.objs.size = some emptyDict := Heap.get?_push_size _ rfl
  generalize hg : (s.heap.push emptyDict).update f (fun o => { o with dict := some s.heap.objs.size }) = g
  have hgf : g.get? f = some { cls := .type "function", dict := some s.heap.objs.size, data := .func fd } := by
    rw [← hg]; exact Heap.get?_update_self _ (hk1 _ _ ho) (by rfl)
  have hgo : ∀ b, b ≠ f → g.get? b = (s.heap.push emptyDict).get? b := fun b hb => by
    rw [← hg]; exact Heap.get?_update_other _ _ (Ne.symm hb)
  have hgd : g.get? s.heap.objs.size = some emptyDict := (hgo _ (Ne.symm hnf)).trans hdx
  unfold Builtin.ObjectAttr.storeInDict
  refine wpAny_bind (wpAny_pure (wpAny_bind ?_))
  unfold nsSet
  refine wpAny_bind (wpAny_bind (wpAny_askSetting (wpAny_pure (wpAny_bind (wpAny_mkText (wpAny_bind (wpAny_loadPart (s := { s with heap := g, toks := s.toks + 1 }) hgd ?_)))))))
  dsimp only
  rw [if_neg (by decide +kernel)]
  refine wpAny_updatePart (s := { s with heap := g, toks := s.toks + 1 }) hgd ?_
  dsimp only
  generalize (if (Str.ofString "read").cps.isEmpty = true then (0 : Int) else reduceHash ((model prog w).w.params.strHash (Str.ofString "read").cps)) = hh0
  have hput : Obj.putName "read" hh0 (.str "read" s.toks) v emptyDict = dictOf [⟨hh0, .str "read" s.toks, v⟩] (putN "read" [] 0) := putName_dict "read" _ _ v [] 0
  have hd' : (g.update s.heap.objs.size (Obj.putName "read" hh0 (.str "read" s.toks) v)).get? s.heap.objs.size = some (dictOf [⟨hh0, .str "read" s.toks, v⟩] (putN "read" [] 0)) := by
    rw [← hput]; exact Heap.get?_update_self _ hgd (by rw [hput]; rfl)
  generalize hg2 : g.update s.heap.objs.size (Obj.putName "read" hh0 (.str "read" s.toks) v) = g2 at hd' ⊢
  have hgo2 : ∀ b, b ≠ s.heap.objs.size → g2.get? b = g.get? b := fun b hb => by
    rw [← hg2]; exact Heap.get?_update_other _ _ (Ne.symm hb)
  refine wpAny_bind (wpAny_lookBehind (s := { s with heap := g2, toks := s.toks + 1 }) hd' (pastItsLine_dict (by rw [List.size_toArray, sizeLine_eq]; exact Nat.le_of_ble_eq_true rfl)) ?_)
  refine wpAny_pure (hq g2 (s.toks + 1) s.heap.objs.size _ _ _ (fun b o hb e => ?_) (size_none _) ((hgo2 _ hnf).trans hgf) hd')
  exact (hgo2 b (fun q => by rw [q, size_none] at e; cases e)).trans ((hgo b hb).trans (hk1 _ _ e))
theorem setAttr_fn {f : Addr} {fd : FuncData} {v : Value} {Q : Unit → Shared → Prop} (ho : s.heap.get? f = some { cls := .type "function", data := .func fd })
    (hq : ∀ h' tk dd hh t n, (∀ b o, b ≠ f → s.heap.get? b = some o → h'.get? b = some o) → s.heap.get? dd = none → h'.get? f = some { cls := .type "function", dict := some dd, data := .func fd } → h'.get? dd = some (dictOf [⟨hh, .str "read" t, v⟩] n) → Q () { s with heap := h', toks := tk }) :
    wpAny (model prog w) A (setAttr (.ref f) "read" v) Q E s := by
  have hT : ({ s with toks := s.toks + 1 } : Shared).TypeIs (.ref f) "function" := ⟨_, ho, rfl⟩
  unfold setAttr
  refine wpAny_bind (wpAny_mkText (wpAny_bind (wpAny_callSpecial?_slot (s := { s with toks := s.toks + 1 }) hT slot_fn_sa (wpAny_call_entry slot_fn_sa hT F.entry_object_setattr ?_ (F.args_object_setattr_3 _ _ _)))))
  exact sa_fn (s := { s with toks := s.toks + 1 }) ho fun h' tk dd hh t n k h1 h2 h3 => ⟨_, rfl, wpAny_pure (hq h' tk dd hh t n k h1 h2 h3)⟩
end
end Mine
end

-- part M39
section
namespace Mine
open PySem PySem.W PyProof.Rows PySem.Calls PySem.Spec

noncomputable def isDef (n : Str) : Stmt → Bool
  | .FunctionDef name .. => name == n
  | _ => false
noncomputable def theDef (n : Str) : Option Stmt := PySem.Challenge.rw_re0165_01.prog.main.body.find? (isDef n)
noncomputable def lineBody : List Stmt := match theDef "_law_line" with
  | some (.FunctionDef _ _ b ..) => b
  | _ => []
noncomputable def rdBody : List Stmt := match lineBody with
  | _ :: .FunctionDef _ _ b .. :: _ => b
  | _ => []
noncomputable def rdScope : Scope := match lineBody with
  | _ :: .FunctionDef _ _ _ _ _ _ sc .. :: _ => sc
  | _ => default
noncomputable def rdParams : Arguments := match lineBody with
  | _ :: .FunctionDef _ ps .. :: _ => ps
  | _ => default
noncomputable abbrev sText : Str := ⟨#[116, 101, 120, 116]⟩
noncomputable abbrev sAt : Str := ⟨#[97, 116]⟩
noncomputable abbrev sSize : Str := ⟨#[115, 105, 122, 101]⟩
noncomputable abbrev sSign : Str := ⟨#[115, 105, 103, 110]⟩
noncomputable abbrev sLen : Str := ⟨#[108, 101, 110]⟩
theorem rdScope_eq : rdScope = { kind := .function, names := [(sSize, .local), (sSign, .local), (sAt, .free), (sText, .free), (sLen, .globalImplicit)], isGenerator := false, isCoroutine := false } := by kernel_rfl
noncomputable abbrev at0 (p q r : Pos) : Expr := .Subscript (.Name sAt p) (.Constant (.int 0) 0 q) r
theorem rd_shape : ∃ p1 p2 p3 p4 p5 p6 p7 p8 p9 p10 p11 p12 p13 p14 p15 p16 p17 p18 p19 p20 p21 p22 p23 p24 p25 p26, rdBody =
    [.Assign [.Name sSign p1] (.Subscript (.Name sText p2) (.Slice (some (at0 p3 p4 p5)) (some (.BinOp (at0 p6 p7 p8) .Add (.Name sSize p9) p10)) none p11) p12) p13,
     .Assign [at0 p14 p15 p16] (.BinOp (at0 p17 p18 p19) .Add (.Call (.Name sLen p20) [.Name sSign p21] [] p22) p23) p24,
     .Return (some (.Name sSign p25)) p26] := ⟨_, _, _, _, _, _, _, _, _, _, _, _, _, _, _, _, _, _, _, _, _, _, _, _, _, _, rfl⟩

theorem sliceS_one (x : Str) (p : Nat) : sliceS x (some (p : Int)) (some ((p : Int) + 1)) = ⟨x.cps.extract p (p + 1)⟩ := by
  obtain ⟨a⟩ := x
  unfold sliceS
  show (let ks := Builtin.Str.strSliceIndices (some (p : Int)) (some ((p : Int) + 1)) 1 a.size; if ks.length == a.size then (⟨a⟩ : Str) else ⟨(ks.filterMap (a[·]?)).toArray⟩) = _
  by_cases h : p < a.size
  · have e : Builtin.Str.strSliceIndices (some (p : Int)) (some ((p : Int) + 1)) 1 a.size = [p] := by
      unfold Builtin.Str.strSliceIndices sliceRange
      have h1 : ¬ ((p : Int) < 0) := by omega
      have h2 : ¬ ((p : Int) + 1 < 0) := by omega
      have h3 : max 0 (min (p : Int) a.size) = p := by omega
      have h4 : max 0 (min ((p : Int) + 1) a.size) = (p : Int) + 1 := by omega
      simp [h1, h2, h3, h4]
      refine ⟨0, ?_, by simp⟩
      rw [if_pos (by omega)]
      have : ((p : Int) + 1 - p).toNat = 1 := by omega
      rw [this]; rfl
    rw [e]
    dsimp only
    split
    · rename_i q
      have : a.size = 1 := by simpa using (beq_iff_eq.mp q).symm
      have hp : p = 0 := by omega
      subst hp
      rw [Array.extract_eq_self_of_le (by omega)]
    · congr 1
      apply Array.ext'
      simp [h]
      rw [List.drop_eq_getElem_cons (by simpa using h)]
      simp
  · have e : Builtin.Str.strSliceIndices (some (p : Int)) (some ((p : Int) + 1)) 1 a.size = [] := by
      unfold Builtin.Str.strSliceIndices sliceRange
      have h1 : ¬ ((p : Int) < 0) := by omega
      have h2 : ¬ ((p : Int) + 1 < 0) := by omega
      have h3 : max 0 (min (p : Int) a.size) = a.size := by omega
      have h4 : max 0 (min ((p : Int) + 1) a.size) = a.size := by omega
      simp [h1, h2, h3, h4]
    rw [e]
    dsimp only
    have hz : a.extract p (p + 1) = #[] := Array.extract_empty_of_size_le_start (by omega)
    rw [hz]
    split
    · rename_i q
      have : a.size = 0 := by simpa using (beq_iff_eq.mp q).symm
      rw [Array.size_eq_zero_iff.mp this]
    · rfl
section
variable {X : Cx} {d : Nat} {A : Around} {env : Env} {ρ : Rho} {s : Shared} {sc : Scope} {loc loc' loc₁ : Loc} {σ σ' σ₁ σ₂ σ₃ σ₄ : AS}
theorem rd_run (G : Good X) (hl : X.S.gl sLen = some (.val (.builtin "len"))) {x : Str} {p : Nat} (hp : p ≤ 100000) (hx : x.length ≤ 100000) : ∃ loc', loc'.lookup sText = some (.str x) ∧ loc'.lookup sAt = some (.own 0) ∧
    X.VExecs d rdScope [(sSize, .int 1), (sText, .str x), (sAt, .own 0)] rdBody [.list [.at (.int p)]] (.ret (.str ⟨x.cps.extract p (p + 1)⟩)) loc' [.list [.at (.int (p + (⟨x.cps.extract p (p + 1)⟩ : Str).length))]] := by
  obtain ⟨p1, p2, p3, p4, p5, p6, p7, p8, p9, p10, p11, p12, p13, p14, p15, p16, p17, p18, p19, p20, p21, p22, p23, p24, p25, p26, e⟩ := rd_shape
  rw [e, rdScope_eq]
  have hc : (⟨x.cps.extract p (p + 1)⟩ : Str).length ≤ 1 := by show (x.cps.extract p (p + 1)).size ≤ 1; rw [Array.size_extract]; omega
  generalize hcc : (⟨x.cps.extract p (p + 1)⟩ : Str) = c at hc ⊢
  generalize hsc : ({ kind := .function, names := [(sSize, .local), (sSign, .local), (sAt, .free), (sText, .free), (sLen, .globalImplicit)], isGenerator := false, isCoroutine := false } : Scope) = sc
  have hat : ∀ {loc : Loc} {q1 q2 q3 : Pos}, loc.lookup sAt = some (.own 0) → X.VEval d sc loc (at0 q1 q2 q3) [.list [.at (.int p)]] (.int p) [.list [.at (.int p)]] := fun h => v_SubOwn (v_Name_loc (by decide +kernel) h) (v_Constant rfl) rfl rfl
  have hk : sc.names.lookup sSign = some .local ∧ sc.names.lookup sLen = some .globalImplicit := by subst hsc; exact ⟨by kernel_rfl, by kernel_rfl⟩
  have hln : (⟨x.cps.extract p (p + 1)⟩ : Str).length ≤ 100000 := by rw [hcc]; omega
  have nm : ∀ {loc : Loc} {σ : AS} {n : Str} {q : Pos} {v : V}, (n == ("__debug__" : Str)) = false → loc.lookup n = some v → X.VEval d sc loc (.Name n q) σ v σ := fun h1 h2 => v_Name_loc h1 h2
  let l0 : Loc := [(sSize, .int 1), (sText, .str x), (sAt, .own 0)]
  let l1 : Loc := [(sSize, .int 1), (sText, .str x), (sAt, .own 0), (sSign, .str c)]
  let σ0 : AS := [.list [.at (.int p)]]
  have e1 : X.VEval d sc l0 (.Subscript (.Name sText p2) (.Slice (some (at0 p3 p4 p5)) (some (.BinOp (at0 p6 p7 p8) .Add (.Name sSize p9) p10)) none p11) p12) σ0 (.str c) σ0 := by
    rw [← hcc, ← sliceS_one]
    refine v_SliceS (σ₁ := σ0) (σ₂ := σ0) (nm (by decide +kernel) (by kernel_rfl)) (p_some (hat (by kernel_rfl))) (p_some (v_BinOp (hat (by kernel_rfl)) (nm (v := .int 1) (by decide +kernel) (by kernel_rfl)) ?_)) (by rw [sliceS_one]; exact hln)
    rfl
  have s1 : X.VExec d sc l0 (.Assign [.Name sSign p1] (.Subscript (.Name sText p2) (.Slice (some (at0 p3 p4 p5)) (some (.BinOp (at0 p6 p7 p8) .Add (.Name sSize p9) p10)) none p11) p12) p13) σ0 .next l1 σ0 := by
    refine x_AssignName rfl e1 ?_
    unfold sto
    rw [hk.1]
    rfl
  have eL : X.VEval d sc l1 (.Call (.Name sLen p20) [.Name sSign p21] [] p22) σ0 (.int c.length) σ0 :=
    v_CallName G (f := .val (.builtin "len")) rfl rfl (v_Name_gl G.glb (by decide +kernel) hk.2 hl) (v_evals_cons rfl (nm (v := .str c) (by decide +kernel) (by kernel_rfl)) v_evals_nil) (c_len_str (x := c) (by omega))
  have e2 : X.VEval d sc l1 (.BinOp (at0 p17 p18 p19) .Add (.Call (.Name sLen p20) [.Name sSign p21] [] p22) p23) σ0 (.int (p + c.length)) σ0 := by
    exact v_BinOp (hat (by kernel_rfl)) eL rfl
  have s2 : X.VExec d sc l1 (.Assign [at0 p14 p15 p16] (.BinOp (at0 p17 p18 p19) .Add (.Call (.Name sLen p20) [.Name sSign p21] [] p22) p23) p24) σ0 .next l1 [.list [.at (.int (p + c.length))]] :=
    x_AssignItem (i := 0) (w := .at (.int (p + c.length))) (j := 0) (xs := [.at (.int p)]) (xs' := [.at (.int (p + c.length))]) e2 (nm (by decide +kernel) (by kernel_rfl)) (v_Constant rfl) rfl rfl
  exact ⟨l1, by kernel_rfl, by kernel_rfl, x_cons_next s1 (x_cons_next s2 (x_cons_out (by simp) (x_Return (nm (by decide +kernel) (by kernel_rfl)))))⟩
end
end Mine
end

-- part M40
section
namespace Mine
open PySem PySem.W PyProof.Rows PySem.Calls PySem.Spec

structure StreamAt (h : Heap) (f dd fr cd ct ca l : Addr) (x : Str) (p : Nat) : Prop where
  fo : ∃ fd, h.get? f = some { cls := .type "function", dict := some dd, data := .func fd }
  ddo : ∃ hh t n, h.get? dd = some (dictOf [⟨hh, .str "read" t, .ref fr⟩] n)
  fro : ∃ name qual doc pm ctv, h.get? fr = some (fnMade name qual rdParams rdBody rdScope [(sText, ct), (sAt, ca)] doc pm cd ctv) ∧ h.CodeRec (.ref cd) qual
  cto : ∃ t, h.IsCell ct (some (.str x t))
  cao : h.IsCell ca (some (.ref l))
  lo : ∃ t, h.PlainList l #[.int p t]
theorem StreamAt.keep {h h' : Heap} {f dd fr cd ct ca l : Addr} {x : Str} {p : Nat} (S : StreamAt h f dd fr cd ct ca l x p) (k : ∀ a ∈ [f, dd, fr, cd, ct, ca, l], ∀ o, h.get? a = some o → h'.get? a = some o) : StreamAt h' f dd fr cd ct ca l x p := by
  obtain ⟨⟨fd, h1⟩, ⟨hh, t, n, h2⟩, ⟨nm, q, doc, pm, ctv, h3, c, o, vs, tt, e, h4, h5, h6⟩, ⟨t', o1, h7, h8⟩, ⟨o2, h9, h10⟩, ⟨t2, n2, h11⟩⟩ := S
  cases e
  exact ⟨⟨fd, k _ (by simp) _ h1⟩, ⟨hh, t, n, k _ (by simp) _ h2⟩, ⟨nm, q, doc, pm, ctv, k _ (by simp) _ h3, cd, o, vs, tt, rfl, k _ (by simp) _ h4, h5, h6⟩, ⟨t', o1, k _ (by simp) _ h7, h8⟩, ⟨o2, k _ (by simp) _ h9, h10⟩, ⟨t2, n2, k _ (by simp) _ h11⟩⟩
theorem all7 {P : Addr → Prop} {a b c d e f g : Addr} (h1 : P a) (h2 : P b) (h3 : P c) (h4 : P d) (h5 : P e) (h6 : P f) (h7 : P g) : ∀ x ∈ [a, b, c, d, e, f, g], P x :=
  List.forall_mem_cons.mpr ⟨h1, List.forall_mem_cons.mpr ⟨h2, List.forall_mem_cons.mpr ⟨h3, List.forall_mem_cons.mpr ⟨h4, List.forall_mem_cons.mpr ⟨h5, List.forall_mem_cons.mpr ⟨h6, List.forall_mem_cons.mpr ⟨h7, fun _ q => (nomatch q)⟩⟩⟩⟩⟩⟩⟩
theorem StreamAt.live {h : Heap} {f dd fr cd ct ca l : Addr} {x : Str} {p : Nat} (S : StreamAt h f dd fr cd ct ca l x p) : ∀ b ∈ [f, dd, fr, cd, ct, ca, l], ∃ o, h.get? b = some o := by
  obtain ⟨⟨fd, h1⟩, ⟨hh, t, n, h2⟩, ⟨_, _, _, _, _, h3, c, o, _, _, e, h4, _⟩, ⟨_, o1, h7, _⟩, ⟨o2, h9, _⟩, ⟨_, n2, h11⟩⟩ := S
  cases e
  exact all7 ⟨_, h1⟩ ⟨_, h2⟩ ⟨_, h3⟩ ⟨_, h4⟩ ⟨_, h7⟩ ⟨_, h9⟩ ⟨_, h11⟩
noncomputable def streamZ (h : Heap) (fp : List Addr) (rest : List Nat) : Prop := ∃ f dd fr cd ct ca l x p, fp = [f, dd, fr, cd, ct, ca, l] ∧ rest = x.cps.toList.drop p ∧ p ≤ x.cps.size ∧ x.cps.size ≤ 100000 ∧ StreamAt h f dd fr cd ct ca l x p
theorem extract_len (x : Str) (p : Nat) : (⟨x.cps.extract p (p + 1)⟩ : Str).length = if p < x.cps.size then 1 else 0 := by
  show (x.cps.extract p (p + 1)).size = _
  rw [Array.size_extract]
  split <;> omega
theorem head_drop (x : Str) (p : Nat) : headS (x.cps.toList.drop p) = ⟨x.cps.extract p (p + 1)⟩ ∧ (x.cps.toList.drop p).tail = x.cps.toList.drop (p + (⟨x.cps.extract p (p + 1)⟩ : Str).length) := by
  obtain ⟨a⟩ := x
  rw [extract_len]
  dsimp only
  by_cases h : p < a.size
  · have hd : a.toList.drop p = a[p] :: a.toList.drop (p + 1) := by rw [List.drop_eq_getElem_cons (by simpa using h)]; simp
    rw [if_pos h, hd]
    refine ⟨?_, rfl⟩
    show (⟨#[a[p]]⟩ : Str) = _
    congr 1
    apply Array.ext'
    simp [hd]
  · have hd : a.toList.drop p = [] := List.drop_eq_nil_of_le (by simp; omega)
    rw [if_neg h, hd]
    refine ⟨?_, by simpa using hd.symm⟩
    show (⟨#[]⟩ : Str) = _
    rw [Array.extract_empty_of_size_le_start (by omega)]
theorem rd_nocell : ∀ y ∈ rdScope.names, y.2 ≠ .cell := by rw [rdScope_eq]; decide
theorem rdParams_eq : ∃ q, rdParams = { posonlyargs := [], args := [{ arg := sSize, annotation := none, pos := q }], vararg := none, kwonlyargs := [], kw_defaults := [], kwarg := none, defaults := [] } := ⟨_, rfl⟩

section
variable {X : Cx} {d : Nat} {A : Around} {env : Env} {ρ : Rho} {s : Shared} {sc : Scope} {loc loc' loc₁ : Loc} {σ σ' σ₁ σ₂ σ₃ σ₄ : AS}
theorem Ok.deeper' (ok : Ok d A) (hd : d ≤ 25) (env : Env) : Ok (d + 1) (A.deeper env) :=
  ⟨ok.handled, by have := ok.depth; show A.depth + 1 ≤ _; omega, by have := ok.units; show A.units + 3 ≤ _; omega, by omega⟩
theorem read_call (G : Good X) (hl : X.S.gl sLen = some (.val (.builtin "len"))) (hz : ∀ h fp x, X.Z.stream X.w h fp x ↔ streamZ h fp x) {i : Nat} {x : Str} {p : Nat} {f dd fr cd ct ca l : Addr} {t : Tok} (hx : x.length ≤ 100000) (hp : p ≤ x.cps.size) (hd : d ≤ 25) (ok : Ok d A) (R : X.SR ρ σ s.heap)
    (ho : ρ.own[i]? = some [f, dd, fr, cd, ct, ca, l]) (S : StreamAt s.heap f dd fr cd ct ca l x p) {Q : Value → Shared → Prop} {E : Value → Shared → Prop}
    (hQ : ∀ h' tk t', Ext noF ρ ρ s.heap h' → X.SR ρ (σ.set i (.stream (x.cps.toList.drop (p + (⟨x.cps.extract p (p + 1)⟩ : Str).length)))) h' → Q (.str ⟨x.cps.extract p (p + 1)⟩ t') { s with heap := h', toks := tk }) :
    X.wp A (PySem.call (.ref fr) [.int 1 t] []) Q E s := by
  have nd := nodup_flatten_sub R.nodup ho
  have hroom : A.depth < recursionLimit := by have := ok.depth; show A.depth < 1000; omega
  have mem : ∀ a ∈ [f, dd, fr, cd, ct, ca, l], a ∈ ρ.flatten := fun a ha => mem_flatten_of ho ha
  obtain ⟨nm, qual, doc, pm, ctv, hfr, hcr⟩ := S.fro
  obtain ⟨tx, hct⟩ := S.cto
  obtain ⟨tp, hlp⟩ := S.lo
  have hca := S.cao
  obtain ⟨qp, hps⟩ := rdParams_eq
  refine wpAny_call (codeAny_call_function hroom hfr rfl (by rw [rdScope_eq]) (by rw [rdScope_eq]) rfl hcr ?_)
  refine wpAny_of_eq (a := [(sSize, .int 1 t)]) (by rw [hps]; kernel_rfl) ?_
  have hL := size_none s.heap
  refine wpAny_newFunctionEnv (fun y hy => ?_) (fun y hy => ?_) (fun g hns hsb => ?_) (by rw [rdScope_eq])
  · exact rd_nocell y hy
  · rw [List.mem_singleton.mp hy]; show rdScope.names.lookup sSize = _; rw [rdScope_eq]; kernel_rfl
  have hkeep : ∀ b o, s.heap.get? b = some o → g.get? b = some o := fun b o e => hsb.extBut b o (Nat.ne_of_lt (Heap.lt_size e)) (Heap.get?_push_of_some _ e)
  refine ⟨(G.lim.keeps R.base).keeps hkeep, codeAny_func ?_⟩
  generalize hen : newEnv rdScope s.heap.objs.size mainGlobals [(sText, ct), (sAt, ca)] (qual ++ ".<locals>.") (some fr) (.ref cd) none builtinsNs = en
  have eS : en.scope = rdScope := by rw [← hen]; rfl
  have eG : en.globals = mainGlobals := by rw [← hen]; rfl
  have eB : en.builtins = builtinsNs := by rw [← hen]; rfl
  have eC : en.cells = [(sText, ct), (sAt, ca)] := by rw [← hen]; rfl
  have eL : en.locals = s.heap.objs.size := by rw [← hen]; rfl
  have nd' : ct ≠ ca ∧ ct ≠ l ∧ ca ≠ l ∧ ∀ b ∈ [f, dd, fr, cd], b ≠ ct ∧ b ≠ ca ∧ b ≠ l := by
    simp only [List.nodup_cons, List.mem_cons, List.not_mem_nil, or_false, not_or] at nd
    obtain ⟨a1, a2, a3, a4, a5, a6, _⟩ := nd
    refine ⟨a5.1, a5.2, a6, fun b hb => ?_⟩
    simp only [List.mem_cons, List.not_mem_nil, or_false] at hb
    rcases hb with rfl | rfl | rfl | rfl
    · exact ⟨a1.2.2.2.1, a1.2.2.2.2.1, a1.2.2.2.2.2⟩
    · exact ⟨a2.2.2.1, a2.2.2.2.1, a2.2.2.2.2⟩
    · exact ⟨a3.2.1, a3.2.2.1, a3.2.2.2⟩
    · exact ⟨a4.1, a4.2.1, a4.2.2⟩
  let ρ' : Rho := { own := [[l]], priv := ρ.flatten.filter fun a => decide (a ≠ l ∧ a ≠ ct ∧ a ≠ ca) }
  have hmem : ∀ a, a ∈ ρ'.flatten → a ∈ ρ.flatten ∧ a ≠ ct ∧ a ≠ ca := fun a ha => by
    simp only [ρ', Rho.flatten, List.flatten_cons, List.flatten_nil, List.append_nil, List.cons_append, List.nil_append, List.mem_cons, List.mem_filter, decide_eq_true_eq] at ha
    rcases ha with rfl | ⟨h1, h2⟩
    · exact ⟨mem _ (by simp), Ne.symm nd'.2.1, Ne.symm nd'.2.2.1⟩
    · exact ⟨h1, h2.2.1, h2.2.2⟩
  have R' : X.SR ρ' [.list [.at (.int p)]] g := by
    refine ⟨fun b o e => hkeep b o (R.base b o e), rfl, fun j fp o e1 e2 => ?_, ?_, fun a ha => R.fresh a (hmem a ha).1, fun a ha => let ⟨o, e⟩ := R.there a (hmem a ha).1; ⟨o, hkeep _ _ e⟩⟩
    · cases j with
      | zero =>
        cases e1; cases e2
        exact ⟨l, [.int p tp], rfl, hlp.at (hkeep l), .cons ⟨tp, rfl⟩ .nil⟩
      | succ j => cases e2
    · show (l :: ρ.flatten.filter _).Nodup
      rw [List.nodup_cons]
      exact ⟨by simp, R.nd.filter _⟩
  have none_of : X.hb.get? s.heap.objs.size = none := (newOff R).2
  have lk : ∀ {y : Str} {v : V}, ([(sSize, .int 1), (sText, .str x), (sAt, .own 0)] : Loc).lookup y = some v → (y = sSize ∧ v = .int 1) ∨ (y = sText ∧ v = .str x) ∨ (y = sAt ∧ v = .own 0) := fun {y v} e => by
    rw [lk_cons] at e
    split at e
    · rename_i q; cases e; exact .inl ⟨q, rfl⟩
    rw [lk_cons] at e
    split at e
    · rename_i q; cases e; exact .inr (.inl ⟨q, rfl⟩)
    rw [lk_cons] at e
    split at e
    · rename_i q; cases e; exact .inr (.inr ⟨q, rfl⟩)
    cases e
  have lc : ∀ {y : Str} {c : Addr}, en.cells.lookup y = some c → (y = sText ∧ c = ct) ∨ (y = sAt ∧ c = ca) := fun {y c} e => by
    rw [eC, lk_cons] at e
    split at e
    · rename_i q; cases e; exact .inl ⟨q, rfl⟩
    rw [lk_cons] at e
    split at e
    · rename_i q; cases e; exact .inr ⟨q, rfl⟩
    cases e
  have kL : rdScope.names.lookup sText = some .free ∧ rdScope.names.lookup sAt = some .free ∧ rdScope.names.lookup sSize = some .local := by rw [rdScope_eq]; exact ⟨by kernel_rfl, by kernel_rfl, by kernel_rfl⟩
  have hcx : en.cells.lookup sText = some ct ∧ en.cells.lookup sAt = some ca := by rw [eC]; exact ⟨by kernel_rfl, by kernel_rfl⟩
  have L' : ERel X.hb ρ' rdScope [(sSize, .int 1), (sText, .str x), (sAt, .own 0)] en g := by
    refine ⟨eS, by rw [rdScope_eq], eG, eB, ⟨_, eL ▸ hns, fun y v e k => ?_⟩, fun y k => ?_, fun y v e => ?_, fun y z c e1 e2 => ?_, ?_, fun y c e => ?_⟩
    · rcases lk e with ⟨rfl, rfl⟩ | ⟨rfl, rfl⟩ | ⟨rfl, rfl⟩
      · exact ⟨.int 1 t, by kernel_rfl, t, rfl⟩
      · rw [kL.1] at k; cases k
      · rw [kL.2.1] at k; cases k
    · have hy : y = sText ∨ y = sAt := by
        have : rdScope.names.lookup y = some .cell ∨ rdScope.names.lookup y = some .free := k.imp id fun q => q.1
        rw [rdScope_eq] at this
        dsimp only at this
        rw [lk_cons, lk_cons, lk_cons, lk_cons, lk_cons] at this
        by_cases q1 : y = sSize
        · rw [if_pos q1] at this; simp at this
        rw [if_neg q1] at this
        by_cases q2 : y = sSign
        · rw [if_pos q2] at this; simp at this
        rw [if_neg q2] at this
        by_cases q3 : y = sAt
        · exact .inr q3
        rw [if_neg q3] at this
        by_cases q4 : y = sText
        · exact .inl q4
        rw [if_neg q4] at this
        split at this <;> simp at this
      rcases hy with rfl | rfl
      · refine ⟨ct, _, hcx.1, hct.keeps hkeep, fun v e => ?_⟩
        rcases lk e with ⟨q, _⟩ | ⟨_, rfl⟩ | ⟨q, _⟩
        · exact absurd q (by decide)
        · exact ⟨_, rfl, tx, rfl⟩
        · exact absurd q (by decide)
      · refine ⟨ca, _, hcx.2, hca.keeps hkeep, fun v e => ?_⟩
        rcases lk e with ⟨q, _⟩ | ⟨q, _⟩ | ⟨_, rfl⟩
        · exact absurd q (by decide)
        · exact absurd q (by decide)
        · exact ⟨_, rfl, l, [], rfl, rfl⟩
    · rcases lk e with ⟨rfl, rfl⟩ | ⟨rfl, rfl⟩ | ⟨rfl, rfl⟩
      · exact .inl kL.2.2
      · exact .inr (.inr ⟨kL.1, by decide⟩)
      · exact .inr (.inr ⟨kL.2.1, by decide⟩)
    · rcases lc e1 with ⟨rfl, rfl⟩ | ⟨rfl, rfl⟩ <;> rcases lc e2 with ⟨rfl, q⟩ | ⟨rfl, q⟩
      · rfl
      · exact absurd q nd'.1
      · exact absurd q.symm nd'.1
      · rfl
    · rw [eL]
      refine ⟨fun q => ?_, none_of⟩
      obtain ⟨o, e⟩ := R.there _ (hmem _ q).1
      rw [hL] at e; cases e
    · have hcc : c = ct ∨ c = ca := (lc e).imp (fun q => q.2) fun q => q.2
      have hm : c ∈ ρ.flatten := by rcases hcc with rfl | rfl <;> exact mem _ (by simp)
      refine ⟨fun q => ?_, R.fresh c hm, fun q => ?_, ?_⟩
      · rcases hcc with rfl | rfl
        · exact (hmem _ q).2.1 rfl
        · exact (hmem _ q).2.2 rfl
      · obtain ⟨o, e⟩ := R.there c hm
        rw [q, eL, hL] at e; cases e
      · rcases hcc with rfl | rfl
        · exact ⟨_, hct.keeps hkeep⟩
        · exact ⟨_, hca.keeps hkeep⟩
  obtain ⟨loc', b1, b2, V⟩ := rd_run (d := d + 1) G hl (show p ≤ 100000 from Nat.le_trans hp hx) hx
  have fpn : ∀ b, FP en b → b = s.heap.objs.size ∨ b = ct ∨ b = ca := by
    rintro b (rfl | ⟨y, e⟩)
    · exact .inl eL
    · exact .inr ((lc e).imp (fun q => q.2) fun q => q.2)
  refine V (A.deeper en) en ρ' { s with heap := g, toks := _ } _ _ (ok.deeper' hd en) R' L' fun ρ₁ h₁ tk₁ fl x₁ R₁ L₁ r₁ => ?_
  obtain ⟨u, rfl, t', rfl⟩ := r₁
  show Q (.str _ t') _
  have kept : ∀ b o, b ≠ l → b ≠ ct → b ≠ ca → s.heap.get? b = some o → h₁.get? b = some o := fun b o n1 n2 n3 e => x₁.kept b o (by simp [ρ', n1]) (fun q => by
    rcases fpn b q with rfl | rfl | rfl
    · rw [hL] at e; cases e
    · exact n2 rfl
    · exact n3 rfl) (hkeep b o e)
  obtain ⟨m1, m2, e1, e2, _⟩ := x₁.more
  obtain ⟨c1, u1, f1, f2, f3⟩ := L₁.cells sText (.inr ⟨kL.1, by decide⟩)
  rw [hcx.1] at f1; cases f1
  obtain ⟨u1', rfl, tx', rfl⟩ := f3 _ b1
  obtain ⟨c2, u2, g1, g2, g3⟩ := L₁.cells sAt (.inr ⟨kL.2.1, by decide⟩)
  rw [hcx.2] at g1; cases g1
  obtain ⟨u2', rfl, a2, rr, g4, rfl⟩ := g3 _ b2
  have ho1 : ρ₁.own[0]? = some [l] := by rw [e1]; rfl
  rw [ho1] at g4; cases g4
  obtain ⟨l', vs, q1, q2, q3⟩ := R₁.objs 0 _ _ ho1 rfl
  cases q1
  have S' : StreamAt h₁ f dd fr cd ct ca l x (p + (⟨x.cps.extract p (p + 1)⟩ : Str).length) := by
    obtain ⟨⟨fd, h1⟩, ⟨hh, t, n, h2⟩, _, _, _, _⟩ := S
    obtain ⟨c, o, vs', tt, e, h4, h5, h6⟩ := hcr
    cases e
    have kk : ∀ a ∈ [f, dd, fr, cd], ∀ o, s.heap.get? a = some o → h₁.get? a = some o := fun a ha o e => let ⟨n1, n2, n3⟩ := nd'.2.2.2 a ha; kept a o n3 n1 n2 e
    refine ⟨⟨fd, kk _ (by simp) _ h1⟩, ⟨hh, t, n, kk _ (by simp) _ h2⟩, ⟨nm, qual, doc, pm, ctv, kk _ (by simp) _ hfr, cd, o, vs', tt, rfl, kk _ (by simp) _ h4, h5, h6⟩, ⟨tx', f2⟩, g2, ?_⟩
    cases q3 with | cons ra rb => cases rb with | nil =>
    obtain ⟨t3, rfl⟩ := ra
    refine ⟨t3, ?_⟩
    push_cast at q2
    exact q2
  obtain ⟨R₂, x₂⟩ := R.turn (o := .stream (x.cps.toList.drop (p + (⟨x.cps.extract p (p + 1)⟩ : Str).length))) ho (fun b o hb e => kept b o (fun q => hb (by simp [q])) (fun q => hb (by simp [q])) (fun q => hb (by simp [q])) e)
    S'.live
    (fun _ => (hz _ _ _).mpr ⟨f, dd, fr, cd, ct, ca, l, x, _, rfl, rfl, by rw [extract_len]; split <;> omega, hx, S'⟩)
  exact hQ h₁ tk₁ t' x₂ R₂

theorem keeper_fn {M : Model} {h : Heap} {fr : Addr} (p : ∃ o fd, h.get? fr = some o ∧ o.data = .func fd) : ∃ k, (k = Keeper.frame ∨ k = Keeper.machine ∨ k = Keeper.boundFrame) ∧ Looks M h (keeperOf (.ref fr)) k := by
  obtain ⟨o, fd, e, hd⟩ := p
  refine ⟨.frame, .inl rfl, fun A Q E s k q => ?_⟩
  unfold keeperOf
  refine wpAny_bind (wpAny_load (k _ _ e) ?_)
  rw [hd]
  exact wpAny_pure q
theorem v_read (G : Good X) (hl : X.S.gl sLen = some (.val (.builtin "len"))) (hz : ∀ h fp x, X.Z.stream X.w h fp x ↔ streamZ h fp x) {o : Expr} {ap pos : Pos} {as : List Expr} {i : Nat} {rest rest₁ : List Nat} (hd : d ≤ 25) (hb : baseOk o = true) (ha : as.all notStar = true) (hll : (ap.endLine == pos.line) = true) (hn : as.length < 20)
    (h1 : X.VEval d sc loc o σ (.own i) σ₁) (hi : σ₁[i]? = some (.stream rest₁)) (h2 : X.VEvals d sc loc as σ₁ [.int 1] σ₂) (hi2 : σ₂[i]? = some (.stream rest)) :
    X.VEval d sc loc (.Call (.Attribute o "read" ap) as [] pos) σ (.str (headS rest)) (σ₂.set i (.stream rest.tail)) := by
  intro A env ρ s Q E ok R L kq
  refine methCall hb ha hll (by simpa using hn) rfl (VEval.then h1 ok R L fun ρ₁ s₁ k₁ u e₁ R₁ L₁ r₁ => fun pl => ?_)
  obtain ⟨f₀, rr, ho, rfl⟩ := r₁
  obtain ⟨f, dd, fr, cd, ct, ca, l, x₁, p₁, e, _, _, _, S⟩ := (hz _ _ _).mp (R₁.objs i _ _ ho hi)
  cases e
  obtain ⟨fd, hf⟩ := S.fo
  obtain ⟨hh, t, n, hdd⟩ := S.ddo
  refine getMethod_fn (s := { s with heap := s₁, toks := k₁ }) hf hdd fun tk => ?_
  have hp0 := starEach_plain (env := env) (pos := pos) ha
  have again : ∀ ρ₂ s₂, Ext noF ρ₁ ρ₂ s₁ s₂ → X.SR ρ₂ σ₂ s₂ → ρ₂.own[i]? = some [f₀, dd, fr, cd, ct, ca, l] ∧ ∃ x p, rest = x.cps.toList.drop p ∧ p ≤ x.cps.size ∧ x.cps.size ≤ 100000 ∧ StreamAt s₂ f₀ dd fr cd ct ca l x p := fun ρ₂ s₂ e₂ R₂ => by
    obtain ⟨m, _, e1, _⟩ := e₂.more
    have ho2 : ρ₂.own[i]? = some [f₀, dd, fr, cd, ct, ca, l] := by rw [e1, List.getElem?_append_left (List.getElem?_eq_some_iff.mp ho).1]; exact ho
    obtain ⟨_, _, _, _, _, _, _, x, p, e, hr, hp, hx, S2⟩ := (hz _ _ _).mp (R₂.objs i _ _ ho2 hi2)
    cases e
    exact ⟨ho2, x, p, hr, hp, hx, S2⟩
  refine callWith_of (P := fun h => ∃ o fd, h.get? fr = some o ∧ o.data = .func fd) (by rw [hp0]; rfl) (fun h q => keeper_fn q) ?_
  refine evalArgs_any hp0 ?_
  refine VEvals.then (s := { s with heap := s₁, toks := tk }) h2 ok R₁ L₁ fun ρ₂ s₂ k₂ us e₂ R₂ L₂ r₂ => ?_
  obtain ⟨ho2, x, p, hr, hp, hx, S2⟩ := again ρ₂ s₂ e₂ R₂
  subst hr
  obtain ⟨hd1, hd2⟩ := head_drop x p
  rw [hd1, hd2] at kq
  cases r₂ with | cons ra rb => cases rb with | nil =>
  obtain ⟨t1, rfl⟩ := ra
  refine ⟨?_, ?_⟩
  · obtain ⟨nm, q, doc, pm, ctv, h3, _⟩ := S2.fro
    exact ⟨_, _, h3, rfl⟩
  · show X.wp A (PySem.call (.ref fr) [.int 1 t1] []) Q E _
    refine read_call (s := { s with heap := s₂, toks := k₂ }) G hl hz hx hp hd ok R₂ ho2 S2 fun h' tk' t' x' R' => ?_
    exact kq ρ₂ h' tk' _ ((e₁.trans e₂).trans x') R' ⟨t', rfl⟩
end
end Mine
end

-- part M41
section
namespace Mine
open PySem PySem.W PyProof.Rows PySem.Calls PySem.Spec

noncomputable def defPos : Pos := match lineBody with
  | _ :: .FunctionDef _ _ _ _ _ _ _ _ _ p :: _ => p
  | _ => default
noncomputable def lamPos : Pos := match lineBody with
  | _ :: _ :: .Assign _ (.Lambda _ _ _ p) _ :: _ => p
  | _ => default
theorem defPos_eq : defPos = ⟨194, 4, 197, 19⟩ := by kernel_rfl
theorem lamPos_eq : lamPos = ⟨198, 13, 198, 25⟩ := by kernel_rfl
noncomputable def lineScope : Scope := match theDef "_law_line" with
  | some (.FunctionDef _ _ _ _ _ _ sc _ _ _) => sc
  | _ => default
noncomputable abbrev sRd : Str := ⟨#[95, 108, 97, 119, 95, 114, 101, 97, 100, 95, 111, 110]⟩
noncomputable abbrev sStream : Str := ⟨#[115, 116, 114, 101, 97, 109]⟩
noncomputable abbrev sNetrc : Str := ⟨#[95, 110, 101, 116, 114, 99, 108, 101, 120]⟩
noncomputable abbrev sRead : Str := ⟨#[114, 101, 97, 100]⟩
noncomputable abbrev noParams : Arguments := { posonlyargs := [], args := [], vararg := none, kwonlyargs := [], kw_defaults := [], kwarg := none, defaults := [] }
noncomputable abbrev lamScope : Scope := { kind := .function, names := [], isGenerator := false, isCoroutine := false }
theorem lineScope_eq : lineScope = { kind := .function, names := [(sText, .cell), (sRd, .local), (sStream, .local), (sAt, .cell), (sNetrc, .globalImplicit)], isGenerator := false, isCoroutine := false } := by kernel_rfl
theorem line_shape : ∃ p1 p2 p3 p4 p5 p6 p7 p8 p9 p10 p11 p12 p13 p14 p15, lineBody =
    [.Assign [.Name sAt p1] (.List [.Constant (.int 0) 0 p2] p3) p4,
     .FunctionDef sRd rdParams rdBody [] none [] rdScope none sRd defPos,
     .Assign [.Name sStream p5] (.Lambda noParams (.Constant .none 0 p6) lamScope lamPos) p7,
     .Assign [.Attribute (.Name sStream p8) sRead p9] (.Name sRd p10) p11,
     .Return (some (.Call (.Name sNetrc p12) [.Name sStream p13] [] p14)) p15] := ⟨_, _, _, _, _, _, _, _, _, _, _, _, _, _, _, rfl⟩
noncomputable def tblZ (h : Heap) (a : Addr) (n : Nat) : Prop := ∃ ps, h.get? a = some (tabObj ps) ∧ (n = 0 → ps = #[]) ∧ (n = 1 → TriplesOk ps.toList ∧ codeAmong lamPos ps.toList = none)
structure LineOk (X : Cx) (F : Fn) (c P : Addr) (mg : Str → Option Value) : Prop where
  fn : X.S.fn X.S.line = some F
  body : F.body = lineBody
  sc : F.sc = lineScope
  ps : F.ps = [sText]
  kwn : F.kwn = none
  df : F.df = []
  code : ∀ o fd, X.hb.get? X.S.line = some o → o.data = .func fd → fd.code = .ref c
  hd : CodeHd X.hb c P
  ns : X.hb.Ns mainGlobals mg
  ne : mainGlobals ≠ P
  bm : X.hb.BuiltinsAt mg P
  tbl : ∀ h a n, X.Z.tbl h a n ↔ a = P ∧ tblZ h a n
  str : ∀ h fp x, X.Z.stream X.w h fp x ↔ streamZ h fp x
  gl : X.S.gl sNetrc = some (.val (.ref X.S.lexer))
  keep : X.S.keep X.S.lexer = true
end Mine
end

-- part M42
section
namespace Mine
open PySem PySem.W PyProof.Rows PySem.Calls PySem.Spec

section
variable {X : Cx} {d : Nat} {A : Around} {env : Env} {ρ : Rho} {s : Shared} {sc : Scope} {loc loc' loc₁ : Loc} {σ σ' σ₁ σ₂ σ₃ σ₄ : AS}
/-- one object's view: the rest of what is tracked is hidden -/
theorem SRel.one {Z : Shapes} {w : World} {hb h : Heap} (R : SRel Z w hb ρ σ h) {i : Nat} {P : Addr} {n : Nat} (ho : ρ.own[i]? = some [P]) (hi : σ[i]? = some (.tbl n)) :
    SRel Z w hb ⟨[[P]], ρ.flatten.filter fun a => decide (a ≠ P)⟩ [.tbl n] h := by
  have hm : ∀ a, a ∈ (⟨[[P]], ρ.flatten.filter fun a => decide (a ≠ P)⟩ : Rho).flatten → a ∈ ρ.flatten := fun a ha => by
    simp only [Rho.flatten, List.flatten_cons, List.flatten_nil, List.append_nil, List.cons_append, List.nil_append, List.mem_cons, List.mem_filter, decide_eq_true_eq] at ha
    rcases ha with rfl | ⟨h1, _⟩
    · exact mem_flatten_of ho (by simp)
    · exact h1
  refine ⟨R.base, rfl, fun j fp o e1 e2 => ?_, ?_, fun a ha => R.fresh a (hm a ha), fun a ha => R.there a (hm a ha)⟩
  · cases j with
    | zero => cases e1; cases e2; exact R.objs i _ _ ho hi
    | succ j => cases e2
  · show (P :: ρ.flatten.filter _).Nodup
    rw [List.nodup_cons]
    exact ⟨by simp, R.nd.filter _⟩
theorem own_len {ρ ρ' : Rho} {m : List (List Addr)} (e1 : ρ'.own = ρ.own ++ m) {k : Nat} (h1 : ρ.own.length = k) (h2 : ρ'.own.length = k + 1) : ∃ fp, m = [fp] := by
  rw [e1, List.length_append] at h2
  have : m.length = 1 := by omega
  exact List.length_eq_one_iff.mp this

/-- the caller's own objects, with the new stream, where all but the table stands as it stood -/
theorem SRel.stream {Z : Shapes} {w : World} {hb h h' : Heap} (R : SRel Z w hb ρ σ h) {P : Addr} {fp : List Addr} {n m : Nat} {x : List Nat} (ho : ρ.own[0]? = some [P]) (hi : σ[0]? = some (.tbl n)) {oP oP' : Obj} (hP : h.get? P = some oP) (hP' : h'.get? P = some oP') (hfr : oP.isFreed = false)
    (k : ∀ b o, b ≠ P → h.get? b = some o → h'.get? b = some o) (hn : ∀ a ∈ fp, h.get? a = none) (hnd : fp.Nodup) (ht : ∀ a ∈ fp, ∃ o, h'.get? a = some o)
    (hz : Z.tbl h' P m) (hs : ∀ g, (∀ a ∈ fp, ∀ o, h'.get? a = some o → g.get? a = some o) → Z.stream w g fp x) :
    SRel Z w hb (ρ.add fp) (σ.set 0 (.tbl m) ++ [.stream x]) h' ∧ Ext noF ρ (ρ.add fp) h h' := by
  have hPn : ∀ a ∈ fp, a ≠ P := fun a ha q => by rw [q] at ha; rw [hn P ha] at hP; cases hP
  generalize hg : h'.update P (fun _ => oP) = g
  have g1 : g.get? P = some oP := by rw [← hg]; exact Heap.get?_update_self _ hP' hfr
  have g2 : ∀ b, b ≠ P → g.get? b = h'.get? b := fun b hb' => by rw [← hg]; exact Heap.get?_update_other _ _ (Ne.symm hb')
  have kg : ∀ b o, h.get? b = some o → g.get? b = some o := fun b o e => by
    by_cases q : b = P
    · subst q; rw [hP] at e; cases e; exact g1
    · exact (g2 b q).trans (k b o q e)
  have tg : ∀ a ∈ fp, ∃ o, g.get? a = some o := fun a ha => let ⟨o, e⟩ := ht a ha; ⟨o, (g2 a (hPn a ha)).trans e⟩
  have R1 : SRel Z w hb (ρ.add fp) (σ ++ [.stream x]) g := R.add kg hn hnd tg (hs g fun a ha o e => (g2 a (hPn a ha)).trans e)
  have ho' : (ρ.add fp).own[0]? = some [P] := by
    show (ρ.own ++ [fp])[0]? = _
    rw [List.getElem?_append_left (List.getElem?_eq_some_iff.mp ho).1]; exact ho
  obtain ⟨R2, x2⟩ := R1.turn (h' := h') (o := .tbl m) ho' (fun b o hb' e => (g2 b (fun q => hb' (by simp [q]))).symm.trans e) (fun a ha => by rw [List.mem_singleton.mp ha]; exact ⟨_, hP'⟩) (fun _ => ⟨P, rfl, hz⟩)
  refine ⟨?_, (ext_add kg hn).trans x2⟩
  have e : (σ ++ [AO.stream x]).set 0 (.tbl m) = σ.set 0 (.tbl m) ++ [.stream x] := by
    cases σ with
    | nil => cases hi
    | cons a r => rfl
  rw [e] at R2; exact R2
end
end Mine
end

-- part M43
section
namespace Mine
open PySem PySem.W PyProof.Rows PySem.Calls PySem.Spec

theorem ne_gt {a b c : Addr} (h : a < c) (h' : c ≤ b) : b ≠ a := Nat.ne_of_gt (Nat.lt_of_lt_of_le h h')
section
variable {X : Cx} {d : Nat} {A : Around} {env : Env} {ρ : Rho} {s : Shared} {sc : Scope} {loc loc' loc₁ : Loc} {σ σ' σ₁ σ₂ σ₃ σ₄ : AS}
theorem c_line (G : Good X) {F : Fn} {c P : Addr} {mg : Str → Option Value} (LK : LineOk X F c P mg) {text : Str} {v : V} (hd : d < 25) (h0 : σ[0]? = some (.tbl 0)) (hlen : text.length ≤ 100000) (h : X.VCall (d + 1) (.val (.ref X.S.lexer)) [.own σ.length] [] (σ.set 0 (.tbl 2) ++ [.stream text.cps.toList]) v σ') :
    X.VCallC d X.S.line [.str text] [] σ v σ' := by
  intro A ρ s vs kvs Rz ok R ra ek rk kr
  have hown : ρ.own[0]? = some [P] ∧ tblZ s.heap P 0 := by
    have hl : 0 < ρ.own.length := by rw [R.len]; exact (List.getElem?_eq_some_iff.mp h0).1
    obtain ⟨a, e, q⟩ := R.objs 0 _ _ (List.getElem?_eq_getElem hl) h0
    obtain ⟨rfl, t⟩ := (LK.tbl _ _ _).mp q
    exact ⟨by rw [List.getElem?_eq_getElem hl, e], t⟩
  obtain ⟨hoP, _, hP0, hPe, _⟩ := hown
  have hPe := hPe rfl
  subst hPe
  have Rv := R.one hoP h0
  have hsub : ∀ a, a ∈ (⟨[[P]], ρ.flatten.filter fun a => decide (a ≠ P)⟩ : Rho).flatten → a ∈ ρ.flatten := fun a ha => by
    simp only [Rho.flatten, List.flatten_cons, List.flatten_nil, List.append_nil, List.cons_append, List.nil_append, List.mem_cons, List.mem_filter, decide_eq_true_eq] at ha
    rcases ha with rfl | ⟨h1, _⟩
    · exact mem_flatten_of hoP (by simp)
    · exact h1
  have hlb : bindP F.ps (if ([V.str text] ++ ([] : List (Str × V)).map (·.2)).length < F.ps.length then [V.str text] ++ ([] : List (Str × V)).map (·.2) ++ F.df else [V.str text] ++ ([] : List (Str × V)).map (·.2)) = some [(sText, .str text)] := by
    rw [LK.ps, LK.df]; rfl
  refine call_frame G LK.fn hd ok Rv hlb (by rw [LK.kwn]; rfl) (VsRel.flat ra rfl hsub) ek (VsRel.flat rk rfl hsub) fun env h' tk A' o fd FO hcode hqual hkeep fpn ok' R' L' E' => ?_
  rw [LK.code o fd FO.get FO.data] at hcode
  rw [LK.body]
  rw [LK.sc] at L'
  obtain ⟨p1, p2, p3, p4, p5, p6, p7, p8, p9, p10, p11, p12, p13, p14, p15, e⟩ := line_shape
  rw [e]
  clear e
  -- at = [0]
  have sAtK : sto lineScope [(sText, .str text)] sAt (.own 1) = some [(sText, .str text), (sAt, .own 1)] := by rw [lineScope_eq]; kernel_rfl
  have V1 : X.VExec (d + 1) lineScope [(sText, .str text)] (.Assign [.Name sAt p1] (.List [.Constant (.int 0) 0 p2] p3) p4) [.tbl 0] .next [(sText, .str text), (sAt, .own 1)] ([.tbl 0] ++ [.list [.at (.int 0)]]) :=
    x_AssignName rfl (v_ListT (xs := [.int 0]) (l := [.at (.int 0)]) (v_evals_cons rfl (v_Constant rfl) v_evals_nil) rfl (by decide)) sAtK
  refine wpAny_execs_cons (V1 A' env _ { s with heap := h', toks := tk } _ _ ok' R' L' fun ρ₁ h₁ tk₁ g x₁ R₁ L₁ r₁ => ?_)
  cases r₁
  dsimp only
  refine Classical.byContradiction fun NC => ?_
  obtain ⟨m, pp, e1, e2, em⟩ := x₁.more
  obtain ⟨fpl, rfl⟩ := own_len e1 (k := 1) rfl (by rw [R₁.len]; rfl)
  have ho0 : ρ₁.own[0]? = some [P] := by rw [e1]; rfl
  have ho1 : ρ₁.own[1]? = some fpl := by rw [e1]; rfl
  obtain ⟨l, us, rfl, hl1, hl2⟩ := R₁.objs 1 _ _ ho1 rfl
  cases hl2 with | cons ra0 rb0 => cases rb0 with | nil =>
  obtain ⟨tl, rfl⟩ := ra0
  have hflat : ρ₁.own.flatten = [P, l] := by rw [e1]; rfl
  have hP1 : h₁.get? P = some (tabObj #[]) := by
    obtain ⟨a, e, q⟩ := R₁.objs 0 _ _ ho0 rfl
    cases e
    obtain ⟨_, ps, q1, q2, _⟩ := (LK.tbl _ _ _).mp q
    rw [q1, q2 rfl]
  have hln : s.heap.get? l = none := by
    have := (em l (by simp)).1
    cases q : s.heap.get? l with
    | none => rfl
    | some o => rw [hkeep _ _ q] at this; cases this
  have nFP : ∀ b o, s.heap.get? b = some o → ¬ FP env b := fun b o e q => by rw [fpn b q] at e; cases e
  have K1 : ∀ b o, b ≠ P → s.heap.get? b = some o → h₁.get? b = some o := fun b o hb e => x₁.kept b o (by simp [hb]) (nFP b o e) (hkeep b o e)
  -- the def
  obtain ⟨ct, u1, hct, hctc, hctv⟩ := L₁.cells sText (.inl (by rw [lineScope_eq]; kernel_rfl))
  obtain ⟨u1', rfl, tx, rfl⟩ := hctv (.str text) (by kernel_rfl)
  obtain ⟨ca, u2, hca, hcac, hcav⟩ := L₁.cells sAt (.inl (by rw [lineScope_eq]; kernel_rfl))
  obtain ⟨u2', rfl, a2, rr, e3, rfl⟩ := hcav (.own 1) (by kernel_rfl)
  rw [ho1] at e3
  cases e3
  have hclos : closureFor rdScope env = pure [(sText, ct), (sAt, ca)] := by
    rw [rdScope_eq]
    unfold closureFor
    dsimp only
    have c1 : cellOf env sAt = pure ca := by unfold cellOf; rw [hca]
    have c2 : cellOf env sText = pure ct := by unfold cellOf; rw [hct]
    simp only [List.forIn_cons, List.forIn_nil, c1, c2]
    rfl
  refine NC (wpAny_execs_cons (nestDef_K (by obtain ⟨q, e⟩ := rdParams_eq; rw [e]) (by obtain ⟨q, e⟩ := rdParams_eq; rw [e]) (by obtain ⟨q, e⟩ := rdParams_eq; rw [e]; kernel_rfl) ?_))
  clear NC
  refine makeFunction_K (s := { s with heap := h₁, toks := tk₁ }) (mg := mg) hclos L₁.gl (LK.ns.keeps R₁.base) hcode (LK.hd.keeps R₁.base) hP1 trivial rfl LK.ne (LK.bm.keeps R₁.base) fun cd ctv doc h₂ tk₂ hx₂ hge₂ hlt₂ hrec₂ htb₂ => ?_
  replace hge₂ : h₁.objs.size ≤ cd := hge₂
  generalize hfo : fnMade sRd (qualnameIn env sRd sRd) rdParams rdBody rdScope [(sText, ct), (sAt, ca)] doc ((mg "__name__").getD .none) cd ctv = fo
  have k23 : ∀ b o, h₂.get? b = some o → (h₂.push fo).get? b = some o := push_keeps
  have hfr3 : (h₂.push fo).get? h₂.objs.size = some fo := Heap.get?_push_size _ (by rw [← hfo]; rfl)
  have hP3 : (h₂.push fo).get? P = some (tabObj (#[] ++ #[rawInt defPos.line, rawInt defPos.col, .ref cd])) := k23 _ _ htb₂
  have live1 : ∀ b o, h₁.get? b = some o → b < h₁.objs.size := fun b o e => Heap.lt_size e
  have hlt12 : h₁.objs.size < h₂.objs.size := Nat.lt_of_le_of_lt hge₂ hlt₂
  have k13 : ∀ b o, b ≠ P → h₁.get? b = some o → (h₂.push fo).get? b = some o := fun b o hb e => k23 b o (hx₂ b o hb e)
  have z3 : tblZ (h₂.push fo) P 1 := ⟨_, hP3, fun q => absurd q (by decide), fun _ => ⟨trivial, by rw [defPos_eq, lamPos_eq]; rfl⟩⟩
  obtain ⟨R₃, x₃⟩ := R₁.turn (h' := h₂.push fo) (o := .tbl 1) ho0 (fun b o hb e => k13 b o (fun q => hb (by simp [q])) e) (fun b hb => by rw [List.mem_singleton.mp hb]; exact ⟨_, hP3⟩) (fun _ => ⟨P, rfl, (LK.tbl _ _ _).mpr ⟨rfl, z3⟩⟩)
  have L₃ := L₁.ext x₃
  have sRdK : sto lineScope [(sText, .str text), (sAt, .own 1)] sRd (.val (.ref h₂.objs.size)) = some [(sText, .str text), (sAt, .own 1), (sRd, .val (.ref h₂.objs.size))] := by rw [lineScope_eq]; kernel_rfl
  refine sto_sound (s := { s with heap := h₂.push fo, toks := tk₂ }) sRdK R₃ L₃ rfl fun h₄ tk₄ x₄ R₄ L₄ => ?_
  dsimp only
  refine Classical.byContradiction fun NC => ?_
  have fp1 : ∀ b, FP env b → b < h₁.objs.size := fun b q => by obtain ⟨o, e⟩ := ERel.live (s := { s with heap := h₁ }) L₁ b q; exact live1 b o e
  have notOwn : ∀ b, h₁.objs.size ≤ b → b ∉ ρ₁.own.flatten := fun b hb q => by
    obtain ⟨o, e⟩ := R₁.there b (Rho.mem_own q)
    exact absurd (live1 b o e) (Nat.not_lt.mpr hb)
  have notFP : ∀ b, h₁.objs.size ≤ b → ¬ FP env b := fun b hb q => absurd (fp1 b q) (Nat.not_lt.mpr hb)
  have new4 : ∀ b o, h₁.objs.size ≤ b → (h₂.push fo).get? b = some o → h₄.get? b = some o := fun b o hb e => x₄.kept b o (notOwn b hb) (notFP b hb) e
  have old4 : ∀ b o, b ≠ P → b ≠ l → ¬ FP env b → h₁.get? b = some o → h₄.get? b = some o := fun b o n1 n2 n3 e => x₄.kept b o (by rw [hflat]; simp [n1, n2]) n3 (k13 b o n1 e)
  have hfr4 : h₄.get? h₂.objs.size = some fo := new4 _ _ (by omega) hfr3
  obtain ⟨cdo, cvs, ctt, hcd4, hcdd, hcdv⟩ : ∃ o vs t, h₄.get? cd = some o ∧ o.data = .fields vs ∧ vs[1]? = some (.str (qualnameIn env sRd sRd) t) := by
    obtain ⟨c2, o, vs, t, e, q1, q2, q3⟩ := hrec₂
    cases e
    exact ⟨o, vs, t, new4 _ _ hge₂ (k23 _ _ q1), q2, q3⟩
  have hP4 : ∃ ps, h₄.get? P = some (tabObj ps) ∧ TriplesOk ps.toList ∧ codeAmong lamPos ps.toList = none := by
    obtain ⟨a, e, q⟩ := R₄.objs 0 _ _ ho0 rfl
    cases e
    obtain ⟨_, ps, q1, _, q2⟩ := (LK.tbl _ _ _).mp q
    exact ⟨ps, q1, (q2 rfl).1, (q2 rfl).2⟩
  obtain ⟨ps, hP4, hT4, hA4⟩ := hP4
  -- the lambda
  refine NC (wpAny_execs_cons (wpAny_Assign_Name (kla_eval (by rfl) ?_) (by rfl)))
  clear NC
  refine kla_makeFunction (s := { s with heap := h₄, toks := tk₄ }) (mg := mg) (clos := []) (by rfl) L₄.gl (LK.ns.keeps R₄.base) hcode (LK.hd.keeps R₄.base) hP4 hT4 hA4 LK.ne (LK.bm.keeps R₄.base) fun cd' ctv' h₅ tk₅ hx₅ hge₅ hlt₅ hrec₅ htb₅ => ?_
  replace hge₅ : h₄.objs.size ≤ cd' := hge₅
  generalize hlo : kla_obj "<lambda>" (env.qual ++ "<lambda>") noParams (.Constant .none 0 p6) lamScope [] ((mg "__name__").getD .none) cd' ctv' = lo
  have hlfd : ∃ lfd, lo = { cls := .type "function", data := .func lfd } := ⟨_, hlo.symm⟩
  obtain ⟨lfd, rfl⟩ := hlfd
  clear hlo
  have k56 : ∀ b o, h₅.get? b = some o → (h₅.push { cls := .type "function", data := .func lfd }).get? b = some o := push_keeps
  have hf6 : (h₅.push { cls := .type "function", data := .func lfd }).get? h₅.objs.size = some { cls := .type "function", data := .func lfd } := Heap.get?_push_size _ rfl
  generalize hg6 : h₅.push { cls := .type "function", data := .func lfd } = h₆ at k56 hf6 ⊢
  generalize hfa : h₅.objs.size = f at hf6 hlt₅ ⊢
  have k46 : ∀ b o, b ≠ P → h₄.get? b = some o → h₆.get? b = some o := fun b o hb e => k56 b o (hx₅ b o hb e)
  have z6 : tblZ h₆ P 2 := ⟨_, k56 _ _ htb₅, fun q => absurd q (by decide), fun q => absurd q (by decide)⟩
  obtain ⟨R₆, x₆⟩ := R₄.turn (h' := h₆) (o := .tbl 2) ho0 (fun b o hb e => k46 b o (fun q => hb (by simp [q])) e) (fun b hb => by rw [List.mem_singleton.mp hb]; exact ⟨_, k56 _ _ htb₅⟩) (fun _ => ⟨P, rfl, (LK.tbl _ _ _).mpr ⟨rfl, z6⟩⟩)
  have L₆ := L₄.ext x₆
  have hf4 : h₄.objs.size ≤ f := by omega
  have sStK : sto lineScope [(sText, .str text), (sAt, .own 1), (sRd, .val (.ref h₂.objs.size))] sStream (.val (.ref f)) = some [(sText, .str text), (sAt, .own 1), (sRd, .val (.ref h₂.objs.size)), (sStream, .val (.ref f))] := by rw [lineScope_eq]; kernel_rfl
  refine sto_sound (s := { s with heap := h₆, toks := tk₅ }) sStK R₆ L₆ rfl fun h₇ tk₇ x₇ R₇ L₇ => ?_
  dsimp only
  have size14 : h₁.objs.size ≤ f := by
    have hz : h₂.objs.size < h₄.objs.size := Heap.lt_size hfr4
    omega
  have new7 : ∀ b o, h₁.objs.size ≤ b → h₆.get? b = some o → h₇.get? b = some o := fun b o hb e => x₇.kept b o (notOwn b hb) (notFP b hb) e
  have hf7 := new7 _ _ size14 hf6
  -- stream.read = _law_read_on
  refine wpAny_execs_cons (plainObj_wpAny_Assign_Attribute (wpAny_Name (load_loc (loc := [(sText, .str text), (sAt, .own 1), (sRd, .val (.ref h₂.objs.size)), (sStream, .val (.ref f))]) (a := .val (.ref h₂.objs.size)) (by kernel_rfl) L₇ fun u ru => ?_) (by decide +kernel)) (by rfl))
  cases ru
  refine wpAny_Name (load_loc (loc := [(sText, .str text), (sAt, .own 1), (sRd, .val (.ref h₂.objs.size)), (sStream, .val (.ref f))]) (a := .val (.ref f)) (by kernel_rfl) L₇ fun u ru => ?_) (by decide +kernel)
  cases ru
  refine setAttr_fn (s := { s with heap := h₇, toks := tk₇ }) hf7 fun h₈ tk₈ dd hh td n k78 hdn hf8 hdd8 => ?_
  dsimp only at k78 hdn
  have offOwn : ∀ b, h₁.objs.size ≤ b → b ∉ ρ₁.own.flatten := notOwn
  have fOff : f ∉ ρ₁.flatten := fun q => by
    obtain ⟨o, e⟩ := R₁.there f q
    exact absurd (live1 f o e) (Nat.not_lt.mpr size14)
  have fHb : X.hb.get? f = none := by
    cases q : X.hb.get? f with
    | none => rfl
    | some o => exact absurd (live1 f o (R₁.base f o q)) (Nat.not_lt.mpr size14)
  have x₈ : Ext (fun b => b = f) ρ₁ ρ₁ h₇ h₈ := ⟨⟨[], [], by simp, rfl, by simp⟩, fun b o _ nb e => k78 b o nb e, fun b o nb e => ⟨o, k78 b o nb e⟩⟩
  have nf8 : NoSeq (fun b => b = f) ρ₁ h₇ := fun b o q _ e xs n hq => by
    subst q; rw [hf7] at e; cases e; cases hq
  have R₈ : X.SR ρ₁ [.tbl 2, .list [.at (.int 0)]] h₈ := R₇.keep x₈ nf8 (fun b q => by subst q; exact fHb) (fun a ha o e => k78 a o (fun q => fOff (Rho.mem_own (q ▸ ha))) e) (fun a ha => by
    obtain ⟨o, e⟩ := R₇.there a (List.mem_append_right _ ha)
    exact ⟨o, k78 a o (fun q => fOff (by rw [← q]; exact List.mem_append_right _ ha)) e⟩)
  have L₈ := L₇.ext' x₈ nf8 fun b q hq => notFP f size14 (hq ▸ q)
  -- the call
  refine wpAny_execs_cons (wpAny_Return_some ?_)
  have vN : X.VEval (d + 1) lineScope [(sText, .str text), (sAt, .own 1), (sRd, .val (.ref h₂.objs.size)), (sStream, .val (.ref f))] (.Name sNetrc p12) [.tbl 2, .list [.at (.int 0)]] (.val (.ref X.S.lexer)) [.tbl 2, .list [.at (.int 0)]] := v_Name_gl G.glb (by decide +kernel) (by rw [lineScope_eq]; kernel_rfl) LK.gl
  refine callName (s := { s with heap := h₈, toks := tk₈ }) (f := .val (.ref X.S.lexer)) G LK.keep rfl vN (v_evals_cons rfl (v_Name_loc (a := .val (.ref f)) (by decide +kernel) (by kernel_rfl)) v_evals_nil) ok' R₈ L₈ fun ρ₉ h₉ tk₉ u us x₉ R₉ L₉ ru rus => ?_
  cases ru
  cases rus with | cons ra9 rb9 => cases rb9 with | nil =>
  cases ra9
  refine Classical.byContradiction fun NC => ?_
  obtain ⟨m9, pp9, e9, _, _⟩ := x₉.more
  have ho9 : ρ₉.own[0]? = some [P] ∧ ρ₉.own[1]? = some [l] := by rw [e9, e1]; exact ⟨rfl, rfl⟩
  have P1 : P < h₁.objs.size := live1 _ _ hP1
  have l1 : l < h₁.objs.size := by obtain ⟨o, e⟩ := R₁.there l (mem_flatten_of ho1 (by simp)); exact live1 _ _ e
  have k89 : ∀ b o, b ≠ P → b ≠ l → h₈.get? b = some o → h₉.get? b = some o := fun b o n1 n2 e => x₉.kept b o (by rw [hflat]; simp [n1, n2]) id e
  have up9 : ∀ b o, h₁.objs.size ≤ b → h₈.get? b = some o → h₉.get? b = some o := fun b o hb e => k89 b o (ne_gt P1 hb) (ne_gt l1 hb) e
  have fr4 : h₂.objs.size < h₄.objs.size := Heap.lt_size hfr4
  have cd4 : cd < h₄.objs.size := Heap.lt_size hcd4
  have k49 : ∀ b o, h₁.objs.size ≤ b → b < h₄.objs.size → h₄.get? b = some o → h₉.get? b = some o := fun b o hb hb' e => up9 b o hb (k78 b o (fun q => absurd hf4 (Nat.not_le.mpr (q ▸ hb'))) (new7 b o hb (k46 b o (ne_gt P1 hb) e)))
  have S9 : StreamAt h₉ f dd h₂.objs.size cd ct ca l text 0 := by
    obtain ⟨c1, u1, f1, f2, f3⟩ := L₉.cells sText (.inl (by rw [lineScope_eq]; kernel_rfl))
    rw [hct] at f1; cases f1
    obtain ⟨u1', rfl, tx', rfl⟩ := f3 (.str text) (by kernel_rfl)
    obtain ⟨c2, u2, g1, g2, g3⟩ := L₉.cells sAt (.inl (by rw [lineScope_eq]; kernel_rfl))
    rw [hca] at g1; cases g1
    obtain ⟨u2', rfl, a3, rr3, g4, rfl⟩ := g3 (.own 1) (by kernel_rfl)
    rw [ho9.2] at g4; cases g4
    obtain ⟨l', vs', q1, q2, q3⟩ := R₉.objs 1 _ _ ho9.2 rfl
    cases q1
    cases q3 with | cons ra rb => cases rb with | nil =>
    obtain ⟨t3, rfl⟩ := ra
    refine ⟨⟨lfd, up9 _ _ size14 hf8⟩, ⟨hh, td, n, k89 _ _ (fun q => ?_) (fun q => ?_) hdd8⟩, ⟨_, _, doc, _, ctv, (k49 _ _ (Nat.le_of_lt hlt12) fr4 hfr4).trans (by rw [← hfo]), cd, cdo, cvs, ctt, rfl, k49 _ _ hge₂ cd4 hcd4, hcdd, hcdv⟩, ⟨tx', f2⟩, g2, ⟨t3, q2⟩⟩
    · obtain ⟨o, e⟩ := R₇.there P (mem_flatten_of ho0 (by simp)); rw [← q, hdn] at e; cases e
    · obtain ⟨o, e⟩ := R₇.there l (mem_flatten_of ho1 (by simp)); rw [← q, hdn] at e; cases e
  have K7 : ∀ b o, b ≠ P → s.heap.get? b = some o → h₇.get? b = some o := fun b o hb e => by
    have hbl : b ≠ l := fun q => by rw [q, hln] at e; cases e
    exact x₇.kept b o (by rw [hflat]; simp [hb, hbl]) (nFP b o e) (k46 b o hb (old4 b o hb hbl (nFP b o e) (K1 b o hb e)))
  have noS : ∀ b, h₁.objs.size ≤ b → s.heap.get? b = none := fun b hb => by
    cases q : s.heap.get? b with
    | none => rfl
    | some o => exact absurd (live1 b o (K1 b o (ne_gt P1 hb) q)) (Nat.not_lt.mpr hb)
  have K9 : ∀ b o, b ≠ P → s.heap.get? b = some o → h₉.get? b = some o := fun b o hb e => k89 b o hb (fun q => by rw [q, hln] at e; cases e) (k78 b o (fun q => by rw [q, noS f size14] at e; cases e) (K7 b o hb e))
  have ddS : s.heap.get? dd = none := by
    cases q : s.heap.get? dd with
    | none => rfl
    | some o =>
      have : dd ≠ P := fun z => by obtain ⟨o, e⟩ := R₇.there P (mem_flatten_of ho0 (by simp)); rw [← z, hdn] at e; cases e
      rw [K7 dd o this q] at hdn; cases hdn
  have fpt : FP env ct ∧ FP env ca := ⟨.inr ⟨_, hct⟩, .inr ⟨_, hca⟩⟩
  have ct1 := fp1 ct fpt.1
  have ca1 := fp1 ca fpt.2
  have lm : l ∈ ρ₁.flatten := mem_flatten_of ho1 (by simp)
  have ctca : ct ≠ ca := fun q => absurd (L₁.inj sText sAt ct hct (q ▸ hca)) (by decide)
  have ctl : ct ≠ l := fun q => (L₁.fpC _ _ hct).1 (q ▸ lm)
  have cal : ca ≠ l := fun q => (L₁.fpC _ _ hca).1 (q ▸ lm)
  have in7 : ∀ b, (∃ o, h₇.get? b = some o) → dd ≠ b := fun b ⟨o, e⟩ q => by rw [← q, hdn] at e; cases e
  have fr7 := in7 _ ⟨_, new7 _ _ (Nat.le_of_lt hlt12) (k46 _ _ (ne_gt P1 (Nat.le_of_lt hlt12)) hfr4)⟩
  have cd7 := in7 _ ⟨_, new7 _ _ hge₂ (k46 _ _ (ne_gt P1 hge₂) hcd4)⟩
  have f7 := in7 _ ⟨_, hf7⟩
  have ct7 := in7 ct (let ⟨_, _, _, u, o, e, _⟩ := L₇.fpC _ _ hct; ⟨o, e⟩)
  have ca7 := in7 ca (let ⟨_, _, _, u, o, e, _⟩ := L₇.fpC _ _ hca; ⟨o, e⟩)
  have l7 := in7 l (R₇.there l lm)
  have hnd : [f, dd, h₂.objs.size, cd, ct, ca, l].Nodup := by
    simp only [List.nodup_cons, List.mem_cons, List.not_mem_nil, or_false, not_or, List.nodup_nil, not_false_eq_true, and_true]
    have h12 := Nat.le_of_lt hlt12
    exact ⟨⟨Ne.symm f7, ne_gt fr4 hf4, ne_gt cd4 hf4, ne_gt ct1 size14, ne_gt ca1 size14, ne_gt l1 size14⟩, ⟨fr7, cd7, ct7, ca7, l7⟩, ⟨Nat.ne_of_gt hlt₂, ne_gt ct1 h12, ne_gt ca1 h12, ne_gt l1 h12⟩, ⟨ne_gt ct1 hge₂, ne_gt ca1 hge₂, ne_gt l1 hge₂⟩, ⟨ctca, ctl⟩, cal⟩
  obtain ⟨aP, eP, qP⟩ := R₉.objs 0 _ _ ho9.1 rfl
  cases eP
  have zP := (LK.tbl _ _ _).mp qP
  obtain ⟨_, psP, hP9, _⟩ := id zP
  obtain ⟨Rf, xf⟩ := R.stream (h' := h₉) (fp := [f, dd, h₂.objs.size, cd, ct, ca, l]) (m := 2) (x := text.cps.toList) hoP h0 hP0 hP9 rfl K9 (all7 (noS _ size14) ddS (noS _ (Nat.le_of_lt hlt12)) (noS _ hge₂) (fpn _ fpt.1) (fpn _ fpt.2) hln) hnd S9.live qP (fun g kg => (LK.str _ _ _).mpr ⟨_, _, _, _, _, _, _, text, 0, rfl, rfl, Nat.zero_le _, hlen, S9.keep kg⟩)
  have hof : (ρ.add [f, dd, h₂.objs.size, cd, ct, ca, l]).own[σ.length]? = some [f, dd, h₂.objs.size, cd, ct, ca, l] := by
    have e : ρ.own.length = σ.length := R.len
    rw [← e]; simp [Rho.add]
  refine NC (h A' (ρ.add [f, dd, h₂.objs.size, cd, ct, ca, l]) { s with heap := h₉, toks := tk₉ } (.ref X.S.lexer) [.ref f] [] _ _ ok' Rf rfl (.cons ⟨f, _, hof, rfl⟩ .nil) rfl .nil fun ρ' h'' tk' u x' R'' r => ?_)
  exact kr ρ' h'' tk' u (xf.trans x') R'' r
end
end Mine
end

-- part M44
section
namespace Mine
open PySem PySem.W PyProof.Rows PySem.Calls PySem.Spec

theorem slot_ci_next : PySem.Slot "callable_iterator" "__next__" "callable_iterator.__next__" :=
  .of (owner := "callable_iterator") (n := "__next__") (by rw [typeLookup_type, builtinLookup_eq_fast]; kernel_rfl) (by decide +kernel) (by decide +kernel) (by decide +kernel)
    (by first | exact .inl (by decide +kernel) | exact .inr (by decide +kernel)) (by rw [isSubtype_type]; kernel_rfl)
theorem slot_ci_iter : PySem.Slot "callable_iterator" "__iter__" "callable_iterator.__iter__" :=
  .of (owner := "callable_iterator") (n := "__iter__") (by rw [typeLookup_type, builtinLookup_eq_fast]; kernel_rfl) (by decide +kernel) (by decide +kernel) (by decide +kernel)
    (by first | exact .inl (by decide +kernel) | exact .inr (by decide +kernel)) (by rw [isSubtype_type]; kernel_rfl)
theorem entry_ci_next : entryFor table "callable_iterator.__next__" = some Builtin.«callable_iterator.__next__» := entryFor_of_tree (by kernel_rfl)
theorem args_ci_next (a : Value) : argsOk "callable_iterator.__next__" ⟨[a], []⟩ := by kernel_rfl
theorem args_ci_iter (a : Value) : argsOk "callable_iterator.__iter__" ⟨[a], []⟩ := by kernel_rfl
theorem entry_ci_iter : entryFor table "callable_iterator.__iter__" = some Builtin.«dict_keyiterator.__iter__» := entryFor_alias (id' := "dict_keyiterator.__iter__") (by kernel_rfl) (by decide +kernel) (by decide +kernel) (by kernel_rfl)
theorem kind_iter : builtinKind "iter" = none := by decide +kernel
theorem plain_iter : plainId "iter" = true := by decide +kernel
theorem entry_iter : entryFor table "iter" = some Builtin.«iter» := entryFor_of_tree (by kernel_rfl)
theorem args_iter (a b : Value) : argsOk "iter" ⟨[a, b], []⟩ := by kernel_rfl
theorem slot_method_call : PySem.Slot "method" "__call__" "method.__call__" :=
  .of (owner := "method") (n := "__call__") (by rw [typeLookup_type, builtinLookup_eq_fast]; kernel_rfl) (by decide +kernel) (by decide +kernel) (by decide +kernel)
    (by first | exact .inl (by decide +kernel) | exact .inr (by decide +kernel)) (by rw [isSubtype_type]; kernel_rfl)
noncomputable def citObj (live : Bool) (q : Addr) (t : Tok) : Obj := { cls := .type "callable_iterator", data := .fields (if live then #[.ref q, .str ⟨#[]⟩ t, .bool false] else #[.none, .none, .bool true]) }
noncomputable def citerZ (rd : Addr) (h : Heap) (fp : List Addr) (a : Addr) (live : Bool) : Prop := ∃ I q t, fp = [I, q] ∧ h.get? q = some (methodObj (.ref rd) (.ref a)) ∧ h.get? I = some (citObj live q t)
theorem citObj_data (live : Bool) (q : Addr) (t : Tok) : (citObj live q t).data = .fields (if live then #[.ref q, .str ⟨#[]⟩ t, .bool false] else #[.none, .none, .bool true]) := rfl
section
variable {prog : Program} {w : World} {A : Around} {E : Value → Shared → Prop} {s : Shared}
theorem borrows_method {q rd a : Addr} {o : Obj} {fd : FuncData} {Q : Bool → Shared → Prop} (hq : s.heap.get? q = some (methodObj (.ref rd) (.ref a))) (ho : s.heap.get? rd = some o) (hd : o.data = .func fd) (h : Q true s) : wpAny (model prog w) A (borrowsExactly (.ref q)) Q E s := by
  unfold borrowsExactly
  refine wpAny_bind (wpAny_load hq ?_)
  show wpAny _ _ (if (Value.type "method" == Value.type "method") = true then _ else _) _ _ _
  rw [if_pos (by decide)]
  show wpAny _ _ (load rd >>= _) _ _ _
  refine wpAny_bind (wpAny_load ho ?_)
  rw [hd]
  exact wpAny_pure h
theorem stop_next {α : Type} {Q' : α → Shared → Prop} {Q : Option Value → Shared → Prop} (hh : A.handled = none) (hq : ∀ h' tk, (∀ b o, s.heap.get? b = some o → h'.get? b = some o) → Q none { s with heap := h', toks := tk }) :
    wpAny (model prog w) A.in1 (Builtin.SmallTypes.stopIteration : Sem α) Q' (fun e s' => wpAny (model prog w) A (do if ← isInstance e (.type "StopIteration") then pure none else throw e) Q E s') s := by
  unfold Builtin.SmallTypes.stopIteration
  refine wpAny_bind ?_
  simp only [newExc, newTuple]
  refine wpAny_bind (wpAny_newObj_type ?_ (by size_fits))
  refine wpAny_bind (m := firstArgMember _ _) (wpAny_of_eq (a := Value.none) (by first | rfl | (simp only [firstArgMember]; rfl)) ?_)
  refine wpAny_newObj_type ?_ (by size_fits)
  simp only [raiseNew]
  refine wpAny_bind (wpAny_handled ?_)
  rw [show A.in1.handled = none from hh]
  refine wpAny_bind (wpAny_pure (wpAny_throw ?_))
  refine wpAny_bind (wpAny_isInstance (T := "StopIteration") (b := true) ⟨_, Heap.get?_push_size _ rfl, rfl⟩ isSubtype_stop ?_)
  exact wpAny_pure (hq _ _ fun b o e => Heap.get?_push_of_some _ (Heap.get?_push_of_some _ e))
end
end Mine
end

-- part M45
section
namespace Mine
open PySem PySem.W PyProof.Rows PySem.Calls PySem.Spec

theorem borrowed_eq (f : Value) (pos : List Value) : callBorrowed f pos = (call f pos []).keep [borrowed] := by
  show Sem.call _ none false [borrowed] _ = Sem.call _ none false ([borrowed] ++ []) _
  congr 1
  funext x
  rcases x with e | f
  · rfl
  · cases f <;> rfl
section
variable {prog : Program} {w : World} {A : Around} {E : Value → Shared → Prop} {s : Shared}
theorem ci_iter {I q : Addr} {t : Tok} {live : Bool} {Q : Value → Shared → Prop} (hI : s.heap.get? I = some (citObj live q t)) (h : Q (.ref I) s) : wpAny (model prog w) A (pyIter (.ref I)) Q E s := by
  have hT : s.TypeIs (.ref I) "callable_iterator" := ⟨_, hI, rfl⟩
  refine wpAny_pyIter_slot hT slot_ci_iter (wpAny_call_entry slot_ci_iter hT entry_ci_iter ?_ (args_ci_iter _))
  show wpAny _ _ (ret (.ref I)) _ _ s
  exact wpAny_pure ⟨_, rfl, "callable_iterator", _, hT, slot_ci_next.lookup, h⟩
theorem ci_done {I q : Addr} {t : Tok} {Q : Option Value → Shared → Prop} (hh : A.handled = none) (hI : s.heap.get? I = some (citObj false q t)) (hq : ∀ h' tk, (∀ b o, s.heap.get? b = some o → h'.get? b = some o) → Q none { s with heap := h', toks := tk }) : wpAny (model prog w) A (pyNext (.ref I)) Q E s := by
  have hT : s.TypeIs (.ref I) "callable_iterator" := ⟨_, hI, rfl⟩
  unfold pyNext
  refine wpAny_bind (wpAny_attempt (wpAny_callSpecial?_slot (name := Str.ofString "__next__") hT slot_ci_next (wpAny_call_entry slot_ci_next hT entry_ci_next ?_ (args_ci_next _))))
  show wpAny _ _ (field (.ref I) 2 >>= _) _ _ s
  refine wpAny_bind (wpAny_field hI (citObj_data ..) (x := .bool true) rfl ?_)
  rw [if_pos (by decide)]
  exact wpAny_bind (wpAny_rule (wpAny_bind (stop_next (E := E) hh hq)))
theorem ci_next {I q rd a : Addr} {t : Tok} {o : Obj} {fd : FuncData} {Q : Option Value → Shared → Prop} (hh : A.handled = none) (hI : s.heap.get? I = some (citObj true q t)) (hq : s.heap.get? q = some (methodObj (.ref rd) (.ref a))) (ho : s.heap.get? rd = some o) (hd : o.data = .func fd)
    (h : ∀ R : Result → Shared → Prop, (∀ x t' t₂ h' tk, h'.get? I = some (citObj true q t₂) → h'.get? q = some (methodObj (.ref rd) (.ref a)) → h'.get? rd = some o →
        (x ≠ ⟨#[]⟩ → Q (some (.str x t')) { s with heap := h', toks := tk }) →
        (x = ⟨#[]⟩ → ∀ h'' tk', (∀ b o, b ≠ I → h'.get? b = some o → h''.get? b = some o) → h''.get? I = some (citObj false q t₂) → Q none { s with heap := h'', toks := tk' }) → R (.ok (.ret (.str x t'))) { s with heap := h', toks := tk }) →
      codeAny (model prog w) A.in1 (.call (.ref rd) ⟨[.ref a], []⟩) R s) : wpAny (model prog w) A (pyNext (.ref I)) Q E s := by
  have hT : s.TypeIs (.ref I) "callable_iterator" := ⟨_, hI, rfl⟩
  unfold pyNext
  refine wpAny_bind (wpAny_attempt (wpAny_callSpecial?_slot (name := Str.ofString "__next__") hT slot_ci_next (wpAny_call_entry slot_ci_next hT entry_ci_next ?_ (args_ci_next _))))
  show wpAny _ _ (field (.ref I) 2 >>= _) _ _ s
  refine wpAny_bind (wpAny_field hI (citObj_data ..) (x := .bool false) rfl ?_)
  rw [if_neg (by decide)]
  refine wpAny_bind (wpAny_field hI (citObj_data ..) (x := .ref q) rfl ?_)
  refine wpAny_bind (wpAny_attempt ?_)
  unfold callOutOfASlot
  refine wpAny_bind (borrows_method hq ho hd ?_)
  rw [if_pos rfl]
  rw [borrowed_eq]
  refine wpAny_keep (wpAny_call (method_call hq (h _ fun x t' t₂ h' tk hI' hq' ho' k1 k2 => ?_)))
  dsimp only
  refine wpAny_bind (wpAny_field (s := { s with heap := h', toks := tk }) hI' (citObj_data ..) (x := .bool false) rfl ?_)
  rw [if_neg (by decide)]
  refine wpAny_bind (wpAny_field (s := { s with heap := h', toks := tk }) hI' (citObj_data ..) (x := .str ⟨#[]⟩ t₂) rfl ?_)
  refine wpAny_bind (wpAny_holding (wpAny_eqBool_str ?_))
  by_cases hx : x = ⟨#[]⟩
  · subst hx
    rw [if_neg (by simp)]
    refine wpAny_bind (wpAny_rule (wpAny_bind ?_))
    k_delta "callableEnd"
    refine wpAny_bind (wpAny_field (s := { s with heap := h', toks := tk }) hI' (citObj_data ..) (x := .ref q) rfl ?_)
    unfold slotLetsGo
    refine wpAny_bind (wpAny_bind (borrows_method (s := { s with heap := h', toks := tk }) hq' ho' hd ?_))
    rw [if_pos rfl]
    refine wpAny_pure ?_
    refine wpAny_bind (wpAny_setField (s := { s with heap := h', toks := tk }) hI' (citObj_data ..) (Nat.le_of_ble_eq_true rfl) ?_)
    have g1 : (h'.update I (Obj.mapFields (·.setIfInBounds 0 .none))).get? I = some { cls := .type "callable_iterator", data := .fields #[.none, .str ⟨#[]⟩ t₂, .bool false] } := Heap.get?_update_self _ hI' (by rfl)
    have o1 : ∀ b, b ≠ I → (h'.update I (Obj.mapFields (·.setIfInBounds 0 .none))).get? b = h'.get? b := fun b hb => Heap.get?_update_other _ _ (Ne.symm hb)
    generalize h'.update I (Obj.mapFields (·.setIfInBounds 0 .none)) = e1 at g1 o1 ⊢
    refine wpAny_bind (wpAny_setField (s := { s with heap := e1, toks := tk }) g1 rfl (Nat.le_of_ble_eq_true rfl) ?_)
    have g2 : (e1.update I (Obj.mapFields (·.setIfInBounds 1 .none))).get? I = some { cls := .type "callable_iterator", data := .fields #[.none, .none, .bool false] } := Heap.get?_update_self _ g1 (by rfl)
    have o2 : ∀ b, b ≠ I → (e1.update I (Obj.mapFields (·.setIfInBounds 1 .none))).get? b = e1.get? b := fun b hb => Heap.get?_update_other _ _ (Ne.symm hb)
    generalize e1.update I (Obj.mapFields (·.setIfInBounds 1 .none)) = e2 at g2 o2 ⊢
    refine wpAny_setField (s := { s with heap := e2, toks := tk }) g2 rfl (Nat.le_of_ble_eq_true rfl) ?_
    have g3 : (e2.update I (Obj.mapFields (·.setIfInBounds 2 (.bool true)))).get? I = some (citObj false q t₂) := Heap.get?_update_self _ g2 (by rfl)
    have o3 : ∀ b, b ≠ I → (e2.update I (Obj.mapFields (·.setIfInBounds 2 (.bool true)))).get? b = e2.get? b := fun b hb => Heap.get?_update_other _ _ (Ne.symm hb)
    generalize e2.update I (Obj.mapFields (·.setIfInBounds 2 (.bool true))) = e3 at g3 o3 ⊢
    refine stop_next (s := { s with heap := e3, toks := tk }) (E := E) hh fun h'' tk'' kk => ?_
    exact k2 rfl h'' tk'' (fun b o hb e => kk b o ((o3 b hb).trans ((o2 b hb).trans ((o1 b hb).trans e)))) (kk _ _ g3)
  · rw [if_pos (by simp [Ne.symm hx])]
    exact wpAny_pure ⟨_, rfl, wpAny_pure (k1 hx)⟩
end
end Mine
end

-- part M46
section
namespace Mine
open PySem PySem.W PyProof.Rows PySem.Calls PySem.Spec

noncomputable abbrev sRc : Str := "_read_char"
structure Good7 (X : Cx) : Prop extends Good6 X where
  rd : ∀ C f, X.S.meth C sRc = some f → X.S.rd = some f → hasDictIn X.K C = true ∧ specialIn X.K (.ref f) "__get__" = some (some (.builtin "function.__get__")) ∧ takesIn X.K (.ref f) = some false
  rdo : ∀ f, X.S.rd = some f → ∃ o fd, X.hb.get? f = some o ∧ o.data = .func fd
  cit : ∀ f, X.S.rd = some f → ∀ h fp a live, X.Z.citer X.w h fp a live ↔ citerZ f h fp a live

section
variable {X : Cx} {d : Nat} {A : Around} {env : Env} {ρ : Rho} {s : Shared} {sc : Scope} {loc loc' loc₁ loc₂ : Loc} {σ σ' σ₁ σ₂ σ₃ σ₄ : AS}
theorem iter_call {q a : Addr} {f : Value} {t : Tok} {Q : Value → Shared → Prop} {E : Value → Shared → Prop} (hq : s.heap.get? q = some (methodObj f (.ref a)))
    (h : Q (.ref s.heap.objs.size) { s with heap := s.heap.push (citObj true q t) }) : X.wp A (PySem.call (.builtin "iter") [.ref q, .str ⟨#[]⟩ t]) Q E s := by
  have hT : s.TypeIs (.ref q) "method" := ⟨_, hq, rfl⟩
  refine Calls.call_function_entry kind_iter plain_iter entry_iter (args_iter _ _) ?_
  unfold Builtin.«iter»
  refine wpAny_bind (wpAny_of_eq (a := [.ref q, .str ⟨#[]⟩ t]) (by kernel_rfl) ?_)
  dsimp only
  refine wpAny_bind (wpAny_specialOf hT slot_method_call.lookup ?_)
  rw [if_neg (by decide)]
  refine wpAny_bind (wpAny_rule (wpAny_bind ?_))
  show wpAny _ _ (newObj (.type "callable_iterator") (.fields #[.ref q, .str ⟨#[]⟩ t, .bool false])) _ _ _
  refine wpAny_newObj_type (wpAny_pure ⟨_, rfl, h⟩) (by size_fits)

theorem v_iter (G : Good7 X) {it o : Str} {ip op ap cp pos : Pos} {k : Nat} {i : Nat} {C f : Addr} {fs : List (Str × V)} (h0 : X.VEval d sc loc (.Name it ip) σ (.val (.builtin "iter")) σ₂) (h1 : X.VEval d sc loc (.Name o op) σ₂ (.own i) σ₁) (hi : σ₁[i]? = some (.inst C fs)) (hn : (fs.lookup sRc).isSome = false) (hm : X.S.meth C sRc = some f) (hr : X.S.rd = some f) :
    X.VEval d sc loc (.Call (.Name it ip) [.Attribute (.Name o op) sRc ap, .Constant (.str ⟨#[]⟩) k cp] [] pos) σ (.own σ₁.length) (σ₁ ++ [.citer i true]) := by
  intro A env ρ s Q E ok R L kq
  refine Call_Name rfl (VEval.then h0 ok R L fun ρ₀ s₀ k₀ u e₀ R₀ L₀ r₀ => ?_)
  cases r₀
  have hp : (backTo pos (starEach [Expr.Attribute (.Name o op) sRc ap, .Constant (.str ⟨#[]⟩) k cp] env)).any (·.1) = false := starEach_plain rfl
  refine Calls.callWith_builtin hp (evalArgs_any hp (spliced_more (Attribute_any_ (VEval.then (s := { s with heap := s₀, toks := k₀ }) h1 ok R₀ L₀ fun ρ₁ s₁ k₁ u e₁ R₁ L₁ r₁ => ?_) (by rfl)) (by rfl)))
  obtain ⟨x, dx, es, n, rfl, hx, I, hes⟩ := own_inst R₁ hi r₁
  obtain ⟨g0, g1, g2, g3⟩ := G.meth C sRc f hm
  obtain ⟨d1, d2, d3⟩ := G.rd C f hm hr
  have K' : X.K.In s₁ := G.kin.keeps R₁.base
  have hl : getL sRc es = some none := by
    have hg := entRel_get hes sRc
    cases q : fs.lookup sRc with
    | none => rw [q] at hg; exact hg
    | some a => rw [q] at hn; cases hn
  refine get_bind (s := { s with heap := s₁, toks := k₁ }) K' I (plainGet_of g1).1 (findObj_fn d1 g2 d2 d3 (by decide +kernel) (by show lookIn sRc (dictOf es n) = _; rw [lookIn_dict, hl])) (plainGet_of g1).2 (wpAny_call (fn_get (s := { s with heap := s₁, toks := k₁ + 1 }) K' g3 (handed_on rfl ?_)))
  refine spliced_more (Constant_str (spliced_none ?_)) (by rfl)
  have k12 : ∀ b o, s₁.get? b = some o → (s₁.push (methodObj (.ref f) (.ref x))).get? b = some o := push_keeps
  have hq2 : (s₁.push (methodObj (.ref f) (.ref x))).get? s₁.objs.size = some (methodObj (.ref f) (.ref x)) := Heap.get?_push_size _ rfl
  refine iter_call (s := { s with heap := s₁.push (methodObj (.ref f) (.ref x)), toks := k₁ + 1 + 1 }) hq2 ?_
  have k23 : ∀ b o, (s₁.push (methodObj (.ref f) (.ref x))).get? b = some o → ((s₁.push (methodObj (.ref f) (.ref x))).push (citObj true s₁.objs.size (k₁ + 1))).get? b = some o := push_keeps
  have hI3 : ((s₁.push (methodObj (.ref f) (.ref x))).push (citObj true s₁.objs.size (k₁ + 1))).get? (s₁.push (methodObj (.ref f) (.ref x))).objs.size = some (citObj true s₁.objs.size (k₁ + 1)) := Heap.get?_push_size _ rfl
  have hsz : (s₁.push (methodObj (.ref f) (.ref x))).objs.size = s₁.objs.size + 1 := Heap.size_push ..
  have hnn : ∀ a ∈ [(s₁.push (methodObj (.ref f) (.ref x))).objs.size, s₁.objs.size], s₁.get? a = none := fun a ha => by
    rcases List.mem_cons.mp ha with rfl | ha
    · rw [hsz]; exact Heap.get?_none_of_le (Nat.le_succ _)
    · rw [List.mem_singleton.mp ha]; exact size_none _
  have kk : ∀ b o, s₁.get? b = some o → ((s₁.push (methodObj (.ref f) (.ref x))).push (citObj true s₁.objs.size (k₁ + 1))).get? b = some o := fun b o e => k23 b o (k12 b o e)
  have hk : (ρ₁.add [(s₁.push (methodObj (.ref f) (.ref x))).objs.size, s₁.objs.size]).own[i]? = some [x, dx] := by
    show (ρ₁.own ++ [_])[i]? = _
    rw [List.getElem?_append_left (List.getElem?_eq_some_iff.mp hx).1]; exact hx
  have R₃ := R₁.add (o := .citer i true) kk hnn (by rw [hsz]; simp) (fun a ha => by
    rcases List.mem_cons.mp ha with rfl | ha
    · exact ⟨_, hI3⟩
    · rw [List.mem_singleton.mp ha]; exact ⟨_, k23 _ _ hq2⟩) ⟨x, [dx], hk, (G.cit f hr _ _ _ _).mpr ⟨_, _, _, rfl, k23 _ _ hq2, hI3⟩⟩
  refine kq _ _ _ _ ((e₀.trans e₁).trans (ext_add kk hnn)) R₃ ⟨_, [s₁.objs.size], ?_, rfl⟩
  have e : ρ₁.own.length = σ₁.length := R₁.len
  rw [← e]; simp [Rho.add]
end
end Mine
end

-- part M47
section
namespace Mine
open PySem PySem.W PyProof.Rows PySem.Calls PySem.Spec

section
variable {X : Cx} {d : Nat} {A : Around} {env : Env} {ρ : Rho} {s : Shared} {sc : Scope} {loc loc' loc₁ loc₂ : Loc} {σ σ' σ₁ σ₂ σ₃ σ₄ : AS}
theorem own_citer (G : Good7 X) {f : Addr} (hr : X.S.rd = some f) {k i : Nat} {live : Bool} {a : Addr} {r : List Addr} {h : Heap} (R : X.SR ρ σ h) (hk : σ[k]? = some (.citer i live)) (ho : ρ.own[k]? = some (a :: r)) :
    ∃ q t x rx, r = [q] ∧ ρ.own[i]? = some (x :: rx) ∧ h.get? q = some (methodObj (.ref f) (.ref x)) ∧ h.get? a = some (citObj live q t) := by
  obtain ⟨x, rx, e, z⟩ := R.objs k _ _ ho hk
  obtain ⟨I, q, t, e', h1, h2⟩ := (G.cit f hr _ _ _ _).mp z
  cases e'
  exact ⟨q, t, x, rx, rfl, e, h1, h2⟩
theorem fc_done (G : Good7 X) {f : Addr} (hr : X.S.rd = some f) {t : Expr} {k i : Nat} {b : List Stmt} (hk : σ[k]? = some (.citer i false)) : X.VForC d sc loc t k b σ .next loc σ := by
  intro A env a r ρ s R ok S L ho kq
  obtain ⟨q, t', x, rx, rfl, _, _, hI⟩ := own_citer G hr S hk ho
  refine forLoop_step (ci_done ok.handled hI fun h' tk kk => ?_)
  exact kq ρ h' tk _ (Ext.of_keeps kk) (S.keeps kk) (L.keeps kk) rfl
theorem Ok.in1 (ok : Ok d A) (hd : d ≤ 25) : Ok (d + 1) A.in1 := ⟨ok.handled, by have := ok.depth; show A.depth ≤ _; omega, by have := ok.units; show A.units + 1 ≤ _; omega, by omega⟩
/-- the sign that comes next -/
theorem fc_sign (G : Good7 X) {f : Addr} (hr : X.S.rd = some f) {k i : Nat} {x : Str} (hd : d ≤ 25) (hk : σ[k]? = some (.citer i true)) (h1 : X.VCallC (d + 1) f [.own i] [] σ (.str x) σ₁) (hk₁ : σ₁[k]? = some (.citer i true)) (ok : Ok d A) (S : X.SR ρ σ s.heap) {a : Addr} {r : List Addr} (ho : ρ.own[k]? = some (a :: r)) {Q : Option Value → Shared → Prop} {E : Value → Shared → Prop}
    (hQ : x ≠ ⟨#[]⟩ → ∀ ρ' h' tk t, Ext noF ρ ρ' s.heap h' → X.SR ρ' σ₁ h' → Q (some (.str x t)) { s with heap := h', toks := tk })
    (hE : x = ⟨#[]⟩ → ∀ ρ' h' tk, Ext noF ρ ρ' s.heap h' → X.SR ρ' (σ₁.set k (.citer i false)) h' → Q none { s with heap := h', toks := tk }) : X.wp A (pyNext (.ref a)) Q E s := by
  obtain ⟨q, t, y, ry, rfl, hi, hq, hI⟩ := own_citer G hr S hk ho
  obtain ⟨o, fd, hfo, hfd⟩ := G.rdo f hr
  refine ci_next ok.handled hI hq (S.base _ _ hfo) hfd fun R hR => ?_
  refine h1 A.in1 ρ s [.ref y] [] R (ok.in1 hd) S (.cons ⟨y, ry, hi, rfl⟩ .nil) rfl .nil fun ρ₁ h₁ tk₁ u x₁ S₁ r₁ => ?_
  obtain ⟨t', rfl⟩ := r₁
  obtain ⟨m, _, e1, _⟩ := x₁.more
  have ho₁ : ρ₁.own[k]? = some [a, q] := by rw [e1, List.getElem?_append_left (List.getElem?_eq_some_iff.mp ho).1]; exact ho
  have hi₁ : ρ₁.own[i]? = some (y :: ry) := by rw [e1, List.getElem?_append_left (List.getElem?_eq_some_iff.mp hi).1]; exact hi
  obtain ⟨q', t₂, y', ry', eq, hi', hq', hI'⟩ := own_citer G hr S₁ hk₁ ho₁
  cases eq
  rw [hi₁] at hi'
  cases hi'
  refine hR x t' t₂ h₁ tk₁ hI' hq' (S₁.base _ _ hfo) (fun hx => hQ hx ρ₁ h₁ tk₁ t' x₁ S₁) fun hx h₂ tk₂ kk hI₂ => ?_
  have nq : q ≠ a := by
    have := nodup_flatten_sub S₁.nodup ho₁
    simp at this
    exact fun e => this e.symm
  obtain ⟨S₂, x₂⟩ := S₁.turn (h' := h₂) (o := .citer i false) ho₁ (fun b o hb e => kk b o (fun z => hb (by simp [z])) e) (fun b hb => by
    rcases List.mem_cons.mp hb with rfl | hb
    · exact ⟨_, hI₂⟩
    · rw [List.mem_singleton.mp hb]; exact ⟨_, kk _ _ nq hq'⟩) (fun _ => ⟨y, ry, hi₁, (G.cit f hr _ _ _ _).mpr ⟨a, q, t₂, rfl, kk _ _ nq hq', hI₂⟩⟩)
  exact hE hx ρ₁ h₂ tk₂ (x₁.trans x₂) S₂
theorem fc_end (G : Good7 X) {f : Addr} (hr : X.S.rd = some f) {t : Expr} {k i : Nat} {b : List Stmt} (hd : d ≤ 25) (hk : σ[k]? = some (.citer i true)) (h1 : X.VCallC (d + 1) f [.own i] [] σ (.str ⟨#[]⟩) σ₁) (hk₁ : σ₁[k]? = some (.citer i true)) : X.VForC d sc loc t k b σ .next loc (σ₁.set k (.citer i false)) := by
  intro A env a r ρ s R ok S L ho kq
  refine forLoop_step (fc_sign G hr hd hk h1 hk₁ ok S ho (fun hx => absurd rfl hx) fun _ ρ' h' tk x' S' => ?_)
  exact kq ρ' h' tk _ (Ext.up L x') S' (L.ext x') rfl
theorem fc_turn (G : Good7 X) {f : Addr} (hr : X.S.rd = some f) {t : Expr} {k i : Nat} {b : List Stmt} {x : Str} {fl f₁ : Flw} (hd : d ≤ 25) (hk : σ[k]? = some (.citer i true)) (h1 : X.VCallC (d + 1) f [.own i] [] σ (.str x) σ₁) (hk₁ : σ₁[k]? = some (.citer i true)) (hx : x ≠ ⟨#[]⟩) (hu : unpackT sc t (.at (.str x)) loc = some loc₁)
    (h2 : X.VExecs d sc loc₁ b σ₁ f₁ loc' σ₂) (h3 : (∀ v, f₁ ≠ .ret v) → X.VForC d sc loc' t k b σ₂ fl loc₂ σ₃) (h4 : ∀ v, f₁ = .ret v → fl = .ret v ∧ loc₂ = loc' ∧ σ₃ = σ₂) : X.VForC d sc loc t k b σ fl loc₂ σ₃ := by
  intro A env a r ρ s R ok S L ho kq
  obtain ⟨q, tt, y, ry, rfl, hi, hq, hI⟩ := own_citer G hr S hk ho
  refine forLoop_step (fc_sign G hr hd hk h1 hk₁ ok S ho (fun _ ρ₁ h₁ tk₁ t' x₁ S₁ => ?_) fun e => absurd e hx)
  dsimp only
  have L₁ := L.ext x₁
  have ho₁ : ρ₁.own[k]? = some [a, q] := by obtain ⟨m, _, e1, _⟩ := x₁.more; rw [e1, List.getElem?_append_left (List.getElem?_eq_some_iff.mp ho).1]; exact ho
  obtain ⟨q', t₂, y', ry', eq, hi', hq', hI'⟩ := own_citer G hr S₁ hk₁ ho₁
  refine go_plain (s := { s with heap := h₁, toks := tk₁ }) hI' (T := "callable_iterator") rfl (by decide) ?_
  refine unpack_sound (s := { s with heap := h₁, toks := tk₁ }) ok hu S₁ L₁ (show ItRel _ _ (.at (.str x)) _ from ⟨t', rfl⟩) fun h₂ tk₂ x₂ S₂ L₂ => ?_
  refine h2 A env ρ₁ { s with heap := h₂, toks := tk₂ } _ _ ok S₂ L₂ fun ρ₃ h₃ tk₃ fl' x₃ S₃ L₃ r₃ => ?_
  have xx : Ext (FP env) ρ ρ₃ s.heap h₃ := Ext.frame L x₁ (x₂.trans x₃)
  have cont : (∀ v, f₁ ≠ .ret v) → codeAny (model X.prog X.w) A (.forLoop t (.ref a) b [] env) R { s with heap := h₃, toks := tk₃ } := fun hf => by
    have ho₃ : ρ₃.own[k]? = some [a, q] := by obtain ⟨m, _, e1, _⟩ := x₃.more; rw [e1, List.getElem?_append_left (List.getElem?_eq_some_iff.mp ho₁).1]; exact ho₁
    refine h3 hf A env a [q] ρ₃ { s with heap := h₃, toks := tk₃ } R ok S₃ L₃ ho₃ fun ρ₄ h₄ tk₄ fl'' x₄ S₄ L₄ r₄ => ?_
    exact kq ρ₄ h₄ tk₄ fl'' (xx.trans x₄) S₄ L₄ r₄
  cases f₁ with
  | next => cases r₃; exact cont fun v e => by cases e
  | cont => cases r₃; exact cont fun v e => by cases e
  | ret v =>
    obtain ⟨u, rfl, r₃⟩ := r₃
    obtain ⟨rfl, rfl, rfl⟩ := h4 v rfl
    exact kq ρ₃ h₃ tk₃ _ xx S₃ L₃ ⟨u, rfl, r₃⟩
theorem x_ForC (G : Good7 X) {f : Addr} (hr : X.S.rd = some f) {t e : Expr} {b : List Stmt} {pos : Pos} {k i : Nat} {live : Bool} {fl : Flw} (hs : notSet e = true) (h1 : X.VEval d sc loc e σ (.own k) σ₁) (hk : σ₁[k]? = some (.citer i live)) (h2 : X.VForC d sc loc t k b σ₁ fl loc' σ₂) : X.VExec d sc loc (.For t e b [] pos) σ fl loc' σ₂ := by
  intro A env ρ s Q E ok R L kq
  refine wpAny_For (VEval.then h1 ok R L fun ρ₁ s₁ k₁ u e₁ R₁ L₁ r₁ => ?_) (fun x => folded_pure hs env x)
  obtain ⟨a, r, ho, rfl⟩ := r₁
  obtain ⟨q, t', x, rx, rfl, _, _, hI⟩ := own_citer G hr R₁ hk ho
  refine ci_iter (s := { s with heap := s₁, toks := k₁ }) hI ?_
  refine h2 A env a [q] ρ₁ { s with heap := s₁, toks := k₁ } _ ok R₁ L₁ ho fun ρ₂ s₂ k₂ fl' x₂ R₂ L₂ r₂ => ?_
  exact kq ρ₂ s₂ k₂ fl' (Ext.frame L e₁ x₂) R₂ L₂ r₂
end
end Mine
end

-- part M48
section
namespace Mine
open PySem PySem.W PyProof.Rows PySem.Calls PySem.Spec

/-- what a job's answer says of the program -/
noncomputable def Snd (X : Cx) (d : Nat) : Job → AS → Res → AS → Prop
  | .eval sc loc e, σ, .v a, σ' => X.VEval d sc loc e σ a σ'
  | .evalT sc loc e, σ, .v a, σ' => X.VEval d sc loc e σ a σ'
  | .evals sc loc es, σ, .vs l, σ' => X.VEvals d sc loc es σ l σ'
  | .cond sc loc e, σ, .b c, σ' => X.VCond d sc loc e σ c σ'
  | .iter sc loc e, σ, .src l g, σ' => X.VIter d sc loc e σ l g σ'
  | .exec sc loc st, σ, .ex f loc', σ' => X.VExec d sc loc st σ f loc' σ'
  | .execs sc loc sts, σ, .ex f loc', σ' => X.VExecs d sc loc sts σ f loc' σ'
  | .forL sc loc t g items b, σ, .ex f loc', σ' => X.VFor d sc loc t g items b σ f loc' σ'
  | .forC sc loc t k b, σ, .ex f loc', σ' => X.VForC d sc loc t k b σ f loc' σ'
  | .whileL sc loc t b, σ, .ex f loc', σ' => X.VWhile d sc loc t b σ f loc' σ'
  | .comp sc loc elt g gs src items, σ, .its l, σ' => gs.all (fun g => notSet g.iter) = true ∨ True → X.VComp d sc loc elt g gs src items σ l σ'
  | .call f args kw, σ, .v a, σ' => X.VCall d f args kw σ a σ' ∧ ∀ c, f = .val (.ref c) → X.VCallC d c args kw σ a σ'
  | _, _, _, _ => True
noncomputable def AllSnd (X : Cx) (d : Nat) (r : Runner) : Prop := ∀ j σ res σ', r j σ = some (res, σ') → Snd X d j σ res σ'

section
variable {r : Runner} {j : Job} {σ σ' : AS}
theorem rv_some {a : V} (h : rv r j σ = some (a, σ')) : r j σ = some (.v a, σ') := by
  exact b2_ h fun z s q g => by
    cases z with
    | v x => exact fin_ (P := fun a t => r j σ = some (.v a, t)) g q
    | _ => exact nex g
theorem rvs_some {a : List V} (h : rvs r j σ = some (a, σ')) : r j σ = some (.vs a, σ') := by
  exact b2_ h fun z s q g => by
    cases z with
    | vs x => exact fin_ (P := fun a t => r j σ = some (.vs a, t)) g q
    | _ => exact nex g
theorem rits_some {a : List It} (h : rits r j σ = some (a, σ')) : r j σ = some (.its a, σ') := by
  exact b2_ h fun z s q g => by
    cases z with
    | its x => exact fin_ (P := fun a t => r j σ = some (.its a, t)) g q
    | _ => exact nex g
theorem rsrc_some {a : List It} {g : Src} (h : rsrc r j σ = some (a, g, σ')) : r j σ = some (.src a g, σ') := by
  exact b2_ h fun z s q g => by
    cases z with
    | src x y => exact fin3_ (P := fun a b t => r j σ = some (.src a b, t)) g q
    | _ => exact nex g
theorem rb_some {a : Bool} (h : rb r j σ = some (a, σ')) : r j σ = some (.b a, σ') := by
  exact b2_ h fun z s q g => by
    cases z with
    | b x => exact fin_ (P := fun a t => r j σ = some (.b a, t)) g q
    | _ => exact nex g
theorem rex_some {f : Flw} {loc : Loc} (h : rex r j σ = some (f, loc, σ')) : r j σ = some (.ex f loc, σ') := by
  exact b2_ h fun z s q g => by
    cases z with
    | ex x y => exact fin3_ (P := fun a b t => r j σ = some (.ex a b, t)) g q
    | _ => exact nex g
end
section
variable {X : Cx} {d : Nat} {r : Runner} (H : AllSnd X d r)
include H
variable {σ σ' : AS} {sc : Scope} {loc loc' : Loc}
theorem AllSnd.eval {e : Expr} {a : V} (h : rv r (.eval sc loc e) σ = some (a, σ')) : X.VEval d sc loc e σ a σ' := H _ _ _ _ (rv_some h)
theorem AllSnd.evalT {e : Expr} {a : V} (h : rv r (.evalT sc loc e) σ = some (a, σ')) : X.VEval d sc loc e σ a σ' := H _ _ _ _ (rv_some h)
theorem AllSnd.evals {e : List Expr} {a : List V} (h : rvs r (.evals sc loc e) σ = some (a, σ')) : X.VEvals d sc loc e σ a σ' := H _ _ _ _ (rvs_some h)
theorem AllSnd.cond {e : Expr} {a : Bool} (h : rb r (.cond sc loc e) σ = some (a, σ')) : X.VCond d sc loc e σ a σ' := H _ _ _ _ (rb_some h)
theorem AllSnd.iter {e : Expr} {a : List It} {g : Src} (h : rsrc r (.iter sc loc e) σ = some (a, g, σ')) : X.VIter d sc loc e σ a g σ' := H _ _ _ _ (rsrc_some h)
theorem AllSnd.exec {e : Stmt} {f : Flw} (h : rex r (.exec sc loc e) σ = some (f, loc', σ')) : X.VExec d sc loc e σ f loc' σ' := H _ _ _ _ (rex_some h)
theorem AllSnd.execs {e : List Stmt} {f : Flw} (h : rex r (.execs sc loc e) σ = some (f, loc', σ')) : X.VExecs d sc loc e σ f loc' σ' := H _ _ _ _ (rex_some h)
theorem AllSnd.forL {t : Expr} {g : Src} {items : List It} {b : List Stmt} {f : Flw} (h : rex r (.forL sc loc t g items b) σ = some (f, loc', σ')) : X.VFor d sc loc t g items b σ f loc' σ' := H _ _ _ _ (rex_some h)
theorem AllSnd.forC {t : Expr} {k : Nat} {b : List Stmt} {f : Flw} (h : rex r (.forC sc loc t k b) σ = some (f, loc', σ')) : X.VForC d sc loc t k b σ f loc' σ' := H _ _ _ _ (rex_some h)
theorem AllSnd.whileL {t : Expr} {b : List Stmt} {f : Flw} (h : rex r (.whileL sc loc t b) σ = some (f, loc', σ')) : X.VWhile d sc loc t b σ f loc' σ' := H _ _ _ _ (rex_some h)
theorem AllSnd.comp {elt : Expr} {g : Comprehension} {gs : List Comprehension} {src : Src} {items out : List It} (h : rits r (.comp sc loc elt g gs src items) σ = some (out, σ')) : X.VComp d sc loc elt g gs src items σ out σ' := H _ _ _ _ (rits_some h) (.inr trivial)
theorem AllSnd.call {f : V} {args : List V} {kw : List (Str × V)} {a : V} (h : rv r (.call f args kw) σ = some (a, σ')) : X.VCall d f args kw σ a σ' := (H _ _ _ _ (rv_some h)).1
theorem AllSnd.callC {f : Addr} {args : List V} {kw : List (Str × V)} {a : V} (h : rv r (.call (.val (.ref f)) args kw) σ = some (a, σ')) : X.VCallC d f args kw σ a σ' := (H _ _ _ _ (rv_some h)).2 f rfl
end
section
variable {X : Cx} {d : Nat} {σ σ' s : AS} {sc : Scope} {loc loc' l : Loc}
theorem retV {e : Expr} {o : Option V} {a : V} (h : retW o s = some (a, σ')) (k : o = some a → X.VEval d sc loc e σ a s) : X.VEval d sc loc e σ a σ' := retW_ (P := fun a t => X.VEval d sc loc e σ a t) h k
theorem finV {e : Expr} {a c : V} (h : some (c, s) = some (a, σ')) (k : X.VEval d sc loc e σ c s) : X.VEval d sc loc e σ a σ' := fin_ (P := fun a t => X.VEval d sc loc e σ a t) h k
theorem finVs {e : List Expr} {a c : List V} (h : some (c, s) = some (a, σ')) (k : X.VEvals d sc loc e σ c s) : X.VEvals d sc loc e σ a σ' := fin_ (P := fun a t => X.VEvals d sc loc e σ a t) h k
theorem retC {e : Expr} {o : Option Bool} {a : Bool} (h : retW o s = some (a, σ')) (k : o = some a → X.VCond d sc loc e σ a s) : X.VCond d sc loc e σ a σ' := retW_ (P := fun a t => X.VCond d sc loc e σ a t) h k
theorem finC {e : Expr} {a c : Bool} (h : some (c, s) = some (a, σ')) (k : X.VCond d sc loc e σ c s) : X.VCond d sc loc e σ a σ' := fin_ (P := fun a t => X.VCond d sc loc e σ a t) h k
theorem finI {e : Expr} {a c : List It} {g q : Src} (h : some (c, q, s) = some (a, g, σ')) (k : X.VIter d sc loc e σ c q s) : X.VIter d sc loc e σ a g σ' := fin3_ (P := fun a g t => X.VIter d sc loc e σ a g t) h k
theorem finX {e : Stmt} {f g : Flw} (h : some (f, l, s) = some (g, loc', σ')) (k : X.VExec d sc loc e σ f l s) : X.VExec d sc loc e σ g loc' σ' := fin3_ (P := fun a g t => X.VExec d sc loc e σ a g t) h k
theorem finXs {e : List Stmt} {f g : Flw} (h : some (f, l, s) = some (g, loc', σ')) (k : X.VExecs d sc loc e σ f l s) : X.VExecs d sc loc e σ g loc' σ' := fin3_ (P := fun a g t => X.VExecs d sc loc e σ a g t) h k
theorem finF {t : Expr} {q : Src} {xs : List It} {b : List Stmt} {f g : Flw} (h : some (f, l, s) = some (g, loc', σ')) (k : X.VFor d sc loc t q xs b σ f l s) : X.VFor d sc loc t q xs b σ g loc' σ' := fin3_ (P := fun a g t' => X.VFor d sc loc t q xs b σ a g t') h k
theorem finFC {t : Expr} {i : Nat} {b : List Stmt} {f g : Flw} (h : some (f, l, s) = some (g, loc', σ')) (k : X.VForC d sc loc t i b σ f l s) : X.VForC d sc loc t i b σ g loc' σ' := fin3_ (P := fun a g t' => X.VForC d sc loc t i b σ a g t') h k
theorem finW {t : Expr} {b : List Stmt} {f g : Flw} (h : some (f, l, s) = some (g, loc', σ')) (k : X.VWhile d sc loc t b σ f l s) : X.VWhile d sc loc t b σ g loc' σ' := fin3_ (P := fun a g t' => X.VWhile d sc loc t b σ a g t') h k
theorem finP {e : Expr} {g : Comprehension} {gs : List Comprehension} {src : Src} {items a c : List It} (h : some (c, s) = some (a, σ')) (k : X.VComp d sc loc e g gs src items σ c s) : X.VComp d sc loc e g gs src items σ a σ' := fin_ (P := fun a t => X.VComp d sc loc e g gs src items σ a t) h k
theorem finK {f : V} {args : List V} {kw : List (Str × V)} {a c : V} (h : some (c, s) = some (a, σ')) (k : X.VCall d f args kw σ c s) : X.VCall d f args kw σ a σ' := fin_ (P := fun a t => X.VCall d f args kw σ a t) h k
theorem finK1 {f : V} {args : List V} {kw : List (Str × V)} {a c : V} (h : some c = some a) (k : X.VCall d f args kw σ c σ') : X.VCall d f args kw σ a σ' := fin1_ (P := fun a => X.VCall d f args kw σ a σ') h k
theorem retK {f : V} {args : List V} {kw : List (Str × V)} {o : Option V} {a : V} (h : retW o s = some (a, σ')) (k : o = some a → X.VCall d f args kw σ a s) : X.VCall d f args kw σ a σ' := retW_ (P := fun a t => X.VCall d f args kw σ a t) h k
theorem finCC {f : Addr} {args : List V} {kw : List (Str × V)} {a c : V} (h : some (c, s) = some (a, σ')) (k : X.VCallC d f args kw σ c s) : X.VCallC d f args kw σ a σ' := fin_ (P := fun a t => X.VCallC d f args kw σ a t) h k
end
end Mine
end

-- part M49
section
namespace Mine
open PySem PySem.W PyProof.Rows PySem.Calls PySem.Spec

structure Good8 (X : Cx) : Prop extends Good7 X where
  len : X.S.gl sLen = some (.val (.builtin "len"))
  line : ∃ F c P mg, LineOk X F c P mg
  rds : ∃ f, X.S.rd = some f

section
variable {X : Cx} {d : Nat} {r : Runner} {σ σ' : AS} {sc : Scope} {loc loc' : Loc}
theorem part_sound (H : AllSnd X d r) {e : Option Expr} {k : Option Int} (h : partE r sc loc e σ = some (k, σ')) : X.VPart d sc loc e σ k σ' := by
  delta partE at h
  cases e with
  | none => exact fin_ h p_none
  | some e => exact b2_ h fun v s h1 g => rInt_ g h1 fun i h1 g => fin_ g (p_some (H.eval h1))
theorem part_none {e : Option Expr} (h : partE r sc loc e σ = some (none, σ')) : e = none ∧ σ = σ' := by
  delta partE at h
  cases e with
  | none => exact ⟨rfl, fin_ (P := fun _ t => σ = t) h rfl⟩
  | some e => exact b2_ h fun v s h1 g => rInt_ g h1 fun i q g => by cases g
theorem behind_ok {op : CmpOp} {b : Expr} (h : notSet b = true) : behindInMarks op b = false := by
  cases b <;> first | rfl | cases h
theorem bnd {α β : Type} {x : Option α} {f : α → Option β} {b : β} (h : (x >>= f) = some b) : ∃ a, x = some a ∧ f a = some b := Option.bind_eq_some_iff.mp h

section
variable {o : Expr} {m : Str} {ap pos : Pos} {as : List Expr} {i : Nat} {vs : List V} {a : V} {σ₁ σ₂ : AS} (hb : baseOk o = true) (ha : as.all notStar = true) (hl : (ap.endLine == pos.line) = true) (hn : as.length < 20)
include hb ha hl hn
theorem methL_sound (G : Good8 X) {xs : List It}
    (h1 : X.VEval d sc loc o σ (.own i) σ₁) (hi : σ₁[i]? = some (.list xs)) (h2 : X.VEvals d sc loc as σ₁ vs σ₂) (h : methL σ₂ i m vs = some (a, σ')) : X.VEval d sc loc (.Call (.Attribute o m ap) as [] pos) σ a σ' :=
  onList_ h fun ys hy g => on1_ (fun vs => X.VEvals d sc loc as σ₁ vs σ₂ → X.VEval d sc loc (.Call (.Attribute o m ap) as [] pos) σ a σ') g (fun v g h2 => onIt_ (fun v => X.VEvals d sc loc as σ₁ [v] σ₂) g h2 fun w q g =>
    bif_ g (fun e g => whenB_ g fun e2 gz => by
      have e := of_decide_eq_true e
      subst e
      have e2 := itSame_eq e2
      subst e2
      cases ys with
      | nil => exact nex gz
      | cons y rest => exact whenD_ gz fun hr gy => finV gy (v_pop G.toGood hb ha hl hn h1 hi q hy hr))
    (fun _ g => whenD_ g fun e g => whenD_ g fun hr gz => by
      subst e
      exact finV gz (v_append G.toGood hb ha hl hn h1 hi q hy hr))) h2
theorem methR_sound (G : Good8 X) (hd : d ≤ 25) {rest₁ : List Nat}
    (h1 : X.VEval d sc loc o σ (.own i) σ₁) (hi : σ₁[i]? = some (.stream rest₁)) (h2 : X.VEvals d sc loc as σ₁ vs σ₂) (h : methR σ₂ i m vs = some (a, σ')) : X.VEval d sc loc (.Call (.Attribute o m ap) as [] pos) σ a σ' := by
  obtain ⟨F, c, P, mg, LK⟩ := G.line
  exact onStream_ h fun ys hy g => on1_ (fun vs => X.VEvals d sc loc as σ₁ vs σ₂ → X.VEval d sc loc (.Call (.Attribute o m ap) as [] pos) σ a σ') g (fun v g h2 => onInt_ (fun v => X.VEvals d sc loc as σ₁ [v] σ₂) g h2 fun w q g => whenD_ g fun e g => whenD_ g fun e2 gz => by
    subst e e2
    exact finV gz (v_read G.toGood G.len LK.str hd hb ha hl hn h1 hi q hy)) h2
theorem methK_sound (G : Good8 X) {a : Addr} {c : V}
    (h1 : X.VEval d sc loc o σ (.val (.ref a)) σ₁) (h2 : X.VEvals d sc loc as σ₁ vs σ₂) (h : methK X.S a m vs = some c) : X.VEval d sc loc (.Call (.Attribute o m ap) as [] pos) σ c σ₂ :=
  bif_ h (fun e g => on2_ (fun vs => X.VEvals d sc loc as σ₁ vs σ₂ → X.VEval d sc loc (.Call (.Attribute o m ap) as [] pos) σ c σ₂) g (fun v w g h2 => onStr_ (fun v => X.VEvals d sc loc as σ₁ [v, w] σ₂) g h2 fun k q g => onInt_ (fun w => X.VEvals d sc loc as σ₁ [.str k, w] σ₂) g q fun n q g => ob_ g fun kvs hk gz => by
      have e := of_decide_eq_true e
      subst e
      exact fin1_ (P := fun c => X.VEval d sc loc (.Call (.Attribute o _ ap) as [] pos) σ c σ₂) gz (v_get G.toGood3 hb ha hl hn h1 q hk)) h2)
    (fun _ g => on1_ (fun vs => X.VEvals d sc loc as σ₁ vs σ₂ → X.VEval d sc loc (.Call (.Attribute o m ap) as [] pos) σ c σ₂) g (fun v g h2 => onStr_ (fun v => X.VEvals d sc loc as σ₁ [v] σ₂) g h2 fun k q g => whenD_ g fun e g => whenB_ g fun hq gz => by
      subst e
      exact fin1_ (P := fun c => X.VEval d sc loc (.Call (.Attribute o _ ap) as [] pos) σ c σ₂) gz (v_search G.toGood3 hb ha hl hn h1 q hq)) h2)
end
end
end Mine
end

-- part M50
section
namespace Mine
open PySem PySem.W PyProof.Rows PySem.Calls PySem.Spec

section
variable {X : Cx} {d : Nat} {r : Runner} {σ σ' : AS} {sc : Scope} {loc loc' : Loc}
theorem nb_false {b : Bool} (h : ¬ b = true) : b = false := by cases b <;> first | rfl | exact absurd rfl h
theorem nn_true {b : Bool} (h : ¬ (!b) = true) : b = true := by cases b <;> first | rfl | exact absurd rfl h
theorem evNam_sound (G : Good8 X) {x : Str} {xp : Pos} {a : V} (h : evNam X.S sc loc x σ = some (a, σ')) : X.VEval d sc loc (.Name x xp) σ a σ' :=
  whenB_ h fun hx g => oElse_ g (fun v hv g => finV g (v_Name_loc (not_ hx) hv)) fun _ g => whenB_ g fun hk g => retV g fun hc => v_Name_gl G.glb (not_ hx) (beq_iff_eq.mp hk) hc
theorem evBin_sound (H : AllSnd X d r) {l b : Expr} {op : Operator} {pos : Pos} {a : V} (h : evBin r sc loc l op b σ = some (a, σ')) : X.VEval d sc loc (.BinOp l op b pos) σ a σ' :=
  b2_ h fun x s h1 g => b2_ g fun y s h2 g => retV g fun hc => v_BinOp (H.eval h1) (H.eval h2) hc
theorem evCmp_ (H : AllSnd X d r) {l : Expr} {ops : List CmpOp} {bs : List Expr} {c : Bool} (P : List CmpOp → List Expr → Prop) (h : evCmp r sc loc l ops bs σ = some (c, σ'))
    (k : ∀ op b x y σ₁, notSet b = true → X.VEval d sc loc l σ x σ₁ → X.VEval d sc loc b σ₁ y σ' → cmp op x y = some c → P [op] [b]) : P ops bs :=
  on1_ (fun ops => P ops bs) h fun op g => on1_ (P [op]) g fun b g => whenB_ g fun hs g => b2_ g fun x s h1 g => b2_ g fun y s2 h2 g =>
    retW_ (P := fun c t => (∀ op b x y σ₁, notSet b = true → X.VEval d sc loc l σ x σ₁ → X.VEval d sc loc b σ₁ y t → cmp op x y = some c → P [op] [b]) → P [op] [b]) g (fun hc k => k op b x y s hs (H.eval h1) (H.eval h2) hc) k
theorem evList_ (H : AllSnd X d r) {es : List Expr} {l : List It} (h : evList r sc loc es σ = some (l, σ')) : ∃ xs, X.VEvals d sc loc es σ xs σ' ∧ atsOf xs = some l ∧ xs.length ≤ 100 :=
  b2_ h fun xs s h1 g => whenD_ g fun hn g => retW_ (P := fun l t => ∃ xs, X.VEvals d sc loc es σ xs t ∧ atsOf xs = some l ∧ xs.length ≤ 100) g fun hc => ⟨xs, H.evals h1, hc, hn⟩
theorem evTup_sound (H : AllSnd X d r) {es : List Expr} {n : Nat} {pos : Pos} {a : V} (h : evTup r sc loc es σ = some (a, σ')) : X.VEval d sc loc (.Tuple es n pos) σ a σ' :=
  b2_ h fun xs s h1 g => on2_ (fun xs => X.VEvals d sc loc es σ xs s → X.VEval d sc loc (.Tuple es n pos) σ a σ') g (fun x y g h1 => onAt_ (fun x => X.VEvals d sc loc es σ [x, y] s) g h1 fun x h1 g => onAt_ (fun y => X.VEvals d sc loc es σ [.it (.at x), y] s) g h1 fun y h1 g => finV g (v_Tuple h1)) (H.evals h1)
theorem evComp_ (H : AllSnd X d r) {elt : Expr} {gens : List Comprehension} {sc' : Scope} {out : List It} (P : List Comprehension → Prop) (h : evComp r sc loc elt gens sc' σ = some (out, σ'))
    (k : ∀ g gs items src σ₁, compOk sc sc' g gs = true → X.VIter d sc loc g.iter σ items src σ₁ → X.VComp d (relab sc') (freeLoc sc' loc) elt g gs src items σ₁ out σ' → out.length ≤ 1000000 → P (g :: gs)) : P gens := by
  delta evComp at h
  cases gens with
  | nil => exact nex h
  | cons g gs => exact whenB_ h fun hk e => b3_ e fun items src s h1 e => b2_ e fun out' s' h2 e => whenD_ e fun hn ez => fin_ (P := fun out t => (∀ g gs items src σ₁, compOk sc sc' g gs = true → X.VIter d sc loc g.iter σ items src σ₁ → X.VComp d (relab sc') (freeLoc sc' loc) elt g gs src items σ₁ out t → out.length ≤ 1000000 → P (g :: gs)) → P (g :: gs)) ez (fun k => k g gs items src s hk (H.iter h1) (H.comp h2) hn) k
theorem evAttr_sound (G : Good8 X) (H : AllSnd X d r) {o : Expr} {n : Str} {pos : Pos} {a : V} (h : evAttr X.S r sc loc o n σ = some (a, σ')) : X.VEval d sc loc (.Attribute o n pos) σ a σ' :=
  nmElse_ (fun o => X.VEval d sc loc (.Attribute o n pos) σ a σ') h (fun x p g => b2_ g fun v s h1 g => rOwn_ g h1 fun i h1 g => onInst_ g fun C fs ho g => whenB_ g fun hf g => retV g fun hc => v_Attr G.toGood (H.eval h1) ho hc hf) nex
theorem slice_lst {xs : List It} {lo hi st : Option Int} {c : V} (q : slice (.lst xs) lo hi st = some c) : c = .lst (sliceL xs lo hi st) ∧ st ≠ some 0 ∧ xs.length ≤ 1000000 :=
  whenB_ (show whenB (decide (st ≠ some 0) && decide (xs.length ≤ 1000000)) (some (V.lst (sliceL xs lo hi st))) = some c from by
    rw [← q]; unfold slice whenB; cases st <;> simp only [cond_eq_ite]) fun e g => ⟨fin1_ (P := fun c => c = V.lst (sliceL xs lo hi st)) g rfl, of_decide_eq_true (and_ e).1, of_decide_eq_true (and_ e).2⟩
theorem evSlice_sound (H : AllSnd X d r) {o : Expr} {l u s : Option Expr} {p1 p2 : Pos} {a : V} (h : evSlice r sc loc o l u s σ = some (a, σ')) : X.VEval d sc loc (.Subscript o (.Slice l u s p1) p2) σ a σ' :=
  b2_ h fun x s₁ h1 g => b2_ g fun lo s₂ h2 g => b2_ g fun hi s₃ h3 g => b2_ g fun st s₄ h4 g => rOwnElse_ g h1
    (fun i h1 g => onList_ g fun xs ho g => retV g fun hc => by
      obtain ⟨rfl, s0, sl⟩ := slice_lst hc
      exact v_SliceOwn (H.eval h1) (part_sound H h2) (part_sound H h3) (part_sound H h4) ho s0 sl)
    fun g => retV g fun hc => by
      cases x with
      | lst xs =>
        obtain ⟨rfl, s0, sl⟩ := slice_lst hc
        exact v_SliceL (H.eval h1) (part_sound H h2) (part_sound H h3) (part_sound H h4) s0 sl
      | it i =>
        cases i with
        | pair => exact nex hc
        | «at» y =>
          cases y with
          | int => exact nex hc
          | str x =>
            cases st with
            | some => exact nex hc
            | none =>
              obtain ⟨rfl, rfl⟩ := part_none h4
              exact whenD_ (show whenB (decide ((sliceS x lo hi).length ≤ 100000)) (some (V.str (sliceS x lo hi))) = some a from by rw [← hc]; unfold slice whenB; simp only [cond_eq_ite, decide_eq_true_eq]) fun hn g =>
                fin1_ (P := fun a => X.VEval d sc loc (.Subscript o (.Slice l u none p1) p2) σ a s₃) g (v_SliceS (H.eval h1) (part_sound H h2) (part_sound H h3) hn)
      | _ => exact nex hc
theorem evItem_sound (G : Good8 X) (H : AllSnd X d r) {o k : Expr} {pos : Pos} {a : V} (h : evItem r sc loc o k σ = some (a, σ')) : X.VEval d sc loc (.Subscript o k pos) σ a σ' :=
  b2_ h fun x s₁ h1 g => b2_ g fun y s₂ h2 g => rAt_ g h2 fun k h2 g => rOwnElse_ g h1
    (fun i h1 g => by
      cases k with
      | str x => exact onDict_ g fun kvs ho g => ob_ g fun c hc g => finV g (v_SubDict G.toGood2 (H.eval h1) (H.eval h2) ho hc)
      | int k => exact onList_ g fun xs ho g => retV g fun hc => v_SubOwn (H.eval h1) (H.eval h2) ho hc)
    fun g => intA_ (fun k' => rv r (.eval sc loc _) s₁ = some (.it (.at k'), s₂)) g h2 fun i h2 g => retV g fun hc => v_Sub (H.eval h1) (H.eval h2) hc
theorem evSub_sound (G : Good8 X) (H : AllSnd X d r) {o k : Expr} {pos : Pos} {a : V} (h : evSub r sc loc o k σ = some (a, σ')) : X.VEval d sc loc (.Subscript o k pos) σ a σ' := by
  delta evSub at h
  cases k with
  | Slice => exact evSlice_sound H h
  | _ => exact evItem_sound G H h
theorem conStr_ {β : Type} {e : Expr} {f : Str → Option β} {b : β} (P : Expr → Prop) (h : conStr e f = some b) (k : ∀ z n p, f z = some b → P (.Constant (.str z) n p)) : P e := by
  delta conStr at h
  cases e with
  | Constant c n p =>
    cases c with
    | str z => exact k z n p h
    | _ => exact nex h
  | _ => exact nex h
theorem iterArgs_ {as : List Expr} {o : Expr} {m : Str} (P : List Expr → Expr → Prop) (h : iterArgs as = some (o, m)) (k : ∀ x p q n p', P [.Attribute (.Name x p) m q, .Constant (.str ⟨#[]⟩) n p'] (.Name x p)) : P as o :=
  on2_ (fun as => P as o) h fun a b g => onTgt_ (fun a => P [a, b] o) g (fun _ _ => nex) (fun e m' q g => nmElse_ (fun e => P [.Attribute e m' q, b] o) g (fun x p g => conStr_ (fun b => P [.Attribute (.Name x p) m' q, b] o) g fun z n p' g =>
    whenB_ g fun hz gz => by
      have hz := beq_iff_eq.mp hz
      subst hz
      cases gz
      exact k x p q n p') nex) (fun _ _ _ => nex)
theorem isIter_is {g : V} (h : isIter g = true) : g = .val (.builtin "iter") := by
  cases g with
  | val u =>
    cases u with
    | builtin f => exact congrArg (fun f => V.val (.builtin f)) (of_decide_eq_true h)
    | _ => cases h
  | _ => cases h
theorem evIter_sound (G : Good8 X) (H : AllSnd X d r) {f x : Str} {fp pos p q p' : Pos} {n : Nat} {m : Str} {a : V} {σ₁ : AS} (h1 : X.VEval d sc loc (.Name f fp) σ (.val (.builtin "iter")) σ₁) (h : evIter X.S r sc loc (.Name x p) m σ₁ = some (a, σ')) :
    X.VEval d sc loc (.Call (.Name f fp) [.Attribute (.Name x p) m q, .Constant (.str ⟨#[]⟩) n p'] [] pos) σ a σ' :=
  b2_ h fun y s₂ h2 g => rOwn_ g h2 fun i h2 g => onInst_ g fun C fs ho g => whenD_ g fun hm1 g => whenB_ g fun hn g => whenB_ g fun hm g => whenB_ g fun hr gz => by
    obtain ⟨f, hf⟩ := Option.isSome_iff_exists.mp hr
    subst hm1
    exact finV gz (v_iter G.toGood7 h1 (H.eval h2) ho (by rw [Option.isNone_iff_eq_none] at hn; show (List.lookup (Str.ofString "_read_char") _).isSome = false; rw [hn]; rfl) ((beq_iff_eq.mp hm).trans hf) hf)
theorem evCallN_sound (G : Good8 X) (H : AllSnd X d r) {f : Str} {fp pos : Pos} {as : List Expr} {g a : V} {σ₁ : AS} (h1 : X.VEval d sc loc (.Name f fp) σ g σ₁) (h : evCallN X.S r sc loc g as σ₁ = some (a, σ')) : X.VEval d sc loc (.Call (.Name f fp) as [] pos) σ a σ' :=
  whenB_ h fun hc g => whenB_ g fun ha g => b2_ g fun xs s h2 g => v_CallName G.toGood hc ha h1 (H.evals h2) (H.call g)
theorem evName_sound (G : Good8 X) (H : AllSnd X d r) {f : Str} {fp pos : Pos} {as : List Expr} {a : V} (h : evName X.S r sc loc f fp as σ = some (a, σ')) : X.VEval d sc loc (.Call (.Name f fp) as [] pos) σ a σ' :=
  b2_ h fun g σ₁ h1 h2 => oElse_ h2 (fun p hp h2 => whenB_ hp fun hi ho => by
      have hi := isIter_is hi
      subst hi
      obtain ⟨o, m⟩ := p
      exact iterArgs_ (fun as o => evIter X.S r sc loc o m σ₁ = some (a, σ') → X.VEval d sc loc (.Call (.Name f fp) as [] pos) σ a σ') ho (fun x p q n p' h2 => evIter_sound G H (H.eval h1) h2) h2)
    fun _ h2 => evCallN_sound G H (H.eval h1) h2
section
variable {o : Expr} {m : Str} {ap pos : Pos} {as : List Expr} {ks : List Keyword} {i : Nat} {a : V} {σ₁ : AS} (G : Good8 X) (H : AllSnd X d r) (hb : baseOk o = true) (ha : as.all notStar = true) (hl : (ap.endLine == pos.line) = true)
include G H hb ha hl
theorem evMeth_sound (hn : as.length + ks.length < 20) {C : Addr} {fs : List (Str × V)}
    (h1 : X.VEval d sc loc o σ (.own i) σ₁) (ho : σ₁[i]? = some (.inst C fs)) (h : evMeth X.S r sc loc i C fs m as ks σ₁ = some (a, σ')) : X.VEval d sc loc (.Call (.Attribute o m ap) as ks pos) σ a σ' :=
  whenB_ h fun hs g => ob_ g fun f hf g => b2_ g fun xs s h2 g => by
    have hs : (fs.lookup m).isSome = false := by rw [Option.isNone_iff_eq_none.mp hs]; rfl
    cases ks with
    | nil => exact v_Meth G.toGood4 hb ha hl hn h1 ho hs hf (H.evals h2) (H.call g)
    | cons k ks =>
      obtain ⟨n, e, p⟩ := k
      exact whenNil_ (fun ks => as.length + (ks.length + 1) < 20 → X.VEval d sc loc (.Call (.Attribute o m ap) as (⟨n, e, p⟩ :: ks) pos) σ a σ') g (fun g hn2 => whenB_ g fun he g => ob_ g fun n' hk g => b2_ g fun y s h4 gz => by
        cases hk
        exact v_MethKw G.toGood4 hb ha hl hn2 (not_ he) h1 ho hs hf (H.evals h2) (H.eval h4) (H.call gz)) hn
theorem evOwn_sound (hd : d ≤ 25) (hn : as.length + ks.length < 20) {ao : AO}
    (h1 : X.VEval d sc loc o σ (.own i) σ₁) (ho : σ₁[i]? = some ao) (h : evOwn X.S r sc loc i ao m as ks σ₁ = some (a, σ')) : X.VEval d sc loc (.Call (.Attribute o m ap) as ks pos) σ a σ' := by
  delta evOwn at h
  cases ao with
  | inst => exact evMeth_sound G H hb ha hl hn h1 ho h
  | list => exact whenNil_ (fun ks => as.length + ks.length < 20 → X.VEval d sc loc (.Call (.Attribute o m ap) as ks pos) σ a σ') h (fun g hn => b2_ g fun xs s h2 g => methL_sound hb ha hl hn G h1 ho (H.evals h2) g) hn
  | stream => exact whenNil_ (fun ks => as.length + ks.length < 20 → X.VEval d sc loc (.Call (.Attribute o m ap) as ks pos) σ a σ') h (fun g hn => b2_ g fun xs s h2 g => methR_sound hb ha hl hn G hd h1 ho (H.evals h2) g) hn
  | _ => exact nex h
theorem evOther_sound (hn : as.length + ks.length < 20) {x : V}
    (h1 : X.VEval d sc loc o σ x σ₁) (h : evOther X.S r sc loc x m as ks σ₁ = some (a, σ')) : X.VEval d sc loc (.Call (.Attribute o m ap) as ks pos) σ a σ' :=
  whenNil_ (fun ks => as.length + ks.length < 20 → X.VEval d sc loc (.Call (.Attribute o m ap) as ks pos) σ a σ') h (fun g hn => b2_ g fun xs s h2 g => itElse_ (fun x => X.VEval d sc loc o σ x σ₁) g h1
    (fun w h1 g => atI_ (fun w => X.VEval d sc loc o σ (.it w) σ₁) g h1 fun w h1 g => strA_ (fun w => X.VEval d sc loc o σ (.it (.at w)) σ₁) g h1 fun w h1 g => retV g fun hc => v_methP G.toGood hb ha hl hn h1 (H.evals h2) hc)
    fun g => onRef_ (fun x => X.VEval d sc loc o σ x σ₁) g h1 fun w h1 g => retV g fun hc => methK_sound hb ha hl hn G h1 (H.evals h2) hc) hn
omit hb ha hl in
theorem evCallM_sound (hd : d ≤ 25) (h : evCallM X.S r sc loc o m ap as ks pos σ = some (a, σ')) : X.VEval d sc loc (.Call (.Attribute o m ap) as ks pos) σ a σ' :=
  whenB_ h fun hb g => whenB_ g fun ha g => whenB_ g fun hl g => whenD_ g fun hn g => b2_ g fun x s h1 g => rOwnElse_ g h1
    (fun i h1 g => ob_ g fun ao ho g => evOwn_sound G H hb ha hl hd hn (H.eval h1) ho g) fun g => evOther_sound G H hb ha hl hn (H.eval h1) g
end
theorem evCall_sound (G : Good8 X) (hd : d ≤ 25) (H : AllSnd X d r) {f : Expr} {as : List Expr} {ks : List Keyword} {pos : Pos} {a : V} (h : evCall X.S r sc loc f as ks pos σ = some (a, σ')) : X.VEval d sc loc (.Call f as ks pos) σ a σ' :=
  onTgt_ (fun f => X.VEval d sc loc (.Call f as ks pos) σ a σ') h (fun f fp g => whenNil_ (fun ks => X.VEval d sc loc (.Call (.Name f fp) as ks pos) σ a σ') g fun g => evName_sound G H g) (fun o m ap g => evCallM_sound G H hd g) (fun _ _ _ => nex)
theorem eval_sound (G : Good8 X) (hd : d ≤ 25) (H : AllSnd X d r) {e : Expr} {a : V} (h : stepEval X.S r sc loc e σ = some (a, σ')) : X.VEval d sc loc e σ a σ' := by
  delta stepEval at h
  cases e with
  | Constant => exact retV h fun hc => v_Constant hc
  | Name => exact evNam_sound G h
  | BinOp => exact evBin_sound H h
  | Compare l ops bs pos => exact b2_ h fun c s hc g => finV g (evCmp_ H (fun ops bs => X.VEval d sc loc (.Compare l ops bs pos) σ (.bool c) s) hc fun op b x y s hs h1 h2 hc => v_Compare (behind_ok hs) h1 h2 hc)
  | IfExp => exact b2_ h fun c s h1 g => v_IfExp (H.cond h1) (H.eval g)
  | List => exact b2_ h fun l s hl g => finV g (by obtain ⟨xs, h1, h2, h3⟩ := evList_ H hl; exact v_List h1 h2 h3)
  | Tuple => exact evTup_sound H h
  | ListComp elt gens sc' pos => exact b2_ h fun l s hl g => finV g (evComp_ H (fun gens => X.VEval d sc loc (.ListComp elt gens sc' pos) σ (.lst l) s) hl fun g gs items src s hk h1 h2 hn => v_ListComp hk h1 h2 hn)
  | Attribute => exact evAttr_sound G H h
  | Subscript => exact evSub_sound G H h
  | Call => exact evCall_sound G hd H h
  | _ => exact nex h
end
end Mine
end

-- part M51
section
namespace Mine
open PySem PySem.W PyProof.Rows PySem.Calls PySem.Spec

section
variable {X : Cx} {d : Nat} {r : Runner} {σ σ' : AS} {sc : Scope} {loc loc' : Loc}
theorem evalT_sound (H : AllSnd X d r) {e : Expr} {a : V} (h : stepEvalT r sc loc e σ = some (a, σ')) : X.VEval d sc loc e σ a σ' := by
  delta stepEvalT at h
  cases e with
  | List => exact b2_ h fun l s hl g => finV g (by obtain ⟨xs, h1, h2, h3⟩ := evList_ H hl; exact v_ListT h1 h2 h3)
  | IfExp => exact b2_ h fun c s h1 g => v_IfExp (H.cond h1) (H.evalT g)
  | _ => exact H.eval h
theorem evals_sound (H : AllSnd X d r) {es : List Expr} {a : List V} (h : stepEvals r sc loc es σ = some (a, σ')) : X.VEvals d sc loc es σ a σ' := by
  delta stepEvals at h
  cases es with
  | nil => exact finVs h v_evals_nil
  | cons e es => exact whenB_ h fun hs g => b2_ g fun x s h1 g => b2_ g fun xs s h2 g => finVs g (v_evals_cons hs (H.eval h1) (H.evals h2))
theorem cdBool_sound (H : AllSnd X d r) {op : BoolOp} {vs : List Expr} {pos : Pos} {a : Bool} (h : cdBool r sc loc op vs σ = some (a, σ')) : X.VCond d sc loc (.BoolOp op vs pos) σ a σ' :=
  on2_ (fun vs => X.VCond d sc loc (.BoolOp op vs pos) σ a σ') h fun u v g => b2_ g fun c s h1 g => by
    cases op with
    | And =>
      cases c
      · exact finC g (c_And (H.cond h1) (fun e => by cases e) (fun _ => ⟨rfl, rfl⟩))
      · exact c_And (H.cond h1) (fun _ => H.cond g) (fun e => by cases e)
    | Or =>
      cases c
      · exact c_Or (H.cond h1) (fun _ => H.cond g) (fun e => by cases e)
      · exact finC g (c_Or (H.cond h1) (fun e => by cases e) (fun _ => ⟨rfl, rfl⟩))
theorem cdPlain_sound (H : AllSnd X d r) {e : Expr} {a : Bool} (h : cdPlain r sc loc e σ = some (a, σ')) : X.VCond d sc loc e σ a σ' :=
  whenB_ h fun hp g => b2_ g fun x s h1 g => rOwnElse_ g h1 (fun i h1 g => onList_ g fun xs ho g => whenD_ g fun hn g => finC g (c_plain hp (H.eval h1) (.inl ⟨_, _, rfl, ho, hn, rfl⟩)))
    fun g => retC g fun hc => c_plain hp (H.eval h1) (.inr hc)
theorem cond_sound (H : AllSnd X d r) {e : Expr} {a : Bool} (h : stepCond r sc loc e σ = some (a, σ')) : X.VCond d sc loc e σ a σ' := by
  delta stepCond at h
  cases e with
  | Compare l ops bs pos => exact evCmp_ H (fun ops bs => X.VCond d sc loc (.Compare l ops bs pos) σ a σ') h fun op b x y s hs h1 h2 hc => c_Compare (behind_ok hs) h1 h2 hc
  | BoolOp => exact cdBool_sound H h
  | _ => exact cdPlain_sound H h
theorem itemsOf_sound {e : Expr} {x : V} {l : List It} {g : Src} (hs : notSet e = true) (h1 : X.VEval d sc loc e σ x σ') (h : itemsOf σ' x = some (l, g)) : X.VIter d sc loc e σ l g σ' :=
  lstElse_ (fun x => X.VEval d sc loc e σ x σ') h h1 (fun xs h1 h => fin_ (P := fun l g => X.VIter d sc loc e σ l g σ') h (i_lst hs h1)) fun h => ownElse_ (fun x => X.VEval d sc loc e σ x σ') h h1
    (fun i h1 h => onList_ h fun xs ho h => fin_ (P := fun l g => X.VIter d sc loc e σ l g σ') h (i_own hs h1 ho))
    fun h => onStr_ (fun x => X.VEval d sc loc e σ x σ') h h1 fun x h1 h => fin_ (P := fun l g => X.VIter d sc loc e σ l g σ') h (i_str hs h1)
theorem itVal_sound (H : AllSnd X d r) {e : Expr} {l : List It} {g : Src} (h : itVal r sc loc e σ = some (l, g, σ')) : X.VIter d sc loc e σ l g σ' :=
  whenB_ h fun hs q => b2_ q fun x s h1 q => b2_ q fun l g hc q => finI q (itemsOf_sound hs (H.eval h1) hc)
theorem iterOf_sound (G : Good8 X) {f : Str} {fp pos : Pos} {as : List Expr} {t : String} {xs : List V} {σ₁ σ₂ : AS} {l : List It} {g : Src} (ha : as.all notStar = true) (h1 : X.VEval d sc loc (.Name f fp) σ (.val (.type t)) σ₁)
    (h2 : X.VEvals d sc loc as σ₁ xs σ₂) (h : iterOf t xs = some (l, g)) : X.VIter d sc loc (.Call (.Name f fp) as [] pos) σ l g σ₂ :=
  strElse_ (fun t => X.VEval d sc loc (.Name f fp) σ (.val (.type t)) σ₁ → X.VIter d sc loc (.Call (.Name f fp) as [] pos) σ l g σ₂) h
    (fun q h1 => on1_ (fun xs => X.VEvals d sc loc as σ₁ xs σ₂ → X.VIter d sc loc (.Call (.Name f fp) as [] pos) σ l g σ₂) q (fun a q h2 => onInt_ (fun a => X.VEvals d sc loc as σ₁ [a] σ₂) q h2 fun n h2 q => whenD_ q fun hn q => whenD_ q fun hm q =>
      fin_ (P := fun l g => X.VIter d sc loc (.Call (.Name f fp) as [] pos) σ l g σ₂) q (i_range G.toGood ha h1 h2 hn hm)) h2)
    (fun q => strElse_ (fun t => X.VEval d sc loc (.Name f fp) σ (.val (.type t)) σ₁ → X.VIter d sc loc (.Call (.Name f fp) as [] pos) σ l g σ₂) q
      (fun q h1 => on2_ (fun xs => X.VEvals d sc loc as σ₁ xs σ₂ → X.VIter d sc loc (.Call (.Name f fp) as [] pos) σ l g σ₂) q (fun u v q h2 => retW_ (P := fun l g => X.VIter d sc loc (.Call (.Name f fp) as [] pos) σ l g σ₂) q fun hc =>
        lstElse_ (fun u => X.VEvals d sc loc as σ₁ [u, v] σ₂) hc h2 (fun xs h2 hc => onLst_ (fun v => X.VEvals d sc loc as σ₁ [.lst xs, v] σ₂) hc h2 fun ys h2 hc => i_zipL G.toGood ha h1 h2 hc) fun hc => onStr_ (fun u => X.VEvals d sc loc as σ₁ [u, v] σ₂) hc h2 fun x h2 hc => onStr_ (fun v => X.VEvals d sc loc as σ₁ [.str x, v] σ₂) hc h2 fun y h2 hc => i_zipS G.toGood ha h1 h2 hc) h2)
      (fun q => strElse_ (fun t => X.VEval d sc loc (.Name f fp) σ (.val (.type t)) σ₁ → X.VIter d sc loc (.Call (.Name f fp) as [] pos) σ l g σ₂) q
        (fun q h1 => on1_ (fun xs => X.VEvals d sc loc as σ₁ xs σ₂ → X.VIter d sc loc (.Call (.Name f fp) as [] pos) σ l g σ₂) q (fun a q h2 => onLst_ (fun a => X.VEvals d sc loc as σ₁ [a] σ₂) q h2 fun n h2 q =>
          retW_ (P := fun l g => X.VIter d sc loc (.Call (.Name f fp) as [] pos) σ l g σ₂) q fun hc => i_enumL G.toGood ha h1 h2 hc) h2)
        nex)) h1
theorem itName_sound (G : Good8 X) (H : AllSnd X d r) {f : Str} {fp pos : Pos} {as : List Expr} {l : List It} {g : Src} (h : itName r sc loc f fp as σ = some (l, g, σ')) : X.VIter d sc loc (.Call (.Name f fp) as [] pos) σ l g σ' :=
  whenB_ h fun ha q => b2_ q fun v s h1 q => b2_ q fun xs s h2 q => rTyp_ q h1 fun t h1 q => b2_ q fun l g hc q => finI q (iterOf_sound G ha (H.eval h1) (H.evals h2) hc)
theorem iter_sound (G : Good8 X) (H : AllSnd X d r) {e : Expr} {l : List It} {g : Src} (h : stepIter r sc loc e σ = some (l, g, σ')) : X.VIter d sc loc e σ l g σ' := by
  delta stepIter at h
  cases e with
  | Call f as ks pos =>
    refine nmElse_ (fun f' => f' = f → X.VIter d sc loc (.Call f' as ks pos) σ l g σ') h (fun f fp h _ => whenNil_ (fun ks => X.VIter d sc loc (.Call (.Name f fp) as ks pos) σ l g σ') h fun h => itName_sound G H h) (fun h _ => whenB_ h fun _ h => itVal_sound H h) rfl
  | _ => exact whenB_ h fun _ h => itVal_sound H h
end
end Mine
end

-- part M52
section
namespace Mine
open PySem PySem.W PyProof.Rows PySem.Calls PySem.Spec

section
variable {X : Cx} {d : Nat} {r rc : Runner} {σ σ' : AS} {sc : Scope} {loc loc' : Loc}
theorem asVar_sound (H : AllSnd X d r) {x : Str} {xp p2 : Pos} {e : Expr} {f : Flw} (h : asVar r sc loc x e σ = some (f, loc', σ')) : X.VExec d sc loc (.Assign [.Name x xp] e p2) σ f loc' σ' := by
  delta asVar at h
  cases e with
  | ListComp elt gens sc' pos => exact b2_ h fun l s hl g => ob_ g fun loc₁ hs g => finX g (evComp_ H (fun gens => X.VExec d sc loc (.Assign [.Name x xp] (.ListComp elt gens sc' pos) p2) σ .next loc₁ s) hl fun g gs items src s hk h1 h2 hn => x_AssignComp hk h1 h2 hn hs)
  | _ => exact whenB_ h fun hk g => b2_ g fun v s h1 g => ob_ g fun loc₁ hs g => finX g (x_AssignName hk (H.evalT h1) hs)
theorem asAttr_sound (G : Good8 X) (H : AllSnd X d r) {o e : Expr} {n : Str} {p1 p2 : Pos} {f : Flw} (h : asAttr X.S r sc loc o n e σ = some (f, loc', σ')) : X.VExec d sc loc (.Assign [.Attribute o n p1] e p2) σ f loc' σ' :=
  b2_ h fun v s h1 g => b2_ g fun x s h2 g => rOwn_ g h2 fun i h2 g => onInst_ g fun C fs ho g => whenB_ g fun hf g => whenD_ g fun hn g => finX g (x_AssignAttr G.toGood (H.evalT h1) (H.eval h2) ho hf hn)
theorem asAll_sound (H : AllSnd X d r) {o e : Expr} {p0 p1 p2 : Pos} {f : Flw} (h : asAll r sc loc o e σ = some (f, loc', σ')) : X.VExec d sc loc (.Assign [.Subscript o (.Slice none none none p0) p1] e p2) σ f loc' σ' :=
  b2_ h fun v s h1 g => b2_ g fun x s h2 g => rOwn_ g h2 fun i h2 g => rLst_ g h1 fun ys h1 g => onList_ g fun xs ho g => whenD_ g fun hn g => whenD_ g fun hm g => finX g (x_AssignAll (H.eval h1) (H.eval h2) ho hn hm)
section
variable (G : Good8 X) (H : AllSnd X d r) (HC : d < 25 → AllSnd X (d + 1) rc) (hg : ∀ f args kw σ z, rc (.call f args kw) σ = some z → d < 25)
include G H HC hg
theorem asItem_sound {o k e : Expr} {p1 p2 : Pos} {f : Flw} (h : asItem X.S r rc sc loc o k e σ = some (f, loc', σ')) :
    X.VExec d sc loc (.Assign [.Subscript o k p1] e p2) σ f loc' σ' :=
  b2_ h fun v s h1 g => b2_ g fun x s h2 g => b2_ g fun y s h3 g => rOwn_ g h2 fun i h2 g => ob_ g fun ao ho g => by
    delta setO at g
    cases ao with
    | list xs => exact rInt_ g h3 fun j h3 g => rIt_ g h1 fun w h1 g => ob_ g fun xs' hc g => finX g (x_AssignItem (H.eval h1) (H.eval h2) (H.eval h3) ho hc)
    | inst C fs => exact ob_ g fun m hm g => b2_ g fun z s h4 g => finX g (x_AssignOwn G.toGood6 (hg _ _ _ _ _ (rv_some h4)) (H.eval h1) (H.eval h2) (H.eval h3) ho hm ((HC (hg _ _ _ _ _ (rv_some h4))).call h4))
    | _ => exact nex g
theorem asSub_sound {o k e : Expr} {p1 p2 : Pos} {f : Flw} (h : asSub X.S r rc sc loc o k e σ = some (f, loc', σ')) :
    X.VExec d sc loc (.Assign [.Subscript o k p1] e p2) σ f loc' σ' := by
  delta asSub at h
  cases k with
  | Slice a b c p =>
    exact whenB_ h fun hn gz => by
      have q := and_ hn
      have q2 := and_ q.2
      have e1 := Option.isNone_iff_eq_none.mp q.1
      have e2 := Option.isNone_iff_eq_none.mp q2.1
      have e3 := Option.isNone_iff_eq_none.mp q2.2
      subst e1 e2 e3
      exact asAll_sound H gz
  | _ => exact asItem_sound G H HC hg h
theorem exDel_sound {t : Expr} {p : Pos} {f : Flw} (h : exDel X.S r rc sc loc t σ = some (f, loc', σ')) :
    X.VExec d sc loc (.Delete [t] p) σ f loc' σ' :=
  onTgt_ (fun t => X.VExec d sc loc (.Delete [t] p) σ f loc' σ') h (fun _ _ => nex) (fun _ _ _ => nex) fun o k q g => b2_ g fun x s h2 g => b2_ g fun y s h3 g => rOwn_ g h2 fun i h2 g => onInst_ g fun C fs ho g => ob_ g fun m hm g => b2_ g fun z s h4 g =>
    finX g (x_Delete G.toGood6 (hg _ _ _ _ _ (rv_some h4)) (H.eval h2) (H.eval h3) ho hm ((HC (hg _ _ _ _ _ (rv_some h4))).call h4))
end
theorem auName_sound (H : AllSnd X d r) {x : Str} {xp p2 : Pos} {e : Expr} {f : Flw} (h : auName r sc loc x e σ = some (f, loc', σ')) : X.VExec d sc loc (.AugAssign (.Name x xp) .Add e p2) σ f loc' σ' :=
  ob_ h fun a ha g => b2_ g fun b s h1 g => ob_ g fun v hv g => ob_ g fun loc₁ hs g => finX g (x_AugName ha (H.eval h1) hv hs)
theorem auAttr_sound (G : Good8 X) (H : AllSnd X d r) {o e : Expr} {n : Str} {p1 p2 : Pos} {f : Flw} (h : auAttr X.S r sc loc o n e σ = some (f, loc', σ')) : X.VExec d sc loc (.AugAssign (.Attribute o n p1) .Add e p2) σ f loc' σ' :=
  b2_ h fun x s h1 g => rOwn_ g h1 fun i h1 g => onInst_ g fun C fs ho g => whenB_ g fun hf g => ob_ g fun a ha g => b2_ g fun b s h2 g => ob_ g fun v hv g =>
    onInst_ g fun C' fs' ho' g => whenB_ g fun hf' g => whenD_ g fun hn g => finX g (x_AugAttr G.toGood (H.eval h1) ho hf ha (H.eval h2) hv ho' hf' hn)
theorem foItems_sound (H : AllSnd X d r) {t e : Expr} {b : List Stmt} {p : Pos} {v : V} {f : Flw} {σ₁ : AS} (hs : notSet e = true) (h1 : X.VEval d sc loc e σ v σ₁) (h : foItems r sc loc t b v σ₁ = some (f, loc', σ')) : X.VExec d sc loc (.For t e b [] p) σ f loc' σ' :=
  b2_ h fun xs g hx q => x_For (itemsOf_sound hs h1 hx) (H.forL q)
theorem exFor_sound (G : Good8 X) (H : AllSnd X d r) {t e : Expr} {b : List Stmt} {p : Pos} {f : Flw} (h : exFor r sc loc t e b σ = some (f, loc', σ')) : X.VExec d sc loc (.For t e b [] p) σ f loc' σ' := by
  obtain ⟨f', hf⟩ := G.rds
  exact nmElse_ (fun e' => e' = e → X.VExec d sc loc (.For t e' b [] p) σ f loc' σ') h (fun x xp g _ => b2_ g fun v s h1 g => oElse_ g
    (fun i hi g => rOwn_ hi h1 fun j h1 hi => onCit_ hi (fun k ho hi => by cases hi; exact x_ForC G.toGood7 hf rfl (H.eval h1) ho (H.forC g)) (fun k ho hi => by cases hi; exact x_ForC G.toGood7 hf rfl (H.eval h1) ho (H.forC g)))
    fun _ g => foItems_sound H rfl (H.eval h1) g)
    (fun g _ => b3_ g fun xs g s h1 q => x_For (H.iter h1) (H.forL q)) rfl
theorem exec_sound (G : Good8 X) (H : AllSnd X d r) (HC : d < 25 → AllSnd X (d + 1) rc) (hg : ∀ f args kw σ z, rc (.call f args kw) σ = some z → d < 25) {st : Stmt} {f : Flw} (h : stepExec X.S r rc sc loc st σ = some (f, loc', σ')) : X.VExec d sc loc st σ f loc' σ' := by
  delta stepExec at h
  cases st with
  | Assign ts e pos => exact on1_ (fun ts => X.VExec d sc loc (.Assign ts e pos) σ f loc' σ') h fun t g => onTgt_ (fun t => X.VExec d sc loc (.Assign [t] e pos) σ f loc' σ') g (fun x p g => asVar_sound H g) (fun o n p g => asAttr_sound G H g) (fun o k p g => asSub_sound G H HC hg g)
  | AugAssign t op e pos =>
    exact whenB_ h fun ha gz => by
      have ha := isAdd_is ha
      subst ha
      exact onTgt_ (fun t => X.VExec d sc loc (.AugAssign t .Add e pos) σ f loc' σ') gz (fun x p g => auName_sound H g) (fun o n p g => auAttr_sound G H g) (fun o k p => nex)
  | If => exact b2_ h fun c s h1 g => x_If (H.cond h1) (H.execs g)
  | For t e b o pos => exact whenNil_ (fun o => X.VExec d sc loc (.For t e b o pos) σ f loc' σ') h fun g => exFor_sound G H g
  | While t b o pos => exact whenNil_ (fun o => X.VExec d sc loc (.While t b o pos) σ f loc' σ') h fun g => x_While (H.whileL g)
  | Return e pos =>
    exact ob_ h fun e he gz => by
      subst he
      exact b2_ gz fun v s h1 g => finX g (x_Return (H.eval h1))
  | Expr => exact whenB_ h fun hk g => b2_ g fun v s h1 g => finX g (x_Expr hk (H.eval h1))
  | Continue => exact finX h x_Continue
  | Delete ts pos => exact on1_ (fun ts => X.VExec d sc loc (.Delete ts pos) σ f loc' σ') h fun t g => exDel_sound G H HC hg g
  | _ => exact nex h
theorem execs_sound (H : AllSnd X d r) {sts : List Stmt} {f : Flw} (h : stepExecs r sc loc sts σ = some (f, loc', σ')) : X.VExecs d sc loc sts σ f loc' σ' := by
  delta stepExecs at h
  cases sts with
  | nil => exact finXs h x_nil
  | cons st rest => exact b3_ h fun f₁ loc₁ s h1 g => nextElse_ g h1 (fun h1 g => x_cons_next (H.exec h1) (H.execs g)) fun hf g => finXs g (x_cons_out hf (H.exec h1))
theorem for_sound (H : AllSnd X d r) {t : Expr} {g : Src} {items : List It} {b : List Stmt} {f : Flw} (h : stepFor r sc loc t g items b σ = some (f, loc', σ')) : X.VFor d sc loc t g items b σ f loc' σ' := by
  delta stepFor at h
  cases items with
  | nil => exact finF h f_nil
  | cons i rest =>
    exact whenB_ h fun hsh q => whenB_ q fun hok q => ob_ q fun loc₁ hu q => b3_ q fun f₁ loc₂ s h1 q => retElse_ q h1
      (fun v h1 q => finF q (f_cons (imp_ hsh) hok hu (H.execs h1) (fun z => absurd rfl (z _)) (fun z => absurd rfl (z _)) (fun v e => by cases e; exact ⟨rfl, rfl, rfl⟩)))
      fun hn q => whenB_ q fun ho q => f_cons (imp_ hsh) hok hu (H.execs h1) (fun _ => ho) (fun _ => H.forL q) (fun v e => absurd e (hn v))
theorem while_sound (H : AllSnd X d r) {t : Expr} {b : List Stmt} {f : Flw} (h : stepWhile r sc loc t b σ = some (f, loc', σ')) : X.VWhile d sc loc t b σ f loc' σ' :=
  b2_ h fun c s h1 g => bif_ g (fun e g => b3_ g fun f₁ loc₂ s2 h2 g => retElse_ g h2
        (fun v h2 g => finW g (w_turn (e ▸ H.cond h1) (H.execs h2) (fun z => absurd rfl (z _)) (fun v e => by cases e; exact ⟨rfl, rfl, rfl⟩)))
        fun hn g => w_turn (e ▸ H.cond h1) (H.execs h2) (fun _ => H.whileL g) (fun v e => absurd e (hn v)))
    fun e g => finW g (w_out (e ▸ H.cond h1))
theorem forC_sound (G : Good8 X) (hd : d ≤ 25) (H : AllSnd X d r) (HC : d < 25 → AllSnd X (d + 1) rc) (hg : ∀ f args kw σ z, rc (.call f args kw) σ = some z → d < 25) {t : Expr} {k : Nat} {b : List Stmt} {f : Flw} (h : stepForC X.S r rc sc loc t k b σ = some (f, loc', σ')) : X.VForC d sc loc t k b σ f loc' σ' :=
  onCit_ h (fun i hk g => onInst_ g fun C fs ho g => whenB_ g fun _ g => ob_ g fun m hm g => b2_ g fun v s h1 g => rStr_ g h1 fun x h1 g => onCit_ g (fun j hk' g => whenD_ g fun hj gz => by
      subst hj
      exact bif_ gz (fun hx gy => by
        have hx := of_decide_eq_true hx
        subst hx
        exact finFC gy (fc_end G.toGood7 hm hd hk ((HC (hg _ _ _ _ _ (rv_some h1))).callC h1) hk'))
        fun hx g => ob_ g fun loc₁ hu g => b3_ g fun f₁ loc₂ s h2 g => retElse_ g h2
          (fun v h2 g => finFC g (fc_turn G.toGood7 hm hd hk ((HC (hg _ _ _ _ _ (rv_some h1))).callC h1) hk' (of_decide_eq_false hx) hu (H.execs h2) (fun z => absurd rfl (z _)) (fun v e => by cases e; exact ⟨rfl, rfl, rfl⟩)))
          fun hn g => fc_turn G.toGood7 hm hd hk ((HC (hg _ _ _ _ _ (rv_some h1))).callC h1) hk' (of_decide_eq_false hx) hu (H.execs h2) (fun _ => H.forC g) (fun v e => absurd e (hn v))) fun _ _ => nex)
    fun i hk g => by
      obtain ⟨f', hf⟩ := G.rds
      exact finFC g (fc_done G.toGood7 hf hk)
end
end Mine
end

-- part M53
section
namespace Mine
open PySem PySem.W PyProof.Rows PySem.Calls PySem.Spec

section
variable {X : Cx} {d : Nat} {r rc : Runner} {σ σ' : AS} {sc : Scope} {loc loc' : Loc}
theorem tests_of (H : AllSnd X d r) {ifs : List Expr} {b : Bool} (h : cpIf r sc loc ifs σ = some (b, σ')) : X.VTests d sc loc ifs σ b σ' := by
  delta cpIf at h
  cases ifs with
  | nil => exact fin_ (P := fun b t => X.VTests d sc loc [] σ b t) h (.inl ⟨rfl, rfl, rfl⟩)
  | cons c l => exact whenNil_ (fun l => X.VTests d sc loc (c :: l) σ b σ') h fun g => .inr ⟨_, rfl, H.cond g⟩
theorem tf_ {C : Prop} {b : Bool} (h : b = true) (e : b = false) : C := by rw [h] at e; cases e
theorem comp_sound (H : AllSnd X d r) {elt : Expr} {g : Comprehension} {gs : List Comprehension} {src : Src} {items out : List It} (h : stepComp r sc loc elt g gs src items σ = some (out, σ')) : X.VComp d sc loc elt g gs src items σ out σ' := by
  delta stepComp at h
  cases items with
  | nil => exact finP h cp_nil
  | cons x rest =>
    exact whenB_ h fun hsh q => whenB_ q fun c2 q => whenB_ q fun c3 q => whenB_ q fun c4 q => whenB_ q fun c5 q => ob_ q fun loc₁ hu q => b2_ q fun ok s₁ h1 q => b2_ q fun here s₂ h2 q => whenB_ q fun hs q => b2_ q fun o s₃ h3 q => finP q (by
      clear q h
      have T := tests_of H h1
      have h3 := H.comp h3
      delta cpHere at h2
      cases gs with
      | nil =>
        refine bif_ h2 (fun e h2 => b2_ h2 fun v s₄ h4 h2 => rIt_ h2 h4 fun w h4 h2 => ?_) fun e h2 => ?_
        · exact fin_ (P := fun here s₂ => okSrc s₂ src = true → X.VComp d sc loc elt g [] src rest s₂ o s₃ → X.VComp d sc loc elt g [] src (x :: rest) σ (here ++ o) s₃) h2
            (fun hs h3 => cp_last (imp_ hsh) c2 c4 c3 hu T (fun _ => ⟨H.eval h4, rfl⟩) (tf_ e) hs h3) hs h3
        · exact fin_ (P := fun here s₂ => okSrc s₂ src = true → X.VComp d sc loc elt g [] src rest s₂ o s₃ → X.VComp d sc loc elt g [] src (x :: rest) σ (here ++ o) s₃) h2
            (fun hs h3 => cp_last (w := .at (.int 0)) (imp_ hsh) c2 c4 c3 hu T (fun e' => tf_ e' e) (fun _ => ⟨rfl, rfl⟩) hs h3) hs h3
      | cons g' gs' =>
        have c6 := (and_ c5).1
        refine bif_ h2 (fun e h2 => b3_ h2 fun xs src' s₄ h4 h2 => ?_) fun e h2 => ?_
        · exact cp_more (imp_ hsh) c2 c4 c3 hu T (fun _ => ⟨H.iter h4, H.comp h2⟩) (tf_ e) hs h3 (fun env x => folded_pure c6 env x)
        · exact fin_ (P := fun here s₂ => okSrc s₂ src = true → X.VComp d sc loc elt g (g' :: gs') src rest s₂ o s₃ → X.VComp d sc loc elt g (g' :: gs') src (x :: rest) σ (here ++ o) s₃) h2
            (fun hs h3 => cp_more (its := []) (src' := {}) (σ₂ := s₁) (imp_ hsh) c2 c4 c3 hu T (fun e' => tf_ e' e) (fun _ => ⟨rfl, rfl⟩) hs h3 (fun env x => folded_pure c6 env x)) hs h3)
end
end Mine
end

-- part M54
section
namespace Mine
open PySem PySem.W PyProof.Rows PySem.Calls PySem.Spec

section
variable {X : Cx} {d : Nat} {r rc : Runner} {σ σ' : AS} {sc : Scope} {loc loc' : Loc}
theorem primLen_sound {args : List V} {a : V} (h : primLen args = some a) : X.VCall d (.val (.builtin "len")) args [] σ a σ :=
  on1_ (fun l => X.VCall d (.val (.builtin "len")) l [] σ a σ) h fun v g => lstElse_ (fun v' => X.VCall d (.val (.builtin "len")) [v'] [] σ a σ → X.VCall d (.val (.builtin "len")) [v] [] σ a σ) g id
    (fun xs q g => whenD_ g fun hn g => q (finK1 g (c_len_lst hn)))
    fun g => onStr_ (fun v' => X.VCall d (.val (.builtin "len")) [v'] [] σ a σ → X.VCall d (.val (.builtin "len")) [v] [] σ a σ) g id
      fun x q g => whenD_ g fun hn g => q (finK1 g (c_len_str hn))
theorem primSum_sound {args : List V} {a : V} (h : primSum args = some a) : X.VCall d (.val (.builtin "sum")) args [] σ a σ :=
  on1_ (fun l => X.VCall d (.val (.builtin "sum")) l [] σ a σ) h fun v g => onLst_ (fun v' => X.VCall d (.val (.builtin "sum")) [v'] [] σ a σ → X.VCall d (.val (.builtin "sum")) [v] [] σ a σ) g id
    fun xs q g => whenD_ g fun hn g => whenB_ g fun hs g => ob_ g fun k hk g => q (finK1 g (c_sum hn hs hk))
theorem primMax_sound {args : List V} {a : V} (h : primMax args = some a) : X.VCall d (.val (.builtin "max")) args [] σ a σ :=
  on2_ (fun l => X.VCall d (.val (.builtin "max")) l [] σ a σ) h fun v w g => onStr_ (fun v' => X.VCall d (.val (.builtin "max")) [v', w] [] σ a σ → X.VCall d (.val (.builtin "max")) [v, w] [] σ a σ) g id
    fun x q g => onStr_ (fun v' => X.VCall d (.val (.builtin "max")) [.str x, v'] [] σ a σ → X.VCall d (.val (.builtin "max")) [v, w] [] σ a σ) g q
      fun y q g => q (finK1 g c_max)
theorem primSorted_sound {args : List V} {a : V} (h : primSorted args = some a) : X.VCall d (.val (.builtin "sorted")) args [] σ a σ :=
  on1_ (fun l => X.VCall d (.val (.builtin "sorted")) l [] σ a σ) h fun v g => onLst_ (fun v' => X.VCall d (.val (.builtin "sorted")) [v'] [] σ a σ → X.VCall d (.val (.builtin "sorted")) [v] [] σ a σ) g id
    fun xs q g => ob_ g fun l hl g => whenD_ g fun hn g => q (finK1 g (c_sorted hl hn))
theorem prim_sound {n : String} {args : List V} {a : V} (h : prim n args = some a) : X.VCall d (.val (.builtin n)) args [] σ a σ :=
  strElse_ (fun n => X.VCall d (.val (.builtin n)) args [] σ a σ) h primLen_sound fun h => strElse_ (fun n => X.VCall d (.val (.builtin n)) args [] σ a σ) h primSum_sound fun h =>
    strElse_ (fun n => X.VCall d (.val (.builtin n)) args [] σ a σ) h primMax_sound fun h => strElse_ (fun n => X.VCall d (.val (.builtin n)) args [] σ a σ) h primSorted_sound nex
theorem primT_sound {n : String} {v : V} {a : V} (h : primT n [v] = some a) : X.VCall d (.val (.type n)) [v] [] σ a σ :=
  onAt_ (fun v' => X.VCall d (.val (.type n)) [v'] [] σ a σ → X.VCall d (.val (.type n)) [v] [] σ a σ) (show onAt v _ = some a from h) id fun y q g => q (by
    clear q h
    cases y with
    | int i => exact strElse_ (fun n => X.VCall d (.val (.type n)) [.int i] [] σ a σ) g (fun g => whenD_ g fun h0 g => whenD_ g fun h9 g => finK1 g (c_str h0 h9)) nex
    | str x => exact strElse_ (fun n => X.VCall d (.val (.type n)) [.str x] [] σ a σ) g (fun g => ob_ g fun k hk g => finK1 g (c_int hk)) fun g => strElse_ (fun n => X.VCall d (.val (.type n)) [.str x] [] σ a σ) g (fun g => finK1 g c_typeS) nex)
theorem callT_sound (G : Good8 X) {n : String} {args : List V} {a : V} (h : callT n args σ = some (a, σ')) : X.VCall d (.val (.type n)) args [] σ a σ' :=
  on1_ (fun l => X.VCall d (.val (.type n)) l [] σ a σ') h fun v g => strElse_ (fun n => X.VCall d (.val (.type n)) [v] [] σ a σ') g
    (fun g => onLst_ (fun v' => X.VCall d (.val (.type "dict")) [v'] [] σ a σ' → X.VCall d (.val (.type "dict")) [v] [] σ a σ') g id fun xs q g => ob_ g fun kvs hk g => whenD_ g fun hl g => whenD_ g fun hn g => q (finK g (c_dict G.toGood2 hk hl hn)))
    fun g => ownElse_ (fun v' => X.VCall d (.val (.type n)) [v'] [] σ a σ' → X.VCall d (.val (.type n)) [v] [] σ a σ') g id
      (fun i q g => q (strElse_ (fun n => X.VCall d (.val (.type n)) [.own i] [] σ a σ') g (fun g => onList_ g fun xs ho g => finK g (c_typeL ho)) nex))
      fun g => retK g primT_sound
section
variable (G : Good8 X) (HC : AllSnd X (d + 1) rc) (hd : d < 25)
include G HC hd
theorem callF_sound {b : Addr} {fn : Fn} (hf : X.S.fn b = some fn) {args : List V} {kw : List (Str × V)} {a : V} (h : callF rc fn args kw σ = some (a, σ')) : X.VCallC d b args kw σ a σ' :=
  ob_ h fun loc hl g => whenB_ g fun hk g => bif_ g
    (fun _ g => b3_ g fun fl loc₁ s h1 g => whenB_ g fun hc g => finCC g (c_inl G.toGood hf hd hl (eq_of_beq hk) (HC.execs h1) (fun e => by subst e; cases hc)))
    fun _ g => whenB_ g fun h1 g => whenB_ g fun h2 g => b3_ g fun fl loc₁ τ h3 g => whenB_ g fun hv g => whenB_ g fun hc g => finCC g (c_pure G.toGood hf hd hl (eq_of_beq hk) h1 h2 (HC.execs h3) (fun e => by subst e; cases hc) rfl hv)
theorem callR_sound {b : Addr} {args : List V} {kw : List (Str × V)} {a : V} (h : callR X.S rc b args kw σ = some (a, σ')) : X.VCallC d b args kw σ a σ' :=
  oElse_ h
    (fun init hi g => whenNil_ (fun kw => X.VCallC d b args kw σ a σ') g fun g => b2_ g fun z s h1 g => by
      cases z with
      | none => exact finCC g (c_cls G.toGood5 hi hd (HC.callC h1))
      | _ => exact nex g)
    fun _ g => natElse_ (fun b' => X.S.cls b' = X.S.cls b → (X.S.fn b' = X.S.fn b) → X.VCallC d b' args kw σ a σ') g
      (fun g _ _ => whenNil_ (fun kw => X.VCallC d X.S.line args kw σ a σ') g fun g => on1_ (fun args => X.VCallC d X.S.line args [] σ a σ') g fun v g => onStr_ (fun v' => X.VCallC d X.S.line [v'] [] σ a σ' → X.VCallC d X.S.line [v] [] σ a σ') g id
        fun text q g => onTbl_ g fun n h0 g => whenD_ g fun hn g => whenD_ g fun ht gz => q (by
          subst hn
          obtain ⟨F, c, P, mg, LK⟩ := G.line
          exact c_line G.toGood LK hd h0 ht (HC.call gz)))
      (fun _ g _ _ => ob_ g fun fn hf g => callF_sound G HC hd hf g) rfl rfl
end
theorem call_sound (G : Good8 X) (HC : d < 25 → AllSnd X (d + 1) rc) {f : V} {args : List V} {kw : List (Str × V)} {a : V} (h : stepCall X.S d rc f args kw σ = some (a, σ')) : X.VCall d f args kw σ a σ' ∧ ∀ c, f = .val (.ref c) → X.VCallC d c args kw σ a σ' :=
  whenD_ h fun hd g => onFn_ (fun f' => (X.VCall d f' args kw σ a σ' ∧ ∀ c, f' = .val (.ref c) → X.VCallC d c args kw σ a σ') → X.VCall d f args kw σ a σ' ∧ ∀ c, f = .val (.ref c) → X.VCallC d c args kw σ a σ') g id
    (fun n q g => q ⟨whenNil_ (fun kw => X.VCall d (.val (.builtin n)) args kw σ a σ') g fun g => retK g prim_sound, fun c e => by cases e⟩)
    (fun n q g => q ⟨whenNil_ (fun kw => X.VCall d (.val (.type n)) args kw σ a σ') g fun g => callT_sound G g, fun c e => by cases e⟩)
    fun b q g => q ⟨(callR_sound G (HC hd) hd g).call, fun c e => by cases e; exact callR_sound G (HC hd) hd g⟩

theorem pr_ {α : Type} {f : α → Res} {o : Option (α × AS)} {res : Res} (P : Res → AS → Prop) (h : o.map (fun p => (f p.1, p.2)) = some (res, σ')) (k : ∀ a, o = some (a, σ') → P (f a) σ') : P res σ' := by
  cases o with
  | none => cases h
  | some p => cases h; exact k p.1 rfl
theorem pr3_ {α β : Type} {f : α → β → Res} {o : Option (α × β × AS)} {res : Res} (P : Res → AS → Prop) (h : o.map (fun p => (f p.1 p.2.1, p.2.2)) = some (res, σ')) (k : ∀ a b, o = some (a, b, σ') → P (f a b) σ') : P res σ' := by
  cases o with
  | none => cases h
  | some p => cases h; exact k p.1 p.2.1 rfl
theorem step_sound (G : Good8 X) (hd : d ≤ 25) (H : AllSnd X d r) (HC : d < 25 → AllSnd X (d + 1) rc) (hg : ∀ f args kw σ z, rc (.call f args kw) σ = some z → d < 25) : AllSnd X d (step X.S r d rc) := by
  intro j σ res σ' h
  cases j with
  | eval => exact pr_ (Snd X d _ σ) h fun a hc => eval_sound G hd H hc
  | evalT => exact pr_ (Snd X d _ σ) h fun a hc => evalT_sound H hc
  | evals => exact pr_ (Snd X d _ σ) h fun a hc => evals_sound H hc
  | cond => exact pr_ (Snd X d _ σ) h fun a hc => cond_sound H hc
  | iter => exact pr3_ (Snd X d _ σ) h fun a g hc => iter_sound G H hc
  | exec => exact pr3_ (Snd X d _ σ) h fun a g hc => exec_sound G H HC hg hc
  | execs => exact pr3_ (Snd X d _ σ) h fun a g hc => execs_sound H hc
  | forL => exact pr3_ (Snd X d _ σ) h fun a g hc => for_sound H hc
  | forC => exact pr3_ (Snd X d _ σ) h fun a g hc => forC_sound G hd H HC hg hc
  | whileL => exact pr3_ (Snd X d _ σ) h fun a g hc => while_sound H hc
  | comp => exact pr_ (Snd X d _ σ) h fun a hc _ => comp_sound H hc
  | call => exact pr_ (Snd X d _ σ) h fun a hc => call_sound G HC hc
theorem run_guard (S : Setup) : ∀ (n d : Nat) (f : V) (args : List V) (kw : List (Str × V)) (σ : AS) (z : Res × AS), run S n (d + 1) (.call f args kw) σ = some z → d < 25
  | 0, _, _, _, _, _, _, h => by cases h
  | n + 1, d, f, args, kw, σ, z, h => pr_ (fun _ _ => d < 25) (show (stepCall S (d + 1) (run S n (d + 2)) f args kw σ).map _ = some (z.1, z.2) from h) fun a hc => whenD_ hc fun hd _ => Nat.lt_of_succ_lt hd
/-- what the small interpreter gives is what the program does -/
theorem run_sound (G : Good8 X) : ∀ (n d : Nat), d ≤ 25 → AllSnd X d (run X.S n d)
  | 0, _, _ => fun _ _ _ _ h => by cases h
  | n + 1, d, hd => step_sound G hd (run_sound G n d hd) (fun h => run_sound G n (d + 1) h) (run_guard X.S n d)
end
end Mine
end

-- part M60
section
namespace Mine
open PySem PySem.W PyProof.Rows PySem.Calls PySem.Spec Builtin.Re

theorem len2 {α : Type} : ∀ {l : List α}, l.length = 2 → ∃ a b, l = [a, b]
  | [a, b], _ => ⟨a, b, rfl⟩
theorem len3 {α : Type} : ∀ {l : List α}, l.length = 3 → ∃ a b c, l = [a, b, c]
  | [a, b, c], _ => ⟨a, b, c, rfl⟩
/-- the objects below the law that the proof may look at (251, the code table that grows, is not among them) -/
noncomputable def asK : List Addr := [0, 1, 2, 3, 4, 5, 6, 7, 8, 9, 10, 11, 12, 13, 14, 15, 32, 33, 34, 35, 36, 37, 38, 39, 42, 43, 44, 45, 46, 47, 48, 56, 57, 58, 59, 60, 61, 62, 63, 64, 65, 66, 67, 68, 69, 70, 71, 72, 73, 74, 75, 76, 77, 78, 79, 80, 81, 82, 83, 84, 85, 86, 87, 88, 94, 95, 99, 100, 108, 109, 110, 111, 112, 113, 114, 115, 116, 117, 118, 119, 120, 121, 122, 123, 124, 125, 126, 127, 128, 129, 130, 131, 132, 133, 134, 135, 136, 137, 138, 139, 140, 141, 142, 143, 144, 145, 146, 147, 148, 149, 150, 151, 152, 153, 154, 155, 156, 157, 158, 159, 160, 161, 162, 163, 164, 165, 166, 167, 168, 169, 170, 171, 172, 173, 174, 175, 176, 177, 178, 179, 180, 181, 182, 183, 184, 185, 186, 187, 188, 189, 190, 191, 192, 193, 194, 195, 196, 197, 198, 199, 200, 201, 202, 203, 204, 205, 206, 207, 208, 209, 210, 211, 212, 213, 214, 215, 216, 217, 218, 219, 220, 221, 222, 223, 224, 225, 228, 229, 230, 231, 232, 233, 234, 235, 236, 237, 238, 239, 240, 241, 242, 243, 244, 245, 246, 247, 248, 249, 250, 252, 253, 254, 255, 256, 257, 258, 259, 260, 261, 262, 263, 264, 265, 266, 267, 268, 269, 270, 271, 272, 273, 274, 275, 276, 277, 278, 279, 280, 281, 282, 283]
/-- what a heap has there -/
noncomputable def kf (h : Heap) : Frag := asK.filterMap fun a => (h.get? a).map fun o => (a, o)
theorem kf_lookup {h : Heap} {a : Addr} {o : Obj} : ∀ {l : List Addr}, (l.filterMap fun a => (h.get? a).map fun o => (a, o)).lookup a = some o → h.get? a = some o
  | [], e => by cases e
  | b :: r, e => by
    rw [List.filterMap_cons] at e
    cases hb : h.get? b with
    | none => rw [hb] at e; exact kf_lookup e
    | some x =>
      rw [hb] at e
      change List.lookup a ((b, x) :: _) = _ at e
      rw [List.lookup_cons] at e
      split at e
      · rename_i q
        cases e
        rw [eq_of_beq q]; exact hb
      · exact kf_lookup e
theorem kf_in (h : Heap) : (kf h).In h := fun _ _ e => kf_lookup e
theorem kf_same' {h h' : Heap} : ∀ {l : List Addr}, (∀ a ∈ l, h'.get? a = h.get? a) → (l.filterMap fun a => (h'.get? a).map fun o => (a, o)) = l.filterMap fun a => (h.get? a).map fun o => (a, o)
  | [], _ => rfl
  | b :: r, e => by
    rw [List.filterMap_cons, List.filterMap_cons, e b (List.mem_cons_self ..), kf_same' fun a ha => e a (List.mem_cons_of_mem _ ha)]
theorem kf_same {h h' : Heap} (e : ∀ a ∈ asK, h'.get? a = h.get? a) : kf h' = kf h := kf_same' e
noncomputable def pures : List Addr := [232, 239, 244, 249, 263, 268, 278, 48]
noncomputable def usedF : List Addr := [232, 239, 244, 249, 256, 263, 268, 273, 278, 283, 48, 62, 69, 76, 83, 115, 122, 136, 141, 175, 180, 187]
/-- where each def stands in the text -/
noncomputable def paths : List (Addr × Nat × Option Nat) := [(232, 61, none), (239, 62, none), (244, 63, none), (249, 64, none), (256, 65, none), (263, 66, none), (268, 67, none), (273, 68, none), (278, 69, none), (283, 70, none), (48, 53, none),
  (62, 55, some 0), (69, 55, some 1), (76, 55, some 2), (83, 55, some 3), (115, 59, some 0), (122, 59, some 1), (136, 59, some 3), (141, 59, some 4), (175, 59, some 9), (180, 59, some 10), (187, 59, some 11)]
noncomputable def theBody : List Stmt := PySem.Challenge.rw_re0165_01.row.toRowW.prog.main.body
noncomputable def stR (a : Addr) : Option Stmt := match paths.lookup a with
  | some (i, none) => theBody[i]?
  | some (i, some j) => (match theBody[i]? with
    | some (.ClassDef _ _ _ b _ _ _ _ _ _ _) => b[j]?
    | _ => none)
  | none => none
structure DefR where
  ps : Arguments
  body : List Stmt
  sc : Scope
noncomputable def dR (a : Addr) : DefR := match stR a with
  | some (.FunctionDef _ ps b _ _ _ sc _ _ _) => ⟨ps, b, sc⟩
  | _ => ⟨noParams, [], lamScope⟩
noncomputable def fnR (a : Addr) : Fn := { a := a, ps := (dR a).ps.args.map (·.arg) ++ (dR a).ps.kwonlyargs.map (·.arg), body := (dR a).body, sc := (dR a).sc, inl := !pures.contains a, df := (dR a).ps.defaults.map fun _ => V.none, kwn := ((dR a).ps.kwonlyargs.map (·.arg)).head? }
noncomputable def fnA (_ : Params) (a : Addr) : Fn := fnR a
noncomputable def tabT (K : Frag) (a : Addr) : Option (List (Str × Int)) := match K.lookup a with
  | some ⟨_, _, .dict es _, _⟩ => es.toList.mapM fun e => match e with | ⟨_, .str x _, .int i _⟩ => some (x, i) | _ => none
  | _ => none
noncomputable def keeps : List Addr := [232, 239, 244, 249, 256, 263, 268, 273, 278, 283, 48, 62, 69, 76, 83, 115, 122, 136, 141, 175, 180, 187, 86, 223]
noncomputable def meths : List (Addr × Str × Addr) := [(86, "__init__", 62), (86, "_read_char", 69), (86, "get_token", 76), (86, "push_token", 83), (223, "__init__", 115), (223, "_convert_string_type", 122), (223, "__setitem__", 136), (223, "__delitem__", 141), (223, "keys", 175), (223, "values", 180), (223, "items", 187)]
noncomputable def methS (C : Addr) (n : Str) : Option Addr := (meths.find? fun p => p.1 == C && p.2.1 == n).map fun p => p.2.2
noncomputable def flds : List (Addr × Str) := [(86, "lineno"), (86, "instream"), (86, "whitespace"), (86, "pushback"), (223, "_headers")]
noncomputable def quietT (a : Addr) (x : Str) : Bool := (a == 95 || a == 100) && (decide (x.cps.size < 1000000) && x.cps.toList.all fun c => decide (32 ≤ c) && decide (c < 127))
/-- the table of exact tokens -/
noncomputable def tabR : List (Str × Int) := ("!", 54) :: ("!=", 28) :: ("%", 24) :: ("%=", 40) :: ("&", 19) :: ("&=", 41) :: ("(", 7) :: (")", 8) :: ("*", 16) :: ("**", 35) :: ("**=", 46) :: ("*=", 38) :: ("+", 14) :: ("+=", 36) :: (",", 12) :: ("-", 15) :: ("-=", 37) :: ("->", 51) :: (".", 23) :: ("...", 52) :: ("/", 17) :: ("//", 47) :: ("//=", 48) :: ("/=", 39) :: (":", 11) :: (":=", 53) :: (";", 13) :: ("<", 20) :: ("<<", 33) :: ("<<=", 44) :: ("<=", 29) :: ("=", 22) :: ("==", 27) :: (">", 21) :: (">=", 30) :: (">>", 34) :: (">>=", 45) :: ("@", 49) :: ("@=", 50) :: ("[", 9) :: ("]", 10) :: ("^", 32) :: ("^=", 43) :: ("{", 25) :: ("|", 18) :: ("|=", 42) :: ("}", 26) :: ("~", 31) :: []
noncomputable def glMain : List (Str × V) := [("NT_OFFSET", .int 256), ("EXACT_TOKEN_TYPES", .val (.ref 39)), ("ISTERMINAL", .val (.ref 48)), ("_netrclex", .val (.ref 86)), ("_name_disallowed_re", .val (.ref 95)), ("_value_disallowed_re", .val (.ref 100)), ("Headers", .val (.ref 223)), ("_law_cells", .val (.ref 232)), ("_law_drawn", .val (.ref 239)), ("_law_spelled", .val (.ref 244)), ("_law_written", .val (.ref 249)), ("_law_line", .val (.ref 256)), ("_law_figures", .val (.ref 263)), ("_law_is_part", .val (.ref 268)), ("_law_kept", .val (.ref 273)), ("_law_due", .val (.ref 278)), ("law", .val (.ref 283))]
noncomputable def glBi : List Str := ["enumerate", "str", "zip", "range", "len", "dict", "sum", "sorted", "iter", "type", "list", "TypeError", "__debug__", "ValueError", "AssertionError", "repr", "max", "min", "int", "tuple", "isinstance", "all", "any", "set", "bool", "reversed", "abs"]
noncomputable def glR (x : Str) : Option V := match glMain.lookup x with
  | some v => some v
  | none => if glBi.contains x then (bootBuiltins x).map toV else none
noncomputable def SR : Setup where
  gl := glR
  fn a := if usedF.contains a then some (fnR a) else none
  cls a := if a = 86 then some 62 else if a = 223 then some 115 else none
  meth := methS
  keep a := keeps.contains a
  fld C n := flds.any fun p => p.1 == C && p.2 == n
  tab a := if a = 39 then some tabR else none
  quiet := quietT
  line := 256
  lexer := 86
  rd := some 69
noncomputable def SP (_ : Params) : Setup := SR
noncomputable def theZ (prog : Program) : Shapes where
  stream := fun _ h fp x => streamZ h fp x
  citer := fun _ h fp a live => citerZ 69 h fp a live
  dict := fun w h a kvs => DictRep prog w h a kvs
  tbl := fun h a n => a = 251 ∧ tblZ h a n
  streamK := fun ⟨f, dd, fr, cd, ct, ca, l, x, p, e, e1, e2, e3, S⟩ k => ⟨f, dd, fr, cd, ct, ca, l, x, p, e, e1, e2, e3, S.keep (e ▸ k)⟩
  citerK := fun ⟨I, q, t, e, h1, h2⟩ k => ⟨I, q, t, e, k _ (by simp [e]) _ h1, k _ (by simp [e]) _ h2⟩
  tblK := fun ⟨e, ps, h1, r⟩ k => ⟨e, ps, k _ h1, r⟩
  dictK := fun ⟨vs, ⟨o, es, ep, h1, r⟩, q⟩ k => ⟨vs, ⟨o, es, ep, k _ h1, r⟩, q⟩

section
variable {P : Params} {h : Heap}
theorem binds1 {fd : FuncData} {f : Fn} (hn : f.ps.length = 1) (hd : f.df = []) (hk : f.kwn = none) (h : ∀ a, bindArgs fd ⟨[a], []⟩ = pure (f.ps.zip [a])) (s : Shared) (vs : List Value) (kvs : List (Str × Value)) (hv : kvs.map (·.1) = f.kwn.toList) (hl : (fullArgs f vs kvs).length = f.ps.length) : BindsTo s fd ⟨vs, kvs⟩ (f.ps.zip (fullArgs f vs kvs)) := by
  rw [hk] at hv
  cases kvs with | cons => cases hv | nil =>
  have e : fullArgs f vs [] = vs := by unfold fullArgs; rw [hd]; simp
  rw [e] at hl ⊢
  rw [hn] at hl
  obtain ⟨a, rfl⟩ := List.length_eq_one_iff.mp hl
  exact BindsTo.of_eq (h a)
theorem binds2 {fd : FuncData} {f : Fn} (hn : f.ps.length = 2) (hd : f.df = []) (hk : f.kwn = none) (h : ∀ a b, bindArgs fd ⟨[a, b], []⟩ = pure (f.ps.zip [a, b])) (s : Shared) (vs : List Value) (kvs : List (Str × Value)) (hv : kvs.map (·.1) = f.kwn.toList) (hl : (fullArgs f vs kvs).length = f.ps.length) : BindsTo s fd ⟨vs, kvs⟩ (f.ps.zip (fullArgs f vs kvs)) := by
  rw [hk] at hv
  cases kvs with | cons => cases hv | nil =>
  have e : fullArgs f vs [] = vs := by unfold fullArgs; rw [hd]; simp
  rw [e] at hl ⊢
  rw [hn] at hl
  obtain ⟨a, b, rfl⟩ := len2 hl
  exact BindsTo.of_eq (h a b)
theorem binds3 {fd : FuncData} {f : Fn} (hn : f.ps.length = 3) (hd : f.df = []) (hk : f.kwn = none) (h : ∀ a b c, bindArgs fd ⟨[a, b, c], []⟩ = pure (f.ps.zip [a, b, c])) (s : Shared) (vs : List Value) (kvs : List (Str × Value)) (hv : kvs.map (·.1) = f.kwn.toList) (hl : (fullArgs f vs kvs).length = f.ps.length) : BindsTo s fd ⟨vs, kvs⟩ (f.ps.zip (fullArgs f vs kvs)) := by
  rw [hk] at hv
  cases kvs with | cons => cases hv | nil =>
  have e : fullArgs f vs [] = vs := by unfold fullArgs; rw [hd]; simp
  rw [e] at hl ⊢
  rw [hn] at hl
  obtain ⟨a, b, c, rfl⟩ := len3 hl
  exact BindsTo.of_eq (h a b c)
theorem bindsK {fd : FuncData} {f : Fn} {n : Str} (hn : f.ps.length = 3) (hd : f.df = []) (hk : f.kwn = some n) (h : ∀ a b c, bindArgs fd ⟨[a, b], [(n, c)]⟩ = pure (f.ps.zip [a, b, c])) (s : Shared) (vs : List Value) (kvs : List (Str × Value)) (hv : kvs.map (·.1) = f.kwn.toList) (hl : (fullArgs f vs kvs).length = f.ps.length) : BindsTo s fd ⟨vs, kvs⟩ (f.ps.zip (fullArgs f vs kvs)) := by
  rw [hk] at hv
  obtain ⟨⟨m, c⟩, rfl⟩ : ∃ p, kvs = [p] := List.length_eq_one_iff.mp (by have := congrArg List.length hv; simpa using this)
  have hv : m = n := by simpa using hv
  subst hv
  have e : fullArgs f vs [(m, c)] = vs ++ [c] := by unfold fullArgs; rw [hd]; simp
  rw [e] at hl ⊢
  rw [hn] at hl
  obtain ⟨a, b, rfl⟩ := len2 (show vs.length = 2 by simp at hl; omega)
  exact BindsTo.of_eq (h a b c)
noncomputable def fnChk (K : Frag) (fd : FuncData) (f : Fn) : Bool :=
  codeIn K fd.code fd.qualname && fd.globals == mainGlobals && fd.builtins == builtinsNs && fd.closure.isEmpty && !f.sc.isCoroutine && !f.sc.isGenerator && f.sc.kind == .function &&
  f.ps.all (fun x => f.sc.names.lookup x == some .local || f.sc.names.lookup x == some .cell) && decide f.ps.Nodup && decide ((f.sc.names.map (·.1)).Nodup) && f.sc.names.all (fun p => p.2 != .free) && f.df.all fun v => match v with | .none => true | _ => false
theorem fnOk_of {X : Cx} {a : Addr} {f : Fn} {fd : FuncData} {oc : Value} {od : Option Addr} {sl : Array (Option Value)} (hK : X.K.In X.hb) (hg : X.K.lookup a = some ⟨oc, od, .func fd, sl⟩) (hb : fd.body = .stmts f.body) (hs : fd.scope = f.sc) (hc : fnChk X.K fd f = true)
    (hbd : ∀ (s : Shared) vs kvs, (∀ b o, X.hb.get? b = some o → s.heap.get? b = some o) → kvs.map (·.1) = f.kwn.toList → (fullArgs f vs kvs).length = f.ps.length → BindsTo s fd ⟨vs, kvs⟩ (f.ps.zip (fullArgs f vs kvs))) : FnOk X a f ⟨oc, od, .func fd, sl⟩ fd := by
  unfold fnChk at hc
  simp only [Bool.and_eq_true, decide_eq_true_eq, beq_iff_eq, Bool.not_eq_true', List.all_eq_true, Bool.or_eq_true, List.isEmpty_iff] at hc
  obtain ⟨⟨⟨⟨⟨⟨⟨⟨⟨⟨⟨c1, c2⟩, c3⟩, c4⟩, c5⟩, c6⟩, c7⟩, c8⟩, c9⟩, c10⟩, c11⟩, c12⟩ := hc
  refine ⟨hK _ _ hg, rfl, hb, hs, c2, c3, c4, codeRec_of hK c1, c5, c6, c7, fun v hv => ?_, c8, c9, c10, fun x q => ?_, hbd⟩
  · have := c12 v hv
    cases v <;> first | rfl | cases this
  · have := c11 _ (lk_mem q)
    simp at this
end
end Mine
end

-- part M61
section
namespace Mine
open PySem PySem.W PyProof.Rows PySem.Calls PySem.Spec Builtin.Re

noncomputable def CX (w : World) (hb : Heap) : Cx where
  prog := PySem.Challenge.rw_re0165_01.row.toRowW.prog
  w := w
  Z := theZ PySem.Challenge.rw_re0165_01.row.toRowW.prog
  hb := hb
  S := SP w.params
  K := kf hb
noncomputable abbrev fobj (fd : FuncData) : Obj := { cls := .type "function", data := .func fd }
structure FnV where
  c : Value
  d : Option Addr
  sl : Array (Option Value)
  body : FuncBody
  sc : Scope
  ps : Arguments
  dv : Value
  kv : Value
  code : Value
  ok : Bool
noncomputable def fnView (K : Frag) (a : Addr) : Option FnV := match K.lookup a with
  | some ⟨c, d, .func fd, sl⟩ => some ⟨c, d, sl, fd.body, fd.scope, fd.params, fd.defaults, fd.kwdefaults, fd.code, fnChk K fd (fnR a)⟩
  | _ => none
noncomputable def fnWant (a : Addr) : Option FnV := some ⟨.type "function", none, #[], .stmts (dR a).body, (dR a).sc, (dR a).ps, if a = 115 then .ref 108 else .none, .none, .ref (a - 1), true⟩
noncomputable def fldChk (K : Frag) (p : Addr × Str) : Bool := plainGet K p.1 p.2 && hasDictIn K p.1 && findIn K (.ref p.1) p.2 == some none && findIn K (.ref p.1) "__setattr__" == some (some (.builtin "object.__setattr__")) && plainOver K p.1
noncomputable def methChk (K : Frag) (p : Addr × Str × Addr) : Bool := keeps.contains p.2.2 && plainGet K p.1 p.2.1 && findIn K (.ref p.1) p.2.1 == some (some (.ref p.2.2)) && typeIn K (.ref p.2.2) == some (.type "function") && noSeq K p.1
noncomputable def clsChk (K : Frag) (C f : Addr) : Bool := makesIn K C && findIn K (.ref C) "__init__" == some (some (.ref f)) && typeIn K (.ref f) == some (.type "function")
noncomputable def rdChk (K : Frag) : Bool := hasDictIn K 86 && specialIn K (.ref 69) "__get__" == some (some (.builtin "function.__get__")) && takesIn K (.ref 69) == some false
noncomputable def tabChk (K : Frag) : Bool := KTD.tabLook (KTD.datLooks fun b => K.lookup b) (fun b => K.lookup b) 39 (tabR.map fun p => (p.1, KTD.Dat.flat (.int p.2)))
noncomputable def patV (K : Frag) (a : Addr) : Option (Value × Option Addr × Array (Option Value) × Nat × Value) := match K.lookup a with
  | some ⟨c, d, .fields vs, sl⟩ => some (c, d, sl, reRawNat (vs.getD 6 .none), vs.getD 5 .none)
  | _ => none
noncomputable def seqV (K : Frag) (a : Addr) : Option (Value × Option Addr × Array (Option Value) × Nat × Array Nat) := match K.lookup a with
  | some ⟨c, d, .seq vs n, sl⟩ => some (c, d, sl, n, (vs.map reRawOf).map (·.toNat))
  | _ => none
noncomputable def isS : Value → Bool
  | .str .. => true
  | _ => false
noncomputable def isI : Value → Bool
  | .int .. => true
  | _ => false
noncomputable def isB : Value → Bool
  | .bool .. => true
  | _ => false
noncomputable def codeV (K : Frag) : Option (Value × Option Addr × Array (Option Value) × Option Value × Value × Bool × Bool × Bool × Bool) := match K.lookup 255 with
  | some ⟨c, d, .fields vs, sl⟩ => some (c, d, sl, vs[11]?, vs.getD 11 .none, isS (vs.getD 18 .none), isI (vs.getD 7 .none), isB (vs.getD 9 .none), isI (vs.getD 10 .none))
  | _ => none
/-- what the proof wants to know of the objects below the law -/
structure Sees where
  fns : List (Option FnV)
  bools : List Bool
  tab : Option (List (Str × Int))
  gm : List (Option (Option V))
  gb : List (Option (Option Value))
  pats : List (Option (Value × Option Addr × Array (Option Value) × Nat × Value))
  seqs : List (Option (Value × Option Addr × Array (Option Value) × Nat × Array Nat))
  code : Option (Value × Option Addr × Array (Option Value) × Option Value × Value × Bool × Bool × Bool × Bool)
  t108 : Option Obj
  law : Option (Option Value)
noncomputable def sees (K : Frag) : Sees :=
  ⟨usedF.map (fnView K), [keeps.all fun a => keepIn K (.ref a), flds.all (fldChk K), meths.all (methChk K), clsChk K 86 62, clsChk K 223 115, rdChk K, tabChk K], tabT K 39, glMain.map fun p => (nsIn K mainGlobals p.1).map (·.map toV), glBi.map fun x => nsIn K mainGlobals x,
   [95, 100].map (patV K), [94, 99].map (seqV K), codeV K, K.lookup 108, nsIn K mainGlobals "law"⟩
noncomputable def wanted : Sees :=
  ⟨usedF.map fnWant, [true, true, true, true, true, true, true], some tabR, glMain.map fun p => some (some p.2), glBi.map fun _ => some none,
   [some (.type "re.Pattern", none, #[], 0, .ref 94), some (.type "re.Pattern", none, #[], 0, .ref 99)], [some (.type "tuple", none, #[], 0, nameCode), some (.type "tuple", none, #[], 0, valCode)],
   some (.type "code", none, #[], some (.ref 251), .ref 251, true, true, true, true), some { cls := .type "tuple", data := .seq #[.none] 0 }, some (some (.ref 283))⟩

theorem fn_at {K : Frag} (hS : sees K = wanted) {a : Addr} (ha : a ∈ usedF) : ∃ fd, K.lookup a = some (fobj fd) ∧ fd.body = .stmts (fnR a).body ∧ fd.scope = (fnR a).sc ∧ fd.params = (dR a).ps ∧ fd.defaults = (if a = 115 then .ref 108 else .none) ∧ fd.kwdefaults = .none ∧ fd.code = .ref (a - 1) ∧ fnChk K fd (fnR a) = true := by
  have h : fnView K a = fnWant a := List.map_inj_left.mp (congrArg Sees.fns hS) a ha
  unfold fnView fnWant at h
  split at h
  · rename_i c d fd sl e
    simp only [Option.some.injEq, FnV.mk.injEq] at h
    obtain ⟨rfl, rfl, rfl, h4, h5, h6, h7, h8, h9, h10⟩ := h
    exact ⟨fd, e, h4, h5, h6, h7, h8, h9, h10⟩
  · cases h
theorem b232 {fd : FuncData} (h1 : fd.params = (dR 232).ps) (h2 : fd.defaults = .none) (h3 : fd.kwdefaults = .none) (a b : Value) : bindArgs fd ⟨[a, b], []⟩ = pure ((fnR 232).ps.zip [a, b]) := by
  cases fd
  subst h1 h2 h3
  kernel_rfl
theorem n232 : (fnR 232).ps.length = 2 ∧ (fnR 232).df = [] ∧ (fnR 232).kwn = none := ⟨by kernel_rfl, by kernel_rfl, by kernel_rfl⟩
theorem k232 {w : World} {hb : Heap} (hS : sees (kf hb) = wanted) : ∃ o fd, FnOk (CX w hb) 232 (fnR 232) o fd := by
  obtain ⟨fd, e, h1, h2, h3, h4, h5, _, h7⟩ := fn_at hS (show 232 ∈ usedF by decide)
  exact ⟨_, fd, fnOk_of (X := CX w hb) (kf_in hb) e h1 h2 h7 fun s vs kvs _ => binds2 n232.1 n232.2.1 n232.2.2 (b232 h3 h4 h5) s vs kvs⟩
theorem b239 {fd : FuncData} (h1 : fd.params = (dR 239).ps) (h2 : fd.defaults = .none) (h3 : fd.kwdefaults = .none) (a : Value) : bindArgs fd ⟨[a], []⟩ = pure ((fnR 239).ps.zip [a]) := by
  cases fd
  subst h1 h2 h3
  kernel_rfl
theorem n239 : (fnR 239).ps.length = 1 ∧ (fnR 239).df = [] ∧ (fnR 239).kwn = none := ⟨by kernel_rfl, by kernel_rfl, by kernel_rfl⟩
theorem k239 {w : World} {hb : Heap} (hS : sees (kf hb) = wanted) : ∃ o fd, FnOk (CX w hb) 239 (fnR 239) o fd := by
  obtain ⟨fd, e, h1, h2, h3, h4, h5, _, h7⟩ := fn_at hS (show 239 ∈ usedF by decide)
  exact ⟨_, fd, fnOk_of (X := CX w hb) (kf_in hb) e h1 h2 h7 fun s vs kvs _ => binds1 n239.1 n239.2.1 n239.2.2 (b239 h3 h4 h5) s vs kvs⟩
theorem b244 {fd : FuncData} (h1 : fd.params = (dR 244).ps) (h2 : fd.defaults = .none) (h3 : fd.kwdefaults = .none) (a b : Value) : bindArgs fd ⟨[a, b], []⟩ = pure ((fnR 244).ps.zip [a, b]) := by
  cases fd
  subst h1 h2 h3
  kernel_rfl
theorem n244 : (fnR 244).ps.length = 2 ∧ (fnR 244).df = [] ∧ (fnR 244).kwn = none := ⟨by kernel_rfl, by kernel_rfl, by kernel_rfl⟩
theorem k244 {w : World} {hb : Heap} (hS : sees (kf hb) = wanted) : ∃ o fd, FnOk (CX w hb) 244 (fnR 244) o fd := by
  obtain ⟨fd, e, h1, h2, h3, h4, h5, _, h7⟩ := fn_at hS (show 244 ∈ usedF by decide)
  exact ⟨_, fd, fnOk_of (X := CX w hb) (kf_in hb) e h1 h2 h7 fun s vs kvs _ => binds2 n244.1 n244.2.1 n244.2.2 (b244 h3 h4 h5) s vs kvs⟩
theorem b249 {fd : FuncData} (h1 : fd.params = (dR 249).ps) (h2 : fd.defaults = .none) (h3 : fd.kwdefaults = .none) (a b : Value) : bindArgs fd ⟨[a, b], []⟩ = pure ((fnR 249).ps.zip [a, b]) := by
  cases fd
  subst h1 h2 h3
  kernel_rfl
theorem n249 : (fnR 249).ps.length = 2 ∧ (fnR 249).df = [] ∧ (fnR 249).kwn = none := ⟨by kernel_rfl, by kernel_rfl, by kernel_rfl⟩
theorem k249 {w : World} {hb : Heap} (hS : sees (kf hb) = wanted) : ∃ o fd, FnOk (CX w hb) 249 (fnR 249) o fd := by
  obtain ⟨fd, e, h1, h2, h3, h4, h5, _, h7⟩ := fn_at hS (show 249 ∈ usedF by decide)
  exact ⟨_, fd, fnOk_of (X := CX w hb) (kf_in hb) e h1 h2 h7 fun s vs kvs _ => binds2 n249.1 n249.2.1 n249.2.2 (b249 h3 h4 h5) s vs kvs⟩
theorem b256 {fd : FuncData} (h1 : fd.params = (dR 256).ps) (h2 : fd.defaults = .none) (h3 : fd.kwdefaults = .none) (a : Value) : bindArgs fd ⟨[a], []⟩ = pure ((fnR 256).ps.zip [a]) := by
  cases fd
  subst h1 h2 h3
  kernel_rfl
theorem n256 : (fnR 256).ps.length = 1 ∧ (fnR 256).df = [] ∧ (fnR 256).kwn = none := ⟨by kernel_rfl, by kernel_rfl, by kernel_rfl⟩
theorem k256 {w : World} {hb : Heap} (hS : sees (kf hb) = wanted) : ∃ o fd, FnOk (CX w hb) 256 (fnR 256) o fd := by
  obtain ⟨fd, e, h1, h2, h3, h4, h5, _, h7⟩ := fn_at hS (show 256 ∈ usedF by decide)
  exact ⟨_, fd, fnOk_of (X := CX w hb) (kf_in hb) e h1 h2 h7 fun s vs kvs _ => binds1 n256.1 n256.2.1 n256.2.2 (b256 h3 h4 h5) s vs kvs⟩
theorem b263 {fd : FuncData} (h1 : fd.params = (dR 263).ps) (h2 : fd.defaults = .none) (h3 : fd.kwdefaults = .none) (a : Value) : bindArgs fd ⟨[a], []⟩ = pure ((fnR 263).ps.zip [a]) := by
  cases fd
  subst h1 h2 h3
  kernel_rfl
theorem n263 : (fnR 263).ps.length = 1 ∧ (fnR 263).df = [] ∧ (fnR 263).kwn = none := ⟨by kernel_rfl, by kernel_rfl, by kernel_rfl⟩
theorem k263 {w : World} {hb : Heap} (hS : sees (kf hb) = wanted) : ∃ o fd, FnOk (CX w hb) 263 (fnR 263) o fd := by
  obtain ⟨fd, e, h1, h2, h3, h4, h5, _, h7⟩ := fn_at hS (show 263 ∈ usedF by decide)
  exact ⟨_, fd, fnOk_of (X := CX w hb) (kf_in hb) e h1 h2 h7 fun s vs kvs _ => binds1 n263.1 n263.2.1 n263.2.2 (b263 h3 h4 h5) s vs kvs⟩
theorem b268 {fd : FuncData} (h1 : fd.params = (dR 268).ps) (h2 : fd.defaults = .none) (h3 : fd.kwdefaults = .none) (a b : Value) : bindArgs fd ⟨[a, b], []⟩ = pure ((fnR 268).ps.zip [a, b]) := by
  cases fd
  subst h1 h2 h3
  kernel_rfl
theorem n268 : (fnR 268).ps.length = 2 ∧ (fnR 268).df = [] ∧ (fnR 268).kwn = none := ⟨by kernel_rfl, by kernel_rfl, by kernel_rfl⟩
theorem k268 {w : World} {hb : Heap} (hS : sees (kf hb) = wanted) : ∃ o fd, FnOk (CX w hb) 268 (fnR 268) o fd := by
  obtain ⟨fd, e, h1, h2, h3, h4, h5, _, h7⟩ := fn_at hS (show 268 ∈ usedF by decide)
  exact ⟨_, fd, fnOk_of (X := CX w hb) (kf_in hb) e h1 h2 h7 fun s vs kvs _ => binds2 n268.1 n268.2.1 n268.2.2 (b268 h3 h4 h5) s vs kvs⟩
theorem b273 {fd : FuncData} (h1 : fd.params = (dR 273).ps) (h2 : fd.defaults = .none) (h3 : fd.kwdefaults = .none) (a b : Value) : bindArgs fd ⟨[a, b], []⟩ = pure ((fnR 273).ps.zip [a, b]) := by
  cases fd
  subst h1 h2 h3
  kernel_rfl
theorem n273 : (fnR 273).ps.length = 2 ∧ (fnR 273).df = [] ∧ (fnR 273).kwn = none := ⟨by kernel_rfl, by kernel_rfl, by kernel_rfl⟩
theorem k273 {w : World} {hb : Heap} (hS : sees (kf hb) = wanted) : ∃ o fd, FnOk (CX w hb) 273 (fnR 273) o fd := by
  obtain ⟨fd, e, h1, h2, h3, h4, h5, _, h7⟩ := fn_at hS (show 273 ∈ usedF by decide)
  exact ⟨_, fd, fnOk_of (X := CX w hb) (kf_in hb) e h1 h2 h7 fun s vs kvs _ => binds2 n273.1 n273.2.1 n273.2.2 (b273 h3 h4 h5) s vs kvs⟩
theorem b278 {fd : FuncData} (h1 : fd.params = (dR 278).ps) (h2 : fd.defaults = .none) (h3 : fd.kwdefaults = .none) (a : Value) : bindArgs fd ⟨[a], []⟩ = pure ((fnR 278).ps.zip [a]) := by
  cases fd
  subst h1 h2 h3
  kernel_rfl
theorem n278 : (fnR 278).ps.length = 1 ∧ (fnR 278).df = [] ∧ (fnR 278).kwn = none := ⟨by kernel_rfl, by kernel_rfl, by kernel_rfl⟩
theorem k278 {w : World} {hb : Heap} (hS : sees (kf hb) = wanted) : ∃ o fd, FnOk (CX w hb) 278 (fnR 278) o fd := by
  obtain ⟨fd, e, h1, h2, h3, h4, h5, _, h7⟩ := fn_at hS (show 278 ∈ usedF by decide)
  exact ⟨_, fd, fnOk_of (X := CX w hb) (kf_in hb) e h1 h2 h7 fun s vs kvs _ => binds1 n278.1 n278.2.1 n278.2.2 (b278 h3 h4 h5) s vs kvs⟩
theorem b283 {fd : FuncData} (h1 : fd.params = (dR 283).ps) (h2 : fd.defaults = .none) (h3 : fd.kwdefaults = .none) (a : Value) : bindArgs fd ⟨[a], []⟩ = pure ((fnR 283).ps.zip [a]) := by
  cases fd
  subst h1 h2 h3
  kernel_rfl
theorem n283 : (fnR 283).ps.length = 1 ∧ (fnR 283).df = [] ∧ (fnR 283).kwn = none := ⟨by kernel_rfl, by kernel_rfl, by kernel_rfl⟩
theorem k283 {w : World} {hb : Heap} (hS : sees (kf hb) = wanted) : ∃ o fd, FnOk (CX w hb) 283 (fnR 283) o fd := by
  obtain ⟨fd, e, h1, h2, h3, h4, h5, _, h7⟩ := fn_at hS (show 283 ∈ usedF by decide)
  exact ⟨_, fd, fnOk_of (X := CX w hb) (kf_in hb) e h1 h2 h7 fun s vs kvs _ => binds1 n283.1 n283.2.1 n283.2.2 (b283 h3 h4 h5) s vs kvs⟩
theorem b48 {fd : FuncData} (h1 : fd.params = (dR 48).ps) (h2 : fd.defaults = .none) (h3 : fd.kwdefaults = .none) (a : Value) : bindArgs fd ⟨[a], []⟩ = pure ((fnR 48).ps.zip [a]) := by
  cases fd
  subst h1 h2 h3
  kernel_rfl
theorem n48 : (fnR 48).ps.length = 1 ∧ (fnR 48).df = [] ∧ (fnR 48).kwn = none := ⟨by kernel_rfl, by kernel_rfl, by kernel_rfl⟩
theorem k48 {w : World} {hb : Heap} (hS : sees (kf hb) = wanted) : ∃ o fd, FnOk (CX w hb) 48 (fnR 48) o fd := by
  obtain ⟨fd, e, h1, h2, h3, h4, h5, _, h7⟩ := fn_at hS (show 48 ∈ usedF by decide)
  exact ⟨_, fd, fnOk_of (X := CX w hb) (kf_in hb) e h1 h2 h7 fun s vs kvs _ => binds1 n48.1 n48.2.1 n48.2.2 (b48 h3 h4 h5) s vs kvs⟩
theorem b62 {fd : FuncData} (h1 : fd.params = (dR 62).ps) (h2 : fd.defaults = .none) (h3 : fd.kwdefaults = .none) (a b : Value) : bindArgs fd ⟨[a, b], []⟩ = pure ((fnR 62).ps.zip [a, b]) := by
  cases fd
  subst h1 h2 h3
  kernel_rfl
theorem n62 : (fnR 62).ps.length = 2 ∧ (fnR 62).df = [] ∧ (fnR 62).kwn = none := ⟨by kernel_rfl, by kernel_rfl, by kernel_rfl⟩
theorem k62 {w : World} {hb : Heap} (hS : sees (kf hb) = wanted) : ∃ o fd, FnOk (CX w hb) 62 (fnR 62) o fd := by
  obtain ⟨fd, e, h1, h2, h3, h4, h5, _, h7⟩ := fn_at hS (show 62 ∈ usedF by decide)
  exact ⟨_, fd, fnOk_of (X := CX w hb) (kf_in hb) e h1 h2 h7 fun s vs kvs _ => binds2 n62.1 n62.2.1 n62.2.2 (b62 h3 h4 h5) s vs kvs⟩
theorem b69 {fd : FuncData} (h1 : fd.params = (dR 69).ps) (h2 : fd.defaults = .none) (h3 : fd.kwdefaults = .none) (a : Value) : bindArgs fd ⟨[a], []⟩ = pure ((fnR 69).ps.zip [a]) := by
  cases fd
  subst h1 h2 h3
  kernel_rfl
theorem n69 : (fnR 69).ps.length = 1 ∧ (fnR 69).df = [] ∧ (fnR 69).kwn = none := ⟨by kernel_rfl, by kernel_rfl, by kernel_rfl⟩
theorem k69 {w : World} {hb : Heap} (hS : sees (kf hb) = wanted) : ∃ o fd, FnOk (CX w hb) 69 (fnR 69) o fd := by
  obtain ⟨fd, e, h1, h2, h3, h4, h5, _, h7⟩ := fn_at hS (show 69 ∈ usedF by decide)
  exact ⟨_, fd, fnOk_of (X := CX w hb) (kf_in hb) e h1 h2 h7 fun s vs kvs _ => binds1 n69.1 n69.2.1 n69.2.2 (b69 h3 h4 h5) s vs kvs⟩
theorem b76 {fd : FuncData} (h1 : fd.params = (dR 76).ps) (h2 : fd.defaults = .none) (h3 : fd.kwdefaults = .none) (a : Value) : bindArgs fd ⟨[a], []⟩ = pure ((fnR 76).ps.zip [a]) := by
  cases fd
  subst h1 h2 h3
  kernel_rfl
theorem n76 : (fnR 76).ps.length = 1 ∧ (fnR 76).df = [] ∧ (fnR 76).kwn = none := ⟨by kernel_rfl, by kernel_rfl, by kernel_rfl⟩
theorem k76 {w : World} {hb : Heap} (hS : sees (kf hb) = wanted) : ∃ o fd, FnOk (CX w hb) 76 (fnR 76) o fd := by
  obtain ⟨fd, e, h1, h2, h3, h4, h5, _, h7⟩ := fn_at hS (show 76 ∈ usedF by decide)
  exact ⟨_, fd, fnOk_of (X := CX w hb) (kf_in hb) e h1 h2 h7 fun s vs kvs _ => binds1 n76.1 n76.2.1 n76.2.2 (b76 h3 h4 h5) s vs kvs⟩
theorem b83 {fd : FuncData} (h1 : fd.params = (dR 83).ps) (h2 : fd.defaults = .none) (h3 : fd.kwdefaults = .none) (a b : Value) : bindArgs fd ⟨[a, b], []⟩ = pure ((fnR 83).ps.zip [a, b]) := by
  cases fd
  subst h1 h2 h3
  kernel_rfl
theorem n83 : (fnR 83).ps.length = 2 ∧ (fnR 83).df = [] ∧ (fnR 83).kwn = none := ⟨by kernel_rfl, by kernel_rfl, by kernel_rfl⟩
theorem k83 {w : World} {hb : Heap} (hS : sees (kf hb) = wanted) : ∃ o fd, FnOk (CX w hb) 83 (fnR 83) o fd := by
  obtain ⟨fd, e, h1, h2, h3, h4, h5, _, h7⟩ := fn_at hS (show 83 ∈ usedF by decide)
  exact ⟨_, fd, fnOk_of (X := CX w hb) (kf_in hb) e h1 h2 h7 fun s vs kvs _ => binds2 n83.1 n83.2.1 n83.2.2 (b83 h3 h4 h5) s vs kvs⟩
theorem b115 {fd : FuncData} (h1 : fd.params = (dR 115).ps) (h2 : fd.defaults = .ref 108) (h3 : fd.kwdefaults = .none) (a : Value) : ∃ k : Option (Array Value) → Sem (List (Str × Value)), bindArgs fd ⟨[a], []⟩ = (seqItems? fd.defaults >>= k) ∧ k (some #[.none]) = pure ((fnR 115).ps.zip [a, .none]) := by
  cases fd
  subst h1 h2 h3
  exact ⟨_, rfl, by kernel_rfl⟩
theorem b115' {fd : FuncData} (h1 : fd.params = (dR 115).ps) (h2 : fd.defaults = .ref 108) (h3 : fd.kwdefaults = .none) (a b : Value) : ∃ k : Option (Array Value) → Sem (List (Str × Value)), bindArgs fd ⟨[a, b], []⟩ = (seqItems? fd.defaults >>= k) ∧ k (some #[.none]) = pure ((fnR 115).ps.zip [a, b]) := by
  cases fd
  subst h1 h2 h3
  exact ⟨_, rfl, by kernel_rfl⟩
theorem n115 : (fnR 115).ps.length = 2 ∧ (fnR 115).df = [.none] ∧ (fnR 115).kwn = none := ⟨by kernel_rfl, by kernel_rfl, by kernel_rfl⟩
theorem k115 {w : World} {hb : Heap} (hS : sees (kf hb) = wanted) : ∃ o fd, FnOk (CX w hb) 115 (fnR 115) o fd := by
  obtain ⟨fd, e, h1, h2, h3, h4, h5, _, h7⟩ := fn_at hS (show 115 ∈ usedF by decide)
  have h4 : fd.defaults = .ref 108 := h4
  refine ⟨_, fd, fnOk_of (X := CX w hb) (kf_in hb) e h1 h2 h7 fun s vs kvs hk hv hl => ?_⟩
  obtain ⟨n1, n2, n3⟩ := n115
  rw [n3] at hv
  cases kvs with | cons => cases hv | nil =>
  have ho := hk _ _ (kf_in hb _ _ (congrArg Sees.t108 hS))
  have e : fullArgs (fnR 115) vs [] = if vs.length < 2 then vs ++ [.none] else vs := by unfold fullArgs; rw [n1, n2]; simp
  rw [e] at hl ⊢
  rw [n1] at hl
  split at hl
  · rename_i h2
    rw [if_pos h2]
    obtain ⟨a, rfl⟩ := List.length_eq_one_iff.mp (show vs.length = 1 by simp at hl; omega)
    obtain ⟨k, h1, h2⟩ := b115 h3 h4 h5 a
    exact BindsTo.of_defaults h4 ho rfl h1 h2
  · rename_i h2
    rw [if_neg h2]
    obtain ⟨a, b, rfl⟩ := len2 hl
    obtain ⟨k, h1, h2⟩ := b115' h3 h4 h5 a b
    exact BindsTo.of_defaults h4 ho rfl h1 h2
theorem b122 {fd : FuncData} (h1 : fd.params = (dR 122).ps) (h2 : fd.defaults = .none) (h3 : fd.kwdefaults = .none) (a b c : Value) : bindArgs fd ⟨[a, b], [(("name" : Str), c)]⟩ = pure ((fnR 122).ps.zip [a, b, c]) := by
  cases fd
  subst h1 h2 h3
  kernel_rfl
theorem n122 : (fnR 122).ps.length = 3 ∧ (fnR 122).df = [] ∧ (fnR 122).kwn = some "name" := ⟨by kernel_rfl, by kernel_rfl, by kernel_rfl⟩
theorem k122 {w : World} {hb : Heap} (hS : sees (kf hb) = wanted) : ∃ o fd, FnOk (CX w hb) 122 (fnR 122) o fd := by
  obtain ⟨fd, e, h1, h2, h3, h4, h5, _, h7⟩ := fn_at hS (show 122 ∈ usedF by decide)
  exact ⟨_, fd, fnOk_of (X := CX w hb) (kf_in hb) e h1 h2 h7 fun s vs kvs _ => bindsK n122.1 n122.2.1 n122.2.2 (b122 h3 h4 h5) s vs kvs⟩
theorem b136 {fd : FuncData} (h1 : fd.params = (dR 136).ps) (h2 : fd.defaults = .none) (h3 : fd.kwdefaults = .none) (a b c : Value) : bindArgs fd ⟨[a, b, c], []⟩ = pure ((fnR 136).ps.zip [a, b, c]) := by
  cases fd
  subst h1 h2 h3
  kernel_rfl
theorem n136 : (fnR 136).ps.length = 3 ∧ (fnR 136).df = [] ∧ (fnR 136).kwn = none := ⟨by kernel_rfl, by kernel_rfl, by kernel_rfl⟩
theorem k136 {w : World} {hb : Heap} (hS : sees (kf hb) = wanted) : ∃ o fd, FnOk (CX w hb) 136 (fnR 136) o fd := by
  obtain ⟨fd, e, h1, h2, h3, h4, h5, _, h7⟩ := fn_at hS (show 136 ∈ usedF by decide)
  exact ⟨_, fd, fnOk_of (X := CX w hb) (kf_in hb) e h1 h2 h7 fun s vs kvs _ => binds3 n136.1 n136.2.1 n136.2.2 (b136 h3 h4 h5) s vs kvs⟩
theorem b141 {fd : FuncData} (h1 : fd.params = (dR 141).ps) (h2 : fd.defaults = .none) (h3 : fd.kwdefaults = .none) (a b : Value) : bindArgs fd ⟨[a, b], []⟩ = pure ((fnR 141).ps.zip [a, b]) := by
  cases fd
  subst h1 h2 h3
  kernel_rfl
theorem n141 : (fnR 141).ps.length = 2 ∧ (fnR 141).df = [] ∧ (fnR 141).kwn = none := ⟨by kernel_rfl, by kernel_rfl, by kernel_rfl⟩
theorem k141 {w : World} {hb : Heap} (hS : sees (kf hb) = wanted) : ∃ o fd, FnOk (CX w hb) 141 (fnR 141) o fd := by
  obtain ⟨fd, e, h1, h2, h3, h4, h5, _, h7⟩ := fn_at hS (show 141 ∈ usedF by decide)
  exact ⟨_, fd, fnOk_of (X := CX w hb) (kf_in hb) e h1 h2 h7 fun s vs kvs _ => binds2 n141.1 n141.2.1 n141.2.2 (b141 h3 h4 h5) s vs kvs⟩
theorem b175 {fd : FuncData} (h1 : fd.params = (dR 175).ps) (h2 : fd.defaults = .none) (h3 : fd.kwdefaults = .none) (a : Value) : bindArgs fd ⟨[a], []⟩ = pure ((fnR 175).ps.zip [a]) := by
  cases fd
  subst h1 h2 h3
  kernel_rfl
theorem n175 : (fnR 175).ps.length = 1 ∧ (fnR 175).df = [] ∧ (fnR 175).kwn = none := ⟨by kernel_rfl, by kernel_rfl, by kernel_rfl⟩
theorem k175 {w : World} {hb : Heap} (hS : sees (kf hb) = wanted) : ∃ o fd, FnOk (CX w hb) 175 (fnR 175) o fd := by
  obtain ⟨fd, e, h1, h2, h3, h4, h5, _, h7⟩ := fn_at hS (show 175 ∈ usedF by decide)
  exact ⟨_, fd, fnOk_of (X := CX w hb) (kf_in hb) e h1 h2 h7 fun s vs kvs _ => binds1 n175.1 n175.2.1 n175.2.2 (b175 h3 h4 h5) s vs kvs⟩
theorem b180 {fd : FuncData} (h1 : fd.params = (dR 180).ps) (h2 : fd.defaults = .none) (h3 : fd.kwdefaults = .none) (a : Value) : bindArgs fd ⟨[a], []⟩ = pure ((fnR 180).ps.zip [a]) := by
  cases fd
  subst h1 h2 h3
  kernel_rfl
theorem n180 : (fnR 180).ps.length = 1 ∧ (fnR 180).df = [] ∧ (fnR 180).kwn = none := ⟨by kernel_rfl, by kernel_rfl, by kernel_rfl⟩
theorem k180 {w : World} {hb : Heap} (hS : sees (kf hb) = wanted) : ∃ o fd, FnOk (CX w hb) 180 (fnR 180) o fd := by
  obtain ⟨fd, e, h1, h2, h3, h4, h5, _, h7⟩ := fn_at hS (show 180 ∈ usedF by decide)
  exact ⟨_, fd, fnOk_of (X := CX w hb) (kf_in hb) e h1 h2 h7 fun s vs kvs _ => binds1 n180.1 n180.2.1 n180.2.2 (b180 h3 h4 h5) s vs kvs⟩
theorem b187 {fd : FuncData} (h1 : fd.params = (dR 187).ps) (h2 : fd.defaults = .none) (h3 : fd.kwdefaults = .none) (a : Value) : bindArgs fd ⟨[a], []⟩ = pure ((fnR 187).ps.zip [a]) := by
  cases fd
  subst h1 h2 h3
  kernel_rfl
theorem n187 : (fnR 187).ps.length = 1 ∧ (fnR 187).df = [] ∧ (fnR 187).kwn = none := ⟨by kernel_rfl, by kernel_rfl, by kernel_rfl⟩
theorem k187 {w : World} {hb : Heap} (hS : sees (kf hb) = wanted) : ∃ o fd, FnOk (CX w hb) 187 (fnR 187) o fd := by
  obtain ⟨fd, e, h1, h2, h3, h4, h5, _, h7⟩ := fn_at hS (show 187 ∈ usedF by decide)
  exact ⟨_, fd, fnOk_of (X := CX w hb) (kf_in hb) e h1 h2 h7 fun s vs kvs _ => binds1 n187.1 n187.2.1 n187.2.2 (b187 h3 h4 h5) s vs kvs⟩
theorem fn_good {w : World} {hb : Heap} (hS : sees (kf hb) = wanted) (a : Addr) (f : Fn) (h : (CX w hb).S.fn a = some f) : ∃ o fd, FnOk (CX w hb) a f o fd := by
  have h : (if usedF.contains a then some (fnR a) else none) = some f := h
  split at h
  case isFalse => cases h
  rename_i hm
  cases h
  have hm : a ∈ usedF := by simpa using hm
  simp only [usedF, List.mem_cons, List.not_mem_nil, or_false] at hm
  rcases hm with rfl | rfl | rfl | rfl | rfl | rfl | rfl | rfl | rfl | rfl | rfl | rfl | rfl | rfl | rfl | rfl | rfl | rfl | rfl | rfl | rfl | rfl
  · exact k232 hS
  · exact k239 hS
  · exact k244 hS
  · exact k249 hS
  · exact k256 hS
  · exact k263 hS
  · exact k268 hS
  · exact k273 hS
  · exact k278 hS
  · exact k283 hS
  · exact k48 hS
  · exact k62 hS
  · exact k69 hS
  · exact k76 hS
  · exact k83 hS
  · exact k115 hS
  · exact k122 hS
  · exact k136 hS
  · exact k141 hS
  · exact k175 hS
  · exact k180 hS
  · exact k187 hS
end Mine
end

-- part M62
section
namespace Mine
open PySem PySem.W PyProof.Rows PySem.Calls PySem.Spec Builtin.Re

section
variable {K : Frag} (hS : sees K = wanted)
include hS
theorem bools_of : (keeps.all fun a => keepIn K (.ref a)) = true ∧ flds.all (fldChk K) = true ∧ meths.all (methChk K) = true ∧ clsChk K 86 62 = true ∧ clsChk K 223 115 = true ∧ rdChk K = true ∧ tabChk K = true := by
  have h : [keeps.all fun a => keepIn K (.ref a), flds.all (fldChk K), meths.all (methChk K), clsChk K 86 62, clsChk K 223 115, rdChk K, tabChk K] = [true, true, true, true, true, true, true] := congrArg Sees.bools hS
  simp only [List.cons.injEq, and_true] at h
  exact h
theorem gm_at {x : Str} {v : V} (h : glMain.lookup x = some v) : ∃ u, nsIn K mainGlobals x = some (some u) ∧ toV u = v := by
  have e : (nsIn K mainGlobals x).map (·.map toV) = some (some v) := List.map_inj_left.mp (show glMain.map (fun p => (nsIn K mainGlobals p.1).map (·.map toV)) = glMain.map (fun p => some (some p.2)) from congrArg Sees.gm hS) (x, v) (lk_mem h)
  obtain ⟨o, h1, h2⟩ := Option.map_eq_some_iff.mp e
  obtain ⟨u, h3, h4⟩ := Option.map_eq_some_iff.mp h2
  exact ⟨u, by rw [h1, h3], h4⟩
theorem gb_at {x : Str} (h : x ∈ glBi) : nsIn K mainGlobals x = some none := List.map_inj_left.mp (show glBi.map (fun x => nsIn K mainGlobals x) = glBi.map (fun _ => some none) from congrArg Sees.gb hS) x h
end
theorem patV_of {K : Frag} {a : Addr} {c : Value} {d : Option Addr} {sl : Array (Option Value)} {n : Nat} {v : Value} (h : patV K a = some (c, d, sl, n, v)) : ∃ vs, K.lookup a = some ⟨c, d, .fields vs, sl⟩ ∧ reRawNat (vs.getD 6 .none) = n ∧ vs.getD 5 .none = v := by
  unfold patV at h
  split at h
  · rename_i e
    simp only [Option.some.injEq, Prod.mk.injEq] at h
    obtain ⟨rfl, rfl, rfl, h1, h2⟩ := h
    exact ⟨_, e, h1, h2⟩
  · cases h
theorem seqV_of {K : Frag} {a : Addr} {c : Value} {d : Option Addr} {sl : Array (Option Value)} {n : Nat} {v : Array Nat} (h : seqV K a = some (c, d, sl, n, v)) : ∃ vs, K.lookup a = some ⟨c, d, .seq vs n, sl⟩ ∧ (vs.map reRawOf).map (·.toNat) = v := by
  unfold seqV at h
  split at h
  · rename_i e
    simp only [Option.some.injEq, Prod.mk.injEq] at h
    obtain ⟨rfl, rfl, rfl, rfl, h2⟩ := h
    exact ⟨_, e, h2⟩
  · cases h
theorem isS_of {v : Value} (h : isS v = true) : ∃ x t, v = .str x t := by cases v <;> first | exact ⟨_, _, rfl⟩ | cases h
theorem isI_of {v : Value} (h : isI v = true) : ∃ x t, v = .int x t := by cases v <;> first | exact ⟨_, _, rfl⟩ | cases h
theorem isB_of {v : Value} (h : isB v = true) : ∃ x, v = .bool x := by cases v <;> first | exact ⟨_, rfl⟩ | cases h
theorem codeV_of {K : Frag} {u v : Value} (h : codeV K = some (.type "code", none, #[], some u, v, true, true, true, true)) : ∃ vs, K.lookup 255 = some { cls := .type "code", data := .fields vs } ∧
    ∃ file tf flags tg inF text tt, vs[11]? = some u ∧ vs.getD 11 .none = v ∧ vs.getD 18 .none = .str file tf ∧ vs.getD 7 .none = .int flags tg ∧ vs.getD 9 .none = .bool inF ∧ vs.getD 10 .none = .int text tt := by
  unfold codeV at h
  split at h
  · rename_i e
    simp only [Option.some.injEq, Prod.mk.injEq] at h
    obtain ⟨rfl, rfl, rfl, h1, h2, h3, h4, h5, h6⟩ := h
    obtain ⟨x3, t3, e3⟩ := isS_of h3
    obtain ⟨x4, t4, e4⟩ := isI_of h4
    obtain ⟨x5, e5⟩ := isB_of h5
    obtain ⟨x6, t6, e6⟩ := isI_of h6
    exact ⟨_, e, x3, t3, x4, t4, x5, x6, t6, h1, h2, e3, e4, e5, e6⟩
  · cases h
theorem line_fn : (fnR 256).body = lineBody ∧ (fnR 256).sc = lineScope ∧ (fnR 256).ps = [sText] ∧ (fnR 256).kwn = none ∧ (fnR 256).df = [] := ⟨by kernel_rfl, by kernel_rfl, by kernel_rfl, by kernel_rfl, by kernel_rfl⟩
theorem gl_len : glR sLen = some (.val (.builtin "len")) := by kernel_rfl
theorem gl_netrc : glR sNetrc = some (.val (.ref 86)) := by kernel_rfl
theorem no_name : ("__name__" : Str) ∉ glBi := by decide +kernel
end Mine
end

-- part M63
section
namespace Mine
open PySem PySem.W PyProof.Rows PySem.Calls PySem.Spec Builtin.Re

section
variable {w : World} {hb : Heap} {mg mb : Str → Option Value}
theorem meth_of {K : Frag} (hS : sees K = wanted) {C f : Addr} {m : Str} (h : methS C m = some f) : methChk K (C, m, f) = true := by
  unfold methS at h
  obtain ⟨⟨C', m', f'⟩, h1, e⟩ := Option.map_eq_some_iff.mp h
  cases e
  have h2 := List.find?_some h1
  simp only [Bool.and_eq_true, beq_iff_eq] at h2
  obtain ⟨rfl, rfl⟩ := h2
  exact List.all_eq_true.mp (bools_of hS).2.2.1 _ (List.mem_of_find?_eq_some h1)
theorem line_ok (hS : sees (kf hb) = wanted) (g : hb.Ns mainGlobals mg) (bm : hb.BuiltinsAt mg 251) : LineOk (CX w hb) (fnR 256) 255 251 mg where
  fn := rfl
  body := line_fn.1
  sc := line_fn.2.1
  ps := line_fn.2.2.1
  kwn := line_fn.2.2.2.1
  df := line_fn.2.2.2.2
  code := fun o fd h1 h2 => by
    obtain ⟨fd', e, _, _, _, _, _, h7, _⟩ := fn_at hS (show 256 ∈ usedF by decide)
    have e : hb.get? 256 = some (fobj fd') := kf_in hb _ _ e
    have h1 : hb.get? 256 = some o := h1
    rw [e] at h1
    cases h1
    cases h2
    exact h7
  hd := by
    obtain ⟨vs, e, file, tf, flags, tg, inF, text, tt, a1, a2, a3, a4, a5, a6⟩ := codeV_of (congrArg Sees.code hS)
    exact ⟨_, _, file, tf, flags, tg, inF, text, tt, kf_in hb _ _ e, rfl, rfl, a1, a2, a3, a4, a5, a6, by decide⟩
  ns := g
  ne := by decide
  bm := bm
  tbl := fun h a n => Iff.rfl
  str := fun h fp x => Iff.rfl
  gl := gl_netrc
  keep := show keeps.contains 86 = true by decide
theorem good8 (hS : sees (kf hb) = wanted) (g : hb.Ns mainGlobals mg) (b : hb.Ns builtinsNs mb) (hbm : ∀ x : Str, x ≠ "__name__" → mb x = bootBuiltins x) (nl : hb.NoLimit) (bm : hb.BuiltinsAt mg 251) : Good8 (CX w hb) where
  fn := fn_good hS
  keep := fun a h => List.all_eq_true.mp (bools_of hS).1 a (by
    have h : keeps.contains a = true := h
    simpa using h)
  glb := ⟨mg, mb, g, b, fun x v h => by
    have h : glR x = some v := h
    unfold glR at h
    split at h
    · rename_i u hu
      cases h
      obtain ⟨u, h1, h2⟩ := gm_at hS hu
      exact ⟨u, h2, .inl (mg_of (kf_in hb) g h1)⟩
    · split at h
      · rename_i hx
        have hx : x ∈ glBi := by simpa using hx
        have hn : x ≠ "__name__" := fun e => no_name (e ▸ hx)
        obtain ⟨u, h1, h2⟩ := Option.map_eq_some_iff.mp h
        exact ⟨u, h2, .inr ⟨mg_none_of (kf_in hb) g (gb_at hS hx), (hbm x hn).trans h1⟩⟩
      · cases h⟩
  kin := kf_in hb
  lim := nl
  fld := fun C n h => by
    have h : (flds.any fun p => p.1 == C && p.2 == n) = true := h
    obtain ⟨⟨C', n'⟩, hm, hc⟩ := List.any_eq_true.mp h
    simp only [Bool.and_eq_true, beq_iff_eq] at hc
    obtain ⟨rfl, rfl⟩ := hc
    have := List.all_eq_true.mp (bools_of hS).2.1 _ hm
    unfold fldChk at this
    simp only [Bool.and_eq_true, beq_iff_eq] at this
    obtain ⟨⟨⟨⟨a1, a2⟩, a3⟩, a4⟩, a5⟩ := this
    exact ⟨a1, a2, a3, a4, a5⟩
  zd := fun h a kvs => Iff.rfl
  tab := fun a kvs h => by
    have h' : (if a = 39 then some tabR else none) = some kvs := h
    clear h
    split at h'
    · rename_i e
      subst e
      cases h'
      exact kt_text_in (kf_in hb) (bools_of hS).2.2.2.2.2.2
    · cases h'
  quiet := fun a x h => by
    have h : quietT a x = true := h
    unfold quietT at h
    simp only [Bool.and_eq_true, Bool.or_eq_true, beq_iff_eq, decide_eq_true_eq, List.all_eq_true] at h
    obtain ⟨ha, hs, hx⟩ := h
    rcases ha with rfl | rfl
    · obtain ⟨vs, e1, e2, e3⟩ := patV_of (List.cons.inj (congrArg Sees.pats hS)).1
      obtain ⟨us, f1, f2⟩ := seqV_of (List.cons.inj (congrArg Sees.seqs hS)).1
      exact ⟨nameCode, ⟨_, _, 94, _, _, _, kf_in hb _ _ e1, rfl, rfl, rfl, e2, e3, kf_in hb _ _ f1, rfl, f2⟩, by decide, by decide, fun c hc => name_clean (hx c hc).1 (hx c hc).2, by omega⟩
    · obtain ⟨vs, e1, e2, e3⟩ := patV_of (List.cons.inj (List.cons.inj (congrArg Sees.pats hS)).2).1
      obtain ⟨us, f1, f2⟩ := seqV_of (List.cons.inj (List.cons.inj (congrArg Sees.seqs hS)).2).1
      exact ⟨valCode, ⟨_, _, 99, _, _, _, kf_in hb _ _ e1, rfl, rfl, rfl, e2, e3, kf_in hb _ _ f1, rfl, f2⟩, by decide, by decide, fun c hc => val_clean (hx c hc).1 (hx c hc).2, by omega⟩
  meth := fun C m f h => by
    have := meth_of hS (show methS C m = some f from h)
    unfold methChk at this
    simp only [Bool.and_eq_true, beq_iff_eq] at this
    obtain ⟨⟨⟨⟨a1, a2⟩, a3⟩, a4⟩, a5⟩ := this
    exact ⟨a1, a2, a3, a4⟩
  cls := fun C f h => by
    have h : (if C = 86 then some 62 else if C = 223 then some 115 else none) = some f := h
    have : clsChk (kf hb) C f = true := by
      split at h
      · rename_i e; subst e; cases h; exact (bools_of hS).2.2.2.1
      · split at h
        · rename_i e; subst e; cases h; exact (bools_of hS).2.2.2.2.1
        · cases h
    unfold clsChk at this
    simp only [Bool.and_eq_true, beq_iff_eq] at this
    exact ⟨this.1.1, this.1.2, this.2⟩
  noseq := fun C f h => by
    have key : ∀ m, methS C m = some f → noSeq (kf hb) C = true := fun m h => by
      have := meth_of hS h
      unfold methChk at this
      simp only [Bool.and_eq_true] at this
      exact this.2
    rcases h with h | h
    · exact key _ h
    · exact key _ h
  rd := fun C f h1 h2 => by
    have h2 : some 69 = some f := h2
    cases h2
    have hC : C = 86 := by
      have h1 : methS C sRc = some 69 := h1
      unfold methS at h1
      obtain ⟨⟨C', m', f'⟩, q1, e⟩ := Option.map_eq_some_iff.mp h1
      cases e
      have q2 := List.find?_some q1
      have q3 := List.mem_of_find?_eq_some q1
      simp only [Bool.and_eq_true, beq_iff_eq] at q2
      obtain ⟨rfl, rfl⟩ := q2
      simp only [meths, List.mem_cons, List.not_mem_nil, or_false, Prod.mk.injEq] at q3
      rcases q3 with ⟨rfl, _⟩ | ⟨rfl, _⟩ | ⟨rfl, _⟩ | ⟨rfl, _⟩ | ⟨_, _, q⟩ | ⟨_, _, q⟩ | ⟨_, _, q⟩ | ⟨_, _, q⟩ | ⟨_, _, q⟩ | ⟨_, _, q⟩ | ⟨_, _, q⟩ <;> first | rfl | cases q
    subst hC
    have := (bools_of hS).2.2.2.2.2.1
    unfold rdChk at this
    simp only [Bool.and_eq_true, beq_iff_eq] at this
    exact ⟨this.1.1, this.1.2, this.2⟩
  rdo := fun f h => by
    have h : some 69 = some f := h
    cases h
    obtain ⟨fd, e, _⟩ := fn_at hS (show 69 ∈ usedF by decide)
    exact ⟨_, _, kf_in hb _ _ e, rfl⟩
  cit := fun f h => by
    have h : some 69 = some f := h
    cases h
    exact fun h fp a live => Iff.rfl
  len := gl_len
  line := ⟨_, _, _, _, line_ok hS g bm⟩
  rds := ⟨69, rfl⟩
end
end Mine
end

-- part M64
section
namespace Mine
open PySem PySem.W PyProof.Rows PySem.Calls PySem.Spec Builtin.Re

noncomputable def theP : Program := PySem.Challenge.rw_re0165_01.row.toRowW.prog
noncomputable def tab251 (o : Option Obj) : Prop := o = some (tabObj #[])
/-- what is asked of the heap behind the top -/
noncomputable def hookK : Hook where
  α := Bool × Sees × Option Obj
  obs s := (asK.all fun a => (s.heap.get? a).isSome, sees (kf s.heap), s.heap.get? 251)
  val _ := (true, wanted, some (tabObj #[]))
  says _ h := (∀ a ∈ asK, (h.get? a).isSome = true) ∧ sees (kf h) = wanted ∧ h.get? 251 = some (tabObj #[])
  of w s e := ⟨List.all_eq_true.mp (congrArg (·.1) e), congrArg (·.2.1) e, congrArg (·.2.2) e⟩
  keeps w h h' x k := by
    obtain ⟨x1, x2, x3⟩ := x
    have e : ∀ a ∈ asK, h'.get? a = h.get? a := fun a ha => by
      obtain ⟨o, ho⟩ := Option.isSome_iff_exists.mp (x1 a ha)
      rw [ho]; exact k _ _ ho
    exact ⟨fun a ha => by rw [e a ha]; exact x1 a ha, by rw [kf_same e]; exact x2, k _ _ x3⟩
/-- of the text only the law's own def is looked at by the head -/
noncomputable def viewQ : Program := view theP [70]
noncomputable def looseL : List Str := "_sre" :: "_wall" :: "LPAR" :: "RPAR" :: "LSQB" :: "RSQB" :: "COLON" :: "COMMA" :: "SEMI" :: "PLUS" :: "MINUS" :: "STAR" :: "SLASH" :: "VBAR" :: "AMPER" :: "LESS" :: "GREATER" :: "EQUAL" :: "DOT" :: "PERCENT" :: "LBRACE" :: "RBRACE" :: "EQEQUAL" :: "NOTEQUAL" :: "LESSEQUAL" :: "GREATEREQUAL" :: "TILDE" :: "CIRCUMFLEX" :: "LEFTSHIFT" :: "RIGHTSHIFT" :: "DOUBLESTAR" :: "PLUSEQUAL" :: "MINEQUAL" :: "STAREQUAL" :: "SLASHEQUAL" :: "PERCENTEQUAL" :: "AMPEREQUAL" :: "VBAREQUAL" :: "CIRCUMFLEXEQUAL" :: "LEFTSHIFTEQUAL" :: "RIGHTSHIFTEQUAL" :: "DOUBLESTAREQUAL" :: "DOUBLESLASH" :: "DOUBLESLASHEQUAL" :: "AT" :: "ATEQUAL" :: "RARROW" :: "ELLIPSIS" :: "COLONEQUAL" :: "EXCLAMATION" :: "NT_OFFSET" :: "EXACT_TOKEN_TYPES" :: "ISTERMINAL" :: "_netrclex" :: "_name_disallowed_re" :: "_value_disallowed_re" :: "Headers" :: "_law_cells" :: "_law_drawn" :: "_law_spelled" :: "_law_written" :: "_law_line" :: "_law_figures" :: "_law_is_part" :: "_law_kept" :: "_law_due" :: []
noncomputable def xtQ (s : Shared) : Bool := xlAt viewQ [] s && recOk (RowW.records PySem.Challenge.rw_re0165_01.row.toRowW) s
theorem said : PySem.Challenge.rw_re0165_01.wellSaid = true := by
  rw [PySem.W.Fast.te9446332074065402090]
  kernel_rfl
/-- the run of the top, over the words that it is made of -/
noncomputable def topG (imp : (String → Option Builtin) → Program → World → Nat → Shared → Thread → Option Shared) (st : Program → Shared × Thread) (fen : Program → Shared → Option Shared)
    (run : (String → Option Builtin) → Program → World → Nat → Option Value → Nat → Shared → Thread → Option Shared) (tb : String → Option Builtin) (w : World) : Option Shared :=
  ((imp tb (opening theP) w 6100 (st (opening theP)).1 (st (opening theP)).2).bind (fen theP)).bind fun s₀ =>
  match s₀.heap.isNs mainGlobals && s₀.gens.size == 0 with
  | true => (run tb theP w s₀.heap.objs.size (s₀.heap.nsMap mainGlobals "__annotations__") 6100 s₀ (topStub theP)).bind fun s₁ => match staticsOk (importedModules theP.main.body) s₀.heap s₁.heap && namesBound theP s₁.heap && gensDone s₁ && laidKept s₀.heap s₁.heap with
      | true => some s₁
      | false => none
  | false => none
theorem topG_congr {i i' s s' f f' r r' t t'} (h1 : i = i') (h2 : s = s') (h3 : f = f') (h4 : r = r') (h5 : t = t') (w : World) : topG i s f r t w = topG i' s' f' r' t' w := by
  subst h1 h2 h3 h4 h5
  rfl
theorem topG_eq (w : World) : openEnds treeTable theP w 6100 = topG importEnds start fenceModules? topRun treeTable w := by
  unfold openEnds fencedOpening topG
  refine congrArg (Option.bind _) (funext fun s₀ => ?_)
  unfold topFrom
  rfl
/-- .. and in the words that the kernel runs fast -/
noncomputable def topQ (w : World) : Option Shared :=
  topG PySem.W.Fast.tw10274390034422433532 PySem.W.Fast.tw1435165496053646825 PySem.W.Fast.tw14289696077712309145 PySem.W.Fast.tw14082659384304107361 PySem.W.Fast.tw14364793385576792824 w
theorem topQ_eq (w : World) : openEnds treeTable theP w 6100 = topQ w :=
  (topG_eq w).trans (topG_congr PySem.W.Fast.te10274390034422433532 PySem.W.Fast.te1435165496053646825 PySem.W.Fast.te14289696077712309145 PySem.W.Fast.te14082659384304107361 PySem.W.Fast.te14364793385576792824 w)
noncomputable def seenQ (s : Shared) := PySem.W.Fast.tw4187177175401517315 viewQ looseL (importedModules theP.main.body) xtQ true s
noncomputable def looksQ (s : Shared) := (seenQ s, hookK.obs s)
theorem looksQ_eq (s : Shared) : (openSeen viewQ looseL (importedModules theP.main.body) xtQ true s, hookK.obs s) = looksQ s :=
  congrArg (fun f => (f viewQ looseL (importedModules theP.main.body) xtQ true s, hookK.obs s)) PySem.W.Fast.te4187177175401517315
-- each look with a run of its own: less memory at a time
theorem seen_f (w : World) : (topQ (w.withFollow "special-get-raises" false)).map seenQ = some (openGood viewQ looseL) := by kernel_rfl
theorem obs_f (w : World) : (topQ (w.withFollow "special-get-raises" false)).map hookK.obs = some (hookK.val (w.withFollow "special-get-raises" false)) := by kernel_rfl
theorem seen_t (w : World) : (topQ (w.withFollow "special-get-raises" true)).map seenQ = some (openGood viewQ looseL) := by kernel_rfl
theorem obs_t (w : World) : (topQ (w.withFollow "special-get-raises" true)).map hookK.obs = some (hookK.val (w.withFollow "special-get-raises" true)) := by kernel_rfl
theorem two_looks {α β γ : Type} {f : α → β} {g : α → γ} {a : β} {b : γ} : ∀ {o : Option α}, o.map f = some a → o.map g = some b → o.map (fun s => (f s, g s)) = some (a, b)
  | none, h, _ => nomatch h
  | some _, h1, h2 => congrArg some (Prod.ext (Option.some.inj h1) (Option.some.inj h2))
theorem left_f (w : World) : (topQ (w.withFollow "special-get-raises" false)).map looksQ = some (openGood viewQ looseL, hookK.val (w.withFollow "special-get-raises" false)) := two_looks (seen_f w) (obs_f w)
theorem left_t (w : World) : (topQ (w.withFollow "special-get-raises" true)).map looksQ = some (openGood viewQ looseL, hookK.val (w.withFollow "special-get-raises" true)) := two_looks (seen_t w) (obs_t w)
theorem left : LeftO theP viewQ looseL xtQ hookK.obs hookK.val 6100 := by
  have key : ∀ w : World, (topQ w).map looksQ = some (openGood viewQ looseL, hookK.val w) := byRow2 "special-get-raises" left_f left_t
  intro w
  rw [topQ_eq w, show (fun s => (openSeen viewQ looseL (importedModules theP.main.body) xtQ true s, hookK.obs s)) = looksQ from funext looksQ_eq]
  exact key w
end Mine
end

-- part M64b
section
namespace Mine
open PySem PySem.W PyProof.Rows PySem.Calls PySem.Spec Builtin.Re

/-- the script as the interpreter takes it -/
noncomputable def scriptV (xs : List Int) : V := .lst (xs.map fun i => .at (.int i))
theorem ints_rel {T : List Addr} {h : Heap} : ∀ {vs : List Value} {xs : List Int}, IntsAre vs xs → ItsRel T h (xs.map fun i => .at (.int i)) vs
  | _, _, .nil => .nil
  | _, _, .cons n t r => .cons ⟨t, rfl⟩ (ints_rel r)
noncomputable def theMain : Prop := ∀ (w : World) (hb : Heap), Good8 (CX w hb) → ∀ xs : List Int, xs.length ≤ 63 → ∃ (σ' : AS) (n : Nat), σ'[0]? = some (.tbl n) ∧ (CX w hb).VCallC 0 283 [scriptV xs] [] [.tbl 0] (.bool true) σ'
theorem link (main : theMain) : PySem.Challenge.rw_re0165_01.Holds := by
  refine holds_law said fun k1 => ?_
  refine holds_open (q := viewQ) (loose := looseL) (Xt := xtQ) (XP := XL viewQ []) (Yf := hookK.obs) (Ya := hookK.val) (YP := hookK.says) (N := 6100) left hookK.of hookK.keeps (fun s e => xl_of s (Bool.and_eq_true_iff.mp e).1) XL.keeps (by rfl) (by rfl) (by rfl)
    (fun s e => recFacts_of (Bool.and_eq_true_iff.mp e).2) (by rfl) k1 (by decide +kernel) ⟨rfl, rfl, rfl, rfl, rfl, by decide +kernel⟩ ?hw ?hc
  case hw => w_witness2
  case hc =>
  intro w s₀ s₁ mg mb G Y fa o pm cd doc dV kV ho hd hcd hD hmg hg args vals as hpre hlay hrd hwl hlo
  obtain ⟨Y1, Y2, Y3⟩ := Y
  have T := G.T
  have hfa := mg_of (kf_in s₁.heap) T.g (congrArg Sees.law Y2)
  rw [show mg "law" = some (.ref fa) from hmg] at hfa
  cases hfa
  wrow_args hpre hlay hrd hwl hlo
  rename_i xs _ _ _ _ _ _ _ l vs _ hL _ hW _ hI _ hn _
  refine enter_call ?_
  have hP : s₁.heap.get? 251 = some (tabObj #[]) := Y3
  have hKg : sees (kf (ghostOf s₁.heap [(255, 251)])) = wanted := by
    rw [kf_same (h := s₁.heap) fun a ha => ?_]
    · exact Y2
    · obtain ⟨o, ho⟩ := Option.isSome_iff_exists.mp (Y1 a ha)
      rw [ho]
      exact ghost_ne ho (by
        have : a ≠ 251 := fun e => absurd (e ▸ ha) (by decide)
        simpa using this)
  have hcd255 : CodeHd s₁.heap 255 251 := by
    obtain ⟨vs, e, file, tf, flags, tg, inF, text, tt, a1, a2, a3, a4, a5, a6⟩ := codeV_of (congrArg Sees.code Y2)
    exact ⟨_, _, file, tf, flags, tg, inF, text, tt, kf_in _ _ _ e, rfl, rfl, a1, a2, a3, a4, a5, a6, by decide⟩
  have hT : TabsAt [(255, 251)] s₁.heap := fun q hq => by rw [List.mem_singleton.mp hq]; exact ⟨hcd255, hP⟩
  have noneG : (ghostOf s₁.heap [(255, 251)]).get? 251 = none := hideAll_none _ (by simp)
  have G8 : Good8 (CX w (ghostOf s₁.heap [(255, 251)])) := by
    refine good8 hKg (ghost_ns hT T.g) (ghost_ns hT T.b) T.builtins ?_ ?_
    · obtain ⟨mc, h1, h2⟩ := T.nolimit
      exact ⟨mc, ghost_ns hT h1, h2⟩
    · obtain ⟨bm, ob, b1, b2, b3, b4, b5, b6⟩ := T.bmain
      refine ⟨bm, ob, b1, b2, fun q => ?_, fun q => ?_, ghost_get hT b3 (fun q => by rw [q] at b4; cases b4), b4, b5, b6⟩
      · obtain ⟨o, es, ep, e, hd, _⟩ := T.g
        rw [q, e] at b3; cases b3; rw [hd] at b6; cases b6
      · rw [q, hP] at b3; cases b3; cases b4
  obtain ⟨σ', n, hσ, V⟩ := main w _ G8 xs (by omega)
  refine kn_post hT (fun _ _ => rfl) ?_
  have hLp : s₁.heap.PlainList l vs.toArray := by
    cases hW with | list h1 h2 =>
    obtain ⟨o, e, _, n, hd⟩ := hL
    rw [h1] at e; cases e
    cases hd
    exact ⟨_, h1⟩
  have hl251 : l ≠ 251 := fun q => by obtain ⟨n, e⟩ := hLp; rw [q, hP] at e; cases e
  have R : (CX w (ghostOf s₁.heap [(255, 251)])).SR ⟨[[251]], []⟩ [.tbl 0] s₁.heap := by
    refine ⟨fun b o e => of_hideAll _ e, rfl, fun i fp o e1 e2 => ?_, by simp [Rho.flatten], fun a ha => ?_, fun a ha => ?_⟩
    · cases i with
      | zero => cases e1; cases e2; exact ⟨251, rfl, rfl, #[], hP, fun _ => rfl, fun q => by cases q⟩
      | succ i => cases e2
    · have : a = 251 := by simpa [Rho.flatten] using ha
      subst this; exact noneG
    · have : a = 251 := by simpa [Rho.flatten] using ha
      subst this; exact ⟨_, hP⟩
  refine V callerA ⟨[[251]], []⟩ s₁ [.ref l] [] _ ⟨rfl, by decide, by decide, by decide⟩ R (.cons ⟨l, vs, rfl, by simpa [Rho.flatten] using hl251, hLp, ints_rel hI⟩ .nil) rfl .nil fun ρ' h' tk u x' R' r => ?_
  cases r
  refine ⟨⟨.inl ⟨.bool true, .bool true, [], rfl, fun _ => rfl, .bool true, ?_, fun _ => ⟨List.nodup_nil, fun a ha => by cases ha⟩⟩, fun b o e => ?_, rfl, hg⟩, ?_, trivial⟩
  · first | rfl | kernel_rfl | (simp [RowW.claim]; done)
  · exact x'.kept b o (fun q => by
      have : b = 251 := by simpa using q
      subst this
      have e : (ghostOf s₁.heap [(255, 251)]).get? 251 = some o := e
      rw [noneG] at e; cases e) id (of_hideAll _ e)
  · obtain ⟨m, _, e1, _⟩ := x'.more
    have ho' : ρ'.own[0]? = some [251] := by rw [e1]; rfl
    obtain ⟨a, e, z⟩ := R'.objs 0 _ _ ho' hσ
    cases e
    obtain ⟨_, ps, q, _⟩ := z
    exact ⟨ps, q⟩
end Mine
end

-- part M65
section
namespace Mine
open PySem PySem.W PyProof.Rows PySem.Calls PySem.Spec

section
variable {X : Cx} {d : Nat} {σ σ' σ₁ σ₂ : AS}
theorem Cx.VCallC.down {a : Addr} {args : List V} {kw : List (Str × V)} {v : V} (h : X.VCallC (d + 1) a args kw σ v σ') (hd : d < 25) : X.VCallC d a args kw σ v σ' :=
  fun A ρ s vs kvs R ok => h A ρ s vs kvs R (ok.up hd)
theorem Cx.VCallC.below {a : Addr} {args : List V} {kw : List (Str × V)} {v : V} : ∀ {e : Nat}, X.VCallC e a args kw σ v σ' → e ≤ 25 → d ≤ e → X.VCallC d a args kw σ v σ'
  | 0, h, _, hd => by obtain rfl : d = 0 := by omega
                      exact h
  | e + 1, h, he, hd => by
    by_cases q : d = e + 1
    · subst q; exact h
    · exact Cx.VCallC.below (h.down (by omega)) (by omega) (by omega)

-- values that are told apart
noncomputable def vSame : V → V → Bool
  | .none, .none => true
  | .bool a, .bool b => a == b
  | .it a, .it b => itSame a b
  | .lst a, .lst b => itsSame a b
  | _, _ => false
theorem vSame_eq {a b : V} (h : vSame a b = true) : a = b := by
  cases a <;> cases b <;> first | rfl | cases h | skip
  · exact congrArg V.bool (eq_of_beq h)
  · exact congrArg V.it (itSame_eq h)
  · exact congrArg V.lst (itsSame_eq h)
noncomputable def gives (v : V) : Option (Res × AS) → Bool
  | some (.v a, _) => vSame a v
  | _ => false

theorem callF_any (G : Good8 X) {rc : Runner} (HC : AllSnd X (d + 1) rc) (hd : d < 25) {b : Addr} {fn : Fn} (hf : X.S.fn b = some fn) (hi : fn.inl = false) {args : List V} {v : V} {τ τ' : AS} (h : callF rc fn args [] τ = some (v, τ')) (σ : AS) : X.VCallC d b args [] σ v σ :=
  ob_ h fun loc hl g => whenB_ g fun hk g => bif_ g (fun e => tf_ e hi) fun _ g => whenB_ g fun h1 g => whenB_ g fun h2 g => b3_ g fun fl loc₁ τ h3 g => whenB_ g fun hv g => whenB_ g fun hc g =>
    fin_ (P := fun v _ => X.VCallC d b args [] σ v σ) g (c_pure G.toGood hf hd hl (eq_of_beq hk) h1 h2 (HC.execs h3) (fun e => by subst e; cases hc) rfl hv)
/-- a function that touches no tracked object answers alike on all -/
theorem call_any (G : Good8 X) {a : Addr} {fn : Fn} {args : List V} {v : V} {n : Nat} (hd : d ≤ 25) (hc : X.S.cls a = none) (hl : a ≠ X.S.line) (hf : X.S.fn a = some fn) (hi : fn.inl = false)
    (h : gives v (run X.S (n + 1) d (.call (.val (.ref a)) args []) []) = true) (σ : AS) : X.VCallC d a args [] σ v σ := by
  have h : gives v ((stepCall X.S d (run X.S n (d + 1)) (.val (.ref a)) args [] []).map fun p => (.v p.1, p.2)) = true := h
  cases q : stepCall X.S d (run X.S n (d + 1)) (.val (.ref a)) args [] [] with
  | none => rw [q] at h; cases h
  | some z =>
    rw [q] at h
    rw [← vSame_eq (show vSame z.1 v = true from h)]
    refine whenD_ q fun hd g => ?_
    have g : callR X.S (run X.S n (d + 1)) a args [] [] = some (z.1, z.2) := g
    refine oElse_ g (fun init e => by rw [hc] at e; cases e) fun _ g => natElse_ (fun a' => a' = a → X.VCallC d a args [] σ z.1 σ) g (fun _ e => absurd e.symm hl) (fun _ g _ => ob_ g fun fn' e g => ?_) rfl
    rw [hf] at e
    cases e
    exact callF_any G (run_sound G n (d + 1) (Nat.succ_le_of_lt hd)) hd hf hi g σ
end
end Mine
end

-- part M67
section
namespace Mine
open PySem PySem.W PyProof.Rows PySem.Calls PySem.Spec

section
variable {X : Cx} {d : Nat} {A : Around} {env : Env} {ρ : Rho} {s : Shared} {sc : Scope} {loc loc' loc₁ locB : Loc} {σ σ' σ₁ σ₂ σ₃ : AS}
noncomputable def Sub (a b : Loc) : Prop := ∀ y v, a.lookup y = some v → b.lookup y = some v
/-- fewer names are asked for behind a statement -/
theorem x_less {st : Stmt} {f : Flw} (h : X.VExec d sc loc st σ f loc' σ') (hs : Sub locB loc') : X.VExec d sc loc st σ f locB σ' :=
  fun A env ρ s Q E ok R L kq => h A env ρ s Q E ok R L fun ρ' h' tk g x R' L' r => kq ρ' h' tk g x R' (L'.less hs) r
theorem xs_less {sts : List Stmt} {f : Flw} (h : X.VExecs d sc loc sts σ f loc' σ') (hs : Sub locB loc') : X.VExecs d sc loc sts σ f locB σ' :=
  fun A env ρ s Q E ok R L kq => h A env ρ s Q E ok R L fun ρ' h' tk g x R' L' r => kq ρ' h' tk g x R' (L'.less hs) r
/-- more names than are asked for ahead -/
theorem xs_more {sts : List Stmt} {f : Flw} (h : X.VExecs d sc locB sts σ f loc' σ') (hs : Sub locB loc) : X.VExecs d sc loc sts σ f loc' σ' :=
  fun A env ρ s Q E ok R L kq => h A env ρ s Q E ok R (L.less hs) kq
theorem map_at {α β : Type} {f g : α → β} {l : List α} (h : l.map f = l.map g) {a : α} (ha : a ∈ l) : f a = g a := List.map_inj_left.mp h a ha

-- the last object is forgotten
noncomputable def AO.low (n : Nat) : AO → Bool
  | .inst _ fs => fs.all fun p => match p.2 with
    | .own i => decide (i < n)
    | _ => true
  | .citer i _ => decide (i < n)
  | _ => true
/-- the last footprint turns private -/
noncomputable def Rho.hideLast (ρ : Rho) (fp : List Addr) (own : List (List Addr)) : Rho := ⟨own, fp ++ ρ.priv⟩
theorem mem_hideLast {ρ : Rho} {fp : List Addr} {own : List (List Addr)} (e : ρ.own = own ++ [fp]) {a : Addr} : a ∈ (ρ.hideLast fp own).flatten ↔ a ∈ ρ.flatten := by
  unfold Rho.hideLast Rho.flatten
  rw [e]
  simp only [List.flatten_append, List.flatten_cons, List.flatten_nil, List.append_nil, List.mem_append]
  constructor
  · rintro (h | h | h)
    · exact .inl (.inl h)
    · exact .inl (.inr h)
    · exact .inr h
  · rintro ((h | h) | h)
    · exact .inl h
    · exact .inr (.inl h)
    · exact .inr (.inr h)
theorem VRel.hideLast {fp : List Addr} {own : List (List Addr)} {h : Heap} (e : ρ.own = own ++ [fp]) {v : V} {u : Value} (r : VRel ρ h v u) (hl : match v with | .own i => i < own.length | _ => True) : VRel (ρ.hideLast fp own) h v u := by
  cases v with
  | none => exact r
  | bool b => exact r
  | it i => exact ItRel.sub r fun a ha => (mem_hideLast e).mp ha
  | lst xs => obtain ⟨l, vs, e', hl', hL, hi⟩ := r; exact ⟨l, vs, e', fun m => hl' ((mem_hideLast e).mp m), hL, hi.sub fun a ha => (mem_hideLast e).mp ha⟩
  | val u => exact r
  | own i =>
    obtain ⟨a, rr, q, rfl⟩ := r
    rw [e, List.getElem?_append_left hl] at q
    exact ⟨a, rr, q, rfl⟩
theorem EntRel.hideLast {w : World} {fp : List Addr} {own : List (List Addr)} {h : Heap} {fs : List (Str × V)} {es : List DictEntry} (e : ρ.own = own ++ [fp]) (r : EntRel w ρ h fs es) (low : (fs.all fun p => match p.2 with | .own i => decide (i < own.length) | _ => true) = true) : EntRel w (ρ.hideLast fp own) h fs es := by
  induction r with
  | nil => exact .nil
  | cons hv _ ih =>
    rw [List.all_cons, Bool.and_eq_true] at low
    refine .cons (VRel.hideLast e hv ?_) (ih low.2)
    have l1 := low.1
    dsimp only at l1
    split
    · exact of_decide_eq_true l1
    · trivial
theorem SRel.hideLast {Z : Shapes} {w : World} {hb h : Heap} {o : AO} {fp : List Addr} {own : List (List Addr)} (R : SRel Z w hb ρ (σ ++ [o]) h) (e : ρ.own = own ++ [fp]) (hl : σ.all (AO.low σ.length) = true) : SRel Z w hb (ρ.hideLast fp own) σ h := by
  have len : own.length = σ.length := by have := R.len; rw [e] at this; simpa using this
  have sub : ∀ a, a ∈ (ρ.hideLast fp own).flatten → a ∈ ρ.flatten := fun a ha => (mem_hideLast e).mp ha
  refine ⟨R.base, len, fun i fp' o' h1 h2 => ?_, ?_, fun a ha => R.fresh a (sub a ha), fun a ha => R.there a (sub a ha)⟩
  · have hi : i < own.length := (List.getElem?_eq_some_iff.mp h1).1
    have h1' : ρ.own[i]? = some fp' := by rw [e, List.getElem?_append_left hi]; exact h1
    have h2' : (σ ++ [o])[i]? = some o' := by rw [List.getElem?_append_left (len ▸ hi)]; exact h2
    have r := R.objs i fp' o' h1' h2'
    have low := List.all_eq_true.mp hl o' (List.mem_of_getElem? h2)
    rw [← len] at low
    cases o' with
    | list xs => obtain ⟨a, vs, e', hL, hx⟩ := r; exact ⟨a, vs, e', hL, hx.sub sub⟩
    | dict kvs => exact r
    | inst C fs =>
      obtain ⟨a, d, es, n, e', q1, q2, q3⟩ := r
      exact ⟨a, d, es, n, e', q1, q2, EntRel.hideLast e q3 low⟩
    | stream y => exact r
    | citer j live =>
      obtain ⟨a, rr, q, hc⟩ := r
      rw [e, List.getElem?_append_left (of_decide_eq_true low)] at q
      exact ⟨a, rr, q, hc⟩
    | tbl made => exact r
  · have nd := R.nd
    unfold Rho.flatten at nd
    rw [e] at nd
    unfold Rho.hideLast Rho.flatten
    simpa [List.flatten_append] using nd
theorem Ext.hideLast {F : Addr → Prop} {ρ ρ' : Rho} {h h' : Heap} {fp : List Addr} {own : List (List Addr)} (x : Ext F ρ ρ' h h') (e : ρ'.own = own ++ [fp]) (hl : ρ.own.length ≤ own.length) : Ext F ρ (ρ'.hideLast fp own) h h' := by
  obtain ⟨m, p, e1, e2, e3⟩ := x.more
  rw [e] at e1
  have hm : ∃ m', m = m' ++ [fp] ∧ own = ρ.own ++ m' := by
    have h1 : (own ++ [fp]).length = (ρ.own ++ m).length := by rw [e1]
    simp at h1
    have hne : m ≠ [] := by rintro rfl; simp at h1; omega
    refine ⟨m.dropLast, ?_, ?_⟩
    · have := congrArg List.getLast? e1
      simp only [List.getLast?_append, List.getLast?_singleton, Option.some_or] at this
      have hg : m.getLast? = some fp := by
        cases q : m.getLast? with
        | none => exact absurd (List.getLast?_eq_none_iff.mp q) hne
        | some z => rw [q] at this; simpa using this.symm
      rw [List.getLast?_eq_some_getLast hne] at hg
      have := List.dropLast_concat_getLast hne
      rw [Option.some.inj hg] at this
      exact this.symm
    · have := congrArg List.dropLast e1
      rw [List.dropLast_append_of_ne_nil (by simp), List.dropLast_append_of_ne_nil hne] at this
      simpa using this
  obtain ⟨m', rfl, rfl⟩ := hm
  refine ⟨⟨m', fp ++ p, rfl, by show fp ++ ρ'.priv = _; rw [e2, List.append_assoc], fun a ha => e3 a ?_⟩, x.kept, x.there⟩
  simp only [List.flatten_append, List.flatten_cons, List.flatten_nil, List.append_nil, List.mem_append] at ha ⊢
  rcases ha with h | h | h
  · exact .inl (.inl h)
  · exact .inl (.inr h)
  · exact .inr h
theorem VCallC_forget {a : Addr} {args : List V} {kw : List (Str × V)} {v : V} {o : AO} (h : X.VCallC d a args kw σ v (σ' ++ [o])) (hf : flat v = true) (hl : σ'.all (AO.low σ'.length) = true) (hn : σ.length ≤ σ'.length) : X.VCallC d a args kw σ v σ' := by
  intro A ρ s vs kvs Rz ok R ra ek rk kr
  refine h A ρ s vs kvs Rz ok R ra ek rk fun ρ' h' tk u x R' r => ?_
  have hlen := R'.len
  rw [List.length_append] at hlen
  have hne : ρ'.own ≠ [] := by intro q; rw [q] at hlen; simp at hlen
  have e : ρ'.own = ρ'.own.dropLast ++ [ρ'.own.getLast hne] := (List.dropLast_concat_getLast hne).symm
  refine kr _ h' tk u (x.hideLast e (by rw [R.len, List.length_dropLast, hlen]; simpa using hn)) (R'.hideLast e hl) (VRel.hideLast e r ?_)
  cases v <;> first | trivial | cases hf
end
end Mine
end

-- part M66
section
namespace Mine
open PySem PySem.W PyProof.Rows PySem.Calls PySem.Spec

noncomputable abbrev C3 := Fin 3 × Fin 3 × Fin 3
noncomputable def figS (c : C3) : Str := ⟨#[48 + c.1.val, 48 + c.2.1.val, 48 + c.2.2.val]⟩
noncomputable def all3 : List (Fin 3) := [0, 1, 2]
noncomputable def allC : List C3 := all3.flatMap fun a => all3.flatMap fun b => all3.map fun c => (a, b, c)
noncomputable def pieceL (a : Fin 3) (l : Nat) : List Nat := if a = 0 then [] else [if a = 1 then 43 else 45, l]
noncomputable def spellL (up : Bool) (c : C3) : List Nat := 124 :: (pieceL c.1 (if up then 88 else 120) ++ pieceL c.2.1 (if up then 89 else 121) ++ pieceL c.2.2 (if up then 90 else 122))
noncomputable def spellS (up : Bool) (c : C3) : Str := ⟨(spellL up c).toArray⟩
noncomputable def lettersS (up : Bool) : Str := if up then ⟨#[88, 89, 90]⟩ else ⟨#[120, 121, 122]⟩
noncomputable def partC (c e : C3) : Bool := (c.1 == 0 || c.1 == e.1) && (c.2.1 == 0 || c.2.1 == e.2.1) && (c.2.2 == 0 || c.2.2 == e.2.2)
theorem mem_allC : ∀ c : C3, c ∈ allC
  | (a, b, c) => by
    have : ∀ a b c : Fin 3, (a, b, c) ∈ allC := by decide
    exact this a b c
theorem r_spell (P : Params) : (allC.all fun c => [true, false].all fun u => gives (.str (spellS u c)) (run (SP P) 60 20 (.call (.val (.ref 244)) [.str (figS c), .str (lettersS u)] []) [])) = true := by kernel_rfl
theorem r_fig (P : Params) : (allC.all fun c => [true, false].all fun u => gives (.str (figS c)) (run (SP P) 60 20 (.call (.val (.ref 263)) [.str (spellS u c)] []) [])) = true := by kernel_rfl
noncomputable def partRow (P : Params) (c : C3) : Bool := allC.all fun e => gives (.bool (partC c e)) (run (SP P) 60 20 (.call (.val (.ref 268)) [.str (figS c), .str (figS e)] []) [])
theorem r_part1 (P : Params) : (allC.take 9).all (partRow P) = true := by kernel_rfl
theorem r_part2 (P : Params) : ((allC.drop 9).take 9).all (partRow P) = true := by kernel_rfl
theorem r_part3 (P : Params) : (allC.drop 18).all (partRow P) = true := by kernel_rfl
theorem r_part (P : Params) : (allC.all fun c => allC.all fun e => gives (.bool (partC c e)) (run (SP P) 60 20 (.call (.val (.ref 268)) [.str (figS c), .str (figS e)] []) [])) = true := by
  show allC.all (partRow P) = true
  rw [show allC = allC.take 9 ++ ((allC.drop 9).take 9 ++ allC.drop 18) from rfl, List.all_append, List.all_append, r_part1, r_part2, r_part3]
  rfl
end Mine
end

-- part M69
section
namespace Mine
open PySem PySem.W PyProof.Rows PySem.Calls PySem.Spec

noncomputable abbrev scp (names : List (Str × NameKind)) : Scope := { kind := .function, names := names, isGenerator := false, isCoroutine := false }
theorem sh232 (P : Params) : ∃ q1 q2 q3 q4 q5 q6 q7 q8 q9 q10 q11 q12 q13 q14 q15 q16 q17 q18 q19 q20 q21 q22 q23 q24 q25 q26 q27 q28 q29, (fnA P 232).body =
    [(.Return (some (.ListComp (.BinOp (.Name "number" q1) .Add (.Call (.Name "sum" q2) [(.ListComp (.BinOp (.Name "x" q3) .Mod (.Constant (.int 1000000) 0 q4) q5) [⟨(.Name "x" q6), (.Subscript (.Name "script" q7) (.Slice (some (.Name "k" q8)) (some (.BinOp (.Constant (.int 2) 0 q9) .Mult (.Call (.Name "len" q10) [(.Name "own" q11)] [] q12) q13)) (some (.Call (.Name "len" q14) [(.Name "own" q15)] [] q16)) q17) q18), [], 0⟩] (scp [(".0", .local), ("x", .local)]) q19)] [] q20) q21) [⟨(.Tuple [(.Name "k" q22), (.Name "number" q23)] 0 q24), (.Call (.Name "enumerate" q25) [(.Name "own" q26)] [] q27), [], 0⟩] (scp [(".0", .local), ("k", .local), ("number", .local), ("sum", .globalImplicit), ("len", .globalImplicit), ("own", .free), ("script", .free)]) q28)) q29)] := ⟨_, _, _, _, _, _, _, _, _, _, _, _, _, _, _, _, _, _, _, _, _, _, _, _, _, _, _, _, _, rfl⟩
theorem sn232 (P : Params) : (fnA P 232).sc.names = ([("script", .cell), ("own", .cell), ("enumerate", .globalImplicit)] : List (Str × NameKind)) := by kernel_rfl

theorem sh239 (P : Params) : ∃ q1 q2 q3 q4 q5 q6 q7 q8 q9 q10 q11 q12 q13 q14 q15 q16 q17 q18 q19 q20 q21 q22 q23 q24 q25 q26 q27, (fnA P 239).body =
    [(.Assign [(.Name "code" q1)] (.BinOp (.Constant (.int 1) 0 q2) .Add (.BinOp (.Name "cell" q3) .Mod (.Constant (.int 26) 0 q4) q5) q6) q7),
     (.Return (some (.BinOp (.BinOp (.Call (.Name "str" q8) [(.BinOp (.Name "code" q9) .Mod (.Constant (.int 3) 0 q10) q11)] [] q12) .Add (.Call (.Name "str" q13) [(.BinOp (.BinOp (.Name "code" q14) .FloorDiv (.Constant (.int 3) 0 q15) q16) .Mod (.Constant (.int 3) 0 q17) q18)] [] q19) q20) .Add (.Call (.Name "str" q21) [(.BinOp (.Name "code" q22) .FloorDiv (.Constant (.int 9) 0 q23) q24)] [] q25) q26)) q27)] := ⟨_, _, _, _, _, _, _, _, _, _, _, _, _, _, _, _, _, _, _, _, _, _, _, _, _, _, _, rfl⟩
theorem sn239 (P : Params) : (fnA P 239).sc.names = ([("cell", .local), ("code", .local), ("str", .globalImplicit)] : List (Str × NameKind)) := by kernel_rfl

noncomputable def B249 : List Stmt :=
  [(.Assign [(.Name "text" ⟨184, 4, 184, 8⟩)] (.Constant (.str ⟨#[]⟩) 0 ⟨184, 11, 184, 13⟩) ⟨184, 4, 184, 13⟩),
   (.For (.Tuple [(.Name "k" ⟨185, 8, 185, 9⟩), (.Name "piece" ⟨185, 11, 185, 16⟩)] 0 ⟨185, 8, 185, 16⟩) (.Call (.Name "enumerate" ⟨185, 20, 185, 29⟩) [(.Name "pieces" ⟨185, 30, 185, 36⟩)] [] ⟨185, 20, 185, 37⟩) [(.If (.Compare (.BinOp (.BinOp (.Name "style" ⟨186, 11, 186, 16⟩) .FloorDiv (.BinOp (.Constant (.int 2) 0 ⟨186, 20, 186, 21⟩) .Pow (.Name "k" ⟨186, 25, 186, 26⟩) ⟨186, 20, 186, 26⟩) ⟨186, 11, 186, 26⟩) .Mod (.Constant (.int 2) 0 ⟨186, 29, 186, 30⟩) ⟨186, 11, 186, 30⟩) [.Eq] [(.Constant (.int 1) 0 ⟨186, 34, 186, 35⟩)] ⟨186, 11, 186, 35⟩) [(.AugAssign (.Name "text" ⟨187, 12, 187, 16⟩) .Add (.BinOp (.BinOp (.Constant (.str ⟨#[34]⟩) 0 ⟨187, 20, 187, 23⟩) .Add (.Name "piece" ⟨187, 26, 187, 31⟩) ⟨187, 20, 187, 31⟩) .Add (.Constant (.str ⟨#[34, 10]⟩) 0 ⟨187, 34, 187, 39⟩) ⟨187, 20, 187, 39⟩) ⟨187, 12, 187, 39⟩)] [(.AugAssign (.Name "text" ⟨189, 12, 189, 16⟩) .Add (.BinOp (.Call (.Attribute (.Constant (.str ⟨#[]⟩) 0 ⟨189, 20, 189, 22⟩) "join" ⟨189, 20, 189, 27⟩) [(.ListComp (.BinOp (.Constant (.str ⟨#[92]⟩) 0 ⟨189, 29, 189, 33⟩) .Add (.Name "sign" ⟨189, 36, 189, 40⟩) ⟨189, 29, 189, 40⟩) [⟨(.Name "sign" ⟨189, 45, 189, 49⟩), (.Name "piece" ⟨189, 53, 189, 58⟩), [], 0⟩] (scp [(".0", .local), ("sign", .local)]) ⟨189, 28, 189, 59⟩)] [] ⟨189, 20, 189, 60⟩) .Add (.Constant (.str ⟨#[10]⟩) 0 ⟨189, 63, 189, 67⟩) ⟨189, 20, 189, 67⟩) ⟨189, 12, 189, 67⟩)] ⟨186, 8, 189, 67⟩)] [] ⟨185, 4, 189, 67⟩),
   (.Return (some (.Name "text" ⟨190, 11, 190, 15⟩)) ⟨190, 4, 190, 15⟩)]
theorem sh249 (P : Params) : (fnA P 249).body = B249 := by kernel_rfl
theorem sn249 (P : Params) : (fnA P 249).sc.names = ([("pieces", .local), ("style", .local), ("text", .local), ("k", .local), ("piece", .local), ("enumerate", .globalImplicit)] : List (Str × NameKind)) := by kernel_rfl

noncomputable def B273 : List Stmt :=
  [(.For (.Name "word" ⟨214, 8, 214, 12⟩) (.Name "words" ⟨214, 16, 214, 21⟩) [(.Expr (.Call (.Attribute (.Name "line" ⟨215, 8, 215, 12⟩) "push_token" ⟨215, 8, 215, 23⟩) [(.Name "word" ⟨215, 24, 215, 28⟩)] [] ⟨215, 8, 215, 29⟩) ⟨215, 8, 215, 29⟩)] [] ⟨214, 4, 215, 29⟩),
   (.Assign [(.Name "table" ⟨216, 4, 216, 9⟩)] (.Call (.Name "Headers" ⟨216, 12, 216, 19⟩) [] [] ⟨216, 12, 216, 21⟩) ⟨216, 4, 216, 21⟩),
   (.Assign [(.Name "word" ⟨217, 4, 217, 8⟩)] (.Call (.Attribute (.Name "line" ⟨217, 11, 217, 15⟩) "get_token" ⟨217, 11, 217, 25⟩) [] [] ⟨217, 11, 217, 27⟩) ⟨217, 4, 217, 27⟩),
   (.While (.Compare (.Name "word" ⟨218, 10, 218, 14⟩) [.NotEq] [(.Constant (.str ⟨#[]⟩) 0 ⟨218, 18, 218, 20⟩)] ⟨218, 10, 218, 20⟩) [(.Assign [(.Name "new" ⟨219, 8, 219, 11⟩)] (.Call (.Name "_law_figures" ⟨219, 14, 219, 26⟩) [(.Name "word" ⟨219, 27, 219, 31⟩)] [] ⟨219, 14, 219, 32⟩) ⟨219, 8, 219, 32⟩), (.Assign [(.Name "pairs" ⟨220, 8, 220, 13⟩)] (.Call (.Attribute (.Name "table" ⟨220, 16, 220, 21⟩) "items" ⟨220, 16, 220, 27⟩) [] [] ⟨220, 16, 220, 29⟩) ⟨220, 8, 220, 29⟩), (.If (.Compare (.ListComp (.Name "name" ⟨221, 12, 221, 16⟩) [⟨(.Tuple [(.Name "name" ⟨221, 21, 221, 25⟩), (.Name "old" ⟨221, 27, 221, 30⟩)] 0 ⟨221, 21, 221, 30⟩), (.Name "pairs" ⟨221, 34, 221, 39⟩), [(.Call (.Name "_law_is_part" ⟨221, 43, 221, 55⟩) [(.Name "old" ⟨221, 56, 221, 59⟩), (.Name "new" ⟨221, 61, 221, 64⟩)] [] ⟨221, 43, 221, 65⟩)], 0⟩] (scp [(".0", .local), ("name", .local), ("old", .local), ("_law_is_part", .globalImplicit), ("new", .free)]) ⟨221, 11, 221, 66⟩) [.Eq] [(.List [] ⟨221, 70, 221, 72⟩)] ⟨221, 11, 221, 72⟩) [(.For (.Tuple [(.Name "name" ⟨222, 16, 222, 20⟩), (.Name "old" ⟨222, 22, 222, 25⟩)] 0 ⟨222, 16, 222, 25⟩) (.Name "pairs" ⟨222, 29, 222, 34⟩) [(.Assign [(.Name "clashes" ⟨223, 16, 223, 23⟩)] (.ListComp (.Name "k" ⟨223, 27, 223, 28⟩) [⟨(.Name "k" ⟨223, 33, 223, 34⟩), (.Call (.Name "range" ⟨223, 38, 223, 43⟩) [(.Constant (.int 3) 0 ⟨223, 44, 223, 45⟩)] [] ⟨223, 38, 223, 46⟩), [(.Compare (.BinOp (.Subscript (.Name "old" ⟨223, 50, 223, 53⟩) (.Name "k" ⟨223, 54, 223, 55⟩) ⟨223, 50, 223, 56⟩) .Add (.Subscript (.Name "new" ⟨223, 59, 223, 62⟩) (.Name "k" ⟨223, 63, 223, 64⟩) ⟨223, 59, 223, 65⟩) ⟨223, 50, 223, 65⟩) [.In] [(.List [(.Constant (.str ⟨#[49, 50]⟩) 0 ⟨223, 70, 223, 74⟩), (.Constant (.str ⟨#[50, 49]⟩) 0 ⟨223, 76, 223, 80⟩)] ⟨223, 69, 223, 81⟩)] ⟨223, 50, 223, 81⟩)], 0⟩] (scp [(".0", .local), ("k", .local), ("new", .free), ("old", .free)]) ⟨223, 26, 223, 82⟩) ⟨223, 16, 223, 82⟩), (.If (.Call (.Name "_law_is_part" ⟨224, 19, 224, 31⟩) [(.Name "new" ⟨224, 32, 224, 35⟩), (.Name "old" ⟨224, 37, 224, 40⟩)] [] ⟨224, 19, 224, 41⟩) [(.Delete [(.Subscript (.Name "table" ⟨225, 24, 225, 29⟩) (.Call (.Attribute (.Name "name" ⟨225, 30, 225, 34⟩) "lower" ⟨225, 30, 225, 40⟩) [] [] ⟨225, 30, 225, 42⟩) ⟨225, 24, 225, 43⟩)] ⟨225, 20, 225, 43⟩)] [(.If (.Compare (.Call (.Name "len" ⟨226, 21, 226, 24⟩) [(.Name "clashes" ⟨226, 25, 226, 32⟩)] [] ⟨226, 21, 226, 33⟩) [.Eq] [(.Constant (.int 1) 0 ⟨226, 37, 226, 38⟩)] ⟨226, 21, 226, 38⟩) [(.Assign [(.Name "both" ⟨227, 20, 227, 24⟩)] (.Call (.Attribute (.Constant (.str ⟨#[]⟩) 0 ⟨227, 27, 227, 29⟩) "join" ⟨227, 27, 227, 34⟩) [(.ListComp (.IfExp (.Compare (.Name "k" ⟨227, 43, 227, 44⟩) [.In] [(.Name "clashes" ⟨227, 48, 227, 55⟩)] ⟨227, 43, 227, 55⟩) (.Constant (.str ⟨#[48]⟩) 0 ⟨227, 36, 227, 39⟩) (.Call (.Name "max" ⟨227, 61, 227, 64⟩) [(.Subscript (.Name "old" ⟨227, 65, 227, 68⟩) (.Name "k" ⟨227, 69, 227, 70⟩) ⟨227, 65, 227, 71⟩), (.Subscript (.Name "new" ⟨227, 73, 227, 76⟩) (.Name "k" ⟨227, 77, 227, 78⟩) ⟨227, 73, 227, 79⟩)] [] ⟨227, 61, 227, 80⟩) ⟨227, 36, 227, 80⟩) [⟨(.Name "k" ⟨227, 85, 227, 86⟩), (.Call (.Name "range" ⟨227, 90, 227, 95⟩) [(.Constant (.int 3) 0 ⟨227, 96, 227, 97⟩)] [] ⟨227, 90, 227, 98⟩), [], 0⟩] (scp [(".0", .local), ("k", .local), ("max", .globalImplicit), ("clashes", .free), ("new", .free), ("old", .free)]) ⟨227, 35, 227, 99⟩)] [] ⟨227, 27, 227, 100⟩) ⟨227, 20, 227, 100⟩), (.Expr (.Call (.Attribute (.Name "line" ⟨228, 20, 228, 24⟩) "push_token" ⟨228, 20, 228, 35⟩) [(.Call (.Name "_law_spelled" ⟨228, 36, 228, 48⟩) [(.Name "both" ⟨228, 49, 228, 53⟩), (.Constant (.str ⟨#[88, 89, 90]⟩) 0 ⟨228, 55, 228, 60⟩)] [] ⟨228, 36, 228, 61⟩)] [] ⟨228, 20, 228, 62⟩) ⟨228, 20, 228, 62⟩)] [] ⟨226, 16, 228, 62⟩)] ⟨224, 16, 228, 62⟩)] [] ⟨222, 12, 228, 62⟩), (.Assign [(.Subscript (.Name "table" ⟨229, 12, 229, 17⟩) (.Name "word" ⟨229, 18, 229, 22⟩) ⟨229, 12, 229, 23⟩)] (.Name "new" ⟨229, 26, 229, 29⟩) ⟨229, 12, 229, 29⟩)] [] ⟨221, 8, 229, 29⟩), (.Assign [(.Name "word" ⟨230, 8, 230, 12⟩)] (.Call (.Attribute (.Name "line" ⟨230, 15, 230, 19⟩) "get_token" ⟨230, 15, 230, 29⟩) [] [] ⟨230, 15, 230, 31⟩) ⟨230, 8, 230, 31⟩)] [] ⟨218, 4, 230, 31⟩),
   (.Return (some (.Name "table" ⟨231, 11, 231, 16⟩)) ⟨231, 4, 231, 16⟩)]
theorem sh273 (P : Params) : (fnA P 273).body = B273 := by kernel_rfl
theorem sn273 (P : Params) : (fnA P 273).sc.names = ([("line", .local), ("words", .local), ("word", .local), ("table", .local), ("new", .cell), ("pairs", .local), ("name", .local), ("old", .cell), ("clashes", .cell), ("both", .local), ("Headers", .globalImplicit), ("_law_figures", .globalImplicit), ("range", .globalImplicit), ("_law_is_part", .globalImplicit), ("len", .globalImplicit), ("_law_spelled", .globalImplicit)] : List (Str × NameKind)) := by kernel_rfl

noncomputable def B278 : List Stmt :=
  [(.Assign [(.Name "rows" ⟨233, 4, 233, 8⟩)] (.List [(.Tuple [(.Constant (.str ⟨#[]⟩) 0 ⟨233, 13, 233, 15⟩), (.Constant (.int 0) 0 ⟨233, 17, 233, 18⟩)] 0 ⟨233, 12, 233, 19⟩)] ⟨233, 11, 233, 20⟩) ⟨233, 4, 233, 20⟩),
   (.For (.Name "yes" ⟨234, 8, 234, 11⟩) (.List [(.Constant (.int 170) 0 ⟨234, 16, 234, 19⟩), (.Constant (.int 204) 0 ⟨234, 21, 234, 24⟩), (.Constant (.int 240) 0 ⟨234, 26, 234, 29⟩)] ⟨234, 15, 234, 30⟩) [(.Assign [(.Name "rows" ⟨235, 8, 235, 12⟩)] (.ListComp (.Tuple [(.BinOp (.Name "text" ⟨235, 17, 235, 21⟩) .Add (.Name "figure" ⟨235, 24, 235, 30⟩) ⟨235, 17, 235, 30⟩), (.BinOp (.Name "mask" ⟨235, 32, 235, 36⟩) .BitOr (.Name "part" ⟨235, 39, 235, 43⟩) ⟨235, 32, 235, 43⟩)] 0 ⟨235, 16, 235, 44⟩) [⟨(.Tuple [(.Name "text" ⟨235, 49, 235, 53⟩), (.Name "mask" ⟨235, 55, 235, 59⟩)] 0 ⟨235, 49, 235, 59⟩), (.Name "rows" ⟨235, 63, 235, 67⟩), [], 0⟩, ⟨(.Tuple [(.Name "figure" ⟨235, 72, 235, 78⟩), (.Name "part" ⟨235, 80, 235, 84⟩)] 0 ⟨235, 72, 235, 84⟩), (.List [(.Tuple [(.Constant (.str ⟨#[48]⟩) 0 ⟨235, 90, 235, 93⟩), (.Constant (.int 0) 0 ⟨235, 95, 235, 96⟩)] 0 ⟨235, 89, 235, 97⟩), (.Tuple [(.Constant (.str ⟨#[49]⟩) 0 ⟨235, 100, 235, 103⟩), (.Name "yes" ⟨235, 105, 235, 108⟩)] 0 ⟨235, 99, 235, 109⟩), (.Tuple [(.Constant (.str ⟨#[50]⟩) 0 ⟨235, 112, 235, 115⟩), (.BinOp (.Constant (.int 255) 0 ⟨235, 117, 235, 120⟩) .Sub (.Name "yes" ⟨235, 123, 235, 126⟩) ⟨235, 117, 235, 126⟩)] 0 ⟨235, 111, 235, 127⟩)] ⟨235, 88, 235, 128⟩), [], 0⟩] (scp [(".0", .local), ("text", .local), ("mask", .local), ("figure", .local), ("part", .local), ("yes", .free)]) ⟨235, 15, 235, 129⟩) ⟨235, 8, 235, 129⟩)] [] ⟨234, 4, 235, 129⟩),
   (.Assign [(.Name "masks" ⟨236, 4, 236, 9⟩)] (.Call (.Name "dict" ⟨236, 12, 236, 16⟩) [(.Name "rows" ⟨236, 17, 236, 21⟩)] [] ⟨236, 12, 236, 22⟩) ⟨236, 4, 236, 22⟩),
   (.Assign [(.Name "holds" ⟨237, 4, 237, 9⟩)] (.Constant (.int 255) 0 ⟨237, 12, 237, 15⟩) ⟨237, 4, 237, 15⟩),
   (.For (.Name "figures" ⟨238, 8, 238, 15⟩) (.Name "drawn" ⟨238, 19, 238, 24⟩) [(.Assign [(.Name "holds" ⟨239, 8, 239, 13⟩)] (.BinOp (.Name "holds" ⟨239, 16, 239, 21⟩) .BitAnd (.Subscript (.Name "masks" ⟨239, 24, 239, 29⟩) (.Name "figures" ⟨239, 30, 239, 37⟩) ⟨239, 24, 239, 38⟩) ⟨239, 16, 239, 38⟩) ⟨239, 8, 239, 38⟩)] [] ⟨238, 4, 239, 38⟩),
   (.Assign [(.Name "due" ⟨240, 4, 240, 7⟩)] (.List [] ⟨240, 10, 240, 12⟩) ⟨240, 4, 240, 12⟩),
   (.For (.Tuple [(.Name "text" ⟨241, 8, 241, 12⟩), (.Name "mask" ⟨241, 14, 241, 18⟩)] 0 ⟨241, 8, 241, 18⟩) (.Name "rows" ⟨241, 22, 241, 26⟩) [(.If (.Compare (.BinOp (.Name "holds" ⟨242, 11, 242, 16⟩) .BitAnd (.Name "mask" ⟨242, 19, 242, 23⟩) ⟨242, 11, 242, 23⟩) [.Eq] [(.Name "holds" ⟨242, 27, 242, 32⟩)] ⟨242, 11, 242, 32⟩) [(.Assign [(.Name "parts" ⟨243, 12, 243, 17⟩)] (.ListComp (.Subscript (.Name "masks" ⟨243, 21, 243, 26⟩) (.BinOp (.BinOp (.Subscript (.Name "text" ⟨243, 27, 243, 31⟩) (.Slice none (some (.Name "k" ⟨243, 33, 243, 34⟩)) none ⟨243, 32, 243, 34⟩) ⟨243, 27, 243, 35⟩) .Add (.Constant (.str ⟨#[48]⟩) 0 ⟨243, 38, 243, 41⟩) ⟨243, 27, 243, 41⟩) .Add (.Subscript (.Name "text" ⟨243, 44, 243, 48⟩) (.Slice (some (.BinOp (.Name "k" ⟨243, 49, 243, 50⟩) .Add (.Constant (.int 1) 0 ⟨243, 53, 243, 54⟩) ⟨243, 49, 243, 54⟩)) none none ⟨243, 49, 243, 55⟩) ⟨243, 44, 243, 56⟩) ⟨243, 27, 243, 56⟩) ⟨243, 21, 243, 57⟩) [⟨(.Name "k" ⟨243, 62, 243, 63⟩), (.Call (.Name "range" ⟨243, 67, 243, 72⟩) [(.Constant (.int 3) 0 ⟨243, 73, 243, 74⟩)] [] ⟨243, 67, 243, 75⟩), [(.Compare (.Subscript (.Name "text" ⟨243, 79, 243, 83⟩) (.Name "k" ⟨243, 84, 243, 85⟩) ⟨243, 79, 243, 86⟩) [.NotEq] [(.Constant (.str ⟨#[48]⟩) 0 ⟨243, 90, 243, 93⟩)] ⟨243, 79, 243, 93⟩)], 0⟩] (scp [(".0", .local), ("k", .local), ("masks", .free), ("text", .free)]) ⟨243, 20, 243, 94⟩) ⟨243, 12, 243, 94⟩), (.If (.Compare (.ListComp (.Name "part" ⟨244, 16, 244, 20⟩) [⟨(.Name "part" ⟨244, 25, 244, 29⟩), (.Name "parts" ⟨244, 33, 244, 38⟩), [(.Compare (.BinOp (.Name "holds" ⟨244, 42, 244, 47⟩) .BitAnd (.Name "part" ⟨244, 50, 244, 54⟩) ⟨244, 42, 244, 54⟩) [.Eq] [(.Name "holds" ⟨244, 58, 244, 63⟩)] ⟨244, 42, 244, 63⟩)], 0⟩] (scp [(".0", .local), ("part", .local), ("holds", .free)]) ⟨244, 15, 244, 64⟩) [.Eq] [(.List [] ⟨244, 68, 244, 70⟩)] ⟨244, 15, 244, 70⟩) [(.Expr (.Call (.Attribute (.Name "due" ⟨245, 16, 245, 19⟩) "append" ⟨245, 16, 245, 26⟩) [(.Name "text" ⟨245, 27, 245, 31⟩)] [] ⟨245, 16, 245, 32⟩) ⟨245, 16, 245, 32⟩)] [] ⟨244, 12, 245, 32⟩)] [] ⟨242, 8, 245, 32⟩)] [] ⟨241, 4, 245, 32⟩),
   (.Return (some (.Name "due" ⟨246, 11, 246, 14⟩)) ⟨246, 4, 246, 14⟩)]
theorem sh278 (P : Params) : (fnA P 278).body = B278 := by kernel_rfl
theorem sn278 (P : Params) : (fnA P 278).sc.names = ([("drawn", .local), ("rows", .local), ("yes", .cell), ("text", .cell), ("mask", .local), ("masks", .cell), ("holds", .cell), ("figures", .local), ("due", .local), ("parts", .local), ("dict", .globalImplicit), ("range", .globalImplicit)] : List (Str × NameKind)) := by kernel_rfl

noncomputable def B283 : List Stmt :=
  [(.Assign [(.Name "cells" ⟨248, 4, 248, 9⟩)] (.Call (.Name "_law_cells" ⟨248, 12, 248, 22⟩) [(.Name "script" ⟨248, 23, 248, 29⟩), (.List [(.Constant (.int 3) 0 ⟨248, 32, 248, 33⟩), (.Constant (.int 36) 0 ⟨248, 35, 248, 37⟩), (.Constant (.int 14) 0 ⟨248, 39, 248, 41⟩), (.Constant (.int 38) 0 ⟨248, 43, 248, 45⟩)] ⟨248, 31, 248, 46⟩)] [] ⟨248, 12, 248, 47⟩) ⟨248, 4, 248, 47⟩),
   (.Assign [(.Name "drawn" ⟨249, 4, 249, 9⟩)] (.ListComp (.Call (.Name "_law_drawn" ⟨249, 13, 249, 23⟩) [(.Name "cell" ⟨249, 24, 249, 28⟩)] [] ⟨249, 13, 249, 29⟩) [⟨(.Name "cell" ⟨249, 34, 249, 38⟩), (.Name "cells" ⟨249, 42, 249, 47⟩), [], 0⟩] (scp [(".0", .local), ("cell", .local), ("_law_drawn", .globalImplicit)]) ⟨249, 12, 249, 48⟩) ⟨249, 4, 249, 48⟩),
   (.Assign [(.Name "words" ⟨250, 4, 250, 9⟩)] (.ListComp (.Call (.Name "_law_spelled" ⟨250, 13, 250, 25⟩) [(.Name "figures" ⟨250, 26, 250, 33⟩), (.IfExp (.Compare (.BinOp (.BinOp (.Name "cell" ⟨250, 44, 250, 48⟩) .FloorDiv (.Constant (.int 52) 0 ⟨250, 52, 250, 54⟩) ⟨250, 44, 250, 54⟩) .Mod (.Constant (.int 2) 0 ⟨250, 57, 250, 58⟩) ⟨250, 44, 250, 58⟩) [.Eq] [(.Constant (.int 0) 0 ⟨250, 62, 250, 63⟩)] ⟨250, 44, 250, 63⟩) (.Constant (.str ⟨#[120, 121, 122]⟩) 0 ⟨250, 35, 250, 40⟩) (.Constant (.str ⟨#[88, 89, 90]⟩) 0 ⟨250, 69, 250, 74⟩) ⟨250, 35, 250, 74⟩)] [] ⟨250, 13, 250, 75⟩) [⟨(.Tuple [(.Name "figures" ⟨250, 80, 250, 87⟩), (.Name "cell" ⟨250, 89, 250, 93⟩)] 0 ⟨250, 80, 250, 93⟩), (.Call (.Name "zip" ⟨250, 97, 250, 100⟩) [(.Name "drawn" ⟨250, 101, 250, 106⟩), (.Name "cells" ⟨250, 108, 250, 113⟩)] [] ⟨250, 97, 250, 114⟩), [], 0⟩] (scp [(".0", .local), ("figures", .local), ("cell", .local), ("_law_spelled", .globalImplicit)]) ⟨250, 12, 250, 115⟩) ⟨250, 4, 250, 115⟩),
   (.Assign [(.Name "line" ⟨251, 4, 251, 8⟩)] (.Call (.Name "_law_line" ⟨251, 11, 251, 20⟩) [(.Call (.Name "_law_written" ⟨251, 21, 251, 33⟩) [(.Name "words" ⟨251, 34, 251, 39⟩), (.Call (.Name "sum" ⟨251, 41, 251, 44⟩) [(.Name "cells" ⟨251, 45, 251, 50⟩)] [] ⟨251, 41, 251, 51⟩)] [] ⟨251, 21, 251, 52⟩)] [] ⟨251, 11, 251, 53⟩) ⟨251, 4, 251, 53⟩),
   (.If (.Compare (.ListComp (.Call (.Attribute (.Name "line" ⟨252, 8, 252, 12⟩) "get_token" ⟨252, 8, 252, 22⟩) [] [] ⟨252, 8, 252, 24⟩) [⟨(.Name "k" ⟨252, 29, 252, 30⟩), (.Call (.Name "range" ⟨252, 34, 252, 39⟩) [(.Constant (.int 4) 0 ⟨252, 40, 252, 41⟩)] [] ⟨252, 34, 252, 42⟩), [], 0⟩] (scp [(".0", .local), ("k", .local), ("line", .free)]) ⟨252, 7, 252, 43⟩) [.NotEq] [(.Name "words" ⟨252, 47, 252, 52⟩)] ⟨252, 7, 252, 52⟩) [(.Return (some (.Constant (.bool false) 0 ⟨253, 15, 253, 20⟩)) ⟨253, 8, 253, 20⟩)] [] ⟨252, 4, 253, 20⟩),
   (.Assign [(.Name "table" ⟨254, 4, 254, 9⟩)] (.Call (.Name "_law_kept" ⟨254, 12, 254, 21⟩) [(.Name "line" ⟨254, 22, 254, 26⟩), (.Name "words" ⟨254, 28, 254, 33⟩)] [] ⟨254, 12, 254, 34⟩) ⟨254, 4, 254, 34⟩),
   (.If (.BoolOp .Or [(.Compare (.Attribute (.Name "line" ⟨255, 7, 255, 11⟩) "lineno" ⟨255, 7, 255, 18⟩) [.NotEq] [(.Constant (.int 5) 0 ⟨255, 22, 255, 23⟩)] ⟨255, 7, 255, 23⟩), (.Compare (.ListComp (.Call (.Name "_law_figures" ⟨255, 28, 255, 40⟩) [(.Name "name" ⟨255, 41, 255, 45⟩)] [] ⟨255, 28, 255, 46⟩) [⟨(.Name "name" ⟨255, 51, 255, 55⟩), (.Call (.Attribute (.Name "table" ⟨255, 59, 255, 64⟩) "keys" ⟨255, 59, 255, 69⟩) [] [] ⟨255, 59, 255, 71⟩), [], 0⟩] (scp [(".0", .local), ("name", .local), ("_law_figures", .globalImplicit)]) ⟨255, 27, 255, 72⟩) [.NotEq] [(.Call (.Attribute (.Name "table" ⟨255, 76, 255, 81⟩) "values" ⟨255, 76, 255, 88⟩) [] [] ⟨255, 76, 255, 90⟩)] ⟨255, 27, 255, 90⟩)] ⟨255, 7, 255, 90⟩) [(.Return (some (.Constant (.bool false) 0 ⟨256, 15, 256, 20⟩)) ⟨256, 8, 256, 20⟩)] [] ⟨255, 4, 256, 20⟩),
   (.Return (some (.Compare (.Call (.Name "sorted" ⟨257, 11, 257, 17⟩) [(.Call (.Attribute (.Name "table" ⟨257, 18, 257, 23⟩) "values" ⟨257, 18, 257, 30⟩) [] [] ⟨257, 18, 257, 32⟩)] [] ⟨257, 11, 257, 33⟩) [.Eq] [(.Call (.Name "_law_due" ⟨257, 37, 257, 45⟩) [(.Name "drawn" ⟨257, 46, 257, 51⟩)] [] ⟨257, 37, 257, 52⟩)] ⟨257, 11, 257, 52⟩)) ⟨257, 4, 257, 52⟩)]
theorem sh283 (P : Params) : (fnA P 283).body = B283 := by kernel_rfl
theorem sn283 (P : Params) : (fnA P 283).sc.names = ([("script", .local), ("cells", .local), ("drawn", .local), ("words", .local), ("line", .cell), ("table", .local), ("_law_cells", .globalImplicit), ("zip", .globalImplicit), ("_law_line", .globalImplicit), ("_law_written", .globalImplicit), ("sum", .globalImplicit), ("range", .globalImplicit), ("_law_kept", .globalImplicit), ("sorted", .globalImplicit), ("_law_due", .globalImplicit)] : List (Str × NameKind)) := by kernel_rfl

noncomputable def B187 : List Stmt :=
  [(.Return (some (.Subscript (.Attribute (.Name "self" ⟨159, 15, 159, 19⟩) "_headers" ⟨159, 15, 159, 28⟩) (.Slice none none none ⟨159, 29, 159, 30⟩) ⟨159, 15, 159, 31⟩)) ⟨159, 8, 159, 31⟩)]
theorem sh187 (P : Params) : (fnA P 187).body = B187 := by kernel_rfl
theorem sn187 (P : Params) : (fnA P 187).sc.names = ([("self", .local)] : List (Str × NameKind)) := by kernel_rfl

noncomputable def B175 : List Stmt :=
  [(.Return (some (.ListComp (.Name "k" ⟨153, 16, 153, 17⟩) [⟨(.Tuple [(.Name "k" ⟨153, 22, 153, 23⟩), (.Name "v" ⟨153, 25, 153, 26⟩)] 0 ⟨153, 22, 153, 26⟩), (.Attribute (.Name "self" ⟨153, 30, 153, 34⟩) "_headers" ⟨153, 30, 153, 43⟩), [], 0⟩] (scp [(".0", .local), ("k", .local), ("v", .local)]) ⟨153, 15, 153, 44⟩)) ⟨153, 8, 153, 44⟩)]
theorem sh175 (P : Params) : (fnA P 175).body = B175 := by kernel_rfl
theorem sn175 (P : Params) : (fnA P 175).sc.names = ([("self", .local)] : List (Str × NameKind)) := by kernel_rfl

noncomputable def B180 : List Stmt :=
  [(.Return (some (.ListComp (.Name "v" ⟨156, 16, 156, 17⟩) [⟨(.Tuple [(.Name "k" ⟨156, 22, 156, 23⟩), (.Name "v" ⟨156, 25, 156, 26⟩)] 0 ⟨156, 22, 156, 26⟩), (.Attribute (.Name "self" ⟨156, 30, 156, 34⟩) "_headers" ⟨156, 30, 156, 43⟩), [], 0⟩] (scp [(".0", .local), ("k", .local), ("v", .local)]) ⟨156, 15, 156, 44⟩)) ⟨156, 8, 156, 44⟩)]
theorem sh180 (P : Params) : (fnA P 180).body = B180 := by kernel_rfl
theorem sn180 (P : Params) : (fnA P 180).sc.names = ([("self", .local)] : List (Str × NameKind)) := by kernel_rfl

noncomputable def B136 : List Stmt :=
  [(.Delete [(.Subscript (.Name "self" ⟨129, 12, 129, 16⟩) (.Name "name" ⟨129, 17, 129, 21⟩) ⟨129, 12, 129, 22⟩)] ⟨129, 8, 129, 22⟩),
   (.Expr (.Call (.Attribute (.Attribute (.Name "self" ⟨130, 8, 130, 12⟩) "_headers" ⟨130, 8, 130, 21⟩) "append" ⟨130, 8, 130, 28⟩) [(.Tuple [(.Call (.Attribute (.Name "self" ⟨130, 30, 130, 34⟩) "_convert_string_type" ⟨130, 30, 130, 55⟩) [(.Name "name" ⟨130, 56, 130, 60⟩)] [⟨(some "name"), (.Constant (.bool true) 0 ⟨130, 67, 130, 71⟩), ⟨130, 62, 130, 71⟩⟩] ⟨130, 30, 130, 72⟩), (.Call (.Attribute (.Name "self" ⟨130, 74, 130, 78⟩) "_convert_string_type" ⟨130, 74, 130, 99⟩) [(.Name "val" ⟨130, 100, 130, 103⟩)] [⟨(some "name"), (.Constant (.bool false) 0 ⟨130, 110, 130, 115⟩), ⟨130, 105, 130, 115⟩⟩] ⟨130, 74, 130, 116⟩)] 0 ⟨130, 29, 130, 117⟩)] [] ⟨130, 8, 130, 118⟩) ⟨130, 8, 130, 118⟩)]
theorem sh136 (P : Params) : (fnA P 136).body = B136 := by kernel_rfl
theorem sn136 (P : Params) : (fnA P 136).sc.names = ([("self", .local), ("name", .local), ("val", .local)] : List (Str × NameKind)) := by kernel_rfl

noncomputable def B141 : List Stmt :=
  [(.Assign [(.Name "name" ⟨133, 8, 133, 12⟩)] (.Call (.Attribute (.Name "self" ⟨133, 15, 133, 19⟩) "_convert_string_type" ⟨133, 15, 133, 40⟩) [(.Call (.Attribute (.Name "name" ⟨133, 41, 133, 45⟩) "lower" ⟨133, 41, 133, 51⟩) [] [] ⟨133, 41, 133, 53⟩)] [⟨(some "name"), (.Constant (.bool true) 0 ⟨133, 60, 133, 64⟩), ⟨133, 55, 133, 64⟩⟩] ⟨133, 15, 133, 65⟩) ⟨133, 8, 133, 65⟩),
   (.Assign [(.Subscript (.Attribute (.Name "self" ⟨134, 8, 134, 12⟩) "_headers" ⟨134, 8, 134, 21⟩) (.Slice none none none ⟨134, 22, 134, 23⟩) ⟨134, 8, 134, 24⟩)] (.ListComp (.Name "kv" ⟨134, 28, 134, 30⟩) [⟨(.Name "kv" ⟨134, 35, 134, 37⟩), (.Attribute (.Name "self" ⟨134, 41, 134, 45⟩) "_headers" ⟨134, 41, 134, 54⟩), [(.Compare (.Call (.Attribute (.Subscript (.Name "kv" ⟨134, 58, 134, 60⟩) (.Constant (.int 0) 0 ⟨134, 61, 134, 62⟩) ⟨134, 58, 134, 63⟩) "lower" ⟨134, 58, 134, 69⟩) [] [] ⟨134, 58, 134, 71⟩) [.NotEq] [(.Name "name" ⟨134, 75, 134, 79⟩)] ⟨134, 58, 134, 79⟩)], 0⟩] (scp [(".0", .local), ("kv", .local), ("name", .free)]) ⟨134, 27, 134, 80⟩) ⟨134, 8, 134, 80⟩)]
theorem sh141 (P : Params) : (fnA P 141).body = B141 := by kernel_rfl
theorem sn141 (P : Params) : (fnA P 141).sc.names = ([("self", .local), ("name", .cell)] : List (Str × NameKind)) := by kernel_rfl

noncomputable def B83 : List Stmt :=
  [(.Expr (.Call (.Attribute (.Attribute (.Name "self" ⟨101, 8, 101, 12⟩) "pushback" ⟨101, 8, 101, 21⟩) "append" ⟨101, 8, 101, 28⟩) [(.Name "token" ⟨101, 29, 101, 34⟩)] [] ⟨101, 8, 101, 35⟩) ⟨101, 8, 101, 35⟩)]
theorem sh83 (P : Params) : (fnA P 83).body = B83 := by kernel_rfl
theorem sn83 (P : Params) : (fnA P 83).sc.names = ([("self", .local), ("token", .local)] : List (Str × NameKind)) := by kernel_rfl

end Mine
end

-- part M70
section
namespace Mine
open PySem PySem.W PyProof.Rows PySem.Calls PySem.Spec

section
variable {w : World} {hb : Heap}
theorem fE {a : Addr} (h : usedF.contains a = true) : (CX w hb).S.fn a = some (fnA w.params a) := by
  show (if usedF.contains a then some (fnR a) else none) = _
  rw [if_pos h]; rfl
theorem all_below {α : Type} {f g : Nat → α} {n : Nat} (h : (List.range n).map f = (List.range n).map g) (k : Nat) (hk : k < n) : f k = g k := map_at h (List.mem_range.mpr hk)
noncomputable def codeK (c : Int) : Nat := (c.fmod 26).toNat
theorem codeK_lt (c : Int) : codeK c < 26 ∧ c.fmod 26 = (codeK c : Int) := by
  unfold codeK
  have h1 := Int.fmod_nonneg_of_pos c (show (0 : Int) < 26 by decide)
  have h2 := Int.fmod_lt_of_pos c (show (0 : Int) < 26 by decide)
  omega
noncomputable def digC (k : Nat) : C3 := (⟨(k + 1) % 3, Nat.mod_lt _ (by decide)⟩, ⟨(k + 1) / 3 % 3, Nat.mod_lt _ (by decide)⟩, ⟨(k + 1) / 9 % 3, Nat.mod_lt _ (by decide)⟩)
noncomputable def drawnC (c : Int) : C3 := digC (codeK c)
theorem co239 (G : Good8 (CX w hb)) (c : Int) (σ : AS) : (CX w hb).VCallC 20 239 [.int c] [] σ (.str (figS (drawnC c))) σ := by
  refine c_pure G.toGood (fE (by decide)) (by decide) (loc := [("cell", .int c)]) (by kernel_rfl) (by kernel_rfl) rfl rfl (fl := .ret (.str (figS (drawnC c)))) (τ := []) (loc' := [("cell", .int c), ("code", .int (1 + c.fmod 26))]) ?_ (by simp) rfl rfl
  obtain ⟨q1, q2, q3, q4, q5, q6, q7, q8, q9, q10, q11, q12, q13, q14, q15, q16, q17, q18, q19, q20, q21, q22, q23, q24, q25, q26, q27, e⟩ := sh239 w.params
  rw [e]
  refine x_cons_next (loc₁ := [("cell", .int c), ("code", .int (1 + c.fmod 26))]) (σ₁ := []) (run_sound G 30 21 (by decide) (.exec _ _ _) _ (.ex .next _) _ (by kernel_rfl)) (x_cons_out (by simp) ?_)
  obtain ⟨hk, e2⟩ := codeK_lt c
  unfold drawnC
  rw [e2]
  generalize codeK c = k at hk
  refine run_sound G 30 21 (by decide) (.exec _ _ _) _ (.ex (.ret (.str (figS (digC k)))) [("cell", .int c), ("code", .int (1 + (k : Int)))]) _ ?_
  revert k hk
  refine all_below ?_
  kernel_rfl
end
end Mine
end

-- part M71
section
namespace Mine
open PySem PySem.W PyProof.Rows PySem.Calls PySem.Spec

noncomputable abbrev iV (i : Int) : It := .at (.int i)
theorem pick_map (xs : List Int) : ∀ ks : List Nat, pick (xs.map iV) ks = (pick xs ks).map iV
  | [] => rfl
  | k :: r => by
    have ih := pick_map xs r
    unfold pick at ih ⊢
    rw [List.filterMap_cons, List.filterMap_cons, List.getElem?_map, ih]
    cases xs[k]? <;> rfl
theorem pick_len (xs : List Int) (ks : List Nat) : (pick xs ks).length ≤ ks.length := List.length_filterMap_le _ _
theorem slice_two (xs : List Int) (k : Nat) (hk : k < 4) : ∃ ys : List Int, ys.length ≤ 2 ∧ sliceL (xs.map iV) (some (k : Int)) (some 8) (some 4) = ys.map iV := by
  refine ⟨_, ?_, pick_map xs _⟩
  refine Nat.le_trans (pick_len _ _) ?_
  unfold sliceRange
  rw [List.length_map, List.length_range]
  unfold sliceBounds
  simp only [Option.getD_some, List.length_map]
  have h4 : (4 : Int) > 0 := by decide
  simp only [if_pos h4, if_neg (show ¬ ((8 : Int) < 0) by decide), if_neg (show ¬ ((k : Int) < 0) by omega)]
  split
  · omega
  · decide
noncomputable def sumMod : List Int → Int
  | [] => 0
  | y :: r => y.fmod 1000000 + sumMod r
theorem sumMod_bound : ∀ ys : List Int, 0 ≤ sumMod ys ∧ sumMod ys ≤ ys.length * 999999
  | [] => ⟨Int.le_refl _, by simp [sumMod]⟩
  | y :: r => by
    obtain ⟨h1, h2⟩ := sumMod_bound r
    have a := Int.fmod_nonneg_of_pos y (show (0 : Int) < 1000000 by decide)
    have b := Int.fmod_lt_of_pos y (show (0 : Int) < 1000000 by decide)
    unfold sumMod
    rw [List.length_cons]
    push_cast
    omega
section
variable {X : Cx} {d : Nat} {σ σ' : AS} {sc : Scope} {loc loc' : Loc}
theorem rEv (G : Good8 X) (hd : d ≤ 25) (n : Nat) {e : Expr} {a : V} (h : run X.S n d (.eval sc loc e) σ = some (.v a, σ')) : X.VEval d sc loc e σ a σ' := run_sound G n d hd _ _ _ _ h
theorem rE0 (G : Good8 X) (hd : d ≤ 25) (n : Nat) {e : Expr} {a : V} (h : run X.S n d (.eval sc loc e) σ = some (.v a, σ)) : X.VEval d sc loc e σ a σ := run_sound G n d hd _ _ _ _ h
theorem rC0 (G : Good8 X) (hd : d ≤ 25) (n : Nat) {e : Expr} {b : Bool} (h : run X.S n d (.cond sc loc e) σ = some (.b b, σ)) : X.VCond d sc loc e σ b σ := run_sound G n d hd _ _ _ _ h
theorem rI0 (G : Good8 X) (hd : d ≤ 25) (n : Nat) {e : Expr} {xs : List It} {g : Src} (h : run X.S n d (.iter sc loc e) σ = some (.src xs g, σ)) : X.VIter d sc loc e σ xs g σ := run_sound G n d hd _ _ _ _ h
theorem t_nil : X.VTests d sc loc [] σ true σ := .inl ⟨rfl, rfl, rfl⟩
theorem t_one {e : Expr} {b : Bool} (h : X.VCond d sc loc e σ b σ') : X.VTests d sc loc [e] σ b σ' := .inr ⟨e, rfl, h⟩
theorem rCd (G : Good8 X) (hd : d ≤ 25) (n : Nat) {e : Expr} {b : Bool} (h : run X.S n d (.cond sc loc e) σ = some (.b b, σ')) : X.VCond d sc loc e σ b σ' := run_sound G n d hd _ _ _ _ h
theorem rEx (G : Good8 X) (hd : d ≤ 25) (n : Nat) {st : Stmt} {f : Flw} (h : run X.S n d (.exec sc loc st) σ = some (.ex f loc', σ')) : X.VExec d sc loc st σ f loc' σ' := run_sound G n d hd _ _ _ _ h
theorem rExs (G : Good8 X) (hd : d ≤ 25) (n : Nat) {sts : List Stmt} {f : Flw} (h : run X.S n d (.execs sc loc sts) σ = some (.ex f loc', σ')) : X.VExecs d sc loc sts σ f loc' σ' := run_sound G n d hd _ _ _ _ h
theorem rIt (G : Good8 X) (hd : d ≤ 25) (n : Nat) {e : Expr} {xs : List It} {g : Src} (h : run X.S n d (.iter sc loc e) σ = some (.src xs g, σ')) : X.VIter d sc loc e σ xs g σ' := run_sound G n d hd _ _ _ _ h
theorem rCp (G : Good8 X) (hd : d ≤ 25) (n : Nat) {elt : Expr} {g : Comprehension} {gs : List Comprehension} {src : Src} {xs out : List It} (h : run X.S n d (.comp sc loc elt g gs src xs) σ = some (.its out, σ')) : X.VComp d sc loc elt g gs src xs σ out σ' := run_sound G n d hd _ _ _ _ h (.inr trivial)
end
section
variable {w : World} {hb : Heap}
noncomputable abbrev nmW2 (k n : Int) (xs : List It) : Loc := [("own", .lst [iV 3, iV 36, iV 14, iV 38]), ("script", .lst xs), ("k", .int k), ("number", .int n)]
theorem co232 (G : Good8 (CX w hb)) (xs : List Int) (hn : xs.length ≤ 63) (σ : AS) : ∃ c0 c1 c2 c3 : Int, (0 ≤ c0 ∧ c0 ≤ 3000000) ∧ (0 ≤ c1 ∧ c1 ≤ 3000000) ∧ (0 ≤ c2 ∧ c2 ≤ 3000000) ∧ (0 ≤ c3 ∧ c3 ≤ 3000000) ∧
    (CX w hb).VCallC 20 232 [scriptV xs, .lst [iV 3, iV 36, iV 14, iV 38]] [] σ (.lst [iV c0, iV c1, iV c2, iV c3]) σ := by
  obtain ⟨y0, l0, s0⟩ := slice_two xs 0 (by decide)
  obtain ⟨y1, l1, s1⟩ := slice_two xs 1 (by decide)
  obtain ⟨y2, l2, s2⟩ := slice_two xs 2 (by decide)
  obtain ⟨y3, l3, s3⟩ := slice_two xs 3 (by decide)
  have b0 := sumMod_bound y0
  have b1 := sumMod_bound y1
  have b2 := sumMod_bound y2
  have b3 := sumMod_bound y3
  refine ⟨3 + sumMod y0, 36 + sumMod y1, 14 + sumMod y2, 38 + sumMod y3, by omega, by omega, by omega, by omega, ?_⟩
  have elt : ∀ (k : Nat) (n : Int) (ys : List Int), ys.length ≤ 2 → sliceL (xs.map iV) (some (k : Int)) (some 8) (some 4) = ys.map iV → ∀ q1 q2 q3 q4 q5 q6 q7 q8 q9 q10 q11 q12 q13 q14 q15 q16 q17 q18 q19 q20 q21,
      (CX w hb).VEval 21 (relab (scp [(".0", .local), ("k", .local), ("number", .local), ("sum", .globalImplicit), ("len", .globalImplicit), ("own", .free), ("script", .free)])) (nmW2 k n (xs.map iV)) (.BinOp (.Name "number" q1) .Add (.Call (.Name "sum" q2) [(.ListComp (.BinOp (.Name "x" q3) .Mod (.Constant (.int 1000000) 0 q4) q5) [⟨(.Name "x" q6), (.Subscript (.Name "script" q7) (.Slice (some (.Name "k" q8)) (some (.BinOp (.Constant (.int 2) 0 q9) .Mult (.Call (.Name "len" q10) [(.Name "own" q11)] [] q12) q13)) (some (.Call (.Name "len" q14) [(.Name "own" q15)] [] q16)) q17) q18), [], 0⟩] (scp [(".0", .local), ("x", .local)]) q19)] [] q20) q21) [] (.int (n + sumMod ys)) [] := by
    intro k n ys hl hs q1 q2 q3 q4 q5 q6 q7 q8 q9 q10 q11 q12 q13 q14 q15 q16 q17 q18 q19 q20 q21
    refine v_BinOp (x := .int n) (y := .int (sumMod ys)) (rE0 G (by decide) 30 (by kernel_rfl)) (v_CallName G.toGood (f := .val (.builtin "sum")) (vs := [.lst (ys.map fun y => iV (y.fmod 1000000))]) (by rfl) (by rfl) (rE0 G (by decide) 30 (by kernel_rfl)) (v_evals_cons (by rfl) (v_ListComp (σ₁ := []) (items := ys.map iV) (src := {}) (by kernel_rfl) (i_lst (by rfl) ?_) ?_ (by rw [List.length_map]; omega)) v_evals_nil) (c_sum ?_ ?_ ?_)) (by rfl)
    · have e := v_SliceL (X := CX w hb) (d := 21) (sc := relab (scp [(".0", .local), ("k", .local), ("number", .local), ("sum", .globalImplicit), ("len", .globalImplicit), ("own", .free), ("script", .free)])) (loc := nmW2 k n (xs.map iV)) (σ := []) (σ₁ := []) (σ₂ := []) (σ₃ := []) (σ₄ := []) (p := q17) (pos := q18) (l := some (k : Int)) (h' := some 8) (st' := some 4)
        (rE0 G (by decide) 30 (e := .Name "script" q7) (a := .lst (xs.map iV)) (by kernel_rfl)) (p_some (rE0 G (by decide) 30 (e := .Name "k" q8) (by kernel_rfl))) (p_some (rE0 G (by decide) 30 (e := .BinOp (.Constant (.int 2) 0 q9) .Mult (.Call (.Name "len" q10) [(.Name "own" q11)] [] q12) q13) (by kernel_rfl))) (p_some (rE0 G (by decide) 30 (e := .Call (.Name "len" q14) [(.Name "own" q15)] [] q16) (by kernel_rfl))) (by decide) (by rw [List.length_map]; omega)
      rw [hs] at e
      exact e
    · match ys, hl with
      | [], _ => exact cp_nil
      | [a], _ => exact rCp G (by decide) 30 (by kernel_rfl)
      | [a, b], _ => exact rCp G (by decide) 30 (by kernel_rfl)
    · rw [List.length_map]; omega
    · rw [List.all_map, List.all_eq_true]
      intro y _
      have a := Int.fmod_nonneg_of_pos y (show (0 : Int) < 1000000 by decide)
      have b := Int.fmod_lt_of_pos y (show (0 : Int) < 1000000 by decide)
      exact decide_eq_true (by omega)
    · match ys, hl with
      | [], _ => rfl
      | [a], _ => rfl
      | [a, b], _ => rfl
  refine c_pure G.toGood (fE (by decide)) (by decide) (loc := [("script", scriptV xs), ("own", .lst [iV 3, iV 36, iV 14, iV 38])]) (by kernel_rfl) (by kernel_rfl) rfl rfl (fl := .ret (.lst [iV (3 + sumMod y0), iV (36 + sumMod y1), iV (14 + sumMod y2), iV (38 + sumMod y3)])) (τ := []) (loc' := [("script", scriptV xs), ("own", .lst [iV 3, iV 36, iV 14, iV 38])]) ?_ (by simp) rfl rfl
  obtain ⟨q1, q2, q3, q4, q5, q6, q7, q8, q9, q10, q11, q12, q13, q14, q15, q16, q17, q18, q19, q20, q21, q22, q23, q24, q25, q26, q27, q28, q29, e⟩ := sh232 w.params
  rw [e]
  refine x_cons_out (by simp) (x_Return (v_ListComp (items := [.pair (.int 0) (.int 3), .pair (.int 1) (.int 36), .pair (.int 2) (.int 14), .pair (.int 3) (.int 38)]) (src := { short := true }) (by kernel_rfl) (rI0 G (by decide) 30 (by kernel_rfl)) ?_ (by simp)))
  have fl : freeLoc (scp [(".0", .local), ("k", .local), ("number", .local), ("sum", .globalImplicit), ("len", .globalImplicit), ("own", .free), ("script", .free)]) [("script", scriptV xs), ("own", .lst [iV 3, iV 36, iV 14, iV 38])] = ([("own", .lst [iV 3, iV 36, iV 14, iV 38]), ("script", scriptV xs)] : Loc) := rfl
  rw [fl]
  refine cp_last (here := [_]) (b := true) (loc₁ := nmW2 0 3 (xs.map iV)) (σ₁ := []) (fun _ => rfl) rfl rfl rfl rfl t_nil (fun _ => ⟨elt 0 3 y0 l0 s0 _ _ _ _ _ _ _ _ _ _ _ _ _ _ _ _ _ _ _ _ _, rfl⟩) (fun h => by cases h) rfl ?_
  refine cp_last (here := [_]) (b := true) (loc₁ := nmW2 1 36 (xs.map iV)) (σ₁ := []) (fun _ => rfl) rfl rfl rfl rfl t_nil (fun _ => ⟨elt 1 36 y1 l1 s1 _ _ _ _ _ _ _ _ _ _ _ _ _ _ _ _ _ _ _ _ _, rfl⟩) (fun h => by cases h) rfl ?_
  refine cp_last (here := [_]) (b := true) (loc₁ := nmW2 2 14 (xs.map iV)) (σ₁ := []) (fun _ => rfl) rfl rfl rfl rfl t_nil (fun _ => ⟨elt 2 14 y2 l2 s2 _ _ _ _ _ _ _ _ _ _ _ _ _ _ _ _ _ _ _ _ _, rfl⟩) (fun h => by cases h) rfl ?_
  refine cp_last (here := [_]) (b := true) (loc₁ := nmW2 3 38 (xs.map iV)) (σ₁ := []) (fun _ => rfl) rfl rfl rfl rfl t_nil (fun _ => ⟨elt 3 38 y3 l3 s3 _ _ _ _ _ _ _ _ _ _ _ _ _ _ _ _ _ _ _ _ _, rfl⟩) (fun h => by cases h) rfl ?_
  exact cp_nil
end
end Mine
end

-- part M72
section
namespace Mine
open PySem PySem.W PyProof.Rows PySem.Calls PySem.Spec

section
variable {w : World} {hb : Heap}
theorem noLine {a : Addr} (h : a ≠ 256) : a ≠ (CX w hb).S.line := h
theorem co244 (G : Good8 (CX w hb)) (u : Bool) (c : C3) (σ : AS) : (CX w hb).VCallC 20 244 [.str (figS c), .str (lettersS u)] [] σ (.str (spellS u c)) σ := by
  have h := r_spell w.params
  have h1 := List.all_eq_true.mp (List.all_eq_true.mp h c (mem_allC c)) u (by cases u <;> simp)
  exact call_any G (by decide) (by kernel_rfl) (noLine (by decide)) (fE (by decide)) (by kernel_rfl) h1 σ
theorem co263 (G : Good8 (CX w hb)) (u : Bool) (c : C3) (σ : AS) : (CX w hb).VCallC 20 263 [.str (spellS u c)] [] σ (.str (figS c)) σ := by
  have h := r_fig w.params
  have h1 := List.all_eq_true.mp (List.all_eq_true.mp h c (mem_allC c)) u (by cases u <;> simp)
  exact call_any G (by decide) (by kernel_rfl) (noLine (by decide)) (fE (by decide)) (by kernel_rfl) h1 σ
theorem co268 (G : Good8 (CX w hb)) (c e : C3) (σ : AS) : (CX w hb).VCallC 20 268 [.str (figS c), .str (figS e)] [] σ (.bool (partC c e)) σ := by
  have h := r_part w.params
  have h1 := List.all_eq_true.mp (List.all_eq_true.mp h c (mem_allC c)) e (mem_allC e)
  exact call_any G (by decide) (by kernel_rfl) (noLine (by decide)) (fE (by decide)) (by kernel_rfl) h1 σ

-- the parts of blocks
noncomputable def forB : Stmt → List Stmt | .For _ _ b _ _ => b | _ => []
noncomputable def whileB : Stmt → List Stmt | .While _ b _ _ => b | _ => []
noncomputable def ifB : Stmt → List Stmt | .If _ b _ _ => b | _ => []
noncomputable def ifO : Stmt → List Stmt | .If _ _ b _ => b | _ => []
noncomputable def ifT : Stmt → Expr | .If b _ _ _ => b | _ => .Name "" ⟨0, 0, 0, 0⟩
noncomputable def rhs : Stmt → Expr | .AugAssign _ _ e _ => e | .Assign _ e _ => e | .Expr e _ => e | _ => .Name "" ⟨0, 0, 0, 0⟩
noncomputable def nth (l : List Stmt) (k : Nat) : Stmt := l.getD k (.Pass ⟨0, 0, 0, 0⟩)

-- the clauses are written
noncomputable def allU : List (Bool × C3) := [true, false].flatMap fun u => allC.map fun c => (u, c)
theorem mem_allU (p : Bool × C3) : p ∈ allU := by
  obtain ⟨u, c⟩ := p
  exact List.mem_flatMap.mpr ⟨u, by cases u <;> simp, List.mem_map.mpr ⟨c, mem_allC c, rfl⟩⟩
noncomputable def encL (q : Bool) (w : List Nat) : List Nat := if q then 34 :: (w ++ [34, 10]) else w.flatMap (fun c => [92, c]) ++ [10]
noncomputable abbrev txt (L : List Nat) : Str := ⟨L.toArray⟩
noncomputable abbrev spW (p : Bool × C3) : Str := spellS p.1 p.2
noncomputable def if249 : Stmt := nth (forB (nth B249 1)) 0
noncomputable abbrev loc249 (pcs : V) (style : Int) (L : List Nat) (k : Int) (p : Bool × C3) : Loc := [("pieces", pcs), ("style", .int style), ("text", .str (txt L)), ("k", .int k), ("piece", .str (spW p))]
theorem r_q (P : Params) (pcs : V) (style : Int) (L : List Nat) (k : Int) : (allU.map fun p => run (SP P) 30 19 (.eval (fnA P 249).sc (loc249 pcs style L k p) (rhs (nth (ifB if249) 0))) []) = allU.map fun p => some (.v (.str (txt (encL true (spellL p.1 p.2)))), []) := by kernel_rfl
theorem r_nq (P : Params) (pcs : V) (style : Int) (L : List Nat) (k : Int) : (allU.map fun p => run (SP P) 30 19 (.eval (fnA P 249).sc (loc249 pcs style L k p) (rhs (nth (ifO if249) 0))) []) = allU.map fun p => some (.v (.str (txt (encL false (spellL p.1 p.2)))), []) := by kernel_rfl
noncomputable def flagK (k : Nat) (style : Int) : Bool := decide ((style.fdiv ((2 : Int) ^ k)).fmod 2 = 1)
theorem r_flag (P : Params) (pcs : V) (style : Int) (L : List Nat) (p : Bool × C3) : ([0, 1, 2, 3].map fun k : Nat => run (SP P) 30 19 (.cond (fnA P 249).sc (loc249 pcs style L k p) (ifT if249)) []) = [0, 1, 2, 3].map fun k : Nat => some (.b (flagK k style), []) := by kernel_rfl
theorem enc_len (q : Bool) (p : Bool × C3) : (encL q (spellL p.1 p.2)).length ≤ 20 := by
  have h : ∀ q : Bool, allU.all (fun p => decide ((encL q (spellL p.1 p.2)).length ≤ 20)) = true := by decide +kernel
  exact of_decide_eq_true (List.all_eq_true.mp (h q) p (mem_allU p))
theorem add_txt {L M : List Nat} (h : L.length + M.length ≤ 100000) : binop .Add (.str (txt L)) (.str (txt M)) = some (.str (txt (L ++ M))) := by
  show (bif decide ((txt L).length + (txt M).length ≤ 100000) then some (V.str (txt L ++ txt M)) else none) = _
  rw [decide_eq_true (show (txt L).length + (txt M).length ≤ 100000 by show L.toArray.size + M.toArray.size ≤ _; simpa using h), cond_true]
  have : txt L ++ txt M = txt (L ++ M) := by
    show Str.mk (L.toArray ++ M.toArray) = Str.mk (L ++ M).toArray
    simp
  rw [this]
theorem step249 (G : Good8 (CX w hb)) (k : Nat) (hk : k < 4) (p : Bool × C3) (pcs : V) (style : Int) (L : List Nat) (hL : L.length ≤ 1000) :
    (CX w hb).VExecs 19 (fnA w.params 249).sc (loc249 pcs style L k p) (forB (nth B249 1)) [] .next (loc249 pcs style (L ++ encL (flagK k style) (spellL p.1 p.2)) k p) [] := by
  refine x_cons_next (σ₁ := []) (x_If (σ₁ := []) (c := flagK k style) (rC0 G (by decide) 30 ?_) ?_) x_nil
  · exact map_at (r_flag w.params pcs style L p) (show k ∈ [0, 1, 2, 3] by simp; omega)
  · have ht := enc_len true p
    have hf := enc_len false p
    cases flagK k style with
    | true => exact x_cons_next (σ₁ := []) (x_AugName (a := .str (txt L)) (b := .str (txt (encL true (spellL p.1 p.2)))) rfl (rE0 G (by decide) 30 (map_at (r_q w.params pcs style L k) (mem_allU p))) (add_txt (by omega)) (by kernel_rfl)) x_nil
    | false => exact x_cons_next (σ₁ := []) (x_AugName (a := .str (txt L)) (b := .str (txt (encL false (spellL p.1 p.2)))) rfl (rE0 G (by decide) 30 (map_at (r_nq w.params pcs style L k) (mem_allU p))) (add_txt (by omega)) (by kernel_rfl)) x_nil
noncomputable def encK (k : Nat) (style : Int) (p : Bool × C3) : List Nat := encL (flagK k style) (spellL p.1 p.2)
noncomputable abbrev iS (x : Str) : It := .at (.str x)
theorem co249 (G : Good8 (CX w hb)) (p0 p1 p2 p3 : Bool × C3) (style : Int) (σ : AS) : (CX w hb).VCallC 18 249 [.lst [iS (spW p0), iS (spW p1), iS (spW p2), iS (spW p3)], .int style] [] σ (.str (txt (encK 0 style p0 ++ encK 1 style p1 ++ encK 2 style p2 ++ encK 3 style p3))) σ := by
  have l0 := enc_len (flagK 0 style) p0
  have l1 := enc_len (flagK 1 style) p1
  have l2 := enc_len (flagK 2 style) p2
  have l3 := enc_len (flagK 3 style) p3
  refine c_pure G.toGood (fE (by decide)) (by decide) (loc := [("pieces", .lst [iS (spW p0), iS (spW p1), iS (spW p2), iS (spW p3)]), ("style", .int style)]) (by kernel_rfl) (by kernel_rfl) rfl rfl (fl := .ret (.str (txt (encK 0 style p0 ++ encK 1 style p1 ++ encK 2 style p2 ++ encK 3 style p3)))) (τ := [])
    (loc' := loc249 (.lst [iS (spW p0), iS (spW p1), iS (spW p2), iS (spW p3)]) style (encK 0 style p0 ++ encK 1 style p1 ++ encK 2 style p2 ++ encK 3 style p3) 3 p3) ?_ (by simp) rfl rfl
  rw [sh249]
  refine x_cons_next (σ₁ := []) (loc₁ := [("pieces", .lst [iS (spW p0), iS (spW p1), iS (spW p2), iS (spW p3)]), ("style", .int style), ("text", .str (txt []))]) (rEx G (by decide) 30 (by kernel_rfl)) ?_
  refine x_cons_next (σ₁ := []) (loc₁ := loc249 (.lst [iS (spW p0), iS (spW p1), iS (spW p2), iS (spW p3)]) style (encK 0 style p0 ++ encK 1 style p1 ++ encK 2 style p2 ++ encK 3 style p3) 3 p3) (x_For (σ₁ := []) (xs := [.pair (.int 0) (.str (spW p0)), .pair (.int 1) (.str (spW p1)), .pair (.int 2) (.str (spW p2)), .pair (.int 3) (.str (spW p3))]) (g := { short := true }) (rI0 G (by decide) 30 (by kernel_rfl)) ?_)
    (x_cons_out (by simp) (x_Return (rE0 G (by decide) 30 (by kernel_rfl))))
  refine f_cons (fun _ => rfl) rfl rfl (step249 G 0 (by decide) p0 _ _ [] (by simp)) (fun _ => rfl) (fun _ => ?_) (fun _ e => by cases e)
  refine f_cons (fun _ => rfl) rfl rfl (step249 G 1 (by decide) p1 _ _ _ ?_) (fun _ => rfl) (fun _ => ?_) (fun _ e => by cases e)
  · simp only [List.nil_append]; omega
  refine f_cons (fun _ => rfl) rfl rfl (step249 G 2 (by decide) p2 _ _ _ ?_) (fun _ => rfl) (fun _ => ?_) (fun _ e => by cases e)
  · simp only [List.nil_append, List.length_append]; omega
  refine f_cons (fun _ => rfl) rfl rfl (step249 G 3 (by decide) p3 _ _ _ ?_) (fun _ => rfl) (fun _ => ?_) (fun _ e => by cases e)
  · simp only [List.nil_append, List.length_append]; omega
  exact f_nil
end
end Mine
end

-- part M73
section
namespace Mine
open PySem PySem.W PyProof.Rows PySem.Calls PySem.Spec

noncomputable def B76 : List Stmt :=
  [(.If (.Attribute (.Name "self" ⟨74, 11, 74, 15⟩) "pushback" ⟨74, 11, 74, 24⟩) [(.Return (some (.Call (.Attribute (.Attribute (.Name "self" ⟨75, 19, 75, 23⟩) "pushback" ⟨75, 19, 75, 32⟩) "pop" ⟨75, 19, 75, 36⟩) [(.Constant (.int 0) 0 ⟨75, 37, 75, 38⟩)] [] ⟨75, 19, 75, 39⟩)) ⟨75, 12, 75, 39⟩)] [] ⟨74, 8, 75, 39⟩),
   (.Assign [(.Name "token" ⟨76, 8, 76, 13⟩)] (.Constant (.str ⟨#[]⟩) 0 ⟨76, 16, 76, 18⟩) ⟨76, 8, 76, 18⟩),
   (.Assign [(.Name "fiter" ⟨77, 8, 77, 13⟩)] (.Call (.Name "iter" ⟨77, 16, 77, 20⟩) [(.Attribute (.Name "self" ⟨77, 21, 77, 25⟩) "_read_char" ⟨77, 21, 77, 36⟩), (.Constant (.str ⟨#[]⟩) 0 ⟨77, 38, 77, 40⟩)] [] ⟨77, 16, 77, 41⟩) ⟨77, 8, 77, 41⟩),
   (.For (.Name "ch" ⟨78, 12, 78, 14⟩) (.Name "fiter" ⟨78, 18, 78, 23⟩) [(.If (.Compare (.Name "ch" ⟨79, 15, 79, 17⟩) [.In] [(.Attribute (.Name "self" ⟨79, 21, 79, 25⟩) "whitespace" ⟨79, 21, 79, 36⟩)] ⟨79, 15, 79, 36⟩) [.Continue ⟨80, 16, 80, 24⟩] [] ⟨79, 12, 80, 24⟩), (.If (.Compare (.Name "ch" ⟨81, 15, 81, 17⟩) [.Eq] [(.Constant (.str ⟨#[34]⟩) 0 ⟨81, 21, 81, 24⟩)] ⟨81, 15, 81, 24⟩) [(.For (.Name "ch" ⟨82, 20, 82, 22⟩) (.Name "fiter" ⟨82, 26, 82, 31⟩) [(.If (.Compare (.Name "ch" ⟨83, 23, 83, 25⟩) [.Eq] [(.Constant (.str ⟨#[34]⟩) 0 ⟨83, 29, 83, 32⟩)] ⟨83, 23, 83, 32⟩) [(.Return (some (.Name "token" ⟨84, 31, 84, 36⟩)) ⟨84, 24, 84, 36⟩)] [(.If (.Compare (.Name "ch" ⟨85, 25, 85, 27⟩) [.Eq] [(.Constant (.str ⟨#[92]⟩) 0 ⟨85, 31, 85, 35⟩)] ⟨85, 25, 85, 35⟩) [(.Assign [(.Name "ch" ⟨86, 24, 86, 26⟩)] (.Call (.Attribute (.Name "self" ⟨86, 29, 86, 33⟩) "_read_char" ⟨86, 29, 86, 44⟩) [] [] ⟨86, 29, 86, 46⟩) ⟨86, 24, 86, 46⟩)] [] ⟨85, 20, 86, 46⟩)] ⟨83, 20, 86, 46⟩), (.AugAssign (.Name "token" ⟨87, 20, 87, 25⟩) .Add (.Name "ch" ⟨87, 29, 87, 31⟩) ⟨87, 20, 87, 31⟩)] [] ⟨82, 16, 87, 31⟩)] [(.If (.Compare (.Name "ch" ⟨89, 19, 89, 21⟩) [.Eq] [(.Constant (.str ⟨#[92]⟩) 0 ⟨89, 25, 89, 29⟩)] ⟨89, 19, 89, 29⟩) [(.Assign [(.Name "ch" ⟨90, 20, 90, 22⟩)] (.Call (.Attribute (.Name "self" ⟨90, 25, 90, 29⟩) "_read_char" ⟨90, 25, 90, 40⟩) [] [] ⟨90, 25, 90, 42⟩) ⟨90, 20, 90, 42⟩)] [] ⟨89, 16, 90, 42⟩), (.AugAssign (.Name "token" ⟨91, 16, 91, 21⟩) .Add (.Name "ch" ⟨91, 25, 91, 27⟩) ⟨91, 16, 91, 27⟩), (.For (.Name "ch" ⟨92, 20, 92, 22⟩) (.Name "fiter" ⟨92, 26, 92, 31⟩) [(.If (.Compare (.Name "ch" ⟨93, 23, 93, 25⟩) [.In] [(.Attribute (.Name "self" ⟨93, 29, 93, 33⟩) "whitespace" ⟨93, 29, 93, 44⟩)] ⟨93, 23, 93, 44⟩) [(.Return (some (.Name "token" ⟨94, 31, 94, 36⟩)) ⟨94, 24, 94, 36⟩)] [(.If (.Compare (.Name "ch" ⟨95, 25, 95, 27⟩) [.Eq] [(.Constant (.str ⟨#[92]⟩) 0 ⟨95, 31, 95, 35⟩)] ⟨95, 25, 95, 35⟩) [(.Assign [(.Name "ch" ⟨96, 24, 96, 26⟩)] (.Call (.Attribute (.Name "self" ⟨96, 29, 96, 33⟩) "_read_char" ⟨96, 29, 96, 44⟩) [] [] ⟨96, 29, 96, 46⟩) ⟨96, 24, 96, 46⟩)] [] ⟨95, 20, 96, 46⟩)] ⟨93, 20, 96, 46⟩), (.AugAssign (.Name "token" ⟨97, 20, 97, 25⟩) .Add (.Name "ch" ⟨97, 29, 97, 31⟩) ⟨97, 20, 97, 31⟩)] [] ⟨92, 16, 97, 31⟩)] ⟨81, 12, 97, 31⟩)] [] ⟨78, 8, 97, 31⟩),
   (.Return (some (.Name "token" ⟨98, 15, 98, 20⟩)) ⟨98, 8, 98, 20⟩)]
theorem sh76 (P : Params) : (fnA P 76).body = B76 := by kernel_rfl
theorem sn76 (P : Params) : (fnA P 76).sc.names = ([("self", .local), ("token", .local), ("fiter", .local), ("ch", .local), ("iter", .globalImplicit)] : List (Str × NameKind)) := by kernel_rfl

noncomputable def wsS : Str := ⟨#[10, 9, 13, 32]⟩
noncomputable abbrev lexF (n : Int) : List (Str × V) := [("lineno", .int n), ("instream", .own 1), ("whitespace", .str wsS), ("pushback", .own 3)]
noncomputable abbrev lexσ (rest : List Nat) (n : Int) (Q : List It) : AS := [.tbl 2, .stream rest, .inst 86 (lexF n), .list Q]
noncomputable def pendL (q : Bool) : List Nat := if q then [10] else []
noncomputable def addN (b q : Bool) (n : Int) : Int := match b, q with | false, true => n | true, true => n + 1 | false, false => n + 1 | true, false => n + 1 + 1
theorem tok1 (P : Params) (rest : List Nat) (n : Int) : (allU.map fun p => run (SP P) 60 19 (.call (.val (.ref 76)) [.own 2] []) (lexσ (pendL false ++ (encL true (spellL p.1 p.2) ++ rest)) n [])) = allU.map fun p => some (.v (.str (spW p)), lexσ (pendL true ++ rest) n [] ++ [.citer 2 true]) := by kernel_rfl
theorem tok2 (P : Params) (rest : List Nat) (n : Int) : (allU.map fun p => run (SP P) 60 19 (.call (.val (.ref 76)) [.own 2] []) (lexσ (pendL true ++ (encL true (spellL p.1 p.2) ++ rest)) n [])) = allU.map fun p => some (.v (.str (spW p)), lexσ (pendL true ++ rest) (n + 1) [] ++ [.citer 2 true]) := by kernel_rfl
theorem tok3 (P : Params) (rest : List Nat) (n : Int) : (allU.map fun p => run (SP P) 60 19 (.call (.val (.ref 76)) [.own 2] []) (lexσ (pendL false ++ (encL false (spellL p.1 p.2) ++ rest)) n [])) = allU.map fun p => some (.v (.str (spW p)), lexσ (pendL false ++ rest) (n + 1) [] ++ [.citer 2 true]) := by kernel_rfl
theorem tok4 (P : Params) (rest : List Nat) (n : Int) : (allU.map fun p => run (SP P) 60 19 (.call (.val (.ref 76)) [.own 2] []) (lexσ (pendL true ++ (encL false (spellL p.1 p.2) ++ rest)) n [])) = allU.map fun p => some (.v (.str (spW p)), lexσ (pendL false ++ rest) (n + 1 + 1) [] ++ [.citer 2 true]) := by kernel_rfl
section
variable {w : World} {hb : Heap}
theorem co76 (G : Good8 (CX w hb)) (b q : Bool) (p : Bool × C3) (rest : List Nat) (n : Int) : (CX w hb).VCallC 19 76 [.own 2] [] (lexσ (pendL b ++ (encL q (spellL p.1 p.2) ++ rest)) n []) (.str (spW p)) (lexσ (pendL q ++ rest) (addN b q n) []) := by
  have main : run (CX w hb).S 60 19 (.call (.val (.ref 76)) [.own 2] []) (lexσ (pendL b ++ (encL q (spellL p.1 p.2) ++ rest)) n []) = some (.v (.str (spW p)), lexσ (pendL q ++ rest) (addN b q n) [] ++ [.citer 2 true]) := by
    cases b <;> cases q
    · exact map_at (tok3 w.params rest n) (mem_allU p)
    · exact map_at (tok1 w.params rest n) (mem_allU p)
    · exact map_at (tok4 w.params rest n) (mem_allU p)
    · exact map_at (tok2 w.params rest n) (mem_allU p)
  exact VCallC_forget ((run_sound G 60 19 (by decide) _ _ _ _ main).2 76 rfl) rfl rfl (Nat.le_refl 4)
/-- nothing waits, nothing is left to read -/
theorem co76e (G : Good8 (CX w hb)) (q : Bool) (n : Int) (F : List (Str × V)) (hF : (AO.inst 223 F).low 6 = true) (H : List It) : (CX w hb).VCallC 19 76 [.own 2] [] (lexσ (pendL q) n [] ++ [.inst 223 F, .list H]) (.str ⟨#[]⟩) (lexσ [] (if q then n + 1 else n) [] ++ [.inst 223 F, .list H]) := by
  have main : run (CX w hb).S 60 19 (.call (.val (.ref 76)) [.own 2] []) (lexσ (pendL q) n [] ++ [.inst 223 F, .list H]) = some (.v (.str ⟨#[]⟩), (lexσ [] (if q then n + 1 else n) [] ++ [.inst 223 F, .list H]) ++ [.citer 2 false]) := by
    cases q
    · kernel_rfl
    · kernel_rfl
  refine VCallC_forget ((run_sound G 60 19 (by decide) _ _ _ _ main).2 76 rfl) rfl ?_ (Nat.le_refl 6)
  simp [lexσ, lexF, AO.low]
  simpa [AO.low] using hF
/-- a word waits -/
theorem co76p (G : Good8 (CX w hb)) (x : Str) (Q : List It) (hQ : Q.length ≤ 100000) (rest : List Nat) (n : Int) (τ : AS) : (CX w hb).VCallC 19 76 [.own 2] [] (lexσ rest n (iS x :: Q) ++ τ) (.str x) (lexσ rest n Q ++ τ) := by
  refine c_inl G.toGood (fE (by decide)) (by decide) (fl := .ret (.str x)) (loc := [("self", .own 2)]) (loc' := [("self", .own 2)]) (by kernel_rfl) (by kernel_rfl) ?_ (by simp)
  rw [sh76]
  refine x_cons_out (by simp) (x_If (σ₁ := lexσ rest n (iS x :: Q) ++ τ) (c := true) (c_plain (x := .own 3) (by rfl) (rE0 G (by decide) 30 (by kernel_rfl)) (.inl ⟨3, iS x :: Q, rfl, rfl, by rw [List.length_cons]; omega, rfl⟩)) ?_)
  refine x_cons_out (by simp) (x_Return ?_)
  exact v_pop G.toGood (σ₁ := lexσ rest n (iS x :: Q) ++ τ) (σ₂ := lexσ rest n (iS x :: Q) ++ τ) (i := 3) (xs := iS x :: Q) (rest := Q) (y := iS x) (by rfl) (by rfl) (by rfl) (by decide) (rE0 G (by decide) 30 (by kernel_rfl)) rfl (v_evals_cons (by rfl) (v_Constant rfl) v_evals_nil) rfl hQ
/-- a word is put behind -/
theorem co83 (G : Good8 (CX w hb)) (x : Str) (Q : List It) (hQ : Q.length ≤ 100000) (rest : List Nat) (n : Int) (τ : AS) : (CX w hb).VCallC 19 83 [.own 2, .str x] [] (lexσ rest n Q ++ τ) .none (lexσ rest n (Q ++ [iS x]) ++ τ) := by
  refine c_inl G.toGood (fE (by decide)) (by decide) (fl := .next) (loc := [("self", .own 2), ("token", .str x)]) (loc' := [("self", .own 2), ("token", .str x)]) (by kernel_rfl) (by kernel_rfl) ?_ (by simp)
  rw [sh83]
  refine x_cons_next (σ₁ := lexσ rest n (Q ++ [iS x]) ++ τ) (x_Expr (a := .none) (by rfl) ?_) x_nil
  exact v_append G.toGood (σ₁ := lexσ rest n Q ++ τ) (σ₂ := lexσ rest n Q ++ τ) (i := 3) (xs := Q) (ys := Q) (v := iS x) (by rfl) (by rfl) (by rfl) (by decide) (rE0 G (by decide) 30 (by kernel_rfl)) rfl (v_evals_cons (by rfl) (rE0 G (by decide) 30 (by kernel_rfl)) v_evals_nil) rfl hQ
/-- the line is made -/
theorem co256 (G : Good8 (CX w hb)) (L : List Nat) (hL : L.length ≤ 100000) : (CX w hb).VCallC 19 256 [.str (txt L)] [] [.tbl 0] (.own 2) (lexσ L 1 []) := by
  obtain ⟨F, c, P, mg, LK⟩ := G.line
  have e : (txt L).cps.toList = L := rfl
  refine c_line G.toGood LK (by decide) rfl (by show L.toArray.size ≤ _; simpa using hL) ?_
  rw [e]
  exact (run_sound G 60 20 (by decide) (.call _ _ _) _ (.v (.own 2)) _ (by kernel_rfl)).1
end
end Mine
end

-- part M74
section
namespace Mine
open PySem PySem.W PyProof.Rows PySem.Calls PySem.Spec

theorem sliceL_all (xs : List It) : sliceL xs none none none = xs := by
  show pick xs (sliceRange 0 (xs.length : Int) 1) = xs
  have e := sliceRange_one 0 xs.length
  rw [show ((0 : Nat) : Int) = 0 from rfl] at e
  rw [e]
  have h := pick_run xs.toArray 0 xs.length
  unfold pick
  simpa using h
noncomputable abbrev hIt (p : Bool × C3) : It := .pair (.str (spW p)) (.str (figS p.2))
noncomputable abbrev hF : List (Str × V) := [("_headers", .own 5)]
noncomputable abbrev σH (r : List Nat) (n : Int) (Q : List It) (H : List (Bool × C3)) : AS := lexσ r n Q ++ [.inst 223 hF, .list (H.map hIt)]
noncomputable def nameL (c : C3) : Str := spellS false c
theorem name_ne (c e : C3) : decide (nameL c = nameL e) = decide (c = e) := by
  have h : (allC.all fun c => allC.all fun e => decide (nameL c = nameL e) == decide (c = e)) = true := by decide +kernel
  exact eq_of_beq (List.all_eq_true.mp (List.all_eq_true.mp h c (mem_allC c)) e (mem_allC e))
noncomputable def compE : Expr → Expr | .ListComp e _ _ _ => e | e => e
noncomputable def compS : Expr → Scope | .ListComp _ _ s _ => s | _ => scp []
noncomputable def compG : Expr → Comprehension | .ListComp _ [g] _ _ => g | _ => ⟨.Name "" ⟨0, 0, 0, 0⟩, .Name "" ⟨0, 0, 0, 0⟩, [], 0⟩
noncomputable def compT (e : Expr) : Expr := (compG e).ifs.headD (.Name "" ⟨0, 0, 0, 0⟩)
noncomputable def cmpL : Expr → Expr | .Compare l _ _ _ => l | e => e
noncomputable def cmpR : Expr → Expr | .Compare _ _ (r :: _) _ => r | e => e
noncomputable def comp141 : Expr := rhs (nth B141 1)
theorem r_low (P : Params) (r : List Nat) (n : Int) (Q : List It) (hs : List It) (nm : V) : (allU.map fun p => run (SP P) 30 23 (.eval (relab (compS comp141)) [("name", nm), ("kv", .it (hIt p))] (cmpL (compT comp141))) (lexσ r n Q ++ [.inst 223 hF, .list hs])) = allU.map fun p => some (.v (.str (nameL p.2)), lexσ r n Q ++ [.inst 223 hF, .list hs]) := by kernel_rfl
theorem r_del (P : Params) (r : List Nat) (n : Int) (Q : List It) (hs : List It) : (allU.map fun p => run (SP P) 30 23 (.exec (fnA P 141).sc [("self", .own 4), ("name", .str (spW p))] (nth B141 0)) (lexσ r n Q ++ [.inst 223 hF, .list hs])) = allU.map fun p => some (.ex .next [("self", .own 4), ("name", .str (nameL p.2))], lexσ r n Q ++ [.inst 223 hF, .list hs]) := by kernel_rfl
noncomputable def argK (k : Nat) : Expr → Expr | .Call _ as _ _ => as.getD k (.Name "" ⟨0, 0, 0, 0⟩) | e => e
theorem r_tup (P : Params) (r : List Nat) (n : Int) (Q : List It) (hs : List It) : (allU.map fun p => run (SP P) 40 21 (.eval (fnA P 136).sc [("self", .own 4), ("name", .str (spW p)), ("val", .str (figS p.2))] (argK 0 (rhs (nth B136 1)))) (lexσ r n Q ++ [.inst 223 hF, .list hs])) = allU.map fun p => some (.v (.it (hIt p)), lexσ r n Q ++ [.inst 223 hF, .list hs]) := by kernel_rfl
section
variable {X : Cx} {d : Nat} {σ : AS} {sc : Scope} {loc : Loc}
theorem v_SliceAll {o : Expr} {p pos : Pos} {i : Nat} {xs : List It} (h0 : X.VEval d sc loc o σ (.own i) σ) (ho : σ[i]? = some (.list xs)) (hx : xs.length ≤ 1000000) : X.VEval d sc loc (.Subscript o (.Slice none none none p) pos) σ (.lst xs) σ := by
  have e := v_SliceOwn (p := p) (pos := pos) h0 p_none p_none p_none ho (by simp) hx
  rw [sliceL_all] at e
  exact e
end
section
variable {w : World} {hb : Heap}
noncomputable def cut (c : C3) (H : List (Bool × C3)) : List (Bool × C3) := H.filter fun p => !decide (p.2 = c)
theorem comp_del (G : Good8 (CX w hb)) (r : List Nat) (n : Int) (Q : List It) (c : C3) (all : List It) : ∀ H : List (Bool × C3),
    (CX w hb).VComp 23 (relab (compS comp141)) [("name", .str (nameL c))] (compE comp141) (compG comp141) [] { own := some (5, all) } (H.map hIt) (lexσ r n Q ++ [.inst 223 hF, .list all]) ((cut c H).map hIt) (lexσ r n Q ++ [.inst 223 hF, .list all])
  | [] => cp_nil
  | p :: H => by
    have ok : okSrc (lexσ r n Q ++ [.inst 223 hF, .list all]) { own := some (5, all) } = true := itsSame_refl all
    have ih := comp_del G r n Q c all H
    have step := cp_last (X := CX w hb) (here := if decide (p.2 = c) then [] else [hIt p]) (b := !decide (p.2 = c)) (w := hIt p) (loc₁ := [("name", .str (nameL c)), ("kv", .it (hIt p))]) (sc := relab (compS comp141)) (loc := [("name", .str (nameL c))]) (elt := compE comp141) (g := compG comp141) (x := hIt p) (xs := H.map hIt) (src := { own := some (5, all) })
      (σ := lexσ r n Q ++ [.inst 223 hF, .list all]) (σ₁ := lexσ r n Q ++ [.inst 223 hF, .list all]) (σ₂ := lexσ r n Q ++ [.inst 223 hF, .list all]) (fun h => by cases h) rfl rfl ok rfl
      (t_one (c_Compare (x := .str (nameL p.2)) (y := .str (nameL c)) (σ₁ := lexσ r n Q ++ [.inst 223 hF, .list all]) rfl (rE0 G (by decide) 30 (map_at (r_low w.params r n Q all (.str (nameL c))) (mem_allU p))) (rE0 G (by decide) 30 (by kernel_rfl)) (by
        show some (!decide (nameL p.2 = nameL c)) = _
        rw [name_ne])))
      (fun h => ⟨rE0 G (by decide) 30 (by kernel_rfl), by rw [Bool.not_eq_true'] at h; rw [h]; rfl⟩) (fun h => ⟨by rw [Bool.not_eq_false'] at h; rw [h]; rfl, rfl⟩) ok ih
    have e : (if decide (p.2 = c) then [] else [hIt p]) ++ (cut c H).map hIt = (cut c (p :: H)).map hIt := by
      unfold cut
      rw [List.filter_cons]
      by_cases q : p.2 = c <;> simp [q]
    rw [e] at step
    exact step
theorem cut_len (c : C3) (H : List (Bool × C3)) : (cut c H).length ≤ H.length := List.length_filter_le _ _
theorem co141 (G : Good8 (CX w hb)) (r : List Nat) (n : Int) (Q : List It) (p : Bool × C3) (H : List (Bool × C3)) (hH : H.length ≤ 1000) : (CX w hb).VCallC 22 141 [.own 4, .str (spW p)] [] (σH r n Q H) .none (σH r n Q (cut p.2 H)) := by
  refine c_inl G.toGood (fE (by decide)) (by decide) (fl := .next) (loc := [("self", .own 4), ("name", .str (spW p))]) (loc' := [("self", .own 4), ("name", .str (nameL p.2))]) (by kernel_rfl) (by kernel_rfl) ?_ (by simp)
  rw [sh141]
  refine x_cons_next (σ₁ := σH r n Q H) (loc₁ := [("self", .own 4), ("name", .str (nameL p.2))]) (rEx G (by decide) 30 (map_at (r_del w.params r n Q (H.map hIt)) (mem_allU p))) ?_
  have hc := cut_len p.2 H
  refine x_cons_next (σ₁ := σH r n Q (cut p.2 H)) ?_ x_nil
  exact x_AssignAll (σ₁ := σH r n Q H) (σ₂ := σH r n Q H) (i := 5) (xs := H.map hIt) (ys := (cut p.2 H).map hIt) (v_ListComp (σ₁ := σH r n Q H) (items := H.map hIt) (src := { own := some (5, H.map hIt) }) (by kernel_rfl) (rI0 G (by decide) 30 (by kernel_rfl)) (comp_del G r n Q p.2 _ H) (by rw [List.length_map]; omega)) (rE0 G (by decide) 30 (by kernel_rfl)) rfl (by rw [List.length_map]; omega) (by rw [List.length_map]; omega)
theorem co187 (G : Good8 (CX w hb)) (r : List Nat) (n : Int) (Q : List It) (H : List (Bool × C3)) (hH : H.length ≤ 1000) : (CX w hb).VCallC 20 187 [.own 4] [] (σH r n Q H) (.lst (H.map hIt)) (σH r n Q H) := by
  refine c_inl G.toGood (fE (by decide)) (by decide) (fl := .ret (.lst (H.map hIt))) (loc := [("self", .own 4)]) (loc' := [("self", .own 4)]) (by kernel_rfl) (by kernel_rfl) ?_ (by simp)
  rw [sh187]
  refine x_cons_out (by simp) (x_Return ?_)
  exact v_SliceAll (i := 5) (rE0 G (by decide) 30 (by kernel_rfl)) rfl (by rw [List.length_map]; omega)
theorem co136 (G : Good8 (CX w hb)) (r : List Nat) (n : Int) (Q : List It) (p : Bool × C3) (H : List (Bool × C3)) (hH : H.length ≤ 1000) : (CX w hb).VCallC 20 136 [.own 4, .str (spW p), .str (figS p.2)] [] (σH r n Q H) .none (σH r n Q (cut p.2 H ++ [p])) := by
  refine c_inl G.toGood (fE (by decide)) (by decide) (fl := .next) (loc := [("self", .own 4), ("name", .str (spW p)), ("val", .str (figS p.2))]) (loc' := [("self", .own 4), ("name", .str (spW p)), ("val", .str (figS p.2))]) (by kernel_rfl) (by kernel_rfl) ?_ (by simp)
  rw [sh136]
  have hc := cut_len p.2 H
  refine x_cons_next (σ₁ := σH r n Q (cut p.2 H)) (x_Delete G.toGood6 (σ₂ := σH r n Q H) (σ₃ := σH r n Q H) (i := 4) (C := 223) (fs := hF) (by decide) (rE0 G (by decide) 30 (by kernel_rfl)) (rE0 G (by decide) 30 (by kernel_rfl)) rfl (by kernel_rfl) ((co141 G r n Q p H hH).call)) ?_
  refine x_cons_next (σ₁ := σH r n Q (cut p.2 H ++ [p])) (x_Expr (a := .none) (by rfl) ?_) x_nil
  have e : σH r n Q (cut p.2 H ++ [p]) = (σH r n Q (cut p.2 H)).set 5 (.list ((cut p.2 H).map hIt ++ [hIt p])) := by rw [show (cut p.2 H).map hIt ++ [hIt p] = (cut p.2 H ++ [p]).map hIt by simp]; rfl
  rw [e]
  exact v_append G.toGood (σ₁ := σH r n Q (cut p.2 H)) (σ₂ := σH r n Q (cut p.2 H)) (i := 5) (xs := (cut p.2 H).map hIt) (ys := (cut p.2 H).map hIt) (v := hIt p) (by rfl) (by rfl) (by rfl) (by decide) (rE0 G (by decide) 30 (by kernel_rfl)) rfl (v_evals_cons (by rfl) (rE0 G (by decide) 40 (map_at (r_tup w.params r n Q ((cut p.2 H).map hIt)) (mem_allU p))) v_evals_nil) rfl (by rw [List.length_map]; omega)
end
end Mine
end

-- part M75
section
namespace Mine
open PySem PySem.W PyProof.Rows PySem.Calls PySem.Spec

noncomputable def bodyW : List Stmt := whileB (nth B273 3)
noncomputable def ifK : Stmt := nth bodyW 2
noncomputable def forK : Stmt := nth (ifB ifK) 0
noncomputable def if2K : Stmt := nth (forB forK) 1
noncomputable def if3K : Stmt := nth (ifO if2K) 0
noncomputable abbrev locB (ws : V) (x : Str) : Loc := [("line", .own 2), ("words", ws), ("word", .str x), ("table", .own 4)]
noncomputable abbrev locK (ws : V) (x : Str) (c : C3) (ps : V) : Loc := [("line", .own 2), ("words", ws), ("word", .str x), ("table", .own 4), ("new", .str (figS c)), ("pairs", ps)]
noncomputable abbrev locJ (ws : V) (x : Str) (c : C3) (ps : V) (nm : Str) (o : C3) : Loc := [("line", .own 2), ("words", ws), ("word", .str x), ("table", .own 4), ("new", .str (figS c)), ("pairs", ps), ("name", .str nm), ("old", .str (figS o))]
noncomputable abbrev locC (ws : V) (x : Str) (c : C3) (ps : V) (nm : Str) (o : C3) (cl : V) : Loc := [("line", .own 2), ("words", ws), ("word", .str x), ("table", .own 4), ("new", .str (figS c)), ("pairs", ps), ("name", .str nm), ("old", .str (figS o)), ("clashes", cl)]
noncomputable abbrev locD (ws : V) (x : Str) (c : C3) (ps : V) (nm : Str) (o : C3) (cl : V) (b : Str) : Loc := [("line", .own 2), ("words", ws), ("word", .str x), ("table", .own 4), ("new", .str (figS c)), ("pairs", ps), ("name", .str nm), ("old", .str (figS o)), ("clashes", cl), ("both", .str b)]

-- where two clauses clash
noncomputable def clB (x y : Fin 3) : Bool := decide ((⟨#[49, 50]⟩ : Str) = ⟨#[48 + x.val, 48 + y.val]⟩) || (decide ((⟨#[50, 49]⟩ : Str) = ⟨#[48 + x.val, 48 + y.val]⟩) || false)
noncomputable def iN (k : Nat) : It := .at (.int (Int.ofNat k))
noncomputable def clL (o c : C3) : List It := (if clB o.1 c.1 then [iN 0] else []) ++ ((if clB o.2.1 c.2.1 then [iN 1] else []) ++ ((if clB o.2.2 c.2.2 then [iN 2] else []) ++ []))
noncomputable def clashE : Expr := rhs (nth (forB forK) 0)
theorem r_cl (P : Params) (σ : AS) (o c : C3) : ([0, 1, 2].map fun k : Nat => run (SP P) 30 19 (.cond (relab (compS clashE)) [("new", .str (figS c)), ("old", .str (figS o)), ("k", .int (Int.ofNat k))] (compT clashE)) σ) =
    [some (.b (clB o.1 c.1), σ), some (.b (clB o.2.1 c.2.1), σ), some (.b (clB o.2.2 c.2.2), σ)] := by kernel_rfl
-- what two clauses give together
noncomputable def maxF (a b : Fin 3) : Fin 3 := if a.val < b.val then b else a
noncomputable def bothC (o c : C3) : C3 := (if clB o.1 c.1 then 0 else maxF o.1 c.1, if clB o.2.1 c.2.1 then 0 else maxF o.2.1 c.2.1, if clB o.2.2 c.2.2 then 0 else maxF o.2.2 c.2.2)
noncomputable def oneP : List (C3 × C3) := (allC.flatMap fun o => allC.map fun c => (o, c)).filter fun p => (clL p.1 p.2).length == 1
theorem mem_oneP {o c : C3} (h : (clL o c).length = 1) : (o, c) ∈ oneP := List.mem_filter.mpr ⟨List.mem_flatMap.mpr ⟨o, mem_allC o, List.mem_map.mpr ⟨c, mem_allC c, rfl⟩⟩, beq_iff_eq.mpr h⟩
theorem r_both (P : Params) (σ : AS) (ws : V) (x : Str) (ps : V) (nm : Str) : (oneP.map fun p => run (SP P) 30 19 (.exec (fnA P 273).sc (locC ws x p.2 ps nm p.1 (.lst (clL p.1 p.2))) (nth (ifB if3K) 0)) σ) =
    oneP.map fun p => some (.ex .next (locD ws x p.2 ps nm p.1 (.lst (clL p.1 p.2)) (figS (bothC p.1 p.2))), σ) := by kernel_rfl
end Mine
end

-- part M76
section
set_option maxHeartbeats 4000000
namespace Mine
open PySem PySem.W PyProof.Rows PySem.Calls PySem.Spec

noncomputable def nmLow : Expr := match nth (ifB if2K) 0 with | .Delete [.Subscript _ k _] _ => k | _ => .Name "" ⟨0, 0, 0, 0⟩
theorem r_nlow (P : Params) (σ : AS) (ws : V) (x : Str) (ps : V) (o c : C3) (cl : V) : (allU.map fun p => run (SP P) 30 19 (.eval (fnA P 273).sc (locC ws x c ps (spW p) o cl) nmLow) σ) = allU.map fun p => some (.v (.str (nameL p.2)), σ) := by kernel_rfl
/-- one header against the new clause -/
noncomputable def oneK (c : C3) (p : Bool × C3) (s : List (Bool × C3) × List (Bool × C3)) : List (Bool × C3) × List (Bool × C3) :=
  if partC c p.2 then (s.1, cut p.2 s.2) else if (clL p.2 c).length = 1 then (s.1 ++ [(true, bothC p.2 c)], s.2) else s
noncomputable def allK (c : C3) : List (Bool × C3) → List (Bool × C3) × List (Bool × C3) → List (Bool × C3) × List (Bool × C3)
  | [], s => s
  | p :: r, s => allK c r (oneK c p s)
noncomputable abbrev qIt (p : Bool × C3) : It := iS (spW p)
noncomputable abbrev σK (r : List Nat) (n : Int) (s : List (Bool × C3) × List (Bool × C3)) : AS := σH r n (s.1.map qIt) s.2
theorem cons_if (b : Bool) (x : It) : (if b then [x] else []) = if b then [x] else [] := rfl
section
variable {w : World} {hb : Heap}
theorem comp_clash (G : Good8 (CX w hb)) (σ : AS) (o c : C3) : (CX w hb).VComp 19 (relab (compS clashE)) [("new", .str (figS c)), ("old", .str (figS o))] (compE clashE) (compG clashE) [] {} [iN 0, iN 1, iN 2] σ (clL o c) σ := by
  have h := r_cl w.params σ o c
  have h0 : run (CX w hb).S 30 19 (.cond (relab (compS clashE)) [("new", .str (figS c)), ("old", .str (figS o)), ("k", .int (Int.ofNat 0))] (compT clashE)) σ = some (.b (clB o.1 c.1), σ) := (List.cons.inj h).1
  have h1 : run (CX w hb).S 30 19 (.cond (relab (compS clashE)) [("new", .str (figS c)), ("old", .str (figS o)), ("k", .int (Int.ofNat 1))] (compT clashE)) σ = some (.b (clB o.2.1 c.2.1), σ) := (List.cons.inj (List.cons.inj h).2).1
  have h2 : run (CX w hb).S 30 19 (.cond (relab (compS clashE)) [("new", .str (figS c)), ("old", .str (figS o)), ("k", .int (Int.ofNat 2))] (compT clashE)) σ = some (.b (clB o.2.2 c.2.2), σ) := (List.cons.inj (List.cons.inj (List.cons.inj h).2).2).1
  unfold clL
  refine cp_last (w := iN 0) (b := clB o.1 c.1) (loc₁ := [("new", .str (figS c)), ("old", .str (figS o)), ("k", .int (Int.ofNat 0))]) (σ₁ := σ) (σ₂ := σ) (fun h => by cases h) rfl rfl rfl rfl (t_one (rC0 G (by decide) 30 h0)) (fun h => ⟨rE0 G (by decide) 30 (by kernel_rfl), by rw [h]; rfl⟩) (fun h => ⟨by rw [h]; rfl, rfl⟩) rfl ?_
  refine cp_last (w := iN 1) (b := clB o.2.1 c.2.1) (loc₁ := [("new", .str (figS c)), ("old", .str (figS o)), ("k", .int (Int.ofNat 1))]) (σ₁ := σ) (σ₂ := σ) (fun h => by cases h) rfl rfl rfl rfl (t_one (rC0 G (by decide) 30 h1)) (fun h => ⟨rE0 G (by decide) 30 (by kernel_rfl), by rw [h]; rfl⟩) (fun h => ⟨by rw [h]; rfl, rfl⟩) rfl ?_
  refine cp_last (w := iN 2) (b := clB o.2.2 c.2.2) (loc₁ := [("new", .str (figS c)), ("old", .str (figS o)), ("k", .int (Int.ofNat 2))]) (σ₁ := σ) (σ₂ := σ) (fun h => by cases h) rfl rfl rfl rfl (t_one (rC0 G (by decide) 30 h2)) (fun h => ⟨rE0 G (by decide) 30 (by kernel_rfl), by rw [h]; rfl⟩) (fun h => ⟨by rw [h]; rfl, rfl⟩) rfl ?_
  exact cp_nil
theorem clL_len (o c : C3) : (clL o c).length ≤ 3 := by
  unfold clL
  cases clB o.1 c.1 <;> cases clB o.2.1 c.2.1 <;> cases clB o.2.2 c.2.2 <;> simp
theorem sub_pre {a b : Loc} : Sub a (a ++ b) := by
  intro y v h
  induction a with
  | nil => cases h
  | cons p r ih =>
    obtain ⟨z, u⟩ := p
    rw [List.cons_append, lookup_cons_if]
    rw [lookup_cons_if] at h
    split at h
    · rename_i q; rw [if_pos q]; exact h
    · rename_i q; rw [if_neg q]; exact ih h
theorem one_step (G : Good8 (CX w hb)) (ws : V) (x : Str) (c : C3) (ps : V) (p : Bool × C3) (r : List Nat) (n : Int) (s : List (Bool × C3) × List (Bool × C3)) (h1 : s.1.length ≤ 100000) (h2 : s.2.length ≤ 1000) :
    (CX w hb).VExecs 19 (fnA w.params 273).sc (locJ ws x c ps (spW p) p.2) (forB forK) (σK r n s) .next (locK ws x c ps) (σK r n (oneK c p s)) := by
  obtain ⟨Q, H⟩ := s
  refine x_cons_next (loc₁ := locC ws x c ps (spW p) p.2 (.lst (clL p.2 c))) (σ₁ := σK r n (Q, H)) (x_AssignComp (σ₁ := σK r n (Q, H)) (items := [iN 0, iN 1, iN 2]) (src := {}) (by kernel_rfl) (rI0 G (by decide) 30 (by kernel_rfl)) (comp_clash G _ p.2 c) (by have := clL_len p.2 c; omega) (by kernel_rfl)) ?_
  have cond1 : (CX w hb).VCond 19 (fnA w.params 273).sc (locC ws x c ps (spW p) p.2 (.lst (clL p.2 c))) (ifT if2K) (σK r n (Q, H)) (partC c p.2) (σK r n (Q, H)) :=
    c_plain (x := .bool (partC c p.2)) (by rfl) (v_CallName G.toGood (f := .val (.ref 268)) (vs := [.str (figS c), .str (figS p.2)]) (by rfl) (by rfl) (rE0 G (by decide) 30 (by kernel_rfl)) (run_sound G 30 19 (by decide) (.evals _ _ _) (σK r n (Q, H)) (.vs _) (σK r n (Q, H)) (by kernel_rfl)) ((co268 G c p.2 (σK r n (Q, H))).below (by decide) (by decide)).call) (.inr rfl)
  refine x_cons_next (loc₁ := locK ws x c ps) (σ₁ := σK r n (oneK c p (Q, H))) (x_If (c := partC c p.2) cond1 ?_) x_nil
  unfold oneK
  by_cases hp : partC c p.2 = true
  · rw [if_pos hp, if_pos hp]
    have hlow := map_at (r_nlow w.params (σK r n (Q, H)) ws x ps p.2 c (.lst (clL p.2 c))) (mem_allU p)
    refine xs_less (loc' := locC ws x c ps (spW p) p.2 (.lst (clL p.2 c))) (x_cons_next (σ₁ := σK r n (Q, cut p.2 H)) (x_Delete G.toGood6 (y := .str (spW (false, p.2))) (σ₂ := σK r n (Q, H)) (σ₃ := σK r n (Q, H)) (i := 4) (C := 223) (fs := hF) (by decide) (rE0 G (by decide) 30 (by kernel_rfl)) (rE0 G (by decide) 30 hlow) rfl (by kernel_rfl) ((co141 G r n _ (false, p.2) H h2).below (by decide) (by decide)).call) x_nil) ?_
    exact sub_pre (a := locK ws x c ps) (b := [("name", .str (spW p)), ("old", .str (figS p.2)), ("clashes", .lst (clL p.2 c))])
  · rw [if_neg hp, if_neg hp]
    have cond2 : (CX w hb).VCond 19 (fnA w.params 273).sc (locC ws x c ps (spW p) p.2 (.lst (clL p.2 c))) (ifT if3K) (σK r n (Q, H)) (decide ((clL p.2 c).length = 1)) (σK r n (Q, H)) := by
      refine c_Compare (x := .int (clL p.2 c).length) (y := .int 1) (σ₁ := σK r n (Q, H)) rfl (v_CallName G.toGood (f := .val (.builtin "len")) (vs := [.lst (clL p.2 c)]) (by rfl) (by rfl) (rE0 G (by decide) 30 (by kernel_rfl)) (run_sound G 30 19 (by decide) (.evals _ _ _) (σK r n (Q, H)) (.vs _) (σK r n (Q, H)) (by kernel_rfl)) (c_len_lst (by have := clL_len p.2 c; omega))) (v_Constant rfl) ?_
      show some (decide (((clL p.2 c).length : Int) = 1)) = _
      congr 1
      exact decide_eq_decide.mpr (by omega)
    refine x_cons_next (loc₁ := locK ws x c ps) (σ₁ := σK r n (if (clL p.2 c).length = 1 then (Q ++ [(true, bothC p.2 c)], H) else (Q, H))) (x_If (c := decide ((clL p.2 c).length = 1)) cond2 ?_) x_nil
    by_cases hl : (clL p.2 c).length = 1
    · rw [if_pos hl, if_pos (decide_eq_true hl)]
      have hboth := map_at (r_both w.params (σK r n (Q, H)) ws x ps (spW p)) (mem_oneP hl)
      refine xs_less (loc' := locD ws x c ps (spW p) p.2 (.lst (clL p.2 c)) (figS (bothC p.2 c))) (x_cons_next (σ₁ := σK r n (Q, H)) (rEx G (by decide) 30 hboth) (x_cons_next (σ₁ := σK r n (Q ++ [(true, bothC p.2 c)], H)) (x_Expr (a := .none) (by rfl) ?_) x_nil)) ?_
      · refine v_Meth (σ₁ := σK r n (Q, H)) (σ₂ := σK r n (Q, H)) (i := 2) (C := 86) (f := 83) (fs := lexF n) (vs := [.str (spW (true, bothC p.2 c))]) G.toGood4 (by rfl) (by rfl) (by rfl) (by decide) (rE0 G (by decide) 30 (by kernel_rfl)) rfl (by kernel_rfl) (by kernel_rfl) (v_evals_cons (by rfl) (v_CallName G.toGood (f := .val (.ref 244)) (vs := [.str (figS (bothC p.2 c)), .str (lettersS true)]) (by rfl) (by rfl) (rE0 G (by decide) 30 (by kernel_rfl)) (run_sound G 30 19 (by decide) (.evals _ _ _) (σK r n (Q, H)) (.vs _) (σK r n (Q, H)) (by kernel_rfl)) ((co244 G true (bothC p.2 c) (σK r n (Q, H))).below (by decide) (by decide)).call) v_evals_nil) ?_
        have e := (co83 G (spW (true, bothC p.2 c)) (Q.map qIt) (by rw [List.length_map]; exact h1) r n [.inst 223 hF, .list (H.map hIt)]).call
        have e2 : (Q ++ [(true, bothC p.2 c)]).map qIt = Q.map qIt ++ [iS (spW (true, bothC p.2 c))] := by simp
        show (CX w hb).VCall 19 _ _ _ _ _ (σH r n ((Q ++ [(true, bothC p.2 c)]).map qIt) H)
        rw [e2]
        exact e
      · exact sub_pre (a := locK ws x c ps) (b := [("name", .str (spW p)), ("old", .str (figS p.2)), ("clashes", .lst (clL p.2 c)), ("both", .str (figS (bothC p.2 c)))])
    · rw [if_neg hl, if_neg (by simpa using hl)]
      exact xs_less x_nil (sub_pre (a := locK ws x c ps) (b := [("name", .str (spW p)), ("old", .str (figS p.2)), ("clashes", .lst (clL p.2 c))]))
end
end Mine
end

-- part M77
section
set_option maxHeartbeats 1000000
namespace Mine
open PySem PySem.W PyProof.Rows PySem.Calls PySem.Spec

noncomputable def forT : Stmt → Expr | .For t _ _ _ _ => t | _ => .Name "" ⟨0, 0, 0, 0⟩
noncomputable def whileT : Stmt → Expr | .While t _ _ _ => t | _ => .Name "" ⟨0, 0, 0, 0⟩
noncomputable def testE : Expr := cmpL (ifT ifK)
theorem r_word (P : Params) (σ : AS) (ws : V) : (allU.map fun p => run (SP P) 30 19 (.cond (fnA P 273).sc (locB ws (spW p)) (whileT (nth B273 3))) σ) = allU.map fun _ => some (.b true, σ) := by kernel_rfl
/-- a word off the line against all headers -/
noncomputable def stepH (p : Bool × C3) (s : List (Bool × C3) × List (Bool × C3)) : List (Bool × C3) × List (Bool × C3) :=
  if (s.2.filter fun o : Bool × C3 => partC o.2 p.2) = [] then ((allK p.2 s.2 s).1, cut p.2 (allK p.2 s.2 s).2 ++ [p]) else s
theorem allK_len (c : C3) : ∀ (l : List (Bool × C3)) (s : List (Bool × C3) × List (Bool × C3)), (allK c l s).1.length ≤ s.1.length + l.length ∧ (allK c l s).2.length ≤ s.2.length
  | [], s => ⟨Nat.le_refl _, Nat.le_refl _⟩
  | p :: r, s => by
    have ih := allK_len c r (oneK c p s)
    have h : (oneK c p s).1.length ≤ s.1.length + 1 ∧ (oneK c p s).2.length ≤ s.2.length := by
      unfold oneK
      split
      · exact ⟨by dsimp only; omega, cut_len _ _⟩
      · split
        · exact ⟨by simp, Nat.le_refl _⟩
        · exact ⟨by omega, Nat.le_refl _⟩
    unfold allK
    rw [List.length_cons]
    omega
section
variable {w : World} {hb : Heap}
theorem all_steps (G : Good8 (CX w hb)) (ws : V) (x : Str) (c : C3) (ps : V) (r : List Nat) (n : Int) : ∀ (l : List (Bool × C3)) (s : List (Bool × C3) × List (Bool × C3)), s.1.length + l.length ≤ 100000 → s.2.length ≤ 1000 →
    (CX w hb).VFor 19 (fnA w.params 273).sc (locK ws x c ps) (forT forK) {} (l.map hIt) (forB forK) (σK r n s) .next (locK ws x c ps) (σK r n (allK c l s))
  | [], s, _, _ => f_nil
  | p :: l, s, h1, h2 => by
    rw [List.length_cons] at h1
    have b := allK_len c [p] s
    refine f_cons (fun h => by cases h) rfl rfl (one_step G ws x c ps p r n s (by omega) h2) (fun _ => rfl) (fun _ => all_steps G ws x c ps r n l (oneK c p s) ?_ ?_) (fun _ e => by cases e)
    · have : (oneK c p s).1.length ≤ s.1.length + 1 := b.1
      omega
    · have : (oneK c p s).2.length ≤ s.2.length := b.2
      omega
theorem comp_parts (G : Good8 (CX w hb)) (c : C3) (σ : AS) : ∀ l : List (Bool × C3),
    (CX w hb).VComp 19 (relab (compS testE)) [("new", .str (figS c))] (compE testE) (compG testE) [] {} (l.map hIt) σ ((l.filter fun o : Bool × C3 => partC o.2 c).map qIt) σ
  | [] => cp_nil
  | p :: l => by
    have step := cp_last (X := CX w hb) (here := if partC p.2 c then [qIt p] else []) (b := partC p.2 c) (w := qIt p) (loc₁ := [("new", .str (figS c)), ("name", .str (spW p)), ("old", .str (figS p.2))]) (sc := relab (compS testE)) (loc := [("new", .str (figS c))]) (elt := compE testE) (g := compG testE) (x := hIt p) (xs := l.map hIt) (src := {})
      (σ := σ) (σ₁ := σ) (σ₂ := σ) (fun h => by cases h) rfl rfl rfl rfl
      (t_one (c_plain (x := .bool (partC p.2 c)) (by rfl) (v_CallName G.toGood (f := .val (.ref 268)) (vs := [.str (figS p.2), .str (figS c)]) (by rfl) (by rfl) (rE0 G (by decide) 30 (by kernel_rfl)) (run_sound G 30 19 (by decide) (.evals _ _ _) σ (.vs _) σ (by kernel_rfl)) ((co268 G p.2 c σ).below (by decide) (by decide)).call) (.inr rfl)))
      (fun h => ⟨rE0 G (by decide) 30 (by kernel_rfl), by rw [h]; rfl⟩) (fun h => ⟨by rw [h]; rfl, rfl⟩) rfl (comp_parts G c σ l)
    have e : (if partC p.2 c then [qIt p] else []) ++ (l.filter fun o : Bool × C3 => partC o.2 c).map qIt = ((p :: l).filter fun o : Bool × C3 => partC o.2 c).map qIt := by
      rw [List.filter_cons]
      cases partC p.2 c <;> simp
    rw [e] at step
    exact step
/-- a turn up to the next word -/
theorem turn (G : Good8 (CX w hb)) (ws : V) (p : Bool × C3) (r : List Nat) (n : Int) (s : List (Bool × C3) × List (Bool × C3)) (h1 : s.1.length ≤ 1000) (h2 : s.2.length ≤ 1000) {f : Flw} {loc' : Loc} {σ' : AS} {rest : List Stmt}
    (hr : (CX w hb).VExecs 19 (fnA w.params 273).sc (locB ws (spW p)) rest (σK r n (stepH p s)) f loc' σ') :
    (CX w hb).VExecs 19 (fnA w.params 273).sc (locB ws (spW p)) (nth bodyW 0 :: nth bodyW 1 :: nth bodyW 2 :: rest) (σK r n s) f loc' σ' := by
  obtain ⟨Q, H⟩ := s
  have st0 : (CX w hb).VExec 19 (fnA w.params 273).sc (locB ws (spW p)) (nth bodyW 0) (σK r n (Q, H)) .next [("line", .own 2), ("words", ws), ("word", .str (spW p)), ("table", .own 4), ("new", .str (figS p.2))] (σK r n (Q, H)) :=
    x_AssignName (v := .str (figS p.2)) (by rfl) (v_CallName G.toGood (f := .val (.ref 263)) (vs := [.str (spW p)]) (by rfl) (by rfl) (rE0 G (by decide) 30 (by kernel_rfl)) (run_sound G 30 19 (by decide) (.evals _ _ _) (σK r n (Q, H)) (.vs _) (σK r n (Q, H)) (by kernel_rfl)) ((co263 G p.1 p.2 (σK r n (Q, H))).below (by decide) (by decide)).call) (by kernel_rfl)
  have st1 : (CX w hb).VExec 19 (fnA w.params 273).sc [("line", .own 2), ("words", ws), ("word", .str (spW p)), ("table", .own 4), ("new", .str (figS p.2))] (nth bodyW 1) (σK r n (Q, H)) .next (locK ws (spW p) p.2 (.lst (H.map hIt))) (σK r n (Q, H)) :=
    x_AssignName (v := .lst (H.map hIt)) (by rfl) (v_Meth (σ₁ := σK r n (Q, H)) (σ₂ := σK r n (Q, H)) (i := 4) (C := 223) (f := 187) (fs := hF) (vs := []) G.toGood4 (by rfl) (by rfl) (by rfl) (by decide) (rE0 G (by decide) 30 (by kernel_rfl)) rfl (by kernel_rfl) (by kernel_rfl) v_evals_nil ((co187 G r n (Q.map qIt) H h2).below (by decide) (by decide)).call) (by kernel_rfl)
  refine x_cons_next st0 (x_cons_next st1 (x_cons_next (loc₁ := locB ws (spW p)) (σ₁ := σK r n (stepH p (Q, H))) ?_ hr))
  have ifc : (CX w hb).VCond 19 (fnA w.params 273).sc (locK ws (spW p) p.2 (.lst (H.map hIt))) (ifT ifK) (σK r n (Q, H)) (decide ((H.filter fun o : Bool × C3 => partC o.2 p.2) = [])) (σK r n (Q, H)) := by
    have hl : (H.filter fun o : Bool × C3 => partC o.2 p.2).length ≤ H.length := List.length_filter_le _ _
    refine c_Compare (x := .lst ((H.filter fun o : Bool × C3 => partC o.2 p.2).map qIt)) (y := .lst []) (σ₁ := σK r n (Q, H)) rfl (v_ListComp (σ₁ := σK r n (Q, H)) (items := H.map hIt) (src := {}) (by kernel_rfl) (rI0 G (by decide) 30 (by kernel_rfl)) (comp_parts G p.2 (σK r n (Q, H)) H) (by rw [List.length_map]; have : H.length ≤ 1000 := h2; omega)) (rE0 G (by decide) 30 (by kernel_rfl)) ?_
    show itsEq _ _ = _
    unfold itsEq
    cases (H.filter fun o : Bool × C3 => partC o.2 p.2) <;> simp [itsAll]
  refine x_If (c := decide ((H.filter fun o : Bool × C3 => partC o.2 p.2) = [])) (σ₁ := σK r n (Q, H)) ifc ?_
  unfold stepH
  by_cases hc : (H.filter fun o : Bool × C3 => partC o.2 p.2) = []
  · rw [if_pos hc, if_pos (decide_eq_true hc)]
    have b := allK_len p.2 H (Q, H)
    have h1' : Q.length ≤ 1000 := h1
    have h2' : H.length ≤ 1000 := h2
    have loop : (CX w hb).VExec 19 (fnA w.params 273).sc (locK ws (spW p) p.2 (.lst (H.map hIt))) forK (σK r n (Q, H)) .next (locK ws (spW p) p.2 (.lst (H.map hIt))) (σK r n (allK p.2 H (Q, H))) :=
      x_For (σ₁ := σK r n (Q, H)) (g := {}) (xs := H.map hIt) (rI0 G (by decide) 30 (by kernel_rfl)) (all_steps G ws (spW p) p.2 _ r n H (Q, H) (by dsimp only; omega) h2)
    refine xs_less (loc' := locK ws (spW p) p.2 (.lst (H.map hIt))) (x_cons_next loop (x_cons_next ?_ x_nil)) (sub_pre (a := locB ws (spW p)) (b := [("new", .str (figS p.2)), ("pairs", .lst (H.map hIt))]))
    have hb2 : (allK p.2 H (Q, H)).2.length ≤ 1000 := by have := b.2; dsimp only at this; omega
    exact x_AssignOwn G.toGood6 (v := .str (figS p.2)) (y := .str (spW p)) (σ₁ := σK r n (allK p.2 H (Q, H))) (σ₂ := σK r n (allK p.2 H (Q, H))) (σ₃ := σK r n (allK p.2 H (Q, H))) (i := 4) (C := 223) (fs := hF) (f := 136) (by decide) (rE0 G (by decide) 30 (by kernel_rfl)) (rE0 G (by decide) 30 (by kernel_rfl)) (rE0 G (by decide) 30 (by kernel_rfl)) rfl (by kernel_rfl) (co136 G r n _ p _ hb2).call
  · rw [if_neg hc, if_neg (by simpa using hc)]
    exact xs_less x_nil (sub_pre (a := locB ws (spW p)) (b := [("new", .str (figS p.2)), ("pairs", .lst (H.map hIt))]))
end
end Mine
end

-- part M78
section
set_option maxHeartbeats 1000000
namespace Mine
open PySem PySem.W PyProof.Rows PySem.Calls PySem.Spec

noncomputable abbrev KS := List (Bool × C3) × List (Bool × C3)
/-- from a word in hand, what waits and the headers, to the headers at the end -/
inductive Kept : (Bool × C3) → KS → List (Bool × C3) → Prop
  | last {p : Bool × C3} {s : KS} {H : List (Bool × C3)} (hb : s.1.length ≤ 1000 ∧ s.2.length ≤ 1000) (h : stepH p s = ([], H)) : Kept p s H
  | more {p : Bool × C3} {s : KS} {q : Bool × C3} {Q H H' : List (Bool × C3)} (hb : s.1.length ≤ 1000 ∧ s.2.length ≤ 1000) (h : stepH p s = (q :: Q, H)) (k : Kept q (Q, H) H') : Kept p s H'
theorem stepH_len (p : Bool × C3) (s : KS) : (stepH p s).1.length ≤ s.1.length + s.2.length := by
  unfold stepH
  split
  · exact (allK_len p.2 s.2 s).1
  · omega
section
variable {w : World} {hb : Heap}
theorem whileK (G : Good8 (CX w hb)) (ws : V) (b : Bool) (n : Int) : ∀ {p : Bool × C3} {s : KS} {H : List (Bool × C3)}, Kept p s H →
    (CX w hb).VWhile 19 (fnA w.params 273).sc (locB ws (spW p)) (whileT (nth B273 3)) bodyW (σK (pendL b) n s) .next (locB ws ⟨#[]⟩) (σK [] (if b then n + 1 else n) ([], H)) := by
  intro p s H k
  induction k with
  | @last p s H hb h =>
    refine w_turn (σ₁ := σK (pendL b) n s) (σ₂ := σK [] (if b then n + 1 else n) ([], H)) (loc₁ := locB ws ⟨#[]⟩) (f₁ := .next) (rC0 G (by decide) 30 (map_at (r_word w.params (σK (pendL b) n s) ws) (mem_allU p))) ?_ (fun _ => w_out (rC0 G (by decide) 30 (by kernel_rfl))) (fun _ e => by cases e)
    refine turn G ws p (pendL b) n s hb.1 hb.2 (rest := [nth bodyW 3]) (x_cons_next (σ₁ := σK [] (if b then n + 1 else n) ([], H)) (loc₁ := locB ws ⟨#[]⟩) ?_ x_nil)
    rw [h]
    exact x_AssignName (v := .str ⟨#[]⟩) (by rfl) (v_Meth (σ₁ := σK (pendL b) n ([], H)) (σ₂ := σK (pendL b) n ([], H)) (i := 2) (C := 86) (f := 76) (fs := lexF n) (vs := []) G.toGood4 (by rfl) (by rfl) (by rfl) (by decide) (rE0 G (by decide) 30 (by kernel_rfl)) rfl (by kernel_rfl) (by kernel_rfl) v_evals_nil (co76e G b n hF rfl (H.map hIt)).call) (by kernel_rfl)
  | @more p s q Q H H' hb h k ih =>
    refine w_turn (σ₁ := σK (pendL b) n s) (σ₂ := σK (pendL b) n (Q, H)) (loc₁ := locB ws (spW q)) (f₁ := .next) (rC0 G (by decide) 30 (map_at (r_word w.params (σK (pendL b) n s) ws) (mem_allU p))) ?_ (fun _ => ih) (fun _ e => by cases e)
    refine turn G ws p (pendL b) n s hb.1 hb.2 (rest := [nth bodyW 3]) (x_cons_next (σ₁ := σK (pendL b) n (Q, H)) (loc₁ := locB ws (spW q)) ?_ x_nil)
    have hl := stepH_len p s
    rw [h] at hl ⊢
    rw [List.length_cons] at hl
    exact x_AssignName (v := .str (spW q)) (by rfl) (v_Meth (σ₁ := σK (pendL b) n (q :: Q, H)) (σ₂ := σK (pendL b) n (q :: Q, H)) (i := 2) (C := 86) (f := 76) (fs := lexF n) (vs := []) G.toGood4 (by rfl) (by rfl) (by rfl) (by decide) (rE0 G (by decide) 30 (by kernel_rfl)) rfl (by kernel_rfl) (by kernel_rfl) v_evals_nil (co76p G (spW q) (Q.map qIt) (by rw [List.length_map]; omega) (pendL b) n [.inst 223 hF, .list (H.map hIt)]).call) (by kernel_rfl)
theorem co273 (G : Good8 (CX w hb)) (p0 p1 p2 p3 : Bool × C3) (b : Bool) (n : Int) {H : List (Bool × C3)} (k : Kept p0 ([p1, p2, p3], []) H) :
    (CX w hb).VCallC 18 273 [.own 2, .lst [qIt p0, qIt p1, qIt p2, qIt p3]] [] (lexσ (pendL b) n []) (.own 4) (σK [] (if b then n + 1 else n) ([], H)) := by
  refine c_inl G.toGood (fE (by decide)) (by decide) (fl := .ret (.own 4)) (loc := [("line", .own 2), ("words", .lst [qIt p0, qIt p1, qIt p2, qIt p3])]) (loc' := locB (.lst [qIt p0, qIt p1, qIt p2, qIt p3]) ⟨#[]⟩) (by kernel_rfl) (by kernel_rfl) ?_ (by simp)
  rw [sh273]
  refine x_cons_next (loc₁ := [("line", .own 2), ("words", .lst [qIt p0, qIt p1, qIt p2, qIt p3]), ("word", .str (spW p3))]) (σ₁ := lexσ (pendL b) n [qIt p0, qIt p1, qIt p2, qIt p3]) (rEx G (by decide) 40 (by kernel_rfl)) ?_
  refine x_cons_next (loc₁ := locB (.lst [qIt p0, qIt p1, qIt p2, qIt p3]) (spW p3)) (σ₁ := σK (pendL b) n ([p0, p1, p2, p3], [])) (rEx G (by decide) 40 (by kernel_rfl)) ?_
  refine x_cons_next (loc₁ := locB (.lst [qIt p0, qIt p1, qIt p2, qIt p3]) (spW p0)) (σ₁ := σK (pendL b) n ([p1, p2, p3], [])) (rEx G (by decide) 40 (by kernel_rfl)) ?_
  refine x_cons_next (loc₁ := locB (.lst [qIt p0, qIt p1, qIt p2, qIt p3]) ⟨#[]⟩) (σ₁ := σK [] (if b then n + 1 else n) ([], H)) (x_While (whileK G _ b n k)) ?_
  exact x_cons_out (by simp) (x_Return (rE0 G (by decide) 30 (by kernel_rfl)))
end
end Mine
end

-- part M79
section
set_option maxHeartbeats 1000000
namespace Mine
open PySem PySem.W PyProof.Rows PySem.Calls PySem.Spec

noncomputable def litN (y : Nat) (f : Fin 3) : Nat := if f = 0 then 0 else if f = 1 then y else 255 - y
noncomputable def maskN (c : C3) : Nat := litN 170 c.1 ||| litN 204 c.2.1 ||| litN 240 c.2.2
noncomputable def rowIt (c : C3) : It := .pair (.str (figS c)) (.int (maskN c))
noncomputable def rowsV : V := .lst (allC.map rowIt)
noncomputable def dictO : AO := .dict (allC.map fun c => (figS c, (maskN c : Int)))
noncomputable def seedO : AO := .list [.pair (.str ⟨#[]⟩) (.int 0)]
noncomputable abbrev locM (ds : V) (h : Int) : Loc := [("drawn", ds), ("rows", rowsV), ("yes", .int 240), ("masks", .own 1), ("holds", .int h)]
noncomputable abbrev locN (ds : V) (h : Int) (c : C3) : Loc := [("drawn", ds), ("rows", rowsV), ("yes", .int 240), ("masks", .own 1), ("holds", .int h), ("figures", .str (figS c))]
noncomputable abbrev locO (ds : V) (h : Int) (f : V) : Loc := [("drawn", ds), ("rows", rowsV), ("yes", .int 240), ("masks", .own 1), ("holds", .int h), ("figures", f), ("due", .own 2)]
noncomputable abbrev locP (ds : V) (h : Int) (f : V) (t : Str) (m : Int) : Loc := [("drawn", ds), ("rows", rowsV), ("yes", .int 240), ("masks", .own 1), ("holds", .int h), ("figures", f), ("due", .own 2), ("text", .str t), ("mask", .int m)]
noncomputable abbrev locQ (ds : V) (h : Int) (f : V) (t : Str) (m : Int) (ps : V) : Loc := [("drawn", ds), ("rows", rowsV), ("yes", .int 240), ("masks", .own 1), ("holds", .int h), ("figures", f), ("due", .own 2), ("text", .str t), ("mask", .int m), ("parts", ps)]
theorem r_masks (P : Params) (ds : V) (h : Int) : (allC.map fun c => run (SP P) 60 19 (.execs (fnA P 278).sc (locN ds h c) (forB (nth B278 4))) [seedO, dictO]) = allC.map fun c => some (.ex .next (locN ds (Builtin.bitAnd h (maskN c)) c), [seedO, dictO]) := by kernel_rfl
/-- the least clauses that follow -/
noncomputable def drop1 (c : C3) : List C3 := (if c.1 = 0 then [] else [(0, c.2.1, c.2.2)]) ++ ((if c.2.1 = 0 then [] else [(c.1, 0, c.2.2)]) ++ (if c.2.2 = 0 then [] else [(c.1, c.2.1, 0)]))
noncomputable def ifR : Stmt := nth (forB (nth B278 6)) 0
noncomputable def if2R : Stmt := nth (ifB ifR) 1
noncomputable def partsE : Expr := cmpL (ifT if2R)
noncomputable def maskIt (c : C3) : It := .at (.int (maskN c))
theorem r_parts (P : Params) (ds : V) (h m : Int) (f : V) (du : AO) : (allC.map fun c => run (SP P) 60 19 (.exec (fnA P 278).sc (locP ds h f (figS c) m) (nth (ifB ifR) 0)) [seedO, dictO, du]) = allC.map fun c => some (.ex .next (locQ ds h f (figS c) m (.lst ((drop1 c).map maskIt))), [seedO, dictO, du]) := by kernel_rfl
noncomputable def flwI (h : Int) (c : C3) : Bool := decide (Builtin.bitAnd h (maskN c) = h)
noncomputable def dueI (h : Int) (c : C3) : Bool := flwI h c && decide ((drop1 c).filter (flwI h) = [])
noncomputable abbrev fIt (c : C3) : It := iS (figS c)
noncomputable abbrev σD (L : List C3) : AS := [seedO, dictO, .list (L.map fIt)]
section
variable {w : World} {hb : Heap}
theorem comp_flw (G : Good8 (CX w hb)) (h : Int) (σ : AS) : ∀ l : List C3,
    (CX w hb).VComp 19 (relab (compS partsE)) [("holds", .int h)] (compE partsE) (compG partsE) [] {} (l.map maskIt) σ ((l.filter (flwI h)).map maskIt) σ
  | [] => cp_nil
  | c :: l => by
    have step := cp_last (X := CX w hb) (here := if flwI h c then [maskIt c] else []) (b := flwI h c) (w := maskIt c) (loc₁ := [("holds", .int h), ("part", .int (maskN c))]) (sc := relab (compS partsE)) (loc := [("holds", .int h)]) (elt := compE partsE) (g := compG partsE) (x := maskIt c) (xs := l.map maskIt) (src := {})
      (σ := σ) (σ₁ := σ) (σ₂ := σ) (fun h => by cases h) rfl rfl rfl rfl (t_one (rC0 G (by decide) 30 (by kernel_rfl)))
      (fun h => ⟨rE0 G (by decide) 30 (by kernel_rfl), by rw [h]; rfl⟩) (fun h => ⟨by rw [h]; rfl, rfl⟩) rfl (comp_flw G h σ l)
    have e : (if flwI h c then [maskIt c] else []) ++ (l.filter (flwI h)).map maskIt = ((c :: l).filter (flwI h)).map maskIt := by
      rw [List.filter_cons]
      cases flwI h c <;> simp
    rw [e] at step
    exact step
theorem drop1_len (c : C3) : (drop1 c).length ≤ 3 := by
  unfold drop1
  split <;> split <;> split <;> simp
theorem row_step (G : Good8 (CX w hb)) (ds : V) (h : Int) (f : V) (c : C3) (L : List C3) (hL : L.length ≤ 1000) :
    (CX w hb).VExecs 19 (fnA w.params 278).sc (locP ds h f (figS c) (maskN c)) (forB (nth B278 6)) (σD L) .next (locO ds h f) (σD (if dueI h c then L ++ [c] else L)) := by
  refine x_cons_next (loc₁ := locO ds h f) (σ₁ := σD (if dueI h c then L ++ [c] else L)) (x_If (c := flwI h c) (σ₁ := σD L) (rC0 G (by decide) 30 (by kernel_rfl)) ?_) x_nil
  unfold dueI
  cases hf : flwI h c with
  | false => exact xs_less x_nil (sub_pre (a := locO ds h f) (b := [("text", .str (figS c)), ("mask", .int (maskN c))]))
  | true =>
    have hp := map_at (r_parts w.params ds h (maskN c) f (.list (L.map fIt))) (mem_allC c)
    have hl : ((drop1 c).filter (flwI h)).length ≤ 3 := Nat.le_trans (List.length_filter_le _ _) (drop1_len c)
    have cond : (CX w hb).VCond 19 (fnA w.params 278).sc (locQ ds h f (figS c) (maskN c) (.lst ((drop1 c).map maskIt))) (ifT if2R) (σD L) (decide ((drop1 c).filter (flwI h) = [])) (σD L) := by
      refine c_Compare (x := .lst (((drop1 c).filter (flwI h)).map maskIt)) (y := .lst []) (σ₁ := σD L) rfl (v_ListComp (σ₁ := σD L) (items := (drop1 c).map maskIt) (src := {}) (by kernel_rfl) (rI0 G (by decide) 30 (by kernel_rfl)) (comp_flw G h (σD L) (drop1 c)) (by rw [List.length_map]; omega)) (rE0 G (by decide) 30 (by kernel_rfl)) ?_
      show itsEq _ _ = _
      unfold itsEq
      cases (drop1 c).filter (flwI h) <;> simp [itsAll]
    refine xs_less (loc' := locQ ds h f (figS c) (maskN c) (.lst ((drop1 c).map maskIt))) (x_cons_next (σ₁ := σD L) (rEx G (by decide) 60 hp) (x_cons_next (loc₁ := locQ ds h f (figS c) (maskN c) (.lst ((drop1 c).map maskIt))) (σ₁ := σD (if true && decide ((drop1 c).filter (flwI h) = []) then L ++ [c] else L)) (x_If (c := decide ((drop1 c).filter (flwI h) = [])) (σ₁ := σD L) cond ?_) x_nil)) (sub_pre (a := locO ds h f) (b := [("text", .str (figS c)), ("mask", .int (maskN c)), ("parts", .lst ((drop1 c).map maskIt))]))
    cases decide ((drop1 c).filter (flwI h) = []) with
    | false => exact x_nil
    | true =>
      have e : σD (L ++ [c]) = (σD L).set 2 (.list (L.map fIt ++ [fIt c])) := by rw [show L.map fIt ++ [fIt c] = (L ++ [c]).map fIt by simp]; rfl
      refine x_cons_next (σ₁ := σD (L ++ [c])) (x_Expr (a := .none) (by rfl) ?_) x_nil
      rw [e]
      exact v_append G.toGood (σ₁ := σD L) (σ₂ := σD L) (i := 2) (xs := L.map fIt) (ys := L.map fIt) (v := fIt c) (by rfl) (by rfl) (by rfl) (by decide) (rE0 G (by decide) 30 (by kernel_rfl)) rfl (v_evals_cons (by rfl) (rE0 G (by decide) 30 (by kernel_rfl)) v_evals_nil) rfl (by rw [List.length_map]; omega)
theorem rows_loop (G : Good8 (CX w hb)) (ds : V) (h : Int) (f : V) : ∀ (l L : List C3), L.length + l.length ≤ 1000 →
    (CX w hb).VFor 19 (fnA w.params 278).sc (locO ds h f) (forT (nth B278 6)) {} (l.map rowIt) (forB (nth B278 6)) (σD L) .next (locO ds h f) (σD (L ++ l.filter (dueI h)))
  | [], L, _ => by rw [List.filter_nil, List.append_nil]; exact f_nil
  | c :: l, L, hL => by
    rw [List.length_cons] at hL
    refine f_cons (fun h => by cases h) rfl rfl (row_step G ds h f c L (by omega)) (fun _ => rfl) (fun _ => ?_) (fun _ e => by cases e)
    have ih := rows_loop G ds h f l (if dueI h c then L ++ [c] else L) (by split <;> (try rw [List.length_append, List.length_singleton]) <;> omega)
    have e : (if dueI h c then L ++ [c] else L) ++ l.filter (dueI h) = L ++ (c :: l).filter (dueI h) := by
      rw [List.filter_cons]
      cases dueI h c <;> simp
    rw [e] at ih
    exact ih
/-- the four masks together -/
noncomputable def holdsI (c0 c1 c2 c3 : C3) : Int := Builtin.bitAnd (Builtin.bitAnd (Builtin.bitAnd (Builtin.bitAnd 255 (maskN c0)) (maskN c1)) (maskN c2)) (maskN c3)
noncomputable def dueL (h : Int) : List C3 := allC.filter (dueI h)
theorem co278 (G : Good8 (CX w hb)) (c0 c1 c2 c3 : C3) (σ : AS) : (CX w hb).VCallC 18 278 [.lst [fIt c0, fIt c1, fIt c2, fIt c3]] [] σ (.lst ((dueL (holdsI c0 c1 c2 c3)).map fIt)) σ := by
  refine c_pure G.toGood (fE (by decide)) (by decide) (loc := [("drawn", .lst [fIt c0, fIt c1, fIt c2, fIt c3])]) (by kernel_rfl) (by kernel_rfl) rfl rfl (fl := .ret (.own 2)) (τ := σD (dueL (holdsI c0 c1 c2 c3))) (loc' := locO (.lst [fIt c0, fIt c1, fIt c2, fIt c3]) (holdsI c0 c1 c2 c3) (.str (figS c3))) ?_ (by simp) rfl rfl
  rw [sh278]
  refine x_cons_next (loc₁ := [("drawn", .lst [fIt c0, fIt c1, fIt c2, fIt c3]), ("rows", .own 0)]) (σ₁ := [seedO]) (rEx G (by decide) 60 (by kernel_rfl)) ?_
  refine x_cons_next (loc₁ := [("drawn", .lst [fIt c0, fIt c1, fIt c2, fIt c3]), ("rows", rowsV), ("yes", .int 240)]) (σ₁ := [seedO]) (rEx G (by decide) 60 (by kernel_rfl)) ?_
  refine x_cons_next (loc₁ := [("drawn", .lst [fIt c0, fIt c1, fIt c2, fIt c3]), ("rows", rowsV), ("yes", .int 240), ("masks", .own 1)]) (σ₁ := [seedO, dictO]) (rEx G (by decide) 60 (by kernel_rfl)) ?_
  refine x_cons_next (loc₁ := locM (.lst [fIt c0, fIt c1, fIt c2, fIt c3]) 255) (σ₁ := [seedO, dictO]) (rEx G (by decide) 60 (by kernel_rfl)) ?_
  have m := fun (h : Int) (c : C3) => rExs G (d := 19) (by decide) 60 (map_at (r_masks w.params (.lst [fIt c0, fIt c1, fIt c2, fIt c3]) h) (mem_allC c))
  refine x_cons_next (loc₁ := locN (.lst [fIt c0, fIt c1, fIt c2, fIt c3]) (holdsI c0 c1 c2 c3) c3) (σ₁ := [seedO, dictO]) (x_For (σ₁ := [seedO, dictO]) (g := {}) (xs := [fIt c0, fIt c1, fIt c2, fIt c3]) (rI0 G (by decide) 30 (by kernel_rfl)) ?_) ?_
  · refine f_cons (fun h => by cases h) rfl rfl (m _ c0) (fun _ => rfl) (fun _ => ?_) (fun _ e => by cases e)
    refine f_cons (fun h => by cases h) rfl rfl (m _ c1) (fun _ => rfl) (fun _ => ?_) (fun _ e => by cases e)
    refine f_cons (fun h => by cases h) rfl rfl (m _ c2) (fun _ => rfl) (fun _ => ?_) (fun _ e => by cases e)
    refine f_cons (fun h => by cases h) rfl rfl (m _ c3) (fun _ => rfl) (fun _ => ?_) (fun _ e => by cases e)
    exact f_nil
  refine x_cons_next (loc₁ := locO (.lst [fIt c0, fIt c1, fIt c2, fIt c3]) (holdsI c0 c1 c2 c3) (.str (figS c3))) (σ₁ := σD []) (rEx G (by decide) 30 (by kernel_rfl)) ?_
  refine x_cons_next (loc₁ := locO (.lst [fIt c0, fIt c1, fIt c2, fIt c3]) (holdsI c0 c1 c2 c3) (.str (figS c3))) (σ₁ := σD (dueL (holdsI c0 c1 c2 c3))) (x_For (σ₁ := σD []) (g := {}) (xs := allC.map rowIt) (rI0 G (by decide) 30 (by kernel_rfl)) (rows_loop G _ _ _ allC [] (by decide))) ?_
  exact x_cons_out (by simp) (x_Return (rE0 G (by decide) 30 (by kernel_rfl)))
end
end Mine
end

-- part M80
section
set_option maxHeartbeats 1000000
namespace Mine
open PySem PySem.W PyProof.Rows PySem.Calls PySem.Spec

noncomputable def comp175 : Expr := match nth B175 0 with | .Return (some e) _ => e | _ => .Name "" ⟨0, 0, 0, 0⟩
noncomputable def comp180 : Expr := match nth B180 0 with | .Return (some e) _ => e | _ => .Name "" ⟨0, 0, 0, 0⟩
noncomputable def dE : Expr := rhs (nth B283 1)
noncomputable def wE : Expr := rhs (nth B283 2)
noncomputable def upC (c : Int) : Bool := !decide ((c.fdiv 52).fmod 2 = 0)
noncomputable def upE : Expr := argK 1 (compE wE)
theorem itsEq_refl : ∀ xs : List It, (xs.all fun i => match i with | .at _ => true | _ => false) = true → itsEq xs xs = some true := by
  intro xs h
  unfold itsEq
  rw [if_pos rfl]
  induction xs with
  | nil => rfl
  | cons a r ih =>
    rw [List.all_cons, Bool.and_eq_true] at h
    have e := ih h.2
    cases a with
    | pair a b => cases h.1
    | «at» a =>
      cases a with
      | int i =>
        show (do let x ← some (decide (i = i)); let y ← itsAll r r; some (x && y)) = _
        rw [e]; simp
      | str x =>
        show (do let x ← some (decide (x = x)); let y ← itsAll r r; some (x && y)) = _
        rw [e]; simp
noncomputable abbrev σA (r : List Nat) (n : Int) (Q all : List It) : AS := lexσ r n Q ++ [.inst 223 hF, .list all]
theorem okA (r : List Nat) (n : Int) (Q all : List It) : okSrc (σA r n Q all) { own := some (5, all) } = true := itsSame_refl all
section
variable {w : World} {hb : Heap}
theorem comp_k (G : Good8 (CX w hb)) (r : List Nat) (n : Int) (Q all : List It) : ∀ l : List (Bool × C3),
    (CX w hb).VComp 19 (relab (compS comp175)) [] (compE comp175) (compG comp175) [] { own := some (5, all) } (l.map hIt) (σA r n Q all) (l.map qIt) (σA r n Q all)
  | [] => cp_nil
  | p :: l => cp_last (here := [qIt p]) (b := true) (w := qIt p) (loc₁ := [("k", .str (spW p)), ("v", .str (figS p.2))]) (σ₁ := σA r n Q all) (σ₂ := σA r n Q all) (fun h => by cases h) rfl rfl (okA r n Q all) rfl t_nil (fun _ => ⟨rE0 G (by decide) 30 (by kernel_rfl), rfl⟩) (fun h => by cases h) (okA r n Q all) (comp_k G r n Q all l)
theorem comp_v (G : Good8 (CX w hb)) (r : List Nat) (n : Int) (Q all : List It) : ∀ l : List (Bool × C3),
    (CX w hb).VComp 19 (relab (compS comp180)) [] (compE comp180) (compG comp180) [] { own := some (5, all) } (l.map hIt) (σA r n Q all) (l.map fun p : Bool × C3 => fIt p.2) (σA r n Q all)
  | [] => cp_nil
  | p :: l => cp_last (here := [fIt p.2]) (b := true) (w := fIt p.2) (loc₁ := [("k", .str (spW p)), ("v", .str (figS p.2))]) (σ₁ := σA r n Q all) (σ₂ := σA r n Q all) (fun h => by cases h) rfl rfl (okA r n Q all) rfl t_nil (fun _ => ⟨rE0 G (by decide) 30 (by kernel_rfl), rfl⟩) (fun h => by cases h) (okA r n Q all) (comp_v G r n Q all l)
theorem co175 (G : Good8 (CX w hb)) (r : List Nat) (n : Int) (Q : List It) (H : List (Bool × C3)) (hH : H.length ≤ 1000) : (CX w hb).VCallC 18 175 [.own 4] [] (σH r n Q H) (.lst (H.map qIt)) (σH r n Q H) := by
  refine c_inl G.toGood (fE (by decide)) (by decide) (fl := .ret (.lst (H.map qIt))) (loc := [("self", .own 4)]) (loc' := [("self", .own 4)]) (by kernel_rfl) (by kernel_rfl) ?_ (by simp)
  rw [sh175]
  exact x_cons_out (by simp) (x_Return (v_ListComp (σ₁ := σH r n Q H) (items := H.map hIt) (src := { own := some (5, H.map hIt) }) (by kernel_rfl) (rI0 G (by decide) 30 (by kernel_rfl)) (comp_k G r n Q _ H) (by rw [List.length_map]; omega)))
theorem co180 (G : Good8 (CX w hb)) (r : List Nat) (n : Int) (Q : List It) (H : List (Bool × C3)) (hH : H.length ≤ 1000) : (CX w hb).VCallC 18 180 [.own 4] [] (σH r n Q H) (.lst (H.map fun p : Bool × C3 => fIt p.2)) (σH r n Q H) := by
  refine c_inl G.toGood (fE (by decide)) (by decide) (fl := .ret (.lst (H.map fun p : Bool × C3 => fIt p.2))) (loc := [("self", .own 4)]) (loc' := [("self", .own 4)]) (by kernel_rfl) (by kernel_rfl) ?_ (by simp)
  rw [sh180]
  exact x_cons_out (by simp) (x_Return (v_ListComp (σ₁ := σH r n Q H) (items := H.map hIt) (src := { own := some (5, H.map hIt) }) (by kernel_rfl) (rI0 G (by decide) 30 (by kernel_rfl)) (comp_v G r n Q _ H) (by rw [List.length_map]; omega)))
theorem comp_drawn (G : Good8 (CX w hb)) (σ : AS) : ∀ l : List Int,
    (CX w hb).VComp 18 (relab (compS dE)) [] (compE dE) (compG dE) [] {} (l.map iV) σ (l.map fun c => fIt (drawnC c)) σ
  | [] => cp_nil
  | c :: l => cp_last (here := [fIt (drawnC c)]) (b := true) (w := fIt (drawnC c)) (loc₁ := [("cell", .int c)]) (σ₁ := σ) (σ₂ := σ) (fun h => by cases h) rfl rfl rfl rfl t_nil (fun _ => ⟨v_CallName G.toGood (f := .val (.ref 239)) (vs := [.int c]) (by rfl) (by rfl) (rE0 G (by decide) 30 (by kernel_rfl)) (run_sound G 30 18 (by decide) (.evals _ _ _) σ (.vs _) σ (by kernel_rfl)) ((co239 G c σ).below (by decide) (by decide)).call, rfl⟩) (fun h => by cases h) rfl (comp_drawn G σ l)
theorem up_eval (G : Good8 (CX w hb)) (σ : AS) (f : V) (c : Int) : (CX w hb).VEval 18 (relab (compS wE)) [("figures", f), ("cell", .int c)] upE σ (.str (lettersS (upC c))) σ := by
  refine v_IfExp (c := decide ((c.fdiv 52).fmod 2 = 0)) (σ₁ := σ) (rC0 G (by decide) 30 (by kernel_rfl)) ?_
  unfold upC
  cases decide ((c.fdiv 52).fmod 2 = 0)
  · exact rE0 G (by decide) 30 (by kernel_rfl)
  · exact rE0 G (by decide) 30 (by kernel_rfl)
noncomputable abbrev wordC (c : Int) : Bool × C3 := (upC c, drawnC c)
theorem comp_words (G : Good8 (CX w hb)) (σ : AS) : ∀ l : List Int,
    (CX w hb).VComp 18 (relab (compS wE)) [] (compE wE) (compG wE) [] { short := true } (l.map fun c => .pair (.str (figS (drawnC c))) (.int c)) σ (l.map fun c => qIt (wordC c)) σ
  | [] => cp_nil
  | c :: l => cp_last (here := [qIt (wordC c)]) (b := true) (w := qIt (wordC c)) (loc₁ := [("figures", .str (figS (drawnC c))), ("cell", .int c)]) (σ₁ := σ) (σ₂ := σ) (fun _ => rfl) rfl rfl rfl rfl t_nil
      (fun _ => ⟨v_CallName G.toGood (f := .val (.ref 244)) (vs := [.str (figS (drawnC c)), .str (lettersS (upC c))]) (by rfl) (by rfl) (rE0 G (by decide) 30 (by kernel_rfl)) (v_evals_cons (by rfl) (rE0 G (by decide) 30 (by kernel_rfl)) (v_evals_cons (by rfl) (up_eval G σ _ c) v_evals_nil)) ((co244 G (upC c) (drawnC c) σ).below (by decide) (by decide)).call, rfl⟩) (fun h => by cases h) rfl (comp_words G σ l)
end
end Mine
end

-- part M81
section
set_option maxHeartbeats 1000000
namespace Mine
open PySem PySem.W PyProof.Rows PySem.Calls PySem.Spec

/-- the plain law of what is kept -/
noncomputable def KeptLaw : Prop := ∀ p0 p1 p2 p3 : Bool × C3, ∃ H : List (Bool × C3), Kept p0 ([p1, p2, p3], []) H ∧ H.length < 64 ∧ sortS (H.map fun p => figS p.2) = (dueL (holdsI p0.2 p1.2 p2.2 p3.2)).map figS
noncomputable def tokE : Expr := cmpL (ifT (nth B283 4))
noncomputable def orL : Expr → Expr | .BoolOp _ (a :: _) _ => a | e => e
noncomputable def orR : Expr → Expr | .BoolOp _ [_, b] _ => b | e => e
noncomputable def figE : Expr := cmpL (orR (ifT (nth B283 6)))
noncomputable abbrev vC (a b c e : Int) : V := .lst [iV a, iV b, iV c, iV e]
noncomputable abbrev vD (a b c e : Int) : V := .lst [fIt (drawnC a), fIt (drawnC b), fIt (drawnC c), fIt (drawnC e)]
noncomputable abbrev vW (a b c e : Int) : V := .lst [qIt (wordC a), qIt (wordC b), qIt (wordC c), qIt (wordC e)]
noncomputable abbrev L3 (s : V) (a b c e : Int) : Loc := [("script", s), ("cells", vC a b c e), ("drawn", vD a b c e), ("words", vW a b c e)]
noncomputable abbrev L4 (s : V) (a b c e : Int) : Loc := [("script", s), ("cells", vC a b c e), ("drawn", vD a b c e), ("words", vW a b c e), ("line", .own 2)]
noncomputable abbrev L5 (s : V) (a b c e : Int) : Loc := [("script", s), ("cells", vC a b c e), ("drawn", vD a b c e), ("words", vW a b c e), ("line", .own 2), ("table", .own 4)]
theorem figs_mapM : ∀ H : List (Bool × C3), (H.map fun p : Bool × C3 => fIt p.2).mapM asStr = some (H.map fun p => figS p.2)
  | [] => rfl
  | p :: H => by
    have ih := figs_mapM H
    rw [List.map_cons, List.mapM_cons, ih]
    rfl
theorem end_line (q0 q1 q2 q3 : Bool) : (if q3 then addN q2 q3 (addN q1 q2 (addN q0 q1 (addN false q0 1))) + 1 else addN q2 q3 (addN q1 q2 (addN q0 q1 (addN false q0 1)))) = 5 := by
  cases q0 <;> cases q1 <;> cases q2 <;> cases q3 <;> rfl
theorem ne_same (l : List It) (h : (l.all fun i => match i with | .at _ => true | _ => false) = true) : cmp .NotEq (.lst l) (.lst l) = some false := by
  show (itsEq l l).map (!·) = _
  rw [itsEq_refl l h]; rfl
section
variable {w : World} {hb : Heap}
theorem comp_names (G : Good8 (CX w hb)) (σ : AS) : ∀ l : List (Bool × C3),
    (CX w hb).VComp 18 (relab (compS figE)) [] (compE figE) (compG figE) [] {} (l.map qIt) σ (l.map fun p : Bool × C3 => fIt p.2) σ
  | [] => cp_nil
  | p :: l => cp_last (here := [fIt p.2]) (b := true) (w := fIt p.2) (loc₁ := [("name", .str (spW p))]) (σ₁ := σ) (σ₂ := σ) (fun h => by cases h) rfl rfl rfl rfl t_nil (fun _ => ⟨v_CallName G.toGood (f := .val (.ref 263)) (vs := [.str (spW p)]) (by rfl) (by rfl) (rE0 G (by decide) 30 (by kernel_rfl)) (run_sound G 30 18 (by decide) (.evals _ _ _) σ (.vs _) σ (by kernel_rfl)) ((co263 G p.1 p.2 σ).below (by decide) (by decide)).call, rfl⟩) (fun h => by cases h) rfl (comp_names G σ l)
theorem law_go (G : Good8 (CX w hb)) (K : KeptLaw) (xs : List Int) (hn : xs.length ≤ 63) : ∃ σ' n, σ'[0]? = some (.tbl n) ∧ (CX w hb).VCallC 17 283 [scriptV xs] [] [.tbl 0] (.bool true) σ' := by
  obtain ⟨a, b, c, e, ha, hb', hc, he, cells⟩ := co232 G xs hn [.tbl 0]
  obtain ⟨H, kept, hH, sorted⟩ := K (wordC a) (wordC b) (wordC c) (wordC e)
  let st : Int := a + (b + (c + (e + 0)))
  let q0 := flagK 0 st
  let q1 := flagK 1 st
  let q2 := flagK 2 st
  let q3 := flagK 3 st
  let n1 := addN false q0 1
  let n2 := addN q0 q1 n1
  let n3 := addN q1 q2 n2
  let n4 := addN q2 q3 n3
  let T0 := encL q0 (spellL (wordC a).1 (wordC a).2)
  let T1 := encL q1 (spellL (wordC b).1 (wordC b).2)
  let T2 := encL q2 (spellL (wordC c).1 (wordC c).2)
  let T3 := encL q3 (spellL (wordC e).1 (wordC e).2)
  have k0 : T0.length ≤ 20 := enc_len q0 (wordC a)
  have k1 : T1.length ≤ 20 := enc_len q1 (wordC b)
  have k2 : T2.length ≤ 20 := enc_len q2 (wordC c)
  have k3 : T3.length ≤ 20 := enc_len q3 (wordC e)
  have hfin : (if q3 then n4 + 1 else n4) = 5 := end_line q0 q1 q2 q3
  have tail : ∀ q, pendL q ++ ([] : List Nat) = pendL q := fun q => List.append_nil _
  -- the four words off the line
  have w0 := ((co76 G false q0 (wordC a) (T1 ++ (T2 ++ (T3 ++ []))) 1).below (d := 18) (by decide) (by decide)).call
  have w1 := ((co76 G q0 q1 (wordC b) (T2 ++ (T3 ++ [])) n1).below (d := 18) (by decide) (by decide)).call
  have w2 := ((co76 G q1 q2 (wordC c) (T3 ++ []) n2).below (d := 18) (by decide) (by decide)).call
  have w3 := ((co76 G q2 q3 (wordC e) [] n3).below (d := 18) (by decide) (by decide)).call
  have text : T0 ++ T1 ++ T2 ++ T3 = pendL false ++ (T0 ++ (T1 ++ (T2 ++ (T3 ++ [])))) := by
    show _ = [] ++ _
    simp only [List.nil_append, List.append_nil, List.append_assoc]
  rw [tail q3] at w3
  have kp := co273 G (wordC a) (wordC b) (wordC c) (wordC e) q3 n4 kept
  rw [hfin] at kp
  have k175 := (co175 G [] 5 [] H (by omega)).below (d := 18) (by decide) (by decide)
  have k180 := (co180 G [] 5 [] H (by omega)).below (d := 18) (by decide) (by decide)
  refine ⟨σK [] 5 ([], H), 2, rfl, ?_⟩
  refine c_inl G.toGood (fE (by decide)) (by decide) (fl := .ret (.bool true)) (loc := [("script", scriptV xs)]) (loc' := L5 (scriptV xs) a b c e) (by kernel_rfl) (by kernel_rfl) ?_ (by simp)
  rw [sh283]
  refine x_cons_next (loc₁ := [("script", scriptV xs), ("cells", vC a b c e)]) (σ₁ := [.tbl 0]) (x_AssignName (v := vC a b c e) (by rfl) (v_CallName G.toGood (f := .val (.ref 232)) (vs := [scriptV xs, .lst [iV 3, iV 36, iV 14, iV 38]]) (by rfl) (by rfl) (rE0 G (by decide) 30 (by kernel_rfl)) (run_sound G 30 18 (by decide) (.evals _ _ _) [.tbl 0] (.vs _) [.tbl 0] (by kernel_rfl)) (cells.below (by decide) (by decide)).call) (by kernel_rfl)) ?_
  refine x_cons_next (loc₁ := [("script", scriptV xs), ("cells", vC a b c e), ("drawn", vD a b c e)]) (σ₁ := [.tbl 0]) (x_AssignComp (σ₁ := [.tbl 0]) (items := [iV a, iV b, iV c, iV e]) (src := {}) (by kernel_rfl) (rI0 G (by decide) 30 (by kernel_rfl)) (comp_drawn G [.tbl 0] [a, b, c, e]) (by simp) (by kernel_rfl)) ?_
  refine x_cons_next (loc₁ := L3 (scriptV xs) a b c e) (σ₁ := [.tbl 0]) (x_AssignComp (σ₁ := [.tbl 0]) (items := [a, b, c, e].map fun c : Int => .pair (.str (figS (drawnC c))) (.int c)) (src := { short := true }) (by kernel_rfl) (rI0 G (by decide) 30 (by kernel_rfl)) (comp_words G [.tbl 0] [a, b, c, e]) (by simp) (by kernel_rfl)) ?_
  have written : (CX w hb).VEval 18 (fnA w.params 283).sc (L3 (scriptV xs) a b c e) (argK 0 (rhs (nth B283 3))) [.tbl 0] (.str (txt (T0 ++ T1 ++ T2 ++ T3))) [.tbl 0] := by
    refine v_CallName G.toGood (f := .val (.ref 249)) (vs := [vW a b c e, .int st]) (by rfl) (by rfl) (rE0 G (by decide) 30 (by kernel_rfl)) (v_evals_cons (by rfl) (rE0 G (by decide) 30 (by kernel_rfl)) (v_evals_cons (by rfl) (v_CallName G.toGood (f := .val (.builtin "sum")) (vs := [vC a b c e]) (by rfl) (by rfl) (rE0 G (by decide) 30 (by kernel_rfl)) (run_sound G 30 18 (by decide) (.evals _ _ _) [.tbl 0] (.vs _) [.tbl 0] (by kernel_rfl)) (c_sum (by simp) ?_ (by rfl))) v_evals_nil)) (co249 G (wordC a) (wordC b) (wordC c) (wordC e) st [.tbl 0]).call
    simp only [List.all_cons, List.all_nil, Bool.and_true, Bool.and_eq_true]
    exact ⟨decide_eq_true (by omega), decide_eq_true (by omega), decide_eq_true (by omega), decide_eq_true (by omega)⟩
  have made := (co256 G (T0 ++ T1 ++ T2 ++ T3) (by simp only [List.length_append]; omega)).below (d := 18) (by decide) (by decide)
  rw [text] at written made
  refine x_cons_next (loc₁ := L4 (scriptV xs) a b c e) (σ₁ := lexσ (pendL false ++ (T0 ++ (T1 ++ (T2 ++ (T3 ++ []))))) 1 []) (x_AssignName (v := .own 2) (by rfl) (v_CallName G.toGood (f := .val (.ref 256)) (vs := [.str (txt (pendL false ++ (T0 ++ (T1 ++ (T2 ++ (T3 ++ []))))))]) (by rfl) (by rfl) (rE0 G (by decide) 30 (by kernel_rfl)) (v_evals_cons (by rfl) written v_evals_nil) made.call) (by kernel_rfl)) ?_
  have tok : ∀ (k : Nat) {r r' : List Nat} {n n' : Int} {x : Str}, (CX w hb).VCall 18 (.val (.ref 76)) [.own 2] [] (lexσ r n []) (.str x) (lexσ r' n' []) → (CX w hb).VEval 18 (relab (compS tokE)) [("line", .own 2), ("k", .int (Int.ofNat k))] (compE tokE) (lexσ r n []) (.str x) (lexσ r' n' []) := fun k r r' n n' x h =>
    v_Meth (σ₁ := lexσ r n []) (σ₂ := lexσ r n []) (i := 2) (C := 86) (f := 76) (fs := lexF n) (vs := []) G.toGood4 (by rfl) (by rfl) (by rfl) (by decide) (rE0 G (by decide) 30 (by kernel_rfl)) rfl (by kernel_rfl) (by kernel_rfl) v_evals_nil h
  have comp4 : (CX w hb).VComp 18 (relab (compS tokE)) [("line", .own 2)] (compE tokE) (compG tokE) [] {} [iN 0, iN 1, iN 2, iN 3] (lexσ (pendL false ++ (T0 ++ (T1 ++ (T2 ++ (T3 ++ []))))) 1 []) [qIt (wordC a), qIt (wordC b), qIt (wordC c), qIt (wordC e)] (lexσ (pendL q3) n4 []) := by
    refine cp_last (here := [_]) (b := true) (loc₁ := [("line", .own 2), ("k", .int (Int.ofNat 0))]) (σ₂ := lexσ (pendL q0 ++ (T1 ++ (T2 ++ (T3 ++ [])))) n1 []) (fun h => by cases h) rfl rfl rfl rfl t_nil (fun _ => ⟨tok 0 w0, rfl⟩) (fun h => by cases h) rfl ?_
    refine cp_last (here := [_]) (b := true) (loc₁ := [("line", .own 2), ("k", .int (Int.ofNat 1))]) (σ₂ := lexσ (pendL q1 ++ (T2 ++ (T3 ++ []))) n2 []) (fun h => by cases h) rfl rfl rfl rfl t_nil (fun _ => ⟨tok 1 w1, rfl⟩) (fun h => by cases h) rfl ?_
    refine cp_last (here := [_]) (b := true) (loc₁ := [("line", .own 2), ("k", .int (Int.ofNat 2))]) (σ₂ := lexσ (pendL q2 ++ (T3 ++ [])) n3 []) (fun h => by cases h) rfl rfl rfl rfl t_nil (fun _ => ⟨tok 2 w2, rfl⟩) (fun h => by cases h) rfl ?_
    refine cp_last (here := [_]) (b := true) (loc₁ := [("line", .own 2), ("k", .int (Int.ofNat 3))]) (σ₂ := lexσ (pendL q3) n4 []) (fun h => by cases h) rfl rfl rfl rfl t_nil (fun _ => ⟨tok 3 w3, rfl⟩) (fun h => by cases h) rfl ?_
    exact cp_nil
  have same : ∀ l : List (Bool × C3), cmp .NotEq (.lst (l.map fun p : Bool × C3 => fIt p.2)) (.lst (l.map fun p : Bool × C3 => fIt p.2)) = some false := fun l => ne_same _ (by simp)
  have sameW : cmp .NotEq (vW a b c e) (vW a b c e) = some false := ne_same _ (by simp)
  have cond4 : (CX w hb).VCond 18 (fnA w.params 283).sc (L4 (scriptV xs) a b c e) (ifT (nth B283 4)) (lexσ (pendL false ++ (T0 ++ (T1 ++ (T2 ++ (T3 ++ []))))) 1 []) false (lexσ (pendL q3) n4 []) :=
    c_Compare (x := vW a b c e) (y := vW a b c e) (σ₁ := lexσ (pendL q3) n4 []) rfl (v_ListComp (σ₁ := lexσ (pendL false ++ (T0 ++ (T1 ++ (T2 ++ (T3 ++ []))))) 1 []) (items := [iN 0, iN 1, iN 2, iN 3]) (src := {}) (by kernel_rfl) (rI0 G (by decide) 30 (by kernel_rfl)) comp4 (by simp)) (rE0 G (by decide) 30 (by kernel_rfl)) sameW
  refine x_cons_next (loc₁ := L4 (scriptV xs) a b c e) (σ₁ := lexσ (pendL q3) n4 []) (x_If (c := false) cond4 x_nil) ?_
  refine x_cons_next (loc₁ := L5 (scriptV xs) a b c e) (σ₁ := σK [] 5 ([], H)) (x_AssignName (v := .own 4) (by rfl) (v_CallName G.toGood (f := .val (.ref 273)) (vs := [.own 2, vW a b c e]) (by rfl) (by rfl) (rE0 G (by decide) 30 (by kernel_rfl)) (run_sound G 30 18 (by decide) (.evals _ _ _) (lexσ (pendL q3) n4 []) (.vs _) (lexσ (pendL q3) n4 []) (by kernel_rfl)) kp.call) (by kernel_rfl)) ?_
  have vals : ∀ p1 p2 p3 : Pos, (p2.endLine == p3.line) = true → (CX w hb).VEval 18 (fnA w.params 283).sc (L5 (scriptV xs) a b c e) (.Call (.Attribute (.Name "table" p1) "values" p2) [] [] p3) (σK [] 5 ([], H)) (.lst (H.map fun p : Bool × C3 => fIt p.2)) (σK [] 5 ([], H)) := fun p1 p2 p3 hp =>
    v_Meth (σ₁ := σK [] 5 ([], H)) (σ₂ := σK [] 5 ([], H)) (i := 4) (C := 223) (f := 180) (fs := hF) (vs := []) G.toGood4 (by rfl) (by rfl) hp (by decide) (rE0 G (by decide) 30 (by kernel_rfl)) rfl (by kernel_rfl) (by kernel_rfl) v_evals_nil k180.call
  have cond6 : (CX w hb).VCond 18 (fnA w.params 283).sc (L5 (scriptV xs) a b c e) (ifT (nth B283 6)) (σK [] 5 ([], H)) false (σK [] 5 ([], H)) := by
    refine c_Or (c1 := false) (σ₁ := σK [] 5 ([], H)) (rC0 G (by decide) 30 (by kernel_rfl)) (fun _ => ?_) (fun h => by cases h)
    refine c_Compare (x := .lst (H.map fun p : Bool × C3 => fIt p.2)) (y := .lst (H.map fun p : Bool × C3 => fIt p.2)) (σ₁ := σK [] 5 ([], H)) rfl (v_ListComp (σ₁ := σK [] 5 ([], H)) (items := H.map qIt) (src := {}) (by kernel_rfl) (i_lst rfl ?_) (comp_names G (σK [] 5 ([], H)) H) (by rw [List.length_map]; omega)) (vals _ _ _ rfl) (same H)
    exact v_Meth (σ₁ := σK [] 5 ([], H)) (σ₂ := σK [] 5 ([], H)) (i := 4) (C := 223) (f := 175) (fs := hF) (vs := []) G.toGood4 (by rfl) (by rfl) (by rfl) (by decide) (rE0 G (by decide) 30 (by kernel_rfl)) rfl (by kernel_rfl) (by kernel_rfl) v_evals_nil k175.call
  refine x_cons_next (loc₁ := L5 (scriptV xs) a b c e) (σ₁ := σK [] 5 ([], H)) (x_If (c := false) cond6 x_nil) ?_
  have fin : ((sortS (H.map fun p => figS p.2)).map fun x => It.at (.str x)) = (dueL (holdsI (drawnC a) (drawnC b) (drawnC c) (drawnC e))).map fIt := by
    rw [sorted, List.map_map]; rfl
  refine x_cons_out (by simp) (x_Return (v_Compare (x := .lst ((sortS (H.map fun p => figS p.2)).map fun x => It.at (.str x))) (y := .lst ((dueL (holdsI (drawnC a) (drawnC b) (drawnC c) (drawnC e))).map fIt)) (σ₁ := σK [] 5 ([], H)) rfl
    (v_CallName G.toGood (f := .val (.builtin "sorted")) (vs := [.lst (H.map fun p : Bool × C3 => fIt p.2)]) (by rfl) (by rfl) (rE0 G (by decide) 30 (by kernel_rfl)) (v_evals_cons (by rfl) (vals _ _ _ rfl) v_evals_nil) (c_sorted (figs_mapM H) (by rw [List.length_map]; exact hH)))
    (v_CallName G.toGood (f := .val (.ref 278)) (vs := [vD a b c e]) (by rfl) (by rfl) (rE0 G (by decide) 30 (by kernel_rfl)) (run_sound G 30 18 (by decide) (.evals _ _ _) (σK [] 5 ([], H)) (.vs _) (σK [] 5 ([], H)) (by kernel_rfl)) (co278 G (drawnC a) (drawnC b) (drawnC c) (drawnC e) (σK [] 5 ([], H))).call) ?_))
  rw [fin]
  exact itsEq_refl _ (by simp)
end
theorem main_of (K : KeptLaw) : theMain := fun w hb G xs hn => by
  obtain ⟨σ', n, h, v⟩ := law_go G K xs hn
  exact ⟨σ', n, h, v.below (by decide) (by decide)⟩
end Mine
end

-- part M82
section
set_option maxHeartbeats 1000000
namespace Mine
open PySem PySem.W PyProof.Rows PySem.Calls PySem.Spec

-- clauses, place by place
noncomputable def partF (x y : Fin 3) : Bool := x == 0 || x == y
noncomputable def clN (x y : Fin 3) : Bool := (x == 1 && y == 2) || (x == 2 && y == 1)
noncomputable def joinF (x y : Fin 3) : Fin 3 := if clN x y then 0 else maxF x y
noncomputable def cnt (a b : C3) : Nat := (clN a.1 b.1).toNat + ((clN a.2.1 b.2.1).toNat + (clN a.2.2 b.2.2).toNat)
theorem clB_eq : ∀ x y : Fin 3, clB x y = clN x y := by decide
theorem partC_eq (a b : C3) : partC a b = (partF a.1 b.1 && partF a.2.1 b.2.1 && partF a.2.2 b.2.2) := rfl
theorem bothC_eq (a b : C3) : bothC a b = (joinF a.1 b.1, joinF a.2.1 b.2.1, joinF a.2.2 b.2.2) := by
  unfold bothC joinF
  rw [clB_eq, clB_eq, clB_eq]
theorem clL_cnt (a b : C3) : (clL a b).length = cnt a b := by
  unfold clL cnt
  rw [clB_eq, clB_eq, clB_eq]
  cases clN a.1 b.1 <;> cases clN a.2.1 b.2.1 <;> cases clN a.2.2 b.2.2 <;> rfl
theorem partF_refl : ∀ x : Fin 3, partF x x = true := by decide
theorem partF_trans : ∀ x y z : Fin 3, partF x y = true → partF y z = true → partF x z = true := by decide
theorem partF_anti : ∀ x y : Fin 3, partF x y = true → partF y x = true → x = y := by decide
theorem clN_symm : ∀ x y : Fin 3, clN x y = clN y x := by decide
theorem clN_self : ∀ x : Fin 3, clN x x = false := by decide
theorem joinF_symm : ∀ x y : Fin 3, joinF x y = joinF y x := by decide
theorem part_iff {a b : C3} : partC a b = true ↔ partF a.1 b.1 = true ∧ partF a.2.1 b.2.1 = true ∧ partF a.2.2 b.2.2 = true := by
  rw [partC_eq, Bool.and_eq_true, Bool.and_eq_true, and_assoc]
theorem part_refl (a : C3) : partC a a = true := part_iff.mpr ⟨partF_refl _, partF_refl _, partF_refl _⟩
theorem part_trans {a b c : C3} (h : partC a b = true) (k : partC b c = true) : partC a c = true := by
  obtain ⟨h1, h2, h3⟩ := part_iff.mp h
  obtain ⟨k1, k2, k3⟩ := part_iff.mp k
  exact part_iff.mpr ⟨partF_trans _ _ _ h1 k1, partF_trans _ _ _ h2 k2, partF_trans _ _ _ h3 k3⟩
theorem part_anti {a b : C3} (h : partC a b = true) (k : partC b a = true) : a = b := by
  obtain ⟨h1, h2, h3⟩ := part_iff.mp h
  obtain ⟨k1, k2, k3⟩ := part_iff.mp k
  exact Prod.ext (partF_anti _ _ h1 k1) (Prod.ext (partF_anti _ _ h2 k2) (partF_anti _ _ h3 k3))
theorem cnt_symm (a b : C3) : cnt a b = cnt b a := by
  unfold cnt
  rw [clN_symm a.1, clN_symm a.2.1, clN_symm a.2.2]
theorem cnt_self (a : C3) : cnt a a = 0 := by
  unfold cnt
  rw [clN_self, clN_self, clN_self]; rfl
theorem both_symm (a b : C3) : bothC a b = bothC b a := by
  rw [bothC_eq, bothC_eq, joinF_symm a.1, joinF_symm a.2.1, joinF_symm a.2.2]

-- settings: bit v of a clause's mask
noncomputable def sat (c : C3) (v : Nat) : Bool := (maskN c).testBit v
noncomputable def hN (c0 c1 c2 c3 : C3) : Nat := 255 &&& maskN c0 &&& maskN c1 &&& maskN c2 &&& maskN c3
theorem holds_eq (c0 c1 c2 c3 : C3) : holdsI c0 c1 c2 c3 = (hN c0 c1 c2 c3 : Int) := rfl
theorem bitAnd_nat (a b : Nat) : Builtin.bitAnd (a : Int) (b : Int) = ((a &&& b : Nat) : Int) := rfl
theorem flw_iff {h : Nat} (hh : h < 256) (c : C3) : flwI (h : Int) c = true ↔ ∀ v, v < 8 → h.testBit v = true → sat c v = true := by
  unfold flwI
  rw [decide_eq_true_iff, bitAnd_nat]
  constructor
  · intro e v _ hv
    have e : h &&& maskN c = h := by exact_mod_cast e
    have : (h &&& maskN c).testBit v = h.testBit v := by rw [e]
    rw [Nat.testBit_and, hv, Bool.true_and] at this
    exact this
  · intro H
    have e : h &&& maskN c = h := by
      refine Nat.eq_of_testBit_eq fun v => ?_
      rw [Nat.testBit_and]
      by_cases hv : v < 8
      · cases q : h.testBit v with
        | false => rfl
        | true => rw [Bool.true_and]; exact H v hv q
      · have : h.testBit v = false := Nat.testBit_lt_two_pow (Nat.lt_of_lt_of_le hh (show 2 ^ 8 ≤ 2 ^ v from Nat.pow_le_pow_right (by decide) (Nat.le_of_not_lt hv)))
        rw [this]; rfl
    rw [e]
theorem hN_lt (c0 c1 c2 c3 : C3) : hN c0 c1 c2 c3 < 256 := by
  unfold hN
  refine Nat.lt_of_le_of_lt Nat.and_le_left (Nat.lt_of_le_of_lt Nat.and_le_left (Nat.lt_of_le_of_lt Nat.and_le_left (Nat.lt_of_le_of_lt Nat.and_le_left (by decide))))
theorem hN_bit (c0 c1 c2 c3 : C3) {v : Nat} (hv : v < 8) : (hN c0 c1 c2 c3).testBit v = (sat c0 v && sat c1 v && sat c2 v && sat c3 v) := by
  unfold hN sat
  rw [Nat.testBit_and, Nat.testBit_and, Nat.testBit_and, Nat.testBit_and]
  have : (255 : Nat).testBit v = true := by
    have : ∀ v, v < 8 → (255 : Nat).testBit v = true := by decide
    exact this v hv
  rw [this, Bool.true_and]

-- finite facts
theorem all_two {f : C3 → C3 → Bool} (h : (allC.all fun a => allC.all fun b => f a b) = true) (a b : C3) : f a b = true := List.all_eq_true.mp (List.all_eq_true.mp h a (mem_allC a)) b (mem_allC b)
theorem imp_of {a b : Bool} (h : (!a || b) = true) (ha : a = true) : b = true := by rw [ha] at h; exact h
theorem sat_part {a b : C3} (h : partC a b = true) {v : Nat} (hv : v < 8) (s : sat a v = true) : sat b v = true := by
  have k : (allC.all fun a => allC.all fun b => !partC a b || (List.range 8).all fun v => !sat a v || sat b v) = true := by decide +kernel
  exact imp_of (List.all_eq_true.mp (imp_of (all_two k a b) h) v (List.mem_range.mpr hv)) s
theorem sat_both {a b : C3} (h : cnt a b = 1) {v : Nat} (hv : v < 8) (s : sat a v = true) (t : sat b v = true) : sat (bothC a b) v = true := by
  have k : (allC.all fun a => allC.all fun b => !(cnt a b == 1) || (List.range 8).all fun v => !(sat a v && sat b v) || sat (joinF a.1 b.1, joinF a.2.1 b.2.1, joinF a.2.2 b.2.2) v) = true := by decide +kernel
  rw [bothC_eq]
  exact imp_of (List.all_eq_true.mp (imp_of (all_two k a b) (beq_iff_eq.mpr h)) v (List.mem_range.mpr hv)) (by rw [s, t]; rfl)
noncomputable def fullC (e : C3) : Bool := e.1 != 0 && e.2.1 != 0 && e.2.2 != 0
theorem sat_full {e : C3} (h : fullC e = true) : ∃ v, v < 8 ∧ sat e v = false ∧ ∀ d, sat d v = false → partC d e = true := by
  have k : (allC.all fun e => !fullC e || (List.range 8).any fun v => !sat e v && allC.all fun d => sat d v || partC d e) = true := by decide +kernel
  obtain ⟨v, hv, r⟩ := List.any_eq_true.mp (imp_of (List.all_eq_true.mp k e (mem_allC e)) h)
  rw [Bool.and_eq_true] at r
  refine ⟨v, List.mem_range.mp hv, by simpa using r.1, fun d hd => ?_⟩
  have := List.all_eq_true.mp r.2 d (mem_allC d)
  rw [hd, Bool.false_or] at this
  exact this
-- filling in a letter
theorem fillF : ∀ x y z : Fin 3, partF x z = true → partF y z = true → clN x y = false ∧ partF (joinF x y) z = true := by decide
theorem fillK : ∀ x y : Fin 3, partF x 1 = true → partF y 2 = true → x ≠ 0 → y ≠ 0 → clN x y = true ∧ joinF x y = 0 := by decide
theorem partF_zero : ∀ x z : Fin 3, x = 0 → partF x z = true := by decide
theorem fill1 {a b : C3} {y z : Fin 3} (ha : partC a (1, y, z) = true) (hb : partC b (2, y, z) = true) : partC a (0, y, z) = true ∨ partC b (0, y, z) = true ∨ (cnt a b = 1 ∧ partC (bothC a b) (0, y, z) = true) := by
  obtain ⟨a1, a2, a3⟩ := part_iff.mp ha
  obtain ⟨b1, b2, b3⟩ := part_iff.mp hb
  by_cases h : a.1 = 0
  · exact .inl (part_iff.mpr ⟨partF_zero _ _ h, a2, a3⟩)
  by_cases k : b.1 = 0
  · exact .inr (.inl (part_iff.mpr ⟨partF_zero _ _ k, b2, b3⟩))
  obtain ⟨c1, j1⟩ := fillK _ _ a1 b1 h k
  obtain ⟨c2, j2⟩ := fillF _ _ _ a2 b2
  obtain ⟨c3, j3⟩ := fillF _ _ _ a3 b3
  refine .inr (.inr ⟨by unfold cnt; rw [c1, c2, c3]; rfl, ?_⟩)
  rw [bothC_eq]
  exact part_iff.mpr ⟨partF_zero _ _ j1, j2, j3⟩
theorem fill2 {a b : C3} {x z : Fin 3} (ha : partC a (x, 1, z) = true) (hb : partC b (x, 2, z) = true) : partC a (x, 0, z) = true ∨ partC b (x, 0, z) = true ∨ (cnt a b = 1 ∧ partC (bothC a b) (x, 0, z) = true) := by
  obtain ⟨a1, a2, a3⟩ := part_iff.mp ha
  obtain ⟨b1, b2, b3⟩ := part_iff.mp hb
  by_cases h : a.2.1 = 0
  · exact .inl (part_iff.mpr ⟨a1, partF_zero _ _ h, a3⟩)
  by_cases k : b.2.1 = 0
  · exact .inr (.inl (part_iff.mpr ⟨b1, partF_zero _ _ k, b3⟩))
  obtain ⟨c1, j1⟩ := fillK _ _ a2 b2 h k
  obtain ⟨c2, j2⟩ := fillF _ _ _ a1 b1
  obtain ⟨c3, j3⟩ := fillF _ _ _ a3 b3
  refine .inr (.inr ⟨by unfold cnt; rw [c1, c2, c3]; rfl, ?_⟩)
  rw [bothC_eq]
  exact part_iff.mpr ⟨j2, partF_zero _ _ j1, j3⟩
theorem fill3 {a b : C3} {x y : Fin 3} (ha : partC a (x, y, 1) = true) (hb : partC b (x, y, 2) = true) : partC a (x, y, 0) = true ∨ partC b (x, y, 0) = true ∨ (cnt a b = 1 ∧ partC (bothC a b) (x, y, 0) = true) := by
  obtain ⟨a1, a2, a3⟩ := part_iff.mp ha
  obtain ⟨b1, b2, b3⟩ := part_iff.mp hb
  by_cases h : a.2.2 = 0
  · exact .inl (part_iff.mpr ⟨a1, a2, partF_zero _ _ h⟩)
  by_cases k : b.2.2 = 0
  · exact .inr (.inl (part_iff.mpr ⟨b1, b2, partF_zero _ _ k⟩))
  obtain ⟨c1, j1⟩ := fillK _ _ a3 b3 h k
  obtain ⟨c2, j2⟩ := fillF _ _ _ a1 b1
  obtain ⟨c3, j3⟩ := fillF _ _ _ a2 b2
  refine .inr (.inr ⟨by unfold cnt; rw [c1, c2, c3]; rfl, ?_⟩)
  rw [bothC_eq]
  exact part_iff.mpr ⟨j2, j3, partF_zero _ _ j1⟩
end Mine
end

-- part M83
section
set_option maxHeartbeats 1000000
namespace Mine
open PySem PySem.W PyProof.Rows PySem.Calls PySem.Spec

/-- what holds of the clauses that wait (W) and the headers (H) -/
structure Inv (h : Nat) (D : C3 → Prop) (W H : List C3) : Prop where
  anti : ∀ a, a ∈ H → ∀ b, b ∈ H → partC a b = true → a = b
  nodup : H.Nodup
  sound : ∀ c, (c ∈ W ∨ c ∈ H) → flwI (h : Int) c = true
  cover : ∀ d, D d → ∃ o, (o ∈ W ∨ o ∈ H) ∧ partC o d = true
  cons : ∀ a, a ∈ H → ∀ b, b ∈ H → cnt a b = 1 → ∃ o, (o ∈ W ∨ o ∈ H) ∧ partC o (bothC a b) = true
section
variable {h : Nat} {D : C3 → Prop} {W H : List C3} {c : C3}
theorem Inv.skip (I : Inv h D (c :: W) H) {o : C3} (ho : o ∈ H) (hp : partC o c = true) : Inv h D W H := by
  have re : ∀ d, (∃ x, (x ∈ c :: W ∨ x ∈ H) ∧ partC x d = true) → ∃ x, (x ∈ W ∨ x ∈ H) ∧ partC x d = true := by
    rintro d ⟨x, hx, p⟩
    rcases hx with hx | hx
    · rcases List.mem_cons.mp hx with rfl | hx
      · exact ⟨o, .inr ho, part_trans hp p⟩
      · exact ⟨x, .inl hx, p⟩
    · exact ⟨x, .inr hx, p⟩
  exact ⟨I.anti, I.nodup, fun c hc => I.sound c (hc.imp (List.mem_cons_of_mem _) id), fun d hd => re d (I.cover d hd), fun a ha b hb k => re _ (I.cons a ha b hb k)⟩
theorem Inv.take (hh : h < 256) (I : Inv h D (c :: W) H) (hn : ∀ o, o ∈ H → partC o c = false) :
    Inv h D (W ++ (H.filter fun o => !partC c o && decide (cnt o c = 1)).map (bothC · c)) (H.filter (fun o => !partC c o) ++ [c]) := by
  have mH : ∀ x, x ∈ H.filter (fun o => !partC c o) ↔ x ∈ H ∧ partC c x = false := fun x => by rw [List.mem_filter]; simp
  have re : ∀ d, (∃ x, (x ∈ c :: W ∨ x ∈ H) ∧ partC x d = true) → ∃ x, (x ∈ W ++ (H.filter fun o => !partC c o && decide (cnt o c = 1)).map (bothC · c) ∨ x ∈ H.filter (fun o => !partC c o) ++ [c]) ∧ partC x d = true := by
    rintro d ⟨x, hx, p⟩
    rcases hx with hx | hx
    · rcases List.mem_cons.mp hx with rfl | hx
      · exact ⟨x, .inr (by simp), p⟩
      · exact ⟨x, .inl (List.mem_append_left _ hx), p⟩
    · cases q : partC c x with
      | true => exact ⟨c, .inr (by simp), part_trans q p⟩
      | false => exact ⟨x, .inr (List.mem_append_left _ ((mH x).mpr ⟨hx, q⟩)), p⟩
  have new : ∀ a, a ∈ H → partC c a = false → cnt a c = 1 → bothC a c ∈ W ++ (H.filter fun o => !partC c o && decide (cnt o c = 1)).map (bothC · c) := fun a ha hp hc =>
    List.mem_append_right _ (List.mem_map.mpr ⟨a, List.mem_filter.mpr ⟨ha, by simp [hp, hc]⟩, rfl⟩)
  refine ⟨fun a ha b hb p => ?_, ?_, fun x hx => ?_, fun d hd => re d (I.cover d hd), fun a ha b hb k => ?_⟩
  · rcases List.mem_append.mp ha with ha | ha <;> rcases List.mem_append.mp hb with hb | hb
    · exact I.anti a ((mH a).mp ha).1 b ((mH b).mp hb).1 p
    · rw [List.mem_singleton.mp hb] at p
      rw [hn a ((mH a).mp ha).1] at p; cases p
    · rw [List.mem_singleton.mp ha] at p
      rw [((mH b).mp hb).2] at p; cases p
    · rw [List.mem_singleton.mp ha, List.mem_singleton.mp hb]
  · refine List.nodup_append.mpr ⟨List.Nodup.sublist List.filter_sublist I.nodup, by simp, fun a ha b hb e => ?_⟩
    rw [List.mem_singleton.mp hb] at e
    have := ((mH a).mp ha).2
    rw [e, part_refl] at this; cases this
  · rcases hx with hx | hx
    · rcases List.mem_append.mp hx with hx | hx
      · exact I.sound x (.inl (List.mem_cons_of_mem _ hx))
      · obtain ⟨o, ho, rfl⟩ := List.mem_map.mp hx
        obtain ⟨ho, q⟩ := List.mem_filter.mp ho
        rw [Bool.and_eq_true, decide_eq_true_iff] at q
        have fo := (flw_iff hh o).mp (I.sound o (.inr ho))
        have fc := (flw_iff hh c).mp (I.sound c (.inl List.mem_cons_self))
        exact (flw_iff hh _).mpr fun v hv hb => sat_both q.2 hv (fo v hv hb) (fc v hv hb)
    · rcases List.mem_append.mp hx with hx | hx
      · exact I.sound x (.inr ((mH x).mp hx).1)
      · rw [List.mem_singleton.mp hx]; exact I.sound c (.inl List.mem_cons_self)
  · rcases List.mem_append.mp ha with ha | ha <;> rcases List.mem_append.mp hb with hb | hb
    · exact re _ (I.cons a ((mH a).mp ha).1 b ((mH b).mp hb).1 k)
    · rw [List.mem_singleton.mp hb] at k ⊢
      exact ⟨_, .inl (new a ((mH a).mp ha).1 ((mH a).mp ha).2 k), part_refl _⟩
    · rw [List.mem_singleton.mp ha] at k ⊢
      rw [both_symm]
      rw [cnt_symm] at k
      exact ⟨_, .inl (new b ((mH b).mp hb).1 ((mH b).mp hb).2 k), part_refl _⟩
    · rw [List.mem_singleton.mp ha, List.mem_singleton.mp hb, cnt_self] at k; cases k

/-- nothing waits: all that follows has a part among the headers -/
theorem Inv.complete {c0 c1 c2 c3 : C3} (hD : ∀ d, D d ↔ d = c0 ∨ d = c1 ∨ d = c2 ∨ d = c3) (I : Inv (hN c0 c1 c2 c3) D [] H) : ∀ e, flwI (hN c0 c1 c2 c3 : Int) e = true → ∃ o, o ∈ H ∧ partC o e = true := by
  have hh := hN_lt c0 c1 c2 c3
  have cov : ∀ d, D d → ∃ o, o ∈ H ∧ partC o d = true := fun d hd => by
    obtain ⟨o, ho, p⟩ := I.cover d hd
    exact ⟨o, ho.resolve_left (by simp), p⟩
  have con : ∀ a, a ∈ H → ∀ b, b ∈ H → cnt a b = 1 → ∃ o, o ∈ H ∧ partC o (bothC a b) = true := fun a ha b hb k => by
    obtain ⟨o, ho, p⟩ := I.cons a ha b hb k
    exact ⟨o, ho.resolve_left (by simp), p⟩
  have weak : ∀ a b, partC a b = true → flwI (hN c0 c1 c2 c3 : Int) a = true → flwI (hN c0 c1 c2 c3 : Int) b = true := fun a b p f =>
    (flw_iff hh b).mpr fun v hv hb => sat_part p hv ((flw_iff hh a).mp f v hv hb)
  have step : ∀ {t e e' : C3} {o o' : C3}, o ∈ H → o' ∈ H → (partC o t = true ∨ partC o' t = true ∨ (cnt o o' = 1 ∧ partC (bothC o o') t = true)) → ∃ x, x ∈ H ∧ partC x t = true := by
    intro t e e' o o' ho ho' r
    rcases r with r | r | ⟨r, p⟩
    · exact ⟨o, ho, r⟩
    · exact ⟨o', ho', r⟩
    · obtain ⟨x, hx, q⟩ := con o ho o' ho' r
      exact ⟨x, hx, part_trans q p⟩
  have full : ∀ e, fullC e = true → flwI (hN c0 c1 c2 c3 : Int) e = true → ∃ o, o ∈ H ∧ partC o e = true := by
    intro e he f
    obtain ⟨v, hv, s, k⟩ := sat_full he
    have nb : (hN c0 c1 c2 c3).testBit v = false := by
      cases q : (hN c0 c1 c2 c3).testBit v with
      | false => rfl
      | true => have := (flw_iff hh e).mp f v hv q; rw [s] at this; cases this
    rw [hN_bit _ _ _ _ hv] at nb
    have go : ∀ d, D d → sat d v = false → ∃ o, o ∈ H ∧ partC o e = true := fun d hd hs => by
      obtain ⟨o, ho, p⟩ := cov d hd
      exact ⟨o, ho, part_trans p (k d hs)⟩
    cases s0 : sat c0 v with
    | false => exact go c0 ((hD _).mpr (.inl rfl)) s0
    | true =>
      cases s1 : sat c1 v with
      | false => exact go c1 ((hD _).mpr (.inr (.inl rfl))) s1
      | true =>
        cases s2 : sat c2 v with
        | false => exact go c2 ((hD _).mpr (.inr (.inr (.inl rfl)))) s2
        | true =>
          cases s3 : sat c3 v with
          | false => exact go c3 ((hD _).mpr (.inr (.inr (.inr rfl)))) s3
          | true => rw [s0, s1, s2, s3] at nb; cases nb
  have three : ∀ x y z : Fin 3, x ≠ 0 → y ≠ 0 → flwI (hN c0 c1 c2 c3 : Int) (x, y, z) = true → ∃ o, o ∈ H ∧ partC o (x, y, z) = true := by
    intro x y z hx hy f
    by_cases hz : z = 0
    · subst hz
      obtain ⟨o, ho, p⟩ := full (x, y, 1) (by simp [fullC, hx, hy]) (weak (x, y, 0) _ (part_iff.mpr ⟨partF_refl _, partF_refl _, rfl⟩) f)
      obtain ⟨o', ho', p'⟩ := full (x, y, 2) (by simp [fullC, hx, hy]) (weak (x, y, 0) _ (part_iff.mpr ⟨partF_refl _, partF_refl _, rfl⟩) f)
      exact step (e := o) (e' := o) ho ho' (fill3 p p')
    · exact full (x, y, z) (by simp [fullC, hx, hy, hz]) f
  have two : ∀ x y z : Fin 3, x ≠ 0 → flwI (hN c0 c1 c2 c3 : Int) (x, y, z) = true → ∃ o, o ∈ H ∧ partC o (x, y, z) = true := by
    intro x y z hx f
    by_cases hy : y = 0
    · subst hy
      obtain ⟨o, ho, p⟩ := three x 1 z hx (by decide) (weak (x, 0, z) _ (part_iff.mpr ⟨partF_refl _, rfl, partF_refl _⟩) f)
      obtain ⟨o', ho', p'⟩ := three x 2 z hx (by decide) (weak (x, 0, z) _ (part_iff.mpr ⟨partF_refl _, rfl, partF_refl _⟩) f)
      exact step (e := o) (e' := o) ho ho' (fill2 p p')
    · exact three x y z hx hy f
  rintro ⟨x, y, z⟩ f
  by_cases hx : x = 0
  · subst hx
    obtain ⟨o, ho, p⟩ := two 1 y z (by decide) (weak (0, y, z) _ (part_iff.mpr ⟨rfl, partF_refl _, partF_refl _⟩) f)
    obtain ⟨o', ho', p'⟩ := two 2 y z (by decide) (weak (0, y, z) _ (part_iff.mpr ⟨rfl, partF_refl _, partF_refl _⟩) f)
    exact step (e := o) (e' := o) ho ho' (fill1 p p')
  · exact two x y z hx f
end
-- the least ones
theorem mem_drop1 {e c : C3} (h : e ∈ drop1 c) : partC e c = true ∧ e ≠ c := by
  have k : (allC.all fun c => (drop1 c).all fun e => partC e c && decide (e ≠ c)) = true := by decide +kernel
  have := List.all_eq_true.mp (List.all_eq_true.mp k c (mem_allC c)) e h
  rw [Bool.and_eq_true, decide_eq_true_iff] at this
  exact this
theorem drop1_between {o c : C3} (p : partC o c = true) (n : o ≠ c) : ∃ e, e ∈ drop1 c ∧ partC o e = true := by
  have k : (allC.all fun o => allC.all fun c => !(partC o c && decide (o ≠ c)) || (drop1 c).any fun e => partC o e) = true := by decide +kernel
  have := imp_of (all_two k o c) (by rw [p, decide_eq_true n]; rfl)
  exact List.any_eq_true.mp this
theorem Inv.due {c0 c1 c2 c3 : C3} {D : C3 → Prop} {H : List C3} (hD : ∀ d, D d ↔ d = c0 ∨ d = c1 ∨ d = c2 ∨ d = c3) (I : Inv (hN c0 c1 c2 c3) D [] H) (c : C3) : c ∈ dueL (holdsI c0 c1 c2 c3) ↔ c ∈ H := by
  have hh := hN_lt c0 c1 c2 c3
  rw [holds_eq]
  unfold dueL dueI
  rw [List.mem_filter, Bool.and_eq_true, decide_eq_true_iff, List.filter_eq_nil_iff]
  constructor
  · rintro ⟨_, f, m⟩
    obtain ⟨o, ho, p⟩ := I.complete hD c f
    by_cases e : o = c
    · exact e ▸ ho
    · obtain ⟨x, hx, q⟩ := drop1_between p e
      exact absurd ((flw_iff hh x).mpr fun v hv hb => sat_part q hv ((flw_iff hh o).mp (I.sound o (.inr ho)) v hv hb)) (m x hx)
  · intro hc
    refine ⟨mem_allC c, I.sound c (.inr hc), fun x hx f => ?_⟩
    obtain ⟨p, ne⟩ := mem_drop1 hx
    obtain ⟨o, ho, q⟩ := I.complete hD x f
    have := I.anti o ho c hc (part_trans q p)
    subst this
    exact ne (part_anti p q)
theorem allC_sorted : (allC.map figS).Pairwise LeS := by
  have k : (allC.map figS).Pairwise fun a b => leStr a b = true := by decide +kernel
  exact k.imp fun h => leStr_iff.mp h
theorem allC_nodup : allC.Nodup := by decide +kernel
theorem figS_inj {a b : C3} (h : figS a = figS b) : a = b := by
  have k : (allC.all fun a => allC.all fun b => !decide (figS a = figS b) || decide (a = b)) = true := by decide +kernel
  exact of_decide_eq_true (imp_of (all_two k a b) (decide_eq_true h))
theorem Inv.sorted {c0 c1 c2 c3 : C3} {D : C3 → Prop} {H : List C3} (hD : ∀ d, D d ↔ d = c0 ∨ d = c1 ∨ d = c2 ∨ d = c3) (I : Inv (hN c0 c1 c2 c3) D [] H) : sortS (H.map figS) = (dueL (holdsI c0 c1 c2 c3)).map figS := by
  have nd : (dueL (holdsI c0 c1 c2 c3)).Nodup := List.Nodup.sublist List.filter_sublist allC_nodup
  have pm : (dueL (holdsI c0 c1 c2 c3)).Perm H := (List.perm_ext_iff_of_nodup nd I.nodup).mpr (I.due hD)
  refine List.Perm.eq_of_pairwise (le := LeS) (fun a b _ _ => LeS.antisymm) (sortS_sorted _) ?_ ((sortS_perm _).trans (pm.map figS).symm)
  exact List.Pairwise.sublist (List.Sublist.map figS List.filter_sublist) allC_sorted
end Mine
end

-- part M84
section
set_option maxHeartbeats 1000000
namespace Mine
open PySem PySem.W PyProof.Rows PySem.Calls PySem.Spec

theorem allK_eq (c : C3) : ∀ (l : List (Bool × C3)) (Q H : List (Bool × C3)), allK c l (Q, H) =
    (Q ++ (l.filter fun o => !partC c o.2 && decide (cnt o.2 c = 1)).map (fun o => (true, bothC o.2 c)), H.filter fun o => !(l.any fun q => partC c q.2 && decide (q.2 = o.2)))
  | [], Q, H => by
    have e : (H.filter fun _ => true) = H := List.filter_eq_self.mpr fun _ _ => rfl
    simp [allK, e]
  | p :: l, Q, H => by
    unfold allK oneK
    rw [clL_cnt]
    cases hp : partC c p.2 with
    | true =>
      rw [if_pos rfl]
      dsimp only
      rw [allK_eq c l Q (cut p.2 H)]
      unfold cut
      rw [List.filter_filter, List.filter_cons, hp]
      congr 1
      refine List.filter_congr fun o _ => ?_
      rw [List.any_cons, hp, Bool.true_and, Bool.not_or, Bool.and_comm]
      congr 2
      exact decide_eq_decide.mpr eq_comm
    | false =>
      rw [if_neg (by simp)]
      have e : (H.filter fun o => !(l.any fun q => partC c q.2 && decide (q.2 = o.2))) = H.filter fun o => !((p :: l).any fun q => partC c q.2 && decide (q.2 = o.2)) := List.filter_congr fun o _ => by rw [List.any_cons, hp]; rfl
      by_cases hc : cnt p.2 c = 1
      · rw [if_pos hc]
        dsimp only
        rw [allK_eq c l (Q ++ [(true, bothC p.2 c)]) H, e, List.filter_cons, hp, hc]
        simp
      · rw [if_neg hc, allK_eq c l Q H, e, List.filter_cons, hp, decide_eq_false hc]
        simp
/-- how many clauses have a part among the headers -/
noncomputable def upN (H : List C3) : Nat := (allC.filter fun e => H.any fun o => partC o e).length
theorem upN_le (H : List C3) : upN H ≤ 27 := List.length_filter_le _ _
theorem filter_le {α : Type} {f g : α → Bool} (hfg : ∀ x, f x = true → g x = true) : ∀ l : List α, (l.filter f).length ≤ (l.filter g).length
  | [] => Nat.le_refl _
  | a :: l => by
    have ih := filter_le hfg l
    rw [List.filter_cons, List.filter_cons]
    cases q : f a with
    | true => rw [hfg a q]; simpa using ih
    | false =>
      cases g a
      · simpa using ih
      · simp only [Bool.false_eq_true, if_false, if_true, List.length_cons]; omega
theorem filter_lt {α : Type} {f g : α → Bool} (hfg : ∀ x, f x = true → g x = true) {a : α} (hf : f a = false) (hg : g a = true) : ∀ l : List α, a ∈ l → (l.filter f).length < (l.filter g).length
  | b :: l, h => by
    rw [List.filter_cons, List.filter_cons]
    rcases List.mem_cons.mp h with rfl | h
    · have := filter_le hfg l
      rw [hf, hg]
      simp only [Bool.false_eq_true, if_false, if_true, List.length_cons]
      omega
    · have ih := filter_lt hfg hf hg l h
      cases q : f b with
      | true => rw [hfg b q]; simpa using ih
      | false =>
        cases g b
        · simpa using ih
        · simp only [Bool.false_eq_true, if_false, if_true, List.length_cons]; omega
section
variable {h : Nat} {D : C3 → Prop}
noncomputable abbrev cl (l : List (Bool × C3)) : List C3 := l.map (·.2)
theorem step_inv (hh : h < 256) (p : Bool × C3) (s : KS) (I : Inv h D (p.2 :: cl s.1) (cl s.2)) :
    Inv h D (cl (stepH p s).1) (cl (stepH p s).2) ∧ (((stepH p s).1.length = s.1.length ∧ (stepH p s).2 = s.2) ∨ (upN (cl s.2) < upN (cl (stepH p s).2) ∧ (stepH p s).1.length ≤ s.1.length + s.2.length ∧ (stepH p s).2.length ≤ s.2.length + 1)) := by
  obtain ⟨Q, H⟩ := s
  unfold stepH
  by_cases hc : (H.filter fun o => partC o.2 p.2) = []
  · rw [if_pos hc]
    have hn : ∀ o, o ∈ cl H → partC o p.2 = false := by
      intro o ho
      obtain ⟨x, hx, rfl⟩ := List.mem_map.mp ho
      have := List.filter_eq_nil_iff.mp hc x hx
      simpa using this
    have e1 : allK p.2 H (Q, H) = (Q ++ (H.filter fun o => !partC p.2 o.2 && decide (cnt o.2 p.2 = 1)).map (fun o => (true, bothC o.2 p.2)), H.filter fun o => !partC p.2 o.2) := by
      rw [allK_eq]
      congr 1
      refine List.filter_congr fun o ho => ?_
      congr 1
      cases q : partC p.2 o.2 with
      | true => exact List.any_eq_true.mpr ⟨o, ho, by simp [q]⟩
      | false =>
        refine List.any_eq_false.mpr fun x _ => ?_
        rw [Bool.and_eq_true, decide_eq_true_iff]
        rintro ⟨a, b⟩
        rw [b, q] at a; cases a
    have e2 : cut p.2 (H.filter fun o => !partC p.2 o.2) = H.filter fun o => !partC p.2 o.2 := by
      unfold cut
      rw [List.filter_filter]
      refine List.filter_congr fun o _ => ?_
      by_cases q : o.2 = p.2
      · rw [q, part_refl]; simp
      · simp [q]
    rw [e1]
    dsimp only
    rw [e2]
    have m1 : cl (Q ++ (H.filter fun o => !partC p.2 o.2 && decide (cnt o.2 p.2 = 1)).map (fun o => (true, bothC o.2 p.2))) = cl Q ++ ((cl H).filter fun o => !partC p.2 o && decide (cnt o p.2 = 1)).map (bothC · p.2) := by
      unfold cl
      rw [List.map_append, List.map_map, List.filter_map, List.map_map]
      rfl
    have m2 : cl (H.filter (fun o => !partC p.2 o.2) ++ [p]) = (cl H).filter (fun o => !partC p.2 o) ++ [p.2] := by
      unfold cl
      rw [List.map_append, List.filter_map]
      rfl
    rw [m1, m2]
    refine ⟨I.take hh hn, .inr ⟨?_, ?_, ?_⟩⟩
    · refine filter_lt (a := p.2) (fun e he => ?_) ?_ ?_ allC (mem_allC _)
      · obtain ⟨o, ho, q⟩ := List.any_eq_true.mp he
        cases r : partC p.2 o with
        | true => exact List.any_eq_true.mpr ⟨p.2, by simp, part_trans r q⟩
        | false => exact List.any_eq_true.mpr ⟨o, List.mem_append_left _ (List.mem_filter.mpr ⟨ho, by simp [r]⟩), q⟩
      · exact List.any_eq_false.mpr fun o ho => by rw [hn o ho]; simp
      · exact List.any_eq_true.mpr ⟨p.2, by simp, part_refl _⟩
    · rw [List.length_append, List.length_map]
      have : (H.filter fun o => !partC p.2 o.2 && decide (cnt o.2 p.2 = 1)).length ≤ H.length := List.length_filter_le _ _
      omega
    · rw [List.length_append, List.length_singleton]
      have : (H.filter fun o => !partC p.2 o.2).length ≤ H.length := List.length_filter_le _ _
      omega
  · rw [if_neg hc]
    refine ⟨?_, .inl ⟨rfl, rfl⟩⟩
    obtain ⟨x, hx⟩ := List.exists_mem_of_ne_nil _ hc
    obtain ⟨hx, q⟩ := List.mem_filter.mp hx
    exact I.skip (o := x.2) (List.mem_map.mpr ⟨x, hx, rfl⟩) q
theorem kept_all (hh : h < 256) : ∀ (N : Nat) (p : Bool × C3) (s : KS), Inv h D (p.2 :: cl s.1) (cl s.2) → s.1.length ≤ 3 + 27 * upN (cl s.2) → s.2.length ≤ upN (cl s.2) → (27 - upN (cl s.2)) * 1000 + s.1.length < N →
    ∃ H, Kept p s H ∧ Inv h D [] (cl H) ∧ H.length ≤ 27
  | 0, _, _, _, _, _, hN => absurd hN (Nat.not_lt_zero _)
  | N + 1, p, s, I, h1, h2, hN => by
    have u := upN_le (cl s.2)
    have u' := upN_le (cl (stepH p s).2)
    have hb : s.1.length ≤ 1000 ∧ s.2.length ≤ 1000 := by omega
    obtain ⟨I', st⟩ := step_inv hh p s I
    generalize e : stepH p s = s' at I' st u'
    obtain ⟨Q', H'⟩ := s'
    dsimp only at I' st u'
    have h2' : H'.length ≤ upN (cl H') := by
      rcases st with ⟨_, q⟩ | ⟨q, _, r⟩
      · rw [q]; exact h2
      · omega
    cases Q' with
    | nil => exact ⟨H', .last hb e, I', by omega⟩
    | cons q Q =>
      rw [List.length_cons] at st
      have h1' : Q.length ≤ 3 + 27 * upN (cl H') := by
        rcases st with ⟨r, t⟩ | ⟨r, t, _⟩
        · rw [t]; omega
        · omega
      obtain ⟨H, k, i, l⟩ := kept_all hh N q (Q, H') I' h1' h2' (by
        dsimp only
        rcases st with ⟨r, t⟩ | ⟨r, t, _⟩
        · rw [t]; omega
        · omega)
      exact ⟨H, .more hb e k, i, l⟩
end
theorem keptLaw : KeptLaw := by
  intro p0 p1 p2 p3
  have hh := hN_lt p0.2 p1.2 p2.2 p3.2
  have start : Inv (hN p0.2 p1.2 p2.2 p3.2) (fun d => d = p0.2 ∨ d = p1.2 ∨ d = p2.2 ∨ d = p3.2) (p0.2 :: cl [p1, p2, p3]) (cl []) := by
    refine ⟨(fun a ha => by cases ha), List.nodup_nil, fun c hc => ?_, fun d hd => ⟨d, .inl ?_, part_refl d⟩, (fun a ha => by cases ha)⟩
    · refine (flw_iff hh c).mpr fun v hv hb => ?_
      rw [hN_bit _ _ _ _ hv] at hb
      simp only [Bool.and_eq_true] at hb
      obtain ⟨⟨⟨b0, b1⟩, b2⟩, b3⟩ := hb
      rcases hc with hc | hc
      · simp only [List.map_cons, List.map_nil, List.mem_cons, List.not_mem_nil, or_false] at hc
        rcases hc with rfl | rfl | rfl | rfl <;> assumption
      · cases hc
    · simp only [List.map_cons, List.map_nil, List.mem_cons, List.not_mem_nil, or_false]
      exact hd
  have u0 : upN (cl []) = 0 := by decide +kernel
  obtain ⟨H, k, I, l⟩ := kept_all hh 28000 p0 ([p1, p2, p3], []) start (by simp) (by simp) (by show (27 - upN (cl [])) * 1000 + 3 < 28000; rw [u0]; decide)
  refine ⟨H, k, by omega, ?_⟩
  have e := I.sorted fun d => Iff.rfl
  rw [← e]
  show sortS (H.map fun p => figS p.2) = sortS ((H.map (·.2)).map figS)
  rw [List.map_map]
  rfl
theorem theMain_holds : theMain := main_of keptLaw
theorem all_holds : PySem.Challenge.rw_re0165_01.Holds := link theMain_holds
end Mine
end

theorem PySem.Challenge.cw_re0165_01_holds : PySem.Challenge.rw_re0165_01.Holds := by
  exact Mine.all_holds
