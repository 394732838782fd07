import PyProof.Rows.All
import Wide.All
import OpenK.AllK
import Wide.FinOn
import PySem.Challenge.RW_sw0011_01
set_option Elab.async false
set_option linter.unusedVariables false
section
open PySem
namespace Mine

/-- plain data -/
inductive V where
  | none | bool (b : Bool) | int (i : Int) | float (u : UInt64) | str (s : Str) | chr (c : Nat) | tup (xs : List V) | list (xs : List V)

abbrev Names := List (Str × NameKind)
abbrev Sto := List (Str × Option V)
abbrev Own := Option (Str × List V)

inductive Res where
  | next (σ : Sto) (ω : Own)
  | ret (d : V)

noncomputable def sget (σ : Sto) (x : Str) : Option V := match σ.lookup x with
  | some d => d
  | _ => Option.none
noncomputable def sput (x : Str) (d : Option V) : Sto → Sto
  | [] => [(x, d)]
  | p :: r => if p.1 == x then (x, d) :: r else p :: sput x d r
noncomputable def freeze (σ : Sto) : Own → Sto
  | some (y, xs) => sput y (some (.list xs)) σ
  | Option.none => σ

noncomputable def small (i : Int) : Bool := decide (-(2 ^ 60 : Int) < i) && decide (i < (2 ^ 60 : Int))
noncomputable def mkI (i : Int) : Option V := if small i then some (.int i) else Option.none
noncomputable def mkS (s : Str) : Option V := if s.length ≤ 4096 then some (.str s) else Option.none
noncomputable def mkL (xs : List V) : Option V := if xs.length ≤ 4096 then some (.list xs) else Option.none

noncomputable def constV : Const → Option V
  | .none => some .none
  | .bool b => some (.bool b)
  | .int i => some (.int i)
  | .float u => some (.float u)
  | .str s => some (.str s)
  | _ => Option.none

noncomputable def truthV : V → Option Bool
  | .bool b => some b
  | .int i => some (i != 0)
  | .str s => if s.length ≤ 4096 then some (s.length != 0) else Option.none
  | _ => Option.none

noncomputable def binV : Operator → V → V → Option V
  | .Add, .int a, .int b => mkI (a + b)
  | .Add, .str a, .str b => mkS (a ++ b)
  | .Add, .list a, .list b => mkL (a ++ b)
  | .Add, .float a, .int b => if small b then some (.float (Float64.add a (Float64.ofInt b))) else Option.none
  | .Sub, .int a, .int b => mkI (a - b)
  | .Sub, .float a, .float b => some (.float (Float64.sub a b))
  | .Sub, .float a, .int b => if small b then some (.float (Float64.sub a (Float64.ofInt b))) else Option.none
  | .Mult, .int a, .int b => if small a && small b then mkI (a * b) else Option.none
  | .Mult, .float a, .float b => some (.float (Float64.mul a b))
  | .Mult, .float a, .int b => if small b then some (.float (Float64.mul a (Float64.ofInt b))) else Option.none
  | .Div, .int a, .int b => if small a && (0 < b && !Float64.isInf (Float64.ofFrac (decide (a < 0) != decide (b < 0)) a.natAbs b.natAbs)) then
      some (.float (Float64.ofFrac (decide (a < 0) != decide (b < 0)) a.natAbs b.natAbs)) else Option.none
  | .Mod, .int a, .int b => if 0 < b then some (.int (Int.fmod a b)) else Option.none
  | .FloorDiv, .int a, .int b => if small a && 0 < b then some (.int (Int.fdiv a b)) else Option.none
  | .Pow, .int a, .int b => if small a && (0 ≤ b && b ≤ 32) then mkI (a ^ b.toNat) else Option.none
  | .BitAnd, .int a, .int b => some (.int (Builtin.bitAnd a b))
  | .RShift, .int a, .int b => if 0 ≤ b && b ≤ 32 then some (.int (Int.fdiv a (2 ^ b.toNat))) else Option.none
  | _, _, _ => Option.none

noncomputable def allO (f : V → V → Option Bool) : List V → List V → Option Bool
  | [], [] => some true
  | x :: xs, y :: ys => (match f x y, allO f xs ys with
    | some a, some b => some (a && b)
    | _, _ => Option.none)
  | _, _ => Option.none
/-- Python's == on the data that this law compares; n bounds the depth -/
noncomputable def eqV : Nat → V → V → Option Bool
  | 0, _, _ => Option.none
  | n + 1, x, y => match x, y with
    | .bool a, .bool b => some (a == b)
    | .int a, .int b => some (a == b)
    | .str a, .str b => some (a == b)
    | .float a, .float b => if Float64.cmp a a == some .eq && Float64.cmp b b == some .eq then some (Float64.cmp a b == some .eq) else Option.none
    | .float a, .int b => some (Float64.cmpInt a b == some .eq)
    | .list xs, .list ys => if xs.length == ys.length then allO (eqV n) xs ys else some false
    | _, _ => Option.none

noncomputable def ltV : V → V → Option Bool
  | .int a, .int b => some (decide (a < b))
  | .float a, .float b => some (Float64.cmp a b == some .lt)
  | _, _ => Option.none
/-- lexicographic < of two pairs -/
noncomputable def ltP : V → V → Option Bool
  | .tup [a, b], .tup [c, d] => match eqV 1 a c with
    | some true => (match eqV 1 b d with
      | some true => some false
      | some false => ltV b d
      | Option.none => Option.none)
    | some false => ltV a c
    | Option.none => Option.none
  | _, _ => Option.none

noncomputable def cmpV : CmpOp → V → V → Option Bool
  | .Eq, a, b => eqV 8 a b
  | .NotEq, .list a, .list b => (eqV 8 (.list a) (.list b)).map (!·)
  | .Lt, .int a, .int b => some (decide (a < b))
  | .Lt, .tup xs, .tup ys => ltP (.tup xs) (.tup ys)
  | .LtE, .int a, .int b => some (decide (a ≤ b))
  | .Gt, .int a, .int b => some (decide (a > b))
  | .GtE, .int a, .int b => some (decide (a ≥ b))
  | .NotIn, .str a, .str b => some ((Builtin.Str.occurrences b a 0 b.length 1).isEmpty)
  | _, _, _ => Option.none

noncomputable def cmpT : CmpOp → V → V → Option Bool
  | .Is, .bool p, .bool q => some (p == q)
  | op, a, b => cmpV op a b

noncomputable def notV (b : Bool) : V := .bool (!b)
noncomputable def unV : UnaryOp → V → Option V
  | .Invert, .int a => some (.int (Builtin.bitNot a))
  | .USub, .int a => some (.int (-a))
  | _, _ => Option.none

noncomputable def idxV : V → V → Option V
  | .list xs, .int i => if i == -1 && xs.length ≤ 4096 then xs[xs.length - 1]? else if 0 ≤ i && i < 2 ^ 20 then xs[i.toNat]? else Option.none
  | .tup xs, .int i => if 0 ≤ i && i < 2 ^ 20 then xs[i.toNat]? else Option.none
  | .str s, .int i => if 0 ≤ i && i < 2 ^ 20 then (s.cps[i.toNat]?).map fun c => .str ⟨#[c]⟩ else Option.none
  | _, _ => Option.none

noncomputable def chars (s : Str) : List V := s.cps.toList.map .chr

noncomputable def intsOf : List V → Option (List Int)
  | [] => some []
  | .int i :: r => (intsOf r).map (i :: ·)
  | _ :: _ => Option.none
noncomputable def strsOf : List V → Option (List Str)
  | [] => some []
  | .str i :: r => (strsOf r).map (i :: ·)
  | _ :: _ => Option.none

noncomputable def runT {α : Type} (lt : Nat → Nat → Option Bool) : PySem.W.KasT α → Option α
  | .ret a => some a
  | .ask i j k => match lt i j with
    | some b => runT lt (k b)
    | Option.none => Option.none

/-- the kinds of pairs that are sorted: (int, int) or (float, int), all alike -/
noncomputable def pairKind : V → Option Bool
  | .tup [.int _, .int _] => some true
  | .tup [.float _, .int _] => some false
  | _ => Option.none
noncomputable def sortV (xs : List V) : Option V :=
  if 2 ≤ xs.length && xs.length < 64 then
    match (xs.head?).bind pairKind with
    | some k => if xs.all fun x => pairKind x == some k then
        (runT (fun i j => ltP (xs.getD i .none) (xs.getD j .none)) (PySem.W.kas_sort xs.length)).map fun p => .list (p.toList.map fun i => xs.getD i .none)
      else Option.none
    | Option.none => Option.none
  else Option.none

noncomputable def minL : List Int → Option Int
  | [] => Option.none
  | x :: r => some (r.foldl min x)
noncomputable def maxL : List Int → Option Int
  | [] => Option.none
  | x :: r => some (r.foldl max x)

/-- built-in functions by name -/
noncomputable def callB (f : Str) (args : List V) : Option V :=
  if f == "len" then (match args with
    | [.list xs] => if xs.length ≤ 4096 then some (.int xs.length) else Option.none
    | [.str s] => if s.length ≤ 4096 then some (.int s.length) else Option.none
    | _ => Option.none)
  else if f == "min" then (match args with
    | [.int a, .int b] => some (.int (if b < a then b else a))
    | [.list xs] => if xs.length ≤ 4096 then ((intsOf xs).bind minL).map .int else Option.none
    | _ => Option.none)
  else if f == "max" then (match args with
    | [.int a, .int b] => some (.int (if b > a then b else a))
    | [.list xs] => if xs.length ≤ 4096 then ((intsOf xs).bind maxL).map .int else Option.none
    | _ => Option.none)
  else if f == "sum" then (match args with
    | [.list xs] => if xs.length ≤ 4096 then (intsOf xs).map fun l => .int l.sum else Option.none
    | _ => Option.none)
  else if f == "sorted" then (match args with
    | [.list xs] => sortV xs
    | _ => Option.none)
  else if f == "int" then (match args with
    | [.float u] => (match Float64.decode u with
      | .fin sg m e => some (.int (Float64.truncOf sg m e))
      | _ => Option.none)
    | _ => Option.none)
  else Option.none

noncomputable def findV (x y : Str) (lo hi : Int) : Option V :=
  if 0 ≤ lo && lo ≤ hi && hi ≤ x.length && x.length ≤ 4096 then
    some (.int (match Builtin.Str.occurrences x y lo.toNat hi.toNat 1 with
      | i :: _ => (i : Int)
      | [] => -1))
  else Option.none

/-- methods of texts -/
noncomputable def methB (o : V) (m : Str) (args : List V) : Option V :=
  if m == "split" then (match o, args with
    | .str x, [.str y] => if y.length != 0 && (x.length ≤ 4096 && (Builtin.Str.partsBetween x (Builtin.Str.occurrences x y 0 x.length (x.length + 1)) y.length).length ≤ 4096) then
        some (.list ((Txt.split x y).map .str)) else Option.none
    | _, _ => Option.none)
  else if m == "join" then (match o, args with
    | .str x, [.list ys] => (strsOf ys).bind fun l => if JoinOk x l && (Txt.join x l).length ≤ 4096 then some (.str (Txt.join x l)) else Option.none
    | _, _ => Option.none)
  else if m == "find" then (match o, args with
    | .str x, [.str y, .int lo, .int hi] => findV x y lo hi
    | _, _ => Option.none)
  else Option.none

/-- the first place of a sign -/
noncomputable def placeOf (c : Nat) : List Nat → Nat → Option Nat
  | [], _ => Option.none
  | x :: r, k => if x == c then some k else placeOf c r (k + 1)
noncomputable def indexV : List V → Option V
  | [.str s, .chr c] => if s.length ≤ 4096 then (placeOf c s.cps.toList 0).map fun k => .int (k : Int) else Option.none
  | _ => Option.none

noncomputable def rangeV (a b : Int) : Option (List V) :=
  if small a && small b && b - a ≤ 4096 then some ((List.range (b - a).toNat).map fun (i : Nat) => .int (a + (i : Int))) else Option.none

noncomputable def itemsV : V → Option (List V)
  | .list xs => if xs.length ≤ 4096 then some xs else Option.none
  | .tup xs => if xs.length ≤ 4096 then some xs else Option.none
  | .str s => if s.length ≤ 4096 then some (chars s) else Option.none
  | _ => Option.none

/-- a comprehension's turns -/
noncomputable def compM (f : V → Option (Option V)) : List V → Option (List V)
  | [] => some []
  | x :: r => match f x with
    | Option.none => Option.none
    | some Option.none => compM f r
    | some (some y) => (compM f r).map (y :: ·)

noncomputable def loopM (step : Sto → Own → V → Option Res) : Sto → Own → List V → Option Res
  | σ, ω, [] => some (.next σ ω)
  | σ, ω, x :: xs => match step σ ω x with
    | some (.next σ' ω') => loopM step σ' ω' xs
    | some (.ret d) => some (.ret d)
    | Option.none => Option.none

noncomputable def okN (x : Str) : Bool := x != "__debug__" && x != "__classdict__"
noncomputable def isGlob (N : Names) (f : Str) : Bool := N.lookup f == some .globalImplicit && okN f
noncomputable def plainBase : Expr → Bool
  | .Name .. => true
  | .Constant .. => true
  | _ => false
noncomputable def isVar (N : Names) (x : Str) : Bool := N.lookup x == some .local || N.lookup x == some .cell
noncomputable def canClose (N : Names) (scope : Scope) : Bool :=
  scope.names.all fun p => p.2 != .free || (N.lookup p.1 == some .cell || N.lookup p.1 == some .free)
noncomputable def oneName (scope : Scope) : Bool := scope.names.all fun p => (p.2 != .local || scope.names.lookup p.1 == some .local) && (p.2 != .cell || scope.names.lookup p.1 == some .cell) && (p.2 != .free || scope.names.lookup p.1 == some .free)
noncomputable def inner (scope : Scope) (σ : Sto) : Sto := σ.filter fun p => scope.names.lookup p.1 == some .free
noncomputable def innerOwn (scope : Scope) : Own → Own
  | some (x, xs) => if scope.names.lookup x == some .free then some (x, xs) else Option.none
  | Option.none => Option.none

/-- a target's store: a name, or a pair of names -/
noncomputable def bindT (N : Names) (σ : Sto) : Expr → V → Option Sto
  | .Name x _, d => if isVar N x then some (sput x (some d) σ) else Option.none
  | .Tuple [.Name x _, .Name y _] _ _, .tup [d, e] => if isVar N x && isVar N y then some (sput y (some e) (sput x (some d) σ)) else Option.none
  | _, _ => Option.none

mutual
/-- does the expression name x (a guess that is always safe) -/
noncomputable def names : Nat → Str → Expr → Bool
  | 0, _, _ => true
  | n + 1, x, e => match e with
    | .Constant .. => false
    | .Name y _ => y == x
    | .BoolOp _ es _ => namesL n x es
    | .BinOp a _ b _ => names n x a || names n x b
    | .UnaryOp _ a _ => names n x a
    | .IfExp a b c _ => names n x a || names n x b || names n x c
    | .Compare a _ bs _ => names n x a || namesL n x bs
    | .Call f as _ _ => names n x f || namesL n x as
    | .Attribute a _ _ => names n x a
    | .Subscript a b _ => names n x a || names n x b
    | .List es _ => namesL n x es
    | .Tuple es _ _ => namesL n x es
    | .ListComp e gens _ _ => names n x e || (match gens with
      | [⟨_, i, ifs, _⟩] => names n x i || namesL n x ifs
      | _ => true)
    | .Slice a b c _ => (match a with | some a => names n x a | Option.none => false) || (match b with | some a => names n x a | Option.none => false) || (match c with | some a => names n x a | Option.none => false)
    | _ => true
noncomputable def namesL : Nat → Str → List Expr → Bool
  | 0, _, _ => true
  | _ + 1, _, [] => false
  | n + 1, x, e :: r => names n x e || namesL n x r
end

noncomputable def frozenFor (e : Expr) (σ : Sto) (ω : Own) : Sto × Own := match ω with
  | some (x, xs) => if names 64 x e then (sput x (some (.list xs)) σ, Option.none) else (σ, ω)
  | Option.none => (σ, ω)

noncomputable def dropOwn (x : Str) : Own → Own
  | some (y, ys) => if y == x then Option.none else some (y, ys)
  | Option.none => Option.none

structure Fn where
  params : List Str
  body : List Stmt
  names : Names

abbrev Tab := Str → Option Fn

noncomputable def zipS : List Str → List V → Sto → Option Sto
  | [], [], σ => some σ
  | x :: xs, v :: vs, σ => zipS xs vs (sput x (some v) σ)
  | _, _, _ => Option.none

section
variable (tab : Tab) (glob : Str → Option V)

mutual
noncomputable def meval : Nat → Names → Sto → Own → Expr → Option V
  | 0, _, _, _, _ => Option.none
  | n + 1, N, σ, ω, e => match e with
    | .Constant c _ _ => constV c
    | .Name x _ => if okN x then (match N.lookup x with
      | some .local | some .cell | some .free => sget σ x
      | some .globalImplicit => glob x
      | _ => Option.none) else Option.none
    | .BinOp l op r _ => (match meval n N σ ω l with
      | some a => (match meval n N σ ω r with
        | some b => binV op a b
        | Option.none => Option.none)
      | Option.none => Option.none)
    | .UnaryOp op a _ => (match meval n N σ ω a with
      | some a => unV op a
      | Option.none => Option.none)
    | .BoolOp op [a, b] _ => (match meval n N σ ω a with
      | some a => (match truthV a, op with
        | some true, .And | some false, .Or => meval n N σ ω b
        | some _, _ => some a
        | Option.none, _ => Option.none)
      | Option.none => Option.none)
    | .IfExp t a b _ => (match mtest n N σ ω t with
      | some true => meval n N σ ω a
      | some false => meval n N σ ω b
      | Option.none => Option.none)
    | .Compare l [op] [r] _ => (match meval n N σ ω l with
      | some a => (match meval n N σ ω r with
        | some b => (cmpV op a b).map .bool
        | Option.none => Option.none)
      | Option.none => Option.none)
    | .List es _ => (match meach n N σ ω es with
      | some ds => mkL ds
      | Option.none => Option.none)
    | .Tuple es _ _ => (match meach n N σ ω es with
      | some ds => if ds.length ≤ 4096 then some (.tup ds) else Option.none
      | Option.none => Option.none)
    | .Subscript v s _ => (match s with
      | .Slice a b Option.none _ => (match meval n N σ ω v with
        | some (.list xs) => if xs.length ≤ 4096 then (match a, b with
          | Option.none, some k => (match meval n N σ ω k with
            | some (.int k) => if 0 ≤ k && k ≤ 4096 then some (.list (xs.take k.toNat)) else Option.none
            | _ => Option.none)
          | some k, Option.none => (match meval n N σ ω k with
            | some (.int k) => if 0 ≤ k && k ≤ 4096 then some (.list (xs.drop k.toNat)) else Option.none
            | _ => Option.none)
          | _, _ => Option.none) else Option.none
        | _ => Option.none)
      | s => (match mbase n N σ ω v with
        | some a => (match meval n N σ ω s with
          | some i => idxV a i
          | Option.none => Option.none)
        | Option.none => Option.none))
    | .Call (.Attribute o m ap) as [] p => if plainBase o && (decide (as.length < 30) && ap.endLine == p.line) then (match meval n N σ ω o with
      | some o => (match meach n N σ ω as with
        | some ds => methB o m ds
        | Option.none => Option.none)
      | Option.none => Option.none) else Option.none
    | .Call (.Name f _) as [] _ => if isGlob N f then (match tab f with
        | some fn => (match meach n N σ ω as with
          | some ds => mcall n fn ds
          | Option.none => Option.none)
        | Option.none => if f == "indexOf" then (match meach n N σ ω as with
            | some ds => indexV ds
            | Option.none => Option.none)
          else if f == "isinstance" then (match as with
            | [a, .Name t _] => if t == "bool" && (isGlob N t && (tab t).isNone) then (match meval n N σ ω a with
                | some (.bool _) => some (.bool true)
                | _ => Option.none) else Option.none
            | _ => Option.none)
          else (match meach n N σ ω as with
          | some ds => callB f ds
          | Option.none => Option.none)) else Option.none
    | .ListComp elt [⟨target, iter, ifs, 0⟩] scope _ =>
      if canClose N scope && (oneName scope && (scope.kind == .function)) then (match msrc n N σ ω iter with
        | some xs => (match compM (fun d => match bindT scope.names (inner scope σ) target d with
            | some σ' => (match mtests n scope.names σ' (innerOwn scope ω) ifs with
              | some true => (match meval n scope.names σ' (innerOwn scope ω) elt with
                | some y => some (some y)
                | Option.none => Option.none)
              | some false => some Option.none
              | Option.none => Option.none)
            | Option.none => Option.none) xs with
          | some ys => some (.list ys)
          | Option.none => Option.none)
        | Option.none => Option.none)
      else Option.none
    | _ => Option.none

/-- the base of a subscript: a list that the frame itself still owns may be read -/
noncomputable def mbase : Nat → Names → Sto → Own → Expr → Option V
  | 0, _, _, _, _ => Option.none
  | n + 1, N, σ, ω, e => match e, ω with
    | .Name x p, some (y, xs) => if y == x && okN x then some (.list xs) else meval n N σ ω (.Name x p)
    | e, _ => meval n N σ ω e

noncomputable def meach : Nat → Names → Sto → Own → List Expr → Option (List V)
  | 0, _, _, _, _ => Option.none
  | _ + 1, _, _, _, [] => some []
  | n + 1, N, σ, ω, e :: r => (match meval n N σ ω e with
      | some d => (match meach n N σ ω r with
        | some ds => some (d :: ds)
        | Option.none => Option.none)
      | Option.none => Option.none)

noncomputable def mtest : Nat → Names → Sto → Own → Expr → Option Bool
  | 0, _, _, _, _ => Option.none
  | n + 1, N, σ, ω, e => match e with
    | .UnaryOp .Not x _ => (mtest n N σ ω x).map (!·)
    | .Compare l [op] [r] _ => (match meval n N σ ω l with
      | some a => (match meval n N σ ω r with
        | some b => cmpT op a b
        | Option.none => Option.none)
      | Option.none => Option.none)
    | .Compare .. => Option.none
    | .IfExp .. => Option.none
    | .BoolOp op [a, b] _ => (match mtest n N σ ω a, op with
      | some true, .And | some false, .Or => mtest n N σ ω b
      | some t, _ => some t
      | Option.none, _ => Option.none)
    | e => (match meval n N σ ω e with
      | some d => truthV d
      | Option.none => Option.none)

noncomputable def mtests : Nat → Names → Sto → Own → List Expr → Option Bool
  | 0, _, _, _, _ => Option.none
  | _ + 1, _, _, _, [] => some true
  | n + 1, N, σ, ω, c :: r => match mtest n N σ ω c with
    | some true => mtests n N σ ω r
    | t => t

noncomputable def msrc : Nat → Names → Sto → Own → Expr → Option (List V)
  | 0, _, _, _, _ => Option.none
  | n + 1, N, σ, ω, e => match e with
    | .Call (.Name f _) as [] _ => if f == "range" && (isGlob N f && (tab f).isNone) then (match meach n N σ ω as with
        | some [.int b] => rangeV 0 b
        | some [.int a, .int b] => rangeV a b
        | _ => Option.none)
      else (match meval n N σ ω e with
        | some d => itemsV d
        | Option.none => Option.none)
    | e => (match meval n N σ ω e with
      | some d => itemsV d
      | Option.none => Option.none)

noncomputable def mcall : Nat → Fn → List V → Option V
  | 0, _, _ => Option.none
  | n + 1, fn, ds => match zipS fn.params ds (fn.names.map fun p => (p.1, Option.none)) with
    | some σ => (match mexecs n fn.names σ Option.none fn.body with
      | some (.ret d) => some d
      | some (.next _ _) => some .none
      | Option.none => Option.none)
    | Option.none => Option.none

noncomputable def mexec : Nat → Names → Sto → Own → Stmt → Option Res
  | 0, _, _, _, _ => Option.none
  | n + 1, N, σ, ω, st => match st with
    | .Return (some e) _ => (match meval n N (freeze σ ω) Option.none e with
      | some d => some (.ret d)
      | Option.none => Option.none)
    | .Assign [.Name x _] (.List es _) _ => if isVar N x then (match meach n N (freeze σ ω) Option.none es with
        | some ds => if ds.length ≤ 4096 then some (.next (sput x Option.none (freeze σ ω)) (some (x, ds))) else Option.none
        | Option.none => Option.none) else Option.none
    | .Assign [.Tuple [.Name x px, .Name y py] _ _] (.Tuple [.Constant c ck cp, .Call bf bas bks bp] _ _) _ => if px.line == py.line && (x != y && (N.lookup x == some .local && N.lookup y == some .local)) then
        (match meval n N σ ω (.Constant c ck cp) with
        | some d => (match meval n N σ ω (.Call bf bas bks bp) with
          | some e => some (.next (sput x (some d) (sput y (some e) σ)) (dropOwn x (dropOwn y ω)))
          | Option.none => Option.none)
        | Option.none => Option.none) else Option.none
    | .Assign [.Name x _] e _ => if isVar N x then (match meval n N (frozenFor e σ ω).1 (frozenFor e σ ω).2 e with
        | some d => some (.next (sput x (some d) (frozenFor e σ ω).1) (dropOwn x (frozenFor e σ ω).2))
        | Option.none => Option.none) else Option.none
    | .AugAssign (.Name x _) op e _ => if isVar N x then (match sget σ x with
        | some (.int a) => (match meval n N σ ω e with
          | some (.int b) => (match (if op == .Add || op == .Sub then binV op (.int a) (.int b) else Option.none) with
            | some d => some (.next (sput x (some d) σ) (dropOwn x ω))
            | Option.none => Option.none)
          | _ => Option.none)
        | _ => Option.none) else Option.none
    | .Expr (.Call (.Attribute (.Name x _) m ap) [e] [] cp) _ => if m == "append" && (okN x && ap.endLine == cp.line) then (match ω with
        | some (y, xs) => if y == x then (match meval n N σ ω e with
            | some d => if xs.length ≤ 4096 then some (.next σ (some (y, xs ++ [d]))) else Option.none
            | Option.none => Option.none) else Option.none
        | Option.none => Option.none) else Option.none
    | .If t b o _ => (match mtest n N (frozenFor t σ ω).1 (frozenFor t σ ω).2 t with
      | some true => mexecs n N (frozenFor t σ ω).1 (frozenFor t σ ω).2 b
      | some false => mexecs n N (frozenFor t σ ω).1 (frozenFor t σ ω).2 o
      | Option.none => Option.none)
    | .Assert t _ _ => (match mtest n N (frozenFor t σ ω).1 (frozenFor t σ ω).2 t with
      | some true => some (.next (frozenFor t σ ω).1 (frozenFor t σ ω).2)
      | _ => Option.none)
    | .For (.Name x p) iter body orelse _ => (match msrc n N (frozenFor iter σ ω).1 (frozenFor iter σ ω).2 iter with
      | some xs => (match loopM (fun σ' ω' d => match bindT N σ' (.Name x p) d with
          | some σ'' => mexecs n N σ'' (dropOwn x ω') body
          | Option.none => Option.none) (frozenFor iter σ ω).1 (frozenFor iter σ ω).2 xs with
        | some (.ret d) => some (.ret d)
        | some (.next σ' ω') => if orelse.isEmpty then some (.next σ' ω') else Option.none
        | Option.none => Option.none)
      | Option.none => Option.none)
    | _ => Option.none

noncomputable def mexecs : Nat → Names → Sto → Own → List Stmt → Option Res
  | 0, _, _, _, _ => Option.none
  | _ + 1, _, σ, ω, [] => some (.next σ ω)
  | n + 1, N, σ, ω, st :: r => match mexec n N σ ω st with
    | some (.next σ' ω') => mexecs n N σ' ω' r
    | some (.ret d) => some (.ret d)
    | Option.none => Option.none
end
end

noncomputable def fnOfStmt (x : Str) : List Stmt → Option Fn
  | .FunctionDef name args body _ _ _ scope _ _ _ :: r => if name == x then some ⟨args.args.map (·.arg), body, scope.names⟩ else fnOfStmt x r
  | _ :: r => fnOfStmt x r
  | [] => Option.none

noncomputable def idxFn : Option Fn := fnOfStmt "indexOf" PySem.Challenge.pw_sw0011_01.main.body
noncomputable def theTab : Tab := fun x => if x == "indexOf" then Option.none else fnOfStmt x PySem.Challenge.pw_sw0011_01.main.body
noncomputable def theGlob : Str → Option V := fun x => if x == "ELLIPSIS_MARKER" then some (.str "...") else Option.none

end Mine
end
section
open PySem
set_option maxRecDepth 100000
namespace Mine
theorem no {α : Type} {x : α} {p : Prop} (h : none = some x) : p := nomatch h
theorem ite_some {α : Type} {c : Prop} [Decidable c] {x : Option α} {d : α} (h : (if c then x else none) = some d) : c ∧ x = some d := by
  by_cases hc : c
  · rw [if_pos hc] at h; exact ⟨hc, h⟩
  · rw [if_neg hc] at h; exact no h
section
variable {tab : Tab} {glob : Str → Option V} {n : Nat} {N : Names} {σ : Sto} {ω : Own}
theorem mv_Const {c : Const} {k : Nat} {p : Pos} : meval tab glob (n + 1) N σ ω (.Constant c k p) = constV c := rfl
theorem mv_Name {x : Str} {p : Pos} : meval tab glob (n + 1) N σ ω (.Name x p) = if okN x then (match N.lookup x with
      | some .local | some .cell | some .free => sget σ x
      | some .globalImplicit => glob x
      | _ => Option.none) else Option.none := rfl
theorem mv_BinOp {l r : Expr} {op : Operator} {p : Pos} : meval tab glob (n + 1) N σ ω (.BinOp l op r p) = (match meval tab glob n N σ ω l with
      | some a => (match meval tab glob n N σ ω r with
        | some b => binV op a b
        | Option.none => Option.none)
      | Option.none => Option.none) := rfl
theorem mv_Unary {a : Expr} {op : UnaryOp} {p : Pos} : meval tab glob (n + 1) N σ ω (.UnaryOp op a p) = (match meval tab glob n N σ ω a with
      | some a => unV op a
      | Option.none => Option.none) := rfl
theorem mv_And {a b : Expr} {p : Pos} : meval tab glob (n + 1) N σ ω (.BoolOp .And [a, b] p) = (match meval tab glob n N σ ω a with
      | some x => (match truthV x with
        | some true => meval tab glob n N σ ω b
        | some false => some x
        | Option.none => Option.none)
      | Option.none => Option.none) := by
  show (match meval tab glob n N σ ω a with
      | some a => (match truthV a, BoolOp.And with
        | some true, .And | some false, .Or => meval tab glob n N σ ω b
        | some _, _ => some a
        | Option.none, _ => Option.none)
      | Option.none => Option.none) = _
  cases meval tab glob n N σ ω a with
  | none => rfl
  | some x =>
    cases h : truthV x with
    | none => simp only [h]
    | some t => cases t <;> simp only [h]
theorem mv_Or {a b : Expr} {p : Pos} : meval tab glob (n + 1) N σ ω (.BoolOp .Or [a, b] p) = (match meval tab glob n N σ ω a with
      | some x => (match truthV x with
        | some false => meval tab glob n N σ ω b
        | some true => some x
        | Option.none => Option.none)
      | Option.none => Option.none) := by
  show (match meval tab glob n N σ ω a with
      | some a => (match truthV a, BoolOp.Or with
        | some true, .And | some false, .Or => meval tab glob n N σ ω b
        | some _, _ => some a
        | Option.none, _ => Option.none)
      | Option.none => Option.none) = _
  cases meval tab glob n N σ ω a with
  | none => rfl
  | some x =>
    cases h : truthV x with
    | none => simp only [h]
    | some t => cases t <;> simp only [h]
theorem mv_IfExp {t a b : Expr} {p : Pos} : meval tab glob (n + 1) N σ ω (.IfExp t a b p) = (match mtest tab glob n N σ ω t with
      | some true => meval tab glob n N σ ω a
      | some false => meval tab glob n N σ ω b
      | Option.none => Option.none) := rfl
theorem mv_Compare {l r : Expr} {op : CmpOp} {p : Pos} : meval tab glob (n + 1) N σ ω (.Compare l [op] [r] p) = (match meval tab glob n N σ ω l with
      | some a => (match meval tab glob n N σ ω r with
        | some b => (cmpV op a b).map .bool
        | Option.none => Option.none)
      | Option.none => Option.none) := rfl
theorem mv_List {es : List Expr} {p : Pos} : meval tab glob (n + 1) N σ ω (.List es p) = (match meach tab glob n N σ ω es with
      | some ds => mkL ds
      | Option.none => Option.none) := rfl
theorem mv_Tuple {es : List Expr} {k : Nat} {p : Pos} : meval tab glob (n + 1) N σ ω (.Tuple es k p) = (match meach tab glob n N σ ω es with
      | some ds => if ds.length ≤ 4096 then some (.tup ds) else Option.none
      | Option.none => Option.none) := rfl
/-- a slice's list -/
noncomputable def msliceL (o : Option V) : Option (List V) := match o with
  | some (.list xs) => if xs.length ≤ 4096 then some xs else none
  | _ => none
noncomputable def mIdx (o : Option V) : Option Int := match o with
  | some (.int k) => if 0 ≤ k && k ≤ 4096 then some k else none
  | _ => none
theorem mv_SliceTo {v k : Expr} {q p : Pos} : meval tab glob (n + 1) N σ ω (.Subscript v (.Slice none (some k) none q) p) = (msliceL (meval tab glob n N σ ω v)).bind fun xs => (mIdx (meval tab glob n N σ ω k)).map fun i => .list (xs.take i.toNat) := by
  show (match meval tab glob n N σ ω v with
        | some (.list xs) => if xs.length ≤ 4096 then (match meval tab glob n N σ ω k with
            | some (.int k) => if 0 ≤ k && k ≤ 4096 then some (V.list (xs.take k.toNat)) else Option.none
            | _ => Option.none) else Option.none
        | _ => Option.none) = _
  cases meval tab glob n N σ ω v with
  | none => rfl
  | some x =>
    cases x <;> first | rfl | skip
    rename_i xs
    show (if xs.length ≤ 4096 then _ else none) = (if xs.length ≤ 4096 then some xs else none).bind _
    split
    · cases meval tab glob n N σ ω k with
      | none => rfl
      | some y =>
        cases y <;> first | rfl | skip
        rename_i i
        show (if (0 ≤ i && i ≤ 4096) = true then _ else none) = (if (0 ≤ i && i ≤ 4096) = true then some i else none).map _
        split <;> rfl
    · rfl
theorem mv_SliceFrom {v k : Expr} {q p : Pos} : meval tab glob (n + 1) N σ ω (.Subscript v (.Slice (some k) none none q) p) = (msliceL (meval tab glob n N σ ω v)).bind fun xs => (mIdx (meval tab glob n N σ ω k)).map fun i => .list (xs.drop i.toNat) := by
  show (match meval tab glob n N σ ω v with
        | some (.list xs) => if xs.length ≤ 4096 then (match meval tab glob n N σ ω k with
            | some (.int k) => if 0 ≤ k && k ≤ 4096 then some (V.list (xs.drop k.toNat)) else Option.none
            | _ => Option.none) else Option.none
        | _ => Option.none) = _
  cases meval tab glob n N σ ω v with
  | none => rfl
  | some x =>
    cases x <;> first | rfl | skip
    rename_i xs
    show (if xs.length ≤ 4096 then _ else none) = (if xs.length ≤ 4096 then some xs else none).bind _
    split
    · cases meval tab glob n N σ ω k with
      | none => rfl
      | some y =>
        cases y <;> first | rfl | skip
        rename_i i
        show (if (0 ≤ i && i ≤ 4096) = true then _ else none) = (if (0 ≤ i && i ≤ 4096) = true then some i else none).map _
        split <;> rfl
    · rfl
theorem mv_Meth {o : Expr} {m : Str} {ap p : Pos} {as : List Expr} : meval tab glob (n + 1) N σ ω (.Call (.Attribute o m ap) as [] p) = if plainBase o && (decide (as.length < 30) && ap.endLine == p.line) then (match meval tab glob n N σ ω o with
      | some o => (match meach tab glob n N σ ω as with
        | some ds => methB o m ds
        | Option.none => Option.none)
      | Option.none => Option.none) else Option.none := rfl
theorem mv_Comp {elt target iter : Expr} {ifs : List Expr} {scope : Scope} {p : Pos} : meval tab glob (n + 1) N σ ω (.ListComp elt [⟨target, iter, ifs, 0⟩] scope p) =
      if canClose N scope && (oneName scope && (scope.kind == .function)) then (match msrc tab glob n N σ ω iter with
        | some xs => (match compM (fun d => match bindT scope.names (inner scope σ) target d with
            | some σ' => (match mtests tab glob n scope.names σ' (innerOwn scope ω) ifs with
              | some true => (match meval tab glob n scope.names σ' (innerOwn scope ω) elt with
                | some y => some (some y)
                | Option.none => Option.none)
              | some false => some Option.none
              | Option.none => Option.none)
            | Option.none => Option.none) xs with
          | some ys => some (.list ys)
          | Option.none => Option.none)
        | Option.none => Option.none)
      else Option.none := rfl
theorem mx_Return {e : Expr} {p : Pos} : mexec tab glob (n + 1) N σ ω (.Return (some e) p) = (match meval tab glob n N (freeze σ ω) Option.none e with
      | some d => some (.ret d)
      | Option.none => Option.none) := rfl
theorem mx_AssignList {x : Str} {px q p : Pos} {es : List Expr} : mexec tab glob (n + 1) N σ ω (.Assign [.Name x px] (.List es q) p) = if isVar N x then (match meach tab glob n N (freeze σ ω) Option.none es with
        | some ds => if ds.length ≤ 4096 then some (.next (sput x Option.none (freeze σ ω)) (some (x, ds))) else Option.none
        | Option.none => Option.none) else Option.none := rfl
theorem mx_Swap {x y : Str} {px py tp ep cp bp p : Pos} {tk ek ck : Nat} {c : Const} {bf : Expr} {bas : List Expr} {bks : List Keyword} : mexec tab glob (n + 1) N σ ω (.Assign [.Tuple [.Name x px, .Name y py] tk tp] (.Tuple [.Constant c ck cp, .Call bf bas bks bp] ek ep) p) =
      if px.line == py.line && (x != y && (N.lookup x == some .local && N.lookup y == some .local)) then
        (match meval tab glob n N σ ω (.Constant c ck cp) with
        | some d => (match meval tab glob n N σ ω (.Call bf bas bks bp) with
          | some e => some (.next (sput x (some d) (sput y (some e) σ)) (dropOwn x (dropOwn y ω)))
          | Option.none => Option.none)
        | Option.none => Option.none) else Option.none := rfl
/-- an assignment to a name, of no list display -/
noncomputable def assignR (tab : Tab) (glob : Str → Option V) (n : Nat) (N : Names) (σ : Sto) (ω : Own) (x : Str) (e : Expr) : Option Res := if isVar N x then (match meval tab glob n N (frozenFor e σ ω).1 (frozenFor e σ ω).2 e with
        | some d => some (.next (sput x (some d) (frozenFor e σ ω).1) (dropOwn x (frozenFor e σ ω).2))
        | Option.none => Option.none) else Option.none
theorem mx_Assign {x : Str} {px p : Pos} {e : Expr} (h : ∀ es q, e ≠ .List es q) : mexec tab glob (n + 1) N σ ω (.Assign [.Name x px] e p) = assignR tab glob n N σ ω x e := by
  cases e <;> first | rfl | exact absurd rfl (h _ _)
theorem mx_Aug {x : Str} {px p : Pos} {op : Operator} {e : Expr} : mexec tab glob (n + 1) N σ ω (.AugAssign (.Name x px) op e p) = if isVar N x then (match sget σ x with
        | some (.int a) => (match meval tab glob n N σ ω e with
          | some (.int b) => (match (if op == .Add || op == .Sub then binV op (.int a) (.int b) else Option.none) with
            | some d => some (.next (sput x (some d) σ) (dropOwn x ω))
            | Option.none => Option.none)
          | _ => Option.none)
        | _ => Option.none) else Option.none := rfl
theorem mx_Append {x m : Str} {px ap cp p : Pos} {e : Expr} : mexec tab glob (n + 1) N σ ω (.Expr (.Call (.Attribute (.Name x px) m ap) [e] [] cp) p) = if m == "append" && (okN x && ap.endLine == cp.line) then (match ω with
        | some (y, xs) => if y == x then (match meval tab glob n N σ ω e with
            | some d => if xs.length ≤ 4096 then some (.next σ (some (y, xs ++ [d]))) else Option.none
            | Option.none => Option.none) else Option.none
        | Option.none => Option.none) else Option.none := rfl
theorem mx_If {t : Expr} {b o : List Stmt} {p : Pos} : mexec tab glob (n + 1) N σ ω (.If t b o p) = (match mtest tab glob n N (frozenFor t σ ω).1 (frozenFor t σ ω).2 t with
      | some true => mexecs tab glob n N (frozenFor t σ ω).1 (frozenFor t σ ω).2 b
      | some false => mexecs tab glob n N (frozenFor t σ ω).1 (frozenFor t σ ω).2 o
      | Option.none => Option.none) := rfl
theorem mx_Assert {t : Expr} {m : Option Expr} {p : Pos} : mexec tab glob (n + 1) N σ ω (.Assert t m p) = (match mtest tab glob n N (frozenFor t σ ω).1 (frozenFor t σ ω).2 t with
      | some true => some (.next (frozenFor t σ ω).1 (frozenFor t σ ω).2)
      | _ => Option.none) := rfl
theorem mx_For {x : Str} {px p : Pos} {iter : Expr} {body orelse : List Stmt} : mexec tab glob (n + 1) N σ ω (.For (.Name x px) iter body orelse p) = (match msrc tab glob n N (frozenFor iter σ ω).1 (frozenFor iter σ ω).2 iter with
      | some xs => (match loopM (fun σ' ω' d => match bindT N σ' (.Name x px) d with
          | some σ'' => mexecs tab glob n N σ'' (dropOwn x ω') body
          | Option.none => Option.none) (frozenFor iter σ ω).1 (frozenFor iter σ ω).2 xs with
        | some (.ret d) => some (.ret d)
        | some (.next σ' ω') => if orelse.isEmpty then some (.next σ' ω') else Option.none
        | Option.none => Option.none)
      | Option.none => Option.none) := rfl
theorem mxs_nil : mexecs tab glob (n + 1) N σ ω [] = some (.next σ ω) := rfl
theorem mxs_cons {st : Stmt} {r : List Stmt} : mexecs tab glob (n + 1) N σ ω (st :: r) = (match mexec tab glob n N σ ω st with
    | some (.next σ' ω') => mexecs tab glob n N σ' ω' r
    | some (.ret d) => some (.ret d)
    | Option.none => Option.none) := rfl
theorem me_nil : meach tab glob (n + 1) N σ ω [] = some [] := rfl
theorem me_cons {e : Expr} {r : List Expr} : meach tab glob (n + 1) N σ ω (e :: r) = (match meval tab glob n N σ ω e with
      | some d => (match meach tab glob n N σ ω r with
        | some ds => some (d :: ds)
        | Option.none => Option.none)
      | Option.none => Option.none) := rfl
theorem mts_nil : mtests tab glob (n + 1) N σ ω [] = some true := rfl
theorem mt_Not {x : Expr} {p : Pos} : mtest tab glob (n + 1) N σ ω (.UnaryOp .Not x p) = (mtest tab glob n N σ ω x).map (!·) := rfl
theorem mt_Compare {l r : Expr} {op : CmpOp} {p : Pos} : mtest tab glob (n + 1) N σ ω (.Compare l [op] [r] p) = (match meval tab glob n N σ ω l with
      | some a => (match meval tab glob n N σ ω r with
        | some b => cmpT op a b
        | Option.none => Option.none)
      | Option.none => Option.none) := rfl
theorem mt_And {a b : Expr} {p : Pos} : mtest tab glob (n + 1) N σ ω (.BoolOp .And [a, b] p) = (match mtest tab glob n N σ ω a with
      | some true => mtest tab glob n N σ ω b
      | some false => some false
      | Option.none => Option.none) := by
  show (match mtest tab glob n N σ ω a, BoolOp.And with
      | some true, .And | some false, .Or => mtest tab glob n N σ ω b
      | some t, _ => some t
      | Option.none, _ => Option.none) = _
  cases mtest tab glob n N σ ω a with
  | none => rfl
  | some t => cases t <;> rfl
theorem mt_Or {a b : Expr} {p : Pos} : mtest tab glob (n + 1) N σ ω (.BoolOp .Or [a, b] p) = (match mtest tab glob n N σ ω a with
      | some false => mtest tab glob n N σ ω b
      | some true => some true
      | Option.none => Option.none) := by
  show (match mtest tab glob n N σ ω a, BoolOp.Or with
      | some true, .And | some false, .Or => mtest tab glob n N σ ω b
      | some t, _ => some t
      | Option.none, _ => Option.none) = _
  cases mtest tab glob n N σ ω a with
  | none => rfl
  | some t => cases t <;> rfl
/-- a test of any other form -/
noncomputable def plainT (tab : Tab) (glob : Str → Option V) (n : Nat) (N : Names) (σ : Sto) (ω : Own) (e : Expr) : Option Bool := match meval tab glob n N σ ω e with
  | some d => truthV d
  | none => none
theorem ms_range {f : Str} {fp p : Pos} {as : List Expr} : msrc tab glob (n + 1) N σ ω (.Call (.Name f fp) as [] p) = if f == "range" && (isGlob N f && (tab f).isNone) then (match meach tab glob n N σ ω as with
        | some [.int b] => rangeV 0 b
        | some [.int a, .int b] => rangeV a b
        | _ => Option.none)
      else (match meval tab glob n N σ ω (.Call (.Name f fp) as [] p) with
        | some d => itemsV d
        | Option.none => Option.none) := rfl
noncomputable def plainS (tab : Tab) (glob : Str → Option V) (n : Nat) (N : Names) (σ : Sto) (ω : Own) (e : Expr) : Option (List V) := match meval tab glob n N σ ω e with
  | some d => itemsV d
  | none => none
noncomputable def isbV (tab : Tab) (glob : Str → Option V) (n : Nat) (N : Names) (σ : Sto) (ω : Own) (as : List Expr) : Option V := match as with
  | [a, .Name t _] => if t == "bool" && (isGlob N t && (tab t).isNone) then (match meval tab glob n N σ ω a with
      | some (.bool _) => some (.bool true)
      | _ => Option.none) else Option.none
  | _ => Option.none
theorem isb_inv {as : List Expr} {d : V} (h : isbV tab glob n N σ ω as = some d) : ∃ a t tp b, as = [a, .Name t tp] ∧ (t == "bool" && (isGlob N t && (tab t).isNone)) = true ∧ meval tab glob n N σ ω a = some (.bool b) ∧ d = .bool true := by
  cases as with
  | nil => exact no h
  | cons a as =>
    cases as with
    | nil => exact no h
    | cons x as =>
      cases as with
      | cons y ys =>
        let F : Expr → Option V := fun x => isbV tab glob n N σ ω (a :: x :: y :: ys)
        replace h : F x = some d := h
        cases x <;> exact no h
      | nil =>
        let F : Expr → Option V := fun x => isbV tab glob n N σ ω [a, x]
        replace h : F x = some d := h
        cases x <;> first | exact no h | skip
        rename_i t tp
        have h : (if (t == "bool" && (isGlob N t && (tab t).isNone)) = true then (match meval tab glob n N σ ω a with
          | some (.bool _) => some (V.bool true)
          | _ => none) else none) = some d := h
        obtain ⟨hc, h⟩ := ite_some h
        cases ha : meval tab glob n N σ ω a with
        | none => rw [ha] at h; exact no h
        | some y =>
          rw [ha] at h
          cases y <;> first | exact no h | skip
          cases h
          exact ⟨a, t, tp, _, rfl, hc, ha, rfl⟩
noncomputable def rangeD : List V → Option (List V)
  | [.int b] => rangeV 0 b
  | [.int a, .int b] => rangeV a b
  | _ => none
theorem rangeD_inv {ds xs : List V} (h : rangeD ds = some xs) : (∃ b, ds = [.int b] ∧ rangeV 0 b = some xs) ∨ (∃ a b, ds = [.int a, .int b] ∧ rangeV a b = some xs) := by
  obtain ⟨ds1, ed⟩ : ∃ z, ds = z := ⟨_, rfl⟩
  rw [ed] at h
  cases ds1 with
  | nil => exact no h
  | cons x ds =>
    cases ds with
    | nil =>
      cases x <;> first | exact no h | skip
      exact .inl ⟨_, ed, h⟩
    | cons y ds =>
      cases ds with
      | nil =>
        cases x <;> first | exact no h | skip
        cases y <;> first | exact no h | skip
        exact .inr ⟨_, _, ed, h⟩
      | cons _ _ => cases x <;> first | exact no h | (cases y <;> exact no h)
theorem ms_inv {f : Str} {fp p : Pos} {as : List Expr} {xs : List V} (h : msrc tab glob (n + 1) N σ ω (.Call (.Name f fp) as [] p) = some xs) :
    (∃ ds, (f == "range" && (isGlob N f && (tab f).isNone)) = true ∧ meach tab glob n N σ ω as = some ds ∧ rangeD ds = some xs) ∨ plainS tab glob n N σ ω (.Call (.Name f fp) as [] p) = some xs := by
  rw [ms_range] at h
  by_cases hc : (f == "range" && (isGlob N f && (tab f).isNone)) = true
  · rw [if_pos hc] at h
    cases hd : meach tab glob n N σ ω as with
    | none => rw [hd] at h; exact no h
    | some ds =>
      rw [hd] at h
      refine .inl ⟨ds, hc, rfl, ?_⟩
      cases ds with
      | nil => exact no h
      | cons x ds =>
        cases ds with
        | nil => cases x <;> first | exact no h | exact h
        | cons y ds =>
          cases ds with
          | nil => cases x <;> first | exact no h | (cases y <;> first | exact no h | exact h)
          | cons _ _ => cases x <;> first | exact no h | (cases y <;> exact no h)
  · rw [if_neg hc] at h
    exact .inr h
theorem cmpT_inv {op : CmpOp} {a c : V} {b : Bool} (h : cmpT op a c = some b) : (∃ p q, op = .Is ∧ a = .bool p ∧ c = .bool q ∧ b = (p == q)) ∨ cmpV op a c = some b := by
  cases op <;> first | exact .inr h | skip
  cases a <;> first | exact .inr h | skip
  cases c <;> first | exact .inr h | skip
  exact .inl ⟨_, _, rfl, rfl, rfl, (Option.some.inj h).symm⟩
theorem mts_inv {c : Expr} {r : List Expr} {b : Bool} (h : mtests tab glob (n + 1) N σ ω (c :: r) = some b) : (mtest tab glob n N σ ω c = some true ∧ mtests tab glob n N σ ω r = some b) ∨ (b = false ∧ mtest tab glob n N σ ω c = some false) := by
  have h : (match mtest tab glob n N σ ω c with | some true => mtests tab glob n N σ ω r | t => t) = some b := h
  cases hc : mtest tab glob n N σ ω c with
  | none => rw [hc] at h; exact no h
  | some t =>
    rw [hc] at h
    cases t with
    | true => exact .inl ⟨rfl, h⟩
    | false => exact .inr ⟨(Option.some.inj h).symm, rfl⟩
theorem mv_Call {f : Str} {fp p : Pos} {as : List Expr} : meval tab glob (n + 1) N σ ω (.Call (.Name f fp) as [] p) = if isGlob N f = true then (match tab f with
    | some fn => (match meach tab glob n N σ ω as with
      | some ds => mcall tab glob n fn ds
      | none => none)
    | none => if (f == "indexOf") = true then (match meach tab glob n N σ ω as with
        | some ds => indexV ds
        | none => none)
      else if (f == "isinstance") = true then isbV tab glob n N σ ω as
      else (match meach tab glob n N σ ω as with
        | some ds => callB f ds
        | none => none)) else none := rfl
theorem bindT_inv {σ σ' : Sto} {target : Expr} {d : V} {P : Prop} (h : bindT N σ target d = some σ') (k1 : ∀ x p, target = .Name x p → isVar N x = true → σ' = sput x (some d) σ → P)
    (k2 : ∀ x px y py k p a b, target = .Tuple [.Name x px, .Name y py] k p → d = .tup [a, b] → isVar N x = true → isVar N y = true → σ' = sput y (some b) (sput x (some a) σ) → P) : P := by
  generalize e1 : target = t at h
  let F : Expr → Option Sto := fun t => bindT N σ t d
  replace h : F t = some σ' := h
  cases t <;> first | exact no h | skip
  · obtain ⟨hv, h⟩ := ite_some h
    exact k1 _ _ e1 hv (Option.some.inj h).symm
  · rename_i es k p
    replace h : bindT N σ (.Tuple es k p) d = some σ' := h
    clear F
    generalize e2 : d = d1 at h
    cases es with
    | nil => exact no h
    | cons x es =>
      let F2 : Expr → Option Sto := fun x => bindT N σ (.Tuple (x :: es) k p) d1
      replace h : F2 x = some σ' := h
      cases x <;> first | exact no h | (cases es <;> exact no h) | skip
      rename_i x px
      cases es with
      | nil => exact no h
      | cons y es =>
        let F3 : Expr → Option Sto := fun y => bindT N σ (.Tuple (.Name x px :: y :: es) k p) d1
        replace h : F3 y = some σ' := h
        cases y <;> first | exact no h | (cases es <;> exact no h) | skip
        cases es with
        | cons _ _ => exact no h
        | nil =>
          cases d1 <;> first | exact no h | skip
          rename_i l
          cases l with
          | nil => exact no h
          | cons a l =>
            cases l with
            | nil => exact no h
            | cons b l =>
              cases l with
              | cons _ _ => exact no h
              | nil =>
                obtain ⟨hv, h⟩ := ite_some h
                rw [Bool.and_eq_true] at hv
                exact k2 _ _ _ _ _ _ _ _ e1 e2 hv.1 hv.2 (Option.some.inj h).symm
-- the built-in functions, each by itself
noncomputable def lenD (ds : List V) : Option V := match ds with
    | [.list xs] => if xs.length ≤ 4096 then some (.int xs.length) else Option.none
    | [.str s] => if s.length ≤ 4096 then some (.int s.length) else Option.none
    | _ => Option.none
noncomputable def minD (ds : List V) : Option V := match ds with
    | [.int a, .int b] => some (.int (if b < a then b else a))
    | [.list xs] => if xs.length ≤ 4096 then ((intsOf xs).bind minL).map .int else Option.none
    | _ => Option.none
noncomputable def maxD (ds : List V) : Option V := match ds with
    | [.int a, .int b] => some (.int (if b > a then b else a))
    | [.list xs] => if xs.length ≤ 4096 then ((intsOf xs).bind maxL).map .int else Option.none
    | _ => Option.none
noncomputable def sumD (ds : List V) : Option V := match ds with
    | [.list xs] => if xs.length ≤ 4096 then (intsOf xs).map fun l => .int l.sum else Option.none
    | _ => Option.none
noncomputable def sortD (ds : List V) : Option V := match ds with
    | [.list xs] => sortV xs
    | _ => Option.none
noncomputable def intD (ds : List V) : Option V := match ds with
    | [.float u] => (match Float64.decode u with
      | .fin sg m e => some (.int (Float64.truncOf sg m e))
      | _ => Option.none)
    | _ => Option.none
theorem callB_inv {f : Str} {ds : List V} {d : V} {P : Prop} (h : callB f ds = some d) (k1 : f = "len" → lenD ds = some d → P) (k2 : f = "min" → minD ds = some d → P) (k3 : f = "max" → maxD ds = some d → P) (k4 : f = "sum" → sumD ds = some d → P) (k5 : f = "sorted" → sortD ds = some d → P) (k6 : f = "int" → intD ds = some d → P) : P := by
  have h : (if (f == "len") = true then lenD ds else if (f == "min") = true then minD ds else if (f == "max") = true then maxD ds else if (f == "sum") = true then sumD ds else if (f == "sorted") = true then sortD ds else if (f == "int") = true then intD ds else none) = some d := h
  by_cases c1 : (f == "len") = true
  · rw [if_pos c1] at h; exact k1 (eq_of_beq c1) h
  rw [if_neg c1] at h
  by_cases c2 : (f == "min") = true
  · rw [if_pos c2] at h; exact k2 (eq_of_beq c2) h
  rw [if_neg c2] at h
  by_cases c3 : (f == "max") = true
  · rw [if_pos c3] at h; exact k3 (eq_of_beq c3) h
  rw [if_neg c3] at h
  by_cases c4 : (f == "sum") = true
  · rw [if_pos c4] at h; exact k4 (eq_of_beq c4) h
  rw [if_neg c4] at h
  by_cases c5 : (f == "sorted") = true
  · rw [if_pos c5] at h; exact k5 (eq_of_beq c5) h
  rw [if_neg c5] at h
  by_cases c6 : (f == "int") = true
  · rw [if_pos c6] at h; exact k6 (eq_of_beq c6) h
  rw [if_neg c6] at h
  exact no h
/-- one datum, a list -/
theorem list1 {ds : List V} {d : V} {F : List V → Option V} (h : (match ds with | [.list xs] => F xs | _ => none) = some d) : ∃ xs, ds = [.list xs] ∧ F xs = some d := by
  obtain ⟨ds1, ed⟩ : ∃ z, ds = z := ⟨_, rfl⟩
  rw [ed] at h
  cases ds1 with
  | nil => exact no h
  | cons x ds =>
    cases ds with
    | cons _ _ => cases x <;> exact no h
    | nil =>
      cases x <;> first | exact no h | exact ⟨_, ed, h⟩
theorem mm_inv {ds : List V} {d : V} {F : Int → Int → Option V} {G : List V → Option V} (h : (match ds with | [.int a, .int b] => F a b | [.list xs] => G xs | _ => none) = some d) : (∃ a b, ds = [.int a, .int b] ∧ F a b = some d) ∨ (∃ xs, ds = [.list xs] ∧ G xs = some d) := by
  obtain ⟨ds1, ed⟩ : ∃ z, ds = z := ⟨_, rfl⟩
  rw [ed] at h
  cases ds1 with
  | nil => exact no h
  | cons x ds =>
    cases ds with
    | nil => cases x <;> first | exact no h | exact .inr ⟨_, ed, h⟩
    | cons y ds =>
      cases ds with
      | cons _ _ => cases x <;> first | exact no h | (cases y <;> exact no h)
      | nil =>
        cases x <;> first | exact no h | skip
        cases y <;> first | exact no h | exact .inl ⟨_, _, ed, h⟩
theorem len_inv {ds : List V} {d : V} (h : lenD ds = some d) : (∃ xs, ds = [.list xs] ∧ xs.length ≤ 4096 ∧ d = .int xs.length) ∨ (∃ s, ds = [.str s] ∧ s.length ≤ 4096 ∧ d = .int s.length) := by
  obtain ⟨ds1, ed⟩ : ∃ z, ds = z := ⟨_, rfl⟩
  rw [ed] at h
  cases ds1 with
  | nil => exact no h
  | cons x ds =>
    cases ds with
    | cons _ _ => cases x <;> exact no h
    | nil =>
      cases x <;> first | exact no h | skip
      · obtain ⟨hl, h⟩ := ite_some h
        exact .inr ⟨_, ed, hl, (Option.some.inj h).symm⟩
      · obtain ⟨hl, h⟩ := ite_some h
        exact .inl ⟨_, ed, hl, (Option.some.inj h).symm⟩
theorem int_inv {ds : List V} {d : V} (h : intD ds = some d) : ∃ u sg m e, ds = [.float u] ∧ Float64.decode u = .fin sg m e ∧ d = .int (Float64.truncOf sg m e) := by
  obtain ⟨ds1, ed⟩ : ∃ z, ds = z := ⟨_, rfl⟩
  rw [ed] at h
  cases ds1 with
  | nil => exact no h
  | cons x ds =>
    cases ds with
    | cons _ _ => cases x <;> exact no h
    | nil =>
      cases x <;> first | exact no h | skip
      rename_i u
      have h : (match Float64.decode u with | .fin sg m e => some (V.int (Float64.truncOf sg m e)) | _ => none) = some d := h
      cases hd : Float64.decode u with
      | fin sg m e => rw [hd] at h; exact ⟨u, sg, m, e, ed, hd, (Option.some.inj h).symm⟩
      | _ => rw [hd] at h; exact no h
theorem bindInts {xs : List V} {F : List Int → Option Int} {d : V} (h : ((intsOf xs).bind F).map V.int = some d) : ∃ ns m, intsOf xs = some ns ∧ F ns = some m ∧ d = .int m := by
  cases hi : intsOf xs with
  | none => rw [hi] at h; exact no h
  | some ns =>
    rw [hi] at h
    have h : (F ns).map V.int = some d := h
    cases hm : F ns with
    | none => rw [hm] at h; exact no h
    | some m => rw [hm] at h; exact ⟨ns, m, rfl, hm, (Option.some.inj h).symm⟩
noncomputable def splitD (x : Str) (ds : List V) : Option V := match ds with
  | [.str y] => if y.length != 0 && (x.length ≤ 4096 && (Builtin.Str.partsBetween x (Builtin.Str.occurrences x y 0 x.length (x.length + 1)) y.length).length ≤ 4096) then
        some (.list ((Txt.split x y).map .str)) else Option.none
  | _ => none
noncomputable def joinD (x : Str) (ds : List V) : Option V := match ds with
  | [.list ys] => (strsOf ys).bind fun l => if JoinOk x l && (Txt.join x l).length ≤ 4096 then some (.str (Txt.join x l)) else Option.none
  | _ => none
noncomputable def findD (x : Str) (ds : List V) : Option V := match ds with
  | [.str y, .int lo, .int hi] => findV x y lo hi
  | _ => none
theorem splitD_inv {x : Str} {ds : List V} {d : V} (h : splitD x ds = some d) : ∃ y, ds = [.str y] ∧ (y.length != 0 && (x.length ≤ 4096 && (Builtin.Str.partsBetween x (Builtin.Str.occurrences x y 0 x.length (x.length + 1)) y.length).length ≤ 4096)) = true ∧ d = .list ((Txt.split x y).map .str) := by
  obtain ⟨ds1, ed⟩ : ∃ z, ds = z := ⟨_, rfl⟩
  rw [ed] at h
  cases ds1 with
  | nil => exact no h
  | cons z ds =>
    cases ds with
    | cons _ _ => cases z <;> exact no h
    | nil =>
      cases z <;> first | exact no h | skip
      obtain ⟨hc, h⟩ := ite_some h
      exact ⟨_, ed, hc, (Option.some.inj h).symm⟩
theorem joinD_inv {x : Str} {ds : List V} {d : V} (h : joinD x ds = some d) : ∃ ys l, ds = [.list ys] ∧ strsOf ys = some l ∧ (JoinOk x l && (Txt.join x l).length ≤ 4096) = true ∧ d = .str (Txt.join x l) := by
  obtain ⟨ds1, ed⟩ : ∃ z, ds = z := ⟨_, rfl⟩
  rw [ed] at h
  cases ds1 with
  | nil => exact no h
  | cons z ds =>
    cases ds with
    | cons _ _ => cases z <;> exact no h
    | nil =>
      cases z <;> first | exact no h | skip
      rename_i ys
      have h : ((strsOf ys).bind fun l => if JoinOk x l && (Txt.join x l).length ≤ 4096 then some (V.str (Txt.join x l)) else none) = some d := h
      cases hs : strsOf ys with
      | none => rw [hs] at h; exact no h
      | some l =>
        rw [hs] at h
        obtain ⟨hc, h⟩ := ite_some h
        exact ⟨_, l, ed, hs, hc, (Option.some.inj h).symm⟩
theorem findD_inv {x : Str} {ds : List V} {d : V} (h : findD x ds = some d) : ∃ y lo hi, ds = [.str y, .int lo, .int hi] ∧ findV x y lo hi = some d := by
  obtain ⟨ds1, ed⟩ : ∃ z, ds = z := ⟨_, rfl⟩
  rw [ed] at h
  cases ds1 with
  | nil => exact no h
  | cons z ds =>
    cases z <;> first | exact no h | (cases ds <;> exact no h) | skip
    cases ds with
    | nil => exact no h
    | cons z ds =>
      cases z <;> first | exact no h | (cases ds <;> exact no h) | skip
      cases ds with
      | nil => exact no h
      | cons z ds =>
        cases z <;> first | exact no h | (cases ds <;> exact no h) | skip
        cases ds with
        | cons _ _ => exact no h
        | nil => exact ⟨_, _, _, ed, h⟩
theorem ite3 {a b c : Bool} {d : V} {P : Prop} (h : (if a = true then none else if b = true then none else if c = true then none else (none : Option V)) = some d) : P := by
  cases a <;> cases b <;> cases c <;> exact no h
theorem methB_str {o : V} {m : Str} {ds : List V} {d : V} {P : Prop} (h : methB o m ds = some d) (k : ∀ x, o = .str x → P) : P := by
  generalize e : o = o1 at h
  cases o1 <;> first | exact ite3 h | exact k _ e
theorem spl_eq {x : Str} {ds : List V} : methB (.str x) "split" ds = splitD x ds := by
  cases ds with
  | nil => kernel_rfl
  | cons z ds => cases ds <;> cases z <;> kernel_rfl
theorem joi_eq {x : Str} {ds : List V} : methB (.str x) "join" ds = joinD x ds := by
  cases ds with
  | nil => kernel_rfl
  | cons z ds => cases ds <;> cases z <;> kernel_rfl
theorem fin_eq {x : Str} {ds : List V} : methB (.str x) "find" ds = findD x ds := by
  cases ds with
  | nil => kernel_rfl
  | cons z ds =>
    cases ds with
    | nil => cases z <;> kernel_rfl
    | cons y ds =>
      cases ds with
      | nil => cases z <;> cases y <;> kernel_rfl
      | cons u ds => cases z <;> first | kernel_rfl | (cases y <;> first | kernel_rfl | (cases u <;> cases ds <;> kernel_rfl))
theorem methB_inv {o : V} {m : Str} {ds : List V} {d : V} {P : Prop} (h : methB o m ds = some d) (k1 : ∀ x, o = .str x → m = "split" → splitD x ds = some d → P) (k2 : ∀ x, o = .str x → m = "join" → joinD x ds = some d → P) (k3 : ∀ x, o = .str x → m = "find" → findD x ds = some d → P) : P := by
  refine methB_str h fun x e => ?_
  subst e
  by_cases c1 : (m == "split") = true
  · have e := eq_of_beq c1
    exact k1 x rfl e (by rw [← spl_eq, ← e]; exact h)
  by_cases c2 : (m == "join") = true
  · have e := eq_of_beq c2
    exact k2 x rfl e (by rw [← joi_eq, ← e]; exact h)
  by_cases c3 : (m == "find") = true
  · have e := eq_of_beq c3
    exact k3 x rfl e (by rw [← fin_eq, ← e]; exact h)
  unfold methB at h
  rw [if_neg c1, if_neg c2, if_neg c3] at h
  exact no h
theorem idxV_inv {x i d : V} {P : Prop} (h : idxV x i = some d) (k1 : ∀ xs i', x = .list xs → i = .int i' → (if (i' == -1 && decide (xs.length ≤ 4096)) = true then xs[xs.length - 1]? else if (decide (0 ≤ i') && decide (i' < 2 ^ 20)) = true then xs[i'.toNat]? else none) = some d → P)
    (k2 : ∀ xs i', x = .tup xs → i = .int i' → 0 ≤ i' → i' < 2 ^ 20 → xs[i'.toNat]? = some d → P) (k3 : ∀ s i', x = .str s → i = .int i' → 0 ≤ i' → i' < 2 ^ 20 → (s.cps[i'.toNat]?).map (fun c => V.str ⟨#[c]⟩) = some d → P) : P := by
  generalize e1 : x = x1 at h
  generalize e2 : i = i1 at h
  cases x1 <;> first | exact no h | (cases i1 <;> first | exact no h | skip)
  · obtain ⟨hc, h⟩ := ite_some h
    simp only [Bool.and_eq_true, decide_eq_true_eq] at hc
    exact k3 _ _ e1 e2 hc.1 hc.2 h
  · obtain ⟨hc, h⟩ := ite_some h
    simp only [Bool.and_eq_true, decide_eq_true_eq] at hc
    exact k2 _ _ e1 e2 hc.1 hc.2 h
  · exact k1 _ _ e1 e2 h
-- the shapes of statements
theorem asg_shape {ts : List Expr} {v : Expr} {p : Pos} {r : Res} {P : Prop} (h : mexec tab glob (n + 1) N σ ω (.Assign ts v p) = some r) (k1 : ∀ x px es q, ts = [.Name x px] → v = .List es q → P) (k2 : ∀ x px, ts = [.Name x px] → assignR tab glob n N σ ω x v = some r → P)
    (k3 : ∀ x px y py tk tp c ck cp bf bas bks bp ek ep, ts = [.Tuple [.Name x px, .Name y py] tk tp] → v = .Tuple [.Constant c ck cp, .Call bf bas bks bp] ek ep → P) : P := by
  generalize e1 : ts = ts1 at h
  cases ts1 with
  | nil => exact no h
  | cons t ts1 =>
    cases ts1 with
    | cons t2 ts2 =>
      clear e1 k1 k2 k3
      let F : Expr → Option Res := fun t => mexec tab glob (n + 1) N σ ω (.Assign (t :: t2 :: ts2) v p)
      replace h : F t = some r := h
      cases t <;> first | exact no h | skip
      rename_i es k q
      let F2 : List Expr → Option Res := fun es => mexec tab glob (n + 1) N σ ω (.Assign (.Tuple es k q :: t2 :: ts2) v p)
      replace h : F2 es = some r := h
      cases es with
      | nil => exact no h
      | cons a es =>
        let F3 : Expr → Option Res := fun a => F2 (a :: es)
        replace h : F3 a = some r := h
        cases a <;> first | exact no h | (cases es <;> exact no h) | skip
        rename_i x px
        cases es with
        | nil => exact no h
        | cons b es =>
          let F4 : Expr → Option Res := fun b => F2 (.Name x px :: b :: es)
          replace h : F4 b = some r := h
          cases b <;> first | exact no h | (cases es <;> exact no h)
    | nil =>
      let F : Expr → Option Res := fun t => mexec tab glob (n + 1) N σ ω (.Assign [t] v p)
      replace h : F t = some r := h
      cases t <;> first | exact no h | skip
      · rename_i x px
        by_cases hv : ∃ es q, v = .List es q
        · obtain ⟨es, q, e2⟩ := hv
          exact k1 x px es q e1 e2
        · replace h : mexec tab glob (n + 1) N σ ω (.Assign [.Name x px] v p) = some r := h
          rw [mx_Assign fun es q e => hv ⟨es, q, e⟩] at h
          exact k2 x px e1 h
      · rename_i es tk tp
        clear k1 k2
        let F2 : List Expr → Option Res := fun es => mexec tab glob (n + 1) N σ ω (.Assign [.Tuple es tk tp] v p)
        replace h : F2 es = some r := h
        cases es with
        | nil => exact no h
        | cons a es =>
          let F3 : Expr → Option Res := fun a => F2 (a :: es)
          replace h : F3 a = some r := h
          cases a <;> first | exact no h | (cases es <;> exact no h) | skip
          rename_i x px
          cases es with
          | nil => exact no h
          | cons b es =>
            let F4 : Expr → Option Res := fun b => F2 (.Name x px :: b :: es)
            replace h : F4 b = some r := h
            cases b <;> first | exact no h | (cases es <;> exact no h) | skip
            rename_i y py
            cases es with
            | cons _ _ => exact no h
            | nil =>
              replace h : mexec tab glob (n + 1) N σ ω (.Assign [.Tuple [.Name x px, .Name y py] tk tp] v p) = some r := h
              clear F4 F3 F2 F
              generalize e2 : v = v1 at h
              let G : Expr → Option Res := fun v => mexec tab glob (n + 1) N σ ω (.Assign [.Tuple [.Name x px, .Name y py] tk tp] v p)
              replace h : G v1 = some r := h
              cases v1 <;> first | exact no h | skip
              rename_i vs ek ep
              cases vs with
              | nil => exact no h
              | cons c vs =>
                let G2 : Expr → Option Res := fun c => G (.Tuple (c :: vs) ek ep)
                replace h : G2 c = some r := h
                cases c <;> first | exact no h | (cases vs <;> exact no h) | skip
                rename_i c ck cp
                cases vs with
                | nil => exact no h
                | cons d vs =>
                  let G3 : Expr → Option Res := fun d => G (.Tuple (.Constant c ck cp :: d :: vs) ek ep)
                  replace h : G3 d = some r := h
                  cases d <;> first | exact no h | (cases vs <;> exact no h) | skip
                  rename_i bf bas bks bp
                  cases vs with
                  | cons _ _ => exact no h
                  | nil => exact k3 x px y py tk tp c ck cp bf bas bks bp ek ep e1 e2
theorem app_shape {e : Expr} {p : Pos} {r : Res} {P : Prop} (h : mexec tab glob (n + 1) N σ ω (.Expr e p) = some r) (k : ∀ x px m ap a cp, e = .Call (.Attribute (.Name x px) m ap) [a] [] cp → P) : P := by
  generalize e1 : e = e2 at h
  let F : Expr → Option Res := fun e => mexec tab glob (n + 1) N σ ω (.Expr e p)
  replace h : F e2 = some r := h
  cases e2 <;> first | exact no h | skip
  rename_i f as ks cp
  let F2 : Expr → Option Res := fun f => F (.Call f as ks cp)
  replace h : F2 f = some r := h
  cases f <;> first | exact no h | skip
  rename_i o m ap
  let F3 : Expr → Option Res := fun o => F (.Call (.Attribute o m ap) as ks cp)
  replace h : F3 o = some r := h
  cases o <;> first | exact no h | skip
  rename_i x px
  cases as with
  | nil => exact no h
  | cons e as =>
    cases as with
    | cons _ _ => exact no h
    | nil =>
      cases ks with
      | cons _ _ => exact no h
      | nil => exact k x px m ap e cp e1
theorem aug_shape {t e : Expr} {op : Operator} {p : Pos} {r : Res} {P : Prop} (h : mexec tab glob (n + 1) N σ ω (.AugAssign t op e p) = some r) (k : ∀ x px, t = .Name x px → P) : P := by
  generalize e1 : t = t1 at h
  let F : Expr → Option Res := fun t => mexec tab glob (n + 1) N σ ω (.AugAssign t op e p)
  replace h : F t1 = some r := h
  cases t1 <;> first | exact no h | exact k _ _ e1
theorem for_shape {t e : Expr} {body orelse : List Stmt} {p : Pos} {r : Res} {P : Prop} (h : mexec tab glob (n + 1) N σ ω (.For t e body orelse p) = some r) (k : ∀ x px, t = .Name x px → P) : P := by
  generalize e1 : t = t1 at h
  let F : Expr → Option Res := fun t => mexec tab glob (n + 1) N σ ω (.For t e body orelse p)
  replace h : F t1 = some r := h
  cases t1 <;> first | exact no h | exact k _ _ e1
theorem ltP_r {x : V} {b : Bool} {P : Prop} (h : ltP x .none = some b) : P := by
  cases x <;> first | exact no h | skip
  rename_i l
  cases l with
  | nil => exact no h
  | cons a l =>
    cases l with
    | nil => exact no h
    | cons c l => cases l <;> exact no h
theorem pairKind_inv {x : V} {k : Bool} (h : pairKind x = some k) : (k = true ∧ ∃ a b, x = .tup [.int a, .int b]) ∨ (k = false ∧ ∃ a b, x = .tup [.float a, .int b]) := by
  obtain ⟨x1, ex⟩ : ∃ z, x = z := ⟨_, rfl⟩
  rw [ex] at h
  cases x1 <;> first | exact no h | skip
  rename_i l
  cases l with
  | nil => exact no h
  | cons a l =>
    cases a <;> first | exact no h | (cases l <;> exact no h) | skip
    · cases l with
      | nil => exact no h
      | cons c l =>
        cases c <;> first | exact no h | (cases l <;> exact no h) | skip
        cases l with
        | nil => exact .inl ⟨(Option.some.inj h).symm, _, _, ex⟩
        | cons _ _ => exact no h
    · cases l with
      | nil => exact no h
      | cons c l =>
        cases c <;> first | exact no h | (cases l <;> exact no h) | skip
        cases l with
        | nil => exact .inr ⟨(Option.some.inj h).symm, _, _, ex⟩
        | cons _ _ => exact no h
theorem ltV_inv {x y : V} {b : Bool} (h : ltV x y = some b) : (∃ p q, x = .int p ∧ y = .int q ∧ b = decide (p < q)) ∨ (∃ p q, x = .float p ∧ y = .float q ∧ b = (Float64.cmp p q == some .lt)) := by
  obtain ⟨x1, ex⟩ : ∃ z, x = z := ⟨_, rfl⟩
  rw [ex] at h
  obtain ⟨y1, ey⟩ : ∃ z, y = z := ⟨_, rfl⟩
  rw [ey] at h
  cases x1 <;> first | exact no h | skip
  · cases y1 <;> first | exact no h | exact .inl ⟨_, _, ex, ey, (Option.some.inj h).symm⟩
  · cases y1 <;> first | exact no h | exact .inr ⟨_, _, ex, ey, (Option.some.inj h).symm⟩
theorem indexV_inv {ds : List V} {d : V} (h : indexV ds = some d) : ∃ s c k, ds = [.str s, .chr c] ∧ s.length ≤ 4096 ∧ placeOf c s.cps.toList 0 = some k ∧ d = .int (k : Int) := by
  obtain ⟨ds1, ed⟩ : ∃ z, ds = z := ⟨_, rfl⟩
  rw [ed] at h
  cases ds1 with
  | nil => exact no h
  | cons x ds =>
    cases ds with
    | nil => cases x <;> exact no h
    | cons y ds =>
      cases ds with
      | cons _ _ => cases x <;> first | exact no h | (cases y <;> exact no h)
      | nil =>
        cases x <;> first | exact no h | skip
        cases y <;> first | exact no h | skip
        rename_i s c
        obtain ⟨hl, h⟩ := ite_some h
        cases hk : placeOf c s.cps.toList 0 with
        | none => rw [hk] at h; exact no h
        | some k => rw [hk] at h; exact ⟨s, c, k, ed, hl, hk, (Option.some.inj h).symm⟩
end
end Mine
end
section
open PySem PySem.W PyProof.Rows PySem.Calls PySem.Flt
set_option maxRecDepth 100000
namespace Mine

/-- what may be read of a heap: frozen objects, the floats' tokens, the tokens' bound -/
structure PH where
  o : Addr → Obj → Prop
  F : Tok → UInt64 → Prop
  tk : Nat
structure PH.Le (Z Z' : PH) : Prop where
  o : ∀ b x, Z.o b x → Z'.o b x
  F : ∀ t u, Z.F t u → Z'.F t u
  tk : Z.tk ≤ Z'.tk

mutual
noncomputable def Rep (Z : PH) : V → Value → Prop
  | .none, v => v = .none
  | .bool b, v => v = .bool b
  | .int i, v => ∃ t, v = .int i t
  | .float u, v => ∃ t, v = .float u t ∧ Z.F t u
  | .str s, v => ∃ t, v = .str s t
  | .chr c, v => ∃ t, v = .str ⟨#[c]⟩ t ∧ 0 < t ∧ t < Z.tk
  | .tup xs, v => ∃ a o vs n, v = .ref a ∧ Z.o a o ∧ o.cls = .type "tuple" ∧ o.data = .seq (List.toArray vs) n ∧ RepL Z xs vs
  | .list xs, v => ∃ a o vs n, v = .ref a ∧ Z.o a o ∧ o.cls = .type "list" ∧ o.data = .seq (List.toArray vs) n ∧ RepL Z xs vs
noncomputable def RepL (Z : PH) : List V → List Value → Prop
  | [], vs => vs = []
  | x :: xs, vs => ∃ v r, vs = v :: r ∧ Rep Z x v ∧ RepL Z xs r
end

mutual
theorem Rep.mono {Z Z' : PH} (hz : Z.Le Z') : ∀ (d : V) (v : Value), Rep Z d v → Rep Z' d v
  | .none, _, h => h
  | .bool _, _, h => h
  | .int _, _, h => h
  | .float _, _, h => let ⟨t, e, f⟩ := h; ⟨t, e, hz.F _ _ f⟩
  | .str _, _, h => h
  | .chr _, _, h => let ⟨t, e, p, q⟩ := h; ⟨t, e, p, Nat.lt_of_lt_of_le q hz.tk⟩
  | .tup xs, _, h => by
    obtain ⟨a, o, vs, n, e, hz1, hc, hd, hl⟩ := h
    exact ⟨a, o, vs, n, e, hz.o _ _ hz1, hc, hd, RepL.mono hz xs vs hl⟩
  | .list xs, _, h => by
    obtain ⟨a, o, vs, n, e, hz1, hc, hd, hl⟩ := h
    exact ⟨a, o, vs, n, e, hz.o _ _ hz1, hc, hd, RepL.mono hz xs vs hl⟩
theorem RepL.mono {Z Z' : PH} (hz : Z.Le Z') : ∀ (ds : List V) (vs : List Value), RepL Z ds vs → RepL Z' ds vs
  | [], _, h => h
  | x :: xs, _, h => by
    obtain ⟨v, r, e, h1, h2⟩ := h
    exact ⟨v, r, e, Rep.mono hz x v h1, RepL.mono hz xs r h2⟩
end

theorem RepL.length {Z : PH} : ∀ {ds : List V} {vs : List Value}, RepL Z ds vs → vs.length = ds.length
  | [], _, h => by rw [h]; rfl
  | _ :: _, _, h => by
    obtain ⟨v, r, e, _, h2⟩ := h
    rw [e, List.length_cons, List.length_cons, RepL.length h2]
theorem RepL.append {Z : PH} : ∀ {ds es : List V} {vs us : List Value}, RepL Z ds vs → RepL Z es us → RepL Z (ds ++ es) (vs ++ us)
  | [], _, _, _, h, h' => by rw [h]; exact h'
  | _ :: _, _, _, _, h, h' => by
    obtain ⟨v, r, e, h1, h2⟩ := h
    exact ⟨v, r ++ _, by rw [e]; rfl, h1, RepL.append h2 h'⟩
theorem RepL.one {Z : PH} {d : V} {v : Value} (h : Rep Z d v) : RepL Z [d] [v] := ⟨v, [], rfl, h, rfl⟩
theorem RepL.get {Z : PH} : ∀ {ds : List V} {vs : List Value} (_ : RepL Z ds vs) (i : Nat) (d : V), ds[i]? = some d → ∃ v, vs[i]? = some v ∧ Rep Z d v
  | [], _, _, _, _, e => by simp at e
  | _ :: _, _, h, 0, d, e => by
    obtain ⟨v, r, rfl, h1, _⟩ := h
    simp at e; subst e
    exact ⟨v, rfl, h1⟩
  | _ :: _, _, h, i + 1, d, e => by
    obtain ⟨v, r, rfl, _, h2⟩ := h
    simp at e
    obtain ⟨u, hu, hr⟩ := RepL.get h2 i d e
    exact ⟨u, by simpa using hu, hr⟩
theorem RepL.get' {Z : PH} {ds : List V} {vs : List Value} (h : RepL Z ds vs) (i : Nat) (v : Value) (e : vs[i]? = some v) : ∃ d, ds[i]? = some d ∧ Rep Z d v := by
  have hi : i < ds.length := by
    rw [← h.length]
    exact (List.getElem?_eq_some_iff.mp e).1
  obtain ⟨u, hu, hr⟩ := RepL.get h i ds[i] (by simp [hi])
  rw [e] at hu; cases hu
  exact ⟨_, by simp [hi], hr⟩
theorem RepL.take {Z : PH} : ∀ (k : Nat) {ds : List V} {vs : List Value}, RepL Z ds vs → RepL Z (ds.take k) (vs.take k)
  | 0, _, _, _ => by simp [RepL]
  | k + 1, [], _, h => by rw [h]; simp [RepL]
  | k + 1, x :: xs, _, h => by
    obtain ⟨v, r, rfl, h1, h2⟩ := h
    exact ⟨v, r.take k, by simp, h1, RepL.take k h2⟩
theorem RepL.drop {Z : PH} : ∀ (k : Nat) {ds : List V} {vs : List Value}, RepL Z ds vs → RepL Z (ds.drop k) (vs.drop k)
  | 0, _, _, h => by simpa using h
  | k + 1, [], _, h => by rw [h]; simp [RepL]
  | k + 1, x :: xs, _, h => by
    obtain ⟨v, r, rfl, h1, h2⟩ := h
    simpa using RepL.drop k h2
theorem RepL.of_get {Z : PH} : ∀ {ds : List V} {vs : List Value}, vs.length = ds.length → (∀ (i : Nat) (d : V) (v : Value), ds[i]? = some d → vs[i]? = some v → Rep Z d v) → RepL Z ds vs
  | [], [], _, _ => rfl
  | [], _ :: _, h, _ => by simp at h
  | _ :: _, [], h, _ => by simp at h
  | d :: ds, v :: vs, h, hr => ⟨v, vs, rfl, hr 0 d v rfl rfl, RepL.of_get (by simpa using h) fun i d' v' h1 h2 => hr (i + 1) d' v' (by simpa using h1) (by simpa using h2)⟩

theorem Rep.int_inv {Z : PH} {i : Int} {v : Value} (h : Rep Z (.int i) v) : ∃ t, v = .int i t := h
theorem Rep.list_inv {Z : PH} {xs : List V} {v : Value} (h : Rep Z (.list xs) v) : ∃ a o vs n, v = .ref a ∧ Z.o a o ∧ o.cls = .type "list" ∧ o.data = .seq (List.toArray vs) n ∧ RepL Z xs vs := h

/-- the heap only grows -/
abbrev Up (h h' : Heap) : Prop := ∀ b o, h.get? b = some o → h'.get? b = some o
theorem kp_refl (s : Shared) : Keeps s s := ⟨s.heap, s.toks, rfl, fun _ _ e => e⟩
theorem kp_trans {s s' s'' : Shared} (h : Keeps s s') (h' : Keeps s' s'') : Keeps s s'' := by
  obtain ⟨h1, t1, rfl, k1⟩ := h
  obtain ⟨h2, t2, rfl, k2⟩ := h'
  exact ⟨h2, t2, rfl, fun b o e => k2 b o (k1 b o e)⟩
theorem kp_up {s s' : Shared} (h : Keeps s s') : Up s.heap s'.heap := by
  obtain ⟨h1, t1, rfl, k1⟩ := h
  exact k1

/-- a state and what is known of its floats' tokens -/
structure GS where
  s : Shared
  F : Tok → UInt64 → Prop
  fn : ∀ t a b, F t a → F t b → a = b
  lt : ∀ t a, F t a → t < s.toks
  gt : ∀ t a, F t a → 0 < t
  pos : 0 < s.toks
structure GS.Le (g g' : GS) : Prop where
  k : Keeps g.s g'.s
  t : g.s.toks ≤ g'.s.toks
  F : ∀ t a, g.F t a → g'.F t a
theorem GS.Le.refl (g : GS) : g.Le g := ⟨kp_refl _, Nat.le_refl _, fun _ _ h => h⟩
theorem GS.Le.trans {g g' g'' : GS} (h : g.Le g') (h' : g'.Le g'') : g.Le g'' := ⟨kp_trans h.k h'.k, Nat.le_trans h.t h'.t, fun t a f => h'.F t a (h.F t a f)⟩
abbrev GS.h (g : GS) : Heap := g.s.heap
theorem GS.Le.up {g g' : GS} (h : g.Le g') : Up g.h g'.h := kp_up h.k
/-- the same knowledge of floats at a later state -/
noncomputable def GS.at (g : GS) (s' : Shared) (ht : g.s.toks ≤ s'.toks) : GS := ⟨s', g.F, g.fn, fun t a f => Nat.lt_of_lt_of_le (g.lt t a f) ht, g.gt, Nat.lt_of_lt_of_le g.pos ht⟩
theorem GS.at_le (g : GS) (s' : Shared) (ht : g.s.toks ≤ s'.toks) (k : Keeps g.s s') : g.Le (g.at s' ht) := ⟨k, ht, fun _ _ f => f⟩
/-- a float of the newest token -/
noncomputable def GS.flt (g : GS) (u : UInt64) : GS where
  s := { g.s with toks := g.s.toks + 1 }
  F := fun t a => g.F t a ∨ (t = g.s.toks ∧ a = u)
  fn := fun t a b h h' => by
    rcases h with h | ⟨h1, h2⟩ <;> rcases h' with h' | ⟨h1', h2'⟩
    · exact g.fn t a b h h'
    · exact absurd (g.lt t a h) (by rw [h1']; exact Nat.lt_irrefl _)
    · exact absurd (g.lt t b h') (by rw [h1]; exact Nat.lt_irrefl _)
    · rw [h2, h2']
  lt := fun t a h => by
    rcases h with h | ⟨h, _⟩
    · exact Nat.lt_succ_of_lt (g.lt t a h)
    · rw [h]; exact Nat.lt_succ_self _
  gt := fun t a h => by
    rcases h with h | ⟨h, _⟩
    · exact g.gt t a h
    · rw [h]; exact g.pos
  pos := Nat.succ_pos _
theorem GS.flt_le (g : GS) (u : UInt64) : g.Le (g.flt u) := ⟨⟨_, _, rfl, fun _ _ e => e⟩, Nat.le_succ _, fun _ _ f => .inl f⟩

noncomputable def res (μ : Addr → Prop) (g : GS) : PH := ⟨fun b o => ¬ μ b ∧ g.h.get? b = some o, g.F, g.s.toks⟩
theorem res_mono {μ : Addr → Prop} {g g' : GS} (u : g.Le g') : (res μ g).Le (res μ g') := ⟨fun b o x => ⟨x.1, u.up b o x.2⟩, u.F, u.t⟩
theorem Rep.up {μ : Addr → Prop} {g g' : GS} {d : V} {v : Value} (u : g.Le g') (r : Rep (res μ g) d v) : Rep (res μ g') d v := Rep.mono (res_mono u) d v r
theorem RepL.up {μ : Addr → Prop} {g g' : GS} {d : List V} {v : List Value} (u : g.Le g') (r : RepL (res μ g) d v) : RepL (res μ g') d v := RepL.mono (res_mono u) d v r

section
variable (prog : Program) (w : World)
/-- the tree ends with a value for d; the heap only grows -/
noncomputable def Ev (A : Around) (μ : Addr → Prop) (t : Sem Value) (d : V) (g : GS) : Prop :=
  ∀ (E : Value → Shared → Prop) (Q : Value → Shared → Prop), (∀ v g', g.Le g' → Rep (res μ g') d v → Q v g'.s) → wpAny (model prog w) A t Q E g.s
noncomputable def EvB (A : Around) (t : Sem Bool) (d : Bool) (g : GS) : Prop :=
  ∀ (E : Value → Shared → Prop) (Q : Bool → Shared → Prop), (∀ g', g.Le g' → Q d g'.s) → wpAny (model prog w) A t Q E g.s
noncomputable def EvL (A : Around) (μ : Addr → Prop) (t : Sem (List Value)) (ds : List V) (g : GS) : Prop :=
  ∀ (E : Value → Shared → Prop) (Q : List Value → Shared → Prop), (∀ vs g', g.Le g' → RepL (res μ g') ds vs → Q vs g'.s) → wpAny (model prog w) A t Q E g.s
/-- the same of a step that makes no float -/
noncomputable def Ev0 {α : Type} (A : Around) (t : Sem α) (P : α → Shared → Prop) (s : Shared) : Prop :=
  ∀ (E : Value → Shared → Prop) (Q : α → Shared → Prop), (∀ v s', Keeps s s' → P v s' → Q v s') → wpAny (model prog w) A t Q E s
end
theorem Ev0.go {α : Type} {prog : Program} {w : World} {A : Around} {t : Sem α} {P : α → Shared → Prop} {g : GS} (h : Ev0 prog w A t P g.s) {E : Value → Shared → Prop} {Q : α → Shared → Prop}
    (hQ : ∀ v (s' : Shared) (ht : g.s.toks ≤ s'.toks) (k : Keeps g.s s'), P v s' → Q v s') : wpAny (model prog w) A t Q E g.s :=
  wpAny_mono (wpAny_toks_of (n := g.s.toks) (Nat.le_refl _) (h (fun _ _ => False) (fun v s' => Keeps g.s s' ∧ P v s') fun v s' k p => ⟨k, p⟩)) (fun v s' x => hQ v s' x.1 x.2.1 x.2.2) fun _ _ x => x.2.elim

/-- where a name's value lies -/
noncomputable def VarIs (env : Env) (h : Heap) (x : Str) (v : Value) : Prop :=
  (env.kindOf x = some .local ∧ ∃ m, h.Ns env.locals m ∧ m x = some v) ∨
  ((env.kindOf x = some .cell ∨ env.kindOf x = some .free) ∧ ∃ c, env.cells.lookup x = some c ∧ h.IsCell c (some v))
theorem VarIs.up {env : Env} {h h' : Heap} {x : Str} {v : Value} (u : Up h h') (r : VarIs env h x v) : VarIs env h' x v := by
  rcases r with ⟨k, m, hn, hv⟩ | ⟨k, c, hc, hv⟩
  · exact .inl ⟨k, m, hn.keeps u, hv⟩
  · exact .inr ⟨k, c, hc, hv.keeps u⟩

/-- f is the function object of fn -/
noncomputable def FnIs (h : Heap) (fn : Fn) (f : Addr) : Prop := ∃ o name qual ps sc dV kV doc pm an cdv ct, h.get? f = some o ∧
  o.data = .func (fnX name qual ps fn.body sc [] dV kV doc pm an cdv ct) ∧ h.CodeRec cdv qual ∧
  fn.names = sc.names ∧ sc.kind = .function ∧ sc.isCoroutine = false ∧ sc.isGenerator = false ∧ (∀ x, sc.names.lookup x ≠ some .free) ∧
  (∀ x ∈ fn.params, sc.names.lookup x = some .local ∨ sc.names.lookup x = some .cell) ∧
  (∀ vals, vals.length = fn.params.length → bindArgs (fnX name qual ps fn.body sc [] dV kV doc pm an cdv ct) ⟨vals, []⟩ = pure (fn.params.zip vals))
theorem FnIs.up {h h' : Heap} {fn : Fn} {f : Addr} (u : Up h h') (F : FnIs h fn f) : FnIs h' fn f := by
  obtain ⟨o, name, qual, ps, sc, dV, kV, doc, pm, an, cdv, ct, a2, a3, a4, a5⟩ := F
  exact ⟨o, name, qual, ps, sc, dV, kV, doc, pm, an, cdv, ct, u _ _ a2, a3, a4.keeps u, a5⟩

/-- what the text's top holds: its defs, its constant, the built-in names -/
structure Glob (tab : Tab) (glob : Str → Option V) (h : Heap) : Prop where
  lim : h.NoLimit
  booked : NoneBooked h
  top : ∃ mg mb, h.Ns mainGlobals mg ∧ h.Ns builtinsNs mb ∧
    (∀ x d, glob x = some d → ∃ t y, d = .str y ∧ mg x = some (.str y t)) ∧
    (∀ x, tab x = none → x ∈ (["len", "min", "max", "sum", "sorted", "int", "range", "isinstance", "bool", "enumerate"] : List String).map Str.ofString → mg x = none ∧ mb x = bootBuiltins x) ∧
    (∀ x fn, (tab x = some fn ∨ (x = "indexOf" ∧ idxFn = some fn)) → ∃ f, mg x = some (.ref f) ∧ FnIs h fn f)
theorem Glob.up {tab : Tab} {glob : Str → Option V} {h h' : Heap} (u : Up h h') (G : Glob tab glob h) : Glob tab glob h' := by
  obtain ⟨lim, ⟨mc, b1, b2⟩, mg, mb, h1, h2, h3, h4, h5⟩ := G
  refine ⟨lim.keeps u, ⟨mc, b1.keeps u, b2⟩, mg, mb, h1.keeps u, h2.keeps u, h3, h4, fun x fn e => ?_⟩
  obtain ⟨f, a1, a2⟩ := h5 x fn e
  exact ⟨f, a1, a2.up u⟩

/-- the frame at hand, as the mini interpreter sees it -/
structure View (tab : Tab) (glob : Str → Option V) (env : Env) (N : Names) (μ : Addr → Prop) (σ : Sto) (ω : Own) (g : GS) : Prop where
  kind : env.scope.kind = .function
  globals : env.globals = mainGlobals
  builtins : env.builtins = builtinsNs
  lt : ∀ b, μ b → ∃ o, g.h.get? b = some o
  loc : ∀ x, N.lookup x = some .local → env.kindOf x = some .local
  cel : ∀ x, N.lookup x = some .cell → env.kindOf x = some .cell
  fre : ∀ x, N.lookup x = some .free → env.kindOf x = some .cell ∨ env.kindOf x = some .free
  glo : ∀ x, N.lookup x = some .globalImplicit → env.kindOf x = some .globalImplicit
  cells : ∀ x, N.lookup x = some .cell ∨ N.lookup x = some .free → ∃ c, env.cells.lookup x = some c ∧ ∃ o, g.h.get? c = some o
  var : ∀ x d, sget σ x = some d → ∃ v, VarIs env g.h x v ∧ Rep (res μ g) d v
  own : ∀ x xs, ω = some (x, xs) → ∃ a o vs n, VarIs env g.h x (.ref a) ∧ g.h.get? a = some o ∧ o.cls = .type "list" ∧ o.dict = none ∧ o.data = .seq (List.toArray vs) n ∧ RepL (res μ g) xs vs
  G : Glob tab glob g.h

section
variable {tab : Tab} {glob : Str → Option V} {env : Env} {N : Names} {μ : Addr → Prop} {σ : Sto} {ω : Own} {g g' : GS}
theorem View.up (u : g.Le g') (W : View tab glob env N μ σ ω g) : View tab glob env N μ σ ω g' where
  kind := W.kind
  globals := W.globals
  builtins := W.builtins
  lt := fun b hb => let ⟨o, e⟩ := W.lt b hb; ⟨o, u.up _ _ e⟩
  loc := W.loc
  cel := W.cel
  fre := W.fre
  glo := W.glo
  cells := fun x hx => let ⟨c, h1, o, h2⟩ := W.cells x hx; ⟨c, h1, o, u.up _ _ h2⟩
  var := fun x d e => let ⟨v, a, b⟩ := W.var x d e; ⟨v, a.up u.up, b.up u⟩
  own := fun x xs e => let ⟨a, o, vs, n, p, q, r, s, t, z⟩ := W.own x xs e; ⟨a, o, vs, n, p.up u.up, u.up _ _ q, r, s, t, z.up u⟩
  G := W.G.up u.up
theorem View.fresh (W : View tab glob env N μ σ ω g) {a : Addr} (e : g.h.get? a = none) : ¬ μ a := fun hb => by
  obtain ⟨o, x⟩ := W.lt a hb
  rw [e] at x; cases x
end
theorem get_size (h : Heap) : h.get? h.objs.size = none := Heap.get?_none_of_le (Nat.le_refl _)

section
variable {prog : Program} {w : World} {A : Around} {μ : Addr → Prop} {g : GS}
theorem Ev.bind {t : Sem Value} {f : Value → Sem Value} {d e : V} (h : Ev prog w A μ t d g)
    (hf : ∀ v g', g.Le g' → Rep (res μ g') d v → Ev prog w A μ (f v) e g') : Ev prog w A μ (t >>= f) e g := fun E Q hQ =>
  wpAny_bind (h E _ fun v g' k r => hf v g' k r E Q fun u g'' k' r' => hQ u g'' (k.trans k') r')
end
end Mine
end
section
open PySem PySem.W PyProof.Rows PySem.Calls PySem.Flt
set_option maxRecDepth 100000
namespace Mine
section
variable {prog : Program} {w : World} {A : Around} {μ : Addr → Prop} {s : Shared} {g : GS}

theorem kp_tok (s : Shared) (t : Nat) : Keeps s { s with toks := t } := ⟨s.heap, t, rfl, fun _ _ e => e⟩
theorem kp_push (s : Shared) (o : Obj) : Keeps s { s with heap := s.heap.push o } := ⟨_, s.toks, rfl, fun _ _ e => Heap.get?_push_of_some _ e⟩
theorem small_abs {i : Int} (h : small i = true) : i.natAbs < 2 ^ 60 := by
  simp only [small, Bool.and_eq_true, decide_eq_true_eq] at h
  omega
theorem p60_1023 : (2 : Nat) ^ 60 ≤ 2 ^ 1023 := Nat.pow_le_pow_right (by decide) (by decide)
theorem small_fits {i : Int} (h : small i = true) : i.natAbs < 2 ^ 1023 := Nat.lt_of_lt_of_le (small_abs h) p60_1023
theorem mkI_inv {i : Int} {d : V} (h : mkI i = some d) : d = .int i ∧ small i = true := by
  unfold mkI at h; split at h <;> simp_all
theorem mkS_inv {x : Str} {d : V} (h : mkS x = some d) : d = .str x ∧ x.length ≤ 4096 := by
  unfold mkS at h; split at h <;> simp_all
theorem mkL_inv {x : List V} {d : V} (h : mkL x = some d) : d = .list x ∧ x.length ≤ 4096 := by
  unfold mkL at h; split at h <;> simp_all
theorem small_bits {a : Int} (h : small a = true) : Builtin.Int.intBits a ≤ 64 := by
  have h1 := small_abs h
  unfold Builtin.Int.intBits
  first
    | (split
       · omega
       · rename_i h0
         have : a.natAbs ≠ 0 := by simpa using h0
         have := (Nat.log2_lt this).mpr h1
         omega)
    | skip
theorem small_pylong {x y : Int} (h : small x = true) : Builtin.divisionGoesByPylong x y = false := by
  have h1 := small_abs h
  have h3 : (if (x == 0) = true then 0 else x.natAbs.log2 / 30 + 1) ≤ 3 := by
    split
    · omega
    · rename_i h0
      have h2 : x.natAbs ≠ 0 := by simpa using h0
      have h3 := (Nat.log2_lt h2).mpr h1
      omega
  unfold Builtin.divisionGoesByPylong
  simp only [Bool.and_eq_false_imp, decide_eq_true_eq, decide_eq_false_iff_not]
  intro _
  omega
theorem size_4096 : 4096 + 4096 ≤ sizeLine := by decide

/-- a fresh sequence object -/
theorem rep_new {cls : String} {xs : List V} {vs : List Value} {g g' : GS} (lt : ∀ b, μ b → ∃ o, g.h.get? b = some o) (r : RepL (res μ g) xs vs) (u : g.Le g')
    (e : g'.h = g.h.push { cls := .type cls, data := .seq (List.toArray vs) }) :
    ∃ o n, (res μ g').o g.h.objs.size o ∧ o.cls = .type cls ∧ o.data = .seq (List.toArray vs) n ∧ RepL (res μ g') xs vs := by
  refine ⟨{ cls := .type cls, data := .seq (List.toArray vs) }, 0, ⟨fun hb => ?_, by rw [e]; exact Heap.get?_push_size _ rfl⟩, rfl, rfl, r.up u⟩
  obtain ⟨o, e⟩ := lt _ hb
  rw [get_size] at e; cases e
theorem rep_newList {xs : List V} {vs : List Value} {g g' : GS} (lt : ∀ b, μ b → ∃ o, g.h.get? b = some o) (r : RepL (res μ g) xs vs) (u : g.Le g')
    (e : g'.h = g.h.push { cls := .type "list", data := .seq (List.toArray vs) }) : Rep (res μ g') (.list xs) (.ref g.h.objs.size) := by
  obtain ⟨o, n, a, b, c, d⟩ := rep_new (cls := "list") lt r u e
  exact ⟨_, o, vs, n, rfl, a, b, c, d⟩
theorem rep_newTup {xs : List V} {vs : List Value} {g g' : GS} (lt : ∀ b, μ b → ∃ o, g.h.get? b = some o) (r : RepL (res μ g) xs vs) (u : g.Le g')
    (e : g'.h = g.h.push { cls := .type "tuple", data := .seq (List.toArray vs) }) : Rep (res μ g') (.tup xs) (.ref g.h.objs.size) := by
  obtain ⟨o, n, a, b, c, d⟩ := rep_new (cls := "tuple") lt r u e
  exact ⟨_, o, vs, n, rfl, a, b, c, d⟩
theorem le_tok (g : GS) (t : Nat) (h : g.s.toks ≤ t) : g.Le (g.at { g.s with toks := t } h) := g.at_le _ h (kp_tok _ _)
theorem le_push (g : GS) (o : Obj) : g.Le (g.at { g.s with heap := g.s.heap.push o } (Nat.le_refl _)) := g.at_le _ _ (kp_push _ _)
/-- a result that is an int, a bool, a text: the step makes no float -/
theorem Ev.of0 {t : Sem Value} {d : V} {P : Value → Prop} (h : Ev0 prog w A t (fun v _ => P v) g.s) (hr : ∀ v g', P v → Rep (res μ g') d v) : Ev prog w A μ t d g := fun _ _ hQ =>
  h.go fun v s' ht k p => hQ v (g.at s' ht) (g.at_le s' ht k) (hr _ _ p)
theorem Ev.int {t : Sem Value} {i : Int} (h : Ev0 prog w A t (fun v _ => ∃ t, v = .int i t) g.s) : Ev prog w A μ t (.int i) g := Ev.of0 h fun _ _ p => p
theorem Ev.str {t : Sem Value} {i : Str} (h : Ev0 prog w A t (fun v _ => ∃ t, v = .str i t) g.s) : Ev prog w A μ t (.str i) g := Ev.of0 h fun _ _ p => p
theorem Ev.bool {t : Sem Value} {i : Bool} (h : Ev0 prog w A t (fun v _ => v = .bool i) g.s) : Ev prog w A μ t (.bool i) g := Ev.of0 h fun _ _ p => p
theorem Ev.flt {t : Sem Value} {u : UInt64} (h : ∀ (E : Value → Shared → Prop) (Q : Value → Shared → Prop), Q (.float u g.s.toks) { g.s with toks := g.s.toks + 1 } → wpAny (model prog w) A t Q E g.s) : Ev prog w A μ t (.float u) g :=
  fun E Q hQ => h E Q (hQ _ (g.flt u) (g.flt_le u) ⟨_, rfl, .inr ⟨rfl, rfl⟩⟩)

theorem listAdd_sound {xs ys : List V} {u v : Value} (lt : ∀ b, μ b → ∃ o, g.h.get? b = some o) (ra : Rep (res μ g) (.list xs) u) (rb : Rep (res μ g) (.list ys) v) (hs : (xs ++ ys).length ≤ 4096) : Ev prog w A μ (binaryOp .Add u v) (.list (xs ++ ys)) g := by
  obtain ⟨l, o1, vs, n, rfl, z1, c1, d1, l1⟩ := ra
  obtain ⟨l', o2, vs', n', rfl, z2, c2, d2, l2⟩ := rb
  obtain ⟨cls1, dd1, data1, sl1⟩ := o1
  obtain ⟨cls2, dd2, data2, sl2⟩ := o2
  simp only at c1 d1 c2 d2
  subst c1 d1 c2 d2
  have el : (vs ++ vs').length ≤ 4096 := by rw [List.length_append, l1.length, l2.length, ← List.length_append]; exact hs
  have e' : vs.toArray ++ vs'.toArray = (vs ++ vs').toArray := by simp
  intro E Q hQ
  refine concat_meets ⟨_, z1.2, rfl⟩ ⟨_, z2.2, rfl⟩ noFill_list_add seq_list_add PySem.F.slot_list_add PySem.F.entry_list_add (PySem.F.args_list_add_2 _ _)
    (list_addW l l' vs.toArray vs'.toArray n n' dd1 dd2 sl1 sl2 (by simp only [List.size_toArray]; rw [← List.length_append]; exact Nat.le_trans el (by decide))) ⟨z1.2, z2.2, ?_⟩
  rw [e']
  exact hQ _ _ (le_push g _) (rep_newList lt (l1.append l2) (le_push g _) rfl)

theorem binV_sound {op : Operator} {a b d : V} {u v : Value} (lt : ∀ b, μ b → ∃ o, g.h.get? b = some o) (hh : A.handled = none)
    (e : binV op a b = some d) (ra : Rep (res μ g) a u) (rb : Rep (res μ g) b v) : Ev prog w A μ (binaryOp op u v) d g := by
  cases op with
  | Add =>
    cases a <;> first | exact no e | skip
    · cases b <;> first | exact no e | skip
      obtain ⟨rfl, _⟩ := mkI_inv e
      obtain ⟨t, rfl⟩ := ra; obtain ⟨t', rfl⟩ := rb
      exact Ev.int fun E Q hQ => PyProof.Rows.add_int (hQ _ _ (kp_tok _ _) ⟨_, rfl⟩)
    · cases b <;> first | exact no e | skip
      obtain ⟨hs, e⟩ := ite_some e
      cases e
      obtain ⟨t, rfl, _⟩ := ra; obtain ⟨t', rfl⟩ := rb
      exact Ev.flt fun E Q hQ => add_fi_fits (small_fits hs) hQ
    · cases b <;> first | exact no e | skip
      obtain ⟨rfl, hs⟩ := mkS_inv e
      obtain ⟨t, rfl⟩ := ra; obtain ⟨t', rfl⟩ := rb
      refine Ev.str fun E Q hQ => PyProof.Rows.add_str (fun t' tk => hQ _ _ (kp_tok _ _) ⟨_, rfl⟩) ?_
      have : ∀ x y : Str, (x ++ y).length = x.length + y.length := fun x y => by show (x.cps ++ y.cps).size = _; simp [Str.length]
      rw [← this]
      exact Nat.le_trans hs (by decide)
    · cases b <;> first | exact no e | skip
      obtain ⟨rfl, hs⟩ := mkL_inv e
      exact listAdd_sound lt ra rb hs
  | Sub =>
    cases a <;> first | exact no e | skip
    · cases b <;> first | exact no e | skip
      obtain ⟨rfl, _⟩ := mkI_inv e
      obtain ⟨t, rfl⟩ := ra; obtain ⟨t', rfl⟩ := rb
      exact Ev.int fun E Q hQ => sub_int (hQ _ _ (kp_tok _ _) ⟨_, rfl⟩)
    · cases b <;> first | exact no e | skip
      · obtain ⟨hs, e⟩ := ite_some e
        cases e
        obtain ⟨t, rfl, _⟩ := ra; obtain ⟨t', rfl⟩ := rb
        exact Ev.flt fun E Q hQ => sub_fi_fits (small_fits hs) hQ
      · cases e
        obtain ⟨t, rfl, _⟩ := ra; obtain ⟨t', rfl, _⟩ := rb
        exact Ev.flt fun E Q hQ => sub_float hQ
  | Mult =>
    cases a <;> first | exact no e | skip
    · cases b <;> first | exact no e | skip
      obtain ⟨hs, e⟩ := ite_some e
      obtain ⟨rfl, _⟩ := mkI_inv e
      obtain ⟨t, rfl⟩ := ra; obtain ⟨t', rfl⟩ := rb
      exact Ev.int fun E Q hQ => PyProof.Rows.mul_int (hQ _ _ (kp_tok _ _) ⟨_, rfl⟩) (IntMulOk.of_left (small_bits (Bool.and_eq_true_iff.mp hs).1))
    · cases b <;> first | exact no e | skip
      · obtain ⟨hs, e⟩ := ite_some e
        cases e
        obtain ⟨t, rfl, _⟩ := ra; obtain ⟨t', rfl⟩ := rb
        exact Ev.flt fun E Q hQ => mul_fi_fits (small_fits hs) hQ
      · cases e
        obtain ⟨t, rfl, _⟩ := ra; obtain ⟨t', rfl, _⟩ := rb
        exact Ev.flt fun E Q hQ => mul_float hQ
  | Div =>
    cases a <;> first | exact no e | skip
    cases b <;> first | exact no e | skip
    obtain ⟨hs, e⟩ := ite_some e
    cases e
    simp only [Bool.and_eq_true, decide_eq_true_eq] at hs
    obtain ⟨t, rfl⟩ := ra; obtain ⟨t', rfl⟩ := rb
    exact Ev.flt fun E Q hQ => div_ii_fits hh (small_fits hs.1) (fun h0 => absurd h0 (by omega)) (fun _ _ => hQ)
  | Mod =>
    cases a <;> first | exact no e | skip
    cases b <;> first | exact no e | skip
    obtain ⟨hs, e⟩ := ite_some e
    cases e
    obtain ⟨t, rfl⟩ := ra; obtain ⟨t', rfl⟩ := rb
    exact Ev.int fun E Q hQ => mod_int' (by omega) (hQ _ _ (kp_tok _ _) ⟨_, rfl⟩)
  | FloorDiv =>
    cases a <;> first | exact no e | skip
    cases b <;> first | exact no e | skip
    obtain ⟨hs, e⟩ := ite_some e
    cases e
    simp only [Bool.and_eq_true, decide_eq_true_eq] at hs
    obtain ⟨t, rfl⟩ := ra; obtain ⟨t', rfl⟩ := rb
    exact Ev.int fun E Q hQ => floordiv_int (by omega) (hQ _ _ (kp_tok _ _) ⟨_, rfl⟩) (Or.inl (small_pylong hs.1))
  | Pow =>
    cases a <;> first | exact no e | skip
    cases b <;> first | exact no e | skip
    obtain ⟨hs, e⟩ := ite_some e
    simp only [Bool.and_eq_true, decide_eq_true_eq] at hs
    obtain ⟨rfl, _⟩ := mkI_inv e
    obtain ⟨t, rfl⟩ := ra; obtain ⟨t', rfl⟩ := rb
    exact Ev.int fun E Q hQ => pow_int_small (by omega) (by omega) (Nat.lt_of_lt_of_le (small_abs hs.1) (Nat.pow_le_pow_right (by decide) (by decide))) (hQ _ _ (kp_tok _ _) ⟨_, rfl⟩)
  | BitAnd =>
    cases a <;> first | exact no e | skip
    cases b <;> first | exact no e | skip
    cases e
    obtain ⟨t, rfl⟩ := ra; obtain ⟨t', rfl⟩ := rb
    exact Ev.int fun E Q hQ => and_int (hQ _ _ (kp_tok _ _) ⟨_, rfl⟩)
  | RShift =>
    cases a <;> first | exact no e | skip
    cases b <;> first | exact no e | skip
    obtain ⟨hs, e⟩ := ite_some e
    simp only [Bool.and_eq_true, decide_eq_true_eq] at hs
    cases e
    obtain ⟨t, rfl⟩ := ra; obtain ⟨t', rfl⟩ := rb
    exact Ev.int fun E Q hQ => rshift_int (by omega) (hQ _ _ (kp_tok _ _) ⟨_, rfl⟩)
  | _ => exact no e

theorem unV_sound {op : UnaryOp} {a d : V} {u : Value} (e : unV op a = some d) (ra : Rep (res μ g) a u) : Ev prog w A μ (unaryOp op u) d g := by
  cases op <;> cases a <;> first | exact no e | cases e
  · obtain ⟨t, rfl⟩ := ra
    exact Ev.int fun E Q hQ => invert_int (hQ _ _ (kp_tok _ _) ⟨_, rfl⟩)
  · obtain ⟨t, rfl⟩ := ra
    exact Ev.int fun E Q hQ => neg_int (hQ _ _ (kp_tok _ _) ⟨_, rfl⟩)

theorem EvB.of0 {t : Sem Bool} {b : Bool} (h : Ev0 prog w A t (fun v _ => v = b) g.s) : EvB prog w A t b g := fun _ _ hQ =>
  h.go fun v s' ht k p => p ▸ hQ (g.at s' ht) (g.at_le s' ht k)
theorem truthV_sound {a : V} {b : Bool} {u : Value} (e : truthV a = some b) (ra : Rep (res μ g) a u) : EvB prog w A (truthy u) b g := by
  cases a <;> first | exact no e | skip
  · cases e; cases ra
    exact EvB.of0 fun E Q hQ => wpAny_truthy_bool (hQ _ _ (kp_refl _) rfl)
  · cases e; obtain ⟨t, rfl⟩ := ra
    exact EvB.of0 fun E Q hQ => truthy_int (hQ _ _ (kp_refl _) rfl)
  · obtain ⟨hs, e⟩ := ite_some e
    cases e
    obtain ⟨t, rfl⟩ := ra
    refine EvB.of0 fun E Q hQ => PySem.P.truthy_str (by omega) ?_
    have : ∀ n : Nat, ((n : Int) != 0) = (n != 0) := fun n => by
      rw [Bool.eq_iff_iff]; simp
    rw [this]
    exact hQ _ _ (kp_tok _ _) rfl
end
end Mine
end
section
open PySem PySem.W PyProof.Rows PySem.Calls PySem.Flt PySem.SeqAt
set_option maxRecDepth 100000
namespace Mine

theorem allO_cons {f : V → V → Option Bool} {x y : V} {xs ys : List V} {b : Bool} (h : allO f (x :: xs) (y :: ys) = some b) : ∃ c d, f x y = some c ∧ allO f xs ys = some d ∧ (c && d) = b := by
  have h : (match f x y, allO f xs ys with
    | some a, some b => some (a && b)
    | _, _ => Option.none) = some b := h
  cases h1 : f x y with
  | none => rw [h1] at h; exact no h
  | some c =>
    cases h2 : allO f xs ys with
    | none => rw [h1, h2] at h; exact no h
    | some d => rw [h1, h2] at h; exact ⟨c, d, rfl, rfl, Option.some.inj h⟩
theorem allO_at {f : V → V → Option Bool} : ∀ (xs ys : List V) (b : Bool), allO f xs ys = some b → ∀ (i : Nat) (x y : V), xs[i]? = some x → ys[i]? = some y → ∃ c, f x y = some c := by
  intro xs
  induction xs with
  | nil => intro ys b _ i x y e _; exact no e
  | cons x xs ih =>
    intro ys b h i u v e1 e2
    cases ys with
    | nil => exact no h
    | cons y ys =>
      obtain ⟨c, d, h1, h2, _⟩ := allO_cons h
      cases i with
      | zero =>
        cases e1; cases e2
        exact ⟨_, h1⟩
      | succ i => exact ih ys d h2 i u v e1 e2
theorem allO_val {f : V → V → Option Bool} : ∀ (xs ys : List V) (b : Bool), allO f xs ys = some b → ∀ (e : Nat → Bool), (∀ (i : Nat) (x y : V), xs[i]? = some x → ys[i]? = some y → f x y = some (e i)) → (List.range xs.length).all e = b := by
  intro xs
  induction xs with
  | nil =>
    intro ys b h e _
    cases ys with
    | nil => cases h; rfl
    | cons _ _ => exact no h
  | cons x xs ih =>
    intro ys b h e he
    cases ys with
    | nil => exact no h
    | cons y ys =>
      obtain ⟨c, d, h1, h2, rfl⟩ := allO_cons h
      have h0 := he 0 x y rfl rfl
      rw [h1] at h0; cases h0
      have ih := ih ys d h2 (fun i => e (i + 1)) fun i u v e1 e2 => he (i + 1) u v e1 e2
      rw [← ih, List.length_cons, List.range_succ_eq_map, List.all_cons, List.all_map]
      rfl
/-- what == on data says -/
theorem eqV_inv {n : Nat} {x y : V} {b : Bool} (h : eqV (n + 1) x y = some b) : (∃ p q, x = .bool p ∧ y = .bool q ∧ b = (p == q)) ∨ (∃ p q, x = .int p ∧ y = .int q ∧ b = (p == q)) ∨ (∃ p q, x = .str p ∧ y = .str q ∧ b = (p == q)) ∨
    (∃ p q, x = .float p ∧ y = .float q ∧ (Float64.cmp p p == some .eq && Float64.cmp q q == some .eq) = true ∧ b = (Float64.cmp p q == some .eq)) ∨ (∃ p q, x = .float p ∧ y = .int q ∧ b = (Float64.cmpInt p q == some .eq)) ∨
    (∃ xs ys, x = .list xs ∧ y = .list ys ∧ (if (xs.length == ys.length) = true then allO (eqV n) xs ys else some false) = some b) := by
  obtain ⟨x1, ex⟩ : ∃ z, x = z := ⟨_, rfl⟩
  rw [ex] at h
  obtain ⟨y1, ey⟩ : ∃ z, y = z := ⟨_, rfl⟩
  rw [ey] at h
  cases x1 <;> first | exact no h | skip
  · cases y1 <;> first | exact no h | skip
    exact .inl ⟨_, _, ex, ey, (Option.some.inj h).symm⟩
  · cases y1 <;> first | exact no h | skip
    exact .inr (.inl ⟨_, _, ex, ey, (Option.some.inj h).symm⟩)
  · cases y1 <;> first | exact no h | skip
    · exact .inr (.inr (.inr (.inr (.inl ⟨_, _, ex, ey, (Option.some.inj h).symm⟩))))
    · obtain ⟨hc, h⟩ := ite_some h
      exact .inr (.inr (.inr (.inl ⟨_, _, ex, ey, hc, (Option.some.inj h).symm⟩)))
  · cases y1 <;> first | exact no h | skip
    exact .inr (.inr (.inl ⟨_, _, ex, ey, (Option.some.inj h).symm⟩))
  · cases y1 <;> first | exact no h | skip
    exact .inr (.inr (.inr (.inr (.inr ⟨_, _, ex, ey, h⟩))))

/-- one object has one datum, as far as == can tell -/
theorem eqV_same {Z : PH} (hfun : ∀ b o o', Z.o b o → Z.o b o' → o = o') : ∀ (n : Nat) (x y : V) (v : Value) (b : Bool), Rep Z x v → Rep Z y v → eqV n x y = some b → b = true
  | 0, _, _, _, _, _, _, h => no h
  | n + 1, x, y, v, b, rx, ry, h => by
    rcases id (eqV_inv h) with ⟨p, q, rfl, rfl, rfl⟩ | ⟨p, q, rfl, rfl, rfl⟩ | ⟨p, q, rfl, rfl, rfl⟩ | ⟨p, q, rfl, rfl, hc, rfl⟩ | ⟨p, q, rfl, rfl, rfl⟩ | ⟨xs, ys, rfl, rfl, h'⟩
    · cases rx; cases ry; exact beq_self_eq_true _
    · obtain ⟨t, rfl⟩ := rx; obtain ⟨t', e⟩ := ry; cases e; exact beq_self_eq_true _
    · obtain ⟨t, rfl⟩ := rx; obtain ⟨t', e⟩ := ry; cases e; exact beq_self_eq_true _
    · obtain ⟨t, rfl, _⟩ := rx; obtain ⟨t', e, _⟩ := ry; cases e
      exact (Bool.and_eq_true_iff.mp hc).1
    · obtain ⟨t, rfl, _⟩ := rx; obtain ⟨t', e⟩ := ry; cases e
    · obtain ⟨a, o, vs, k, rfl, z1, c1, d1, l1⟩ := rx
      obtain ⟨a', o', vs', k', e, z2, c2, d2, l2⟩ := ry
      cases e
      cases hfun _ _ _ z1 z2
      rw [d1] at d2
      simp only [Data.seq.injEq] at d2
      have e : vs = vs' := by simpa using congrArg Array.toList d2.1
      subst e
      have hl : xs.length = ys.length := by rw [← l1.length, ← l2.length]
      rw [if_pos (by simpa using hl)] at h'
      rw [← allO_val _ _ _ h' (fun _ => true) fun i u v e1 e2 => ?_]
      · exact List.all_eq_true.mpr fun _ _ => rfl
      · obtain ⟨c, hc⟩ := allO_at _ _ _ h' i u v e1 e2
        obtain ⟨p, hp, r1⟩ := l1.get i u e1
        obtain ⟨q, hq, r2⟩ := l2.get i v e2
        rw [hp] at hq; cases hq
        rw [hc, eqV_same hfun n u v p c r1 r2 hc]

theorem res_fun {μ : Addr → Prop} {g : GS} : ∀ b o o', (res μ g).o b o → (res μ g).o b o' → o = o' := fun b o o' x y => by
  have := x.2.symm.trans y.2; cases this; rfl

section
variable {A : Around} {μ : Addr → Prop} {s : Shared} {g : GS}
theorem wpAny_isSame_flt {M : Model} {E : Value → Shared → Prop} {a b : UInt64} {t u : Tok} {Q : Bool → Shared → Prop} (ht : 0 < t) (hu : 0 < u) (hc : t = u → a = b) (hb : NoneBooked s.heap)
    (h1 : a = b → Q true s) (h0 : Q false s) : wpAny M A (isSame (.float a t) (.float b u)) Q E s := by
  show wpAny M A (isSame.created (a == b && !Float64.isNaN a) t u) Q E s
  unfold isSame.created
  refine wpAny_ite ?_
  rw [if_neg (by simp only [Bool.or_eq_true, beq_iff_eq]; exact fun h => h.elim (fun e => Nat.lt_irrefl 0 (e ▸ ht)) (fun e => Nat.lt_irrefl 0 (e ▸ hu)))]
  refine wpAny_ite ?_
  split
  · rename_i h; exact wpAny_pure (h1 (hc (by simpa using h)))
  refine wpAny_ite ?_
  split
  · exact wpAny_pure h0
  rename_i hab
  have e : a = b := by
    simp only [Bool.not_eq_true, Bool.not_eq_false', Bool.and_eq_true, beq_iff_eq] at hab
    exact hab.1
  refine wpAny_bind (wpAny_sharingNotTold_none hb ?_)
  first | rw [if_neg Bool.false_ne_true] | simp only [Bool.false_eq_true, if_false]
  refine wpAny_bind (wpAny_sharingNotTold_none hb ?_)
  first | rw [if_neg Bool.false_ne_true] | simp only [Bool.false_eq_true, if_false]
  have both : ∀ β : Bool, Q β s := fun β => by cases β; exact h0; exact h1 e
  exact wpAny_bind (wpAny_rule (wpAny_bind (wpAny_askSetting (wpAny_pure (both _)))))

theorem EqAt_floats {a b : UInt64} {t u : Tok} (hb : NoneBooked s.heap) (ht : 0 < t) (hu : 0 < u) (hc : t = u → a = b) (ha : (Float64.cmp a a == some .eq) = true) : EqAt A s (.float a t) (.float b u) (Float64.cmp a b == some .eq) := fun prog w E Q h => by
  unfold eqBool
  refine wpAny_holding ?_
  refine wpAny_ite_split (fun hab => ?_) (fun _ => ?_)
  · have e := eq_of_beq hab
    injection e with e1 e2
    subst e1
    rw [ha] at h
    exact wpAny_bind (wpAny_rule (wpAny_pure h))
  · have tail : wpAny (model prog w) A (richCompare .Eq (.float a t) (.float b u) >>= fun r => truthOfDropped r) Q E s :=
      wpAny_bind (AutoFloatOps.eq_0 (wpAny_truthy_bool h))
    refine wpAny_bind (wpAny_isSame_flt ht hu hc hb (fun e => ?_) ?_)
    · subst e
      rw [ha] at h
      exact wpAny_pure h
    · exact tail
theorem EqAt_fi {a : UInt64} {b : Int} {t u : Tok} : EqAt A s (.float a t) (.int b u) (Float64.cmpInt a b == some .eq) := fun prog w E Q h => by
  unfold eqBool
  refine wpAny_holding ?_
  refine wpAny_ite_split (fun hab => ?_) (fun _ => ?_)
  · exact absurd (eq_of_beq hab) (by intro e; cases e)
  · exact wpAny_bind (eq_fi (wpAny_truthy_bool h))

theorem eqV_at_of (hb : NoneBooked g.h) : ∀ (n : Nat) (_ : ∀ (A : Around) (x y : V) (u v : Value) (b : Bool), A.units + n < cLine → Rep (res μ g) x u → Rep (res μ g) y v → eqV n x y = some b → RcAt A g.s u v b)
    (A : Around) (x y : V) (u v : Value) (b : Bool), A.units + n < cLine → Rep (res μ g) x u → Rep (res μ g) y v → eqV n x y = some b → EqAt A g.s u v b
  | 0, _, _, _, _, _, _, _, _, _, _, h => no h
  | n + 1, rc, A, x, y, u, v, b, hu, rx, ry, h => by
    by_cases hl : ∃ xs ys, x = .list xs ∧ y = .list ys
    · obtain ⟨xs, ys, rfl, rfl⟩ := hl
      obtain ⟨a, o, vs, k, rfl, z1, c1, d1, l1⟩ := id rx
      obtain ⟨a', o', vs', k', rfl, z2, c2, d2, l2⟩ := id ry
      by_cases hne : a = a'
      · subst hne
        rw [eqV_same res_fun _ _ _ _ _ rx ry h]
        exact EqAt.same _
      · exact EqAt.of_refs hne (rc A _ _ _ _ b hu rx ry h)
    · rcases id (eqV_inv h) with ⟨p, q, rfl, rfl, rfl⟩ | ⟨p, q, rfl, rfl, rfl⟩ | ⟨p, q, rfl, rfl, rfl⟩ | ⟨p, q, rfl, rfl, hc, rfl⟩ | ⟨p, q, rfl, rfl, rfl⟩ | ⟨xs, ys, rfl, rfl, h'⟩
      · cases rx; cases ry; exact EqAt.bool_bool _ _
      · obtain ⟨t, rfl⟩ := rx; obtain ⟨t', rfl⟩ := ry; exact EqAt.int_int _ _ _ _
      · obtain ⟨t, rfl⟩ := rx; obtain ⟨t', rfl⟩ := ry; exact EqAt.str_str _ _ _ _
      · obtain ⟨t, rfl, f⟩ := rx; obtain ⟨t', rfl, f'⟩ := ry
        exact EqAt_floats hb (g.gt _ _ f) (g.gt _ _ f') (fun e => by subst e; exact g.fn _ _ _ f f') (Bool.and_eq_true_iff.mp hc).1
      · obtain ⟨t, rfl, _⟩ := rx; obtain ⟨t', rfl⟩ := ry; exact EqAt_fi
      · exact absurd ⟨xs, ys, rfl, rfl⟩ hl
/-- == of two lists, element by element -/
noncomputable def eqE (n : Nat) (xs ys : List V) (i : Nat) : Bool := match xs[i]?, ys[i]? with
  | some p, some q => (eqV n p q).getD false
  | _, _ => false
theorem eqE_at {n : Nat} {xs ys : List V} {i : Nat} {p q : V} {c : Bool} (h1 : xs[i]? = some p) (h2 : ys[i]? = some q) (h : eqV n p q = some c) : eqE n xs ys i = c := by
  unfold eqE
  rw [h1, h2]
  show (eqV n p q).getD false = c
  rw [h]; rfl
theorem eqE_all {n : Nat} {xs ys : List V} {b : Bool} (h : allO (eqV n) xs ys = some b) : (List.range xs.length).all (eqE n xs ys) = b := allO_val _ _ _ h (eqE n xs ys) fun i p q e1 e2 => by
  obtain ⟨c, hc⟩ := allO_at _ _ _ h i p q e1 e2
  rw [hc, eqE_at e1 e2 hc]
theorem at_of {vs : List Value} {j : Nat} {p : Value} (h : j < vs.toArray.size) (hp : vs[j]? = some p) : vs.toArray[j] = p := by
  have e : vs[j]? = some vs.toArray[j] := List.getElem?_eq_getElem h
  rw [e] at hp
  exact Option.some.inj hp
/-- the elements of two lists, one by one -/
theorem lists_turn {A : Around} {μ : Addr → Prop} {g : GS} {n : Nat} {xs ys : List V} {vs vs' : List Value} {b : Bool} (l1 : RepL (res μ g) xs vs) (l2 : RepL (res μ g) ys vs') (h : allO (eqV n) xs ys = some b)
    (key : ∀ (x y : V) (u v : Value) (c : Bool), Rep (res μ g) x u → Rep (res μ g) y v → eqV n x y = some c → EqAt A g.s u v c) (j : Nat) (h1 : j < vs.toArray.size) (h2 : j < vs'.toArray.size) : EqAt A g.s vs.toArray[j] vs'.toArray[j] (eqE n xs ys j) := by
  have k1 : j < xs.length := l1.length ▸ h1
  have k2 : j < ys.length := l2.length ▸ h2
  have f1 := List.getElem?_eq_getElem k1
  have f2 := List.getElem?_eq_getElem k2
  obtain ⟨p, hp, r1⟩ := l1.get j xs[j] f1
  obtain ⟨q, hq, r2⟩ := l2.get j ys[j] f2
  obtain ⟨c, hc⟩ := allO_at _ _ _ h j xs[j] ys[j] f1 f2
  rw [at_of h1 hp, at_of h2 hq, eqE_at f1 f2 hc]
  exact key _ _ _ _ c r1 r2 hc
theorem eqV_rc (hb : NoneBooked g.h) : ∀ (n : Nat) (A : Around) (x y : V) (u v : Value) (b : Bool), A.units + n < cLine → Rep (res μ g) x u → Rep (res μ g) y v → eqV n x y = some b → RcAt A g.s u v b
  | 0, _, _, _, _, _, _, _, _, _, h => no h
  | n + 1, A, x, y, u, v, b, hu, rx, ry, h => by
    rcases id (eqV_inv h) with ⟨p, q, rfl, rfl, rfl⟩ | ⟨p, q, rfl, rfl, rfl⟩ | ⟨p, q, rfl, rfl, rfl⟩ | ⟨p, q, rfl, rfl, hc, rfl⟩ | ⟨p, q, rfl, rfl, rfl⟩ | ⟨xs, ys, rfl, rfl, h'⟩
    · cases rx; cases ry; exact RcAt.bool_bool _ _
    · obtain ⟨t, rfl⟩ := rx; obtain ⟨t', rfl⟩ := ry; exact RcAt.int_int _ _ _ _
    · obtain ⟨t, rfl⟩ := rx; obtain ⟨t', rfl⟩ := ry; exact RcAt.str_str _ _ _ _
    · obtain ⟨t, rfl, f⟩ := rx; obtain ⟨t', rfl, f'⟩ := ry
      exact fun prog w E Q hq => AutoFloatOps.eq_0 hq
    · obtain ⟨t, rfl, _⟩ := rx; obtain ⟨t', rfl⟩ := ry
      exact fun prog w E Q hq => eq_fi hq
    · obtain ⟨a, o, vs, k, rfl, z1, c1, d1, l1⟩ := rx
      obtain ⟨a', o', vs', k', rfl, z2, c2, d2, l2⟩ := ry
      have L1 : g.s.heap.IsList a vs.toArray := ⟨o, z1.2, c1, k, d1⟩
      have L2 : g.s.heap.IsList a' vs'.toArray := ⟨o', z2.2, c2, k', d2⟩
      have s1 : vs.toArray.size = xs.length := l1.length
      have s2 : vs'.toArray.size = ys.length := l2.length
      by_cases hl : xs.length = ys.length
      · rw [if_pos (by simpa using hl)] at h'
        have key := RcAt.lists (A := A) (e := eqE n xs ys) L1 L2 (s1.trans (hl.trans s2.symm)) (by omega) fun j h1 h2 =>
          lists_turn l1 l2 h' (fun x y u v c r1 r2 hc => eqV_at_of hb n (eqV_rc hb n) A.in1 x y u v c (by simp only [Around.in1_units]; omega) r1 r2 hc) j h1 h2
        rw [s1, eqE_all h'] at key
        exact key
      · rw [if_neg (by simpa using hl)] at h'
        cases h'
        exact RcAt.lists_lengths L1 L2 (bne_iff_ne.mpr fun e => hl (s1.symm.trans (e.trans s2))) (by omega)
theorem eqV_at (hb : NoneBooked g.h) (n : Nat) (A : Around) (x y : V) (u v : Value) (b : Bool) (hu : A.units + n < cLine) (rx : Rep (res μ g) x u) (ry : Rep (res μ g) y v) (h : eqV n x y = some b) : EqAt A g.s u v b :=
  eqV_at_of hb n (eqV_rc hb n) A x y u v b hu rx ry h
theorem eqV_ne (hb : NoneBooked g.h) (n : Nat) (A : Around) (xs ys : List V) (u v : Value) (b : Bool) (hu : A.units + n < cLine) (rx : Rep (res μ g) (.list xs) u) (ry : Rep (res μ g) (.list ys) v) (h : eqV n (.list xs) (.list ys) = some b) :
    RcNeAt A g.s u v (!b) := by
  cases n with
  | zero => exact no h
  | succ n =>
    have h : (if (xs.length == ys.length) = true then allO (eqV n) xs ys else some false) = some b := h
    obtain ⟨a, o, vs, k, rfl, z1, c1, d1, l1⟩ := rx
    obtain ⟨a', o', vs', k', rfl, z2, c2, d2, l2⟩ := ry
    have L1 : g.s.heap.IsList a vs.toArray := ⟨o, z1.2, c1, k, d1⟩
    have L2 : g.s.heap.IsList a' vs'.toArray := ⟨o', z2.2, c2, k', d2⟩
    have s1 : vs.toArray.size = xs.length := l1.length
    have s2 : vs'.toArray.size = ys.length := l2.length
    by_cases hl : xs.length = ys.length
    · rw [if_pos (by simpa using hl)] at h
      have key := RcNeAt.lists (A := A) (e := eqE n xs ys) L1 L2 (s1.trans (hl.trans s2.symm)) (by omega) fun j h1 h2 =>
        lists_turn l1 l2 h (fun x y u v c r1 r2 hc => eqV_at hb n A.in1 x y u v c (by simp only [Around.in1_units]; omega) r1 r2 hc) j h1 h2
      rw [s1, eqE_all h] at key
      exact key
    · rw [if_neg (by simpa using hl)] at h
      cases h
      exact RcNeAt.lists_lengths L1 L2 (bne_iff_ne.mpr fun e => hl (s1.symm.trans (e.trans s2))) (by omega)
end
section
open AutoSeq1 (wpAny_loadPart')
open MeetsSeq MeetsSeq2 MeetsSeq3 SeqRoads2
noncomputable def LtAt (A : Around) (s : Shared) (y x : Value) (b : Bool) : Prop :=
  ∀ (prog : Program) (w : World) (E : Value → Shared → Prop) (Q : Value → Shared → Prop), Q (.bool b) s → wpAny (model prog w) A (richCompare .Lt y x) Q E s

theorem tuple_lt2 (l b : Addr) (p q p' q' : Value) (n n2 : Nat) (dd dd2 : Option Addr) (sl sl2 : Array (Option Value)) (e1 e2 c1 c2 : Bool) :
    Meets (Builtin.«tuple.__lt__» ⟨[.ref l, .ref b], []⟩)
      (fun A R s => s.heap.get? l = some { cls := .type "tuple", dict := dd, data := .seq #[p, q] n, slots := sl } ∧ s.heap.get? b = some { cls := .type "tuple", dict := dd2, data := .seq #[p', q'] n2, slots := sl2 } ∧
        EqAt A.in1 s p p' e1 ∧ (e1 = true → EqAt A.in1 s q q' e2) ∧ (e1 = false → LtAt A.in1 s p p' c1) ∧ (e1 = true → e2 = false → LtAt A.in1 s q q' c2) ∧
        R (.ok (.ret (.bool (if e1 then (if e2 then false else c2) else c1)))) s) :=
  .of_wp fun prog w A R s h => by
    obtain ⟨hp, g, d, tk, os⟩ := s; obtain ⟨hl, hb, h1, h2, h3, h4, h⟩ := h
    have f2 := AutoSeq1.sub_tuple_tuple
    wp_walk using wpAny_loadPart' hl, wpAny_loadPart' hb, wpAny_forIn_list _ (fun rest (b : Option PySem.Fin × Unit) s' => b.1 = none ∧ s' = ⟨hp, g, d, tk, os⟩ ∧
      (rest = [(p, p'), (q, q')] ∨ (rest = [(q, q')] ∧ e1 = true) ∨ (rest = [] ∧ e1 = true ∧ e2 = true))) _
    case turn =>
      rintro ⟨y, x⟩ rest b s' ⟨hb', rfl, hr⟩
      rcases hr with hr | ⟨hr, he⟩ | ⟨hr, _⟩
      · cases hr
        refine wpAny_bind (h1 prog w _ _ ?_)
        cases hy : e1 with
        | true =>
          wp_walk
          exact ⟨rfl, rfl, .inr (.inl ⟨rfl, rfl⟩)⟩
        | false =>
          rw [hy] at h
          show wpAny _ _ (rule "tuple.compare.by-the-first-pair-that-differs" >>= _) _ _ _
          refine wpAny_bind (wpAny_rule (wpAny_bind (h3 hy prog w _ _ ?_)))
          wp_walk
          exact ⟨_, rfl, by simpa using h⟩
      · cases hr
        refine wpAny_bind (h2 he prog w _ _ ?_)
        cases hy : e2 with
        | true =>
          wp_walk
          exact ⟨rfl, rfl, .inr (.inr ⟨rfl, he, rfl⟩)⟩
        | false =>
          rw [he, hy] at h
          show wpAny _ _ (rule "tuple.compare.by-the-first-pair-that-differs" >>= _) _ _ _
          refine wpAny_bind (wpAny_rule (wpAny_bind (h4 he hy prog w _ _ ?_)))
          wp_walk
          exact ⟨_, rfl, by simpa using h⟩
      · cases hr
    case fin =>
      rintro ⟨b1, b2⟩ s' ⟨hb', rfl, hr⟩
      simp only at hb'
      subst hb'
      rcases hr with hr | ⟨hr, _⟩ | ⟨_, he1, he2⟩
      · cases hr
      · cases hr
      · rw [he1, he2] at h
        wp_walk
        exact ⟨_, rfl, by simpa [Builtin.Tuple.tupleCompareSizes] using h⟩
    case h =>
      exact ⟨rfl, rfl, .inl rfl⟩
end

section
variable {prog : Program} {w : World} {A : Around} {μ : Addr → Prop} {g : GS}
theorem LtAt.tup2 {s : Shared} {l b : Addr} {p q p' q' : Value} {e1 e2 c1 c2 : Bool} (hl : s.heap.IsTuple l #[p, q]) (hb : s.heap.IsTuple b #[p', q']) (hu : A.units < cLine)
    (h1 : EqAt A.in1 s p p' e1) (h2 : e1 = true → EqAt A.in1 s q q' e2) (h3 : e1 = false → LtAt A.in1 s p p' c1) (h4 : e1 = true → e2 = false → LtAt A.in1 s q q' c2) :
    LtAt A s (.ref l) (.ref b) (if e1 then (if e2 then false else c2) else c1) := fun prog w E Q h => by
  obtain ⟨⟨cls, dd, data, sl⟩, ho, hc, n, hd⟩ := id hl
  obtain ⟨⟨cls2, dd2, data2, sl2⟩, ho2, hc2, n2, hd2⟩ := id hb
  simp only at hc hd hc2 hd2
  subst hc hd hc2 hd2
  exact richCompare_meets_room (op := .Lt) ⟨_, ho, rfl⟩ ⟨_, ho2, rfl⟩ PySem.F.slot_tuple_lt PySem.F.entry_tuple_lt (PySem.F.args_tuple_lt_2 _ _) (tuple_lt2 l b p q p' q' n n2 dd dd2 sl sl2 e1 e2 c1 c2)
    ⟨ho, ho2, h1, h2, h3, h4, show Value.bool (if e1 then (if e2 then false else c2) else c1) ≠ Value.notImplemented ∧ Q (.bool (if e1 then (if e2 then false else c2) else c1)) s from ⟨(fun x => nomatch x), h⟩⟩ hu
theorem ltV_at {x y : V} {u v : Value} {b : Bool} (rx : Rep (res μ g) x u) (ry : Rep (res μ g) y v) (h : ltV x y = some b) : LtAt A g.s u v b := by
  cases x <;> first | exact no h | skip
  · cases y <;> first | exact no h | skip
    cases h
    obtain ⟨t, rfl⟩ := rx; obtain ⟨t', rfl⟩ := ry
    exact fun prog w E Q hq => wpAny_lt_int hq
  · cases y <;> first | exact no h | skip
    cases h
    obtain ⟨t, rfl, _⟩ := rx; obtain ⟨t', rfl, _⟩ := ry
    exact fun prog w E Q hq => AutoFloatOps.lt_0 hq
theorem ltP_inv {x y : V} {b : Bool} {P : Prop} (h : ltP x y = some b) (k : ∀ p q p' q' e1 e2 c1 c2, x = .tup [p, q] → y = .tup [p', q'] → eqV 1 p p' = some e1 → (e1 = true → eqV 1 q q' = some e2) → (e1 = false → ltV p p' = some c1) →
    (e1 = true → e2 = false → ltV q q' = some c2) → b = (if e1 then (if e2 then false else c2) else c1) → P) : P := by
  obtain ⟨x1, ex⟩ : ∃ z, x = z := ⟨_, rfl⟩
  rw [ex] at h
  obtain ⟨y1, ey⟩ : ∃ z, y = z := ⟨_, rfl⟩
  rw [ey] at h
  cases x1 <;> first | exact no h | skip
  rename_i l
  cases l with
  | nil => cases y1 <;> exact no h
  | cons p l =>
    cases l with
    | nil => cases y1 <;> exact no h
    | cons q l =>
      cases l with
      | cons _ _ => cases y1 <;> exact no h
      | nil =>
        cases y1 <;> first | exact no h | skip
        rename_i r
        cases r with
        | nil => exact no h
        | cons p' r =>
          cases r with
          | nil => exact no h
          | cons q' r =>
            cases r with
            | cons _ _ => exact no h
            | nil =>
              have h : (match eqV 1 p p' with
                | some true => (match eqV 1 q q' with
                  | some true => some false
                  | some false => ltV q q'
                  | none => none)
                | some false => ltV p p'
                | none => none) = some b := h
              cases h1 : eqV 1 p p' with
              | none => rw [h1] at h; exact no h
              | some e1 =>
                rw [h1] at h
                cases e1 with
                | false => exact k p q p' q' false false b false ex ey h1 (fun e => nomatch e) (fun _ => h) (fun e => nomatch e) rfl
                | true =>
                  cases h2 : eqV 1 q q' with
                  | none => rw [h2] at h; exact no h
                  | some e2 =>
                    rw [h2] at h
                    cases e2 with
                    | true =>
                      cases h
                      exact k p q p' q' true true false false ex ey h1 (fun _ => h2) (fun e => nomatch e) (fun _ e => nomatch e) rfl
                    | false => exact k p q p' q' true false false b ex ey h1 (fun _ => h2) (fun e => nomatch e) (fun _ _ => h) rfl
theorem repL2 {Z : PH} {p q : V} {vs : List Value} (h : RepL Z [p, q] vs) : ∃ u v, vs = [u, v] ∧ Rep Z p u ∧ Rep Z q v := by
  obtain ⟨u, r, rfl, h1, v, r', rfl, h2, h3⟩ := h
  rw [h3]
  exact ⟨u, v, rfl, h1, h2⟩
theorem ltP_at {x y : V} {u v : Value} {b : Bool} (hb : NoneBooked g.h) (hu : A.units + 8 < cLine) (rx : Rep (res μ g) x u) (ry : Rep (res μ g) y v) (h : ltP x y = some b) : LtAt A g.s u v b := by
  refine ltP_inv h fun p q p' q' e1 e2 c1 c2 ex ey h1 h2 h3 h4 eb => ?_
  subst ex ey eb
  obtain ⟨a, o, vs, k, rfl, z1, k1, d1, l1⟩ := rx
  obtain ⟨a', o', vs', k', rfl, z2, k2, d2, l2⟩ := ry
  obtain ⟨u1, v1, rfl, r1, r2⟩ := repL2 l1
  obtain ⟨u2, v2, rfl, s1, s2⟩ := repL2 l2
  have hi : A.in1.units + 1 < cLine := by simp only [Around.in1_units]; omega
  exact LtAt.tup2 ⟨o, z1.2, k1, k, d1⟩ ⟨o', z2.2, k2, k', d2⟩ (by omega) (eqV_at hb 1 _ _ _ _ _ _ hi r1 s1 h1) (fun e => eqV_at hb 1 _ _ _ _ _ _ hi r2 s2 (h2 e)) (fun e => ltV_at r1 s1 (h3 e)) (fun e f => ltV_at r2 s2 (h4 e f))

theorem cmpV_sound {op : CmpOp} {x y : V} {u v : Value} {b : Bool} (hb : NoneBooked g.h) (hu : A.units + 16 < cLine) (rx : Rep (res μ g) x u) (ry : Rep (res μ g) y v) (h : cmpV op x y = some b) :
    Ev prog w A μ (compareOp op u v) (.bool b) g := by
  refine Ev.bool ?_
  obtain ⟨x1, ex⟩ : ∃ z, x = z := ⟨_, rfl⟩
  rw [ex] at h
  obtain ⟨y1, ey⟩ : ∃ z, y = z := ⟨_, rfl⟩
  rw [ey] at h
  cases op with
  | Eq =>
    subst ex ey
    exact fun E Q hQ => eqV_rc hb 8 A _ _ _ _ _ (by omega) rx ry h prog w E Q (hQ _ _ (kp_refl _) rfl)
  | NotEq =>
    cases x1 <;> first | exact no h | skip
    cases y1 <;> first | exact no h | subst ex ey
    rename_i xs ys
    have h : (eqV 8 (.list xs) (.list ys)).map (!·) = some b := h
    cases hc : eqV 8 (.list xs) (.list ys) with
    | none => rw [hc] at h; exact no h
    | some c =>
      rw [hc] at h; cases h
      exact fun E Q hQ => eqV_ne hb 8 A xs ys _ _ c (by omega) rx ry hc prog w E Q (hQ _ _ (kp_refl _) rfl)
  | Lt =>
    cases x1 <;> first | exact no h | skip
    · cases y1 <;> first | exact no h | subst ex ey
      cases h
      obtain ⟨t, rfl⟩ := rx; obtain ⟨t', rfl⟩ := ry
      exact fun E Q hQ => wpAny_lt_int (hQ _ _ (kp_refl _) rfl)
    · cases y1 <;> first | exact no h | subst ex ey
      exact fun E Q hQ => ltP_at hb (by omega) rx ry h prog w E Q (hQ _ _ (kp_refl _) rfl)
  | LtE =>
    cases x1 <;> first | exact no h | skip
    cases y1 <;> first | exact no h | subst ex ey
    cases h
    obtain ⟨t, rfl⟩ := rx; obtain ⟨t', rfl⟩ := ry
    exact fun E Q hQ => le_int (hQ _ _ (kp_refl _) rfl)
  | Gt =>
    cases x1 <;> first | exact no h | skip
    cases y1 <;> first | exact no h | subst ex ey
    cases h
    obtain ⟨t, rfl⟩ := rx; obtain ⟨t', rfl⟩ := ry
    exact fun E Q hQ => gt_int (hQ _ _ (kp_refl _) rfl)
  | GtE =>
    cases x1 <;> first | exact no h | skip
    cases y1 <;> first | exact no h | subst ex ey
    cases h
    obtain ⟨t, rfl⟩ := rx; obtain ⟨t', rfl⟩ := ry
    exact fun E Q hQ => ge_int (hQ _ _ (kp_refl _) rfl)
  | NotIn =>
    cases x1 <;> first | exact no h | skip
    cases y1 <;> first | exact no h | subst ex ey
    cases h
    obtain ⟨t, rfl⟩ := rx; obtain ⟨t', rfl⟩ := ry
    exact fun E Q hQ => notIn_str (hQ _ _ (kp_refl _) (by rw [Bool.not_not]))
  | _ => exact no h
end
end Mine
end
section
open PySem PySem.W PyProof.Rows PySem.Calls PySem.Flt PySem.SeqAt
set_option maxRecDepth 100000
namespace Mine
section
variable {prog : Program} {w : World} {A : Around} {μ : Addr → Prop} {g : GS}

theorem intsOf_rep {Z : PH} : ∀ {ds : List V} {vs : List Value} {ns : List Int}, intsOf ds = some ns → RepL Z ds vs → IntsAre vs ns
  | [], _, _, h, r => by cases h; rw [r]; exact .nil
  | .int i :: ds, _, _, h, r => by
    obtain ⟨v, rs, rfl, ⟨t, rfl⟩, r2⟩ := r
    simp only [intsOf] at h
    cases h' : intsOf ds with
    | none => rw [h'] at h; cases h
    | some l => rw [h'] at h; cases h; exact .cons i t (intsOf_rep h' r2)
  | .none :: _, _, _, h, _ => no h
  | .bool _ :: _, _, _, h, _ => no h
  | .float _ :: _, _, _, h, _ => no h
  | .str _ :: _, _, _, h, _ => no h
  | .chr _ :: _, _, _, h, _ => no h
  | .tup _ :: _, _, _, h, _ => no h
  | .list _ :: _, _, _, h, _ => no h

theorem foldl_min_spec : ∀ (r : List Int) (x : Int), r.foldl min x ∈ x :: r ∧ ∀ a ∈ x :: r, r.foldl min x ≤ a
  | [], x => by simp
  | y :: r, x => by
    obtain ⟨h1, h2⟩ := foldl_min_spec r (min x y)
    refine ⟨?_, fun a ha => ?_⟩
    · rw [List.foldl_cons]
      rcases List.mem_cons.mp h1 with h | h
      · rw [h]
        by_cases c : x ≤ y
        · rw [Int.min_eq_left c]; exact List.mem_cons_self
        · rw [Int.min_eq_right (by omega)]; exact List.mem_cons_of_mem _ List.mem_cons_self
      · exact List.mem_cons_of_mem _ (List.mem_cons_of_mem _ h)
    · rw [List.foldl_cons]
      have h0 := h2 (min x y) List.mem_cons_self
      rcases List.mem_cons.mp ha with rfl | ha
      · omega
      · rcases List.mem_cons.mp ha with rfl | ha
        · omega
        · exact h2 a (List.mem_cons_of_mem _ ha)
theorem foldl_max_spec : ∀ (r : List Int) (x : Int), r.foldl max x ∈ x :: r ∧ ∀ a ∈ x :: r, a ≤ r.foldl max x
  | [], x => by simp
  | y :: r, x => by
    obtain ⟨h1, h2⟩ := foldl_max_spec r (max x y)
    refine ⟨?_, fun a ha => ?_⟩
    · rw [List.foldl_cons]
      rcases List.mem_cons.mp h1 with h | h
      · rw [h]
        by_cases c : x ≤ y
        · rw [Int.max_eq_right c]; exact List.mem_cons_of_mem _ List.mem_cons_self
        · rw [Int.max_eq_left (by omega)]; exact List.mem_cons_self
      · exact List.mem_cons_of_mem _ (List.mem_cons_of_mem _ h)
    · rw [List.foldl_cons]
      have h0 := h2 (max x y) List.mem_cons_self
      rcases List.mem_cons.mp ha with rfl | ha
      · omega
      · rcases List.mem_cons.mp ha with rfl | ha
        · omega
        · exact h2 a (List.mem_cons_of_mem _ ha)

theorem kp_heap (s : Shared) (h' : Heap) (tk : Nat) (hk : Up s.heap h') : Keeps s { s with heap := h', toks := tk } := ⟨h', tk, rfl, hk⟩

theorem min_sound {l : Addr} {vs : List Value} {ns : List Int} {m : Int} (hh : A.handled = none) (hl : g.s.heap.IsList l vs.toArray) (hi : IntsAre vs ns) (hm : minL ns = some m) :
    Ev prog w A μ (call (.builtin "min") [.ref l]) (.int m) g := Ev.int fun E Q h => by
  cases ns with
  | nil => cases hm
  | cons x r =>
    cases hm
    obtain ⟨xs, e⟩ := hi.allInts.items
    have hns : x :: r = xs.toList.map (·.1) := by
      rw [← hi.numsOf, ← nums_intItems, ← e]
    have hsz : 0 < xs.size := by
      have := congrArg List.length hns
      simp at this; omega
    rw [e] at hl
    refine min_intList hh hl hsz fun v h' tk hv hk => ?_
    obtain ⟨t, rfl⟩ := intItems_at hv
    obtain ⟨h1, h2⟩ := argBest_lt (numAt xs) (xs.size - 1)
    obtain ⟨k1, k2⟩ := foldl_min_spec r x
    refine h _ _ (kp_heap _ h' tk hk) ⟨t, ?_⟩
    congr 1
    apply Int.le_antisymm
    · rw [hns] at k1
      obtain ⟨j, hj, e2⟩ := mem_getD k1
      rw [List.length_map, Array.length_toList] at hj
      rw [← e2, ← numAt_eq]; exact h2 j (by omega)
    · refine k2 _ ?_
      rw [hns, numAt_eq]; exact getD_mem (by rw [List.length_map, Array.length_toList]; omega)
theorem max_sound {l : Addr} {vs : List Value} {ns : List Int} {m : Int} (hh : A.handled = none) (hl : g.s.heap.IsList l vs.toArray) (hi : IntsAre vs ns) (hm : maxL ns = some m) :
    Ev prog w A μ (call (.builtin "max") [.ref l]) (.int m) g := Ev.int fun E Q h => by
  cases ns with
  | nil => cases hm
  | cons x r =>
    cases hm
    obtain ⟨xs, e⟩ := hi.allInts.items
    have hns : x :: r = xs.toList.map (·.1) := by
      rw [← hi.numsOf, ← nums_intItems, ← e]
    have hsz : 0 < xs.size := by
      have := congrArg List.length hns
      simp at this; omega
    rw [e] at hl
    refine max_intList hh hl hsz fun v h' tk hv hk => ?_
    obtain ⟨t, rfl⟩ := intItems_at hv
    obtain ⟨h1, h2⟩ := argBest_gt (numAt xs) (xs.size - 1)
    obtain ⟨k1, k2⟩ := foldl_max_spec r x
    refine h _ _ (kp_heap _ h' tk hk) ⟨t, ?_⟩
    congr 1
    apply Int.le_antisymm
    · refine k2 _ ?_
      rw [hns, numAt_eq]; exact getD_mem (by rw [List.length_map, Array.length_toList]; omega)
    · rw [hns] at k1
      obtain ⟨j, hj, e2⟩ := mem_getD k1
      rw [List.length_map, Array.length_toList] at hj
      rw [← e2, ← numAt_eq]; exact h2 j (by omega)
theorem preSum_list : ∀ (ns : List Int) (n : Nat), n = ns.length → preSum (fun i => ns.getD i 0) n = ns.sum := by
  intro ns
  have key : ∀ n, n ≤ ns.length → preSum (fun i => ns.getD i 0) n = (ns.take n).sum := by
    intro n
    induction n with
    | zero => intro _; simp [preSum]
    | succ n ih =>
      intro hn
      rw [preSum, ih (by omega), List.take_add_one, List.sum_append]
      simp [show n < ns.length by omega]
  intro n hn
  rw [key n (by omega), hn, List.take_length]
theorem sum_sound {l : Addr} {vs : List Value} {ns : List Int} (hh : A.handled = none) (hl : g.s.heap.IsList l vs.toArray) (hi : IntsAre vs ns) :
    Ev prog w A μ (call (.builtin "sum") [.ref l]) (.int ns.sum) g := Ev.int fun E Q h => by
  refine call_sum_walkG (wpAny_pyIter_list hl ?_)
  have hlt : l < g.s.heap.objs.size := by obtain ⟨_, x, _⟩ := hl; exact Heap.lt_size x
  refine ⟨_, _, _, _, _, _, fun i => ns.getD i 0, rfl, Walks.list (A := A.in1) hh g.s.heap.objs.size l (Nat.ne_of_lt hlt) vs.toArray, ⟨⟨_, Heap.get?_push_size _ rfl, rfl, rfl⟩, hl.push _⟩, fun b hb => ?_, fun i v hv => ?_, fun h' tk t' hk => ?_⟩
  · show b < (g.s.heap.push _).objs.size
    rw [Heap.size_push]
    rcases List.mem_cons.mp hb with rfl | hb
    · exact Nat.lt_succ_self _
    · rw [List.mem_singleton.mp hb]; exact Nat.lt_succ_of_lt hlt
  · obtain ⟨k, t, e, hk⟩ := IntsAre.at hi i v (by simpa using hv)
    exact ⟨t, by rw [e]; show Value.int k t = Value.int (ns.getD i 0) t; rw [List.getD_eq_getElem?_getD, hk]; rfl⟩
  · rw [preSum_list ns _ (by simp [hi.length])]
    refine h _ _ (kp_heap _ h' tk fun b o e => hk b o (fun hb => ?_) (Heap.get?_push_of_some _ e)) ⟨t', rfl⟩
    rw [List.mem_singleton.mp hb, get_size] at e; cases e
end
end Mine
end
section
open PySem PySem.W PyProof.Rows PySem.Calls PySem.Flt PySem.SeqAt
set_option maxRecDepth 100000
namespace Mine
section
variable {prog : Program} {w : World} {A : Around} {μ : Addr → Prop} {g : GS}

theorem oneLt_float {E : Value → Shared → Prop} {s : Shared} {a b : UInt64} {t u : Tok} {Q : Bool → Shared → Prop} (h : Q (Float64.cmp a b == some .lt) s) : wpAny (model prog w) A (oneLt' true (.float a t) (.float b u)) Q E s := by
  rw [oneLt'_eq]
  simp only [if_true]
  refine wpAny_bind (wpAny_cRoomFor_byValue rfl ?_)
  refine wpAny_bind (wpAny_callSpecialIfBound?_slot (AutoFloatOps.typeIs_float s a t) PySem.F.slot_float_lt
    (call_gives PySem.F.slot_float_lt (AutoFloatOps.typeIs_float s a t) PySem.F.entry_float_lt (PySem.F.args_float_lt_2 _ _) (AutoFloatG5.float___lt___float_float_0 a t b u) ?_))
  exact wpAny_truthy_bool h

theorem kasWp_run {α : Type} {cmp : Nat → Nat → (Bool → Shared → Prop) → Shared → Prop} {lt : Nat → Nat → Option Bool} {s : Shared} {G : α → Shared → Prop}
    (hask : ∀ i j b, lt i j = some b → ∀ C : Bool → Shared → Prop, C b s → cmp i j C s) : ∀ (t : KasT α) (a : α), runT lt t = some a → G a s → t.kasWp cmp G s
  | .ret a, b, h, hg => by
    simp only [runT, Option.some.injEq] at h
    subst h
    exact hg
  | .ask i j k, b, h, hg => by
    simp only [runT] at h
    split at h
    · rename_i c hc
      exact hask i j c hc _ (kasWp_run hask (k c) b h hg)
    · cases h

theorem list_sort_at {E : Value → Shared → Prop} {s : Shared} {a : Addr} {vs : List Value} {n : Nat} {κ : SortKind} {lt : Nat → Nat → Option Bool} {p : Array Nat} {P : PySem.Fin → Shared → Prop}
    (ho : s.heap.get? a = some (seqObj "list" vs.toArray n)) (h2 : 2 ≤ vs.length) (h64 : vs.length < 64) (hrun : runT lt (kas_sort vs.length) = some p)
    (hk : ∀ h' : Heap, (∀ b o, b ≠ a → s.heap.get? b = some o → h'.get? b = some o) → ∀ Q : SortKind → Shared → Prop, Q κ { s with heap := h' } → wpAny (model prog w) A (keyKind' vs.toArray) Q (fun _ _ => False) { s with heap := h' })
    (hask : ∀ h' : Heap, (∀ b o, b ≠ a → s.heap.get? b = some o → h'.get? b = some o) → ∀ i j b, lt i j = some b → ∀ C : Bool → Shared → Prop, C b { s with heap := h' } → kas_ask prog w A κ vs i j C { s with heap := h' })
    (h : ∀ (h' : Heap) (c : Nat), (∀ b o, b ≠ a → s.heap.get? b = some o → h'.get? b = some o) → h'.get? a = some (seqObj "list" (List.toArray (p.toList.map fun i => vs.getD i Value.none)) c) → P (.done (.ret .none)) { s with heap := h' }) :
    wpAny (model prog w) A (Builtin.«list.sort» ⟨[.ref a], []⟩) P E s := by
  have ha : a < s.heap.objs.size := Heap.lt_size ho
  obtain ⟨e1, ho1⟩ : ∃ e1, (s.heap.update a (Obj.mapSeq fun _ => (#[] : Array Value))).get? a = some (seqObj "list" #[] e1) := ⟨_, get?_update_seq ho fun _ => #[]⟩
  have keep3 : ∀ b o, b ≠ a → s.heap.get? b = some o → (((s.heap.update a (Obj.mapSeq fun _ => (#[] : Array Value))).push (seqObj "tuple" vs.toArray 0)).push (seqObj "list" #[] 0)).get? b = some o := fun b o hb e =>
    Heap.get?_push_of_some _ (Heap.get?_push_of_some _ ((Heap.get?_update_ne _ _ _ _ hb).trans e))
  have ho3 : (((s.heap.update a (Obj.mapSeq fun _ => (#[] : Array Value))).push (seqObj "tuple" vs.toArray 0)).push (seqObj "list" #[] 0)).get? a = some (seqObj "list" #[] e1) :=
    Heap.get?_push_of_some _ (Heap.get?_push_of_some _ ho1)
  rw [list_sort_plain]
  refine wpAny_bind (listItems_at ho rfl ?_)
  refine wpAny_bind (listUpdate_at ho rfl ?_ (by rw [List.size_toArray, sizeLine_eq]; omega) (Nat.zero_le _))
  refine wpAny_bind (seqEpoch_at ho1 rfl ?_)
  refine wpAny_bind (wpAny_newTuple ?_ (by show vs.length ≤ _; rw [sizeLine_eq]; omega))
  refine wpAny_bind (wpAny_newList ?_ (Nat.zero_le _))
  refine wpAny_holding ?_
  show wpAny (model prog w) A _ P E { s with heap := ((s.heap.update a (Obj.mapSeq fun _ => (#[] : Array Value))).push (seqObj "tuple" vs.toArray 0)).push (seqObj "list" #[] 0) }
  generalize hH3 : ((s.heap.update a (Obj.mapSeq fun _ => (#[] : Array Value))).push (seqObj "tuple" vs.toArray 0)).push (seqObj "list" #[] 0) = H3 at keep3 ho3
  dsimp only
  have hn2 : ¬ vs.toArray.size < 2 := by rw [List.size_toArray]; omega
  rw [if_neg hn2, if_neg hn2]
  refine wpAny_bind (wpAny_mono (hk H3 keep3 (fun κ' s' => κ' = κ ∧ s' = { s with heap := H3 }) ⟨rfl, rfl⟩) (fun κ' s0 hk' => ?_) fun _ _ x => x.elim)
  obtain ⟨rfl, rfl⟩ := hk'
  refine wpAny_bind (wpAny_mono (kat_run (Q := fun st' s' => p.size = vs.length ∧ arrOf st' = p.map (kas_item (vs.toArray.zip vs.toArray)) ∧ failedOf st' = none ∧ s' = { s with heap := H3 }) (G := fun p' s' => p' = p ∧ s' = { s with heap := H3 })
    rfl h2 h64 (fun p' st' s' a1 a2 a3 a4 => ⟨a4.1 ▸ a1, a4.1 ▸ a2, a3, a4.2⟩) (kasWp_run (hask H3 keep3) _ p hrun ⟨rfl, rfl⟩)) ?_ fun _ _ e => e)
  rintro ⟨⟨⟩, st'⟩ s' ⟨hps, har, hf, rfl⟩
  dsimp only
  have hout := kat_snds (vs := vs) rfl har
  rw [hout]
  refine wpAny_bind (seqEpoch_at ho3 rfl ?_)
  refine wpAny_bind (listUpdate_at ho3 rfl ?_ (Nat.zero_le _) ?_)
  · rw [hf]
    simp only [bne_self_eq_false, Bool.false_eq_true, if_false]
    obtain ⟨c2, hc2⟩ : ∃ c2, (H3.update a (Obj.mapSeq fun _ => List.toArray (p.toList.map fun i => vs.getD i Value.none))).get? a = some (seqObj "list" (List.toArray (p.toList.map fun i => vs.getD i Value.none)) c2) := ⟨_, get?_update_seq ho3 fun _ => _⟩
    exact wpAny_pure (h _ c2 (fun b o hb e => (Heap.get?_update_ne _ _ _ _ hb).trans (keep3 b o hb e)) hc2)
  · rw [List.size_toArray, List.length_map, Array.length_toList, sizeLine_eq]; omega

theorem sorted_at {E : Value → Shared → Prop} {s : Shared} {l : Addr} {vs : List Value} {κ : SortKind} {lt : Nat → Nat → Option Bool} {p : Array Nat} {Q : Value → Shared → Prop}
    (hl : s.heap.IsList l vs.toArray) (h2 : 2 ≤ vs.length) (h64 : vs.length < 64) (hrun : runT lt (kas_sort vs.length) = some p)
    (hk : ∀ h' : Heap, Up s.heap h' → ∀ Q : SortKind → Shared → Prop, Q κ { s with heap := h' } → wpAny (model prog w) A.in1.in1 (keyKind' vs.toArray) Q (fun _ _ => False) { s with heap := h' })
    (hask : ∀ h' : Heap, Up s.heap h' → ∀ i j b, lt i j = some b → ∀ C : Bool → Shared → Prop, C b { s with heap := h' } → kas_ask prog w A.in1.in1 κ vs i j C { s with heap := h' })
    (h : ∀ (D : Addr) (h' : Heap) (c : Nat), s.heap.get? D = none → Up s.heap h' → h'.get? D = some (seqObj "list" (List.toArray (p.toList.map fun i => vs.getD i Value.none)) c) → Q (.ref D) { s with heap := h' }) :
    wpAny (model prog w) A (call (.builtin "sorted") [.ref l]) Q E s := by
  refine Calls.call_function_entry kind_sorted plain_sorted entry_sorted (args_sorted1 _) ?_
  unfold Builtin.«sorted»
  refine wpAny_bind (m := checkCount "sorted" 1 1 _) (wpAny_pure ?_)
  refine wpAny_bind (collect_list hl ?_ (by rw [sizeLine_eq]; omega))
  refine wpAny_bind (wpAny_newList ?_ (by rw [sizeLine_eq]; omega))
  have hsz : ((s.heap.push (seqObj "list" #[] 0)).update s.heap.objs.size (Obj.mapSeq (· ++ vs.toArray))).objs.size = s.heap.objs.size + 1 := by
    rw [Heap.size_update, size_push']
  have hoL : (((s.heap.push (seqObj "list" #[] 0)).update s.heap.objs.size (Obj.mapSeq (· ++ vs.toArray))).push (seqObj "list" vs.toArray 0)).get? (s.heap.objs.size + 1) = some (seqObj "list" vs.toArray 0) := by
    rw [← hsz]; exact Heap.get?_push_size _ rfl
  have keep : Up s.heap (((s.heap.push (seqObj "list" #[] 0)).update s.heap.objs.size (Obj.mapSeq (· ++ vs.toArray))).push (seqObj "list" vs.toArray 0)) := fun b o q => by
    have hlt : b < s.heap.objs.size := Heap.lt_size q
    rw [Heap.get?_push_ne _ _ _ (by rw [hsz]; exact Nat.ne_of_lt (Nat.lt_succ_of_lt hlt)), Heap.get?_update_ne _ _ _ _ (Nat.ne_of_lt hlt), Heap.get?_push_ne _ _ _ (Nat.ne_of_lt hlt)]
    exact q
  show wpAny _ _ _ _ _ { s with heap := ((s.heap.push (seqObj "list" #[] 0)).update s.heap.objs.size (Obj.mapSeq (· ++ vs.toArray))).push (seqObj "list" vs.toArray 0) }
  rw [hsz]
  generalize hH : ((s.heap.push (seqObj "list" #[] 0)).update s.heap.objs.size (Obj.mapSeq (· ++ vs.toArray))).push (seqObj "list" vs.toArray 0) = H at hoL keep
  have hD : s.heap.get? (s.heap.objs.size + 1) = none := Heap.get?_none_of_le (Nat.le_succ _)
  have up : ∀ h' : Heap, (∀ b o, b ≠ s.heap.objs.size + 1 → H.get? b = some o → h'.get? b = some o) → Up s.heap h' := fun h' k b o q =>
    k b o (fun e => by rw [e, hD] at q; cases q) (keep b o q)
  refine wpAny_bind (wpAny_holding (wpAny_call_entry slot_list_sort ⟨_, hoL, rfl⟩ entry_list_sort ?body (args_list_sort _)))
  case body =>
    refine list_sort_at (s := { s with heap := H }) hoL h2 h64 hrun (fun h' k Q hq => hk h' (up h' k) Q hq) (fun h' k i j b e C hc => hask h' (up h' k) i j b e C hc) fun h' c k hc => ?_
    exact ⟨_, rfl, wpAny_pure ⟨_, rfl, h _ h' c hD (up h' k) hc⟩⟩

theorem katTups_of {Z : PH} {h : Heap} (hz : ∀ b o, Z.o b o → h.get? b = some o) : ∀ {xs : List V} {vs : List Value}, (∀ x ∈ xs, ∃ p q, x = .tup [p, q]) → RepL Z xs vs →
    ∃ fs, KatTups h vs fs ∧ fs.length = xs.length ∧ ∀ f ∈ fs, ∃ p q, V.tup [p, q] ∈ xs ∧ Rep Z p f
  | [], _, _, r => by rw [r]; exact ⟨[], .nil, rfl, fun f hf => nomatch hf⟩
  | x :: xs, _, hx, r => by
    obtain ⟨v, rs, rfl, r1, r2⟩ := r
    obtain ⟨p, q, rfl⟩ := hx x List.mem_cons_self
    obtain ⟨fs, t, hl, hf⟩ := katTups_of hz (fun y hy => hx y (List.mem_cons_of_mem _ hy)) r2
    obtain ⟨a, o, vs, n, rfl, z, hc, hd, l1⟩ := r1
    obtain ⟨u, v, rfl, h1, h2⟩ := repL2 l1
    refine ⟨u :: fs, .cons (hz _ _ z) hc hd (by simp) t, by simp [hl], fun f hf' => ?_⟩
    rcases List.mem_cons.mp hf' with rfl | hf'
    · exact ⟨p, q, List.mem_cons_self, h1⟩
    · obtain ⟨p', q', m, r⟩ := hf f hf'
      exact ⟨p', q', List.mem_cons_of_mem _ m, r⟩

/-- one question of the sort -/
theorem ltP_key {h' : Heap} {x y : V} {u v : Value} {k b : Bool} {Q : Bool → Shared → Prop} (hb : NoneBooked h') (hu : A.units + 8 < cLine) (up : Up g.h h') (rx : Rep (res μ g) x u) (ry : Rep (res μ g) y v)
    (kx : pairKind x = some k) (ky : pairKind y = some k) (h : ltP x y = some b) (hq : Q b { g.s with heap := h' }) :
    wpAny (model prog w) A (keyLt' (tuples' true) u v) Q (fun _ _ => False) { g.s with heap := h' } := by
  refine ltP_inv h fun p q p' q' e1 e2 c1 c2 ex ey h1 h2 h3 h4 eb => ?_
  subst ex ey eb
  obtain ⟨a, o, vs, n, rfl, z1, k1, d1, l1⟩ := rx
  obtain ⟨a', o', vs', n', rfl, z2, k2, d2, l2⟩ := ry
  obtain ⟨u1, v1, rfl, r1, r2⟩ := repL2 l1
  obtain ⟨u2, v2, rfl, s1, s2⟩ := repL2 l2
  let g2 : GS := g.at { g.s with heap := h' } (Nat.le_refl _)
  have le2 : g.Le g2 := g.at_le _ _ ⟨h', g.s.toks, rfl, up⟩
  refine kat_lt (s := { g.s with heap := h' }) (up _ _ z1.2) d1 (up _ _ z2.2) d2 ?_
  refine kat_cons ?_
  refine eqV_at (g := g2) hb 1 A _ _ _ _ e1 (by omega) (r1.up le2) (s1.up le2) h1 prog w _ _ ?_
  cases e1 with
  | true =>
    refine kat_yes (kat_cons ?_)
    refine eqV_at (g := g2) hb 1 A _ _ _ _ e2 (by omega) (r2.up le2) (s2.up le2) (h2 rfl) prog w _ _ ?_
    cases e2 with
    | true => exact kat_yes (kat_nil hq)
    | false =>
      refine kat_no ?_
      show wpAny _ _ (oneLt' (true && 0 + 1 == 0) _ _) _ _ _
      refine kat_one _ _ ?_
      exact ltV_at (g := g2) (r2.up le2) (s2.up le2) (h4 rfl rfl) prog w _ _ hq
  | false =>
    refine kat_no ?_
    show wpAny _ _ (oneLt' true _ _) _ _ _
    rcases ltV_inv (h3 rfl) with ⟨p1, p2, rfl, rfl, rfl⟩ | ⟨p1, p2, rfl, rfl, rfl⟩
    · obtain ⟨t, rfl⟩ := r1; obtain ⟨t', rfl⟩ := s1
      exact oneLt_int hq
    · obtain ⟨t, rfl, _⟩ := r1; obtain ⟨t', rfl, _⟩ := s1
      exact oneLt_float hq

theorem sortV_sound {l : Value} {xs : List V} {d : V} (hb : NoneBooked g.h) (hu : A.units + 16 < cLine) (lt : ∀ b, μ b → ∃ o, g.h.get? b = some o)
    (rl : Rep (res μ g) (.list xs) l) (h : sortV xs = some d) : Ev prog w A μ (call (.builtin "sorted") [l]) d g := by
  unfold sortV at h
  split at h
  · rename_i hlen
    simp only [Bool.and_eq_true, decide_eq_true_eq] at hlen
    split at h
    · rename_i k hk
      split at h
      · rename_i hall
        have hall' : ∀ x ∈ xs, pairKind x = some k := fun x hx => by simpa using List.all_eq_true.mp hall x hx
        cases hr : runT (fun i j => ltP (xs.getD i .none) (xs.getD j .none)) (kas_sort xs.length) with
        | none => rw [hr] at h; cases h
        | some p =>
          rw [hr] at h
          cases h
          obtain ⟨a, o, vs, n, rfl, z1, c1, d1, l1⟩ := rl
          have hvl := l1.length
          intro E Q hQ
          have hlist : g.s.heap.IsList a vs.toArray := ⟨o, z1.2, c1, n, d1⟩
          have hx2 : ∀ x ∈ xs, ∃ p q, x = .tup [p, q] := fun x hx => by
            rcases pairKind_inv (hall' x hx) with ⟨_, a, b, e⟩ | ⟨_, a, b, e⟩ <;> exact ⟨_, _, e⟩
          have getD_rep : ∀ i, i < xs.length → Rep (res μ g) (xs.getD i .none) (vs.getD i Value.none) := fun i hi => by
            obtain ⟨v, hv, r⟩ := l1.get i xs[i] (by simp [hi])
            rw [List.getD_eq_getElem?_getD, List.getD_eq_getElem?_getD, hv]
            simpa [hi] using r
          refine wpAny_mono (wpAny_toks_of (n := g.s.toks) (Nat.le_refl _) (sorted_at (κ := tuples' true) (E := fun _ _ => False) (Q := fun v s' => ∃ (D : Addr) (h' : Heap) (c : Nat), v = .ref D ∧ g.s.heap.get? D = none ∧ Up g.s.heap h' ∧
              h'.get? D = some (seqObj "list" (List.toArray (p.toList.map fun i => vs.getD i Value.none)) c) ∧ s' = { g.s with heap := h' })
            hlist (by omega) (by omega) (by rw [hvl]; exact hr) ?_ ?_ ?_)) ?_ (fun _ _ x => x.2.elim)
          · intro h' up Q' hq
            obtain ⟨fs, t, hfl, hfs⟩ := katTups_of (Z := res μ g) (h := h') (fun b o z => up b o z.2) hx2 l1
            cases k with
            | true =>
              refine kat_kind (T := .type "int") t (by omega) (fun f hf => ?_) rfl hq
              obtain ⟨p', q', hm, r⟩ := hfs f hf
              rcases pairKind_inv (hall' _ hm) with ⟨_, a, b, e⟩ | ⟨e, _⟩
              · cases e; obtain ⟨t, rfl⟩ := r; exact Looks.of_pure rfl
              · cases e
            | false =>
              refine kat_kind (T := .type "float") t (by omega) (fun f hf => ?_) rfl hq
              obtain ⟨p', q', hm, r⟩ := hfs f hf
              rcases pairKind_inv (hall' _ hm) with ⟨e, _⟩ | ⟨_, a, b, e⟩
              · cases e
              · cases e; obtain ⟨t, rfl, _⟩ := r; exact Looks.of_pure rfl
          · intro h' up i j b e C hC
            have hi : i < xs.length := by
              refine Nat.lt_of_not_le fun hle => ?_
              rw [show xs.getD i .none = V.none by simp [List.getD_eq_getElem?_getD, hle]] at e
              exact no e
            have hj : j < xs.length := by
              refine Nat.lt_of_not_le fun hle => ?_
              rw [show xs.getD j .none = V.none by simp [List.getD_eq_getElem?_getD, hle]] at e
              exact ltP_r e
            have m : ∀ i, i < xs.length → xs.getD i .none ∈ xs := fun i hi => by
              rw [List.getD_eq_getElem?_getD]; simp [hi]
            obtain ⟨mc, b1, b2⟩ := hb
            exact ltP_key (A := A.in1.in1) ⟨mc, b1.keeps up, b2⟩ (by simp only [Around.in1_units]; omega) up (getD_rep i hi) (getD_rep j hj) (hall' _ (m i hi)) (hall' _ (m j hj)) e hC
          · intro D h' c hD up hc
            exact ⟨D, h', c, rfl, hD, up, hc, rfl⟩
          · rintro v s' ⟨ht, D, h', c, rfl, hD, up, hc, rfl⟩
            refine hQ _ (g.at { g.s with heap := h' } ht) (g.at_le _ ht ⟨h', g.s.toks, rfl, up⟩) ⟨D, _, _, _, rfl, ⟨fun hm => ?_, hc⟩, rfl, rfl, ?_⟩
            · obtain ⟨o', e'⟩ := lt _ hm
              rw [hD] at e'; cases e'
            · refine RepL.up (g.at_le _ ht ⟨h', g.s.toks, rfl, up⟩) ?_
              have all : ∀ i, Rep (res μ g) (xs.getD i .none) (vs.getD i Value.none) := fun i => by
                by_cases hi : i < xs.length
                · exact getD_rep i hi
                · rw [List.getD_eq_getElem?_getD, List.getD_eq_getElem?_getD]
                  simp only [List.getElem?_eq_none (Nat.le_of_not_lt hi), List.getElem?_eq_none (show vs.length ≤ i by omega)]
                  rfl
              generalize p.toList = ps
              induction ps with
              | nil => rfl
              | cons i r ih => exact ⟨_, _, rfl, all i, ih⟩
      · cases h
    · cases h
  · cases h
end
end Mine
end
section
open PySem PySem.W PyProof.Rows PySem.Calls PySem.Flt PySem.SeqAt
set_option maxRecDepth 100000
namespace Mine
section
open PySem.Builtin PySem.Builtin.Str
theorem gives_find4 (x y : PySem.Str) (i j : Int) (t u v w : Tok) : Gives («str.find» ⟨[.str x t, .str y u, .int i v, .int j w], []⟩) (.int (match occurrences x y (fromIndex x.length i) (min (fromIndex x.length j) x.length) 1 with | k :: _ => (k : Int) | [] => -1)) := by
  show Gives (match occurrences x y (fromIndex x.length i) (min (fromIndex x.length j) x.length) 1 with | k :: _ => retInt k | [] => (do rule "str.find.not-found"; retInt (-1))) _
  cases occurrences x y (fromIndex x.length i) (min (fromIndex x.length j) x.length) 1 with
  | nil => exact .rule (.of_eq rfl)
  | cons k _ => exact .of_eq rfl
end
theorem fromIndex_nat {n : Nat} {i : Int} (h : 0 ≤ i) : fromIndex n i = i.toNat := by
  unfold fromIndex
  rw [if_neg (by omega)]
  congr 1; omega

/-- the base of a subscript -/
noncomputable def RepB (μ : Addr → Prop) (g : GS) (d : V) (v : Value) : Prop :=
  Rep (res μ g) d v ∨ ∃ xs a o vs n, d = .list xs ∧ v = .ref a ∧ g.h.get? a = some o ∧ o.cls = .type "list" ∧ o.data = .seq (List.toArray vs) n ∧ RepL (res μ g) xs vs
theorem RepB.up {μ : Addr → Prop} {g g' : GS} {d : V} {v : Value} (u : g.Le g') (r : RepB μ g d v) : RepB μ g' d v := by
  rcases r with r | ⟨xs, a, o, vs, n, e, e2, z, c, dd, l⟩
  · exact .inl (r.up u)
  · exact .inr ⟨xs, a, o, vs, n, e, e2, u.up _ _ z, c, dd, l.up u⟩
theorem RepB.list {μ : Addr → Prop} {g : GS} {xs : List V} {v : Value} (r : RepB μ g (.list xs) v) : ∃ a o vs n, v = .ref a ∧ g.h.get? a = some o ∧ o.cls = .type "list" ∧ o.data = .seq (List.toArray vs) n ∧ RepL (res μ g) xs vs := by
  rcases r with ⟨a, o, vs, n, e2, z, c, dd, l⟩ | ⟨xs, a, o, vs, n, e, e2, z, c, dd, l⟩
  · exact ⟨a, o, vs, n, e2, z.2, c, dd, l⟩
  · cases e; exact ⟨a, o, vs, n, e2, z, c, dd, l⟩
theorem RepB.rep {μ : Addr → Prop} {g : GS} {d : V} {v : Value} (r : RepB μ g d v) (hd : ∀ xs, d ≠ .list xs) : Rep (res μ g) d v := by
  rcases r with r | ⟨xs, a, o, vs, n, e, _⟩
  · exact r
  · exact absurd e (hd xs)
theorem seqIndex_nat {i : Int} {n : Nat} (h : 0 ≤ i) (hl : i.toNat < n) : seqIndex? i n = some i.toNat := by
  unfold seqIndex?
  have h1 : ¬ i < 0 := by omega
  have h2 : (0 ≤ i ∧ i < (n : Int)) := by omega
  simp [h1, h2.1, h2.2]

section
open Builtin Builtin.Str
theorem split_sound {prog : Program} {w : World} {A : Around} {E : Value → Shared → Prop} {s : Shared} {x : Str} {t : Tok} {Q : Value → Shared → Prop} {y : Str} {u : Tok} (hy : (y.length == 0) = false)
    (hq : ∀ D l s', l.map (·.1) = Txt.split x y → Keeps s s' → s.heap.get? D = none → s'.heap.IsList D (strValues l).toArray → Q (.ref D) s')
    (hsz : x.length ≤ sizeLine) (hsz2 : (partsBetween x (occurrences x y 0 x.length (x.length + 1)) y.length).length ≤ sizeLine) :
    wpAny (model prog w) A (call (.builtin "str.split") [.str x t, .str y u]) Q E s := by
  cases h1 : (decide (x.length < y.length) || decide (strKind x < strKind y))
  · cases hf : (occurrences x y 0 x.length (x.length + 1)).isEmpty
    · refine call_meets PySem.F.slot_str_split (typeIs_str _ _ _) PySem.F.entry_str_split (PySem.F.args_str_split_2 _ _) (meets_str_split_sep x y t u h1 hy hf hsz hsz2) ?_
      show wants Q E _ { s with toks := _, heap := s.heap.push { cls := .type "list", data := .seq (strsFrom s.toks (partsBetween x (occurrences x y 0 x.length (x.length + 1)) y.length)).toArray } }
      rw [strsFrom_eq]
      exact hq _ (numbered s.toks _) _ ((numbered_texts _ _).trans ((if_neg (ne_true_of_eq_false h1)).trans (if_neg (ne_true_of_eq_false hf))).symm) ⟨_, _, rfl, fun b o e => Heap.get?_push_of_some _ e⟩ (get_size _) ⟨_, Heap.get?_push_size _ rfl, rfl, _, rfl⟩
    · exact call_meets PySem.F.slot_str_split (typeIs_str _ _ _) PySem.F.entry_str_split (PySem.F.args_str_split_2 _ _) (meets_str_split_not_found x y t u h1 hy hf)
        (hq _ [(x, t)] _ ((if_neg (ne_true_of_eq_false h1)).trans (if_pos hf)).symm ⟨_, s.toks, rfl, fun b o e => Heap.get?_push_of_some _ e⟩ (get_size _) ⟨_, Heap.get?_push_size _ rfl, rfl, _, rfl⟩)
  · exact call_meets PySem.F.slot_str_split (typeIs_str _ _ _) PySem.F.entry_str_split (PySem.F.args_str_split_2 _ _) (meets_str_split_cannot_occur x y t u h1)
      (hq _ [(x, t)] _ (if_pos h1).symm ⟨_, s.toks, rfl, fun b o e => Heap.get?_push_of_some _ e⟩ (get_size _) ⟨_, Heap.get?_push_size _ rfl, rfl, _, rfl⟩)
end

section
variable {prog : Program} {w : World} {A : Around} {μ : Addr → Prop} {g : GS}

theorem idxV_sound {x i d : V} {u v : Value} (h : idxV x i = some d) (rx : RepB μ g x u) (ri : Rep (res μ g) i v) : Ev prog w A μ (getItem u v) d g := by
  refine idxV_inv h (fun xs i e1 e2 h' => ?_) (fun xs i e1 e2 h0 h1 h' => ?_) (fun x i e1 e2 h0 h1 h' => ?_)
  · subst e1 e2
    replace h := h'
    obtain ⟨a, o, vs, n, rfl, z1, c1, d1, l1⟩ := rx.list
    obtain ⟨t, rfl⟩ := ri
    have hl : g.s.heap.IsList a vs.toArray := ⟨o, z1, c1, n, d1⟩
    split at h
    · rename_i hi
      simp only [Bool.and_eq_true, beq_iff_eq, decide_eq_true_eq] at hi
      obtain ⟨rfl, hlen⟩ := hi
      obtain ⟨w, hw, r⟩ := l1.get _ _ h
      intro E Q hQ
      have hpos : 0 < vs.length := by have := (List.getElem?_eq_some_iff.mp hw).1; omega
      refine wpAny_getItem_list_neg (k := -1) hl (by decide) (by simp; omega) (by decide) (x := w) ?_ (hQ _ _ (GS.Le.refl g) r)
      have e : (-1 + ((vs.toArray.size : Nat) : Int)).toNat = xs.length - 1 := by
        rw [List.size_toArray, ← l1.length]; omega
      rw [← hw, e]
      simp
    · split at h
      · rename_i hi
        simp only [Bool.and_eq_true, decide_eq_true_eq] at hi
        obtain ⟨w, hw, r⟩ := l1.get _ _ h
        exact fun E Q hQ => wpAny_getItem_list hl hi.1 (by omega) (by simpa using hw) (hQ _ _ (GS.Le.refl g) r)
      · cases h
  · subst e1 e2
    replace h := h'
    obtain ⟨a, o, vs, n, rfl, z1, c1, d1, l1⟩ := rx.rep (by intro _ e; cases e)
    obtain ⟨t, rfl⟩ := ri
    · obtain ⟨w, hw, r⟩ := l1.get _ _ h
      have hlt := (List.getElem?_eq_some_iff.mp hw).1
      refine fun E Q hQ => getItem_tuple (j := i.toNat) ⟨o, z1.2, c1, n, d1⟩ (by omega) (by omega) ?_ (by simpa using hw) (hQ _ _ (GS.Le.refl g) r)
      exact seqIndex_nat h0 (by simp; omega)
  · subst e1 e2
    replace h := h'
    obtain ⟨t, rfl⟩ := rx.rep (by intro _ e; cases e)
    obtain ⟨t', rfl⟩ := ri
    · cases hc : x.cps[i.toNat]? with
      | none => rw [hc] at h; exact no h
      | some c =>
        rw [hc] at h; cases h
        have hlt : i.toNat < x.cps.size := (Array.getElem?_eq_some_iff.mp hc).1
        refine Ev.str fun E Q hQ => getItem_str (c := c) (by simp; omega) ?_ (hQ _ _ (kp_tok _ _) ⟨_, rfl⟩)
        rw [seqIndex_nat h0 (by simp [Str.length]; omega)]
        exact hc

theorem findV_sound {x y : Str} {t u p q : Tok} {lo hi : Int} {d : V} (h : findV x y lo hi = some d) : Ev prog w A μ (call (.builtin "str.find") [.str x t, .str y u, .int lo p, .int hi q]) d g := by
  · obtain ⟨hc, h⟩ := ite_some h
    cases h
    simp only [Bool.and_eq_true, decide_eq_true_eq] at hc
    refine Ev.int fun E Q hQ => call_gives PySem.F.slot_str_find (typeIs_str _ _ _) PySem.F.entry_str_find (PySem.F.args_str_find_4 _ _ _ _) (gives_find4 x y lo hi t u p q) ?_
    rw [fromIndex_nat hc.1.1.1, fromIndex_nat (by omega), show min hi.toNat x.length = hi.toNat by omega]
    exact hQ _ _ (kp_tok _ _) ⟨_, rfl⟩

theorem strsOf_rep {Z : PH} : ∀ {ds : List V} {vs : List Value} {l : List Str}, strsOf ds = some l → RepL Z ds vs → ∃ k : List (Str × Tok), vs = strValues k ∧ k.map (·.1) = l
  | [], _, _, h, r => by cases h; rw [r]; exact ⟨[], rfl, rfl⟩
  | .str x :: ds, _, _, h, r => by
    obtain ⟨v, rs, rfl, ⟨t, rfl⟩, r2⟩ := r
    simp only [strsOf] at h
    cases h' : strsOf ds with
    | none => rw [h'] at h; cases h
    | some l =>
      rw [h'] at h; cases h
      obtain ⟨k, rfl, rfl⟩ := strsOf_rep h' r2
      exact ⟨(x, t) :: k, rfl, rfl⟩
  | .none :: _, _, _, h, _ => no h
  | .bool _ :: _, _, _, h, _ => no h
  | .float _ :: _, _, _, h, _ => no h
  | .int _ :: _, _, _, h, _ => no h
  | .chr _ :: _, _, _, h, _ => no h
  | .tup _ :: _, _, _, h, _ => no h
  | .list _ :: _, _, _, h, _ => no h
theorem strs_rep {Z : PH} : ∀ (k : List (Str × Tok)), RepL Z ((k.map (·.1)).map .str) (strValues k)
  | [] => rfl
  | (x, t) :: k => ⟨_, _, rfl, ⟨t, rfl⟩, strs_rep k⟩

noncomputable def methId (m : Str) : String := if m == "split" then "str.split" else if m == "join" then "str.join" else "str.find"
theorem methB_get {Z : PH} {o d : V} {m : Str} {ds : List V} {u : Value} (h : methB o m ds = some d) (ro : Rep Z o u) {M : Model} {A : Around} {E : Value → Shared → Prop} {s : Shared} {pl : Sem Bool} {Q : Value × List Value → Shared → Prop}
    (hq : Q (.builtin (methId m), [u]) s) : wpAny M A (getMethod u m pl) Q E s := by
  refine methB_inv h (fun x e1 e2 _ => ?_) (fun x e1 e2 _ => ?_) (fun x e1 e2 _ => ?_)
  · subst e1 e2
    obtain ⟨t, rfl⟩ := ro
    exact GM.split hq
  · subst e1 e2
    obtain ⟨t, rfl⟩ := ro
    exact GM.join hq
  · subst e1 e2
    obtain ⟨t, rfl⟩ := ro
    exact GM.find hq
theorem splitD_sound {x : Str} {t : Tok} {ds : List V} {d : V} {vs : List Value} (lt : ∀ b, μ b → ∃ o, g.h.get? b = some o) (h : splitD x ds = some d) (rs : RepL (res μ g) ds vs) : Ev prog w A μ (call (.builtin "str.split") (.str x t :: vs)) d g := by
  obtain ⟨y, rfl, hc, rfl⟩ := splitD_inv h
  obtain ⟨v, r, rfl, ⟨t', rfl⟩, rfl⟩ := rs
  simp only [Bool.and_eq_true, decide_eq_true_eq, bne_iff_ne, ne_eq] at hc
  intro E Q hQ
  refine wpAny_mono (wpAny_toks_of (n := g.s.toks) (Nat.le_refl _) (split_sound (E := fun _ _ => False) (Q := fun v s' => ∃ (D : Addr) (l : List (Str × Tok)), v = .ref D ∧ l.map (·.1) = Txt.split x y ∧ Keeps g.s s' ∧ s'.heap.IsList D (strValues l).toArray ∧ g.s.heap.get? D = none)
    (by simpa using hc.1) (fun D l s' e k hD hl => ⟨D, l, rfl, e, k, hl, hD⟩) (Nat.le_trans hc.2.1 (by decide)) (Nat.le_trans hc.2.2 (by decide)))) ?_ (fun _ _ x => x.2.elim)
  rintro v s' ⟨ht, D, l, rfl, e, k, ⟨o, ho, hc, n, hd⟩, hD⟩
  refine hQ _ (g.at s' ht) (g.at_le s' ht k) ⟨D, o, strValues l, n, rfl, ⟨fun hm => ?_, ho⟩, hc, hd, ?_⟩
  · obtain ⟨o', e'⟩ := lt _ hm; rw [hD] at e'; cases e'
  · rw [← e]; exact strs_rep l
theorem joinD_sound {x : Str} {t : Tok} {ds : List V} {d : V} {vs : List Value} (h : joinD x ds = some d) (rs : RepL (res μ g) ds vs) : Ev prog w A μ (call (.builtin "str.join") (.str x t :: vs)) d g := by
  obtain ⟨ys, l, rfl, hs, hj, rfl⟩ := joinD_inv h
  obtain ⟨v, r, rfl, ⟨a, o, ws, n, rfl, z1, c1, d1, l1⟩, rfl⟩ := rs
  simp only [Bool.and_eq_true, decide_eq_true_eq] at hj
  obtain ⟨k, rfl, rfl⟩ := strsOf_rep hs l1
  exact Ev.str fun E Q hQ => SC.join ⟨o, z1.2, c1, n, d1⟩ rfl hj.1 fun t' k' => hQ _ _ (kp_tok _ _) ⟨_, rfl⟩
theorem methB_sound {o d : V} {m : Str} {ds : List V} {u : Value} {vs : List Value} (lt : ∀ b, μ b → ∃ o, g.h.get? b = some o) (h : methB o m ds = some d) (ro : Rep (res μ g) o u) (rs : RepL (res μ g) ds vs) :
    Ev prog w A μ (call (.builtin (methId m)) (u :: vs)) d g := by
  refine methB_inv h (fun x e1 e2 h' => ?_) (fun x e1 e2 h' => ?_) (fun x e1 e2 h' => ?_)
  · subst e1 e2
    obtain ⟨t, rfl⟩ := ro
    exact splitD_sound lt h' rs
  · subst e1 e2
    obtain ⟨t, rfl⟩ := ro
    exact joinD_sound h' rs
  · subst e1 e2
    obtain ⟨t, rfl⟩ := ro
    obtain ⟨y, lo, hi, rfl, h⟩ := findD_inv h'
    obtain ⟨v, r, rfl, ⟨t1, rfl⟩, v2, r2, rfl, ⟨t2, rfl⟩, v3, r3, rfl, ⟨t3, rfl⟩, rfl⟩ := rs
    exact findV_sound h
end
end Mine
end
section
open PySem PySem.W PyProof.Rows PySem.Calls PySem.Flt PySem.SeqAt
set_option maxRecDepth 100000
namespace Mine
section
variable {prog : Program} {w : World} {A : Around} {μ : Addr → Prop} {g : GS}

theorem isl_of {Z : PH} {xs : List V} {v : Value} (h : Rep Z (.list xs) v) : ∃ a o vs n, v = .ref a ∧ Z.o a o ∧ o.cls = .type "list" ∧ o.data = .seq (List.toArray vs) n ∧ RepL Z xs vs := h

theorem RepL.nil_inv {Z : PH} {vs : List Value} (h : RepL Z [] vs) : vs = [] := h
theorem RepL.cons_inv {Z : PH} {d : V} {ds : List V} {vs : List Value} (h : RepL Z (d :: ds) vs) : ∃ v r, vs = v :: r ∧ Rep Z d v ∧ RepL Z ds r := h

theorem len_sound {ds : List V} {d : V} {vs : List Value} (rs : RepL (res μ g) ds vs) (h : lenD ds = some d) : Ev prog w A μ (call (.builtin "len") vs) d g := by
  rcases len_inv h with ⟨xs, rfl, hx, rfl⟩ | ⟨x, rfl, hx, rfl⟩
  · obtain ⟨v, r, rfl, ⟨a, o, ws, n, rfl, z1, c1, d1, l1⟩, rfl⟩ := rs
    refine Ev.int fun E Q hQ => call_len_list ⟨o, z1.2, c1, n, d1⟩ ?_ (hQ _ _ (kp_tok _ _) ⟨g.s.toks + 1, ?_⟩)
    · rw [List.size_toArray, l1.length]; omega
    · rw [List.size_toArray, l1.length]
  · obtain ⟨v, r, rfl, ⟨t, rfl⟩, rfl⟩ := rs
    exact Ev.int fun E Q hQ => PySem.P.len_str (by omega) (hQ _ _ (kp_tok _ _) ⟨_, rfl⟩)
theorem minD_sound {ds : List V} {d : V} {vs : List Value} (hh : A.handled = none) (rs : RepL (res μ g) ds vs) (h : minD ds = some d) : Ev prog w A μ (call (.builtin "min") vs) d g := by
  rcases mm_inv (F := fun a b => some (.int (if b < a then b else a))) (G := fun xs => if xs.length ≤ 4096 then ((intsOf xs).bind minL).map .int else none) h with ⟨a, b, rfl, h⟩ | ⟨xs, rfl, h⟩
  · obtain ⟨v, r, rfl, ⟨t, rfl⟩, v2, r2, rfl, ⟨t2, rfl⟩, rfl⟩ := rs
    cases h
    refine Ev.int fun E Q hQ => min_two_ints hh fun h' tk hk => hQ _ _ (kp_heap _ h' tk hk) ?_
    split <;> exact ⟨_, rfl⟩
  · obtain ⟨v, r, rfl, ⟨a, o, ws, n, rfl, z1, c1, d1, l1⟩, rfl⟩ := rs
    obtain ⟨ns, m, hi, hm, rfl⟩ := bindInts (ite_some h).2
    exact min_sound hh ⟨o, z1.2, c1, n, d1⟩ (intsOf_rep hi l1) hm
theorem maxD_sound {ds : List V} {d : V} {vs : List Value} (hh : A.handled = none) (rs : RepL (res μ g) ds vs) (h : maxD ds = some d) : Ev prog w A μ (call (.builtin "max") vs) d g := by
  rcases mm_inv (F := fun a b => some (.int (if b > a then b else a))) (G := fun xs => if xs.length ≤ 4096 then ((intsOf xs).bind maxL).map .int else none) h with ⟨a, b, rfl, h⟩ | ⟨xs, rfl, h⟩
  · obtain ⟨v, r, rfl, ⟨t, rfl⟩, v2, r2, rfl, ⟨t2, rfl⟩, rfl⟩ := rs
    cases h
    refine Ev.int fun E Q hQ => max_two_ints hh fun h' tk hk => hQ _ _ (kp_heap _ h' tk hk) ?_
    split <;> exact ⟨_, rfl⟩
  · obtain ⟨v, r, rfl, ⟨a, o, ws, n, rfl, z1, c1, d1, l1⟩, rfl⟩ := rs
    obtain ⟨ns, m, hi, hm, rfl⟩ := bindInts (ite_some h).2
    exact max_sound hh ⟨o, z1.2, c1, n, d1⟩ (intsOf_rep hi l1) hm
theorem sumD_sound {ds : List V} {d : V} {vs : List Value} (hh : A.handled = none) (rs : RepL (res μ g) ds vs) (h : sumD ds = some d) : Ev prog w A μ (call (.builtin "sum") vs) d g := by
  obtain ⟨xs, rfl, h⟩ := list1 (ds := ds) (d := d) (F := fun (xs : List V) => if xs.length ≤ 4096 then (intsOf xs).map (fun (l : List Int) => V.int l.sum) else none) h
  obtain ⟨v, r, rfl, ⟨a, o, ws, n, rfl, z1, c1, d1, l1⟩, rfl⟩ := rs
  have h := (ite_some h).2
  cases hi : intsOf xs with
  | none => rw [hi] at h; exact no h
  | some ns =>
    rw [hi] at h; cases h
    exact sum_sound hh ⟨o, z1.2, c1, n, d1⟩ (intsOf_rep hi l1)

theorem callB_sound {f : Str} {ds : List V} {d : V} {vs : List Value} (hh : A.handled = none) (hb : NoneBooked g.h) (hu : A.units + 16 < cLine) (lt : ∀ b, μ b → ∃ o, g.h.get? b = some o)
    (rs : RepL (res μ g) ds vs) (h : callB f ds = some d) :
    f ∈ (["len", "min", "max", "sum", "sorted", "int", "range", "isinstance", "bool", "enumerate"] : List String).map Str.ofString ∧
    ((∃ id, bootBuiltins f = some (.builtin id) ∧ Ev prog w A μ (call (.builtin id) vs) d g) ∨ (∃ T, bootBuiltins f = some (.type T) ∧ Ev prog w A μ (call (.type T) vs) d g)) := by
  refine callB_inv h (fun e h => ?_) (fun e h => ?_) (fun e h => ?_) (fun e h => ?_) (fun e h => ?_) (fun e h => ?_)
  · subst e; exact ⟨by decide, .inl ⟨"len", by decide +kernel, len_sound rs h⟩⟩
  · subst e; exact ⟨by decide, .inl ⟨"min", by decide +kernel, minD_sound hh rs h⟩⟩
  · subst e; exact ⟨by decide, .inl ⟨"max", by decide +kernel, maxD_sound hh rs h⟩⟩
  · subst e; exact ⟨by decide, .inl ⟨"sum", by decide +kernel, sumD_sound hh rs h⟩⟩
  · subst e
    obtain ⟨xs, rfl, h⟩ := list1 (F := sortV) h
    obtain ⟨v, r, rfl, r1, rfl⟩ := rs
    exact ⟨by decide, .inl ⟨"sorted", by decide +kernel, sortV_sound hb hu lt r1 h⟩⟩
  · subst e
    obtain ⟨u, sg, m, e, rfl, hd, rfl⟩ := int_inv h
    obtain ⟨v, r, rfl, ⟨t, rfl, _⟩, rfl⟩ := rs
    exact ⟨by decide, .inr ⟨"int", by decide +kernel, Ev.int fun E Q hQ => call_int_float hd (hQ _ _ (kp_tok _ _) ⟨_, rfl⟩)⟩⟩

theorem isbool_sound {b : Bool} {v : Value} (r : Rep (res μ g) (.bool b) v) : Ev prog w A μ (call (.builtin "isinstance") [v, .type "bool"]) (.bool true) g := by
  obtain rfl := r
  exact Ev.bool fun E Q hQ => call_isinstance_yes (Tx := "bool") (PySem.typeIs_bool _ _) rfl (by rw [isSubtype_type]; kernel_rfl) (hQ _ _ (kp_refl _) rfl)
end
end Mine
end
section
open PySem PySem.W PyProof.Rows PySem.Calls PySem.Flt PySem.SeqAt
set_option maxRecDepth 100000
namespace Mine
structure Ok (A : Around) (n : Nat) : Prop where
  hand : A.handled = none
  room : A.depth + n < recursionLimit
  units : A.units + 4 * n + 64 < cLine
theorem Ok.mono {A : Around} {n m : Nat} (h : Ok A n) (hm : m ≤ n) : Ok A m := ⟨h.hand, by have := h.room; omega, by have := h.units; omega⟩
theorem Ok.pred {A : Around} {n : Nat} (h : Ok A (n + 1)) : Ok A n := h.mono (Nat.le_succ n)

section
variable {prog : Program} {w : World} {tab : Tab} {glob : Str → Option V} {A : Around} {env : Env} {N : Names} {μ : Addr → Prop} {σ : Sto} {ω : Own} {g : GS}

theorem sget_okd {x : Str} (h : okN x = true) : (x == ("__debug__" : Str)) = false ∧ (x == ("__classdict__" : Str)) = false := by
  unfold okN at h
  simp only [Bool.and_eq_true, bne_iff_ne, ne_eq, beq_eq_false_iff_ne] at h ⊢
  exact h

theorem load_var {E : Value → Shared → Prop} {x : Str} {v : Value} {Q : Value → Shared → Prop} (hk : env.scope.kind = .function) (hn : okN x = true) (h : VarIs env g.h x v) (hQ : Q v g.s) : wpAny (model prog w) A (loadName env x) Q E g.s := by
  rcases h with ⟨k, m, hm, hv⟩ | ⟨k | k, c, hc, hv⟩
  · exact wpAny_loadName_local hk k hm hv hQ
  · exact wpAny_loadName_cell hk k hc hv hQ
  · exact wpAny_loadName_free hk k hc hv hQ (sget_okd hn).2

theorem ev_Name {x : Str} {p : Pos} {d : V} {n : Nat} (W : View tab glob env N μ σ ω g) (h : meval tab glob n N σ ω (.Name x p) = some d) : Ev prog w A μ (eval (.Name x p) env) d g := by
  cases n with
  | zero => exact no h
  | succ n =>
    rw [mv_Name] at h
    split at h
    · rename_i hn
      have var : ∀ d, sget σ x = some d → Ev prog w A μ (eval (.Name x p) env) d g := fun d e E Q hQ => by
        obtain ⟨v, hv, r⟩ := W.var x d e
        exact wpAny_Name (load_var W.kind hn hv (hQ v g (.refl g) r)) (sget_okd hn).1
      split at h
      · exact var _ h
      · exact var _ h
      · exact var _ h
      · rename_i hl
        obtain ⟨mg, mb, g1, g2, g3, _⟩ := W.G.top
        obtain ⟨t, y, rfl, hm⟩ := g3 x d h
        intro E Q hQ
        refine Name_function_global W.kind (W.glo x hl) (loadGlobal_global (W.globals ▸ g1) hm (hQ _ g (.refl g) ⟨t, rfl⟩)) (sget_okd hn).1
      · cases h
    · cases h

theorem ev_Constant {c : Const} {k : Nat} {p : Pos} {d : V} (h : constV c = some d) : Ev prog w A μ (eval (.Constant c k p) env) d g := by
  cases c <;> simp only [constV] at h <;> cases h
  · exact fun E Q hQ => wpAny_Constant_none (hQ _ g (.refl g) rfl)
  · exact fun E Q hQ => wpAny_Constant_bool (hQ _ g (.refl g) rfl)
  · exact Ev.int fun E Q hQ => wpAny_Constant_int (hQ _ _ (kp_tok _ _) ⟨_, rfl⟩)
  · exact Ev.flt fun E Q hQ => PySem.wpAny_Constant_float hQ
  · exact Ev.str fun E Q hQ => PySem.wpAny_Constant_str (hQ _ _ (kp_tok _ _) ⟨_, rfl⟩)
end
end Mine
end
section
open PySem PySem.W PyProof.Rows PySem.Calls PySem.Flt PySem.SeqAt
set_option maxRecDepth 100000
namespace Mine
section
variable {prog : Program} {w : World} {tab : Tab} {glob : Str → Option V} {A : Around} {env : Env} {N : Names} {μ : Addr → Prop} {σ : Sto} {ω : Own} {g : GS}

theorem Ev.bindB {t : Sem Bool} {f : Bool → Sem Value} {b : Bool} {e : V} (h : EvB prog w A t b g) (hf : ∀ g', g.Le g' → Ev prog w A μ (f b) e g') : Ev prog w A μ (t >>= f) e g := fun E Q hQ =>
  wpAny_bind (h E _ fun g' k => hf g' k E Q fun u g'' k' r' => hQ u g'' (k.trans k') r')

theorem ev_BinOp {l r : Expr} {op : Operator} {p : Pos} {a b d : V} (hh : A.handled = none) (lt : ∀ b, μ b → ∃ o, g.h.get? b = some o)
    (hl : Ev prog w A μ (eval l env) a g) (hr : ∀ g', g.Le g' → Ev prog w A μ (eval r env) b g') (h : binV op a b = some d) : Ev prog w A μ (eval (.BinOp l op r p) env) d g := fun E Q hQ =>
  wpAny_BinOp (hl E _ fun v g1 k1 r1 => hr g1 k1 E _ fun u g2 k2 r2 => binV_sound (fun b hb => let ⟨o, e⟩ := lt b hb; ⟨o, (k1.trans k2).up _ _ e⟩) hh h (r1.up k2) r2 E Q fun x g3 k3 r3 => hQ x g3 ((k1.trans k2).trans k3) r3)

theorem ev_UnaryOp {x : Expr} {op : UnaryOp} {p : Pos} {a d : V} (hl : Ev prog w A μ (eval x env) a g) (h : unV op a = some d) : Ev prog w A μ (eval (.UnaryOp op x p) env) d g := fun E Q hQ =>
  PySem.wpAny_UnaryOp (hl E _ fun v g1 k1 r1 => unV_sound h r1 E Q fun x g3 k3 r3 => hQ x g3 (k1.trans k3) r3)

theorem ev_IfExp {t a b : Expr} {p : Pos} {c : Bool} {d : V} (ht : EvB prog w A (isTrue t env (eval t env)) c g) (ha : ∀ g', g.Le g' → c = true → Ev prog w A μ (eval a env) d g') (hb : ∀ g', g.Le g' → c = false → Ev prog w A μ (eval b env) d g') :
    Ev prog w A μ (eval (.IfExp t a b p) env) d g := fun E Q hQ =>
  PySem.wpAny_IfExp (ht E _ fun g1 k1 => by
    cases c with
    | true => exact ha g1 k1 rfl E Q fun v g2 k2 r => hQ v g2 (k1.trans k2) r
    | false => exact hb g1 k1 rfl E Q fun v g2 k2 r => hQ v g2 (k1.trans k2) r)

theorem ev_And {a b : Expr} {p : Pos} {c : Bool} {x d : V} (ha : Ev prog w A μ (eval a env) x g) (ht : truthV x = some c) (hb : ∀ g', g.Le g' → c = true → Ev prog w A μ (eval b env) d g') (hd : c = false → d = x) :
    Ev prog w A μ (eval (.BoolOp .And [a, b] p) env) d g := fun E Q hQ =>
  BoolOp_and (ha E _ fun v g1 k1 r1 => truthV_sound ht r1 E _ fun g2 k2 => by
    cases c with
    | true => exact BoolOp_one (hb g2 (k1.trans k2) rfl E Q fun v g3 k3 r => hQ v g3 ((k1.trans k2).trans k3) r)
    | false => exact hQ v g2 (k1.trans k2) (hd rfl ▸ r1.up k2))
theorem ev_Or {a b : Expr} {p : Pos} {c : Bool} {x d : V} (ha : Ev prog w A μ (eval a env) x g) (ht : truthV x = some c) (hb : ∀ g', g.Le g' → c = false → Ev prog w A μ (eval b env) d g') (hd : c = true → d = x) :
    Ev prog w A μ (eval (.BoolOp .Or [a, b] p) env) d g := fun E Q hQ =>
  BoolOp_or (ha E _ fun v g1 k1 r1 => truthV_sound ht r1 E _ fun g2 k2 => by
    cases c with
    | false => exact BoolOp_one (hb g2 (k1.trans k2) rfl E Q fun v g3 k3 r => hQ v g3 ((k1.trans k2).trans k3) r)
    | true => exact hQ v g2 (k1.trans k2) (hd rfl ▸ r1.up k2))

theorem no_marks {op : CmpOp} {r : Expr} {n : Nat} {d : V} (h : meval tab glob n N σ ω r = some d) : behindInMarks op r = false := by
  cases r <;> first | rfl | skip
  cases n <;> exact no h

theorem ev_Compare {l r : Expr} {op : CmpOp} {p : Pos} {a b : V} {c : Bool} (hb : NoneBooked g.h) (hu : A.units + 16 < cLine)
    (hl : Ev prog w A μ (eval l env) a g) (hr : ∀ g', g.Le g' → Ev prog w A μ (eval r env) b g') (hm : behindInMarks op r = false) (h : cmpV op a b = some c) :
    Ev prog w A μ (eval (.Compare l [op] [r] p) env) (.bool c) g := fun E Q hQ =>
  wpAny_Compare1 (hl E _ fun v g1 k1 r1 => hr g1 k1 E _ fun u g2 k2 r2 => cmpV_sound (by obtain ⟨mc, b1, b2⟩ := hb; exact ⟨mc, b1.keeps (k1.trans k2).up, b2⟩) hu (r1.up k2) r2 h E Q fun x g3 k3 r3 => hQ x g3 ((k1.trans k2).trans k3) r3) hm

theorem test_Compare {l r : Expr} {op : CmpOp} {p : Pos} {whole : Sem Value} {a b : V} {c : Bool} (hb : NoneBooked g.h) (hu : A.units + 16 < cLine)
    (hl : Ev prog w A μ (eval l env) a g) (hr : ∀ g', g.Le g' → Ev prog w A μ (eval r env) b g') (hm : behindInMarks op r = false) (h : cmpV op a b = some c) :
    EvB prog w A (isTrue (.Compare l [op] [r] p) env whole) c g := fun E Q hQ =>
  wpAny_isTrue_Compare1 (hl E _ fun v g1 k1 r1 => hr g1 k1 E _ fun u g2 k2 r2 => cmpV_sound (by obtain ⟨mc, b1, b2⟩ := hb; exact ⟨mc, b1.keeps (k1.trans k2).up, b2⟩) hu (r1.up k2) r2 h E _ fun x g3 k3 r3 => by
    cases r3
    exact wpAny_truthy_bool (hQ g3 ((k1.trans k2).trans k3))) hm
theorem test_Is {l r : Expr} {p : Pos} {whole : Sem Value} {a b : Bool}
    (hl : Ev prog w A μ (eval l env) (.bool a) g) (hr : ∀ g', g.Le g' → Ev prog w A μ (eval r env) (.bool b) g') (hm : behindInMarks .Is r = false) :
    EvB prog w A (isTrue (.Compare l [.Is] [r] p) env whole) (a == b) g := fun E Q hQ =>
  wpAny_isTrue_Compare1 (hl E _ fun v g1 k1 r1 => hr g1 k1 E _ fun u g2 k2 r2 => by
    cases r1; cases r2
    unfold compareOp
    refine wpAny_bind (wpAny_isSame_plain (by rfl) (wpAny_pure (wpAny_truthy_bool ?_)))
    have e : (Value.bool a == Value.bool b) = (a == b) := by cases a <;> cases b <;> rfl
    rw [e]
    exact hQ g2 (k1.trans k2)) hm

theorem test_plain {e : Expr} {d : V} {c : Bool} (hl : Ev prog w A μ (eval e env) d g) (ht : truthV d = some c)
    (he : isTrue e env (eval e env) = (do let v ← eval e env; standAt e.pos; holding [v] (truthy v))) : EvB prog w A (isTrue e env (eval e env)) c g := fun E Q hQ =>
  isTrue_plain (hl E _ fun v g1 k1 r1 => truthV_sound ht r1 E Q fun g2 k2 => hQ g2 (k1.trans k2)) he

theorem starEach_cons {e : Expr} {r : List Expr} (h : ∀ a p, e ≠ .Starred a p) : starEach (e :: r) env = (false, eval e env) :: starEach r env := by
  cases e <;> first | rfl | exact absurd rfl (h _ _)

theorem meach_cons {n : Nat} {e : Expr} {r : List Expr} {ds : List V} (h : meach tab glob (n + 1) N σ ω (e :: r) = some ds) :
    (∀ a p, e ≠ .Starred a p) ∧ ∃ d ds', ds = d :: ds' ∧ meval tab glob n N σ ω e = some d ∧ meach tab glob n N σ ω r = some ds' := by
  rw [meach] at h
  split at h
  · rename_i d hd
    refine ⟨fun a p x => ?_, ?_⟩
    · subst x; cases n <;> exact no hd
    · split at h
      · rename_i ds' hds; cases h; exact ⟨d, ds', rfl, hd, hds⟩
      · cases h
  · cases h

theorem noStar {n : Nat} {es : List Expr} {ds : List V} {pos : Pos} (h : meach tab glob n N σ ω es = some ds) : (backTo pos (starEach es env)).any (·.1) = false := by
  induction es generalizing n ds with
  | nil => rfl
  | cons e r ih =>
    cases n with
    | zero => exact no h
    | succ n =>
      obtain ⟨hs, d, ds', rfl, h1, h2⟩ := meach_cons h
      rw [starEach_cons hs]
      show (false || (backTo pos (starEach r env)).any (·.1)) = false
      rw [ih h2]; rfl

theorem evalArgs_all {n : Nat} {es : List Expr} {ds : List V} {pos : Pos} (h : meach tab glob n N σ ω es = some ds) {f : Value} {E : Value → Shared → Prop} {Q : Args → Shared → Prop} {s : Shared}
    (hs : wpAny (model prog w) A (spliced (backTo pos (starEach es env))) (fun vs s' => Q ⟨vs, []⟩ s') E s) : wpAny (model prog w) A (evalArgs f true (backTo pos (starEach es env)) []) Q E s := by
  cases es with
  | nil =>
    unfold evalArgs
    refine wpAny_bind (wpAny_mono hs (fun vs s' h' => ?_) fun _ _ x => x)
    refine wpAny_holding ?_
    exact wpAny_bind (wpAny_pure (wpAny_bind (wpAny_pure (wpAny_pure h'))))
  | cons e r =>
    cases n with
    | zero => exact no h
    | succ n =>
      obtain ⟨hst, _⟩ := meach_cons h
      rw [starEach_cons hst] at hs ⊢
      exact evalArgs_plain hs
end
end Mine
end
section
open PySem PySem.W PyProof.Rows PySem.Calls PySem.Flt PySem.SeqAt
set_option maxRecDepth 100000
namespace Mine
section
variable (prog : Program) (w : World)
/-- an iterator over data -/
structure Wk (A : Around) (I : Addr) (wr rd : Addr → Prop) (xs : List V) (St : Nat → Heap → Prop) (Z0 : PH) : Prop where
  live : ∀ i h, St i h → ∀ b, wr b → ∃ o, h.get? b = some o
  own : wr I
  frame : ∀ i h h', St i h → (∀ b, (wr b ∨ rd b) → ∀ o, h.get? b = some o → h'.get? b = some o) → St i h'
  item : ∀ i d (s : Shared) (Q : Option Value → Shared → Prop) (E : Value → Shared → Prop), xs[i]? = some d → St i s.heap → 0 < s.toks →
    (∀ v h' tk, (∀ Z : PH, Z0.Le Z → tk ≤ Z.tk → Rep Z d v) → St (i + 1) h' → (∀ b o, ¬ wr b → s.heap.get? b = some o → h'.get? b = some o) → s.toks ≤ tk → Q (some v) { s with heap := h', toks := tk }) →
    wpAny (model prog w) A (pyNext (.ref I)) Q E s
  done : ∀ (s : Shared) (Q : Option Value → Shared → Prop) (E : Value → Shared → Prop), St xs.length s.heap →
    (∀ h' tk, (∀ b o, ¬ wr b → s.heap.get? b = some o → h'.get? b = some o) → s.toks ≤ tk → Q none { s with heap := h', toks := tk }) → wpAny (model prog w) A (pyNext (.ref I)) Q E s
  self : ∀ i (s : Shared) (Q : Value → Shared → Prop) (E : Value → Shared → Prop), St i s.heap → Q (.ref I) s → wpAny (model prog w) A (pyIter (.ref I)) Q E s
  lot : ∀ i target v (s : Shared) (Q : Unit → Shared → Prop) (E : Value → Shared → Prop), St i s.heap → Q () s → wpAny (model prog w) A (letOwnedTupleGo target (.ref I) v) Q E s
noncomputable def lots : List String := ["enumerate", "zip", "dict_itemiterator", "dict_reverseitemiterator", "odict_iterator", "itertools.zip_longest", "itertools.pairwise"]
noncomputable def PlainIt (h : Heap) (I : Addr) : Prop := ∃ o T vs, h.get? I = some o ∧ o.cls = .type T ∧ o.data = .fields vs ∧ lots.contains T = false
theorem lot_plain {prog : Program} {w : World} {A : Around} {I : Addr} {target : Expr} {v : Value} {s : Shared} {Q : Unit → Shared → Prop} {E : Value → Shared → Prop} (h : PlainIt s.heap I) (hQ : Q () s) :
    wpAny (model prog w) A (letOwnedTupleGo target (.ref I) v) Q E s := by
  obtain ⟨o, T, vs, ho, hc, hd, hT⟩ := h
  have core : wpAny (model prog w) A (do
      let (.ref r, .ref a) := ((Value.ref I, v) : Value × Value) | return
      let o ← load r
      match o.cls, o.data with
      | .type n, .fields vs =>
        if ["enumerate", "zip", "dict_itemiterator", "dict_reverseitemiterator", "odict_iterator", "itertools.zip_longest", "itertools.pairwise"].contains n && vs[0]? == some (rawInt a) then
          rule "for.unpacks-the-owned-tuple"
          updateField r 0 .none
      | _, _ => pure () : Sem Unit) Q E s := by
    cases v <;> first | exact wpAny_pure hQ | skip
    refine wpAny_bind (wpAny_load ho ?_)
    rw [hc, hd]
    show wpAny _ A (if (lots.contains T && _) = true then _ else _) Q E s
    rw [hT, Bool.false_and, if_neg (by simp)]
    exact wpAny_pure hQ
  cases target <;> first | exact wpAny_pure hQ | exact core
end
section
variable {prog : Program} {w : World} {A : Around} {μ : Addr → Prop} {g : GS}

theorem Wk.of_walks {I : Addr} {fp wr : List Addr} {n : Nat} {P : Nat → Value → Prop} {St : Nat → Heap → Prop} {xs : List V} {Z0 : PH} (W : Walks prog w A I fp wr n P St) (hI : wr = [I]) (hn : n = xs.length) (hT : ∀ i h, St i h → PlainIt h I)
    (hP : ∀ i d v, xs[i]? = some d → P i v → ∀ Z : PH, Z0.Le Z → Rep Z d v) : Wk prog w A I (· ∈ wr) (· ∈ fp) xs St Z0 where
  live := fun i h st b hb => by
    obtain ⟨o, _, _, e, _⟩ := hT i h st
    rw [hI] at hb
    exact ⟨o, by rw [List.mem_singleton.mp hb]; exact e⟩
  own := by rw [hI]; simp
  frame := fun i h h' st k => W.frame i h h' st fun b hb o e => k b (.inr hb) o e
  item := fun i d s Q E hd st _ hQ => by
    have hi : i < n := by rw [hn]; exact (List.getElem?_eq_some_iff.mp hd).1
    exact wpAny_with_toks (n := s.toks) (Nat.le_refl _) (W.item i s _ _ hi st fun v h' tk p st' k ht => hQ v h' tk (fun Z hz _ => hP i d v hd p Z hz) st' k ht)
  done := fun s Q E st hQ => wpAny_with_toks (n := s.toks) (Nat.le_refl _) (W.done s _ _ (hn ▸ st) fun h' tk k ht => hQ h' tk k ht)
  self := W.self
  lot := fun i _ _ _ _ _ st hQ => lot_plain (hT i _ st) hQ

theorem Wk.ascii (hh : A.handled = none) (I : Addr) (x : Str) (t : Tok) (Z0 : PH) :
    Wk prog w A I (· = I) (· = I) (chars x) (fun i h => h.IsStrIter I "str_ascii_iterator" x t i) Z0 where
  live := fun i h st b hb => by subst hb; obtain ⟨o, e, _⟩ := st; exact ⟨o, e⟩
  own := rfl
  frame := fun _ _ _ st hk => let ⟨o, ho, r⟩ := st; ⟨o, hk I (.inl rfl) o ho, r⟩
  item := fun i d s Q E hd st hp hQ => by
    obtain ⟨c, hc, rfl⟩ : ∃ c, x.cps[i]? = some c ∧ d = .chr c := by
      unfold chars at hd
      rw [List.getElem?_map] at hd
      cases e : x.cps.toList[i]? with
      | none => rw [e] at hd; cases hd
      | some c => rw [e] at hd; cases hd; exact ⟨c, by simpa using e, rfl⟩
    refine wpAny_pyNext_ascii_item st hc fun h' hit' hs' => ?_
    exact hQ _ h' (s.toks + 1) (fun Z _ hz => ⟨_, rfl, hp, Nat.lt_of_lt_of_le (Nat.lt_succ_self _) hz⟩) hit' (fun b o hb e => hs'.extBut b o hb e) (Nat.le_succ _)
  done := fun s Q E st hQ => wpAny_pyNext_ascii_end hh st (by simp [chars]) fun h' he' => hQ h' s.toks (fun b o hb e => he' b o hb e) (Nat.le_refl _)
  self := fun _ _ _ _ st hQ => wpAny_pyIter_striter_ascii st hQ
  lot := fun i _ _ _ _ _ st hQ => let ⟨o, ho, hc, hd⟩ := st; lot_plain ⟨o, _, _, ho, hc, hd, by decide⟩ hQ
theorem Wk.wide (hh : A.handled = none) (I : Addr) (x : Str) (t : Tok) (Z0 : PH) :
    Wk prog w A I (· = I) (· = I) (chars x) (fun i h => h.IsStrIter I "str_iterator" x t i) Z0 where
  live := fun i h st b hb => by subst hb; obtain ⟨o, e, _⟩ := st; exact ⟨o, e⟩
  own := rfl
  frame := fun _ _ _ st hk => let ⟨o, ho, r⟩ := st; ⟨o, hk I (.inl rfl) o ho, r⟩
  item := fun i d s Q E hd st hp hQ => by
    obtain ⟨c, hc, rfl⟩ : ∃ c, x.cps[i]? = some c ∧ d = .chr c := by
      unfold chars at hd
      rw [List.getElem?_map] at hd
      cases e : x.cps.toList[i]? with
      | none => rw [e] at hd; cases hd
      | some c => rw [e] at hd; cases hd; exact ⟨c, by simpa using e, rfl⟩
    refine wpAny_pyNext_wide_item st hc fun h' hit' hs' => ?_
    exact hQ _ h' (s.toks + 1) (fun Z _ hz => ⟨_, rfl, hp, Nat.lt_of_lt_of_le (Nat.lt_succ_self _) hz⟩) hit' (fun b o hb e => hs'.extBut b o hb e) (Nat.le_succ _)
  done := fun s Q E st hQ => wpAny_pyNext_wide_end hh st (by simp [chars]) fun h' he' => hQ h' s.toks (fun b o hb e => he' b o hb e) (Nat.le_refl _)
  self := fun _ _ _ _ st hQ => wpAny_pyIter_striter_wide st hQ
  lot := fun i _ _ _ _ _ st hQ => let ⟨o, ho, hc, hd⟩ := st; lot_plain ⟨o, _, _, ho, hc, hd, by decide⟩ hQ

theorem PH.Le.trans {Z Z' Z'' : PH} (h : Z.Le Z') (h' : Z'.Le Z'') : Z.Le Z'' := ⟨fun b x e => h'.o b x (h.o b x e), fun t u e => h'.F t u (h.F t u e), Nat.le_trans h.tk h'.tk⟩
theorem res_fresh {X : Addr → Prop} {g g' : GS} (u : g.Le g') (hX : ∀ b, X b → g.h.get? b = none) : (res μ g).Le (res (fun b => μ b ∨ X b) g') :=
  ⟨fun b o x => ⟨fun h => h.elim x.1 fun hx => (by have := hX b hx; rw [x.2] at this; cases this), u.up b o x.2⟩, u.F, u.t⟩
/-- the value it is an iterator over xs -/
noncomputable def Src (prog : Program) (w : World) (A : Around) (μ : Addr → Prop) (it : Value) (xs : List V) (g0 g : GS) : Prop :=
  ∃ I wr rd St, it = .ref I ∧ Wk prog w A I wr rd xs St (res (fun b => μ b ∨ wr b) g) ∧ St 0 g.h ∧ (∀ b, wr b → g0.h.get? b = none ∧ ∃ o, g.h.get? b = some o) ∧ (∀ b, rd b → ¬ μ b ∧ ∃ o, g.h.get? b = some o) ∧ xs.length ≤ 4096
noncomputable def EvSrc (prog : Program) (w : World) (A : Around) (μ : Addr → Prop) (t : Sem Value) (xs : List V) (g : GS) : Prop :=
  ∀ (E : Value → Shared → Prop) (Q : Value → Shared → Prop), (∀ it g', g.Le g' → Src prog w A μ it xs g g' → Q it g'.s) → wpAny (model prog w) A t (fun v s₁ => wpAny (model prog w) A (pyIter v) Q E s₁) E g.s

noncomputable def GS.push (g : GS) (o : Obj) : GS := g.at { g.s with heap := g.s.heap.push o } (Nat.le_refl _)
theorem GS.push_le (g : GS) (o : Obj) : g.Le (g.push o) := le_push g o
theorem wpAny_push {α : Type} {t : Sem α} {Q : α → Shared → Prop} {E : Value → Shared → Prop} {s s' : Shared} (e : s = s') (h : wpAny (model prog w) A t Q E s) : wpAny (model prog w) A t Q E s' := e ▸ h

theorem items_sound {d : V} {v : Value} {xs : List V} {g0 : GS} (hh : A.handled = none) (u : g0.Le g) (lt : ∀ b, μ b → ∃ o, g0.h.get? b = some o) (h : itemsV d = some xs) (r : Rep (res μ g) d v) :
    ∀ (E : Value → Shared → Prop) (Q : Value → Shared → Prop), (∀ it g', g.Le g' → Src prog w A μ it xs g0 g' → Q it g'.s) → wpAny (model prog w) A (pyIter v) Q E g.s := by
  intro E Q hQ
  have fresh0 : g0.h.get? g.h.objs.size = none := by
    cases e : g0.h.get? g.h.objs.size with
    | none => rfl
    | some o => have := u.up _ _ e; rw [get_size] at this; cases this
  have freshm : ¬ μ g.h.objs.size := fun hm => by obtain ⟨o, e⟩ := lt _ hm; rw [fresh0] at e; cases e
  unfold itemsV at h
  split at h
  · split at h
    · rename_i hl
      cases h
      obtain ⟨a, o, vs, n, rfl, z1, c1, d1, l1⟩ := r
      have hL : g.s.heap.IsList a vs.toArray := ⟨o, z1.2, c1, n, d1⟩
      have hlt : a < g.s.heap.objs.size := Heap.lt_size z1.2
      refine wpAny_pyIter_list hL (hQ _ (g.push _) (g.push_le _) ⟨g.s.heap.objs.size, _, _, _, rfl, Wk.of_walks (Walks.list hh _ a (Nat.ne_of_lt hlt) vs.toArray) rfl (by simp [l1.length]) (fun i h st => let ⟨o, ho, hc, hd⟩ := st.1; ⟨o, _, _, ho, hc, hd, by decide⟩) ?_,
        ⟨⟨_, Heap.get?_push_size _ rfl, rfl, rfl⟩, hL.push _⟩, ?_, ?_, hl⟩)
      · intro i d v hd hv Z hz
        obtain ⟨v', hv', rr⟩ := l1.get i d hd
        have : v' = v := by
          have h2 : vs[i]? = some v := by simpa using hv
          rw [hv'] at h2; cases h2; rfl
        subst this
        exact Rep.mono (res_fresh (g.push_le _) (fun b hb => by rw [List.mem_singleton.mp hb]; exact get_size _) |>.trans hz) _ _ rr
      · intro b hb
        rw [List.mem_singleton.mp hb]
        exact ⟨fresh0, _, Heap.get?_push_size _ rfl⟩
      · intro b hb
        rcases List.mem_cons.mp hb with rfl | hb
        · exact ⟨freshm, _, Heap.get?_push_size _ rfl⟩
        · rw [List.mem_singleton.mp hb]
          exact ⟨z1.1, _, Heap.get?_push_of_some _ z1.2⟩
    · cases h
  · split at h
    · rename_i hl
      cases h
      obtain ⟨a, o, vs, n, rfl, z1, c1, d1, l1⟩ := r
      have hL : g.s.heap.IsTuple a vs.toArray := ⟨o, z1.2, c1, n, d1⟩
      have hlt : a < g.s.heap.objs.size := Heap.lt_size z1.2
      refine wpAny_pyIter_tuple hL (hQ _ (g.push _) (g.push_le _) ⟨g.s.heap.objs.size, _, _, _, rfl, Wk.of_walks (Walks.tuple hh _ a (Nat.ne_of_lt hlt) vs.toArray) rfl (by simp [l1.length]) (fun i h st => let ⟨o, ho, hc, hd⟩ := st.1; ⟨o, _, _, ho, hc, hd, by decide⟩) ?_,
        ⟨⟨_, Heap.get?_push_size _ rfl, rfl, rfl⟩, hL.push _⟩, ?_, ?_, hl⟩)
      · intro i d v hd hv Z hz
        obtain ⟨v', hv', rr⟩ := l1.get i d hd
        have : v' = v := by
          have h2 : vs[i]? = some v := by simpa using hv
          rw [hv'] at h2; cases h2; rfl
        subst this
        exact Rep.mono (res_fresh (g.push_le _) (fun b hb => by rw [List.mem_singleton.mp hb]; exact get_size _) |>.trans hz) _ _ rr
      · intro b hb
        rw [List.mem_singleton.mp hb]
        exact ⟨fresh0, _, Heap.get?_push_size _ rfl⟩
      · intro b hb
        rcases List.mem_cons.mp hb with rfl | hb
        · exact ⟨freshm, _, Heap.get?_push_size _ rfl⟩
        · rw [List.mem_singleton.mp hb]
          exact ⟨z1.1, _, Heap.get?_push_of_some _ z1.2⟩
    · cases h
  · split at h
    · rename_i x hl
      cases h
      obtain ⟨t, rfl⟩ := r
      have hlen : (chars x).length ≤ 4096 := by simpa [chars, Str.length] using hl
      cases ha : x.cps.all (· < 128)
      · exact wpAny_pyIter_wide ha (hQ _ (g.push _) (g.push_le _) ⟨_, _, _, _, rfl, Wk.wide hh _ x t _, ⟨_, Heap.get?_push_size _ rfl, rfl, rfl⟩,
          fun b hb => by subst hb; exact ⟨fresh0, _, Heap.get?_push_size _ rfl⟩, fun b hb => by subst hb; exact ⟨freshm, _, Heap.get?_push_size _ rfl⟩, hlen⟩)
      · exact wpAny_pyIter_ascii ha (hQ _ (g.push _) (g.push_le _) ⟨_, _, _, _, rfl, Wk.ascii hh _ x t _, ⟨_, Heap.get?_push_size _ rfl, rfl, rfl⟩,
          fun b hb => by subst hb; exact ⟨fresh0, _, Heap.get?_push_size _ rfl⟩, fun b hb => by subst hb; exact ⟨freshm, _, Heap.get?_push_size _ rfl⟩, hlen⟩)
    · cases h
  · cases h
theorem range_sound {a b : Int} {xs : List V} {r : Addr} {t u v : Tok} {g0 : GS} (hh : A.handled = none) (h0 : g0.Le g) (lt : ∀ b, μ b → ∃ o, g0.h.get? b = some o) (h : rangeV a b = some xs) (hr : IsRange g.s.heap r a b 1 t u v) :
    ∀ (E : Value → Shared → Prop) (Q : Value → Shared → Prop), (∀ it g', g.Le g' → Src prog w A μ it xs g0 g' → Q it g'.s) → wpAny (model prog w) A (pyIter (.ref r)) Q E g.s := by
  intro E Q hQ
  have fresh0 : g0.h.get? g.h.objs.size = none := by
    cases e : g0.h.get? g.h.objs.size with
    | none => rfl
    | some o => have := h0.up _ _ e; rw [get_size] at this; cases this
  have freshm : ¬ μ g.h.objs.size := fun hm => by obtain ⟨o, e⟩ := lt _ hm; rw [fresh0] at e; cases e
  unfold rangeV at h
  split at h
  · rename_i hl
    cases h
    simp only [Bool.and_eq_true, decide_eq_true_eq, small] at hl
    refine wpAny_pyIter_range hr ?_ (hQ _ (g.push _) (g.push_le _) ⟨_, _, _, _, rfl, Wk.of_walks (LCg.range_walks hh a (b - a).toNat) rfl (by simp) (fun i h st => ⟨_, _, _, st, rfl, rfl, by decide⟩) ?_, ?_, ?_, ?_, ?_⟩)
    · exact small_one (by omega) (by omega) (by omega) (by omega)
    · intro i d v hd ⟨t, hv⟩ Z hz
      rw [List.getElem?_map] at hd
      cases e : (List.range (b - a).toNat)[i]? with
      | none => rw [e] at hd; cases hd
      | some j =>
        rw [e] at hd
        cases hd
        have : j = i := by
          obtain ⟨h1, h2⟩ := List.getElem?_eq_some_iff.mp e
          simpa using h2.symm
        subst this
        exact ⟨t, hv⟩
    · show IsRangeIter _ _ _ _ _
      have : Builtin.Range.rangeSize a b 1 = ((b - a).toNat : Int) := by rw [rangeSize_one]; split <;> omega
      rw [← this]
      have e : a + ((0 : Nat) : Int) * 1 = a := by omega
      have e2 : Builtin.Range.rangeSize a b 1 - ((0 : Nat) : Int) = Builtin.Range.rangeSize a b 1 := by omega
      rw [e, e2]
      exact Heap.get?_push_size _ rfl
    · intro b hb
      rw [List.mem_singleton.mp hb]
      exact ⟨fresh0, _, Heap.get?_push_size _ rfl⟩
    · intro b hb
      rw [List.mem_singleton.mp hb]
      exact ⟨freshm, _, Heap.get?_push_size _ rfl⟩
    · simp; omega
  · cases h
end
end Mine
end
section
open PySem PySem.W PyProof.Rows PySem.Calls PySem.Flt PySem.SeqAt
set_option maxRecDepth 100000
namespace Mine
noncomputable def testsTree (ifs : List Expr) (env : Env) : Sem Bool :=
  forIn ifs true fun c r => if r = true then do let ok ← isTrue c env (eval c env); pure (ForInStep.yield ok) else pure (ForInStep.yield r)
/-- what is known at fuel n -/
structure IH (prog : Program) (w : World) (tab : Tab) (glob : Str → Option V) (n : Nat) : Prop where
  ev : ∀ {A env N μ σ ω e d g}, Ok A n → View tab glob env N μ σ ω g → meval tab glob n N σ ω e = some d → Ev prog w A μ (eval e env) d g
  base : ∀ {A env N μ σ ω e d g}, Ok A n → View tab glob env N μ σ ω g → mbase tab glob n N σ ω e = some d →
    ∀ (E : Value → Shared → Prop) (Q : Value → Shared → Prop), (∀ v g', g.Le g' → RepB μ g' d v → Q v g'.s) → wpAny (model prog w) A (eval e env) Q E g.s
  each : ∀ {A env N μ σ ω es ds g} (pos : Pos), Ok A n → View tab glob env N μ σ ω g → meach tab glob n N σ ω es = some ds → EvL prog w A μ (spliced (backTo pos (starEach es env))) ds g
  test : ∀ {A env N μ σ ω e b g}, Ok A n → View tab glob env N μ σ ω g → mtest tab glob n N σ ω e = some b → EvB prog w A (isTrue e env (eval e env)) b g
  tests : ∀ {A env N μ σ ω es b g}, Ok A n → View tab glob env N μ σ ω g → mtests tab glob n N σ ω es = some b → EvB prog w A (testsTree es env) b g
  src : ∀ {A env N μ σ ω e xs g}, Ok A n → View tab glob env N μ σ ω g → msrc tab glob n N σ ω e = some xs → EvSrc prog w A μ (eval e env) xs g
  fcall : ∀ {A μ fn f ds vs d g x}, Ok A n → Glob tab glob g.h → (∀ b, μ b → ∃ o, g.h.get? b = some o) → tab x = some fn → FnIs g.h fn f → RepL (res μ g) ds vs → mcall tab glob n fn ds = some d →
    Ev prog w A μ (call (.ref f) vs) d g
  fidx : ∀ {A μ fn f ds vs d g}, Ok A n → Glob tab glob g.h → (∀ b, μ b → ∃ o, g.h.get? b = some o) → idxFn = some fn → FnIs g.h fn f → RepL (res μ g) ds vs → indexV ds = some d →
    Ev prog w A μ (call (.ref f) vs) d g

section
variable {prog : Program} {w : World} {tab : Tab} {glob : Str → Option V} {A : Around} {env : Env} {N : Names} {μ : Addr → Prop} {σ : Sto} {ω : Own} {g : GS} {n : Nat}

theorem View.ltup {g' : GS} (W : View tab glob env N μ σ ω g) (u : g.Le g') : ∀ b, μ b → ∃ o, g'.h.get? b = some o := (W.up u).lt

theorem each_succ (I : IH prog w tab glob n) {es : List Expr} {ds : List V} {pos : Pos} (ok : Ok A (n + 1)) (W : View tab glob env N μ σ ω g) (h : meach tab glob (n + 1) N σ ω es = some ds) :
    EvL prog w A μ (spliced (backTo pos (starEach es env))) ds g := by
  cases es with
  | nil =>
    rw [meach] at h; cases h
    exact fun E Q hQ => args_nil (hQ [] g (.refl g) rfl)
  | cons e r =>
    obtain ⟨hs, d, ds', rfl, h1, h2⟩ := meach_cons h
    exact fun E Q hQ => args_cons (I.ev ok.pred W h1 E _ fun v g1 k1 r1 => I.each pos ok.pred (W.up k1) h2 E _ fun vs g2 k2 r2 => hQ _ g2 (k1.trans k2) ⟨v, vs, rfl, r1.up k2, r2⟩) (starEach_cons hs)

theorem ev_List (I : IH prog w tab glob n) {es : List Expr} {p : Pos} {ds : List V} {d : V} (ok : Ok A n) (W : View tab glob env N μ σ ω g) (h : meach tab glob n N σ ω es = some ds) (hd : mkL ds = some d) :
    Ev prog w A μ (eval (.List es p) env) d g := by
  unfold mkL at hd
  split at hd
  · rename_i hl
    cases hd
    exact fun E Q hQ => List_ (I.each p ok W h E _ fun vs g1 k1 r1 => wpAny_newList (hQ _ (g1.push _) (k1.trans (g1.push_le _)) (rep_newList (W.ltup k1) r1 (g1.push_le _) rfl)) (by rw [r1.length]; exact Nat.le_trans hl (by decide)))
  · cases hd
theorem ev_Tuple (I : IH prog w tab glob n) {es : List Expr} {k : Nat} {p : Pos} {ds : List V} (ok : Ok A n) (W : View tab glob env N μ σ ω g) (h : meach tab glob n N σ ω es = some ds) (hl : ds.length ≤ 4096) :
    Ev prog w A μ (eval (.Tuple es k p) env) (.tup ds) g :=
  fun E Q hQ => Tuple_ (I.each p ok W h E _ fun vs g1 k1 r1 => wpAny_newTuple (hQ _ (g1.push _) (k1.trans (g1.push_le _)) (rep_newTup (W.ltup k1) r1 (g1.push_le _) rfl)) (by rw [r1.length]; exact Nat.le_trans hl (by decide)))

theorem typeIs_of_idx {x i d : V} {v : Value} (h : idxV x i = some d) (r : RepB μ g x v) : ∃ T id, g.s.TypeIs v T ∧ typeLookup (.type T) "__getitem__" = pure (some (.builtin id)) := by
  refine idxV_inv h (fun xs i e1 e2 _ => ?_) (fun xs i e1 e2 _ _ _ => ?_) (fun s i e1 e2 _ _ _ => ?_) <;> subst e1 e2
  · obtain ⟨a, o, vs, n, rfl, z1, c1, d1, l1⟩ := r.list
    exact ⟨"list", _, ⟨o, z1, c1⟩, PySem.slot_list_getitem.lookup⟩
  · obtain ⟨a, o, vs, n, rfl, z1, c1, d1, l1⟩ := r.rep (by intro _ e; cases e)
    exact ⟨"tuple", _, ⟨o, z1.2, c1⟩, PySem.F.slot_tuple_getitem.lookup⟩
  · obtain ⟨t, rfl⟩ := r.rep (by intro _ e; cases e)
    exact ⟨"str", _, typeIs_str _ _ _, PySem.F.slot_str_getitem.lookup⟩

theorem ev_Subscript {v s : Expr} {p : Pos} {x i d : V} (hs : ∀ o j, subscripted s false o j = operate [o, j] (getItem o j))
    (hv : ∀ (E : Value → Shared → Prop) (Q : Value → Shared → Prop), (∀ u g', g.Le g' → RepB μ g' x u → Q u g'.s) → wpAny (model prog w) A (eval v env) Q E g.s)
    (hi : ∀ g', g.Le g' → Ev prog w A μ (eval s env) i g') (h : idxV x i = some d) : Ev prog w A μ (eval (.Subscript v s p) env) d g := fun E Q hQ =>
  Subscript_ (hv E _ fun u g1 k1 r1 => hi g1 k1 E _ fun j g2 k2 r2 => by
    have r1' := r1.up k2
    obtain ⟨T, id, hT, hl⟩ := typeIs_of_idx h r1'
    unfold subscriptTail
    refine wpAny_bind ?_
    rw [getitemInPython_of_ne hT.not_modules]
    refine wpAny_bind (wpAny_specialOf hT hl ?_)
    have fin : wpAny (model prog w) A (subscripted s false u j) (fun r s₃ => wpAny (model prog w) A (letTemporaryGo v u r >>= fun _ => pure r) Q E s₃) E g2.s := by
      rw [hs]
      exact wpAny_operating (idxV_sound h r1' r2 E _ fun y g3 k3 r3 => wpAny_bind (wpAny_letTemporaryGo (wpAny_pure (hQ y g3 ((k1.trans k2).trans k3) r3))))
    first
      | exact wpAny_pure (wpAny_bind fin)
      | exact wpAny_bind (wpAny_pure (wpAny_bind fin))
      | exact wpAny_bind fin)

theorem subscripted_plain {n : Nat} {s : Expr} {d : V} (h : meval tab glob n N σ ω s = some d) : ∀ o j, subscripted s false o j = operate [o, j] (getItem o j) := by
  intro o j
  cases s <;> first | rfl | skip
  cases n <;> exact no h

theorem slice_core {v : Expr} {a b : Option Expr} {p q : Pos} {xs ys : List V} {lo hi : Option Int} (hl : xs.length ≤ 4096) (lt : ∀ b, μ b → ∃ o, g.h.get? b = some o)
    (hv : Ev prog w A μ (eval v env) (.list xs) g)
    (hab : ∀ g', g.Le g' → ∀ (E : Value → Shared → Prop) (Q : Value → Value → Shared → Prop), (∀ va vb g'', g'.Le g'' → IsPart va lo → IsPart vb hi → Q va vb g''.s) →
      wpAny (model prog w) A (evalPart a env) (fun va s₂ => wpAny (model prog w) A (evalPart b env) (fun vb s₃ => Q va vb s₃) E s₂) E g'.s)
    (hp : ∀ items : List Value, ∃ k : List Value, slicePick items.toArray lo hi none = k.toArray ∧ (∀ Z, RepL Z xs items → RepL Z ys k)) : Ev prog w A μ (eval (.Subscript v (.Slice a b none p) q) env) (.list ys) g := fun E Q hQ => by
  rw [eval_Subscript]
  refine wpAny_bind (hv E _ fun o g1 k1 r1 => wpAny_bind (wpAny_holding (wpAny_Slice (wpAny_mono (hab g1 k1 E (fun va vb s₃ => ∃ g'' : GS, s₃ = g''.s ∧ g1.Le g'' ∧ IsPart va lo ∧ IsPart vb hi) fun va vb g2 k2 pa pb => ⟨g2, rfl, k2, pa, pb⟩)
    (fun va s₂ h₂ => wpAny_mono h₂ (fun vb s₃ h₃ => ?_) fun _ _ x => x) fun _ _ x => x))))
  obtain ⟨g2, rfl, k2, pa, pb⟩ := h₃
  obtain ⟨ad, o', vs, m, rfl, z1, c1, d1, l1⟩ := r1.up k2
  have hL : g2.s.heap.IsList ad vs.toArray := ⟨o', z1.2, c1, m, d1⟩
  rw [evalPart_none]
  refine wpAny_pure (wpAny_bind (wpAny_standAt ?_))
  have hT : ({ g2.s with heap := g2.s.heap.push { cls := .type "slice", data := .fields #[va, vb, .none] } } : Shared).TypeIs (.ref ad) "list" := (hL.push _).typeIs
  have fin : wpAny (model prog w) A (operate [.ref g2.s.heap.objs.size, .ref ad] (getItem (.ref ad) (.ref g2.s.heap.objs.size))) (fun r s₃ => wpAny (model prog w) A (letTemporaryGo v (.ref ad) r >>= fun _ => pure r) Q E s₃) E
      { g2.s with heap := g2.s.heap.push { cls := .type "slice", data := .fields #[va, vb, .none] } } := by
    refine wpAny_operating (wpAny_getItem_list_slice (hL.push _) (Heap.IsSliceOf.new ..) pa pb .none (by simp) (wpAny_bind (wpAny_letTemporaryGo (wpAny_pure ?_))) (by rw [List.size_toArray, l1.length]; exact Nat.le_trans hl (by decide)))
    obtain ⟨k, hk, hr⟩ := hp vs
    rw [hk]
    have kk := (k1.trans k2).trans ((g2.push_le { cls := .type "slice", data := .fields #[va, vb, .none] }).trans (GS.push_le _ { cls := .type "list", data := .seq k.toArray }))
    refine hQ _ ((g2.push _).push _) kk ?_
    refine rep_newList (g := g2.push _) (fun b hb => ?_) ((hr _ l1).up (g2.push_le _)) (GS.push_le _ _) rfl
    obtain ⟨o, e⟩ := lt b hb
    exact ⟨o, ((k1.trans k2).trans (g2.push_le _)).up _ _ e⟩
  first
    | (refine wpAny_bind ?_
       rw [getitemInPython_of_ne hT.not_modules]
       refine wpAny_bind (wpAny_specialOf hT list_getitem_lookup ?_)
       first
         | exact wpAny_pure (wpAny_bind fin)
         | exact wpAny_bind (wpAny_pure (wpAny_bind fin))
         | exact wpAny_bind fin)
    | (refine wpAny_bind (wpAny_specialOf hT list_getitem_lookup ?_)
       first
         | exact wpAny_bind (wpAny_pure (wpAny_bind fin))
         | exact wpAny_bind fin)

theorem ev_SliceTo {v b : Expr} {p q : Pos} {xs : List V} {k : Int} (hl : xs.length ≤ 4096) (lt : ∀ b, μ b → ∃ o, g.h.get? b = some o) (hv : Ev prog w A μ (eval v env) (.list xs) g)
    (hb : ∀ g', g.Le g' → Ev prog w A μ (eval b env) (.int k) g') (hk : 0 ≤ k) : Ev prog w A μ (eval (.Subscript v (.Slice none (some b) none p) q) env) (.list (xs.take k.toNat)) g := by
  refine slice_core (lo := none) (hi := some ((k.toNat : Nat) : Int)) hl lt hv (fun g' u E Q hQ => ?_) fun items => ⟨items.take k.toNat, by rw [slicePick_upto'], fun Z r => r.take _⟩
  rw [evalPart_none, evalPart_some]
  refine wpAny_pure (hb g' u E _ fun y g2 k2 r2 => ?_)
  obtain ⟨t, rfl⟩ := r2
  refine hQ _ _ g2 k2 .none ?_
  rw [show ((k.toNat : Nat) : Int) = k by omega]
  exact .int k t
theorem ev_SliceFrom {v b : Expr} {p q : Pos} {xs : List V} {k : Int} (hl : xs.length ≤ 4096) (lt : ∀ b, μ b → ∃ o, g.h.get? b = some o) (hv : Ev prog w A μ (eval v env) (.list xs) g)
    (hb : ∀ g', g.Le g' → Ev prog w A μ (eval b env) (.int k) g') (hk : 0 ≤ k) : Ev prog w A μ (eval (.Subscript v (.Slice (some b) none none p) q) env) (.list (xs.drop k.toNat)) g := by
  refine slice_core (lo := some ((k.toNat : Nat) : Int)) (hi := none) hl lt hv (fun g' u E Q hQ => ?_) fun items => ⟨items.drop k.toNat, by rw [slicePick_from'], fun Z r => r.drop _⟩
  rw [evalPart_none, evalPart_some]
  refine hb g' u E _ fun y g2 k2 r2 => ?_
  obtain ⟨t, rfl⟩ := r2
  refine wpAny_pure (hQ _ _ g2 k2 ?_ .none)
  rw [show ((k.toNat : Nat) : Int) = k by omega]
  exact .int k t
end
end Mine
end
section
open PySem PySem.W PyProof.Rows PySem.Calls PySem.Flt PySem.SeqAt
set_option maxRecDepth 100000
namespace Mine
section
variable {prog : Program} {w : World} {tab : Tab} {glob : Str → Option V} {A : Around} {env : Env} {N : Names} {μ : Addr → Prop} {σ : Sto} {ω : Own} {g : GS} {n : Nat}

theorem noStar2 {n : Nat} {es : List Expr} {ds : List V} {pos : Pos} (h : meach tab glob n N σ ω es = some ds) : (backTo pos (starEach es env)).all (fun x => !x.1) = true := by
  have := noStar (env := env) (pos := pos) h
  rw [List.all_eq_not_any_not]
  simpa using this

theorem ev_method (I : IH prog w tab glob n) {o : Expr} {m : Str} {ap p : Pos} {as : List Expr} {x d : V} {ds : List V} (ok : Ok A n) (W : View tab glob env N μ σ ω g)
    (hb : plainBase o = true) (hl : as.length < 30) (hp : (ap.endLine == p.line) = true) (ho : meval tab glob n N σ ω o = some x) (has : meach tab glob n N σ ω as = some ds) (h : methB x m ds = some d) :
    Ev prog w A μ (eval (.Call (.Attribute o m ap) as [] p) env) d g := fun E Q hQ => by
  have hbase : attributeBase o m env (eval o env) = eval o env := by cases o <;> first | rfl | (exact absurd hb Bool.false_ne_true)
  rw [arm_eval_Call, hbase]
  refine wpAny_bind (I.ev ok W ho E _ fun u g1 k1 r1 => wpAny_bind (wpAny_standAt ?_))
  have hform : methodCallForm (as.length + ([] : List Keyword).length) (backTo p (starEach as env)) (backToKw p (keywordEach [] env)) = true := by
    unfold methodCallForm
    rw [noStar2 has]
    rw [show backToKw p (keywordEach [] env) = [] from rfl]
    simp
    omega
  have hpos : methodCallPos true o env ap p = pure p := by unfold methodCallPos; simp [hp]
  unfold methodCall
  rw [hform]
  refine wpAny_bind (wpAny_holding (methB_get h r1 (wpAny_bind (wpAny_of_eq hpos ?_))))
  refine callWith_builtin (noStar has) (evalArgs_all has (I.each p ok (W.up k1) has E _ fun vs g2 k2 r2 => ?_))
  exact methB_sound (W.ltup (k1.trans k2)) h (r1.up k2) r2 E Q fun v g3 k3 r3 => hQ v g3 ((k1.trans k2).trans k3) r3

/-- a global name that the text does not bind -/
theorem load_builtin {x : Str} {p : Pos} {v : Value} (W : View tab glob env N μ σ ω g) (hx : isGlob N x = true) (ht : tab x = none)
    (hm : x ∈ (["len", "min", "max", "sum", "sorted", "int", "range", "isinstance", "bool", "enumerate"] : List String).map Str.ofString) (hv : bootBuiltins x = some v) {E : Value → Shared → Prop} {Q : Value → Shared → Prop} (hQ : Q v g.s) :
    wpAny (model prog w) A (eval (.Name x p) env) Q E g.s := by
  unfold isGlob at hx
  simp only [Bool.and_eq_true, beq_iff_eq] at hx
  obtain ⟨mg, mb, g1, g2, _, g4, _⟩ := W.G.top
  obtain ⟨h1, h2⟩ := g4 x ht hm
  exact Name_function_global W.kind (W.glo x hx.1) (loadGlobal_builtin (W.globals ▸ g1) h1 (W.builtins ▸ g2) (h2.trans hv) hQ) (sget_okd hx.2).1
theorem load_fn {x : Str} {p : Pos} {fn : Fn} (W : View tab glob env N μ σ ω g) (hx : isGlob N x = true) (ht : tab x = some fn ∨ (x = "indexOf" ∧ idxFn = some fn)) {E : Value → Shared → Prop} {Q : Value → Shared → Prop} (hQ : ∀ f, FnIs g.h fn f → Q (.ref f) g.s) :
    wpAny (model prog w) A (eval (.Name x p) env) Q E g.s := by
  unfold isGlob at hx
  simp only [Bool.and_eq_true, beq_iff_eq] at hx
  obtain ⟨mg, mb, g1, g2, _, _, g5⟩ := W.G.top
  obtain ⟨f, h1, h2⟩ := g5 x fn ht
  exact Name_function_global W.kind (W.glo x hx.1) (loadGlobal_global (W.globals ▸ g1) h1 (hQ f h2)) (sget_okd hx.2).1

theorem callB_val {f : Str} {ds : List V} {d : V} (h : callB f ds = some d) : f ∈ (["len", "min", "max", "sum", "sorted", "int", "range", "isinstance", "bool", "enumerate"] : List String).map Str.ofString ∧
    ((∃ id, bootBuiltins f = some (.builtin id)) ∨ (∃ T, bootBuiltins f = some (.type T))) := by
  refine callB_inv h (fun e _ => ?_) (fun e _ => ?_) (fun e _ => ?_) (fun e _ => ?_) (fun e _ => ?_) (fun e _ => ?_)
  · subst e; exact ⟨by decide, .inl ⟨"len", by decide +kernel⟩⟩
  · subst e; exact ⟨by decide, .inl ⟨"min", by decide +kernel⟩⟩
  · subst e; exact ⟨by decide, .inl ⟨"max", by decide +kernel⟩⟩
  · subst e; exact ⟨by decide, .inl ⟨"sum", by decide +kernel⟩⟩
  · subst e; exact ⟨by decide, .inl ⟨"sorted", by decide +kernel⟩⟩
  · subst e; exact ⟨by decide, .inr ⟨"int", by decide +kernel⟩⟩

theorem ev_builtin (I : IH prog w tab glob n) {f : Str} {fp p : Pos} {as : List Expr} {d : V} {ds : List V} (ok : Ok A n) (W : View tab glob env N μ σ ω g)
    (hx : isGlob N f = true) (ht : tab f = none) (has : meach tab glob n N σ ω as = some ds) (h : callB f ds = some d) : Ev prog w A μ (eval (.Call (.Name f fp) as [] p) env) d g := fun E Q hQ => by
  have hu : A.units + 16 < cLine := by have := ok.units; omega
  have step := fun g' vs (u : g.Le g') (r : RepL (res μ g') ds vs) => callB_sound (prog := prog) (w := w) ok.hand (W.G.up u.up).booked hu (W.ltup u) r h
  have core : f ∈ (["len", "min", "max", "sum", "sorted", "int", "range", "isinstance", "bool", "enumerate"] : List String).map Str.ofString ∧
      ((∃ id, bootBuiltins f = some (.builtin id) ∧ ∀ g' vs, g.Le g' → RepL (res μ g') ds vs → Ev prog w A μ (call (.builtin id) vs) d g') ∨ (∃ T, bootBuiltins f = some (.type T) ∧ ∀ g' vs, g.Le g' → RepL (res μ g') ds vs → Ev prog w A μ (call (.type T) vs) d g')) := by
    obtain ⟨hm, hv⟩ := callB_val h
    refine ⟨hm, ?_⟩
    rcases hv with ⟨id, hb⟩ | ⟨T, hb⟩
    · refine .inl ⟨id, hb, fun g' vs u r => ?_⟩
      rcases (step g' vs u r).2 with ⟨id', e, hE⟩ | ⟨T, e, hE⟩ <;> rw [hb] at e <;> cases e
      exact hE
    · refine .inr ⟨T, hb, fun g' vs u r => ?_⟩
      rcases (step g' vs u r).2 with ⟨id', e, hE⟩ | ⟨T, e, hE⟩ <;> rw [hb] at e <;> cases e
      exact hE
  rcases core.2 with ⟨id, hb, hE⟩ | ⟨T, hb, hE⟩
  · refine Call_ (load_builtin W hx ht core.1 hb ?_)
    refine callWith_builtin (noStar has) (evalArgs_all has (I.each p ok W has E _ fun vs g2 k2 r2 => ?_))
    exact hE g2 vs k2 r2 E Q fun v g3 k3 r3 => hQ v g3 (k2.trans k3) r3
  · refine Call_ (load_builtin W hx ht core.1 hb ?_)
    refine PyProof.Rows.callWith_type (noStar has) (evalArgs_all has (I.each p ok W has E _ fun vs g2 k2 r2 => ?_))
    exact hE g2 vs k2 r2 E Q fun v g3 k3 r3 => hQ v g3 (k2.trans k3) r3

theorem ev_isbool (I : IH prog w tab glob n) {f t : Str} {fp tp p : Pos} {a : Expr} {b : Bool} (ok : Ok A n) (W : View tab glob env N μ σ ω g)
    (hx : isGlob N f = true) (ht : tab f = none) (hf : f = "isinstance") (hx2 : isGlob N t = true) (ht2 : tab t = none) (hf2 : t = "bool") (ha : meval tab glob n N σ ω a = some (.bool b)) :
    Ev prog w A μ (eval (.Call (.Name f fp) [a, .Name t tp] [] p) env) (.bool true) g := fun E Q hQ => by
  subst hf hf2
  have hsa : ∀ x q, a ≠ .Starred x q := fun x q e => by subst e; cases n <;> exact no ha
  refine Call_ (load_builtin W hx ht (by decide) (v := .builtin "isinstance") (by decide +kernel) ?_)
  have pl : (backTo p (starEach [a, .Name "bool" tp] env)).any (·.1) = false := by rw [starEach_cons hsa]; rfl
  refine callWith_builtin pl ?_
  rw [starEach_cons hsa]
  refine evalArgs_plain (spliced_cons (I.ev ok W ha E _ fun v g1 k1 r1 => ?_))
  refine spliced_cons (load_builtin (W.up k1) hx2 ht2 (by decide) (v := .type "bool") (by decide +kernel) (spliced_nil ?_))
  exact isbool_sound r1 E Q fun v g2 k2 r2 => hQ v g2 (k1.trans k2) r2

theorem ev_fn (I : IH prog w tab glob n) {f : Str} {fp p : Pos} {as : List Expr} {d : V} {ds : List V} {fn : Fn} (ok : Ok A n) (W : View tab glob env N μ σ ω g)
    (hx : isGlob N f = true) (ht : tab f = some fn) (has : meach tab glob n N σ ω as = some ds) (h : mcall tab glob n fn ds = some d) : Ev prog w A μ (eval (.Call (.Name f fp) as [] p) env) d g := fun E Q hQ => by
  refine Call_ (load_fn W hx (.inl ht) fun fa hfa => ?_)
  obtain ⟨o, name, qual, ps, sc, dV, kV, doc, pm, an, cdv, ct, a2, a3, a4⟩ := id hfa
  refine callWith_function (o := o) (evalArgs_all has (I.each p ok W has E _ fun vs g2 k2 r2 => ⟨⟨k2.up _ _ a2, a3⟩, ?_⟩))
  exact I.fcall ok (W.G.up k2.up) (W.ltup k2) ht (hfa.up k2.up) r2 h E Q fun v g3 k3 r3 => hQ v g3 (k2.trans k3) r3
theorem ev_idx (I : IH prog w tab glob n) {f : Str} {fp p : Pos} {as : List Expr} {d : V} {ds : List V} {fn : Fn} (ok : Ok A n) (W : View tab glob env N μ σ ω g)
    (hx : isGlob N f = true) (hf : f = "indexOf") (ht : idxFn = some fn) (has : meach tab glob n N σ ω as = some ds) (h : indexV ds = some d) : Ev prog w A μ (eval (.Call (.Name f fp) as [] p) env) d g := fun E Q hQ => by
  refine Call_ (load_fn W hx (.inr ⟨hf, ht⟩) fun fa hfa => ?_)
  obtain ⟨o, name, qual, ps, sc, dV, kV, doc, pm, an, cdv, ct, a2, a3, a4⟩ := id hfa
  refine callWith_function (o := o) (evalArgs_all has (I.each p ok W has E _ fun vs g2 k2 r2 => ⟨⟨k2.up _ _ a2, a3⟩, ?_⟩))
  exact I.fidx ok (W.G.up k2.up) (W.ltup k2) ht (hfa.up k2.up) r2 h E Q fun v g3 k3 r3 => hQ v g3 (k2.trans k3) r3

/-- the source of a loop: a range -/
theorem src_range (I : IH prog w tab glob n) {f : Str} {fp p : Pos} {as : List Expr} {xs : List V} {ds : List V} (ok : Ok A n) (W : View tab glob env N μ σ ω g)
    (hx : isGlob N f = true) (ht : tab f = none) (hf : f = "range") (has : meach tab glob n N σ ω as = some ds)
    (h : rangeD ds = some xs) : EvSrc prog w A μ (eval (.Call (.Name f fp) as [] p) env) xs g := fun E Q hQ => by
  subst hf
  refine Call_ (load_builtin W hx ht (by decide) (v := .type "range") (by decide +kernel) ?_)
  refine PyProof.Rows.callWith_type (noStar has) (evalArgs_all has (I.each p ok W has E _ fun vs g1 k1 r1 => ?_))
  rcases rangeD_inv h with ⟨b, rfl, h⟩ | ⟨a, b, rfl, h⟩
  · obtain ⟨v, r, rfl, ⟨t, rfl⟩, rfl⟩ := r1
    refine call_range_1 ?_
    have ht1 : g1.s.toks ≤ (g1.s.toks + 1 + 1 : Nat) := Nat.le_add_right _ 2
    have k2 := g1.at_le { g1.s with heap := g1.s.heap.push { cls := .type "range", data := .fields #[.int 0 g1.s.toks, .int b t, .int 1 (g1.s.toks + 1)] }, toks := g1.s.toks + 1 + 1 } ht1 ⟨g1.s.heap.push _, _, rfl, fun b o e => Heap.get?_push_of_some _ e⟩
    exact range_sound (g := g1.at _ ht1) ok.hand (k1.trans k2) W.lt h (IsRange.new ..) E Q fun it g3 k3 s3 => hQ it g3 ((k1.trans k2).trans k3) s3
  · obtain ⟨v, r, rfl, ⟨t, rfl⟩, v2, r2, rfl, ⟨t2, rfl⟩, rfl⟩ := r1
    refine call_range_2 ?_
    have ht1 : g1.s.toks ≤ (g1.s.toks + 1 : Nat) := Nat.le_add_right _ 1
    have k2 := g1.at_le { g1.s with heap := g1.s.heap.push { cls := .type "range", data := .fields #[.int a t, .int b t2, .int 1 g1.s.toks] }, toks := g1.s.toks + 1 } ht1 ⟨g1.s.heap.push _, _, rfl, fun b o e => Heap.get?_push_of_some _ e⟩
    exact range_sound (g := g1.at _ ht1) ok.hand (k1.trans k2) W.lt h (IsRange.new ..) E Q fun it g3 k3 s3 => hQ it g3 ((k1.trans k2).trans k3) s3
theorem src_plain {e : Expr} {d : V} {xs : List V} (ok : Ok A n) (W : View tab glob env N μ σ ω g) (h : Ev prog w A μ (eval e env) d g) (hi : itemsV d = some xs) : EvSrc prog w A μ (eval e env) xs g := fun E Q hQ =>
  h E _ fun v g1 k1 r1 => items_sound ok.hand k1 W.lt hi r1 E Q fun it g2 k2 s2 => hQ it g2 (k1.trans k2) s2

theorem tests_off {E : Value → Shared → Prop} {Q : Bool → Shared → Prop} {s : Shared} : ∀ (r : List Expr), Q false s →
    wpAny (model prog w) A (forIn r false fun c r => if r = true then do let ok ← isTrue c env (eval c env); pure (ForInStep.yield ok) else pure (ForInStep.yield r)) Q E s
  | [], h => wpAny_pure h
  | c :: r, h => by
    rw [List.forIn_cons]
    simp only [Bool.false_eq_true, if_false]
    exact wpAny_bind (wpAny_pure (tests_off r h))
theorem tests_succ (I : IH prog w tab glob n) {es : List Expr} {b : Bool} (ok : Ok A (n + 1)) (W : View tab glob env N μ σ ω g) (h : mtests tab glob (n + 1) N σ ω es = some b) : EvB prog w A (testsTree es env) b g := by
  cases es with
  | nil => cases h; exact fun E Q hQ => wpAny_pure (hQ g (.refl g))
  | cons c r =>
    intro E Q hQ
    unfold testsTree
    rw [List.forIn_cons]
    simp only [if_true]
    refine wpAny_bind ?_
    rcases mts_inv h with ⟨hc, h'⟩ | ⟨rfl, h'⟩
    · refine wpAny_bind (I.test ok.pred W hc E _ fun g1 k1 => wpAny_pure ?_)
      exact I.tests ok.pred (W.up k1) h' E Q fun g2 k2 => hQ g2 (k1.trans k2)
    · refine wpAny_bind (I.test ok.pred W h' E _ fun g1 k1 => wpAny_pure ?_)
      exact tests_off r (hQ g1 k1)
end
end Mine
end
section
open PySem PySem.W PyProof.Rows PySem.Calls PySem.Flt PySem.SeqAt
set_option maxRecDepth 100000
namespace Mine
-- stores
theorem sput_lookup (x : Str) (d : Option V) (y : Str) : ∀ σ : Sto, (sput x d σ).lookup y = if y = x then some d else σ.lookup y
  | [] => by
    show List.lookup y [(x, d)] = _
    rw [List.lookup_cons]
    by_cases h : y = x
    · subst h; simp
    · have : (y == x) = false := by simpa using h
      rw [this, if_neg h]
  | (z, e) :: r => by
    show (if (z == x) = true then (x, d) :: r else (z, e) :: sput x d r).lookup y = _
    by_cases hz : z = x
    · subst hz
      simp only [beq_self_eq_true, if_true, List.lookup_cons]
      by_cases h : y = z
      · subst h; simp
      · have : (y == z) = false := by simpa using h
        rw [this, if_neg h]
    · have hz' : (z == x) = false := by simpa using hz
      rw [hz']
      simp only [Bool.false_eq_true, if_false, List.lookup_cons]
      by_cases hyz : y = z
      · subst hyz; simp [hz]
      · have : (y == z) = false := by simpa using hyz
        rw [this]
        exact sput_lookup x d y r
theorem sget_sput (x : Str) (d : Option V) (σ : Sto) (y : Str) : sget (sput x d σ) y = if y = x then d else sget σ y := by
  unfold sget
  rw [sput_lookup]
  by_cases h : y = x
  · rw [if_pos h, if_pos h]
  · rw [if_neg h, if_neg h]
theorem lookup_filter (P : Str → Bool) (y : Str) : ∀ σ : Sto, (σ.filter fun p => P p.1).lookup y = if P y then σ.lookup y else none
  | [] => by simp
  | (z, e) :: r => by
    rw [List.filter_cons]
    by_cases hy : y = z
    · subst hy
      cases hp : P y with
      | true => simp
      | false => simp [lookup_filter P y r, hp]
    · have : (y == z) = false := by simpa using hy
      cases hp : P z with
      | true => simp only [if_true, List.lookup_cons, this]; exact lookup_filter P y r
      | false => simp only [Bool.false_eq_true, if_false, List.lookup_cons, this]; exact lookup_filter P y r
theorem sget_inner (scope : Scope) (σ : Sto) (y : Str) (d : V) (h : sget (inner scope σ) y = some d) : scope.names.lookup y = some .free ∧ sget σ y = some d := by
  unfold sget inner at h
  rw [lookup_filter (fun x => scope.names.lookup x == some .free)] at h
  by_cases hp : scope.names.lookup y = some .free
  · simp only [hp, beq_self_eq_true, if_true] at h
    exact ⟨hp, h⟩
  · have : (scope.names.lookup y == some NameKind.free) = false := by simpa using hp
    simp [this] at h

/-- a heap that changes at X only -/
structure GS.But (X : Addr → Prop) (g g' : GS) : Prop where
  same : ∃ h' tk, g'.s = { g.s with heap := h', toks := tk }
  keep : ∀ b o, ¬ X b → g.h.get? b = some o → g'.h.get? b = some o
  t : g.s.toks ≤ g'.s.toks
  F : ∀ t a, g.F t a → g'.F t a
theorem GS.Le.but {X : Addr → Prop} {g g' : GS} (h : g.Le g') : GS.But X g g' := ⟨let ⟨h', tk, e, _⟩ := h.k; ⟨h', tk, e⟩, fun b o _ e => h.up b o e, h.t, h.F⟩
theorem GS.But.refl (X : Addr → Prop) (g : GS) : GS.But X g g := (GS.Le.refl g).but
theorem GS.But.trans {X : Addr → Prop} {g g' g'' : GS} (h : GS.But X g g') (h' : GS.But X g' g'') : GS.But X g g'' := by
  obtain ⟨h1, t1, e1⟩ := h.same
  obtain ⟨h2, t2, e2⟩ := h'.same
  exact ⟨⟨h2, t2, by rw [e2, e1]⟩, fun b o n e => h'.keep b o n (h.keep b o n e), Nat.le_trans h.t h'.t, fun t a f => h'.F t a (h.F t a f)⟩
theorem GS.But.wider {X Y : Addr → Prop} {g g' : GS} (h : GS.But X g g') (hXY : ∀ b, X b → Y b) : GS.But Y g g' := ⟨h.same, fun b o n e => h.keep b o (fun x => n (hXY b x)) e, h.t, h.F⟩
theorem GS.But.le {X : Addr → Prop} {g0 g g' : GS} (u : g0.Le g) (h : GS.But X g g') (hX : ∀ b, X b → g0.h.get? b = none) : g0.Le g' := by
  obtain ⟨h1, t1, e1, k1⟩ := u.k
  obtain ⟨h2, t2, e2⟩ := h.same
  refine ⟨⟨h2, t2, by rw [e2, e1], fun b o e => ?_⟩, Nat.le_trans u.t h.t, fun t a f => h.F t a (u.F t a f)⟩
  have := h.keep b o (fun x => by have := hX b x; rw [show g0.h.get? b = some o from e] at this; cases this) (u.up b o e)
  rw [show g'.h = h2 by show g'.s.heap = _; rw [e2]] at this
  exact this
noncomputable def GS.chg (g : GS) (h' : Heap) (tk : Nat) (ht : g.s.toks ≤ tk) : GS := g.at { g.s with heap := h', toks := tk } ht
theorem GS.chg_but {X : Addr → Prop} {g : GS} {h' : Heap} {tk : Nat} (ht : g.s.toks ≤ tk) (k : ∀ b o, ¬ X b → g.h.get? b = some o → h'.get? b = some o) : GS.But X g (g.chg h' tk ht) := ⟨⟨h', tk, rfl⟩, k, ht, fun _ _ f => f⟩
theorem res_but {X μ : Addr → Prop} {g g' : GS} (h : GS.But X g g') (hX : ∀ b, X b → μ b) : (res μ g).Le (res μ g') := ⟨fun b o x => ⟨x.1, h.keep b o (fun y => x.1 (hX b y)) x.2⟩, h.F, h.t⟩

/-- the frame's own things -/
structure Fram (env : Env) (N : Names) (h : Heap) : Prop where
  kind : env.scope.kind = .function
  loc : ∀ x, N.lookup x = some .local → env.kindOf x = some .local
  cel : ∀ x, N.lookup x = some .cell → env.kindOf x = some .cell
  ns : ∃ m, h.Ns env.locals m
  cell : ∀ x, N.lookup x = some .cell → ∃ c v, env.cells.lookup x = some c ∧ h.IsCell c v
  apart : ∀ x y c, N.lookup x = some .cell → env.cells.lookup x = some c → env.cells.lookup y = some c → x = y
noncomputable def Mut (env : Env) (N : Names) (b : Addr) : Prop := b = env.locals ∨ ∃ x, N.lookup x = some .cell ∧ env.cells.lookup x = some b

theorem cell_not_ns {h : Heap} {a : Addr} {m : Str → Option Value} {v : Option Value} (hn : h.Ns a m) (hc : h.IsCell a v) : False := by
  obtain ⟨o, es, ep, e, d, _⟩ := hn
  obtain ⟨o', e', d'⟩ := hc
  rw [e] at e'; cases e'
  rw [d] at d'; cases d'

theorem store_var {prog : Program} {w : World} {A : Around} {env : Env} {N : Names} {s : Shared} {x : Str} {v : Value} {E : Value → Shared → Prop} {Q : Unit → Shared → Prop} (F : Fram env N s.heap) (hv : isVar N x = true)
    (hQ : ∀ h' tk, Fram env N h' → VarIs env h' x v → (∀ y u, y ≠ x → VarIs env s.heap y u → VarIs env h' y u) → (∀ b o, ¬ Mut env N b → s.heap.get? b = some o → h'.get? b = some o) → s.toks ≤ tk → Q () { s with heap := h', toks := tk }) :
    wpAny (model prog w) A (storeName env x v) Q E s := by
  unfold isVar at hv
  simp only [Bool.or_eq_true, beq_iff_eq] at hv
  obtain ⟨m, hm⟩ := F.ns
  rcases hv with hl | hc
  · refine wpAny_storeName_local (F.loc x hl) hm (fun h' hn hs => ?_) (by rw [F.kind]; rfl)
    have cellk : ∀ c u, s.heap.IsCell c u → h'.IsCell c u := fun c u hc => hc.sameBut hs fun e => by subst e; exact cell_not_ns hm hc
    refine hQ h' _ ⟨F.kind, F.loc, F.cel, ⟨_, hn⟩, fun y hy => ?_, F.apart⟩ (.inl ⟨F.loc x hl, _, hn, by simp⟩) (fun y u hyx hvu => ?_) (fun b o hb e => hs.extBut b o (fun e2 => hb (.inl e2)) e) (Nat.le_succ _)
    · obtain ⟨c, u, h1, h2⟩ := F.cell y hy
      exact ⟨c, u, h1, cellk _ _ h2⟩
    · rcases hvu with ⟨k, m', hm', hu⟩ | ⟨k, c, h1, h2⟩
      · refine .inl ⟨k, _, hn, ?_⟩
        simp only [hyx, if_false]
        obtain ⟨o, es, ep, e, d, sk, f⟩ := hm
        obtain ⟨o', es', ep', e', d', sk', f'⟩ := hm'
        rw [e] at e'; cases e'
        rw [d] at d'; cases d'
        rw [← f, f', hu]
      · exact .inr ⟨k, c, h1, cellk _ _ h2⟩
  · obtain ⟨c, u, hcl, hcc⟩ := F.cell x hc
    refine wpAny_storeName_cell F.kind (F.cel x hc) hcl hcc fun h' hn hs => ?_
    have hcL : env.locals ≠ c := fun e => by subst e; exact cell_not_ns hm hcc
    refine hQ h' s.toks ⟨F.kind, F.loc, F.cel, ⟨m, hm.sameBut hs hcL⟩, fun y hy => ?_, F.apart⟩ (.inr ⟨.inl (F.cel x hc), c, hcl, hn⟩) (fun y u hyx hvu => ?_) (fun b o hb e => hs.extBut b o (fun e2 => hb (.inr ⟨x, hc, by rw [e2]; exact hcl⟩)) e) (Nat.le_refl _)
    · obtain ⟨c', u', h1, h2⟩ := F.cell y hy
      by_cases hyx : c' = c
      · subst hyx; exact ⟨c', _, h1, hn⟩
      · exact ⟨c', u', h1, h2.sameBut hs hyx⟩
    · rcases hvu with ⟨k, m', hm', hu⟩ | ⟨k, c', h1, h2⟩
      · exact .inl ⟨k, m', hm'.sameBut hs hcL, hu⟩
      · refine .inr ⟨k, c', h1, h2.sameBut hs fun e => ?_⟩
        subst e
        exact hyx (F.apart x y c' hc hcl h1).symm
theorem Fram.but {env : Env} {N : Names} {h h' : Heap} (F : Fram env N h) (k : ∀ b o, Mut env N b → h.get? b = some o → h'.get? b = some o) : Fram env N h' := by
  obtain ⟨m, hm⟩ := F.ns
  refine ⟨F.kind, F.loc, F.cel, ⟨m, hm.at' fun o e => k _ o (.inl rfl) e⟩, fun x hx => ?_, F.apart⟩
  obtain ⟨c, v, h1, o, h2, h3⟩ := F.cell x hx
  exact ⟨c, v, h1, o, k _ _ (.inr ⟨x, hx, h1⟩) h2, h3⟩

section
variable {prog : Program} {w : World} {A : Around} {env : Env} {N : Names} {μ : Addr → Prop} {g : GS}

theorem VarIs.keep {h h' : Heap} {x : Str} {v : Value} (r : VarIs env h x v) (k : ∀ b o, h.get? b = some o → (b = env.locals ∨ env.cells.lookup x = some b) → h'.get? b = some o) : VarIs env h' x v := by
  rcases r with ⟨hk, m, hn, hv⟩ | ⟨hk, c, hc, o, hv, hd⟩
  · exact .inl ⟨hk, m, hn.at' fun o e => k _ o e (.inl rfl), hv⟩
  · exact .inr ⟨hk, c, hc, o, k _ _ hv (.inr hc), hd⟩

noncomputable def tnames : Expr → List Str
  | .Name x _ => [x]
  | .Tuple [.Name x _, .Name y _] _ _ => [x, y]
  | _ => []
/-- a target is bound: a name, or a pair -/
theorem bind_sound {σ σ' : Sto} {target : Expr} {d : V} {v : Value} (hh : A.handled = none) (F : Fram env N g.h) (hM : ∀ b, Mut env N b → μ b) (lt : ∀ b, μ b → ∃ o, g.h.get? b = some o)
    (hb : bindT N σ target d = some σ') (r : Rep (res μ g) d v)
    (hvar : ∀ x e, sget σ x = some e → ∃ u, VarIs env g.h x u ∧ Rep (res μ g) e u)
    {E : Value → Shared → Prop} {Q : Unit → Shared → Prop}
    (hQ : ∀ g' : GS, GS.But (Mut env N) g g' → Fram env N g'.h → (∀ x e, sget σ' x = some e → ∃ u, VarIs env g'.h x u ∧ Rep (res μ g') e u) →
      (∀ y u, y ∉ tnames target → VarIs env g.h y u → VarIs env g'.h y u) → Q () g'.s) :
    wpAny (model prog w) A (assign target env v) Q E g.s := by
  refine bindT_inv hb (fun x p e1 hv e2 => ?_) (fun x px y py k p d e e1 e2 hv1 hv2 e3 => ?_)
  · subst e1 e2
    · refine wpAny_assign_Name (store_var F hv fun h' tk F' hx hk hkeep ht => ?_)
      have but : GS.But (Mut env N) g (g.chg h' tk ht) := GS.chg_but ht hkeep
      refine hQ (g.chg h' tk ht) but F' (fun y e he => ?_) (fun y u hy hyu => hk y u (fun e => hy (List.mem_singleton.mpr e)) hyu)
      rw [sget_sput] at he
      by_cases hyx : y = x
      · rw [if_pos hyx] at he; cases he
        subst hyx
        exact ⟨v, hx, Rep.mono (res_but but hM) _ _ r⟩
      · rw [if_neg hyx] at he
        obtain ⟨u, h1, h2⟩ := hvar y e he
        exact ⟨u, hk y u hyx h1, Rep.mono (res_but but hM) _ _ h2⟩
  · subst e1 e2 e3
    · have hv : isVar N x = true ∧ isVar N y = true := ⟨hv1, hv2⟩
      obtain ⟨a, o, vs, n, rfl, z1, c1, d1, u1, r1, rfl, h1, u2, r2, rfl, h2, rfl⟩ := r
      refine wpAny_assign_Tuple hh ⟨o, z1.2, c1, n, d1⟩ rfl rfl fun h1' hE => ?_
      have up1 : Up g.h h1' := fun b o e => hE b o (Nat.ne_of_lt (Heap.lt_size e)) e
      have k1 : g.Le (g.chg h1' g.s.toks (Nat.le_refl _)) := ⟨⟨h1', _, rfl, up1⟩, Nat.le_refl _, fun _ _ f => f⟩
      show wpAny _ _ (holding [u2] (assign (.Name x px) env u1) >>= fun _ => assignInOrder [assign (.Name y py) env] [u2]) _ _ (g.chg h1' g.s.toks (Nat.le_refl _)).s
      refine wpAny_bind (wpAny_holding (wpAny_assign_Name (store_var (F.but fun b o _ e => up1 b o e) hv.1 fun h2' tk F' hx hk hkeep ht => ?_)))
      have b2 : GS.But (Mut env N) (g.chg h1' g.s.toks (Nat.le_refl _)) ((g.chg h1' g.s.toks (Nat.le_refl _)).chg h2' tk ht) := GS.chg_but ht hkeep
      show wpAny _ _ (holding [] (assign (.Name y py) env u2) >>= fun _ => assignInOrder [] []) _ _ _
      refine wpAny_bind (wpAny_holding (wpAny_assign_Name (store_var F' hv.2 fun h3' tk3 F3 hx3 hk3 hkeep3 ht3 => wpAny_pure ?_)))
      have b3 : GS.But (Mut env N) ((g.chg h1' g.s.toks (Nat.le_refl _)).chg h2' tk ht) (((g.chg h1' g.s.toks (Nat.le_refl _)).chg h2' tk ht).chg h3' tk3 ht3) := GS.chg_but ht3 hkeep3
      have but := ((k1.but (X := Mut env N)).trans b2).trans b3
      refine hQ (((g.chg h1' g.s.toks (Nat.le_refl _)).chg h2' tk ht).chg h3' tk3 ht3) but F3 (fun z f he => ?_) (fun z u hz hzu => hk3 z u (fun e => hz (e ▸ List.mem_cons_of_mem x List.mem_cons_self)) (hk z u (fun e => hz (e ▸ List.mem_cons_self)) (hzu.up up1)))
      rw [sget_sput, sget_sput] at he
      by_cases hzy : z = y
      · rw [if_pos hzy] at he; cases he
        subst hzy
        exact ⟨u2, hx3, Rep.mono (res_but but hM) _ _ h2⟩
      · rw [if_neg hzy] at he
        by_cases hzx : z = x
        · rw [if_pos hzx] at he; cases he
          subst hzx
          exact ⟨u1, hk3 z _ hzy hx, Rep.mono (res_but but hM) _ _ h1⟩
        · rw [if_neg hzx] at he
          obtain ⟨u, q1, q2⟩ := hvar z f he
          exact ⟨u, hk3 z u hzy (hk z u hzx (q1.up up1)), Rep.mono (res_but but hM) _ _ q2⟩
end
end Mine
end
section
open PySem PySem.W PyProof.Rows PySem.Calls PySem.Flt PySem.SeqAt
set_option maxRecDepth 100000
namespace Mine
noncomputable def closeL (env : Env) : List (Str × NameKind) → List (Str × Addr) → List (Str × Addr)
  | [], acc => acc
  | (n, k) :: r, acc => if k == .free then closeL env r ((n, (env.cells.lookup n).getD 0) :: acc) else closeL env r acc
theorem closeL_mem {env : Env} : ∀ (names : List (Str × NameKind)) (acc : List (Str × Addr)) (n : Str) (c : Addr), (n, c) ∈ closeL env names acc → (n, c) ∈ acc ∨ ((n, NameKind.free) ∈ names ∧ c = (env.cells.lookup n).getD 0)
  | [], acc, n, c, h => .inl h
  | (m, k) :: r, acc, n, c, h => by
    unfold closeL at h
    split at h
    · rename_i hk
      have hk := eq_of_beq hk
      subst hk
      rcases closeL_mem r _ n c h with h | ⟨h, e⟩
      · rcases List.mem_cons.mp h with h | h
        · cases h; exact .inr ⟨List.mem_cons_self, rfl⟩
        · exact .inl h
      · exact .inr ⟨List.mem_cons_of_mem _ h, e⟩
    · rcases closeL_mem r acc n c h with h | ⟨h, e⟩
      · exact .inl h
      · exact .inr ⟨List.mem_cons_of_mem _ h, e⟩
theorem closeL_has {env : Env} : ∀ (names : List (Str × NameKind)) (acc : List (Str × Addr)) (n : Str), ((∃ c, (n, c) ∈ acc) ∨ (n, NameKind.free) ∈ names) → ∃ c, (n, c) ∈ closeL env names acc
  | [], acc, n, h => h.elim id fun h => (by simp at h)
  | (m, k) :: r, acc, n, h => by
    unfold closeL
    split
    · rename_i hk
      have hk := eq_of_beq hk
      subst hk
      refine closeL_has r _ n ?_
      rcases h with ⟨c, h⟩ | h
      · exact .inl ⟨c, List.mem_cons_of_mem _ h⟩
      · rcases List.mem_cons.mp h with h | h
        · cases h; exact .inl ⟨_, List.mem_cons_self⟩
        · exact .inr h
    · rename_i hk
      refine closeL_has r acc n ?_
      rcases h with h | h
      · exact .inl h
      · rcases List.mem_cons.mp h with h | h
        · cases h; exact absurd rfl hk
        · exact .inr h
theorem lookup_of_mem {α : Type} : ∀ {l : List (Str × α)} {n : Str} {c : α}, (n, c) ∈ l → ∃ d, l.lookup n = some d ∧ (n, d) ∈ l
  | (m, d) :: r, n, c, h => by
    rw [List.lookup_cons]
    cases hb : n == m with
    | true => exact ⟨d, rfl, by rw [eq_of_beq hb]; exact List.mem_cons_self⟩
    | false =>
      rcases List.mem_cons.mp h with h | h
      · cases h; simp at hb
      · obtain ⟨e, h1, h2⟩ := lookup_of_mem h
        exact ⟨e, h1, List.mem_cons_of_mem _ h2⟩
theorem lookup_none {α : Type} : ∀ {l : List (Str × α)} {n : Str}, (∀ c, (n, c) ∉ l) → l.lookup n = none
  | [], _, _ => rfl
  | (m, d) :: r, n, h => by
    rw [List.lookup_cons]
    cases hb : n == m with
    | true => exact absurd (by rw [eq_of_beq hb]; exact List.mem_cons_self) (h d)
    | false => exact lookup_none fun c hc => h c (List.mem_cons_of_mem _ hc)
theorem closureFor_eq {scope : Scope} {env : Env} (h : ∀ p ∈ scope.names, p.2 = .free → ∃ c, env.cells.lookup p.1 = some c) : closureFor scope env = pure (closeL env scope.names []) := by
  simp only [closureFor]
  have key : ∀ (names : List (Str × NameKind)) (acc : List (Str × Addr)), (∀ p ∈ names, p.2 = .free → ∃ c, env.cells.lookup p.1 = some c) →
      (forIn (m := Sem) names acc fun x r => if (x.2 == NameKind.free) = true then do let a ← cellOf env x.1; pure (ForInStep.yield ((x.1, a) :: r)) else pure (ForInStep.yield r)) = pure (closeL env names acc) := by
    intro names
    induction names with
    | nil => intro acc _; rfl
    | cons p r ih =>
      intro acc hp
      obtain ⟨n, k⟩ := p
      rw [List.forIn_cons]
      unfold closeL
      by_cases hk : k = .free
      · subst hk
        obtain ⟨c, hc⟩ := hp (n, .free) List.mem_cons_self rfl
        have e : cellOf env n = pure c := by unfold cellOf; rw [hc]
        simp only [beq_self_eq_true, if_true, e, pure_bind, hc, Option.getD_some]
        exact ih _ fun p hp' => hp p (List.mem_cons_of_mem _ hp')
      · have : (k == NameKind.free) = false := by simpa using hk
        simp only [this, Bool.false_eq_true, if_false, pure_bind]
        exact ih _ fun p hp' => hp p (List.mem_cons_of_mem _ hp')
  have := key scope.names [] h
  rw [this]
  rfl

theorem cellsFrom_append : ∀ (names : List (Str × NameKind)) (n : Nat) (acc : List (Str × Addr)), cellsFrom n names acc = cellsFrom n names [] ++ acc
  | [], _, _ => rfl
  | (m, k) :: r, n, acc => by
    unfold cellsFrom
    split
    · rw [cellsFrom_append r (n + 1) ((m, n) :: acc), cellsFrom_append r (n + 1) [(m, n)], List.append_assoc]; rfl
    · exact cellsFrom_append r n acc
theorem cellsFrom_mem : ∀ (names : List (Str × NameKind)) (n : Nat) (acc : List (Str × Addr)) (x : Str) (c : Addr), (x, c) ∈ cellsFrom n names acc → (x, c) ∈ acc ∨ (x, NameKind.cell) ∈ names
  | [], _, _, _, _, h => .inl h
  | (m, k) :: r, n, acc, x, c, h => by
    unfold cellsFrom at h
    split at h
    · rename_i hk
      have hk := eq_of_beq hk
      subst hk
      rcases cellsFrom_mem r _ _ x c h with h | h
      · rcases List.mem_cons.mp h with h | h
        · cases h; exact .inr List.mem_cons_self
        · exact .inl h
      · exact .inr (List.mem_cons_of_mem _ h)
    · rcases cellsFrom_mem r _ _ x c h with h | h
      · exact .inl h
      · exact .inr (List.mem_cons_of_mem _ h)
theorem cellsFrom_has : ∀ (names : List (Str × NameKind)) (n : Nat) (acc : List (Str × Addr)) (x : Str), ((∃ c, (x, c) ∈ acc) ∨ (x, NameKind.cell) ∈ names) → ∃ c, (x, c) ∈ cellsFrom n names acc
  | [], _, _, x, h => h.elim id fun h => (by simp at h)
  | (m, k) :: r, n, acc, x, h => by
    unfold cellsFrom
    split
    · rename_i hk
      have hk := eq_of_beq hk
      subst hk
      refine cellsFrom_has r _ _ x ?_
      rcases h with ⟨c, h⟩ | h
      · exact .inl ⟨c, List.mem_cons_of_mem _ h⟩
      · rcases List.mem_cons.mp h with h | h
        · cases h; exact .inl ⟨_, List.mem_cons_self⟩
        · exact .inr h
    · rename_i hk
      refine cellsFrom_has r _ acc x ?_
      rcases h with h | h
      · exact .inl h
      · rcases List.mem_cons.mp h with h | h
        · cases h; exact absurd rfl hk
        · exact .inr h
theorem lookup_map_key {α : Type} (F : Str × α → Str × α) (hF : ∀ p, (F p).1 = p.1) : ∀ (names : List (Str × α)) (x : Str), (names.map F).lookup x = (names.lookup x).map fun k => (F (x, k)).2
  | [], _ => rfl
  | (n, k) :: r, x => by
    rw [List.map_cons, List.lookup_cons]
    have e : F (n, k) = ((F (n, k)).1, (F (n, k)).2) := rfl
    rw [e, List.lookup_cons, hF]
    by_cases hx : x = n
    · subst hx; simp
    · have : (x == n) = false := by simpa using hx
      rw [this]; exact lookup_map_key F hF r x
theorem kindOf_relabel {scope : Scope} {env cenv : Env} (h : cenv.scope = relabel scope env) (x : Str) : cenv.kindOf x = (scope.names.lookup x).map fun k => if (k == NameKind.free && env.scope.kind == .function && env.kindOf x == some .cell) = true then .cell else k := by
  show cenv.scope.names.lookup x = _
  rw [h]
  show (scope.names.map _).lookup x = _
  rw [lookup_map_key _ (fun p => by obtain ⟨n, k⟩ := p; dsimp only; split <;> rfl)]
  congr 1
  funext k
  dsimp only
  split <;> rfl

section
variable {prog : Program} {w : World} {A : Around} {env : Env} {E : Value → Shared → Prop} {s : Shared}
theorem wpAny_newCompEnv {scope : Scope} {cl : List (Str × Addr)} {Q : Env → Shared → Prop}
    (h : Q { scope, locals := s.heap.objs.size, globals := env.globals, cells := cellsFrom (s.heap.objs.size + 1) scope.names cl, qual := env.qual, func := none, code := env.code, frame := env.frame, builtins := env.builtins }
      { s with heap := pushCells (s.heap.push { cls := .type "dict", data := .dict #[] }) scope.names }) :
    wpAny (model prog w) A (newFunctionEnv scope env.globals cl [] env.qual none .none (some env)) Q E s := by
  simp only [newFunctionEnv, Option.isSome_some, if_true]
  refine wpAny_bind (wpAny_alloc ?_)
  refine wpAny_bind (wpAny_layCells _ (fun name kind cells => by cases hkc : kind == NameKind.cell <;> simp [hkc]) _ _ _ _ ?_)
  rw [show ({ s with heap := s.heap.push { cls := .type "dict", data := .dict #[] } } : Shared).heap.objs.size = s.heap.objs.size + 1 from Heap.size_push ..]
  exact wpAny_bind (wpAny_pure (wpAny_pure h))
end
end Mine
end
section
open PySem PySem.W PyProof.Rows PySem.Calls PySem.Flt PySem.SeqAt
set_option maxRecDepth 100000
namespace Mine
section
variable {prog : Program} {w : World} {A : Around} {E : Value → Shared → Prop} {R : Result → Shared → Prop} {s : Shared}
theorem comp_loop {elt target iter : Expr} {ifs : List Expr} {scope : Scope} {pos : Pos} {it acc : Value} {env : Env} (I : Nat → Shared → Prop)
    (turn : ∀ n s, I n s → ∀ E : Value → Shared → Prop, wpAny (model prog w) A (pyNext it) (fun r s₁ => match r with
      | none => R (.ok .next) s₁
      | some v => wpAny (model prog w) A (letOwnedTupleGo target it v) (fun _ s₁ => wpAny (model prog w) A (assign target env v) (fun _ s₂ =>
          wpAny (model prog w) A (testsTree ifs env) (fun ok s₃ =>
            if ok = true then wpAny (model prog w) A (eval elt env) (fun x s₄ =>
              wpAny (model prog w) A (call (.builtin "list.append") [acc, x]) (fun _ s₅ => ∃ m, m < n ∧ I m s₅) E s₄) E s₃
            else ∃ m, m < n ∧ I m s₃) E s₂) E s₁) E s₁) E s)
    (n : Nat) (h : I n s) :
    codeAny (model prog w) A (.compLoop (.ListComp elt [⟨target, iter, ifs, 0⟩] scope pos) 0 it acc env) R s := by
  refine codeAny_loop rfl I (fun n s hI => ?_) n h
  show wpAny _ A ((compTurn (.ListComp elt [⟨target, iter, ifs, 0⟩] scope pos) 0 it acc env).onRaise (fun x => do noteFrame x env; theTreesLotGoes x)) _ _ s
  refine wpAny_noted ?_
  rw [compTurn_list]
  refine wpAny_bind (wpAny_standAt (wpAny_bind (wpAny_mono (turn n s hI _) (fun r s₁ h₁ => ?_) fun _ _ h' => h')))
  cases r with
  | none => exact wpAny_pure h₁
  | some v =>
    refine wpAny_bind (wpAny_mono h₁ (fun _ s₁ h₁ => ?_) fun _ _ h' => h')
    refine wpAny_bind (wpAny_mono h₁ (fun _ s₂ h₂ => wpAny_bind (wpAny_mono h₂ (fun ok s₃ h₃ => ?_) fun _ _ h' => h')) fun _ _ h' => h')
    cases ok with
    | false => exact wpAny_pure ⟨rfl, h₃⟩
    | true =>
      exact wpAny_bind (wpAny_bind (wpAny_mono h₃ (fun x s₄ h₄ => wpAny_bind (wpAny_mono h₄ (fun _ s₅ h₅ => wpAny_pure (wpAny_pure ⟨rfl, h₅⟩)) fun _ _ h' => h')) fun _ _ h' => h'))
end

section
variable {prog : Program} {w : World} {tab : Tab} {glob : Str → Option V} {A : Around} {env : Env} {N : Names} {μ : Addr → Prop} {σ : Sto} {ω : Own} {g : GS} {n : Nat}

theorem canClose_of {scope : Scope} (h : canClose N scope = true) {x : Str} (hx : (x, NameKind.free) ∈ scope.names) : N.lookup x = some .cell ∨ N.lookup x = some .free := by
  unfold canClose at h
  have := List.all_eq_true.mp h _ hx
  simpa using this
theorem oneName_of {scope : Scope} (h : oneName scope = true) {x : Str} {k : NameKind} (hx : (x, k) ∈ scope.names) (hk : k = .local ∨ k = .cell ∨ k = .free) : scope.names.lookup x = some k := by
  unfold oneName at h
  have := List.all_eq_true.mp h _ hx
  simp only [Bool.and_eq_true, Bool.or_eq_true, bne_iff_ne, ne_eq, beq_iff_eq] at this
  rcases hk with rfl | rfl | rfl
  · exact this.1.1.resolve_left (by simp)
  · exact this.1.2.resolve_left (by simp)
  · exact this.2.resolve_left (by simp)

/-- the comprehension's own scope: its frame and what it reads -/
structure CompEnv (env cenv : Env) (N : Names) (scope : Scope) : Prop where
  sc : cenv.scope = relabel scope env
  kind : scope.kind = .function
  globals : cenv.globals = env.globals
  builtins : cenv.builtins = env.builtins
  free : ∀ x, scope.names.lookup x = some .free → cenv.cells.lookup x = env.cells.lookup x
  can : ∀ x, scope.names.lookup x = some .free → N.lookup x = some .cell ∨ N.lookup x = some .free

theorem CompEnv.kindFree {cenv : Env} {scope : Scope} (C : CompEnv env cenv N scope) {x : Str} (hx : scope.names.lookup x = some .free) : cenv.kindOf x = some .cell ∨ cenv.kindOf x = some .free := by
  rw [kindOf_relabel C.sc, hx, Option.map_some]
  split
  · exact .inl rfl
  · exact .inr rfl
theorem CompEnv.varFree {cenv : Env} {scope : Scope} {h : Heap} (C : CompEnv env cenv N scope) (W : View tab glob env N μ σ ω g) {x : Str} {v : Value} (hx : scope.names.lookup x = some .free) (r : VarIs env h x v) : VarIs cenv h x v := by
  rcases r with ⟨k, _⟩ | ⟨_, c, hc, hv⟩
  · exfalso
    rcases C.can x hx with hl | hl
    · rw [W.cel x hl] at k; cases k
    · rcases W.fre x hl with e | e <;> rw [e] at k <;> cases k
  · exact .inr ⟨C.kindFree hx, c, by rw [C.free x hx]; exact hc, hv⟩

/-- the view inside a comprehension -/
theorem comp_view {cenv : Env} {scope : Scope} {X : Addr → Prop} {g' : GS} {σ' : Sto} (C : CompEnv env cenv N scope) (W : View tab glob env N μ σ ω g) (u : g.Le g') (hX : ∀ b, X b → g.h.get? b = none) (hlt : ∀ b, X b → ∃ o, g'.h.get? b = some o)
    (F : Fram cenv scope.names g'.h) (hvar : ∀ x e, sget σ' x = some e → ∃ v, VarIs cenv g'.h x v ∧ Rep (res (fun b => μ b ∨ X b) g') e v) : View tab glob cenv scope.names (fun b => μ b ∨ X b) σ' (innerOwn scope ω) g' where
  kind := F.kind
  globals := C.globals.trans W.globals
  builtins := C.builtins.trans W.builtins
  lt := fun b hb => hb.elim (fun h => (W.up u).lt b h) (hlt b)
  loc := F.loc
  cel := F.cel
  fre := fun x hx => C.kindFree hx
  glo := fun x hx => by rw [kindOf_relabel C.sc, hx]; rfl
  cells := fun x hx => by
    rcases hx with hx | hx
    · obtain ⟨c, v, h1, o, h2, _⟩ := F.cell x hx
      exact ⟨c, h1, o, h2⟩
    · obtain ⟨c, h1, o, h2⟩ := (W.up u).cells x (C.can x hx)
      exact ⟨c, (C.free x hx).trans h1, o, h2⟩
  var := hvar
  own := fun x xs e => by
    unfold innerOwn at e
    split at e
    · split at e
      · rename_i y ys hy
        cases e
        obtain ⟨a, o, vs, m, h1, h2, h3, h4, h5, h6⟩ := W.own _ _ rfl
        exact ⟨a, o, vs, m, C.varFree W (eq_of_beq hy) (h1.up u.up), u.up _ _ h2, h3, h4, h5, RepL.mono (res_fresh u hX) _ _ h6⟩
      · cases e
    · cases e
  G := W.G.up u.up

theorem pushCells_get {X : List (Str × NameKind)} : ∀ (h : Heap) (b : Addr) (o : Obj), h.get? b = some o → (pushCells h X).get? b = some o := fun h b o e => pushCells_keeps X h b o e
end
end Mine
end
section
open PySem PySem.W PyProof.Rows PySem.Calls PySem.Flt PySem.SeqAt
set_option maxRecDepth 100000
namespace Mine
section
variable {prog : Program} {w : World} {tab : Tab} {glob : Str → Option V} {A : Around} {env : Env} {N : Names} {μ : Addr → Prop} {σ : Sto} {ω : Own} {gb : GS} {n : Nat}

noncomputable def compF (tab : Tab) (glob : Str → Option V) (n : Nat) (scope : Scope) (σ : Sto) (ω : Own) (target : Expr) (ifs : List Expr) (elt : Expr) (d : V) : Option (Option V) :=
  match bindT scope.names (inner scope σ) target d with
  | some σ' => (match mtests tab glob n scope.names σ' (innerOwn scope ω) ifs with
    | some true => (match meval tab glob n scope.names σ' (innerOwn scope ω) elt with
      | some y => some (some y)
      | Option.none => Option.none)
    | some false => some Option.none
    | Option.none => Option.none)
  | Option.none => Option.none

theorem comp_core (I : IH prog w tab glob n) {elt target iter : Expr} {ifs : List Expr} {scope : Scope} {pos : Pos} {xs ys : List V} {it : Value} {gs : GS} (ok : Ok A n) (W : View tab glob env N μ σ ω gb) (k0 : gb.Le gs)
    (S : Src prog w A μ it xs gb gs) (hcan : canClose N scope = true) (hone : oneName scope = true) (hkind : scope.kind = .function) (hf : compM (compF tab glob n scope σ ω target ifs elt) xs = some ys)
    {E : Value → Shared → Prop} {RR : Value → Addr → Result → Shared → Prop}
    (fin : ∀ D C g', gb.Le g' → gb.h.get? C = none → (∃ m, g'.h.Ns C m) → Rep (res (fun b => μ b ∨ b = C) g') (.list ys) (.ref D) → RR (.ref D) C (.ok .next) g'.s) :
    wpAny (model prog w) A (newList []) (fun acc s₃ => wpAny (model prog w) A (newFunctionEnv scope env.globals (closeL env scope.names []) [] env.qual none .none (some env)) (fun cenv s₄ =>
      codeAny (model prog w) A (.compStart (.ListComp elt [⟨target, iter, ifs, 0⟩] scope pos) 0 it acc { cenv with scope := relabel scope env }) (RR acc cenv.locals) s₄) E s₃) E gs.s := by
  obtain ⟨Ia, wr, rd, St, rfl, K, st0, hwr, hrd, hlen⟩ := S
  have fresh : ∀ b, gs.h.objs.size ≤ b → gs.h.get? b = none := fun b hb => Heap.get?_none_of_le hb
  have freshb : ∀ b, gs.h.get? b = none → gb.h.get? b = none := fun b hb => by
    cases e : gb.h.get? b with
    | none => rfl
    | some o => have := k0.up b o e; rw [hb] at this; cases this
  refine wpAny_newList ?_ (by decide)
  refine wpAny_newCompEnv ?_
  have hsz1 : (gs.s.heap.push { cls := .type "list", data := .seq ([] : List Value).toArray }).objs.size = gs.h.objs.size + 1 := Heap.size_push ..
  simp only [hsz1]
  generalize hH1 : gs.s.heap.push { cls := .type "list", data := .seq ([] : List Value).toArray } = H1 at *
  have hsz2 : (H1.push { cls := .type "dict", data := .dict #[] }).objs.size = gs.h.objs.size + 1 + 1 := by rw [Heap.size_push, hsz1]
  have ck := cellsFrom_ok scope.names (H1.push { cls := .type "dict", data := .dict #[] }) (gs.h.objs.size + 1 + 1) [] ⟨fun _ _ hm => (nomatch hm), List.Pairwise.nil⟩ (by rw [hsz2]; exact Nat.le_refl _)
  rw [hsz2] at ck
  have hD1 : H1.get? gs.h.objs.size = some { cls := .type "list", data := .seq ([] : List Value).toArray } := by rw [← hH1]; exact Heap.get?_push_size _ rfl
  have hC1 : (H1.push { cls := .type "dict", data := .dict #[] }).Ns (gs.h.objs.size + 1) fun _ => none := by rw [← hsz1]; exact Heap.Ns.new _ _
  have up1 : Up gs.h H1 := fun b o e => by rw [← hH1]; exact Heap.get?_push_of_some _ e
  generalize hH2 : pushCells (H1.push { cls := .type "dict", data := .dict #[] }) scope.names = H2 at *
  have up2 : ∀ b o, (H1.push { cls := .type "dict", data := .dict #[] }).get? b = some o → H2.get? b = some o := fun b o e => by rw [← hH2]; exact pushCells_keeps _ _ _ _ e
  have upH : Up gs.h H2 := fun b o e => up2 _ _ (Heap.get?_push_of_some _ (up1 _ _ e))
  generalize hcenv : ({ scope := relabel scope env, locals := gs.h.objs.size + 1, globals := env.globals, cells := cellsFrom (gs.h.objs.size + 1 + 1) scope.names (closeL env scope.names []), qual := env.qual, func := none, code := env.code, frame := env.frame, builtins := env.builtins } : Env) = cenv
  have eC : cenv.locals = gs.h.objs.size + 1 := by rw [← hcenv]
  have eK : cenv.cells = cellsFrom (gs.h.objs.size + 1 + 1) scope.names [] ++ closeL env scope.names [] := by rw [← hcenv]; exact cellsFrom_append _ _ _
  generalize hown : cellsFrom (gs.h.objs.size + 1 + 1) scope.names [] = own at ck eK
  have ownCell : ∀ x c, (x, c) ∈ own → scope.names.lookup x = some .cell := fun x c hx => by
    rw [← hown] at hx
    rcases cellsFrom_mem _ _ _ _ _ hx with h | h
    · cases h
    · exact oneName_of hone h (.inr (.inl rfl))
  have cellOwn : ∀ x, scope.names.lookup x = some .cell → ∃ c, cenv.cells.lookup x = some c ∧ (x, c) ∈ own := fun x hx => by
    obtain ⟨c, hc⟩ := cellsFrom_has scope.names (gs.h.objs.size + 1 + 1) [] x (.inr (mem_of_lookup hx))
    rw [hown] at hc
    obtain ⟨d, h1, h2⟩ := lookup_of_mem hc
    exact ⟨d, by rw [eK, List.lookup_append, h1]; rfl, h2⟩
  have CE : CompEnv env cenv N scope := by
    refine ⟨by rw [← hcenv], hkind, by rw [← hcenv], by rw [← hcenv], fun x hx => ?_, fun x hx => canClose_of hcan (mem_of_lookup hx)⟩
    have no : own.lookup x = none := lookup_none fun c hc => by have := ownCell x c hc; rw [hx] at this; cases this
    rw [eK, List.lookup_append, no, Option.none_or]
    obtain ⟨c, hc⟩ := closeL_has (env := env) scope.names [] x (.inr (mem_of_lookup hx))
    obtain ⟨d, h1, h2⟩ := lookup_of_mem hc
    rw [h1]
    rcases closeL_mem _ _ _ _ h2 with h | ⟨h, e⟩
    · cases h
    · obtain ⟨c', hc', _⟩ := W.cells x (canClose_of hcan h)
      rw [e, hc']; rfl
  have ownGe : ∀ x c, (x, c) ∈ own → gs.h.objs.size + 1 + 1 ≤ c := fun x c hc => (ck.empty x c hc).2
  have cellAt : ∀ x c, scope.names.lookup x = some .cell → cenv.cells.lookup x = some c → (x, c) ∈ own := fun x c hx hc => by
    obtain ⟨d, h1, h2⟩ := cellOwn x hx
    rw [h1] at hc; cases hc; exact h2
  have F2 : Fram cenv scope.names H2 := by
    refine ⟨by rw [← hcenv]; exact hkind, fun x hx => by rw [kindOf_relabel CE.sc, hx]; rfl, fun x hx => by rw [kindOf_relabel CE.sc, hx]; rfl, ⟨_, by rw [eC]; exact hC1.keeps up2⟩, fun x hx => ?_, fun x y c hx hc hy => ?_⟩
    · obtain ⟨c, h1, h2⟩ := cellOwn x hx
      exact ⟨c, _, h1, (ck.empty x c h2).1⟩
    · have hxo := cellAt x c hx hc
      have hge := ownGe x c hxo
      rw [eK] at hy
      have hm := mem_of_lookup hy
      rcases List.mem_append.mp hm with h | h
      · exact name_of_addr ck.apart hxo h
      · exfalso
        rcases closeL_mem _ _ _ _ h with h | ⟨h, e⟩
        · cases h
        · obtain ⟨c', hc', o', ho'⟩ := W.cells y (canClose_of hcan h)
          rw [hc'] at e
          have e : c = c' := e
          have := Heap.lt_size (k0.up _ _ ho')
          have h3 : gs.h.objs.size + 1 + 1 ≤ c' := by rw [← e]; exact hge
          exact absurd (Nat.lt_of_lt_of_le this (Nat.le_trans (Nat.le_add_right _ 2) h3)) (Nat.lt_irrefl _)
  -- the set of what the comprehension changes
  let X : Addr → Prop := fun b => wr b ∨ b = gs.h.objs.size ∨ Mut cenv scope.names b
  have mutGe : ∀ b, Mut cenv scope.names b → gs.h.objs.size + 1 ≤ b := fun b hb => by
    rcases hb with rfl | ⟨x, hx, hc⟩
    · rw [eC]; exact Nat.le_refl _
    · exact Nat.le_trans (Nat.le_succ _) (ownGe x b (cellAt x b hx hc))
  have newX : ∀ b, (b = gs.h.objs.size ∨ Mut cenv scope.names b) → gs.h.get? b = none := fun b hb => by
    rcases hb with rfl | hb
    · exact fresh _ (Nat.le_refl _)
    · exact fresh _ (Nat.le_trans (Nat.le_succ _) (mutGe b hb))
  have hX : ∀ b, X b → gb.h.get? b = none := fun b hb => hb.elim (fun h => (hwr b h).1) fun h => freshb b (newX b h)
  have old : ∀ b, (wr b ∨ rd b) → ¬ (b = gs.h.objs.size ∨ Mut cenv scope.names b) := fun b hb h => by
    have e := newX b h
    rcases hb with hb | hb
    · obtain ⟨_, o, e'⟩ := hwr b hb; rw [e] at e'; cases e'
    · obtain ⟨_, o, e'⟩ := hrd b hb; rw [e] at e'; cases e'
  have DM : ¬ Mut cenv scope.names gs.h.objs.size := fun h => absurd (mutGe _ h) (Nat.not_succ_le_self _)
  have Dwr : ¬ wr gs.h.objs.size := fun h => old _ (.inl h) (.inl rfl)
  have Mwr : ∀ b, Mut cenv scope.names b → ¬ wr b := fun b h h' => old b (.inl h') (.inr h)
  let g2 : GS := gs.chg H2 gs.s.toks (Nat.le_refl _)
  have l2 : gs.Le g2 := ⟨⟨H2, _, rfl, upH⟩, Nat.le_refl _, fun _ _ f => f⟩
  have hacc2 : H2.PlainList gs.h.objs.size #[] := ⟨_, up2 _ _ (Heap.get?_push_of_some _ hD1)⟩
  have live : ∀ (h : Heap) i ds, St i h → h.PlainList gs.h.objs.size ds → Fram cenv scope.names h → ∀ b, X b → ∃ o, h.get? b = some o := fun h i ds st pl F b hb => by
    rcases hb with hb | rfl | rfl | ⟨x, hx, hc⟩
    · exact K.live i h st b hb
    · obtain ⟨m, e⟩ := pl; exact ⟨_, e⟩
    · obtain ⟨m, o, _, _, e, _⟩ := F.ns; exact ⟨o, e⟩
    · obtain ⟨c, v, h1, o, h2, _⟩ := F.cell x hx
      rw [hc] at h1; cases h1; exact ⟨o, h2⟩
  have loop : codeAny (model prog w) A (.compLoop (.ListComp elt [⟨target, iter, ifs, 0⟩] scope pos) 0 (.ref Ia) (.ref gs.h.objs.size) cenv) (RR (.ref gs.h.objs.size) (gs.h.objs.size + 1)) g2.s := by
    refine comp_loop (fun k s => ∃ (g : GS) (i : Nat) (dd : List V) (ds : List Value) (rest : List V), s = g.s ∧ GS.But X gs g ∧ St i g.h ∧ i ≤ xs.length ∧ k = xs.length + 1 - i ∧ Fram cenv scope.names g.h ∧ g.h.PlainList gs.h.objs.size ds.toArray ∧
      RepL (res (fun b => μ b ∨ X b) g) dd ds ∧ compM (compF tab glob n scope σ ω target ifs elt) (xs.drop i) = some rest ∧ ys = dd ++ rest ∧ ds.length ≤ i) ?_ (xs.length + 1)
      ⟨g2, 0, [], [], ys, rfl, l2.but, K.frame _ _ _ st0 fun b _ o e => upH b o e, Nat.zero_le _, rfl, F2, hacc2, rfl, hf, rfl, Nat.le_refl _⟩
    rintro k s ⟨g, i, dd, ds, rest, rfl, but, st, hi, rfl, F, hD, racc, hrest, hys, hdl⟩ E
    by_cases hlt : i < xs.length
    · have hd : xs[i]? = some xs[i] := by simp [hlt]
      rw [List.drop_eq_getElem_cons hlt, compM] at hrest
      generalize xs[i] = d at hd hrest
      refine K.item i d g.s _ E hd st g.pos fun v h1 tk1 hrep st1 keep1 ht1 => ?_
      have bA : GS.But X g (g.chg h1 tk1 ht1) := GS.chg_but ht1 fun b o hb e => keep1 b o (fun h => hb (.inl h)) e
      have hDA : (g.chg h1 tk1 ht1).h.PlainList gs.h.objs.size ds.toArray := hD.at fun o e => keep1 _ o Dwr e
      have FA : Fram cenv scope.names (g.chg h1 tk1 ht1).h := F.but fun b o hb e => keep1 b o (Mwr b hb) e
      have stA : St (i + 1) (g.chg h1 tk1 ht1).h := st1
      generalize hga : g.chg h1 tk1 ht1 = ga at *
      have es : ({ g.s with heap := h1, toks := tk1 } : Shared) = ga.s := by rw [← hga]; rfl
      have et : tk1 = ga.s.toks := by rw [← hga]; rfl
      show wpAny _ _ _ _ _ ({ g.s with heap := h1, toks := tk1 } : Shared)
      rw [es]
      have butA := but.trans bA
      have lA : gb.Le ga := GS.But.le k0 butA hX
      refine K.lot (i + 1) target v ga.s _ E stA ?_
      have rv : Rep (res (fun b => μ b ∨ X b) ga) d v := by
        refine hrep _ ⟨fun b o x => ⟨fun h => ?_, butA.keep b o (fun h => ?_) x.2⟩, butA.F, butA.t⟩ (Nat.le_of_eq et)
        · rcases h with h | h | h
          · exact x.1 (.inl h)
          · exact x.1 (.inr h)
          · have := newX b h; rw [x.2] at this; cases this
        · rcases h with h | h
          · exact x.1 (.inr h)
          · have := newX b h; rw [x.2] at this; cases this
      have hvA : ∀ x e, sget (inner scope σ) x = some e → ∃ u, VarIs cenv ga.h x u ∧ Rep (res (fun b => μ b ∨ X b) ga) e u := fun x e he => by
        obtain ⟨h1, h2⟩ := sget_inner _ _ _ _ he
        obtain ⟨u, h3, h4⟩ := W.var x e h2
        exact ⟨u, CE.varFree W h1 (h3.up lA.up), Rep.mono (res_fresh lA hX) _ _ h4⟩
      cases hb : bindT scope.names (inner scope σ) target d with
      | none => simp [compF, hb] at hrest
      | some σ' =>
        refine bind_sound ok.hand FA (fun b hb => .inr (.inr (.inr hb))) (fun b hb => hb.elim (fun h => (W.up lA).lt b h) (live _ _ _ stA hDA FA b)) hb rv hvA fun gB bB FB hvB _ => ?_
        have butB : GS.But X gs gB := butA.trans (bB.wider fun b h => .inr (.inr h))
        have lB : gb.Le gB := GS.But.le k0 butB hX
        have hDB : gB.h.PlainList gs.h.objs.size ds.toArray := hDA.at fun o e => bB.keep _ o DM e
        have stB : St (i + 1) gB.h := K.frame _ _ _ stA fun b hb o e => bB.keep b o (fun h => old b hb (.inr h)) e
        have V := comp_view CE W lB hX (live _ _ _ stB hDB FB) FB hvB
        cases ht : mtests tab glob n scope.names σ' (innerOwn scope ω) ifs with
        | none => simp [compF, hb, ht] at hrest
        | some c =>
          refine I.tests ok V ht E _ fun gT lT => ?_
          have butT : GS.But X gs gT := butB.trans lT.but
          cases c with
          | false =>
            simp only [compF, hb, ht] at hrest
            show ∃ m, _
            refine ⟨xs.length + 1 - (i + 1), by omega, gT, i + 1, dd, ds, rest, rfl, butT, K.frame _ _ _ stB fun b _ o e => lT.up b o e, hlt, rfl, FB.but fun b o _ e => lT.up b o e, hDB.at fun o e => lT.up _ o e, ?_, hrest, hys, by omega⟩
            exact RepL.mono ((res_but bA (fun b h => .inr h)).trans ((res_but (bB.wider (Y := X) fun b h => .inr (.inr h)) (fun b h => .inr h)).trans (res_mono lT))) _ _ racc
          | true =>
            cases hy : meval tab glob n scope.names σ' (innerOwn scope ω) elt with
            | none => simp [compF, hb, ht, hy] at hrest
            | some y =>
              simp only [compF, hb, ht, hy] at hrest
              cases hr : compM (fun d => compF tab glob n scope σ ω target ifs elt d) (xs.drop (i + 1)) with
              | none => 
                have hr' : compM (compF tab glob n scope σ ω target ifs elt) (xs.drop (i + 1)) = none := hr
                rw [hr'] at hrest; cases hrest
              | some rest' =>
                have hr' : compM (compF tab glob n scope σ ω target ifs elt) (xs.drop (i + 1)) = some rest' := hr
                rw [hr'] at hrest
                cases hrest
                show wpAny _ _ _ _ _ _
                refine I.ev ok (V.up lT) hy E _ fun u gY lY rY => ?_
                have butY : GS.But X gs gY := butT.trans lY.but
                have hDY : gY.h.PlainList gs.h.objs.size ds.toArray := hDB.at fun o e => lY.up _ o (lT.up _ o e)
                refine wpAny_list_append_plain hDY (fun h5 hl5 hs5 => ?_) (by rw [List.size_toArray]; exact Nat.le_trans hdl (Nat.le_trans hi (Nat.le_trans hlen (by decide))))
                have bN : GS.But X gY (gY.chg h5 gY.s.toks (Nat.le_refl _)) := GS.chg_but _ fun b o hb e => hs5.extBut b o (fun e2 => hb (.inr (.inl e2))) e
                have mono : (res (fun b => μ b ∨ X b) g).Le (res (fun b => μ b ∨ X b) gY) := (res_but bA (fun b h => .inr h)).trans ((res_but (bB.wider (Y := X) fun b h => .inr (.inr h)) (fun b h => .inr h)).trans ((res_mono lT).trans (res_mono lY)))
                refine ⟨xs.length + 1 - (i + 1), by omega, gY.chg h5 gY.s.toks (Nat.le_refl _), i + 1, dd ++ [y], ds ++ [u], rest', rfl, butY.trans bN, ?_, hlt, rfl, ?_, ?_, ?_, hr', by simp [hys], by simp; omega⟩
                · exact K.frame _ _ _ (K.frame _ _ _ stB fun b _ o e => lY.up b o (lT.up b o e)) fun b hb o e => hs5.extBut b o (fun e2 => old b hb (.inl e2)) e
                · exact (FB.but fun b o _ e => lY.up b o (lT.up b o e)).but fun b o hb e => hs5.extBut b o (fun e2 => DM (e2 ▸ hb)) e
                · show h5.PlainList _ _
                  simpa using hl5
                · exact RepL.mono (res_but bN (fun b h => .inr h)) _ _ ((RepL.mono mono _ _ racc).append (RepL.one rY))
    · have hie : i = xs.length := by omega
      subst hie
      refine K.done g.s _ E st fun h1 tk1 keep1 ht1 => ?_
      have bA : GS.But X g (g.chg h1 tk1 ht1) := GS.chg_but ht1 fun b o hb e => keep1 b o (fun h => hb (.inl h)) e
      have butA := but.trans bA
      have lA : gb.Le (g.chg h1 tk1 ht1) := GS.But.le k0 butA hX
      rw [List.drop_length, compM] at hrest
      cases hrest
      rw [List.append_nil] at hys
      subst hys
      obtain ⟨m, hm⟩ := F.ns
      obtain ⟨cn, hDo⟩ : (g.chg h1 tk1 ht1).h.PlainList gs.h.objs.size ds.toArray := hD.at fun o e => keep1 _ o Dwr e
      refine fin _ _ (g.chg h1 tk1 ht1) lA (freshb _ (fresh _ (Nat.le_succ _))) ⟨m, by rw [← eC]; exact hm.at' fun o e => keep1 _ o (Mwr _ (.inl rfl)) e⟩ ⟨_, _, _, _, rfl, ⟨fun h => ?_, hDo⟩, rfl, rfl, ?_⟩
      · rcases h with h | h
        · obtain ⟨o, e⟩ := W.lt _ h
          rw [freshb _ (fresh _ (Nat.le_refl _))] at e; cases e
        · exact absurd h (Nat.ne_of_lt (Nat.lt_succ_self _))
      · have le : (res (fun b => μ b ∨ X b) g).Le (res (fun b => μ b ∨ b = gs.h.objs.size + 1) (g.chg h1 tk1 ht1)) := by
          refine ⟨fun b o x => ⟨fun h => ?_, keep1 b o (fun h => x.1 (.inr (.inl h))) x.2⟩, fun _ _ f => f, ht1⟩
          exact x.1 (h.elim .inl fun h => .inr (.inr (.inr (.inl (h.trans eC.symm)))))
        exact RepL.mono le _ _ racc
  exact codeAny_compStart_list loop (K.self 0 _ _ _ (K.frame _ _ _ st0 fun b _ o e => upH b o e) loop)
end
end Mine
end
section
open PySem PySem.W PyProof.Rows PySem.Calls PySem.Flt PySem.SeqAt
set_option maxRecDepth 100000
namespace Mine
section
variable {prog : Program} {w : World} {tab : Tab} {glob : Str → Option V} {A : Around} {env : Env} {N : Names} {μ : Addr → Prop} {σ : Sto} {ω : Own} {g : GS} {n : Nat}

theorem not_set_of_src {e : Expr} {xs : List V} (h : msrc tab glob n N σ ω e = some xs) : ∀ x, foldedSetIterable e env x = pure x := by
  intro x
  cases e <;> first | rfl | skip
  cases n with
  | zero => exact no h
  | succ n => cases n <;> exact no h

theorem clos_eq {scope : Scope} (W : View tab glob env N μ σ ω g) (hcan : canClose N scope = true) : closureFor scope env = pure (closeL env scope.names []) :=
  closureFor_eq fun p hp hk => by
    obtain ⟨x, k⟩ := p
    have hk : k = .free := hk
    subst hk
    obtain ⟨c, h, _⟩ := W.cells x (canClose_of hcan hp)
    exact ⟨c, h⟩

theorem ev_ListComp (I : IH prog w tab glob n) {elt target iter : Expr} {ifs : List Expr} {scope : Scope} {pos : Pos} {xs ys : List V} (ok : Ok A n) (W : View tab glob env N μ σ ω g)
    (hcan : canClose N scope = true) (hone : oneName scope = true) (hkind : scope.kind = .function) (hx : msrc tab glob n N σ ω iter = some xs) (hf : compM (compF tab glob n scope σ ω target ifs elt) xs = some ys) :
    Ev prog w A μ (eval (.ListComp elt [⟨target, iter, ifs, 0⟩] scope pos) env) (.list ys) g := fun E Q hQ => by
  rw [eval_ListComp]
  refine wpAny_comprehension_free (use := none) rfl (not_set_of_src hx) (clos_eq W hcan) hkind (fun x hx hk => oneName_of hone (k := .local) (by obtain ⟨y, k⟩ := x; have hk : k = .local := hk; subst hk; exact hx) (.inl rfl)) ?_
  refine I.src ok W hx E _ fun it gs k0 S => ?_
  refine comp_core I ok W k0 S hcan hone hkind hf (RR := fun acc C => compPost (model prog w) A E none Q acc C) fun D C g' k1 hC hns r => ?_
  obtain ⟨m, hm⟩ := hns
  refine ⟨m, hm, fun h' hs => ?_⟩
  have but : GS.But (· = C) g' (g'.chg h' g'.s.toks (Nat.le_refl _)) := GS.chg_but _ fun b o hb e => hs.extBut b o hb e
  have l : g.Le (g'.chg h' g'.s.toks (Nat.le_refl _)) := GS.But.le k1 but fun b hb => by subst hb; exact hC
  have le : (res (fun b => μ b ∨ b = C) g').Le (res μ (g'.chg h' g'.s.toks (Nat.le_refl _))) := ⟨fun b o x => ⟨fun h => x.1 (.inl h), but.keep b o (fun h => x.1 (.inr h)) x.2⟩, fun _ _ f => f, Nat.le_refl _⟩
  exact hQ _ (g'.chg h' g'.s.toks (Nat.le_refl _)) l (Rep.mono le _ _ r)

theorem comp_inv {elt : Expr} {gens : List Comprehension} {scope : Scope} {pos : Pos} {d : V} (h : meval tab glob (n + 1) N σ ω (.ListComp elt gens scope pos) = some d) :
    ∃ target iter ifs xs ys, gens = [⟨target, iter, ifs, 0⟩] ∧ canClose N scope = true ∧ oneName scope = true ∧ scope.kind = .function ∧ msrc tab glob n N σ ω iter = some xs ∧ compM (compF tab glob n scope σ ω target ifs elt) xs = some ys ∧ d = .list ys := by
  cases gens with
  | nil => exact no h
  | cons c r =>
    obtain ⟨target, iter, ifs, z⟩ := c
    cases r with
    | cons _ _ => cases z with
      | ofNat z => cases z <;> exact no h
      | negSucc _ => exact no h
    | nil =>
      cases z with
      | negSucc _ => exact no h
      | ofNat z =>
        cases z with
        | succ _ => exact no h
        | zero =>
          have h : (if (canClose N scope && (oneName scope && (scope.kind == .function))) = true then (match msrc tab glob n N σ ω iter with
            | some xs => (match compM (compF tab glob n scope σ ω target ifs elt) xs with
              | some ys => some (V.list ys)
              | none => none)
            | none => none) else none) = some d := h
          obtain ⟨hc, h⟩ := ite_some h
          simp only [Bool.and_eq_true, beq_iff_eq] at hc
          cases hxs : msrc tab glob n N σ ω iter with
          | none => rw [hxs] at h; exact no h
          | some xs =>
            rw [hxs] at h
            have h : (match compM (compF tab glob n scope σ ω target ifs elt) xs with
              | some ys => some (V.list ys)
              | none => none) = some d := h
            cases hys : compM (compF tab glob n scope σ ω target ifs elt) xs with
            | none => rw [hys] at h; exact no h
            | some ys =>
              rw [hys] at h
              cases h
              exact ⟨_, _, _, xs, ys, rfl, hc.1, hc.2.1, hc.2.2, hxs, hys, rfl⟩
theorem slice_inv {o : Option V} {xs : List V} (h : msliceL o = some xs) : o = some (.list xs) ∧ xs.length ≤ 4096 := by
  cases o with
  | none => exact no h
  | some x =>
    cases x <;> first | exact no h | skip
    obtain ⟨hl, h⟩ := ite_some h
    cases h
    exact ⟨rfl, hl⟩
theorem mIdx_inv {o : Option V} {i : Int} (h : mIdx o = some i) : o = some (.int i) ∧ 0 ≤ i := by
  cases o with
  | none => exact no h
  | some x =>
    cases x <;> first | exact no h | skip
    obtain ⟨hl, h⟩ := ite_some h
    cases h
    simp only [Bool.and_eq_true, decide_eq_true_eq] at hl
    exact ⟨rfl, hl.1⟩
theorem slices_inv {a b : Option V} {f : List V → Int → V} {d : V} (h : ((msliceL a).bind fun xs => (mIdx b).map fun i => f xs i) = some d) : ∃ xs i, a = some (.list xs) ∧ xs.length ≤ 4096 ∧ b = some (.int i) ∧ 0 ≤ i ∧ d = f xs i := by
  cases ha : msliceL a with
  | none => rw [ha] at h; exact no h
  | some xs =>
    rw [ha] at h
    have h : (mIdx b).map (fun i => f xs i) = some d := h
    cases hb : mIdx b with
    | none => rw [hb] at h; exact no h
    | some i =>
      rw [hb] at h
      cases h
      exact ⟨xs, i, (slice_inv ha).1, (slice_inv ha).2, (mIdx_inv hb).1, (mIdx_inv hb).2, rfl⟩
theorem ev_Sub (I : IH prog w tab glob n) {v s : Expr} {p : Pos} {d : V} (ok : Ok A (n + 1)) (W : View tab glob env N μ σ ω g) (h : meval tab glob (n + 1) N σ ω (.Subscript v s p) = some d) : Ev prog w A μ (eval (.Subscript v s p) env) d g := by
  have ok' := ok.pred
  have key : (match mbase tab glob n N σ ω v with | some a => (match meval tab glob n N σ ω s with | some i => idxV a i | none => none) | none => none) = some d → Ev prog w A μ (eval (.Subscript v s p) env) d g := fun h => by
    cases ha : mbase tab glob n N σ ω v with
    | none => rw [ha] at h; exact no h
    | some a =>
      rw [ha] at h
      have h : (match meval tab glob n N σ ω s with | some i => idxV a i | none => none) = some d := h
      cases hi : meval tab glob n N σ ω s with
      | none => rw [hi] at h; exact no h
      | some i =>
        rw [hi] at h
        exact ev_Subscript (subscripted_plain hi) (fun E Q hQ => I.base ok' W ha E Q hQ) (fun g' u => I.ev ok' (W.up u) hi) h
  cases s with
  | Slice a b c q =>
    cases c with
    | some _ => exact key h
    | none =>
      cases a with
      | none =>
        cases b with
        | none =>
          have h : ((msliceL (meval tab glob n N σ ω v)).bind fun _ => (none : Option V)) = some d := by
            refine Eq.trans ?_ h
            show _ = (match meval tab glob n N σ ω v with
              | some (.list xs) => if xs.length ≤ 4096 then none else none
              | _ => none)
            cases meval tab glob n N σ ω v with
            | none => rfl
            | some x =>
              cases x <;> first | rfl | skip
              rename_i xs
              show (if xs.length ≤ 4096 then some xs else none).bind _ = (if xs.length ≤ 4096 then none else none)
              by_cases hl : xs.length ≤ 4096
              · rw [if_pos hl, if_pos hl]; rfl
              · rw [if_neg hl, if_neg hl]; rfl
          cases hm : msliceL (meval tab glob n N σ ω v) with
          | none => rw [hm] at h; exact no h
          | some _ => rw [hm] at h; exact no h
        | some k =>
          rw [mv_SliceTo] at h
          obtain ⟨xs, i, hv, hl, hk, h0, rfl⟩ := slices_inv (f := fun xs i => V.list (xs.take i.toNat)) h
          exact ev_SliceTo hl W.lt (I.ev ok' W hv) (fun g' u => I.ev ok' (W.up u) hk) h0
      | some k =>
        cases b with
        | none =>
          rw [mv_SliceFrom] at h
          obtain ⟨xs, i, hv, hl, hk, h0, rfl⟩ := slices_inv (f := fun xs i => V.list (xs.drop i.toNat)) h
          exact ev_SliceFrom hl W.lt (I.ev ok' W hv) (fun g' u => I.ev ok' (W.up u) hk) h0
        | some _ =>
          have h : ((msliceL (meval tab glob n N σ ω v)).bind fun _ => (none : Option V)) = some d := by
            refine Eq.trans ?_ h
            show _ = (match meval tab glob n N σ ω v with
              | some (.list xs) => if xs.length ≤ 4096 then none else none
              | _ => none)
            cases meval tab glob n N σ ω v with
            | none => rfl
            | some x =>
              cases x <;> first | rfl | skip
              rename_i xs
              show (if xs.length ≤ 4096 then some xs else none).bind _ = (if xs.length ≤ 4096 then none else none)
              by_cases hl : xs.length ≤ 4096
              · rw [if_pos hl, if_pos hl]; rfl
              · rw [if_neg hl, if_neg hl]; rfl
          cases hm : msliceL (meval tab glob n N σ ω v) with
          | none => rw [hm] at h; exact no h
          | some _ => rw [hm] at h; exact no h
  | _ => exact key h
theorem each_then {x : Option (List V)} {f : List V → Option V} {d : V} (h : (match x with | some ds => f ds | none => none) = some d) : ∃ ds, x = some ds ∧ f ds = some d := by
  cases x with
  | none => exact no h
  | some ds => exact ⟨ds, rfl, h⟩
theorem ev_Cal (I : IH prog w tab glob n) (hidx : ∃ fn, idxFn = some fn) {f : Expr} {as : List Expr} {ks : List Keyword} {p : Pos} {d : V} (ok : Ok A (n + 1)) (W : View tab glob env N μ σ ω g) (h : meval tab glob (n + 1) N σ ω (.Call f as ks p) = some d) : Ev prog w A μ (eval (.Call f as ks p) env) d g := by
  have ok' := ok.pred
  cases f <;> first | exact no h | skip
  · rename_i o m ap
    cases ks with
    | cons _ _ => exact no h
    | nil =>
      rw [mv_Meth] at h
      obtain ⟨hc, h⟩ := ite_some h
      simp only [Bool.and_eq_true, decide_eq_true_eq] at hc
      cases hx : meval tab glob n N σ ω o with
      | none => rw [hx] at h; exact no h
      | some x =>
        rw [hx] at h
        obtain ⟨ds, hds, h⟩ := each_then (f := methB x m) h
        exact ev_method I ok' W hc.1 hc.2.1 hc.2.2 hx hds h
  · rename_i f fp
    cases ks with
    | cons _ _ => exact no h
    | nil =>
      have h : (if isGlob N f = true then (match tab f with
        | some fn => (match meach tab glob n N σ ω as with
          | some ds => mcall tab glob n fn ds
          | none => none)
        | none => if (f == "indexOf") = true then (match meach tab glob n N σ ω as with
            | some ds => indexV ds
            | none => none)
          else if (f == "isinstance") = true then isbV tab glob n N σ ω as
          else (match meach tab glob n N σ ω as with
            | some ds => callB f ds
            | none => none)) else none) = some d := h
      obtain ⟨hg, h⟩ := ite_some h
      cases hfn : tab f with
      | some fn =>
        rw [hfn] at h
        obtain ⟨ds, hds, h⟩ := each_then (f := mcall tab glob n fn) h
        exact ev_fn I ok' W hg hfn hds h
      | none =>
        rw [hfn] at h
        by_cases hf : (f == "indexOf") = true
        · have h : (if (f == "indexOf") = true then (match meach tab glob n N σ ω as with
            | some ds => indexV ds
            | none => none)
            else if (f == "isinstance") = true then isbV tab glob n N σ ω as
            else (match meach tab glob n N σ ω as with
              | some ds => callB f ds
              | none => none)) = some d := h
          rw [if_pos hf] at h
          obtain ⟨ds, hds, h⟩ := each_then (f := indexV) h
          obtain ⟨fn, hfn'⟩ := hidx
          exact ev_idx I ok' W hg (eq_of_beq hf) hfn' hds h
        · have h : (if (f == "indexOf") = true then (match meach tab glob n N σ ω as with
            | some ds => indexV ds
            | none => none)
            else if (f == "isinstance") = true then isbV tab glob n N σ ω as
            else (match meach tab glob n N σ ω as with
              | some ds => callB f ds
              | none => none)) = some d := h
          rw [if_neg hf] at h
          by_cases hf2 : (f == "isinstance") = true
          · rw [if_pos hf2] at h
            obtain ⟨a, t, tp, b, rfl, hx2, hb, rfl⟩ := isb_inv h
            simp only [Bool.and_eq_true, beq_iff_eq, Option.isNone_iff_eq_none] at hx2
            exact ev_isbool I ok' W hg hfn (eq_of_beq hf2) hx2.2.1 hx2.2.2 hx2.1 hb
          · rw [if_neg hf2] at h
            obtain ⟨ds, hds, h⟩ := each_then (f := callB f) h
            exact ev_builtin I ok' W hg hfn hds h
theorem ev_succ (I : IH prog w tab glob n) (hidx : ∃ fn, idxFn = some fn) {e : Expr} {d : V} (ok : Ok A (n + 1)) (W : View tab glob env N μ σ ω g) (h : meval tab glob (n + 1) N σ ω e = some d) : Ev prog w A μ (eval e env) d g := by
  have ok' := ok.pred
  have hu : A.units + 16 < cLine := by have := ok.units; omega
  have booked := W.G.booked
  cases e with
  | Constant c k p => exact ev_Constant h
  | Name x p => exact ev_Name (n := n + 1) W h
  | BinOp l op r p =>
    rw [mv_BinOp] at h
    cases ha : meval tab glob n N σ ω l with
    | none => rw [ha] at h; exact no h
    | some a =>
      rw [ha] at h
      cases hb : meval tab glob n N σ ω r with
      | none => rw [hb] at h; exact no h
      | some b =>
        rw [hb] at h
        exact ev_BinOp ok.hand W.lt (I.ev ok' W ha) (fun g' u => I.ev ok' (W.up u) hb) h
  | UnaryOp op a p =>
    rw [mv_Unary] at h
    cases ha : meval tab glob n N σ ω a with
    | none => rw [ha] at h; exact no h
    | some a =>
      rw [ha] at h
      exact ev_UnaryOp (I.ev ok' W ha) h
  | BoolOp op vs p =>
    cases vs with
    | nil => exact no h
    | cons a vs =>
      cases vs with
      | nil => exact no h
      | cons b vs =>
        cases vs with
        | cons _ _ => exact no h
        | nil =>
          cases op with
          | And =>
            rw [mv_And] at h
            cases hx : meval tab glob n N σ ω a with
            | none => rw [hx] at h; exact no h
            | some x =>
              rw [hx] at h
              have h : (match truthV x with | some true => meval tab glob n N σ ω b | some false => some x | none => none) = some d := h
              cases ht : truthV x with
              | none => rw [ht] at h; exact no h
              | some t =>
                rw [ht] at h
                cases t with
                | true => exact ev_And (I.ev ok' W hx) ht (fun g' u _ => I.ev ok' (W.up u) h) (fun e => by cases e)
                | false =>
                  cases h
                  exact ev_And (I.ev ok' W hx) ht (fun g' u e => by cases e) (fun _ => rfl)
          | Or =>
            rw [mv_Or] at h
            cases hx : meval tab glob n N σ ω a with
            | none => rw [hx] at h; exact no h
            | some x =>
              rw [hx] at h
              have h : (match truthV x with | some false => meval tab glob n N σ ω b | some true => some x | none => none) = some d := h
              cases ht : truthV x with
              | none => rw [ht] at h; exact no h
              | some t =>
                rw [ht] at h
                cases t with
                | false => exact ev_Or (I.ev ok' W hx) ht (fun g' u _ => I.ev ok' (W.up u) h) (fun e => by cases e)
                | true =>
                  cases h
                  exact ev_Or (I.ev ok' W hx) ht (fun g' u e => by cases e) (fun _ => rfl)
  | IfExp t a b p =>
    rw [mv_IfExp] at h
    cases hc : mtest tab glob n N σ ω t with
    | none => rw [hc] at h; exact no h
    | some c =>
      rw [hc] at h
      cases c with
      | true => exact ev_IfExp (I.test ok' W hc) (fun g' u _ => I.ev ok' (W.up u) h) (fun g' u e => by cases e)
      | false => exact ev_IfExp (I.test ok' W hc) (fun g' u e => by cases e) (fun g' u _ => I.ev ok' (W.up u) h)
  | Compare l ops cs p =>
    cases ops with
    | nil => exact no h
    | cons op ops =>
      cases ops with
      | cons _ _ => exact no h
      | nil =>
        cases cs with
        | nil => exact no h
        | cons r cs =>
          cases cs with
          | cons _ _ => exact no h
          | nil =>
            rw [mv_Compare] at h
            cases ha : meval tab glob n N σ ω l with
            | none => rw [ha] at h; exact no h
            | some a =>
              rw [ha] at h
              cases hb : meval tab glob n N σ ω r with
              | none => rw [hb] at h; exact no h
              | some b =>
                rw [hb] at h
                have h : (cmpV op a b).map .bool = some d := h
                cases hc : cmpV op a b with
                | none => rw [hc] at h; exact no h
                | some c =>
                  rw [hc] at h; cases h
                  exact ev_Compare booked hu (I.ev ok' W ha) (fun g' u => I.ev ok' (W.up u) hb) (no_marks hb) hc
  | List es p =>
    rw [mv_List] at h
    cases hds : meach tab glob n N σ ω es with
    | none => rw [hds] at h; exact no h
    | some ds =>
      rw [hds] at h
      exact ev_List I ok' W hds h
  | Tuple es k p =>
    rw [mv_Tuple] at h
    cases hds : meach tab glob n N σ ω es with
    | none => rw [hds] at h; exact no h
    | some ds =>
      rw [hds] at h
      obtain ⟨hl, h⟩ := ite_some h
      cases h
      exact ev_Tuple I ok' W hds hl
  | Subscript v s p => exact ev_Sub I ok W h
  | Call f as ks p => exact ev_Cal I hidx ok W h
  | ListComp elt gens scope p =>
    obtain ⟨target, iter, ifs, xs, ys, rfl, h1, h2, h3, h4, h5, rfl⟩ := comp_inv h
    exact ev_ListComp I ok' W h1 h2 h3 h4 h5
  | _ => exact no h
end
end Mine
end
section
open PySem PySem.W PyProof.Rows PySem.Calls PySem.Flt PySem.SeqAt
set_option maxRecDepth 100000
namespace Mine
section
variable {prog : Program} {w : World} {tab : Tab} {glob : Str → Option V} {A : Around} {env : Env} {N : Names} {μ : Addr → Prop} {σ : Sto} {ω : Own} {g : GS} {n : Nat}

theorem base_succ (I : IH prog w tab glob n) {e : Expr} {d : V} (ok : Ok A (n + 1)) (W : View tab glob env N μ σ ω g) (h : mbase tab glob (n + 1) N σ ω e = some d)
    (E : Value → Shared → Prop) (Q : Value → Shared → Prop) (hQ : ∀ v g', g.Le g' → RepB μ g' d v → Q v g'.s) : wpAny (model prog w) A (eval e env) Q E g.s := by
  have plain : ∀ e, meval tab glob n N σ ω e = some d → wpAny (model prog w) A (eval e env) Q E g.s := fun e h => I.ev ok.pred W h E Q fun v g' u r => hQ v g' u (.inl r)
  cases e with
  | Name x p =>
    cases ω with
    | none => exact plain _ h
    | some yx =>
      obtain ⟨y, xs⟩ := yx
      have h : (if (y == x && okN x) = true then some (V.list xs) else meval tab glob n N σ (some (y, xs)) (.Name x p)) = some d := h
      by_cases hc : (y == x && okN x) = true
      · rw [if_pos hc] at h
        simp only [Bool.and_eq_true, beq_iff_eq] at hc
        cases h
        obtain ⟨a, o, vs, m, h1, h2, h3, _, h4, h5⟩ := W.own y xs rfl
        obtain ⟨rfl, hn⟩ := hc
        exact wpAny_Name (load_var W.kind hn h1 (hQ _ g (.refl g) (.inr ⟨xs, a, o, vs, m, rfl, rfl, h2, h3, h4, h5⟩))) (sget_okd hn).1
      · rw [if_neg hc] at h
        exact plain _ h
  | _ => exact plain _ h

theorem test_succ (I : IH prog w tab glob n) {e : Expr} {b : Bool} (ok : Ok A (n + 1)) (W : View tab glob env N μ σ ω g) (h : mtest tab glob (n + 1) N σ ω e = some b) : EvB prog w A (isTrue e env (eval e env)) b g := by
  have ok' := ok.pred
  have hu : A.units + 16 < cLine := by have := ok.units; omega
  have booked := W.G.booked
  have plain : ∀ e, plainT tab glob n N σ ω e = some b → isTrue e env (eval e env) = (do let v ← eval e env; standAt e.pos; holding [v] (truthy v)) → EvB prog w A (isTrue e env (eval e env)) b g := fun e h hp => by
    have h : (match meval tab glob n N σ ω e with | some d => truthV d | none => none) = some b := h
    cases hd : meval tab glob n N σ ω e with
    | none => rw [hd] at h; exact no h
    | some d =>
      rw [hd] at h
      exact test_plain (I.ev ok' W hd) h hp
  cases e with
  | UnaryOp op x p =>
    cases op with
    | Not =>
      rw [mt_Not] at h
      cases hx : mtest tab glob n N σ ω x with
      | none => rw [hx] at h; exact no h
      | some c =>
        rw [hx] at h; cases h
        exact fun E Q hQ => isTrue_not (I.test ok' W hx E _ fun g' u => hQ g' u)
    | _ => exact plain _ h rfl
  | Compare l ops cs p =>
    cases ops with
    | nil => exact no h
    | cons op ops =>
      cases ops with
      | cons _ _ => exact no h
      | nil =>
        cases cs with
        | nil => exact no h
        | cons r cs =>
          cases cs with
          | cons _ _ => exact no h
          | nil =>
            rw [mt_Compare] at h
            cases ha : meval tab glob n N σ ω l with
            | none => rw [ha] at h; exact no h
            | some a =>
              rw [ha] at h
              cases hc : meval tab glob n N σ ω r with
              | none => rw [hc] at h; exact no h
              | some c =>
                rw [hc] at h
                have h : cmpT op a c = some b := h
                rcases cmpT_inv h with ⟨p, q, rfl, rfl, rfl, rfl⟩ | h
                · exact test_Is (I.ev ok' W ha) (fun g' u => I.ev ok' (W.up u) hc) (no_marks hc)
                · exact test_Compare booked hu (I.ev ok' W ha) (fun g' u => I.ev ok' (W.up u) hc) (no_marks hc) h
  | IfExp _ _ _ _ => exact no h
  | BoolOp op vs p =>
    cases vs with
    | nil => cases n <;> exact no h
    | cons x vs =>
      cases vs with
      | nil => cases n <;> exact no h
      | cons y vs =>
        cases vs with
        | cons _ _ => cases n <;> exact no h
        | nil =>
          cases op with
          | And =>
            rw [mt_And] at h
            cases ht : mtest tab glob n N σ ω x with
            | none => rw [ht] at h; exact no h
            | some t =>
              rw [ht] at h
              cases t with
              | true =>
                exact fun E Q hQ => isTrue_and (I.test ok' W ht E _ fun g1 k1 => isTrue_and (I.test ok' (W.up k1) h E _ fun g2 k2 => by
                  cases b with
                  | true => exact isTrue_and_nil (hQ g2 (k1.trans k2))
                  | false => exact hQ g2 (k1.trans k2)))
              | false =>
                cases h
                exact fun E Q hQ => isTrue_and (I.test ok' W ht E _ fun g1 k1 => hQ g1 k1)
          | Or =>
            rw [mt_Or] at h
            cases ht : mtest tab glob n N σ ω x with
            | none => rw [ht] at h; exact no h
            | some t =>
              rw [ht] at h
              cases t with
              | false =>
                exact fun E Q hQ => isTrue_or (I.test ok' W ht E _ fun g1 k1 => isTrue_or (I.test ok' (W.up k1) h E _ fun g2 k2 => by
                  cases b with
                  | false => exact isTrue_or_nil (hQ g2 (k1.trans k2))
                  | true => exact hQ g2 (k1.trans k2)))
              | true =>
                cases h
                exact fun E Q hQ => isTrue_or (I.test ok' W ht E _ fun g1 k1 => hQ g1 k1)
  | _ => exact plain _ h rfl

theorem src_succ (I : IH prog w tab glob n) {e : Expr} {xs : List V} (ok : Ok A (n + 1)) (W : View tab glob env N μ σ ω g) (h : msrc tab glob (n + 1) N σ ω e = some xs) : EvSrc prog w A μ (eval e env) xs g := by
  have ok' := ok.pred
  have plain : plainS tab glob n N σ ω e = some xs → EvSrc prog w A μ (eval e env) xs g := fun h => by
    have h : (match meval tab glob n N σ ω e with | some d => itemsV d | none => none) = some xs := h
    cases hd : meval tab glob n N σ ω e with
    | none => rw [hd] at h; exact no h
    | some d =>
      rw [hd] at h
      exact src_plain ok' W (I.ev ok' W hd) h
  cases e with
  | Call f as ks p =>
    cases f <;> first | exact plain h | skip
    cases ks with
    | cons _ _ => exact plain h
    | nil =>
      rcases ms_inv h with ⟨ds, hc, hds, h⟩ | h
      · simp only [Bool.and_eq_true, beq_iff_eq, Option.isNone_iff_eq_none] at hc
        exact src_range I ok' W hc.2.1 hc.2.2 hc.1 hds h
      · exact plain h
  | _ => exact plain h
end
end Mine
end
section
open PySem PySem.W PyProof.Rows PySem.Calls PySem.Flt PySem.SeqAt
set_option maxRecDepth 100000
namespace Mine
/-- what does not change of a function's frame -/
structure FEnv (env : Env) (N : Names) : Prop where
  kind : env.scope.kind = .function
  globals : env.globals = mainGlobals
  builtins : env.builtins = builtinsNs
  kindOf : ∀ x, env.kindOf x = N.lookup x
  nofree : ∀ x, N.lookup x ≠ some .free

noncomputable def muF (μ0 Y : Addr → Prop) (env : Env) (N : Names) (oa : Option Addr) (b : Addr) : Prop := μ0 b ∨ Y b ∨ Mut env N b ∨ oa = some b

/-- a function's frame as it runs: g0 is the state of the call, Y what its loops hold -/
structure FS (tab : Tab) (glob : Str → Option V) (env : Env) (N : Names) (μ0 : Addr → Prop) (g0 : GS) (Y : Addr → Prop) (oa : Option Addr) (σ : Sto) (ω : Own) (g : GS) : Prop where
  E : FEnv env N
  le : g0.Le g
  lt0 : ∀ b, μ0 b → ∃ o, g0.h.get? b = some o
  G : Glob tab glob g0.h
  F : Fram env N g.h
  fresh : ∀ b, (Y b ∨ Mut env N b ∨ oa = some b) → g0.h.get? b = none
  live : ∀ b, (Y b ∨ oa = some b) → ∃ o, g.h.get? b = some o
  dis : ∀ b, (Mut env N b ∨ oa = some b) → ¬ Y b
  oam : ∀ b, oa = some b → ¬ Mut env N b
  var : ∀ x d, sget σ x = some d → ∃ v, VarIs env g.h x v ∧ Rep (res (muF μ0 Y env N oa) g) d v
  own : ∀ x xs, ω = some (x, xs) → isVar N x = true ∧ ∃ a vs, oa = some a ∧ VarIs env g.h x (.ref a) ∧ g.h.PlainList a (List.toArray vs) ∧ RepL (res (muF μ0 Y env N oa) g) xs vs
  non : ω = none → oa = none

section
variable {prog : Program} {w : World} {tab : Tab} {glob : Str → Option V} {A : Around} {env : Env} {N : Names} {μ0 Y : Addr → Prop} {g0 g g' : GS} {oa : Option Addr} {σ : Sto} {ω : Own} {n : Nat}

theorem mutLive (F : Fram env N g.h) : ∀ b, Mut env N b → ∃ o, g.h.get? b = some o := fun b hb => by
  rcases hb with rfl | ⟨x, hx, hc⟩
  · obtain ⟨m, o, _, _, e, _⟩ := F.ns; exact ⟨o, e⟩
  · obtain ⟨c, v, h1, o, h2, _⟩ := F.cell x hx
    rw [hc] at h1; cases h1; exact ⟨o, h2⟩

theorem FS.ltF (S : FS tab glob env N μ0 g0 Y oa σ ω g) : ∀ b, muF μ0 Y env N oa b → ∃ o, g.h.get? b = some o := fun b hb => by
  rcases hb with h | h | h | h
  · obtain ⟨o, e⟩ := S.lt0 b h; exact ⟨o, S.le.up _ _ e⟩
  · exact S.live b (.inl h)
  · exact mutLive S.F b h
  · exact S.live b (.inr h)

theorem FS.view (S : FS tab glob env N μ0 g0 Y oa σ ω g) : View tab glob env N (muF μ0 Y env N oa) σ ω g where
  kind := S.E.kind
  globals := S.E.globals
  builtins := S.E.builtins
  lt := S.ltF
  loc := fun x h => (S.E.kindOf x).trans h
  cel := fun x h => (S.E.kindOf x).trans h
  fre := fun x h => absurd h (S.E.nofree x)
  glo := fun x h => (S.E.kindOf x).trans h
  cells := fun x h => h.elim (fun h => let ⟨c, v, h1, o, h2, _⟩ := S.F.cell x h; ⟨c, h1, o, h2⟩) fun h => absurd h (S.E.nofree x)
  var := S.var
  own := fun x xs e => let ⟨_, a, vs, _, h2, ⟨m, h3⟩, h4⟩ := S.own x xs e; ⟨a, _, vs, m, h2, h3, rfl, rfl, rfl, h4⟩
  G := S.G.up S.le.up

theorem FS.up (S : FS tab glob env N μ0 g0 Y oa σ ω g) (u : g.Le g') : FS tab glob env N μ0 g0 Y oa σ ω g' where
  E := S.E
  le := S.le.trans u
  lt0 := S.lt0
  G := S.G
  F := S.F.but fun b o _ e => u.up b o e
  fresh := S.fresh
  live := fun b hb => let ⟨o, e⟩ := S.live b hb; ⟨o, u.up _ _ e⟩
  dis := S.dis
  oam := S.oam
  var := fun x d e => let ⟨v, h1, h2⟩ := S.var x d e; ⟨v, h1.up u.up, h2.up u⟩
  own := fun x xs e => let ⟨h0, a, vs, h1, h2, h3, h4⟩ := S.own x xs e; ⟨h0, a, vs, h1, h2.up u.up, h3.at fun o e => u.up _ _ e, h4.up u⟩
  non := S.non

/-- less is held -/
theorem FS.narrow {Y' : Addr → Prop} (S : FS tab glob env N μ0 g0 Y oa σ ω g) (h : ∀ b, Y' b → Y b) : FS tab glob env N μ0 g0 Y' oa σ ω g := by
  have le : (res (muF μ0 Y env N oa) g).Le (res (muF μ0 Y' env N oa) g) := ⟨fun b o x => ⟨fun q => x.1 (q.elim .inl fun q => .inr (q.elim (fun q => .inl (h b q)) .inr)), x.2⟩, fun _ _ f => f, Nat.le_refl _⟩
  exact { S with
    fresh := fun b hb => S.fresh b (hb.elim (fun q => .inl (h b q)) .inr)
    live := fun b hb => S.live b (hb.elim (fun q => .inl (h b q)) .inr)
    dis := fun b hb q => S.dis b hb (h b q)
    var := fun x d e => let ⟨v, h1, h2⟩ := S.var x d e; ⟨v, h1, Rep.mono le _ _ h2⟩
    own := fun x xs e => let ⟨h0, a, vs, h1, h2, h3, h4⟩ := S.own x xs e; ⟨h0, a, vs, h1, h2, h3, RepL.mono le _ _ h4⟩ }
/-- more is held -/
theorem FS.widen {X : Addr → Prop} (S : FS tab glob env N μ0 g0 Y oa σ ω g) (u : g.Le g') (hX : ∀ b, X b → g.h.get? b = none) (hl : ∀ b, X b → ∃ o, g'.h.get? b = some o) : FS tab glob env N μ0 g0 (fun b => Y b ∨ X b) oa σ ω g' := by
  have le : (res (muF μ0 Y env N oa) g).Le (res (muF μ0 (fun b => Y b ∨ X b) env N oa) g') := by
    refine ⟨fun b o x => ⟨fun q => ?_, u.up b o x.2⟩, u.F, u.t⟩
    rcases q with q | (q | q) | q
    · exact x.1 (.inl q)
    · exact x.1 (.inr (.inl q))
    · have := hX b q; rw [x.2] at this; cases this
    · exact x.1 (.inr (.inr q))
  have S' := S.up u
  have up0 : ∀ b, g.h.get? b = none → g0.h.get? b = none := fun b hb => by
    cases e : g0.h.get? b with
    | none => rfl
    | some o => have := S.le.up b o e; rw [hb] at this; cases this
  exact { S' with
    fresh := fun b hb => hb.elim (fun q => q.elim (fun q => S.fresh b (.inl q)) fun q => up0 b (hX b q)) fun q => S.fresh b (.inr q)
    live := fun b hb => hb.elim (fun q => q.elim (fun q => S'.live b (.inl q)) fun q => hl b q) fun q => S'.live b (.inr q)
    dis := fun b hb q => q.elim (S.dis b hb) fun q => by
      have e := hX b q
      rcases hb with hb | hb
      · obtain ⟨o, e'⟩ := mutLive S.F b hb; rw [e] at e'; cases e'
      · obtain ⟨o, e'⟩ := S.live b (.inr hb); rw [e] at e'; cases e'
    var := fun x d e => let ⟨v, h1, h2⟩ := S.var x d e; ⟨v, h1.up u.up, Rep.mono le _ _ h2⟩
    own := fun x xs e => let ⟨h0, a, vs, h1, h2, h3, h4⟩ := S.own x xs e; ⟨h0, a, vs, h1, h2.up u.up, h3.at fun o e => u.up _ _ e, RepL.mono le _ _ h4⟩ }
theorem VarIs.keepF {h h' : Heap} {x : Str} {v : Value} (E : FEnv env N) (r : VarIs env h x v) (k : ∀ b o, Mut env N b → h.get? b = some o → h'.get? b = some o) : VarIs env h' x v := by
  rcases r with ⟨hk, m, hn, hv⟩ | ⟨hk, c, hc, o, hv, hd⟩
  · exact .inl ⟨hk, m, hn.at' fun o e => k _ o (.inl rfl) e, hv⟩
  · refine .inr ⟨hk, c, hc, o, k _ _ (.inr ⟨x, ?_, hc⟩) hv, hd⟩
    rw [E.kindOf] at hk
    exact hk.resolve_right (E.nofree x)
/-- what is held changes -/
theorem FS.but {X : Addr → Prop} (S : FS tab glob env N μ0 g0 Y oa σ ω g) (b : GS.But X g g') (hX : ∀ b, X b → Y b) (hl : ∀ b, X b → ∃ o, g'.h.get? b = some o) : FS tab glob env N μ0 g0 Y oa σ ω g' := by
  have le : (res (muF μ0 Y env N oa) g).Le (res (muF μ0 Y env N oa) g') := res_but b fun b q => .inr (.inl (hX b q))
  have nM : ∀ b, Mut env N b → ¬ X b := fun b hb q => S.dis b (.inl hb) (hX b q)
  have nO : ∀ b, oa = some b → ¬ X b := fun b hb q => S.dis b (.inr hb) (hX b q)
  have vk : ∀ x v, VarIs env g.h x v → VarIs env g'.h x v := fun x v r => r.keepF S.E fun c o hc e => b.keep c o (nM c hc) e
  exact { S with
    le := GS.But.le S.le b fun c hc => S.fresh c (.inl (hX c hc))
    F := S.F.but fun c o hc e => b.keep c o (nM c hc) e
    live := fun c hc => by
      by_cases hx : X c
      · exact hl c hx
      · obtain ⟨o, e⟩ := S.live c hc
        exact ⟨o, b.keep c o hx e⟩
    var := fun x d e => let ⟨v, h1, h2⟩ := S.var x d e; ⟨v, vk x v h1, Rep.mono le _ _ h2⟩
    own := fun x xs e => let ⟨h0, a, vs, h1, h2, h3, h4⟩ := S.own x xs e; ⟨h0, a, vs, h1, vk _ _ h2, h3.at fun o e => b.keep _ o (nO a h1) e, RepL.mono le _ _ h4⟩ }

/-- what is held changes and is dropped -/
theorem FS.butDrop {X : Addr → Prop} (S : FS tab glob env N μ0 g0 (fun b => Y b ∨ X b) oa σ ω g) (hYX : ∀ b, Y b → ¬ X b) (b : GS.But X g g') : FS tab glob env N μ0 g0 Y oa σ ω g' := by
  have le : (res (muF μ0 (fun b => Y b ∨ X b) env N oa) g).Le (res (muF μ0 Y env N oa) g') := by
    refine ⟨fun c o z => ⟨fun q => z.1 ?_, b.keep c o (fun q => z.1 (.inr (.inl (.inr q)))) z.2⟩, b.F, b.t⟩
    rcases q with q | q | q
    · exact .inl q
    · exact .inr (.inl (.inl q))
    · exact .inr (.inr q)
  have nM : ∀ b, Mut env N b → ¬ X b := fun b hb q => S.dis b (.inl hb) (.inr q)
  have nO : ∀ b, oa = some b → ¬ X b := fun b hb q => S.dis b (.inr hb) (.inr q)
  have vk : ∀ x v, VarIs env g.h x v → VarIs env g'.h x v := fun x v r => r.keepF S.E fun c o hc e => b.keep c o (nM c hc) e
  exact { S with
    le := GS.But.le S.le b fun c hc => S.fresh c (.inl (.inr hc))
    F := S.F.but fun c o hc e => b.keep c o (nM c hc) e
    fresh := fun c hc => S.fresh c (hc.elim (fun q => .inl (.inl q)) .inr)
    live := fun c hc => by
      obtain ⟨o, e⟩ := S.live c (hc.elim (fun q => .inl (.inl q)) .inr)
      exact ⟨o, b.keep c o (hc.elim (hYX c) (nO c)) e⟩
    dis := fun c hc q => S.dis c hc (.inl q)
    var := fun x d e => let ⟨v, h1, h2⟩ := S.var x d e; ⟨v, vk x v h1, Rep.mono le _ _ h2⟩
    own := fun x xs e => let ⟨h0, a, vs, h1, h2, h3, h4⟩ := S.own x xs e; ⟨h0, a, vs, h1, vk _ _ h2, h3.at fun o e => b.keep _ o (nO a h1) e, RepL.mono le _ _ h4⟩ }

/-- the owned list is given up to be read -/
theorem FS.freeze (S : FS tab glob env N μ0 g0 Y oa σ ω g) : FS tab glob env N μ0 g0 Y none (freeze σ ω) none g := by
  have le : (res (muF μ0 Y env N oa) g).Le (res (muF μ0 Y env N none) g) := ⟨fun b o x => ⟨fun q => x.1 (by
    rcases q with q | q | q | q
    · exact .inl q
    · exact .inr (.inl q)
    · exact .inr (.inr (.inl q))
    · cases q), x.2⟩, fun _ _ f => f, Nat.le_refl _⟩
  have base : ∀ x d, sget σ x = some d → ∃ v, VarIs env g.h x v ∧ Rep (res (muF μ0 Y env N none) g) d v := fun x d e => let ⟨v, h1, h2⟩ := S.var x d e; ⟨v, h1, Rep.mono le _ _ h2⟩
  exact { S with
    fresh := fun b hb => S.fresh b (hb.elim .inl fun q => .inr (q.elim .inl fun q => by cases q))
    live := fun b hb => S.live b (hb.elim .inl fun q => by cases q)
    dis := fun b hb => hb.elim (fun q => S.dis b (.inl q)) fun q => by cases q
    oam := fun b hb => by cases hb
    var := fun x d e => by
      cases ω with
      | none => exact base x d e
      | some p =>
        obtain ⟨y, ys⟩ := p
        unfold Mine.freeze at e
        simp only at e
        rw [sget_sput] at e
        split at e
        · rename_i hxy
          subst hxy
          cases e
          obtain ⟨_, a, vs, h1, h2, ⟨m, h3⟩, h4⟩ := S.own x ys rfl
          refine ⟨_, h2, a, _, vs, m, rfl, ⟨fun q => ?_, h3⟩, rfl, rfl, RepL.mono le _ _ h4⟩
          rcases q with q | q | q | q
          · obtain ⟨o, e⟩ := S.lt0 a q
            rw [S.fresh a (.inr (.inr h1))] at e; cases e
          · exact S.dis a (.inr h1) q
          · exact S.oam a h1 q
          · cases q
        · exact base x d e
    own := fun x xs e => by cases e
    non := fun _ => rfl }

noncomputable def oaf (e : Expr) (ω : Own) (oa : Option Addr) : Option Addr := match ω with
  | some (x, _) => if names 64 x e then none else oa
  | none => oa
theorem FS.frozenFor (S : FS tab glob env N μ0 g0 Y oa σ ω g) (e : Expr) : FS tab glob env N μ0 g0 Y (oaf e ω oa) (frozenFor e σ ω).1 (frozenFor e σ ω).2 g := by
  unfold Mine.frozenFor oaf
  cases ω with
  | none => exact S
  | some p =>
    obtain ⟨x, xs⟩ := p
    simp only
    by_cases h : names 64 x e = true
    · simp only [h, if_true]; exact S.freeze
    · simp only [h, if_false]; exact S

/-- one step of the frame -/
structure Step (env : Env) (N : Names) (oa : Option Addr) (g : GS) (oa' : Option Addr) (g' : GS) : Prop where
  but : GS.But (fun b => Mut env N b ∨ oa = some b) g g'
  new : ∀ b, oa' = some b → oa = some b ∨ g.h.get? b = none
theorem Step.refl (g : GS) : Step env N oa g oa g := ⟨.refl _ g, fun _ h => .inl h⟩
theorem Step.of_le {oa' : Option Addr} (u : g.Le g') (h : ∀ b, oa' = some b → oa = some b) : Step env N oa g oa' g' := ⟨u.but, fun b e => .inl (h b e)⟩
theorem Step.trans {oa' oa'' : Option Addr} {g'' : GS} (h : Step env N oa g oa' g') (h' : Step env N oa' g' oa'' g'') (live : ∀ b, Mut env N b → ∃ o, g'.h.get? b = some o) : Step env N oa g oa'' g'' := by
  obtain ⟨h1, t1, e1⟩ := h.but.same
  obtain ⟨h2, t2, e2⟩ := h'.but.same
  refine ⟨⟨⟨h2, t2, by rw [e2, e1]⟩, fun b o n e => h'.but.keep b o (fun q => ?_) (h.but.keep b o n e), Nat.le_trans h.but.t h'.but.t, fun t a f => h'.but.F t a (h.but.F t a f)⟩, fun b e => ?_⟩
  · rcases q with q | q
    · exact n (.inl q)
    · rcases h.new b q with q | q
      · exact n (.inr q)
      · rw [q] at e; cases e
  · rcases h'.new b e with q | q
    · exact h.new b q
    · cases e3 : g.h.get? b with
      | none => exact .inr rfl
      | some o =>
        by_cases hn : Mut env N b ∨ oa = some b
        · rcases hn with hn | hn
          · obtain ⟨o', e'⟩ := live b hn; rw [q] at e'; cases e'
          · exact .inl hn
        · have := h.but.keep b o hn e3
          rw [q] at this; cases this
theorem oaf_sub {e : Expr} : ∀ b, oaf e ω oa = some b → oa = some b := fun b h => by
  unfold oaf at h
  split at h
  · split at h
    · cases h
    · exact h
  · exact h

noncomputable def oad (x : Str) (ω : Own) (oa : Option Addr) : Option Addr := match ω with
  | some (y, _) => if y == x then none else oa
  | none => oa
theorem oad_sub {x : Str} : ∀ b, oad x ω oa = some b → oa = some b := fun b h => by
  unfold oad at h
  split at h
  · split at h
    · cases h
    · exact h
  · exact h
theorem FS.drop (S : FS tab glob env N μ0 g0 Y oa σ ω g) (x : Str) : FS tab glob env N μ0 g0 Y (oad x ω oa) σ (dropOwn x ω) g := by
  cases ω with
  | none => exact S
  | some p =>
    obtain ⟨y, ys⟩ := p
    by_cases h : (y == x) = true
    · have e1 : oad x (some (y, ys)) oa = none := by simp only [oad, h, if_true]
      have e2 : dropOwn x (some (y, ys)) = none := by simp only [dropOwn, h, if_true]
      rw [e1, e2]
      have le : (res (muF μ0 Y env N oa) g).Le (res (muF μ0 Y env N none) g) := ⟨fun b o x => ⟨fun q => x.1 (by
        rcases q with q | q | q | q
        · exact .inl q
        · exact .inr (.inl q)
        · exact .inr (.inr (.inl q))
        · cases q), x.2⟩, fun _ _ f => f, Nat.le_refl _⟩
      exact { S with
        fresh := fun b hb => S.fresh b (hb.elim .inl fun q => .inr (q.elim .inl fun q => by cases q))
        live := fun b hb => S.live b (hb.elim .inl fun q => by cases q)
        dis := fun b hb => hb.elim (fun q => S.dis b (.inl q)) fun q => by cases q
        oam := fun b hb => by cases hb
        var := fun x d e => let ⟨v, h1, h2⟩ := S.var x d e; ⟨v, h1, Rep.mono le _ _ h2⟩
        own := fun x xs e => by cases e
        non := fun _ => rfl }
    · have e1 : oad x (some (y, ys)) oa = oa := by simp only [oad, h]; rfl
      have e2 : dropOwn x (some (y, ys)) = some (y, ys) := by simp only [dropOwn, h]; rfl
      rw [e1, e2]; exact S
theorem dropOwn_ne {x y : Str} {ys : List V} (h : dropOwn x ω = some (y, ys)) : y ≠ x := by
  cases ω with
  | none => cases h
  | some p =>
    obtain ⟨z, zs⟩ := p
    unfold dropOwn at h
    simp only at h
    split at h
    · cases h
    · rename_i hz
      cases h
      intro e; subst e; simp at hz

theorem FS.storeV (S : FS tab glob env N μ0 g0 Y oa σ ω g) {x : Str} {d : V} {v : Value} (hx : isVar N x = true) (r : Rep (res (muF μ0 Y env N oa) g) d v) {E : Value → Shared → Prop} {Q : Unit → Shared → Prop}
    (hQ : ∀ g', FS tab glob env N μ0 g0 Y (oad x ω oa) (sput x (some d) σ) (dropOwn x ω) g' → Step env N oa g (oad x ω oa) g' → VarIs env g'.h x v → (∀ y u, y ≠ x → VarIs env g.h y u → VarIs env g'.h y u) → Q () g'.s) : wpAny (model prog w) A (storeName env x v) Q E g.s := by
  have S1 := S.drop x
  have r1 : Rep (res (muF μ0 Y env N (oad x ω oa)) g) d v := by
    have le : (res (muF μ0 Y env N oa) g).Le (res (muF μ0 Y env N (oad x ω oa)) g) := by
      refine ⟨fun b o z => ⟨fun q => z.1 ?_, z.2⟩, fun _ _ f => f, Nat.le_refl _⟩
      rcases q with q | q | q | q
      · exact .inl q
      · exact .inr (.inl q)
      · exact .inr (.inr (.inl q))
      · exact .inr (.inr (.inr (oad_sub b q)))
    exact Rep.mono le _ _ r
  have hne : ∀ y ys, dropOwn x ω = some (y, ys) → y ≠ x := fun y ys h => dropOwn_ne h
  have hsub : ∀ b, oad x ω oa = some b → oa = some b := fun b h => oad_sub b h
  generalize oad x ω oa = oa1 at *
  generalize dropOwn x ω = ω1 at *
  refine store_var S.F hx fun h' tk F' hv hk keep ht => ?_
  have bt : GS.But (Mut env N) g (g.chg h' tk ht) := GS.chg_but ht keep
  have le : (res (muF μ0 Y env N oa1) g).Le (res (muF μ0 Y env N oa1) (g.chg h' tk ht)) := res_but bt fun b q => .inr (.inr (.inl q))
  refine hQ (g.chg h' tk ht) ?_ ⟨bt.wider fun b q => .inl q, fun b q => .inl (hsub b q)⟩ hv hk
  exact { S1 with
    le := GS.But.le S.le bt fun b q => S.fresh b (.inr (.inl q))
    F := F'
    live := fun b hb => by
      obtain ⟨o, e⟩ := S1.live b hb
      refine ⟨o, keep b o (fun q => ?_) e⟩
      rcases hb with hb | hb
      · exact S.dis b (.inl q) hb
      · exact S1.oam b hb q
    var := fun y e he => by
      rw [sget_sput] at he
      by_cases hyx : y = x
      · subst hyx
        rw [if_pos rfl] at he; cases he
        exact ⟨v, hv, Rep.mono le _ _ r1⟩
      · rw [if_neg hyx] at he
        obtain ⟨u, h1, h2⟩ := S1.var y e he
        exact ⟨u, hk y u hyx h1, Rep.mono le _ _ h2⟩
    own := fun y ys e => by
      obtain ⟨h0, a, vs, h1, h2, h3, h4⟩ := S1.own y ys e
      exact ⟨h0, a, vs, h1, hk y _ (hne y ys e) h2, h3.at fun o e => keep _ o (S1.oam a h1) e, RepL.mono le _ _ h4⟩ }

theorem FS.store (S : FS tab glob env N μ0 g0 Y oa σ ω g) {x : Str} {d : V} {v : Value} (hx : isVar N x = true) (r : Rep (res (muF μ0 Y env N oa) g) d v) {E : Value → Shared → Prop} {Q : Unit → Shared → Prop}
    (hQ : ∀ g', FS tab glob env N μ0 g0 Y (oad x ω oa) (sput x (some d) σ) (dropOwn x ω) g' → Step env N oa g (oad x ω oa) g' → Q () g'.s) : wpAny (model prog w) A (storeName env x v) Q E g.s :=
  S.storeV hx r fun g' S' st _ _ => hQ g' S' st

/-- a list display into a name: the frame owns the list -/
theorem FS.storeList (S : FS tab glob env N μ0 g0 Y none σ none g) {x : Str} {ds : List V} {vs : List Value} (hx : isVar N x = true) (r : RepL (res (muF μ0 Y env N none) g) ds vs) {E : Value → Shared → Prop} {Q : Unit → Shared → Prop}
    (hQ : ∀ g' a, FS tab glob env N μ0 g0 Y (some a) (sput x none σ) (some (x, ds)) g' → g.h.get? a = none → Step env N none g (some a) g' → Q () g'.s) :
    wpAny (model prog w) A (storeName env x (.ref g.h.objs.size)) Q E (g.push { cls := .type "list", data := .seq (List.toArray vs) }).s := by
  have u := g.push_le { cls := .type "list", data := .seq (List.toArray vs) }
  have hob : (g.push { cls := .type "list", data := .seq (List.toArray vs) }).h.get? g.h.objs.size = some { cls := .type "list", data := .seq (List.toArray vs) } := Heap.get?_push_size _ rfl
  have S1 := S.up u
  have hnew : g.h.get? g.h.objs.size = none := get_size _
  generalize g.push { cls := .type "list", data := .seq (List.toArray vs) } = g1 at *
  generalize hn : g.h.objs.size = a at *
  refine store_var S1.F hx fun h' tk F' hv hk keep ht => ?_
  have bt : GS.But (Mut env N) g1 (g1.chg h' tk ht) := GS.chg_but ht keep
  have aM : ¬ Mut env N a := fun q => by obtain ⟨o, e⟩ := mutLive S.F a q; rw [hnew] at e; cases e
  have aY : ¬ Y a := fun q => by obtain ⟨o, e⟩ := S.live a (.inl q); rw [hnew] at e; cases e
  have le : (res (muF μ0 Y env N none) g).Le (res (muF μ0 Y env N (some a)) (g1.chg h' tk ht)) := by
    refine ⟨fun b o z => ⟨fun q => ?_, keep b o (fun q => z.1 (.inr (.inr (.inl q)))) (u.up b o z.2)⟩, u.F, Nat.le_trans u.t ht⟩
    rcases q with q | q | q | q
    · exact z.1 (.inl q)
    · exact z.1 (.inr (.inl q))
    · exact z.1 (.inr (.inr (.inl q)))
    · cases q; have := z.2; rw [hnew] at this; cases this
  have k1 : g0.Le (g1.chg h' tk ht) := GS.But.le S1.le bt fun b q => S.fresh b (.inr (.inl q))
  refine hQ (g1.chg h' tk ht) a ?_ hnew ⟨(u.but.trans (bt.wider fun b q => q)).wider fun b q => .inl q, fun b q => by cases q; exact .inr hnew⟩
  exact { S1 with
    le := k1
    F := F'
    fresh := fun b hb => by
      rcases hb with q | q | q
      · exact S.fresh b (.inl q)
      · exact S.fresh b (.inr (.inl q))
      · cases q
        cases e : g0.h.get? a with
        | none => rfl
        | some o => have := S.le.up a o e; rw [hnew] at this; cases this
    live := fun b hb => by
      rcases hb with q | q
      · obtain ⟨o, e⟩ := S1.live b (.inl q)
        exact ⟨o, keep b o (fun m => S.dis b (.inl m) q) e⟩
      · cases q; exact ⟨_, keep a _ aM hob⟩
    dis := fun b hb => by
      rcases hb with q | q
      · exact S.dis b (.inl q)
      · cases q; exact aY
    oam := fun b hb => by cases hb; exact aM
    var := fun y e he => by
      rw [sget_sput] at he
      by_cases hyx : y = x
      · rw [if_pos hyx] at he; cases he
      · rw [if_neg hyx] at he
        obtain ⟨w1, h1, h2⟩ := S.var y e he
        exact ⟨w1, hk y w1 hyx (h1.up u.up), Rep.mono le _ _ h2⟩
    own := fun y ys e => by
      cases e
      exact ⟨hx, a, vs, rfl, hv, ⟨_, keep a _ aM hob⟩, RepL.mono le _ _ r⟩
    non := fun e => by cases e }
end
end Mine
end
section
open PySem PySem.W PyProof.Rows PySem.Calls PySem.Flt PySem.SeqAt
set_option maxRecDepth 100000
namespace Mine
noncomputable def Post (tab : Tab) (glob : Str → Option V) (env : Env) (N : Names) (μ0 : Addr → Prop) (g0 : GS) (Y : Addr → Prop) (oa : Option Addr) (g : GS) (r : Res) (f : Flow) (s : Shared) : Prop :=
  match r with
  | .next σ' ω' => f = .next ∧ ∃ g' oa', s = g'.s ∧ FS tab glob env N μ0 g0 Y oa' σ' ω' g' ∧ Step env N oa g oa' g'
  | .ret d => ∃ v g', f = .ret v ∧ s = g'.s ∧ g0.Le g' ∧ Rep (res μ0 g') d v

structure IS (prog : Program) (w : World) (tab : Tab) (glob : Str → Option V) (n : Nat) : Prop where
  ex : ∀ {A env N μ0 g0 Y oa σ ω g st r}, Ok A n → FS tab glob env N μ0 g0 Y oa σ ω g → mexec tab glob n N σ ω st = some r →
    ∀ (E : Value → Shared → Prop) (Q : Flow → Shared → Prop), (∀ f s, Post tab glob env N μ0 g0 Y oa g r f s → Q f s) → wpAny (model prog w) A (exec st env) Q E g.s
  exs : ∀ {A env N μ0 g0 Y oa σ ω g st r}, Ok A n → FS tab glob env N μ0 g0 Y oa σ ω g → mexecs tab glob n N σ ω st = some r →
    ∀ (E : Value → Shared → Prop) (Q : Flow → Shared → Prop), (∀ f s, Post tab glob env N μ0 g0 Y oa g r f s → Q f s) → wpAny (model prog w) A (execs st env) Q E g.s

section
variable {prog : Program} {w : World} {tab : Tab} {glob : Str → Option V} {A : Around} {env : Env} {N : Names} {μ0 Y : Addr → Prop} {g0 g g' : GS} {oa : Option Addr} {σ : Sto} {ω : Own} {n : Nat}

theorem Post.before {oa' : Option Addr} {r : Res} {f : Flow} {s : Shared} (h : Post tab glob env N μ0 g0 Y oa' g' r f s) (st : Step env N oa g oa' g') (F : Fram env N g'.h) : Post tab glob env N μ0 g0 Y oa g r f s := by
  cases r with
  | next σ' ω' =>
    obtain ⟨hf, g2, oa2, hs, S, h2⟩ := h
    exact ⟨hf, g2, oa2, hs, S, st.trans h2 (mutLive F)⟩
  | ret d => exact h

theorem execs_succ (I : IS prog w tab glob n) {st : List Stmt} {r : Res} (ok : Ok A (n + 1)) (S : FS tab glob env N μ0 g0 Y oa σ ω g) (h : mexecs tab glob (n + 1) N σ ω st = some r)
    (E : Value → Shared → Prop) (Q : Flow → Shared → Prop) (hQ : ∀ f s, Post tab glob env N μ0 g0 Y oa g r f s → Q f s) : wpAny (model prog w) A (execs st env) Q E g.s := by
  cases st with
  | nil =>
    cases h
    exact wpAny_execs_nil (hQ _ _ ⟨rfl, g, oa, rfl, S, .refl g⟩)
  | cons s r' =>
    rw [mxs_cons] at h
    refine wpAny_execs_cons ?_
    split at h
    · rename_i σ' ω' hs
      refine I.ex ok.pred S hs E _ fun f s hp => ?_
      obtain ⟨rfl, g1, oa1, rfl, S1, st1⟩ := hp
      exact I.exs ok.pred S1 h E Q fun f s hp => hQ f s (hp.before st1 S1.F)
    · rename_i d hs
      cases h
      refine I.ex ok.pred S hs E _ fun f s hp => ?_
      obtain ⟨v, g1, rfl, rfl, h1, h2⟩ := hp
      exact hQ _ _ ⟨v, g1, rfl, rfl, h1, h2⟩
    · cases h

theorem rep_out (S : FS tab glob env N μ0 g0 Y oa σ ω g) (u : g.Le g') {d : V} {v : Value} (r : Rep (res (muF μ0 Y env N oa) g') d v) : Rep (res μ0 g') d v := by
  have le : (res (muF μ0 Y env N oa) g').Le (res μ0 g') := ⟨fun _ _ x => ⟨fun q => x.1 (.inl q), x.2⟩, fun _ _ f => f, Nat.le_refl _⟩
  exact Rep.mono le _ _ r

theorem st_Return (I : IH prog w tab glob n) {e : Expr} {p : Pos} {d : V} (ok : Ok A n) (S : FS tab glob env N μ0 g0 Y oa σ ω g) (h : meval tab glob n N (freeze σ ω) none e = some d)
    (E : Value → Shared → Prop) (Q : Flow → Shared → Prop) (hQ : ∀ f s, Post tab glob env N μ0 g0 Y oa g (.ret d) f s → Q f s) : wpAny (model prog w) A (exec (.Return (some e) p) env) Q E g.s :=
  wpAny_Return_some (I.ev ok S.freeze.view h E _ fun v g1 u r => hQ _ _ ⟨v, g1, rfl, rfl, S.le.trans u, rep_out S.freeze u r⟩)

theorem st_AssignList (I : IH prog w tab glob n) {x : Str} {px p p2 : Pos} {es : List Expr} {ds : List V} (ok : Ok A n) (S : FS tab glob env N μ0 g0 Y oa σ ω g) (hx : isVar N x = true) (h : meach tab glob n N (freeze σ ω) none es = some ds) (hl : ds.length ≤ 4096)
    (E : Value → Shared → Prop) (Q : Flow → Shared → Prop) (hQ : ∀ f s, Post tab glob env N μ0 g0 Y oa g (.next (sput x none (freeze σ ω)) (some (x, ds))) f s → Q f s) : wpAny (model prog w) A (exec (.Assign [.Name x px] (.List es p) p2) env) Q E g.s := by
  refine wpAny_Assign_Name (List_ (I.each p ok S.freeze.view h E _ fun vs g1 u r => wpAny_newList ?_ (by rw [r.length]; exact Nat.le_trans hl (by decide))))
  exact (S.freeze.up u).storeList hx r fun g' a S' hn st => hQ _ _ ⟨rfl, g', some a, rfl, S', ⟨(u.but.trans (st.but.wider fun b q => .inl (q.elim id fun q => by cases q))), fun b q => by
    cases q
    refine .inr ?_
    cases e : g.h.get? a with
    | none => rfl
    | some o => have := u.up _ _ e; rw [hn] at this; cases this⟩⟩

theorem st_Aug (I : IH prog w tab glob n) {x : Str} {px p : Pos} {op : Operator} {e : Expr} {a b : Int} {d : V} (ok : Ok A n) (S : FS tab glob env N μ0 g0 Y oa σ ω g) (hx : isVar N x = true) (ha : sget σ x = some (.int a))
    (he : meval tab glob n N σ ω e = some (.int b)) (hop : op = .Add ∨ op = .Sub) (h : binV op (.int a) (.int b) = some d)
    (E : Value → Shared → Prop) (Q : Flow → Shared → Prop) (hQ : ∀ f s, Post tab glob env N μ0 g0 Y oa g (.next (sput x (some d) σ) (dropOwn x ω)) f s → Q f s) : wpAny (model prog w) A (exec (.AugAssign (.Name x px) op e p) env) Q E g.s := by
  refine wpAny_AugAssign_Name ?_
  obtain ⟨v, hv, r⟩ := S.var x _ ha
  obtain ⟨t, rfl⟩ := r
  have load : ∀ {Q : Value → Shared → Prop}, Q (.int a t) g.s → wpAny (model prog w) A (loadName env x) Q E g.s := fun hq => by
    rcases hv with ⟨k, m, hm, hv⟩ | ⟨k, c, hc, hv⟩
    · exact wpAny_loadName_local S.E.kind k hm hv hq
    · rw [S.E.kindOf] at k
      exact wpAny_loadName_cell S.E.kind ((S.E.kindOf x).trans (k.resolve_right (S.E.nofree x))) hc hv hq
  refine load (I.ev ok S.view he E _ fun u g1 k1 r1 => ?_)
  obtain ⟨t1, rfl⟩ := r1
  have fin : ∀ (k : Int), d = .int k → wpAny (model prog w) A (storeName env x (.int k g1.s.toks)) (fun _ => Q .next) E (g1.chg g1.h (g1.s.toks + 1) (Nat.le_succ _)).s := fun k e => by
    subst e
    have k2 : g1.Le (g1.chg g1.h (g1.s.toks + 1) (Nat.le_succ _)) := ⟨⟨_, _, rfl, fun _ _ e => e⟩, Nat.le_succ _, fun _ _ f => f⟩
    exact ((S.up k1).up k2).store hx (d := .int k) ⟨_, rfl⟩ fun g' S' st => hQ _ _ ⟨rfl, g', _, rfl, S', (Step.of_le (k1.trans k2) fun b h => h).trans st (mutLive ((S.up k1).up k2).F)⟩
  rcases hop with rfl | rfl
  · obtain ⟨_, h⟩ := ite_some h
    cases h; exact wpAny_iadd_int (fin _ rfl)
  · obtain ⟨_, h⟩ := ite_some h
    cases h; exact isub_int (fin _ rfl)

theorem st_Append (I : IH prog w tab glob n) {x : Str} {px ap cp p : Pos} {e : Expr} {d : V} {xs : List V} (ok : Ok A n) (S : FS tab glob env N μ0 g0 Y oa σ (some (x, xs)) g) (hn : okN x = true) (hline : (ap.endLine == cp.line) = true)
    (he : meval tab glob n N σ (some (x, xs)) e = some d) (hl : xs.length ≤ 4096)
    (E : Value → Shared → Prop) (Q : Flow → Shared → Prop) (hQ : ∀ f s, Post tab glob env N μ0 g0 Y oa g (.next σ (some (x, xs ++ [d]))) f s → Q f s) : wpAny (model prog w) A (exec (.Expr (.Call (.Attribute (.Name x px) "append" ap) [e] [] cp) p) env) Q E g.s := by
  have hse : ∀ a q, e ≠ .Starred a q := fun a q z => by subst z; cases n <;> exact no he
  obtain ⟨hx, a, vs, h1, h2, ⟨m, h3⟩, h4⟩ := S.own x xs rfl
  refine wpAny_Expr (wpAny_Call_append rfl ?_ hline (by rw [starEach_cons hse]; rfl) ?_) (by unfold interactive; rw [S.E.kind]; rfl) rfl
  · rw [starEach_cons hse]; rfl
  · refine wpAny_Name (load_var S.E.kind hn h2 ⟨a, vs.toArray, rfl, ⟨_, m, h3, rfl, rfl, rfl⟩, ?_⟩) (sget_okd hn).1
    refine I.ev ok S.view he E _ fun u g1 k1 r1 => ?_
    have S1 := S.up k1
    obtain ⟨_, a', vs', h1', h2', hp', h4'⟩ := S1.own x xs rfl
    rw [h1] at h1'; cases h1'
    refine wpAny_list_append_plain hp' (fun h5 hl5 hs5 => ?_) (by rw [List.size_toArray, h4'.length]; exact Nat.le_trans hl (by decide))
    have bt : GS.But (· = a) g1 (g1.chg h5 g1.s.toks (Nat.le_refl _)) := GS.chg_but _ fun b o hb e => hs5.extBut b o hb e
    have aM := S.oam a h1
    have le : (res (muF μ0 Y env N oa) g1).Le (res (muF μ0 Y env N oa) (g1.chg h5 g1.s.toks (Nat.le_refl _))) := res_but bt fun b q => .inr (.inr (.inr (by rw [q]; exact h1)))
    refine hQ _ _ ⟨rfl, g1.chg h5 g1.s.toks (Nat.le_refl _), oa, rfl, ?_, ⟨k1.but.trans (bt.wider fun b q => .inr (by rw [q]; exact h1)), fun b q => .inl q⟩⟩
    exact { S1 with
      le := GS.But.le S1.le bt fun b q => by rw [q]; exact S.fresh a (.inr (.inr h1))
      F := S1.F.but fun b o hb e => bt.keep b o (fun q => aM (q ▸ hb)) e
      live := fun b hb => by
        by_cases hba : b = a
        · subst hba
          obtain ⟨mm, q⟩ := hl5
          exact ⟨_, q⟩
        · obtain ⟨o, q⟩ := S1.live b hb
          exact ⟨o, bt.keep b o hba q⟩
      var := fun y z hz => let ⟨v, q1, q2⟩ := S1.var y z hz; ⟨v, q1.keepF S.E fun b o hb e => bt.keep b o (fun q => aM (q ▸ hb)) e, Rep.mono le _ _ q2⟩
      own := fun y ys hy => by
        cases hy
        refine ⟨hx, a, vs' ++ [u], h1, h2'.keepF S.E fun b o hb e => bt.keep b o (fun q => aM (q ▸ hb)) e, ?_, RepL.mono le _ _ (h4'.append (RepL.one r1))⟩
        show h5.PlainList _ _
        simpa using hl5
      non := fun q => by cases q }
end
end Mine
end
section
open PySem PySem.W PyProof.Rows PySem.Calls PySem.Flt PySem.SeqAt
set_option maxRecDepth 100000
namespace Mine
section
variable {prog : Program} {w : World} {tab : Tab} {glob : Str → Option V} {A : Around} {env : Env} {N : Names} {μ0 Y : Addr → Prop} {g0 g g' : GS} {oa : Option Addr} {σ : Sto} {ω : Own} {n : Nat}

theorem st_If (I : IH prog w tab glob n) (IS' : IS prog w tab glob n) {t : Expr} {b o : List Stmt} {p : Pos} {c : Bool} {r : Res} (ok : Ok A n) (S : FS tab glob env N μ0 g0 Y oa σ ω g)
    (ht : mtest tab glob n N (frozenFor t σ ω).1 (frozenFor t σ ω).2 t = some c) (h : mexecs tab glob n N (frozenFor t σ ω).1 (frozenFor t σ ω).2 (if c then b else o) = some r)
    (E : Value → Shared → Prop) (Q : Flow → Shared → Prop) (hQ : ∀ f s, Post tab glob env N μ0 g0 Y oa g r f s → Q f s) : wpAny (model prog w) A (exec (.If t b o p) env) Q E g.s := by
  have S1 := S.frozenFor t
  refine wpAny_If (I.test ok S1.view ht E _ fun g1 k1 => ?_)
  have S2 := S1.up k1
  have st : Step env N oa g (oaf t ω oa) g1 := Step.of_le k1 fun b h => oaf_sub b h
  cases c with
  | true => exact IS'.exs ok S2 h E Q fun f s hp => hQ f s (hp.before st S2.F)
  | false => exact IS'.exs ok S2 h E Q fun f s hp => hQ f s (hp.before st S2.F)

theorem st_Assert (I : IH prog w tab glob n) {t : Expr} {m : Option Expr} {p : Pos} (ok : Ok A n) (S : FS tab glob env N μ0 g0 Y oa σ ω g)
    (ht : mtest tab glob n N (frozenFor t σ ω).1 (frozenFor t σ ω).2 t = some true)
    (E : Value → Shared → Prop) (Q : Flow → Shared → Prop) (hQ : ∀ f s, Post tab glob env N μ0 g0 Y oa g (.next (frozenFor t σ ω).1 (frozenFor t σ ω).2) f s → Q f s) : wpAny (model prog w) A (exec (.Assert t m p) env) Q E g.s := by
  have S1 := S.frozenFor t
  exact wpAny_Assert_holds (I.test ok S1.view ht E _ fun g1 k1 => ⟨rfl, hQ _ _ ⟨rfl, g1, _, rfl, S1.up k1, Step.of_le k1 fun b h => oaf_sub b h⟩⟩)

theorem st_AssignPlain (I : IH prog w tab glob n) {x : Str} {px p : Pos} {e : Expr} {d : V} (ok : Ok A n) (S : FS tab glob env N μ0 g0 Y oa σ ω g) (hx : isVar N x = true)
    (h : meval tab glob n N (frozenFor e σ ω).1 (frozenFor e σ ω).2 e = some d) (hs : swapsWith e (some (.Name x px)) p.line env = pure false)
    (E : Value → Shared → Prop) (Q : Flow → Shared → Prop) (hQ : ∀ f s, Post tab glob env N μ0 g0 Y oa g (.next (sput x (some d) (frozenFor e σ ω).1) (dropOwn x (frozenFor e σ ω).2)) f s → Q f s) :
    wpAny (model prog w) A (exec (.Assign [.Name x px] e p) env) Q E g.s := by
  have S1 := S.frozenFor e
  refine wpAny_Assign_Name (I.ev ok S1.view h E _ fun v g1 k1 r1 => ?_) hs
  exact (S1.up k1).store hx r1 fun g2 S2 st2 => hQ _ _ ⟨rfl, g2, _, rfl, S2, (Step.of_le k1 fun b h => oaf_sub b h).trans st2 (mutLive (S1.up k1).F)⟩

theorem st_AssignComp (I : IH prog w tab glob n) {x : Str} {px p pos : Pos} {elt target iter : Expr} {ifs : List Expr} {scope : Scope} {xs ys : List V} (ok : Ok A n) (S : FS tab glob env N μ0 g0 Y oa σ ω g) (hx : isVar N x = true)
    (hcan : canClose N scope = true) (hone : oneName scope = true) (hkind : scope.kind = .function) (hxs : msrc tab glob n N σ ω iter = some xs) (hf : compM (compF tab glob n scope σ ω target ifs elt) xs = some ys)
    (hs : swapsWith (.ListComp elt [⟨target, iter, ifs, 0⟩] scope pos) (some (.Name x px)) p.line env = pure true)
    (E : Value → Shared → Prop) (Q : Flow → Shared → Prop) (hQ : ∀ f s, Post tab glob env N μ0 g0 Y oa g (.next (sput x (some (.list ys)) σ) (dropOwn x ω)) f s → Q f s) :
    wpAny (model prog w) A (exec (.Assign [.Name x px] (.ListComp elt [⟨target, iter, ifs, 0⟩] scope pos) p) env) Q E g.s := by
  rw [exec_Assign_Name_used _ _ _ _ hs]
  refine wpAny_bind (wpAny_standAt (wpAny_bind ?_))
  show wpAny _ A (do let _ ← comprehension (.ListComp elt [⟨target, iter, ifs, 0⟩] scope pos) scope env _ (newList []) false (eval iter env) (some (assign (.Name x px) env))) _ _ g.s
  have W := S.view
  refine wpAny_bind (wpAny_mono (wpAny_comprehension_free (use := some (assign (.Name x px) env)) (Q := fun _ s' => Q .next s') rfl (not_set_of_src hxs) (clos_eq W hcan) hkind
    (fun x hx hk => oneName_of hone (k := .local) (by obtain ⟨y, k⟩ := x; have hk : k = .local := hk; subst hk; exact hx) (.inl rfl)) ?_) (fun _ s' hq => wpAny_pure (wpAny_pure hq)) fun _ _ e => e)
  refine I.src ok W hxs E _ fun it gs k0 Sr => ?_
  refine comp_core I ok W k0 Sr hcan hone hkind hf (RR := fun acc C => compPost (model prog w) A E (some (assign (.Name x px) env)) (fun _ s' => Q .next s') acc C) fun D C g1 k1 hC hns r => ?_
  obtain ⟨m, hm⟩ := hns
  have hCl : ∃ o, g1.h.get? C = some o := by obtain ⟨o, _, _, e, _⟩ := hm; exact ⟨o, e⟩
  have S1 := S.widen (X := (· = C)) k1 (fun b q => by rw [q]; exact hC) (fun b q => by rw [q]; exact hCl)
  have le : (res (fun b => muF μ0 Y env N oa b ∨ b = C) g1).Le (res (muF μ0 (fun b => Y b ∨ b = C) env N oa) g1) := by
    refine ⟨fun b o z => ⟨fun q => z.1 ?_, z.2⟩, fun _ _ f => f, Nat.le_refl _⟩
    rcases q with q | (q | q) | q
    · exact .inl (.inl q)
    · exact .inl (.inr (.inl q))
    · exact .inr q
    · exact .inl (.inr (.inr q))
  show wpAny _ A (assign (.Name x px) env (.ref D)) _ _ _
  refine wpAny_assign_Name (S1.store hx (Rep.mono le _ _ r) fun g2 S2 st2 => ?_)
  have nC : ¬ (Mut env N C ∨ oa = some C) := fun q => S1.dis C q (.inr rfl)
  refine ⟨m, hm.at' fun o e => st2.but.keep C o nC e, fun h' hs' => ?_⟩
  have bt : GS.But (· = C) g2 (g2.chg h' g2.s.toks (Nat.le_refl _)) := GS.chg_but _ fun b o hb e => hs'.extBut b o hb e
  have S3 := S2.butDrop (X := (· = C)) (fun b hb q => by
    subst q
    obtain ⟨o, e⟩ := S.live b (.inl hb)
    rw [hC] at e; cases e) bt
  refine hQ _ _ ⟨rfl, g2.chg h' g2.s.toks (Nat.le_refl _), _, rfl, S3, ?_⟩
  have s12 := (Step.of_le (N := N) (env := env) (oa := oa) k1 fun b h => h).trans st2 (mutLive S1.F)
  obtain ⟨h2, t2, e2⟩ := s12.but.same
  refine ⟨⟨⟨h', g2.s.toks, ?_⟩, fun b o hb e => bt.keep b o (fun q => ?_) (s12.but.keep b o hb e), s12.but.t, s12.but.F⟩, s12.new⟩
  · show ({ g2.s with heap := h', toks := g2.s.toks } : Shared) = _
    rw [e2]
  · subst q
    rw [hC] at e; cases e
end
end Mine
end
section
open PySem PySem.W PyProof.Rows PySem.Calls PySem.Flt PySem.SeqAt
set_option maxRecDepth 100000
namespace Mine
section
variable {prog : Program} {w : World} {tab : Tab} {glob : Str → Option V} {A : Around} {env : Env} {N : Names} {μ0 Y : Addr → Prop} {g0 g g' : GS} {oa : Option Addr} {σ : Sto} {ω : Own} {n : Nat}

noncomputable def forStep (tab : Tab) (glob : Str → Option V) (n : Nat) (N : Names) (x : Str) (px : Pos) (body : List Stmt) (σ' : Sto) (ω' : Own) (d : V) : Option Res :=
  match bindT N σ' (.Name x px) d with
  | some σ'' => mexecs tab glob n N σ'' (dropOwn x ω') body
  | Option.none => Option.none

theorem st_For (I : IH prog w tab glob n) (J : IS prog w tab glob n) {x : Str} {px p : Pos} {iter : Expr} {body orelse : List Stmt} {xs : List V} {rr r : Res} (ok : Ok A n) (S : FS tab glob env N μ0 g0 Y oa σ ω g)
    (hxs : msrc tab glob n N (frozenFor iter σ ω).1 (frozenFor iter σ ω).2 iter = some xs) (h : loopM (forStep tab glob n N x px body) (frozenFor iter σ ω).1 (frozenFor iter σ ω).2 xs = some rr)
    (hr : r = rr) (ho : (∃ σ' ω', rr = .next σ' ω') → orelse = [])
    (E : Value → Shared → Prop) (Q : Flow → Shared → Prop) (hQ : ∀ f s, Post tab glob env N μ0 g0 Y oa g r f s → Q f s) : wpAny (model prog w) A (exec (.For (.Name x px) iter body orelse p) env) Q E g.s := by
  subst hr
  have S1 := S.frozenFor iter
  have sub1 : ∀ b, oaf iter ω oa = some b → oa = some b := fun b h => oaf_sub b h
  generalize oaf iter ω oa = oa1 at *
  generalize (frozenFor iter σ ω).1 = σ1 at *
  generalize (frozenFor iter σ ω).2 = ω1 at *
  refine wpAny_For (I.src ok S1.view hxs E _ fun it gs k0 Sr => ?_) (not_set_of_src hxs)
  obtain ⟨Ia, wr, rd, St, rfl, K, st0, hwr, hrd, hlen⟩ := Sr
  have S2 := S1.widen (X := wr) k0 (fun b hb => (hwr b hb).1) fun b hb => (hwr b hb).2
  refine codeAny_forLoop_any (fun k s => ∃ (g' : GS) (i : Nat) (oa' : Option Addr) (σ' : Sto) (ω' : Own), s = g'.s ∧ FS tab glob env N μ0 g0 (fun b => Y b ∨ wr b) oa' σ' ω' g' ∧ GS.But (fun b => (Mut env N b ∨ oa1 = some b) ∨ wr b) gs g' ∧
      (∀ b, oa' = some b → oa1 = some b ∨ gs.h.get? b = none) ∧ St i g'.h ∧ i ≤ xs.length ∧ k = xs.length + 1 - i ∧ loopM (forStep tab glob n N x px body) σ' ω' (xs.drop i) = some r) ?_ (xs.length + 1)
    ⟨gs, 0, oa1, σ1, ω1, rfl, S2, .refl _ _, fun b h => .inl h, st0, Nat.zero_le _, rfl, h⟩
  rintro k s ⟨g', i, oa', σ', ω', rfl, S3, bt, hnew, st, hi, rfl, hl⟩
  by_cases hlt : i < xs.length
  · have hd : xs[i]? = some xs[i] := by simp [hlt]
    rw [List.drop_eq_getElem_cons hlt, loopM] at hl
    generalize xs[i] = d at hd hl
    refine K.item i d g'.s _ _ hd st g'.pos fun v h1 tk1 hrep st1 keep1 ht1 => ?_
    have bA : GS.But wr g' (g'.chg h1 tk1 ht1) := GS.chg_but ht1 keep1
    have stA : St (i + 1) (g'.chg h1 tk1 ht1).h := st1
    have et : tk1 = (g'.chg h1 tk1 ht1).s.toks := rfl
    show wpAny _ _ _ _ _ (g'.chg h1 tk1 ht1).s
    generalize g'.chg h1 tk1 ht1 = gA at *
    have SA := S3.but bA (fun b hb => .inr hb) fun b hb => K.live _ _ stA b hb
    have btA := bt.trans (bA.wider (Y := fun b => (Mut env N b ∨ oa1 = some b) ∨ wr b) fun b hb => .inr hb)
    refine K.lot (i + 1) _ v gA.s _ _ stA ?_
    have rv : Rep (res (muF μ0 (fun b => Y b ∨ wr b) env N oa') gA) d v := by
      refine hrep _ ⟨fun b o z => ⟨fun q => ?_, btA.keep b o (fun q => ?_) z.2⟩, btA.F, btA.t⟩ (Nat.le_of_eq et)
      · rcases q with q | (q | q) | q | q
        · exact z.1 (.inl (.inl q))
        · exact z.1 (.inl (.inr (.inl q)))
        · exact z.1 (.inr q)
        · exact z.1 (.inl (.inr (.inr (.inl q))))
        · rcases hnew b q with q | q
          · exact z.1 (.inl (.inr (.inr (.inr q))))
          · have := z.2; rw [q] at this; cases this
      · rcases q with (q | q) | q
        · exact z.1 (.inl (.inr (.inr (.inl q))))
        · exact z.1 (.inl (.inr (.inr (.inr q))))
        · exact z.1 (.inr q)
    cases hb : forStep tab glob n N x px body σ' ω' d with
    | none => rw [hb] at hl; cases hl
    | some res1 =>
      rw [hb] at hl
      unfold forStep at hb
      by_cases hx : isVar N x = true
      · rw [show bindT N σ' (.Name x px) d = some (sput x (some d) σ') from if_pos hx] at hb
        refine wpAny_assign_Name (SA.store hx rv fun gB SB stB => ?_)
        refine J.exs ok SB hb _ _ fun f s hp => ?_
        cases res1 with
        | ret dd =>
          cases hl
          obtain ⟨u, g2, rfl, rfl, q1, q2⟩ := hp
          exact hQ _ _ ⟨u, g2, rfl, rfl, q1, q2⟩
        | next σ2 ω2 =>
          obtain ⟨rfl, gC, oaC, rfl, SC, stC⟩ := hp
          have sAC := stB.trans stC (mutLive SB.F)
          refine ⟨xs.length + 1 - (i + 1), by omega, gC, i + 1, oaC, σ2, ω2, rfl, SC, ?_, fun b q => ?_, ?_, hlt, rfl, hl⟩
          · obtain ⟨h3, t3, e3⟩ := btA.same
            obtain ⟨h4, t4, e4⟩ := sAC.but.same
            refine ⟨⟨h4, t4, by rw [e4, e3]⟩, fun b o hb e => sAC.but.keep b o (fun q => ?_) (btA.keep b o hb e), Nat.le_trans btA.t sAC.but.t, fun t a f => sAC.but.F t a (btA.F t a f)⟩
            rcases q with q | q
            · exact hb (.inl (.inl q))
            · rcases hnew b q with q | q
              · exact hb (.inl (.inr q))
              · rw [q] at e; cases e
          · rcases sAC.new b q with q | q
            · exact hnew b q
            · cases e : gs.h.get? b with
              | none => exact .inr rfl
              | some o =>
                by_cases hn : (Mut env N b ∨ oa1 = some b) ∨ wr b
                · rcases hn with (hn | hn) | hn
                  · obtain ⟨o', e'⟩ := mutLive SA.F b hn; rw [q] at e'; cases e'
                  · exact .inl hn
                  · obtain ⟨o', e'⟩ := K.live _ _ stA b hn; rw [q] at e'; cases e'
                · have := btA.keep b o hn e; rw [q] at this; cases this
          · refine K.frame _ _ _ stA fun b hb o e => sAC.but.keep b o (fun q => ?_) e
            rcases hb with hb | hb
            · exact SA.dis b q (.inr hb)
            · obtain ⟨hm, o', e'⟩ := hrd b hb
              rcases q with q | q
              · exact hm (.inr (.inr (.inl q)))
              · rcases hnew b q with q | q
                · exact hm (.inr (.inr (.inr q)))
                · rw [q] at e'; cases e'
      · rw [show bindT N σ' (.Name x px) d = none from if_neg hx] at hb; exact no hb
  · have hie : i = xs.length := by omega
    subst hie
    rw [List.drop_length, loopM] at hl
    cases hl
    refine K.done g'.s _ _ st fun h1 tk1 keep1 ht1 => ?_
    have bA : GS.But wr g' (g'.chg h1 tk1 ht1) := GS.chg_but ht1 keep1
    show wpAny _ _ _ _ _ (g'.chg h1 tk1 ht1).s
    generalize g'.chg h1 tk1 ht1 = gA at *
    rw [ho ⟨_, _, rfl⟩]
    have SA := S3.butDrop (fun b hb q => by
      obtain ⟨o, e⟩ := S1.live b (.inl hb)
      rw [(hwr b q).1] at e; cases e) bA
    have btA := bt.trans (bA.wider (Y := fun b => (Mut env N b ∨ oa1 = some b) ∨ wr b) fun b hb => .inr hb)
    refine wpAny_execs_nil (hQ _ _ ⟨rfl, gA, oa', rfl, SA, ?_, fun b q => ?_⟩)
    · obtain ⟨h3, t3, e3, _⟩ := k0.k
      obtain ⟨h4, t4, e4⟩ := btA.same
      refine ⟨⟨h4, t4, by rw [e4, e3]⟩, fun b o hb e => btA.keep b o (fun q => ?_) (k0.up b o e), Nat.le_trans k0.t btA.t, fun t a f => btA.F t a (k0.F t a f)⟩
      rcases q with (q | q) | q
      · exact hb (.inl q)
      · exact hb (.inr (sub1 b q))
      · have := (hwr b q).1; rw [e] at this; cases this
    · rcases hnew b q with q | q
      · exact .inl (sub1 b q)
      · refine .inr ?_
        cases e : g.h.get? b with
        | none => rfl
        | some o => have := k0.up b o e; rw [q] at this; cases this


theorem swap_names {x y : Str} {px py tp p2 bp cp : Pos} {k k2 ck : Nat} {c : Const} {bf : Expr} {bas : List Expr} {bks : List Keyword} (hk : env.scope.kind = .function) (hx : env.kindOf x = some .local) (hy : env.kindOf y = some .local) (hne : x ≠ y) (h1 : px.line = py.line) :
    swappedStores [.Tuple [.Name x px, .Name y py] k tp] (.Tuple [.Constant c ck cp, .Call bf bas bks bp] k2 p2) env = pure (some [x, y]) := by
  have e1 : env.blockKind = .function := by unfold Env.blockKind; rw [hk]; rfl
  have e5 : ([x, y] : List Str).eraseDups.length = 2 := by
    rw [List.eraseDups_cons]
    have : (y == x) = false := by simpa using Ne.symm hne
    simp [this, List.eraseDups_cons]
  delta swappedStores
  refine (if_neg (ne_true_of_eq_false (by rw [e1]; rfl))).trans ?_
  refine (if_neg (ne_true_of_eq_false rfl)).trans ?_
  let f : Expr → Option Str := fun e => match e with
    | .Name id pos => if (env.kindOf id == some .local && pos.line == px.line) = true then some id else none
    | _ => none
  have f1 : f (.Name x px) = some x := show (if (env.kindOf x == some .local && px.line == px.line) = true then some x else none) = some x from if_pos (Bool.and_eq_true_iff.mpr ⟨beq_iff_eq.mpr hx, beq_iff_eq.mpr rfl⟩)
  have f2 : f (.Name y py) = some y := show (if (env.kindOf y == some .local && py.line == px.line) = true then some y else none) = some y from if_pos (Bool.and_eq_true_iff.mpr ⟨beq_iff_eq.mpr hy, beq_iff_eq.mpr h1.symm⟩)
  have en : List.filterMap f [.Name x px, .Name y py] = [x, y] := (List.filterMap_cons_some f1).trans (congrArg (x :: ·) (List.filterMap_cons_some f2))
  refine (if_neg (ne_true_of_eq_false ((congrArg (fun names : List Str => (names.length != 2 || names.eraseDups.length != names.length)) en).trans (by rw [e5]; rfl)))).trans ?_
  refine (if_neg fun q => Bool.noConfusion (show false = true from List.all_eq_true.mp q (.Call bf bas bks bp) (List.mem_cons_of_mem _ List.mem_cons_self))).trans ?_
  refine (if_neg fun q => Bool.noConfusion (show false = true from List.all_eq_true.mp q (.Call bf bas bks bp) (List.mem_cons_of_mem _ List.mem_cons_self))).trans ?_
  exact congrArg (fun names : List Str => (pure (some names) : Sem (Option (List Str)))) en

theorem Step.res {oa' : Option Addr} (st : Step env N oa g oa' g') : (res (muF μ0 Y env N oa) g).Le (res (muF μ0 Y env N oa') g') := by
  refine ⟨fun b o z => ⟨fun q => ?_, st.but.keep b o (fun q => z.1 (q.elim (fun q => .inr (.inr (.inl q))) fun q => .inr (.inr (.inr q)))) z.2⟩, st.but.F, st.but.t⟩
  rcases q with q | q | q | q
  · exact z.1 (.inl q)
  · exact z.1 (.inr (.inl q))
  · exact z.1 (.inr (.inr (.inl q)))
  · rcases st.new b q with q | q
    · exact z.1 (.inr (.inr (.inr q)))
    · have := z.2; rw [q] at this; cases this
theorem swap_tail {x y : Str} {d e : V} {va vb : Value} (S : FS tab glob env N μ0 g0 Y oa σ ω g) (vx : isVar N x = true) (vy : isVar N y = true) (ra : Rep (res (muF μ0 Y env N oa) g) d va) (rb : Rep (res (muF μ0 Y env N oa) g) e vb)
    {E : Value → Shared → Prop} {Q : Unit → Shared → Prop} (hQ : ∀ g' oa', FS tab glob env N μ0 g0 Y oa' (sput x (some d) (sput y (some e) σ)) (dropOwn x (dropOwn y ω)) g' → Step env N oa g oa' g' → Q () g'.s) :
    wpAny (model prog w) A (assignInOrder [bindName env y, bindName env x] [vb, va]) Q E g.s := by
  show wpAny _ _ (holding [va] (bindName env y vb) >>= fun _ => assignInOrder [bindName env x] [va]) _ _ g.s
  refine wpAny_bind (wpAny_holding (bindName_ (S.store vy rb fun g5 S5 st5 => ?_)))
  show wpAny _ _ (holding [] (bindName env x va) >>= fun _ => assignInOrder [] []) _ _ g5.s
  refine wpAny_bind (wpAny_holding (bindName_ (S5.store vx (Rep.mono st5.res _ _ ra) fun g6 S6 st6 => wpAny_pure (hQ g6 _ S6 (st5.trans st6 (mutLive S5.F))))))
theorem swap_mid {x y : Str} {d e : V} {va vb : Value} (hh : A.handled = none) (S : FS tab glob env N μ0 g0 Y oa σ ω g) (vx : isVar N x = true) (vy : isVar N y = true) (ra : Rep (res (muF μ0 Y env N oa) g) d va) (rb : Rep (res (muF μ0 Y env N oa) g) e vb)
    {E : Value → Shared → Prop} {Q : Flow → Shared → Prop} (hQ : ∀ g' oa', FS tab glob env N μ0 g0 Y oa' (sput x (some d) (sput y (some e) σ)) (dropOwn x (dropOwn y ω)) g' → Step env N oa g oa' g' → Q .next g'.s) :
    wpAny (model prog w) A (newTuple [va, vb]) (fun v s => wpAny (model prog w) A (unpackItems v 2 none) (fun items s₂ => wpAny (model prog w) A (assignInOrder [bindName env y, bindName env x] items.reverse) (fun _ => Q .next) E s₂) E s) E g.s := by
  refine wpAny_newTuple ?_ (Nat.le_trans (show 2 ≤ 4096 by decide) (by decide))
  have hT : (g.push { cls := .type "tuple", data := .seq (List.toArray [va, vb]) }).h.IsTuple g.h.objs.size (List.toArray [va, vb]) := ⟨_, Heap.get?_push_size _ rfl, rfl, 0, rfl⟩
  have k3 := g.push_le { cls := .type "tuple", data := .seq (List.toArray [va, vb]) }
  refine wpAny_unpackItems_tuple (items := List.toArray [va, vb]) (t := g.h.objs.size) hh hT fun h' hE => ?_
  have k4 : (g.push { cls := .type "tuple", data := .seq (List.toArray [va, vb]) }).Le ((g.push { cls := .type "tuple", data := .seq (List.toArray [va, vb]) }).chg h' g.s.toks (Nat.le_refl _)) := ⟨⟨h', _, rfl, fun b o e => hE b o (Nat.ne_of_lt (Heap.lt_size e)) e⟩, Nat.le_refl _, fun _ _ f => f⟩
  have k5 := k3.trans k4
  exact swap_tail (S.up k5) vx vy (ra.up k5) (rb.up k5) fun g' oa' S' st => hQ g' oa' S' ((Step.of_le (N := N) (env := env) (oa := oa) k5 fun b h => h).trans st (mutLive (S.up k5).F))

theorem st_Swap (I : IH prog w tab glob n) {x y : Str} {px py tp p p2 bp cp : Pos} {k k2 ck : Nat} {c : Const} {bf : Expr} {bas : List Expr} {bks : List Keyword} {d e : V} (ok : Ok A n) (S : FS tab glob env N μ0 g0 Y oa σ ω g) (hx : N.lookup x = some .local) (hy : N.lookup y = some .local) (hne : x ≠ y)
    (hl : px.line = py.line) (ha : meval tab glob n N σ ω (.Constant c ck cp) = some d) (hb : meval tab glob n N σ ω (.Call bf bas bks bp) = some e)
    (E : Value → Shared → Prop) (Q : Flow → Shared → Prop) (hQ : ∀ f s, Post tab glob env N μ0 g0 Y oa g (.next (sput x (some d) (sput y (some e) σ)) (dropOwn x (dropOwn y ω))) f s → Q f s) :
    wpAny (model prog w) A (exec (.Assign [.Tuple [.Name x px, .Name y py] k tp] (.Tuple [.Constant c ck cp, .Call bf bas bks bp] k2 p2) p) env) Q E g.s := by
  have vx : isVar N x = true := by simp [isVar, hx]
  have vy : isVar N y = true := by simp [isVar, hy]
  have hw := swap_names (env := env) (tp := tp) (p2 := p2) (bp := bp) (cp := cp) (k := k) (k2 := k2) (ck := ck) (c := c) (bf := bf) (bas := bas) (bks := bks) S.E.kind ((S.E.kindOf x).trans hx) ((S.E.kindOf y).trans hy) hne hl
  refine Assign_Tuple_swapped (names := [x, y]) (Tuple_ ?_) rfl hw
  refine args_cons (I.ev ok S.view ha E _ fun va g1 k1 r1 => ?_) rfl
  refine args_cons (I.ev ok (S.view.up k1) hb E _ fun vb g2 k2 r2 => ?_) rfl
  refine args_nil ?_
  have k3 := k1.trans k2
  exact swap_mid ok.hand (S.up k3) vx vy (r1.up k2) r2 fun g' oa' S' st => hQ _ _ ⟨rfl, g', oa', rfl, S', (Step.of_le (N := N) (env := env) (oa := oa) k3 fun b h => h).trans st (mutLive (S.up k3).F)⟩
end
end Mine
end
section
open PySem PySem.W PyProof.Rows PySem.Calls PySem.Flt PySem.SeqAt
set_option maxRecDepth 100000
namespace Mine
section
variable {prog : Program} {w : World} {tab : Tab} {glob : Str → Option V} {A : Around} {env : Env} {N : Names} {μ0 Y : Addr → Prop} {g0 g g' : GS} {oa : Option Addr} {σ : Sto} {ω : Own} {n : Nat}

theorem names_none (h : ω = none) (e : Expr) : (frozenFor e σ ω) = (σ, ω) := by subst h; rfl

theorem st_Assign (I : ∀ m, m ≤ n → IH prog w tab glob m) {x : Str} {px p : Pos} {e : Expr} {d : V} (ok : Ok A n) (S : FS tab glob env N μ0 g0 Y oa σ ω g) (hx : isVar N x = true)
    (h : meval tab glob n N (frozenFor e σ ω).1 (frozenFor e σ ω).2 e = some d)
    (E : Value → Shared → Prop) (Q : Flow → Shared → Prop) (hQ : ∀ f s, Post tab glob env N μ0 g0 Y oa g (.next (sput x (some d) (frozenFor e σ ω).1) (dropOwn x (frozenFor e σ ω).2)) f s → Q f s) :
    wpAny (model prog w) A (exec (.Assign [.Name x px] e p) env) Q E g.s := by
  have In := I n (Nat.le_refl _)
  cases e with
  | ListComp elt gens scope pos =>
    cases hsw : (env.blockKind == .function && env.kindOf x == some .local && px.line == pos.line && !(scope.names.any fun (m, k) => m == x && (k == .local || k == .cell))) with
    | false =>
      refine st_AssignPlain In ok S hx h ?_ E Q hQ
      show (pure _ : Sem Bool) = _
      congr 1
    | true =>
      have hs : swapsWith (.ListComp elt gens scope pos) (some (.Name x px)) p.line env = pure true := by
        show (pure _ : Sem Bool) = _
        congr 1
      have S1 := S.frozenFor (.ListComp elt gens scope pos)
      cases n with
      | zero => exact no h
      | succ n =>
        obtain ⟨target, iter, ifs, xs, ys, rfl, h1, h2, h3, h4, h5, rfl⟩ := comp_inv h
        refine st_AssignComp (I n (Nat.le_succ n)) ok.pred S1 hx h1 h2 h3 h4 h5 hs E Q fun f s hp => hQ f s (hp.before (Step.of_le (.refl g) fun b h => oaf_sub b h) S1.F)
  | SetComp _ _ _ _ => cases n <;> exact no h
  | DictComp _ _ _ _ _ => cases n <;> exact no h
  | _ => exact st_AssignPlain In ok S hx h rfl E Q hQ

theorem ex_Asg (I : ∀ m, m ≤ n → IH prog w tab glob m) {ts : List Expr} {v : Expr} {p : Pos} {r : Res} (ok : Ok A (n + 1)) (S : FS tab glob env N μ0 g0 Y oa σ ω g) (h : mexec tab glob (n + 1) N σ ω (.Assign ts v p) = some r)
    (E : Value → Shared → Prop) (Q : Flow → Shared → Prop) (hQ : ∀ f s, Post tab glob env N μ0 g0 Y oa g r f s → Q f s) : wpAny (model prog w) A (exec (.Assign ts v p) env) Q E g.s := by
  have ok' := ok.pred
  have In := I n (Nat.le_refl _)
  refine asg_shape h (fun x px es q e1 e2 => ?_) (fun x px e1 h2 => ?_) (fun x px y py tk tp c ck cp bf bas bks bp ek ep e1 e2 => ?_)
  · subst e1 e2
    rw [mx_AssignList] at h
    obtain ⟨hx, h⟩ := ite_some h
    cases hds : meach tab glob n N (freeze σ ω) none es with
    | none => rw [hds] at h; exact no h
    | some ds =>
      rw [hds] at h
      obtain ⟨hl, h⟩ := ite_some h
      cases h
      exact st_AssignList In ok' S hx hds hl E Q hQ
  · subst e1
    obtain ⟨hx, h2⟩ := ite_some h2
    cases hd : meval tab glob n N (frozenFor v σ ω).1 (frozenFor v σ ω).2 v with
    | none => rw [hd] at h2; exact no h2
    | some d =>
      rw [hd] at h2
      cases h2
      exact st_Assign I ok' S hx hd E Q hQ
  · subst e1 e2
    rw [mx_Swap] at h
    obtain ⟨hc, h⟩ := ite_some h
    simp only [Bool.and_eq_true, beq_iff_eq, bne_iff_ne, ne_eq] at hc
    cases hd : meval tab glob n N σ ω (.Constant c ck cp) with
    | none => rw [hd] at h; exact no h
    | some d =>
      rw [hd] at h
      have h : (match meval tab glob n N σ ω (.Call bf bas bks bp) with
        | some e => some (Res.next (sput x (some d) (sput y (some e) σ)) (dropOwn x (dropOwn y ω)))
        | none => none) = some r := h
      cases he : meval tab glob n N σ ω (.Call bf bas bks bp) with
      | none => rw [he] at h; exact no h
      | some e =>
        rw [he] at h
        cases h
        exact st_Swap In ok' S hc.2.2.1 hc.2.2.2 hc.2.1 hc.1 hd he E Q hQ
theorem ex_App (I : ∀ m, m ≤ n → IH prog w tab glob m) {e : Expr} {p : Pos} {r : Res} (ok : Ok A (n + 1)) (S : FS tab glob env N μ0 g0 Y oa σ ω g) (h : mexec tab glob (n + 1) N σ ω (.Expr e p) = some r)
    (E : Value → Shared → Prop) (Q : Flow → Shared → Prop) (hQ : ∀ f s, Post tab glob env N μ0 g0 Y oa g r f s → Q f s) : wpAny (model prog w) A (exec (.Expr e p) env) Q E g.s := by
  refine app_shape h fun x px m ap e cp e1 => ?_
  subst e1
  rw [mx_Append] at h
  obtain ⟨hc, h⟩ := ite_some h
  simp only [Bool.and_eq_true] at hc
  cases ω with
  | none => exact no h
  | some yx =>
    obtain ⟨y, xs⟩ := yx
    obtain ⟨hy, h⟩ := ite_some h
    cases hd : meval tab glob n N σ (some (y, xs)) e with
    | none => rw [hd] at h; exact no h
    | some d =>
      rw [hd] at h
      obtain ⟨hl, h⟩ := ite_some h
      cases h
      have hy := eq_of_beq hy
      subst hy
      rw [eq_of_beq hc.1]
      exact st_Append (I n (Nat.le_refl _)) ok.pred S hc.2.1 hc.2.2 hd hl E Q hQ

theorem exec_succ (I : ∀ m, m ≤ n → IH prog w tab glob m) (J : IS prog w tab glob n) {st : Stmt} {r : Res} (ok : Ok A (n + 1)) (S : FS tab glob env N μ0 g0 Y oa σ ω g) (h : mexec tab glob (n + 1) N σ ω st = some r)
    (E : Value → Shared → Prop) (Q : Flow → Shared → Prop) (hQ : ∀ f s, Post tab glob env N μ0 g0 Y oa g r f s → Q f s) : wpAny (model prog w) A (exec st env) Q E g.s := by
  have ok' := ok.pred
  have In := I n (Nat.le_refl _)
  cases st with
  | Return o p =>
    cases o with
    | none => exact no h
    | some e =>
      rw [mx_Return] at h
      cases hd : meval tab glob n N (freeze σ ω) none e with
      | none => rw [hd] at h; exact no h
      | some d =>
        rw [hd] at h
        cases h
        exact st_Return In ok' S hd E Q hQ
  | Assign ts v p => exact ex_Asg I ok S h E Q hQ
  | AugAssign t op e p =>
    refine aug_shape h fun x px e1 => ?_
    subst e1
    rw [mx_Aug] at h
    obtain ⟨hx, h⟩ := ite_some h
    cases ha : sget σ x with
    | none => rw [ha] at h; exact no h
    | some a =>
      rw [ha] at h
      cases a <;> first | exact no h | skip
      rename_i a
      have h : (match meval tab glob n N σ ω e with
        | some (.int b) => (match (if op == .Add || op == .Sub then binV op (.int a) (.int b) else Option.none) with
          | some d => some (Res.next (sput x (some d) σ) (dropOwn x ω))
          | none => none)
        | _ => none) = some r := h
      cases hb : meval tab glob n N σ ω e with
      | none => rw [hb] at h; exact no h
      | some b =>
        rw [hb] at h
        cases b <;> first | exact no h | skip
        rename_i b
        have h : (match (if op == .Add || op == .Sub then binV op (.int a) (.int b) else Option.none) with
          | some d => some (Res.next (sput x (some d) σ) (dropOwn x ω))
          | none => none) = some r := h
        cases hd : (if op == .Add || op == .Sub then binV op (.int a) (.int b) else Option.none) with
        | none => rw [hd] at h; exact no h
        | some d =>
          rw [hd] at h
          cases h
          obtain ⟨hop, hd⟩ := ite_some hd
          exact st_Aug In ok' S hx ha hb (by simpa using hop) hd E Q hQ
  | Expr e p => exact ex_App I ok S h E Q hQ
  | If t b o p =>
    rw [mx_If] at h
    cases ht : mtest tab glob n N (frozenFor t σ ω).1 (frozenFor t σ ω).2 t with
    | none => rw [ht] at h; exact no h
    | some c =>
      rw [ht] at h
      cases c with
      | true => exact st_If In J (c := true) ok' S ht h E Q hQ
      | false => exact st_If In J (c := false) ok' S ht h E Q hQ
  | Assert t m p =>
    rw [mx_Assert] at h
    cases ht : mtest tab glob n N (frozenFor t σ ω).1 (frozenFor t σ ω).2 t with
    | none => rw [ht] at h; exact no h
    | some c =>
      rw [ht] at h
      cases c with
      | false => exact no h
      | true =>
        cases h
        exact st_Assert In ok' S ht E Q hQ
  | For t iter body orelse p =>
    refine for_shape h fun x px e1 => ?_
    subst e1
    rw [mx_For] at h
    cases hxs : msrc tab glob n N (frozenFor iter σ ω).1 (frozenFor iter σ ω).2 iter with
    | none => rw [hxs] at h; exact no h
    | some xs =>
      rw [hxs] at h
      have h : (match loopM (fun σ' ω' d => match bindT N σ' (.Name x px) d with
          | some σ'' => mexecs tab glob n N σ'' (dropOwn x ω') body
          | none => none) (frozenFor iter σ ω).1 (frozenFor iter σ ω).2 xs with
        | some (.ret d) => some (Res.ret d)
        | some (.next σ' ω') => if orelse.isEmpty then some (.next σ' ω') else none
        | none => none) = some r := h
      cases hd : loopM (fun σ' ω' d => match bindT N σ' (.Name x px) d with
          | some σ'' => mexecs tab glob n N σ'' (dropOwn x ω') body
          | none => none) (frozenFor iter σ ω).1 (frozenFor iter σ ω).2 xs with
      | none => rw [hd] at h; exact no h
      | some r' =>
        rw [hd] at h
        cases r' with
        | ret d =>
          cases h
          exact st_For In J ok' S hxs hd rfl (fun ⟨_, _, e⟩ => by cases e) E Q hQ
        | next σ' ω' =>
          obtain ⟨ho, h⟩ := ite_some h
          cases h
          exact st_For In J ok' S hxs hd rfl (fun _ => by simpa using ho) E Q hQ
  | _ => exact no h
end
end Mine
end
section
open PySem PySem.W PyProof.Rows PySem.Calls PySem.Flt PySem.SeqAt
set_option maxRecDepth 100000
namespace Mine
noncomputable def ZV (kindOf : Str → Option NameKind) (Z : PH) (m cm : Str → Option Value) (σ : Sto) : Prop :=
  ∀ x d, sget σ x = some d → ∃ v, ((kindOf x = some .local ∧ m x = some v) ∨ (kindOf x = some .cell ∧ cm x = some v)) ∧ Rep Z d v
theorem zip_sound {kindOf : Str → Option NameKind} {Z : PH} : ∀ {xs : List Str} {ds : List V} {vs : List Value} {σ σ' : Sto} {m cm : Str → Option Value}, zipS xs ds σ = some σ' → RepL Z ds vs → (∀ x ∈ xs, kindOf x = some .local ∨ kindOf x = some .cell) →
    ZV kindOf Z m cm σ → ZV kindOf Z (bindL kindOf (xs.zip vs) m) (bindC kindOf (xs.zip vs) cm) σ'
  | [], [], _, σ, σ', m, cm, h, r, _, z => by
    cases h; rw [r]; exact z
  | x :: xs, d :: ds, _, σ, σ', m, cm, h, r, hk, z => by
    obtain ⟨v, vs, rfl, r1, r2⟩ := r
    show ZV kindOf Z (bindL kindOf ((x, v) :: xs.zip vs) m) (bindC kindOf ((x, v) :: xs.zip vs) cm) σ'
    unfold bindL bindC
    refine zip_sound (xs := xs) (σ := sput x (some d) σ) h r2 (fun y hy => hk y (List.mem_cons_of_mem _ hy)) fun y e he => ?_
    rw [sget_sput] at he
    by_cases hyx : y = x
    · subst hyx
      rw [if_pos rfl] at he; cases he
      rcases hk y List.mem_cons_self with hl | hc
      · exact ⟨v, .inl ⟨hl, by rw [if_pos hl]; simp⟩, r1⟩
      · exact ⟨v, .inr ⟨hc, by rw [if_neg (by rw [hc]; decide)]; simp⟩, r1⟩
    · rw [if_neg hyx] at he
      obtain ⟨u, h1, h2⟩ := z y e he
      refine ⟨u, h1.imp (fun ⟨a, b⟩ => ⟨a, ?_⟩) (fun ⟨a, b⟩ => ⟨a, ?_⟩), h2⟩
      · split
        · simp [hyx, b]
        · exact b
      · split
        · exact b
        · simp [hyx, b]
  | [], _ :: _, _, _, _, _, _, h, _, _, _ => by cases h
  | _ :: _, [], _, _, _, _, _, h, _, _, _ => by cases h
theorem zip_len : ∀ {xs : List Str} {ds : List V} {σ σ' : Sto}, zipS xs ds σ = some σ' → ds.length = xs.length
  | [], [], _, _, _ => rfl
  | _ :: xs, _ :: ds, _, _, h => congrArg (· + 1) (zip_len (xs := xs) h)
  | [], _ :: _, _, _, h => by cases h
  | _ :: _, [], _, _, h => by cases h
theorem sget_none (x : Str) : ∀ (N : Names), sget (N.map fun p => (p.1, (none : Option V))) x = none
  | [] => rfl
  | (y, k) :: r => by
    show sget ((y, none) :: _) x = none
    unfold sget
    rw [List.lookup_cons]
    cases h : x == y with
    | true => rfl
    | false => exact sget_none x r

section
variable {prog : Program} {w : World} {tab : Tab} {glob : Str → Option V} {A : Around} {μ : Addr → Prop} {g : GS} {n : Nat}

theorem call_enter {fn : Fn} {f : Addr} {ds : List V} {vs : List Value} {σ : Sto} (hroom : A.depth < recursionLimit) (G : Glob tab glob g.h) (lt : ∀ b, μ b → ∃ o, g.h.get? b = some o) (hf : FnIs g.h fn f) (r : RepL (res μ g) ds vs)
    (hz : zipS fn.params ds (fn.names.map fun p => (p.1, none)) = some σ) {E : Value → Shared → Prop} {Q : Value → Shared → Prop}
    (h : ∀ env g1 (E' : Value → Shared → Prop), FS tab glob env fn.names μ g (fun _ => False) none σ none g1 → wpAny (model prog w) (A.deeper env) (execs fn.body env) (fun f s' => Q (match f with | .ret v => v | _ => .none) s') E' g1.s) :
    wpAny (model prog w) A (call (.ref f) vs) Q E g.s := by
  obtain ⟨o, name, qual, ps, sc, dV, kV, doc, pm, an, cdv, ct, ho, hdata, hcd, hnames, hkind, hco, hgen, hfree, hpar, hbind⟩ := hf
  have hlen : vs.length = fn.params.length := by rw [r.length, zip_len hz]
  refine wpAny_call (codeAny_call_function hroom ho hdata hco hgen rfl hcd ?_)
  rw [hbind vs hlen]
  have hkind' : ∀ x ∈ fn.params.zip vs, sc.names.lookup x.1 = some .local ∨ (sc.names.lookup x.1 = some .cell ∧ ((cellsFrom (g.s.heap.objs.size + 1) sc.names []).lookup x.1).isSome = true) := fun x hx => by
    rcases hpar x.1 (List.of_mem_zip hx).1 with h1 | h1
    · exact .inl h1
    · obtain ⟨c, hc⟩ := cellsFrom_has sc.names (g.s.heap.objs.size + 1) [] x.1 (.inr (mem_of_lookup h1))
      obtain ⟨d, h2, _⟩ := lookup_of_mem hc
      exact .inr ⟨h1, by rw [h2]; rfl⟩
  refine wpAny_pure (wpAny_with_toks (Nat.le_refl _) (wpAny_newFunctionEnv_cells hkind hkind' fun env he s₁ x ht => ?_))
  have hloc : env.locals = g.s.heap.objs.size := by rw [he]; rfl
  have hcel : env.cells = cellsFrom (g.s.heap.objs.size + 1) sc.names [] := by rw [he]; rfl
  have hkof : ∀ x, env.kindOf x = fn.names.lookup x := fun x => by rw [he, hnames]; rfl
  have hsc : env.scope.kind = .function := by rw [he]; exact hkind
  have hgl : env.globals = mainGlobals := by rw [he]; rfl
  have hbu : env.builtins = builtinsNs := by rw [he]; rfl
  clear he
  refine ⟨G.lim.keeps x.toInCall.keep, codeAny_func ?_⟩
  let g1 : GS := g.at s₁ ht
  obtain ⟨h1, t1, e1⟩ := x.toInCall.same
  have k : g.Le g1 := g.at_le s₁ ht ⟨h1, t1, e1, fun b o e => by have := x.toInCall.keep b o e; rw [e1] at this; exact this⟩
  have hmut : ∀ b, Mut env fn.names b → g.h.get? b = none := fun b hb => by
    rcases hb with rfl | ⟨y, hy, hc⟩
    · rw [hloc]; exact get_size _
    · exact Heap.get?_none_of_le (Nat.le_trans x.toInCall.fresh (Nat.le_of_lt (x.above y b (mem_of_lookup hc))))
  have le : (res μ g).Le (res (muF μ (fun _ => False) env fn.names none) g1) := by
    refine ⟨fun b o z => ⟨fun q => ?_, k.up b o z.2⟩, k.F, k.t⟩
    rcases q with q | q | q | q
    · exact z.1 q
    · exact q
    · have := hmut b q; rw [z.2] at this; cases this
    · cases q
  have zv := zip_sound (kindOf := env.kindOf) (m := fun _ => none) (cm := fun _ => none) hz (RepL.mono le _ _ r) (fun x hx => by rw [hkof, hnames]; exact hpar x hx) fun x d e => by rw [sget_none] at e; cases e
  refine h env g1 _ ?_
  exact {
    E := ⟨hsc, hgl, hbu, hkof, fun x => by rw [hnames]; exact hfree x⟩
    le := k
    lt0 := lt
    G := G
    F := ⟨hsc, fun x hx => (hkof x).trans hx, fun x hx => (hkof x).trans hx, ⟨_, x.toInCall.ns⟩, fun y hy => by
        obtain ⟨c, hc⟩ := cellsFrom_has sc.names (g.s.heap.objs.size + 1) [] y (.inr (mem_of_lookup (hnames ▸ hy)))
        obtain ⟨d, h2, _⟩ := lookup_of_mem hc
        rw [← hcel] at h2
        exact ⟨d, _, h2, x.cell y d h2⟩, fun y z c _ hy hz => name_of_addr x.apart (mem_of_lookup hy) (mem_of_lookup hz)⟩
    fresh := fun b hb => hb.elim (fun q => q.elim) fun q => q.elim (hmut b) fun q => by cases q
    live := fun b hb => hb.elim (fun q => q.elim) fun q => by cases q
    dis := fun b _ q => q
    oam := fun b hb => by cases hb
    var := fun y d e => by
      obtain ⟨v, hv, rv⟩ := zv y d e
      refine ⟨v, ?_, rv⟩
      rcases hv with ⟨h1, h2⟩ | ⟨h1, h2⟩
      · exact .inl ⟨h1, _, x.toInCall.ns, h2⟩
      · have hy : sc.names.lookup y = some .cell := by rw [← hnames, ← hkof]; exact h1
        obtain ⟨c, hc⟩ := cellsFrom_has sc.names (g.s.heap.objs.size + 1) [] y (.inr (mem_of_lookup hy))
        obtain ⟨d', h3, _⟩ := lookup_of_mem hc
        rw [← hcel] at h3
        refine .inr ⟨.inl h1, d', h3, ?_⟩
        have := x.cell y d' h3
        rw [h2] at this; exact this
    own := fun x xs e => by cases e
    non := fun _ => rfl }

theorem call_succ (J : IS prog w tab glob n) {fn : Fn} {f : Addr} {ds : List V} {vs : List Value} {d : V} (ok : Ok A (n + 1)) (G : Glob tab glob g.h) (lt : ∀ b, μ b → ∃ o, g.h.get? b = some o) (hf : FnIs g.h fn f) (r : RepL (res μ g) ds vs)
    (h : mcall tab glob (n + 1) fn ds = some d) : Ev prog w A μ (call (.ref f) vs) d g := fun E Q hQ => by
  unfold mcall at h
  split at h
  · rename_i σ hz
    refine call_enter (by have := ok.room; omega) G lt hf r hz fun env g1 E' S => ?_
    have ok' : Ok (A.deeper env) n := ⟨ok.hand, by have := ok.room; show A.depth + 1 + n < _; omega, by have := ok.units; show A.units + 3 + 4 * n + 64 < _; omega⟩
    split at h
    · rename_i dd hd
      cases h
      refine J.exs ok' S hd E' _ fun f s hp => ?_
      obtain ⟨v, g2, rfl, rfl, k2, r2⟩ := hp
      exact hQ v g2 k2 r2
    · rename_i σ' ω' hd
      cases h
      refine J.exs ok' S hd E' _ fun f s hp => ?_
      obtain ⟨rfl, g2, oa', rfl, S2, _⟩ := hp
      exact hQ _ g2 S2.le rfl
    · cases h
  · cases h
end
end Mine
end
section
open PySem PySem.W PyProof.Rows PySem.Calls PySem.Flt PySem.SeqAt
set_option maxRecDepth 100000
namespace Mine
section
variable {prog : Program} {w : World} {A : Around} {E : Value → Shared → Prop} {s : Shared}

/-- a turn of enumerate, whose own iterator gives v and leaves the token count at tk -/
theorem enum_turn {e it : Addr} {i : Int} {old v : Value} {tk : Nat} {J : Heap → Prop} {Q : Value → Shared → Prop} (he : IsEnum s.heap e it i old) (hne : e ≠ it)
    (hJ : ∀ h h', J h → (∀ o, h.get? it = some o → h'.get? it = some o) → J h')
    (hn : ∀ (Q : Value → Shared → Prop), (∀ h₁, J h₁ → Heap.SameBut it s.heap h₁ → Q v { s with heap := h₁, toks := tk }) → wpAny (model prog w) A (Builtin.SmallTypes.nextOf (.ref it)) Q E s)
    (hQ : ∀ h', IsEnumOut h' e it (i + 1) v s.heap.objs.size → J h' → h'.get? s.heap.objs.size = some { cls := .type "tuple", data := .seq #[.int i tk, v] } →
      (∀ b o, b ≠ e → b ≠ it → s.heap.get? b = some o → h'.get? b = some o) → Q (.ref s.heap.objs.size) { s with heap := h', toks := tk + 1 }) :
    wpAny (model prog w) A (Builtin.«enumerate.__next__» ⟨[.ref e], []⟩) (fun fin s' => ∃ v, fin = .done (.ret v) ∧ Q v s') E s := by
  have elt : e < s.heap.objs.size := Heap.lt_size he
  show wpAny _ _ (field (.ref e) 2 >>= _) _ _ _
  refine wpAny_bind (wpAny_field he rfl (x := .ref it) rfl (wpAny_bind (hn _ fun h₁ j₁ k₁ => ?_)))
  have e₁ : IsEnum h₁ e it i old := (k₁.2 e hne).trans he
  have z₁ : h₁.objs.size = s.heap.objs.size := k₁.1
  show wpAny _ _ (field (.ref e) 3 >>= _) _ _ { s with heap := h₁, toks := tk }
  refine wpAny_bind (wpAny_field (s := { s with heap := h₁, toks := tk }) e₁ rfl (x := rawInt i) rfl ?_)
  show wpAny _ _ (field (.ref e) 4 >>= _) _ _ { s with heap := h₁, toks := tk }
  refine wpAny_bind (wpAny_field (s := { s with heap := h₁, toks := tk }) e₁ rfl (x := .none) rfl ?_)
  show wpAny _ _ (mkInt i >>= _) _ _ { s with heap := h₁, toks := tk }
  refine wpAny_bind (wpAny_mkInt ?_)
  show wpAny _ _ (setField (.ref e) 3 (rawInt (i + 1)) >>= _) _ _ { s with heap := h₁, toks := tk + 1 }
  refine wpAny_bind (wpAny_setField_rec (s := { s with heap := h₁, toks := tk + 1 }) e₁ (by simp) fun h₂ e₂ k₂ => ?_)
  replace k₂ : Heap.SameBut e h₁ h₂ := k₂
  replace e₂ : IsEnum h₂ e it (i + 1) old := e₂
  show wpAny _ _ (setField (.ref e) 4 .none >>= _) _ _ { s with heap := h₂, toks := tk + 1 }
  refine wpAny_bind (wpAny_setField_rec (s := { s with heap := h₂, toks := tk + 1 }) e₂ (by simp) fun h₃ e₃ k₃ => ?_)
  replace k₃ : Heap.SameBut e h₂ h₃ := k₃
  replace e₃ : IsEnum h₃ e it (i + 1) old := e₃
  show wpAny _ _ (newTuple [.int i tk, v] >>= _) _ _ { s with heap := h₃, toks := tk + 1 }
  have z₃ : h₃.objs.size = s.heap.objs.size := by rw [k₃.1, k₂.1, z₁]
  refine wpAny_bind (wpAny_newTuple ?_)
  show wpAny _ _ (Builtin.SmallTypes.ownedTupleIsFree (.ref e) >>= _) _ _ { s with heap := h₃.push { cls := .type "tuple", data := .seq #[.int i tk, v] }, toks := tk + 1 }
  have t₄ : (h₃.push { cls := .type "tuple", data := .seq #[.int i tk, v] }).get? s.heap.objs.size = some { cls := .type "tuple", data := .seq #[.int i tk, v] } := by rw [← z₃]; exact Heap.get?_push_size _ rfl
  have up₄ : ∀ b o, h₃.get? b = some o → (h₃.push { cls := .type "tuple", data := .seq #[.int i tk, v] }).get? b = some o := fun b o x => Heap.get?_push_of_some _ x
  rw [show ({ s with heap := h₃, toks := tk + 1 } : Shared).heap.objs.size = s.heap.objs.size from z₃]
  generalize h₃.push { cls := .type "tuple", data := .seq #[.int i tk, v] } = h₄ at *
  have e₄ : IsEnum h₄ e it (i + 1) old := up₄ _ _ e₃
  have old₄ : ∀ b o, b ≠ e → b ≠ it → s.heap.get? b = some o → h₄.get? b = some o := fun b o hb hi x => up₄ _ _ (k₃.extBut b o hb (k₂.extBut b o hb (k₁.extBut b o hi x)))
  have j₄ : J h₄ := hJ h₁ h₄ j₁ fun o x => up₄ _ _ (k₃.extBut it o (Ne.symm hne) (k₂.extBut it o (Ne.symm hne) x))
  unfold Builtin.SmallTypes.ownedTupleIsFree
  refine wpAny_bind (wpAny_bind (wpAny_field (s := { s with heap := h₄, toks := tk + 1 }) e₄ rfl (x := .none) rfl (wpAny_pure ?_)))
  simp only [if_true]
  refine wpAny_bind (wpAny_rule (wpAny_bind (wpAny_field (s := { s with heap := h₄, toks := tk + 1 }) e₄ rfl (x := old) rfl ?_)))
  refine wpAny_bind (wpAny_setField_rec (s := { s with heap := h₄, toks := tk + 1 }) e₄ (by simp) fun h₅ e₅ k₅ => ?_)
  replace k₅ : Heap.SameBut e h₄ h₅ := k₅
  replace e₅ : IsEnum h₅ e it (i + 1) v := e₅
  unfold Builtin.SmallTypes.ownedTupleHandOut
  refine wpAny_bind (wpAny_bind (wpAny_setField_rec (s := { s with heap := h₅, toks := tk + 1 }) e₅ (by simp) fun h₆ e₆ k₆ => ?_))
  replace k₆ : Heap.SameBut e h₅ h₆ := k₆
  replace e₆ : IsEnumOut h₆ e it (i + 1) v s.heap.objs.size := e₆
  refine wpAny_setField_rec (s := { s with heap := h₆, toks := tk + 1 }) e₆ (by simp) fun h₇ e₇ k₇ => ?_
  replace k₇ : Heap.SameBut e h₆ h₇ := k₇
  replace e₇ : IsEnumOut h₇ e it (i + 1) v s.heap.objs.size := e₇
  have all : ∀ b o, b ≠ e → h₄.get? b = some o → h₇.get? b = some o := fun b o hb x => k₇.extBut b o hb (k₆.extBut b o hb (k₅.extBut b o hb x))
  exact wpAny_bind (wpAny_letGo (wpAny_pure ⟨_, rfl, hQ h₇ e₇ (hJ h₄ h₇ j₄ fun o x => all _ o (Ne.symm hne) x) (all _ _ (Nat.ne_of_gt elt) t₄) fun b o hb hi x => all b o hb (old₄ b o hb hi x)⟩))

theorem enum_next {e it : Addr} {i : Int} {old v : Value} {tk : Nat} {J : Heap → Prop} {Q : Option Value → Shared → Prop} (he : IsEnum s.heap e it i old) (hne : e ≠ it)
    (hJ : ∀ h h', J h → (∀ o, h.get? it = some o → h'.get? it = some o) → J h')
    (hn : ∀ (A : Around) (E : Value → Shared → Prop) (Q : Value → Shared → Prop), (∀ h₁, J h₁ → Heap.SameBut it s.heap h₁ → Q v { s with heap := h₁, toks := tk }) → wpAny (model prog w) A (Builtin.SmallTypes.nextOf (.ref it)) Q E s)
    (hQ : ∀ h', IsEnumOut h' e it (i + 1) v s.heap.objs.size → J h' → h'.get? s.heap.objs.size = some { cls := .type "tuple", data := .seq #[.int i tk, v] } →
      (∀ b o, b ≠ e → b ≠ it → s.heap.get? b = some o → h'.get? b = some o) → Q (some (.ref s.heap.objs.size)) { s with heap := h', toks := tk + 1 }) :
    wpAny (model prog w) A (pyNext (.ref e)) Q E s := by
  have hT : s.TypeIs (.ref e) "enumerate" := ⟨_, he, rfl⟩
  unfold pyNext
  exact wpAny_bind (wpAny_attempt (wpAny_callSpecial?_slot (name := Str.ofString "__next__") hT PySem.F.slot_enumerate_next
    (wpAny_call_entry PySem.F.slot_enumerate_next hT PySem.F.entry_enumerate_next
      (enum_turn he hne hJ (hn _ _) fun h' a b c d => wpAny_pure (hQ h' a b c d)) (PySem.F.args_enumerate_next_1 _))))
end
end Mine
end
section
open PySem PySem.W PyProof.Rows PySem.Calls PySem.Flt PySem.SeqAt
set_option maxRecDepth 100000
namespace Mine
noncomputable def idxBody : List Stmt :=
  [.For (.Tuple [.Name "i" ⟨67, 8, 67, 9⟩, .Name "j" ⟨67, 11, 67, 12⟩] 0 ⟨67, 8, 67, 12⟩) (.Call (.Name "enumerate" ⟨67, 16, 67, 25⟩) [.Name "a" ⟨67, 26, 67, 27⟩] [] ⟨67, 16, 67, 28⟩)
    [.If (.BoolOp .Or [.Compare (.Name "j" ⟨68, 11, 68, 12⟩) [.Is] [.Name "b" ⟨68, 16, 68, 17⟩] ⟨68, 11, 68, 17⟩, .Compare (.Name "j" ⟨68, 21, 68, 22⟩) [.Eq] [.Name "b" ⟨68, 26, 68, 27⟩] ⟨68, 21, 68, 27⟩] ⟨68, 11, 68, 27⟩)
      [.Return (some (.Name "i" ⟨69, 19, 69, 20⟩)) ⟨69, 12, 69, 20⟩] [] ⟨68, 8, 69, 20⟩]
    [.Raise (some (.Call (.Name "ValueError" ⟨71, 14, 71, 24⟩) [.Constant (.str "sequence.index(x): x not in sequence") 0 ⟨71, 25, 71, 63⟩] [] ⟨71, 14, 71, 64⟩)) none ⟨71, 8, 71, 64⟩] ⟨67, 4, 71, 64⟩]
noncomputable def idxNames : Names := [("a", .local), ("b", .local), ("i", .local), ("j", .local), ("enumerate", .globalImplicit), ("ValueError", .globalImplicit)]
theorem idx_eq : idxFn = some ⟨["a", "b"], idxBody, idxNames⟩ := by rfl
theorem boot_enum : bootBuiltins "enumerate" = some (.type "enumerate") := by decide +kernel

section
variable {prog : Program} {w : World} {tab : Tab} {glob : Str → Option V} {A : Around} {env : Env} {μ : Addr → Prop} {g : GS}

theorem str_one (a b : Nat) : ((⟨#[a]⟩ : Str) == ⟨#[b]⟩) = (a == b) := by
  by_cases h : a = b
  · subst h; simp
  · have h1 : (a == b) = false := by simpa using h
    rw [h1]
    have : ((⟨#[a]⟩ : Str) ≠ ⟨#[b]⟩) := fun e => h (by injection e with e; simpa using e)
    simpa using this

/-- j is b or j == b -/
theorem idx_test {ci c u tb : Nat} {p1 p2 p3 p4 p5 p6 p7 : Pos} {whole : Sem Value} (hk : env.scope.kind = .function) (hb : NoneBooked g.h) (hu : A.units + 16 < cLine) (vj : VarIs env g.h "j" (.str ⟨#[ci]⟩ u)) (vb : VarIs env g.h "b" (.str ⟨#[c]⟩ tb)) (hu0 : 0 < u) (ht0 : 0 < tb) (hne : tb < u) :
    EvB prog w A (isTrue (.BoolOp .Or [.Compare (.Name "j" p1) [.Is] [.Name "b" p2] p3, .Compare (.Name "j" p4) [.Eq] [.Name "b" p5] p6] p7) env whole) (ci == c) g := fun E Q hQ => by
  have nm : ∀ {x : Str} {p : Pos} {v : Value} {Q : Value → Shared → Prop}, okN x = true → VarIs env g.h x v → Q v g.s → wpAny (model prog w) A (eval (.Name x p) env) Q E g.s := fun hn hv hq => wpAny_Name (load_var hk hn hv hq) (sget_okd hn).1
  have h0 : (u == 0 || tb == 0) = false := by
    have a : (u == 0) = false := by simpa using Nat.ne_of_gt hu0
    have b : (tb == 0) = false := by simpa using Nat.ne_of_gt ht0
    rw [a, b]; rfl
  have hut : (u == tb) = false := by simpa using Nat.ne_of_gt hne
  have second : wpAny (model prog w) A (isTrue (.BoolOp .Or [.Compare (.Name "j" p4) [.Eq] [.Name "b" p5] p6] p7) env whole) Q E g.s := by
    refine isTrue_or (wpAny_isTrue_Compare1 (nm (by decide) vj (nm (by decide) vb ?_)) rfl)
    refine cmpV_sound (x := .str ⟨#[ci]⟩) (y := .str ⟨#[c]⟩) (μ := fun _ => False) (b := ci == c) hb hu ⟨_, rfl⟩ ⟨_, rfl⟩ (by show some ((⟨#[ci]⟩ : Str) == ⟨#[c]⟩) = _; rw [str_one]) E _ fun v g' k r => ?_
    cases r
    refine wpAny_truthy_bool ?_
    cases hc : ci == c with
    | true => rw [hc] at hQ; exact hQ g' k
    | false => rw [hc] at hQ; exact isTrue_or_nil (hQ g' k)
  refine isTrue_or (wpAny_isTrue_Compare1 (nm (by decide) vj (nm (by decide) vb ?_)) rfl)
  unfold compareOp
  cases hc : ci == c with
  | true =>
    rw [hc] at hQ
    refine wpAny_bind (wpAny_isSame_str h0 hb fun b0 => wpAny_pure (wpAny_truthy_bool ?_))
    cases b0 with
    | true => exact hQ g (.refl g)
    | false => exact second
  | false =>
    refine wpAny_bind (wpAny_of_eq (isSame_str_other _ _ _ _ h0 hut (by rw [str_one, hc])) (wpAny_pure (wpAny_truthy_bool ?_)))
    exact second
end
end Mine
end
section
open PySem PySem.W PyProof.Rows PySem.Calls PySem.Flt PySem.SeqAt
set_option maxRecDepth 100000
namespace Mine
section
variable {prog : Program} {w : World} {tab : Tab} {glob : Str → Option V} {A : Around} {env : Env} {μ Y : Addr → Prop} {g0 g : GS}

theorem str_turn {it : Addr} {x : Str} {t : Tok} {i c : Nat} {s : Shared} {E : Value → Shared → Prop} {Q : Value → Shared → Prop} (hit : s.heap.IsStrIter it (strIterType x) x t i) (hx : x.cps[i]? = some c)
    (hQ : ∀ h', h'.IsStrIter it (strIterType x) x t (i + 1) → Heap.SameBut it s.heap h' → Q (.str ⟨#[c]⟩ s.toks) { s with heap := h', toks := s.toks + 1 }) :
    wpAny (model prog w) A (Builtin.SmallTypes.nextOf (.ref it)) Q E s := by
  cases ha : x.cps.all (· < 128)
  · simp only [strIterType, ha] at hit hQ
    exact wpAny_nextOf_wide_item hit hx hQ
  · simp only [strIterType, ha] at hit hQ
    exact wpAny_nextOf_ascii_item hit hx hQ

/-- a pair is bound to two names, and no more -/
theorem pair_store {N : Names} {σ : Sto} {x y : Str} {px py tp : Pos} {k : Nat} {T : Addr} {u1 u2 : Value} {d1 d2 : V} (hh : A.handled = none) (S : FS tab glob env N μ g0 Y none σ none g) (vx : isVar N x = true) (vy : isVar N y = true)
    (hT : g.h.IsTuple T (List.toArray [u1, u2])) (r1 : Rep (res (muF μ Y env N none) g) d1 u1) (r2 : Rep (res (muF μ Y env N none) g) d2 u2) (hne : x ≠ y)
    {E : Value → Shared → Prop} {Q : Unit → Shared → Prop}
    (hQ : ∀ g', FS tab glob env N μ g0 Y none (sput y (some d2) (sput x (some d1) σ)) none g' → Step env N none g none g' → VarIs env g'.h x u1 → VarIs env g'.h y u2 → (∀ z u, z ≠ x → z ≠ y → VarIs env g.h z u → VarIs env g'.h z u) → Q () g'.s) :
    wpAny (model prog w) A (assign (.Tuple [.Name x px, .Name y py] k tp) env (.ref T)) Q E g.s := by
  refine wpAny_assign_Tuple hh hT rfl rfl fun h' hE => ?_
  have k1 : g.Le (g.chg h' g.s.toks (Nat.le_refl _)) := ⟨⟨h', _, rfl, fun b o e => hE b o (Nat.ne_of_lt (Heap.lt_size e)) e⟩, Nat.le_refl _, fun _ _ f => f⟩
  show wpAny _ _ (holding [u2] (assign (.Name x px) env u1) >>= fun _ => assignInOrder [assign (.Name y py) env] [u2]) _ _ (g.chg h' g.s.toks (Nat.le_refl _)).s
  generalize g.chg h' g.s.toks (Nat.le_refl _) = g1 at *
  have S1 := S.up k1
  refine wpAny_bind (wpAny_holding (wpAny_assign_Name (S1.storeV vx (r1.up k1) fun g2 S2 st2 v2 k2 => ?_)))
  show wpAny _ _ (holding [] (assign (.Name y py) env u2) >>= fun _ => assignInOrder [] []) _ _ g2.s
  refine wpAny_bind (wpAny_holding (wpAny_assign_Name (S2.storeV vy (Rep.mono st2.res _ _ (r2.up k1)) fun g3 S3 st3 v3 k3 => wpAny_pure ?_)))
  exact hQ g3 S3 (((Step.of_le (N := N) (env := env) (oa := none) k1 fun b h => h).trans st2 (mutLive S1.F)).trans st3 (mutLive S2.F)) (k3 x _ hne v2) v3 fun z u hzx hzy hz => k3 z u hzy (k2 z u hzx (hz.up k1.up))

theorem idx_loop {x : Str} {t : Tok} {c kk : Nat} {e it : Addr} {σ : Sto} {old : Value} {E : Value → Shared → Prop} {Q : Value → Shared → Prop} (hh : A.handled = none) (hu : A.units + 16 < cLine) (hei : e ≠ it)
    (hY : ∀ b, Y b ↔ (b = e ∨ b = it)) (S : FS tab glob env idxNames μ g0 Y none σ none g) (he : IsEnum g.h e it (0 : Nat) old) (hit : g.h.IsStrIter it (strIterType x) x t 0) (hb : sget σ "b" = some (.chr c)) (hk : placeOf c x.cps.toList 0 = some kk)
    (hQ : ∀ g' tk, g0.Le g' → Q (.int kk tk) g'.s) :
    codeAny (model prog w) A (.forLoop (.Tuple [.Name "i" ⟨67, 8, 67, 9⟩, .Name "j" ⟨67, 11, 67, 12⟩] 0 ⟨67, 8, 67, 12⟩) (.ref e)
      [.If (.BoolOp .Or [.Compare (.Name "j" ⟨68, 11, 68, 12⟩) [.Is] [.Name "b" ⟨68, 16, 68, 17⟩] ⟨68, 11, 68, 17⟩, .Compare (.Name "j" ⟨68, 21, 68, 22⟩) [.Eq] [.Name "b" ⟨68, 26, 68, 27⟩] ⟨68, 21, 68, 27⟩] ⟨68, 11, 68, 27⟩)
        [.Return (some (.Name "i" ⟨69, 19, 69, 20⟩)) ⟨69, 12, 69, 20⟩] [] ⟨68, 8, 69, 20⟩]
      [.Raise (some (.Call (.Name "ValueError" ⟨71, 14, 71, 24⟩) [.Constant (.str "sequence.index(x): x not in sequence") 0 ⟨71, 25, 71, 63⟩] [] ⟨71, 14, 71, 64⟩)) none ⟨71, 8, 71, 64⟩] env)
      (fun r s' => match r with | .ok f => (match f with | .ret v => Q v s' | _ => False) | .error e => E e s') g.s := by
  refine codeAny_forLoop_any (fun k s => ∃ (g' : GS) (i : Nat) (σ' : Sto) (old : Value), s = g'.s ∧ FS tab glob env idxNames μ g0 Y none σ' none g' ∧ IsEnum g'.h e it (i : Nat) old ∧ g'.h.IsStrIter it (strIterType x) x t i ∧ sget σ' "b" = some (.chr c) ∧
    i ≤ x.cps.size ∧ k = x.cps.size + 1 - i ∧ placeOf c (x.cps.toList.drop i) i = some kk) ?_ (x.cps.size + 1) ⟨g, 0, σ, old, rfl, S, he, hit, hb, Nat.zero_le _, rfl, hk⟩
  rintro k s ⟨g', i, σ', old, rfl, S', he, hit, hb, hi, rfl, hk⟩
  by_cases hlt : i < x.cps.size
  · obtain ⟨vb, hvb, tb, rfl, tb0, tbl⟩ := S'.var "b" _ hb
    have hx : x.cps[i]? = some x.cps[i] := by simp [hlt]
    have hdrop : x.cps.toList.drop i = x.cps[i] :: x.cps.toList.drop (i + 1) := by
      rw [List.drop_eq_getElem_cons (by simpa using hlt)]; simp
    rw [hdrop, placeOf] at hk
    generalize x.cps[i] = ci at hx hk
    refine enum_next (J := fun h => h.IsStrIter it (strIterType x) x t (i + 1)) he hei (fun h h' j e => let ⟨o, ho, r⟩ := j; ⟨o, e _ ho, r⟩) (fun A E Q hq => str_turn hit hx hq) fun h1 hE1 hi1 hT1 k1 => ?_
    have bA : GS.But Y g' (g'.chg h1 (g'.s.toks + 1 + 1) (Nat.le_add_right _ 2)) := GS.chg_but _ fun b o hb q => k1 b o (fun e => hb ((hY b).mpr (.inl e))) (fun e => hb ((hY b).mpr (.inr e))) q
    have SA := S'.but bA (fun b h => h) fun b hb => ((hY b).mp hb).elim (fun q => by rw [q]; exact ⟨_, hE1⟩) (fun q => by rw [q]; obtain ⟨o, ho, _⟩ := hi1; exact ⟨o, ho⟩)
    have Tfresh : g'.h.get? g'.s.heap.objs.size = none := get_size _
    refine wpAny_letOwnedTupleGo_enum hE1 fun h2 hE2 k2 => ?_
    have bB : GS.But Y (g'.chg h1 (g'.s.toks + 1 + 1) (Nat.le_add_right _ 2)) ((g'.chg h1 (g'.s.toks + 1 + 1) (Nat.le_add_right _ 2)).chg h2 (g'.s.toks + 1 + 1) (Nat.le_refl _)) := GS.chg_but _ fun b o hb q => k2.extBut b o (fun e => hb ((hY b).mpr (.inl e))) q
    have hi2 : h2.IsStrIter it (strIterType x) x t (i + 1) := let ⟨o, ho, r⟩ := hi1; ⟨o, k2.extBut _ _ (Ne.symm hei) ho, r⟩
    have SB := SA.but bB (fun b h => h) fun b hb => ((hY b).mp hb).elim (fun q => by rw [q]; exact ⟨_, hE2⟩) (fun q => by rw [q]; obtain ⟨o, ho, _⟩ := hi2; exact ⟨o, ho⟩)
    have Te : g'.s.heap.objs.size ≠ e := fun q => by have := Heap.lt_size he; rw [← q] at this; exact Nat.lt_irrefl _ this
    have hT2 : h2.get? g'.s.heap.objs.size = some { cls := .type "tuple", data := .seq #[.int (i : Nat) (g'.s.toks + 1), .str ⟨#[ci]⟩ g'.s.toks] } := k2.extBut _ _ Te hT1
    have hvB : VarIs env h2 "b" (.str ⟨#[c]⟩ tb) := by
      refine hvb.keepF S'.E fun b o hm q => ?_
      have nY : ¬ Y b := S'.dis b (.inl hm)
      exact bB.keep b o nY (bA.keep b o nY q)
    have pB : 0 < g'.s.toks := g'.pos
    have tB : ((g'.chg h1 (g'.s.toks + 1 + 1) (Nat.le_add_right _ 2)).chg h2 (g'.s.toks + 1 + 1) (Nat.le_refl _)).s.toks = g'.s.toks + 1 + 1 := rfl
    have hB : ((g'.chg h1 (g'.s.toks + 1 + 1) (Nat.le_add_right _ 2)).chg h2 (g'.s.toks + 1 + 1) (Nat.le_refl _)).h = h2 := rfl
    show wpAny _ _ _ _ _ ((g'.chg h1 (g'.s.toks + 1 + 1) (Nat.le_add_right _ 2)).chg h2 (g'.s.toks + 1 + 1) (Nat.le_refl _)).s
    generalize (g'.chg h1 (g'.s.toks + 1 + 1) (Nat.le_add_right _ 2)).chg h2 (g'.s.toks + 1 + 1) (Nat.le_refl _) = gB at *
    subst hB
    refine pair_store (d1 := .int (i : Nat)) (d2 := .chr ci) hh SB (by decide) (by decide) ⟨_, hT2, rfl, _, rfl⟩ ⟨_, rfl⟩ ⟨_, rfl, pB, ?_⟩ (by decide) fun gC SC stC vi vj vk => ?_
    · show g'.s.toks < gB.s.toks
      rw [tB]; exact Nat.lt_succ_of_lt (Nat.lt_succ_self _)
    · have vbC := vk "b" _ (by decide) (by decide) hvB
      refine wpAny_execs_cons (wpAny_If (idx_test S'.E.kind (SC.G.up SC.le.up).booked hu vj vbC pB tb0 tbl _ _ fun gD kD => ?_))
      cases hc : ci == c with
      | true =>
        rw [hc] at hk
        simp only [if_true] at hk
        cases hk
        refine wpAny_execs_cons (wpAny_Return_some (wpAny_Name (load_var S'.E.kind (by decide) (vi.up kD.up) ?_) (by decide)))
        exact hQ gD _ (SC.le.trans kD)
      | false =>
        rw [hc] at hk
        simp only [Bool.false_eq_true, if_false] at hk
        refine wpAny_execs_nil (wpAny_execs_nil ?_)
        have nY : ∀ b, Y b → ¬ (Mut env idxNames b ∨ (none : Option Addr) = some b) := fun b hb q => SB.dis b q hb
        refine ⟨x.cps.size + 1 - (i + 1), by omega, gD, i + 1, _, _, rfl, SC.up kD, kD.up _ _ (stC.but.keep _ _ (nY e ((hY e).mpr (.inl rfl))) hE2), ?_, ?_, hlt, rfl, hk⟩
        · obtain ⟨o, ho, r⟩ := hi2
          exact ⟨o, kD.up _ _ (stC.but.keep _ _ (nY it ((hY it).mpr (.inr rfl))) ho), r⟩
        · rw [sget_sput, sget_sput, if_neg (by decide), if_neg (by decide)]; exact hb
  · have : i = x.cps.size := by omega
    subst this
    rw [List.drop_of_length_le (by simp)] at hk
    simp [placeOf] at hk
end
end Mine
end
section
open PySem PySem.W PyProof.Rows PySem.Calls PySem.Flt PySem.SeqAt
set_option maxRecDepth 100000
namespace Mine
section
variable {prog : Program} {w : World} {tab : Tab} {glob : Str → Option V} {A : Around} {μ : Addr → Prop} {g : GS} {n : Nat}

theorem idx_sound (ht : tab "enumerate" = none) {fn : Fn} {f : Addr} {ds : List V} {vs : List Value} {d : V} (ok : Ok A n) (G : Glob tab glob g.h) (lt : ∀ b, μ b → ∃ o, g.h.get? b = some o) (hi : idxFn = some fn) (hf : FnIs g.h fn f)
    (r : RepL (res μ g) ds vs) (h : indexV ds = some d) : Ev prog w A μ (call (.ref f) vs) d g := fun E Q hQ => by
  rw [idx_eq] at hi
  cases hi
  obtain ⟨x, c, kk, rfl, _, hk, rfl⟩ := indexV_inv h
  · · · refine call_enter (by have := ok.room; omega) G lt hf r (σ := sput "b" (some (.chr c)) (sput "a" (some (.str x)) (idxNames.map fun p => (p.1, none)))) rfl fun env g1 E' S => ?_
        have hh : (A.deeper env).handled = none := ok.hand
        have hu : (A.deeper env).units + 16 < cLine := by have := ok.units; show A.units + 3 + 16 < _; omega
        have ha : sget (sput "b" (some (.chr c)) (sput "a" (some (.str x)) (idxNames.map fun p => (p.1, none)))) "a" = some (.str x) := by
          rw [sget_sput, if_neg (by decide), sget_sput, if_pos rfl]
        have hb : sget (sput "b" (some (.chr c)) (sput "a" (some (.str x)) (idxNames.map fun p => (p.1, none)))) "b" = some (.chr c) := by
          rw [sget_sput, if_pos rfl]
        generalize sput "b" (some (.chr c)) (sput "a" (some (.str x)) (idxNames.map fun p => (p.1, none))) = σ at *
        show wpAny _ _ (execs idxBody env) _ _ _
        unfold idxBody
        have S' : FS tab glob env idxNames μ g (fun _ => False) none σ none g1 := S
        refine wpAny_execs_cons (wpAny_For ?_ (fun x => rfl))
        refine Call_ (load_builtin S'.view (by decide) ht (by decide) (v := .type "enumerate") boot_enum ?_)
        refine PyProof.Rows.callWith_type rfl (evalArgs_plain (args_cons (ev_Name (n := 1) S'.view (by rw [mv_Name, if_pos (by decide)]; exact ha) _ _ fun v g2 k2 r2 => args_nil ?_) rfl))
        obtain ⟨t, rfl⟩ := r2
        refine call_enumerate_str fun h' hE hI hsz keep => ?_
        have k3 : g2.Le (g2.chg h' g2.s.toks (Nat.le_refl _)) := ⟨⟨h', _, rfl, keep⟩, Nat.le_refl _, fun _ _ f => f⟩
        refine wpAny_pyIter_enum hE ?_
        have S2 := S'.widen (X := fun b => b = g2.s.heap.objs.size + 1 ∨ b = g2.s.heap.objs.size) (k2.trans k3) (fun b hb => by
            have e2 : g2.h.get? b = none := Heap.get?_none_of_le (by rcases hb with rfl | rfl; exact Nat.le_succ _; exact Nat.le_refl _)
            cases e : g1.h.get? b with
            | none => rfl
            | some o => have := k2.up b o e; rw [e2] at this; cases this) (fun b hb => by
            rcases hb with rfl | rfl
            · exact ⟨_, hE⟩
            · obtain ⟨o, ho, _⟩ := hI; exact ⟨o, ho⟩)
        refine codeAny_mono (idx_loop (kk := kk) (old := .none) (Q := fun v s' => Q v s') (E := cameBackBy (model prog w) (A.deeper env) env E') hh hu (Nat.succ_ne_self _) (fun b => ⟨fun q => q.elim (fun q => q.elim) id, .inr⟩) S2 hE hI hb hk fun g' tk k4 => hQ _ g' k4 ⟨tk, rfl⟩) fun r s' hr => ?_
        cases r with
        | ok f =>
          cases f with
          | ret v => exact hr
          | _ => exact hr.elim
        | error e => exact hr

/-- the mini interpreter is sound -/
theorem sound (ht : tab "enumerate" = none) : ∀ n, IH prog w tab glob n ∧ IS prog w tab glob n
  | 0 => by
    have i0 : IH prog w tab glob 0 := {
      ev := fun _ _ h => no h
      base := fun _ _ h => no h
      each := fun _ _ _ h => no h
      test := fun _ _ h => no h
      tests := fun _ _ h => no h
      src := fun _ _ h => no h
      fcall := fun _ _ _ _ _ _ h => no h
      fidx := fun ok G lt hi hf r h => idx_sound ht ok G lt hi hf r h }
    have j1 : ∀ {N σ ω st r}, mexec tab glob 0 N σ ω st = some r → False := fun h => no h
    have j2 : ∀ {N σ ω st r}, mexecs tab glob 0 N σ ω st = some r → False := fun h => no h
    exact ⟨i0, ⟨fun _ _ h => (j1 h).elim, fun _ _ h => (j2 h).elim⟩⟩
  | n + 1 => by
    have all : ∀ m, m ≤ n → IH prog w tab glob m := fun m hm => (sound ht m).1
    obtain ⟨I, J⟩ := sound ht n
    exact ⟨{
      ev := fun ok W h => ev_succ I ⟨_, idx_eq⟩ ok W h
      base := fun ok W h => base_succ I ok W h
      each := fun pos ok W h => each_succ I ok W h
      test := fun ok W h => test_succ I ok W h
      tests := fun ok W h => tests_succ I ok W h
      src := fun ok W h => src_succ I ok W h
      fcall := fun ok G lt _ hf r h => call_succ J ok G lt hf r h
      fidx := fun ok G lt hi hf r h => idx_sound ht ok G lt hi hf r h },
      { ex := fun ok S h E Q hQ => exec_succ all J ok S h E Q hQ
        exs := fun ok S h E Q hQ => execs_succ J ok S h E Q hQ }⟩

/-- a call's answer is the mini interpreter's -/
theorem call_sound (ht : tab "enumerate" = none) {x : Str} {fn : Fn} {f : Addr} {ds : List V} {vs : List Value} {d : V} (ok : Ok A n) (G : Glob tab glob g.h) (lt : ∀ b, μ b → ∃ o, g.h.get? b = some o) (hx : tab x = some fn) (hf : FnIs g.h fn f) (r : RepL (res μ g) ds vs)
    (h : mcall tab glob n fn ds = some d) : Ev prog w A μ (call (.ref f) vs) d g := (sound ht n).1.fcall ok G lt hx hf r h
end
end Mine
end
section
open PySem PySem.W PyProof.Rows PySem.Calls PySem.Flt PySem.SeqAt PySem.W.X
set_option maxRecDepth 100000
namespace Mine
theorem len0 {α : Type} {l : List α} (h : l.length = 0) : l = [] := List.eq_nil_of_length_eq_zero h
theorem lenS {α : Type} {l : List α} {n : Nat} (h : l.length = n + 1) : ∃ a r, l = a :: r ∧ r.length = n := by
  cases l with
  | nil => cases h
  | cons a r => exact ⟨a, r, rfl, Nat.succ.inj h⟩
theorem len1 {α : Type} {l : List α} (h : l.length = 1) : ∃ a, l = [a] := by
  obtain ⟨a, r, rfl, h'⟩ := lenS h
  obtain rfl := len0 h'
  exact ⟨a, rfl⟩
theorem len2 {α : Type} {l : List α} (h : l.length = 2) : ∃ a b, l = [a, b] := by
  obtain ⟨a, r, rfl, h'⟩ := lenS h
  obtain ⟨b, rfl⟩ := len1 h'
  exact ⟨a, b, rfl⟩
theorem len3 {α : Type} {l : List α} (h : l.length = 3) : ∃ a b c, l = [a, b, c] := by
  obtain ⟨a, r, rfl, h'⟩ := lenS h
  obtain ⟨b, c, rfl⟩ := len2 h'
  exact ⟨a, b, c, rfl⟩
noncomputable def textB : List Stmt := PySem.Challenge.pw_sw0011_01.main.body
/-- the statements of the text that stay behind its top: the defs and the constant -/
noncomputable def keepS : Stmt → Bool
  | .FunctionDef _ _ _ _ _ _ _ _ _ _ => true
  | .Assign [.Name x _] _ _ => x == "ELLIPSIS_MARKER"
  | _ => false
noncomputable def viewP : Program := { PySem.Challenge.pw_sw0011_01 with main := { PySem.Challenge.pw_sw0011_01.main with body := textB.filter keepS } }
noncomputable def builtN : List Str := (["len", "min", "max", "sum", "sorted", "int", "range", "isinstance", "bool", "enumerate"] : List String).map Str.ofString
noncomputable def dotsIs : Option Value → Bool
  | some (.str y _) => y == "..."
  | _ => false
/-- what is looked at behind the top -/
noncomputable def obsT (s : Shared) : Bool := Nat.blt 0 s.toks && (s.heap.isNs cStatics && ((s.heap.nsMap cStatics sharingNotToldKey).isNone && (s.heap.isNs mainGlobals &&
  (dotsIs (s.heap.nsMap mainGlobals "ELLIPSIS_MARKER") && builtN.all fun x => (s.heap.nsMap mainGlobals x).isNone))))
theorem left : LeftO PySem.Challenge.pw_sw0011_01 viewP [] (fun s => xlAt viewP [] s && recOk [] s) obsT (fun _ => true) 994 := fun w => by kernel_rfl

noncomputable def recV (x : Str) : DefRec := ((recsOf viewP).find? fun d => d.name == x).getD ⟨"", ⟨[], [], none, [], [], none, []⟩, [], default, ⟨0, 0, 0, 0⟩⟩
noncomputable def parV (x : Str) : List Str := (recV x).params.args.map (·.arg)
noncomputable def scOk (params : List Str) (sc : Scope) : Bool := sc.kind == .function && (!sc.isCoroutine && (!sc.isGenerator && (sc.names.all (fun p => p.2 != .free) && params.all (fun x => sc.names.lookup x == some .local || sc.names.lookup x == some .cell))))
noncomputable def fns1 : List Str := (["_law_lights", "_law_sets", "_law_turned", "law"] : List String).map Str.ofString
noncomputable def fns2 : List Str := (["_ellipsis_match", "lt", "ge", "sub", "countOf", "indexOf", "_law_shape"] : List String).map Str.ofString
noncomputable def fns3 : List Str := (["hsv_to_rgb", "_law_rises"] : List String).map Str.ofString
noncomputable def fns : List Str := fns1 ++ (fns2 ++ fns3)
theorem fns_all : fns.map (fun x => ((recsOf viewP).find? (fun d => d.name == x), (recV x).name, fnOfStmt x textB, scOk (parV x) (recV x).scope)) = fns.map (fun x => (some (recV x), x, some ⟨parV x, (recV x).body, (recV x).scope.names⟩, true)) := by kernel_rfl
noncomputable abbrev fdV (x : Str) (doc pm cd : Value) : FuncData := fnX (recV x).name (recV x).name (recV x).params (recV x).body (recV x).scope [] .none .none doc pm none cd .none
theorem bind1 (doc pm cd a : Value) : fns1.map (fun x => bindArgs (fdV x doc pm cd) ⟨[a], []⟩) = fns1.map (fun x => pure ((parV x).zip [a])) := by kernel_rfl
theorem bind2 (doc pm cd a b : Value) : fns2.map (fun x => bindArgs (fdV x doc pm cd) ⟨[a, b], []⟩) = fns2.map (fun x => pure ((parV x).zip [a, b])) := by kernel_rfl
theorem bind3 (doc pm cd a b c : Value) : fns3.map (fun x => bindArgs (fdV x doc pm cd) ⟨[a, b, c], []⟩) = fns3.map (fun x => pure ((parV x).zip [a, b, c])) := by kernel_rfl
theorem par1 : fns1.map (fun x => (parV x).length) = fns1.map fun _ => 1 := by kernel_rfl
theorem par2 : fns2.map (fun x => (parV x).length) = fns2.map fun _ => 2 := by kernel_rfl
theorem par3 : fns3.map (fun x => (parV x).length) = fns3.map fun _ => 3 := by kernel_rfl
theorem of_maps {α β : Type} {l : List α} {f g : α → β} {x : α} (e : l.map f = l.map g) (h : x ∈ l) : f x = g x := List.map_inj_left.mp e x h

theorem fn_binds {x : Str} (hx : x ∈ fns) (doc pm cd : Value) (vals : List Value) (hv : vals.length = (parV x).length) : bindArgs (fdV x doc pm cd) ⟨vals, []⟩ = pure ((parV x).zip vals) := by
  rcases List.mem_append.mp hx with h | h
  · obtain ⟨a, rfl⟩ := len1 (hv.trans (of_maps par1 h))
    exact of_maps (bind1 doc pm cd a) h
  · rcases List.mem_append.mp h with h | h
    · obtain ⟨a, b, rfl⟩ := len2 (hv.trans (of_maps par2 h))
      exact of_maps (bind2 doc pm cd a b) h
    · obtain ⟨a, b, c, rfl⟩ := len3 (hv.trans (of_maps par3 h))
      exact of_maps (bind3 doc pm cd a b c) h

theorem fn_of {mean : ExcName → Option Value} {mg mb : Str → Option Value} {h : Heap} (T : Top viewP [] mean mg mb h) {x : Str} {fn : Fn} (hx : x ∈ fns) (hfn : fnOfStmt x textB = some fn) : ∃ f, mg x = some (.ref f) ∧ FnIs h fn f := by
  have key := of_maps fns_all hx
  have e1 : (recsOf viewP).find? (fun d => d.name == x) = some (recV x) := congrArg Prod.fst key
  have e2 : (recV x).name = x := congrArg (fun p => p.2.1) key
  have e3 : fnOfStmt x textB = some ⟨parV x, (recV x).body, (recV x).scope.names⟩ := congrArg (fun p => p.2.2.1) key
  have e4 : scOk (parV x) (recV x).scope = true := congrArg (fun p => p.2.2.2) key
  obtain ⟨f, o, pm, cd, doc, a1, a2, a3, a4⟩ := T.fn _ (List.mem_of_find?_eq_some e1)
  obtain rfl := Option.some.inj (e3.symm.trans hfn)
  obtain ⟨c1, e4⟩ := Bool.and_eq_true_iff.mp e4
  obtain ⟨c2, e4⟩ := Bool.and_eq_true_iff.mp e4
  obtain ⟨c3, e4⟩ := Bool.and_eq_true_iff.mp e4
  obtain ⟨c4, c5⟩ := Bool.and_eq_true_iff.mp e4
  refine ⟨f, e2 ▸ a1, o, _, _, _, _, _, _, _, _, _, _, _, a2, a3, a4, rfl, eq_of_beq c1, (Bool.not_eq_true' _).mp c2, (Bool.not_eq_true' _).mp c3, fun y hy => ?_, fun y hy => ?_, fn_binds hx doc pm cd⟩
  · exact absurd rfl (bne_iff_ne.mp (List.all_eq_true.mp c4 _ (mem_of_lookup hy)))
  · rcases Bool.or_eq_true_iff.mp (List.all_eq_true.mp c5 y hy) with q | q
    · exact .inl (eq_of_beq q)
    · exact .inr (eq_of_beq q)

noncomputable def defNames : List Stmt → List Str
  | .FunctionDef name _ _ _ _ _ _ _ _ _ :: r => name :: defNames r
  | _ :: r => defNames r
  | [] => []
theorem fnOf_mem {x : Str} {fn : Fn} : ∀ {b : List Stmt}, fnOfStmt x b = some fn → x ∈ defNames b
  | [], h => no h
  | s :: r, h => by
    cases s with
    | FunctionDef name args body a1 a2 a3 scope a4 a5 a6 =>
      have h : (if (name == x) = true then some (Fn.mk (args.args.map (·.arg)) body scope.names) else fnOfStmt x r) = some fn := h
      show x ∈ name :: defNames r
      by_cases hn : (name == x) = true
      · rw [eq_of_beq hn]; exact List.mem_cons_self
      · rw [if_neg hn] at h
        exact List.mem_cons_of_mem _ (fnOf_mem h)
    | _ => exact fnOf_mem (b := r) h
theorem names_in : (defNames textB).all (fun x => fns.contains x) = true := by kernel_rfl
theorem fn_top {mean : ExcName → Option Value} {mg mb : Str → Option Value} {h : Heap} (T : Top viewP [] mean mg mb h) (x : Str) (fn : Fn) (hfn : fnOfStmt x textB = some fn) : ∃ f, mg x = some (.ref f) ∧ FnIs h fn f :=
  fn_of T (List.contains_iff_mem.mp (List.all_eq_true.mp names_in x (fnOf_mem hfn))) hfn

theorem toks_of {s : Shared} (e : obsT s = true) : 0 < s.toks := Nat.blt_eq.mp (Bool.and_eq_true_iff.mp e).1
theorem glob_of {mean : ExcName → Option Value} {mg mb : Str → Option Value} {h : Heap} (T : Top viewP [] mean mg mb h) {s : Shared} (hk : ∀ b o, s.heap.get? b = some o → h.get? b = some o) (e : obsT s = true) : Glob theTab theGlob h := by
  obtain ⟨_, e⟩ := Bool.and_eq_true_iff.mp e
  obtain ⟨b1, e⟩ := Bool.and_eq_true_iff.mp e
  obtain ⟨b2, e⟩ := Bool.and_eq_true_iff.mp e
  obtain ⟨b3, e⟩ := Bool.and_eq_true_iff.mp e
  obtain ⟨b4, b5⟩ := Bool.and_eq_true_iff.mp e
  have hm := Heap.Ns.agree T.g ((Heap.Ns.of_isNs b3).keeps hk)
  refine ⟨T.nolimit, ⟨_, (Heap.Ns.of_isNs b1).keeps hk, Option.isNone_iff_eq_none.mp b2⟩, mg, mb, T.g, T.b, fun x d e => ?_, fun x _ hx => ⟨(hm x).trans (Option.isNone_iff_eq_none.mp (List.all_eq_true.mp b5 x hx)), T.builtins x fun q => ?_⟩, fun x fn e => fn_top T x fn ?_⟩
  · unfold theGlob at e
    split at e
    · rename_i hx
      cases e
      rw [← hm] at b4
      rw [eq_of_beq hx]
      generalize mg "ELLIPSIS_MARKER" = v at b4
      match v, b4 with
      | some (.str y t), q => exact ⟨t, _, rfl, by rw [eq_of_beq q]⟩
    · cases e
  · subst q; revert hx; decide
  · rcases e with e | ⟨rfl, e⟩
    · unfold theTab at e
      split at e
      · cases e
      · exact e
    · exact e
end Mine
end
section
open PySem PySem.W PyProof.Rows PySem.Calls PySem.Flt PySem.SeqAt
set_option maxRecDepth 100000
namespace Mine
theorem len4 {α : Type} {l : List α} (h : l.length = 4) : ∃ a b c d, l = [a, b, c, d] := by
  obtain ⟨a, r, rfl, h'⟩ := lenS h
  obtain ⟨b, c, d, rfl⟩ := len3 h'
  exact ⟨a, b, c, d, rfl⟩
theorem len5 {α : Type} {l : List α} (h : l.length = 5) : ∃ a b c d e, l = [a, b, c, d, e] := by
  obtain ⟨a, r, rfl, h'⟩ := lenS h
  obtain ⟨b, c, d, e, rfl⟩ := len4 h'
  exact ⟨a, b, c, d, e, rfl⟩
theorem ints_rep {Z : PH} : ∀ {vs : List Value} {ns : List Int}, IntsAre vs ns → RepL Z (ns.map .int) vs
  | vs, ns, h => by
    refine RepL.of_get (by rw [h.length, List.length_map]) fun i d v e1 e2 => ?_
    obtain ⟨k, t, e, hk⟩ := IntsAre.at h i v e2
    rw [List.getElem?_map, hk] at e1
    cases e1
    exact ⟨t, e⟩

theorem law_end {prog : Program} {w : World} {s₁ : Shared} {fa a : Addr} {fn : Fn} {vs : List Value} {ns : List Int} (G : Glob theTab theGlob s₁.heap) (htk : 0 < s₁.toks) (hfn : theTab "law" = some fn) (hf : FnIs s₁.heap fn fa)
    (hL : s₁.heap.IsList a vs.toArray) (hI : IntsAre vs ns) (hplain : mcall theTab theGlob 120 fn [.list (ns.map .int)] = some (.bool true)) {E Q : Value → Shared → Prop} (hQ : ∀ s', Keeps s₁ s' → Q (.bool true) s') :
    wpAny (model prog w) callerA (call (.ref fa) [.ref a]) Q E s₁ := by
  let g : GS := ⟨s₁, fun _ _ => False, fun _ _ _ h => h.elim, fun _ _ h => h.elim, fun _ _ h => h.elim, htk⟩
  obtain ⟨o, ho, hc, n, hd⟩ := hL
  have r : RepL (res (fun _ => False) g) [.list (ns.map .int)] [.ref a] := RepL.one ⟨a, o, vs, n, rfl, ⟨fun q => q, ho⟩, hc, hd, ints_rep hI⟩
  refine call_sound (g := g) (μ := fun _ => False) (n := 120) (tab := theTab) (glob := theGlob) (by decide) ⟨rfl, by decide, by decide⟩ G (fun b q => q.elim) hfn hf r hplain E Q fun v g' k rv => ?_
  cases rv
  exact hQ g'.s k.k
end Mine
end
section
open PySem
set_option maxRecDepth 1000000
namespace Mine
noncomputable def ltFn : Fn := (fnOfStmt "lt" PySem.Challenge.pw_sw0011_01.main.body).getD ⟨[], [], []⟩
noncomputable def geFn : Fn := (fnOfStmt "ge" PySem.Challenge.pw_sw0011_01.main.body).getD ⟨[], [], []⟩
noncomputable def subFn : Fn := (fnOfStmt "sub" PySem.Challenge.pw_sw0011_01.main.body).getD ⟨[], [], []⟩
noncomputable def countFn : Fn := (fnOfStmt "countOf" PySem.Challenge.pw_sw0011_01.main.body).getD ⟨[], [], []⟩
theorem lt_run (n : Nat) (a b : Int) : mcall theTab theGlob (n + 6) ltFn [.int a, .int b] = some (.bool (decide (a < b))) := by kernel_rfl
theorem ge_run (n : Nat) (a b : Int) : mcall theTab theGlob (n + 6) geFn [.int a, .int b] = some (.bool (decide (a ≥ b))) := by kernel_rfl
theorem lt_tab : theTab "lt" = some ltFn := by kernel_rfl
theorem ge_tab : theTab "ge" = some geFn := by kernel_rfl
theorem sub_tab : theTab "sub" = some subFn := by kernel_rfl
theorem count_tab : theTab "countOf" = some countFn := by kernel_rfl

theorem compM_map {f : V → Option (Option V)} {g : V → V} : ∀ (xs : List V), (∀ x ∈ xs, f x = some (some (g x))) → compM f xs = some (xs.map g)
  | [], _ => rfl
  | x :: r, h => by
    rw [compM, h x List.mem_cons_self]
    simp only
    rw [compM_map r fun y hy => h y (List.mem_cons_of_mem _ hy)]
    rfl
theorem compM_filter {f : V → Option (Option V)} {b : V → Bool} {g : V → V} : ∀ (xs : List V), (∀ x ∈ xs, f x = some (if b x then some (g x) else none)) → compM f xs = some ((xs.filter b).map g)
  | [], _ => rfl
  | x :: r, h => by
    rw [compM, h x List.mem_cons_self]
    have ih := compM_filter (f := f) (b := b) (g := g) r fun y hy => h y (List.mem_cons_of_mem _ hy)
    cases hb : b x with
    | true => simp only [if_true]; rw [ih, List.filter_cons, hb]; rfl
    | false => simp only [Bool.false_eq_true, if_false]; rw [ih, List.filter_cons, hb]; rfl

-- composition
theorem exs_next {tab : Tab} {glob : Str → Option V} {n : Nat} {N : Names} {σ σ' : Sto} {ω ω' : Own} {s : Stmt} {r : List Stmt} (h : mexec tab glob n N σ ω s = some (.next σ' ω')) : mexecs tab glob (n + 1) N σ ω (s :: r) = mexecs tab glob n N σ' ω' r := by
  rw [mxs_cons, h]
theorem exs_ret {tab : Tab} {glob : Str → Option V} {n : Nat} {N : Names} {σ : Sto} {ω : Own} {s : Stmt} {r : List Stmt} {d : V} (h : mexec tab glob n N σ ω s = some (.ret d)) : mexecs tab glob (n + 1) N σ ω (s :: r) = some (.ret d) := by
  rw [mxs_cons, h]
theorem call_of {tab : Tab} {glob : Str → Option V} {n : Nat} {fn : Fn} {ds : List V} {σ : Sto} {d : V} (hz : zipS fn.params ds (fn.names.map fun p => (p.1, Option.none)) = some σ) (h : mexecs tab glob n fn.names σ none fn.body = some (.ret d)) : mcall tab glob (n + 1) fn ds = some d := by
  show (match zipS fn.params ds (fn.names.map fun p => (p.1, Option.none)) with
    | some σ => (match mexecs tab glob n fn.names σ none fn.body with
      | some (.ret d) => some d
      | some (.next _ _) => some .none
      | none => none)
    | none => none) = _
  rw [hz]
  show (match mexecs tab glob n fn.names σ none fn.body with
      | some (.ret d) => some d
      | some (.next _ _) => some .none
      | none => none) = _
  rw [h]
theorem small_of {i : Int} (h : -(2 ^ 60 : Int) < i) (h' : i < 2 ^ 60) : small i = true := by
  unfold small
  simp only [Bool.and_eq_true, decide_eq_true_eq]
  exact ⟨h, h'⟩
theorem mkI_of {i : Int} (h : -(2 ^ 60 : Int) < i) (h' : i < 2 ^ 60) : mkI i = some (.int i) := by
  unfold mkI; rw [small_of h h', if_pos rfl]

theorem sub_run (n : Nat) (a b : Int) (h : -(2 ^ 60 : Int) < a - b) (h' : a - b < 2 ^ 60) : mcall theTab theGlob (n + 6) subFn [.int a, .int b] = some (.int (a - b)) := by
  have e : mcall theTab theGlob (n + 6) subFn [.int a, .int b] = (match (match (match mkI (a - b) with | some d => some (Res.ret d) | none => none) with | some (.next σ' ω') => mexecs theTab theGlob (n + 4) subFn.names σ' ω' [] | some (.ret d) => some (.ret d) | none => none) with | some (.ret d) => some d | some (.next _ _) => some .none | none => none) := by kernel_rfl
  rw [e, mkI_of h h']

theorem count_run (n : Nat) : ∀ bs : List Bool, bs.length ≤ 5 → mcall theTab theGlob (n + 12) countFn [.list (bs.map .bool), .bool true] = some (.int (bs.count true)) := by
  intro bs h
  match bs, h with
  | [], _ => kernel_rfl
  | [a], _ => cases a <;> kernel_rfl
  | [a, b], _ => cases a <;> cases b <;> kernel_rfl
  | [a, b, c], _ => cases a <;> cases b <;> cases c <;> kernel_rfl
  | [a, b, c, d], _ => cases a <;> cases b <;> cases c <;> cases d <;> kernel_rfl
  | [a, b, c, d, e], _ => cases a <;> cases b <;> cases c <;> cases d <;> cases e <;> kernel_rfl
end Mine
end
section
open PySem
set_option maxRecDepth 1000000
namespace Mine
noncomputable def nil0 : Expr := .Constant .none 0 ⟨0, 0, 0, 0⟩
/-- an expression's parts -/
noncomputable def kids : Expr → List Expr
  | .BinOp a _ b _ => [a, b]
  | .BoolOp _ es _ => es
  | .Compare a _ bs _ => a :: bs
  | .Call f as _ _ => f :: as
  | .IfExp t a b _ => [t, a, b]
  | .Attribute a _ _ => [a]
  | .Tuple es _ _ => es
  | .ListComp e _ _ _ => [e]
  | _ => []
/-- a statement's expression, then its targets -/
noncomputable def stE : Stmt → List Expr
  | .Return o _ => o.toList
  | .Assign ts e _ => e :: ts
  | .AugAssign t _ e _ => [e, t]
  | .Expr e _ => [e]
  | .If t _ _ _ => [t]
  | .For t it _ _ _ => [it, t]
  | .Assert t _ _ => [t]
  | _ => []
noncomputable def kid (i : Nat) (e : Expr) : Expr := (kids e).getD i nil0
noncomputable def exprOf (s : Stmt) : Expr := (stE s).getD 0 nil0
noncomputable def tgtOf (s : Stmt) : Expr := (stE s).getD 1 nil0
noncomputable def tgtPos (s : Stmt) : Pos := (tgtOf s).pos
noncomputable def posOf (s : Stmt) : Pos := s.pos
noncomputable def posA (s : Stmt) : Pos := s.pos
noncomputable def posE (e : Expr) : Pos := e.pos
noncomputable def posC (e : Expr) : Pos := e.pos
noncomputable def ifP (e : Expr) : Pos := e.pos
noncomputable def namePos (e : Expr) : Pos := e.pos
noncomputable def lhs (e : Expr) : Expr := kid 0 e
noncomputable def rhs (e : Expr) : Expr := kid 1 e
noncomputable def calOf (e : Expr) : Expr := kid 0 e
noncomputable def eltOf (e : Expr) : Expr := kid 0 e
noncomputable def arg (i : Nat) (e : Expr) : Expr := kid (i + 1) e
noncomputable def argsOf (e : Expr) : List Expr := (kids e).tail
noncomputable def elOf (i : Nat) (e : Expr) : Expr := kid i e
noncomputable def ifT (e : Expr) : Expr := kid 0 e
noncomputable def ifA (e : Expr) : Expr := kid 1 e
noncomputable def ifB (e : Expr) : Expr := kid 2 e
noncomputable def mObj (e : Expr) : Expr := kid 0 (kid 0 e)
noncomputable def fnPos (e : Expr) : Pos := (calOf e).pos
noncomputable def mPos (e : Expr) : Pos := (calOf e).pos
noncomputable def augT (s : Stmt) : Expr := tgtOf s
noncomputable def tstOf (s : Stmt) : Expr := exprOf s
noncomputable def apName (s : Stmt) : Pos := (mObj (exprOf s)).pos
noncomputable def apAttr (s : Stmt) : Pos := (calOf (exprOf s)).pos
noncomputable def apCall (s : Stmt) : Pos := (exprOf s).pos
noncomputable def at_ (b : List Stmt) (i : Nat) : Stmt := b.getD i (.Pass ⟨0, 0, 0, 0⟩)
theorem ex_ret {tab : Tab} {glob : Str → Option V} {n : Nat} {N : Names} {σ : Sto} {ω : Own} {e : Expr} {p : Pos} {d : V} (h : meval tab glob n N (freeze σ ω) none e = some d) : mexec tab glob (n + 1) N σ ω (.Return (some e) p) = some (.ret d) := by
  rw [mx_Return, h]

noncomputable def turnedFn : Fn := (fnOfStmt "_law_turned" PySem.Challenge.pw_sw0011_01.main.body).getD ⟨[], [], []⟩
theorem turned_tab : theTab "_law_turned" = some turnedFn := by kernel_rfl
noncomputable def cnt (n : Nat) (rs : List Int) (k : Int) : Option V := mcall theTab theGlob (n + 25) countFn [.list (rs.map fun r => .bool (decide (r ≥ k + 1))), .bool true]
theorem cnt_eq (n : Nat) (rs : List Int) (k : Int) (h : rs.length ≤ 5) : cnt n rs k = some (.int ((rs.map fun r => decide (r ≥ k + 1)).count true)) := by
  have := count_run (n + 13) (rs.map fun r => decide (r ≥ k + 1)) (by simpa using h)
  rw [List.map_map] at this
  exact this
noncomputable def turnedF (n : Nat) (rs : List Int) (k : V) : Option (Option V) := match k with
  | .int k => (match cnt n rs k with | some y => some (some y) | none => none)
  | _ => none
theorem turnedE5 (n : Nat) (a b c d e : Int) : meval theTab theGlob (n + 27) turnedFn.names [("rows", some (.list [.int a, .int b, .int c, .int d, .int e])), ("range", none), ("len", none)] none (exprOf (at_ turnedFn.body 0)) =
    (match compM (turnedF n [a, b, c, d, e]) [.int 0, .int 1, .int 2, .int 3, .int 4] with | some ys => some (.list ys) | none => none) := by kernel_rfl
theorem turnedE4 (n : Nat) (a b c d : Int) : meval theTab theGlob (n + 27) turnedFn.names [("rows", some (.list [.int a, .int b, .int c, .int d])), ("range", none), ("len", none)] none (exprOf (at_ turnedFn.body 0)) =
    (match compM (turnedF n [a, b, c, d]) [.int 0, .int 1, .int 2, .int 3] with | some ys => some (.list ys) | none => none) := by kernel_rfl
noncomputable def turnedRef (rs : List Int) : List Int := (List.range rs.length).map fun (k : Nat) => (((rs.map fun r => decide (r ≥ (k : Int) + 1)).count true : Nat) : Int)
theorem turned_body : turnedFn.body = [.Return (some (exprOf (at_ turnedFn.body 0))) (posOf (at_ turnedFn.body 0))] := by kernel_rfl
theorem turned_zip (v : V) : zipS turnedFn.params [v] (turnedFn.names.map fun p => (p.1, Option.none)) = some ([("rows", some v), ("range", none), ("len", none)] : Sto) := by kernel_rfl
noncomputable def turnedG (rs : List Int) : V → V
  | .int k => .int ((rs.map fun r => decide (r ≥ k + 1)).count true)
  | v => v
theorem turned_comp (n : Nat) (rs : List Int) (h : rs.length ≤ 5) (ks : List Int) : compM (turnedF n rs) (ks.map .int) = some (ks.map fun k => .int ((rs.map fun r => decide (r ≥ k + 1)).count true)) := by
  rw [compM_map (g := turnedG rs) (ks.map .int) fun x hx => ?_, List.map_map]
  · rfl
  · obtain ⟨k, _, rfl⟩ := List.mem_map.mp hx
    show (match cnt n rs k with | some y => some (some y) | none => none) = _
    rw [cnt_eq n rs k h]
    rfl
theorem turned_run (n : Nat) (rs : List Int) (h : rs.length = 4 ∨ rs.length = 5) : mcall theTab theGlob (n + 30) turnedFn [.list (rs.map .int)] = some (.list ((turnedRef rs).map .int)) := by
  refine call_of (turned_zip _) ?_
  rw [turned_body]
  refine exs_ret (ex_ret ?_)
  show meval theTab theGlob (n + 27) turnedFn.names [("rows", some (.list (rs.map .int))), ("range", none), ("len", none)] none (exprOf (at_ turnedFn.body 0)) = _
  rcases h with h | h
  · obtain ⟨a, b, c, d, rfl⟩ := len4 h
    have e := turned_comp n [a, b, c, d] (by simp) [0, 1, 2, 3]
    exact (turnedE4 n a b c d).trans (by rw [show ([.int 0, .int 1, .int 2, .int 3] : List V) = [0, 1, 2, 3].map V.int from rfl, e]; rfl)
  · obtain ⟨a, b, c, d, e', rfl⟩ := len5 h
    have e := turned_comp n [a, b, c, d, e'] (by simp) [0, 1, 2, 3, 4]
    exact (turnedE5 n a b c d e').trans (by rw [show ([.int 0, .int 1, .int 2, .int 3, .int 4] : List V) = [0, 1, 2, 3, 4].map V.int from rfl, e]; rfl)
end Mine
end
section
open PySem
set_option maxRecDepth 1000000
namespace Mine
-- projections
noncomputable def genOf : Expr → Comprehension
  | .ListComp _ (g :: _) _ _ => g
  | _ => ⟨nil0, nil0, [], 0⟩
noncomputable def scopeOf : Expr → Scope
  | .ListComp _ _ s _ => s
  | _ => { kind := .function, names := [], isGenerator := false, isCoroutine := false }
noncomputable def bodyOf : Stmt → List Stmt
  | .For _ _ b _ _ => b
  | .If _ b _ _ => b
  | _ => []
noncomputable def compAt (E : Expr) : Expr := .ListComp (eltOf E) [⟨(genOf E).target, (genOf E).iter, (genOf E).ifs, 0⟩] (scopeOf E) (posE E)

section
variable {tab : Tab} {glob : Str → Option V} {n : Nat} {N : Names} {σ : Sto} {ω : Own}
theorem ev_comp {E : Expr} {xs ys : List V} (hE : E = compAt E) (hc : (canClose N (scopeOf E) && (oneName (scopeOf E) && ((scopeOf E).kind == .function))) = true) (hx : msrc tab glob n N σ ω (genOf E).iter = some xs)
    (hy : compM (compF tab glob n (scopeOf E) σ ω (genOf E).target (genOf E).ifs (eltOf E)) xs = some ys) : meval tab glob (n + 1) N σ ω E = some (.list ys) := by
  rw [hE]
  unfold compAt
  rw [mv_Comp, if_pos hc, hx]
  change (match compM (compF tab glob n (scopeOf E) σ ω (genOf E).target (genOf E).ifs (eltOf E)) xs with | some ys => some (V.list ys) | none => none) = _
  rw [hy]
theorem ev_bin {l r : Expr} {op : Operator} {p : Pos} {a b d : V} (hl : meval tab glob n N σ ω l = some a) (hr : meval tab glob n N σ ω r = some b) (h : binV op a b = some d) : meval tab glob (n + 1) N σ ω (.BinOp l op r p) = some d := by
  rw [mv_BinOp, hl, hr]; exact h
theorem ev_and {l r : Expr} {p : Pos} {m : Bool} {d : V} (hl : meval tab glob n N σ ω l = some (.bool m)) (hr : m = true → meval tab glob n N σ ω r = some d) : meval tab glob (n + 1) N σ ω (.BoolOp .And [l, r] p) = some (if m then d else .bool false) := by
  rw [mv_And, hl]
  cases m with
  | true => simp only [truthV, if_true]; exact hr rfl
  | false => simp [truthV]
end

theorem compF_of {tab : Tab} {glob : Str → Option V} {n : Nat} {scope : Scope} {σ σ' : Sto} {ω : Own} {target elt : Expr} {ifs : List Expr} {d y : V} (hb : bindT scope.names (inner scope σ) target d = some σ') (ht : mtests tab glob n scope.names σ' (innerOwn scope ω) ifs = some true)
    (he : meval tab glob n scope.names σ' (innerOwn scope ω) elt = some y) : compF tab glob n scope σ ω target ifs elt d = some (some y) := by
  unfold compF; rw [hb]; simp only [ht, he]
theorem compF_no {tab : Tab} {glob : Str → Option V} {n : Nat} {scope : Scope} {σ σ' : Sto} {ω : Own} {target elt : Expr} {ifs : List Expr} {d : V} (hb : bindT scope.names (inner scope σ) target d = some σ') (ht : mtests tab glob n scope.names σ' (innerOwn scope ω) ifs = some false) :
    compF tab glob n scope σ ω target ifs elt d = some none := by
  unfold compF; rw [hb]; simp only [ht]

noncomputable def setsFn : Fn := (fnOfStmt "_law_sets" PySem.Challenge.pw_sw0011_01.main.body).getD ⟨[], [], []⟩
theorem sets_tab : theTab "_law_sets" = some setsFn := by kernel_rfl
noncomputable def setsFor : Stmt := at_ setsFn.body 1
noncomputable def setsE : Expr := exprOf (at_ (bodyOf setsFor) 0)
noncomputable def setsC : Expr := rhs setsE
/-- the store of a turn -/
noncomputable def setsS (L M : List V) (k : Int) : Sto := [("links", some (.list L)), ("marks", some (.list M)), ("k", some (.int k)), ("range", none), ("len", none)]
theorem idx_nat (xs : List V) (k : Nat) (h : k < 2 ^ 20) : idxV (.list xs) (.int k) = xs[k]? := by
  unfold idxV
  have h1 : ((k : Int) == -1) = false := by
    have : (k : Int) ≠ -1 := by omega
    simpa using this
  have h2 : (decide (0 ≤ (k : Int)) && decide ((k : Int) < 2 ^ 20)) = true := by
    simp only [Bool.and_eq_true, decide_eq_true_eq]
    omega
  dsimp only
  rw [h1, Bool.false_and, if_neg Bool.false_ne_true, if_pos h2]
  rfl
noncomputable def natL (n : Nat) : List V := (List.range n).map fun (i : Nat) => .int (i : Int)
/-- one mark -/
noncomputable def mark (ms : List Bool) (l : Int) (r : Nat) : Bool := ms.getD r false && (Builtin.bitAnd (r : Int) (Builtin.bitNot l) == 0)
noncomputable def setsS' (L M : List V) (k r : Int) : Sto := [("links", some (.list L)), ("marks", some (.list M)), ("k", some (.int k)), ("rest", some (.int r))]
theorem sets_a (n : Nat) (L M : List V) (k r : Int) : meval theTab theGlob (n + 20) (scopeOf setsC).names (setsS' L M k r) none (lhs (eltOf setsC)) = idxV (.list M) (.int r) := by kernel_rfl
theorem sets_b (n : Nat) (L M : List V) (k r : Int) : meval theTab theGlob (n + 20) (scopeOf setsC).names (setsS' L M k r) none (rhs (eltOf setsC)) =
    (match (match (match idxV (.list L) (.int k) with | some a => unV .Invert a | none => none) with | some b => binV .BitAnd (.int r) b | none => none) with | some a => (cmpV .Eq a (.int 0)).map .bool | none => none) := by kernel_rfl
theorem sets_elt : eltOf setsC = .BoolOp .And [lhs (eltOf setsC), rhs (eltOf setsC)] (posE (eltOf setsC)) := by kernel_rfl
theorem sets_f (n : Nat) (ms : List Bool) (ls : List Int) (k r : Nat) (l : Int) (hk : k < 2 ^ 20) (hr : r < 2 ^ 20) (hl : ls[k]? = some l) (hm : r < ms.length) :
    compF theTab theGlob (n + 21) (scopeOf setsC) (setsS (ls.map .int) (ms.map .bool) k) none (genOf setsC).target (genOf setsC).ifs (eltOf setsC) (.int (r : Int)) = some (some (.bool (mark ms l r))) := by
  have ea : meval theTab theGlob (n + 20) (scopeOf setsC).names (setsS' (ls.map .int) (ms.map .bool) k r) none (lhs (eltOf setsC)) = some (.bool (ms.getD r false)) := by
    rw [sets_a, idx_nat _ _ hr, List.getElem?_map]
    simp [hm]
  have eb : meval theTab theGlob (n + 20) (scopeOf setsC).names (setsS' (ls.map .int) (ms.map .bool) k r) none (rhs (eltOf setsC)) = some (.bool (Builtin.bitAnd (r : Int) (Builtin.bitNot l) == 0)) := by
    rw [sets_b, idx_nat _ _ hk, List.getElem?_map, hl]
    rfl
  refine compF_of (σ' := setsS' (ls.map .int) (ms.map .bool) k r) (by kernel_rfl) (by kernel_rfl) ?_
  rw [sets_elt]
  refine (ev_and ea (fun _ => eb)).trans ?_
  unfold mark
  cases ms.getD r false <;> rfl
theorem sets_src (n : Nat) (L M : List V) : ∀ k : Nat, k < 5 → msrc theTab theGlob (n + 20) setsFn.names (setsS L M k) none (genOf setsC).iter = some (natL (2 ^ k))
  | 0, _ => by kernel_rfl
  | 1, _ => by kernel_rfl
  | 2, _ => by kernel_rfl
  | 3, _ => by kernel_rfl
  | 4, _ => by kernel_rfl
noncomputable def marksAt (ls : List Int) : Nat → List Bool
  | 0 => [true]
  | k + 1 => marksAt ls k ++ (List.range (2 ^ k)).map (mark (marksAt ls k) (ls.getD k 0))
theorem marksAt_len (ls : List Int) : ∀ k, (marksAt ls k).length = 2 ^ k
  | 0 => rfl
  | k + 1 => by rw [marksAt, List.length_append, marksAt_len ls k, List.length_map, List.length_range, Nat.pow_succ]; omega
noncomputable def mark0 (ms : List Bool) (l : Int) : V → V
  | .int r => .bool (mark ms l r.toNat)
  | v => v
theorem sets_turn (n : Nat) (ls : List Int) (k : Nat) (hk : k < 5) (hl : k < ls.length) :
    meval theTab theGlob (n + 23) setsFn.names (setsS (ls.map .int) ((marksAt ls k).map .bool) k) none setsE = some (.list ((marksAt ls (k + 1)).map .bool)) := by
  have hls : ls[k]? = some (ls.getD k 0) := by simp [hl]
  have p5 : 2 ^ k ≤ 16 := by
    have : k = 0 ∨ k = 1 ∨ k = 2 ∨ k = 3 ∨ k = 4 := by omega
    rcases this with rfl | rfl | rfl | rfl | rfl <;> decide
  have hE : setsE = .BinOp (lhs setsE) .Add setsC (posE setsE) := by kernel_rfl
  rw [hE]
  refine ev_bin (a := .list ((marksAt ls k).map .bool)) (b := .list (((List.range (2 ^ k)).map (mark (marksAt ls k) (ls.getD k 0))).map .bool)) ?_ ?_ ?_
  · exact (show meval theTab theGlob (n + 22) setsFn.names (setsS (ls.map .int) ((marksAt ls k).map .bool) k) none (lhs setsE) = some (.list ((marksAt ls k).map .bool)) by kernel_rfl)
  · refine ev_comp (xs := natL (2 ^ k)) (by kernel_rfl) (by kernel_rfl) (sets_src _ _ _ k hk) ?_
    rw [compM_map (g := mark0 (marksAt ls k) (ls.getD k 0)) _ fun x hx => ?_]
    · unfold natL
      rw [List.map_map, List.map_map]
      rfl
    · obtain ⟨r, hr, rfl⟩ := List.mem_map.mp hx
      have hr' := List.mem_range.mp hr
      exact sets_f n _ ls k r _ (by omega) (by omega) hls (by rw [marksAt_len]; exact hr')
  · show mkL ((marksAt ls k).map .bool ++ ((List.range (2 ^ k)).map (mark (marksAt ls k) (ls.getD k 0))).map .bool) = _
    unfold mkL
    rw [if_pos (by rw [List.length_append, List.length_map, List.length_map, marksAt_len, List.length_map, List.length_range]; omega), marksAt, List.map_append]
end Mine
end
section
open PySem
set_option maxRecDepth 1000000
namespace Mine
theorem loopM_nat {step : Sto → Own → V → Option Res} (S : Nat → Sto × Own) : ∀ (n : Nat), (∀ i, i < n → step (S i).1 (S i).2 (.int (i : Nat)) = some (.next (S (i + 1)).1 (S (i + 1)).2)) → loopM step (S 0).1 (S 0).2 (natL n) = some (.next (S n).1 (S n).2) := by
  have key : ∀ j i, (∀ m, i ≤ m → m < i + j → step (S m).1 (S m).2 (.int (m : Nat)) = some (.next (S (m + 1)).1 (S (m + 1)).2)) →
      loopM step (S i).1 (S i).2 ((List.range' i j).map fun (m : Nat) => .int (m : Int)) = some (.next (S (i + j)).1 (S (i + j)).2) := by
    intro j
    induction j with
    | zero => intro i _; rfl
    | succ j ih =>
      intro i h
      rw [List.range'_succ, List.map_cons, loopM, h i (Nat.le_refl _) (by omega)]
      simp only
      rw [ih (i + 1) fun m h1 h2 => h m (by omega) (by omega)]
      rw [show i + 1 + j = i + (j + 1) by omega]
  intro n h
  have := key n 0 fun m _ hm => h m (by omega)
  rw [Nat.zero_add] at this
  unfold natL
  rw [List.range_eq_range']
  exact this
section
variable {tab : Tab} {glob : Str → Option V} {n : Nat} {N : Names} {σ : Sto} {ω : Own}
theorem ex_assign {s : Stmt} {x : Str} {px p : Pos} {e : Expr} {d : V} (hs : s = .Assign [.Name x px] e p) (hl : ∀ es q, e ≠ .List es q) (hx : isVar N x = true) (h : meval tab glob n N (frozenFor e σ ω).1 (frozenFor e σ ω).2 e = some d) :
    mexec tab glob (n + 1) N σ ω s = some (.next (sput x (some d) (frozenFor e σ ω).1) (dropOwn x (frozenFor e σ ω).2)) := by
  subst hs
  rw [mx_Assign hl]
  unfold assignR
  rw [if_pos hx, h]
theorem for_step {x : Str} {px : Pos} {body : List Stmt} {σ1 : Sto} {ω1 : Own} {d : V} {r : Option Res} (hb : bindT N σ (.Name x px) d = some σ1) (hd : dropOwn x ω = ω1) (h : mexecs tab glob n N σ1 ω1 body = r) : forStep tab glob n N x px body σ ω d = r := by
  unfold forStep
  rw [hb, hd]
  exact h
theorem ex_for {s : Stmt} {x : Str} {px p : Pos} {iter : Expr} {body : List Stmt} {xs : List V} {r : Res} (hs : s = .For (.Name x px) iter body [] p) (hx : msrc tab glob n N (frozenFor iter σ ω).1 (frozenFor iter σ ω).2 iter = some xs)
    (h : loopM (forStep tab glob n N x px body) (frozenFor iter σ ω).1 (frozenFor iter σ ω).2 xs = some r) : mexec tab glob (n + 1) N σ ω s = some r := by
  subst hs
  rw [mx_For, hx]
  change (match loopM (forStep tab glob n N x px body) (frozenFor iter σ ω).1 (frozenFor iter σ ω).2 xs with | some (.ret d) => some (Res.ret d) | some (.next σ' ω') => (if ([] : List Stmt).isEmpty = true then some (Res.next σ' ω') else none) | none => none) = some r
  rw [h]
  cases r <;> rfl
end
noncomputable def setsAsg : Stmt := at_ (bodyOf setsFor) 0
/-- the frame ahead of turn i -/
noncomputable def setsSt (ls : List Int) : Nat → Sto × Own
  | 0 => ([("links", some (.list (ls.map .int))), ("marks", none), ("k", none), ("range", none), ("len", none)], some ("marks", [.bool true]))
  | i + 1 => (setsS (ls.map .int) ((marksAt ls (i + 1)).map .bool) (i : Nat), none)
noncomputable def setsStep (n : Nat) : Sto → Own → V → Option Res := forStep theTab theGlob n setsFn.names "k" (tgtPos setsFor) (bodyOf setsFor)
theorem sets_body : bodyOf setsFor = [.Assign [.Name "marks" (tgtPos setsAsg)] setsE (posOf setsAsg)] := by kernel_rfl
theorem setsE_list : ∀ es q, setsE ≠ .List es q := by
  have h : setsE = .BinOp (lhs setsE) .Add setsC (posE setsE) := by kernel_rfl
  intro es q e
  rw [h] at e; cases e
theorem sets_step (n : Nat) (ls : List Int) (i : Nat) (hi : i < 5) (hl : i < ls.length) : setsStep (n + 26) (setsSt ls i).1 (setsSt ls i).2 (.int (i : Nat)) = some (.next (setsSt ls (i + 1)).1 (setsSt ls (i + 1)).2) := by
  have core : ∀ σ ω σ2 ω2, bindT setsFn.names σ (.Name "k" (tgtPos setsFor)) (.int (i : Nat)) = some σ2 → dropOwn "k" ω = ω2 → frozenFor setsE σ2 ω2 = (setsS (ls.map .int) ((marksAt ls i).map .bool) i, none) →
      setsStep (n + 26) σ ω (.int (i : Nat)) = some (.next (setsSt ls (i + 1)).1 (setsSt ls (i + 1)).2) := by
    intro σ ω σ2 ω2 hb hd hf
    unfold setsStep
    refine for_step hb hd ?_
    rw [sets_body]
    have ea : mexec theTab theGlob (n + 25) setsFn.names σ2 ω2 (.Assign [.Name "marks" (tgtPos setsAsg)] setsE (posOf setsAsg)) = _ :=
      ex_assign (d := .list ((marksAt ls (i + 1)).map .bool)) rfl setsE_list (by kernel_rfl) (by rw [hf]; exact sets_turn (n + 1) ls i hi hl)
    rw [hf] at ea
    refine (exs_next ea).trans ?_
    exact (show mexecs theTab theGlob (n + 25) setsFn.names (setsS (ls.map .int) ((marksAt ls (i + 1)).map .bool) i) none [] = _ by kernel_rfl)
  cases i with
  | zero => exact core _ _ [("links", some (.list (ls.map .int))), ("marks", none), ("k", some (.int 0)), ("range", none), ("len", none)] (some ("marks", [.bool true])) (by kernel_rfl) (by kernel_rfl) (by kernel_rfl)
  | succ i => exact core _ _ (setsS (ls.map .int) ((marksAt ls (i + 1)).map .bool) (i + 1 : Nat)) none (by kernel_rfl) (by kernel_rfl) (by kernel_rfl)
theorem sets_iter4 (n : Nat) (a b c d : Int) (ω : Own) : msrc theTab theGlob (n + 20) setsFn.names (setsSt [a, b, c, d] 0).1 (setsSt [a, b, c, d] 0).2 (exprOf setsFor) = some (natL 4) := by kernel_rfl
theorem sets_iter5 (n : Nat) (a b c d e : Int) (ω : Own) : msrc theTab theGlob (n + 20) setsFn.names (setsSt [a, b, c, d, e] 0).1 (setsSt [a, b, c, d, e] 0).2 (exprOf setsFor) = some (natL 5) := by kernel_rfl
theorem sets_for : setsFor = .For (.Name "k" (tgtPos setsFor)) (exprOf setsFor) (bodyOf setsFor) [] (posOf setsFor) := by kernel_rfl
theorem sets_bd : setsFn.body = [at_ setsFn.body 0, setsFor, .Return (some (exprOf (at_ setsFn.body 2))) (posOf (at_ setsFn.body 2))] := by kernel_rfl
theorem sets_run (n : Nat) (ls : List Int) (h : ls.length = 4 ∨ ls.length = 5) : mcall theTab theGlob (n + 40) setsFn [.list (ls.map .int)] = some (.list ((marksAt ls ls.length).map .bool)) := by
  refine call_of (σ := [("links", some (.list (ls.map .int))), ("marks", none), ("k", none), ("range", none), ("len", none)]) (by kernel_rfl) ?_
  rw [sets_bd]
  refine (exs_next (σ' := (setsSt ls 0).1) (ω' := (setsSt ls 0).2) (by kernel_rfl)).trans ?_
  have src : msrc theTab theGlob (n + 36) setsFn.names (setsSt ls 0).1 (setsSt ls 0).2 (exprOf setsFor) = some (natL ls.length) := by
    rcases h with h | h
    · obtain ⟨a, b, c, d, rfl⟩ := len4 h
      exact sets_iter4 (n + 16) a b c d none
    · obtain ⟨a, b, c, d, e, rfl⟩ := len5 h
      exact sets_iter5 (n + 16) a b c d e none
  have fz : frozenFor (exprOf setsFor) (setsSt ls 0).1 (setsSt ls 0).2 = setsSt ls 0 := by kernel_rfl
  have loop := loopM_nat (step := setsStep (n + 36)) (setsSt ls) ls.length fun i hi => sets_step (n + 10) ls i (by omega) hi
  refine (exs_next (ex_for sets_for (by rw [fz]; exact src) (by rw [fz]; exact loop))).trans ?_
  refine exs_ret (ex_ret ?_)
  obtain ⟨m, hm⟩ : ∃ m, ls.length = m + 1 := ⟨ls.length - 1, by omega⟩
  rw [hm]
  exact (show meval theTab theGlob (n + 36) setsFn.names (freeze (setsS (ls.map .int) ((marksAt ls (m + 1)).map .bool) (m : Nat)) none) none (exprOf (at_ setsFn.body 2)) = _ by kernel_rfl)
end Mine
end
section
open PySem
set_option maxRecDepth 1000000
namespace Mine
section
variable {tab : Tab} {glob : Str → Option V} {n : Nat} {N : Names} {σ : Sto} {ω : Own}
theorem tests_one {c : Expr} {b : Bool} (h : mtest tab glob (n + 1) N σ ω c = some b) : mtests tab glob (n + 2) N σ ω [c] = some b := by
  show (match mtest tab glob (n + 1) N σ ω c with | some true => mtests tab glob (n + 1) N σ ω [] | t => t) = _
  rw [h]
  cases b <;> rfl
theorem compF_if {scope : Scope} {σ' : Sto} {target elt : Expr} {ifs : List Expr} {d : V} {b : Bool} {o : Option (Option V)} (hb : bindT scope.names (inner scope σ) target d = some σ') (ht : mtests tab glob n scope.names σ' (innerOwn scope ω) ifs = some b)
    (he : b = true → (match meval tab glob n scope.names σ' (innerOwn scope ω) elt with | some y => some (some y) | none => none) = o) (hn : b = false → o = some none) : compF tab glob n scope σ ω target ifs elt d = o := by
  unfold compF; rw [hb]; simp only [ht]
  cases b with
  | true => exact he rfl
  | false => exact (hn rfl).symm
end
noncomputable def optMap {α β : Type} (h : α → Option β) : List α → Option (List β)
  | [] => some []
  | x :: r => (match h x with | some y => (optMap h r).map (y :: ·) | none => none)
theorem compM_opt {α : Type} {f : V → Option (Option V)} {b : α → Bool} {h : α → Option V} (inj : α → V) : ∀ (xs : List α), (∀ x ∈ xs, f (inj x) = if b x then (match h x with | some y => some (some y) | none => none) else some none) → compM f (xs.map inj) = optMap h (xs.filter b)
  | [], _ => rfl
  | x :: r, hf => by
    rw [List.map_cons, compM, hf x List.mem_cons_self]
    have ih := compM_opt (f := f) (b := b) (h := h) inj r fun y hy => hf y (List.mem_cons_of_mem _ hy)
    cases hb : b x with
    | false => simp only [Bool.false_eq_true, if_false]; rw [ih, List.filter_cons, hb]; rfl
    | true =>
      simp only [if_true]
      rw [List.filter_cons, hb]
      cases hh : h x with
      | none => simp [optMap, hh]
      | some y => simp only [if_true, optMap, hh]; rw [ih]

theorem getD_at {α : Type} {xs : List α} {i : Nat} {d : α} (h : i < xs.length) : xs[i]? = some (xs.getD i d) := by
  rw [List.getD_eq_getElem?_getD, List.getElem?_eq_getElem h]; rfl
noncomputable def shapeFn : Fn := (fnOfStmt "_law_shape" PySem.Challenge.pw_sw0011_01.main.body).getD ⟨[], [], []⟩
theorem shape_tab : theTab "_law_shape" = some shapeFn := by kernel_rfl
/-- the store: marks, size, sets, ones, k, need, chosen, most -/
noncomputable def shS (m s t o k nd c mo : Option V) : Sto := [("marks", m), ("size", s), ("sets", t), ("ones", o), ("k", k), ("need", nd), ("chosen", c), ("most", mo), ("range", none), ("min", none), ("max", none)]
noncomputable def fromOne (n : Nat) : List Int := (List.range (2 ^ n - 1)).map fun (i : Nat) => (i : Int) + 1
noncomputable def shSets (ms : List Bool) (n : Nat) : List Int := (fromOne n).filter fun one => ms.getD one.toNat false
noncomputable def sh0 : Expr := exprOf (at_ shapeFn.body 0)
theorem sh0_src4 (k : Nat) (m : Option V) : msrc theTab theGlob (k + 20) shapeFn.names (shS m (some (.int 4)) none none none none none none) none (genOf sh0).iter = some ((fromOne 4).map .int) := by kernel_rfl
theorem sh0_src5 (k : Nat) (m : Option V) : msrc theTab theGlob (k + 20) shapeFn.names (shS m (some (.int 5)) none none none none none none) none (genOf sh0).iter = some ((fromOne 5).map .int) := by kernel_rfl
theorem idx_int (xs : List V) (i : Int) (h0 : 0 ≤ i) (h : i < 2 ^ 20) : idxV (.list xs) (.int i) = xs[i.toNat]? := by
  have := idx_nat xs i.toNat (by omega)
  rw [show ((i.toNat : Nat) : Int) = i by omega] at this
  exact this
noncomputable def sh0S (M : List V) (one : Int) : Sto := [("marks", some (.list M)), ("one", some (.int one))]
theorem sh0_test (k : Nat) (M : List V) (one : Int) : meval theTab theGlob (k + 17) (scopeOf sh0).names (sh0S M one) none ((genOf sh0).ifs.getD 0 nil0) = idxV (.list M) (.int one) := by kernel_rfl
theorem sh0_plain (k : Nat) (M : List V) (one : Int) : mtest theTab theGlob (k + 18) (scopeOf sh0).names (sh0S M one) none ((genOf sh0).ifs.getD 0 nil0) = (match meval theTab theGlob (k + 17) (scopeOf sh0).names (sh0S M one) none ((genOf sh0).ifs.getD 0 nil0) with | some d => truthV d | none => none) := by kernel_rfl
theorem sh0_ifs : (genOf sh0).ifs = [(genOf sh0).ifs.getD 0 nil0] := by kernel_rfl
theorem filter_map_int (l : List Int) (b : Int → Bool) : optMap (fun x : Int => some (V.int x)) (l.filter b) = some ((l.filter b).map .int) := by
  induction l.filter b with
  | nil => rfl
  | cons x r ih => simp only [optMap, ih]; rfl
theorem sh0_run (k n : Nat) (ms : List Bool) (hn : n = 4 ∨ n = 5) (hl : ms.length = 2 ^ n) :
    meval theTab theGlob (k + 21) shapeFn.names (shS (some (.list (ms.map .bool))) (some (.int n)) none none none none none none) none sh0 = some (.list ((shSets ms n).map .int)) := by
  refine ev_comp (xs := (fromOne n).map .int) (by kernel_rfl) (by kernel_rfl) ?_ ?_
  · rcases hn with rfl | rfl
    · exact sh0_src4 k _
    · exact sh0_src5 k _
  · rw [compM_opt (b := fun one : Int => ms.getD one.toNat false) (h := fun one => some (.int one)) V.int (fromOne n) fun one ho => ?_]
    · exact filter_map_int _ _
    · obtain ⟨i, hi, rfl⟩ := List.mem_map.mp ho
      have hi := List.mem_range.mp hi
      have p : 2 ^ n ≤ 32 := by rcases hn with rfl | rfl <;> decide
      have ht : mtests theTab theGlob (k + 20) (scopeOf sh0).names (sh0S (ms.map .bool) ((i : Int) + 1)) none (genOf sh0).ifs = some (ms.getD ((i : Int) + 1).toNat false) := by
        rw [sh0_ifs]
        refine tests_one ?_
        show mtest theTab theGlob (k + 1 + 18) _ _ _ _ = _
        rw [sh0_plain, sh0_test, idx_int _ _ (by omega) (by omega), List.getElem?_map]
        rw [getD_at (d := false) (show ((i : Int) + 1).toNat < ms.length by omega)]
        rfl
      refine compF_if (σ' := sh0S (ms.map .bool) ((i : Int) + 1)) (by kernel_rfl) ht (fun e => ?_) (fun e => ?_)
      · rw [e, if_pos rfl]; kernel_rfl
      · rw [e, if_neg Bool.false_ne_true]
-- ones
noncomputable def shOnes : Nat → List Int
  | 0 => [0]
  | k + 1 => shOnes k ++ (shOnes k).map (· + 1)
theorem shOnes_le : ∀ k, ∀ x ∈ shOnes k, 0 ≤ x ∧ x ≤ k
  | 0, x, h => by simp [shOnes] at h; subst h; omega
  | k + 1, x, h => by
    rw [shOnes, List.mem_append] at h
    rcases h with h | h
    · have := shOnes_le k x h; omega
    · obtain ⟨y, hy, rfl⟩ := List.mem_map.mp h
      have := shOnes_le k y hy; omega
theorem shOnes_len : ∀ k, (shOnes k).length = 2 ^ k
  | 0 => rfl
  | k + 1 => by rw [shOnes, List.length_append, List.length_map, shOnes_len k, Nat.pow_succ]; omega
/-- the loop over ones -/
noncomputable def sh2 : Stmt := at_ shapeFn.body 2
noncomputable def sh2E : Expr := exprOf (at_ (bodyOf sh2) 0)
noncomputable def sh2A : Stmt := at_ (bodyOf sh2) 0
noncomputable def sh2St (M S : V) (n : Int) : Nat → Sto × Own
  | 0 => (shS (some M) (some (.int n)) (some S) none none none none none, some ("ones", [.int 0]))
  | i + 1 => (shS (some M) (some (.int n)) (some S) (some (.list ((shOnes (i + 1)).map .int))) (some (.int (i : Nat))) none none none, none)
noncomputable def addOne : V → V
  | .int i => .int (i + 1)
  | v => v
theorem sh2_elt (k : Nat) (x : Int) : meval theTab theGlob (k + 18) (scopeOf (rhs sh2E)).names [("count", some (.int x))] none (eltOf (rhs sh2E)) = binV .Add (.int x) (.int 1) := by kernel_rfl
theorem sh2_body : bodyOf sh2 = [.Assign [.Name "ones" (tgtPos sh2A)] sh2E (posOf sh2A)] := by kernel_rfl
theorem sh2_list : ∀ es q, sh2E ≠ .List es q := by
  have h : sh2E = .BinOp (lhs sh2E) .Add (rhs sh2E) (posE sh2E) := by kernel_rfl
  intro es q e
  rw [h] at e; cases e
theorem sh2_turn (k : Nat) (M S : V) (n : Int) (i : Nat) (hi : i < 5) :
    meval theTab theGlob (k + 23) shapeFn.names (shS (some M) (some (.int n)) (some S) (some (.list ((shOnes i).map .int))) (some (.int (i : Nat))) none none none) none sh2E = some (.list ((shOnes (i + 1)).map .int)) := by
  have hE : sh2E = .BinOp (lhs sh2E) .Add (rhs sh2E) (posE sh2E) := by kernel_rfl
  have p : 2 ^ i ≤ 16 := by
    have : i = 0 ∨ i = 1 ∨ i = 2 ∨ i = 3 ∨ i = 4 := by omega
    rcases this with rfl | rfl | rfl | rfl | rfl <;> decide
  rw [hE]
  refine ev_bin (a := .list ((shOnes i).map .int)) (b := .list (((shOnes i).map (· + 1)).map .int)) (by kernel_rfl) ?_ ?_
  · refine ev_comp (xs := (shOnes i).map .int) (by kernel_rfl) (by kernel_rfl) ?_ ?_
    · have e : msrc theTab theGlob (k + 21) shapeFn.names (shS (some M) (some (.int n)) (some S) (some (.list ((shOnes i).map .int))) (some (.int (i : Nat))) none none none) none (genOf (rhs sh2E)).iter = itemsV (.list ((shOnes i).map .int)) := by kernel_rfl
      rw [e]
      unfold itemsV
      simp only
      rw [if_pos (by rw [List.length_map, shOnes_len]; omega)]
    · rw [compM_map (g := addOne) _ fun x hx => ?_]
      · rw [List.map_map, List.map_map]; rfl
      · obtain ⟨y, hy, rfl⟩ := List.mem_map.mp hx
        have hb := shOnes_le i y hy
        refine compF_of (σ' := [("count", some (.int y))]) (by kernel_rfl) (by kernel_rfl) ?_
        exact (sh2_elt (k + 3) y).trans (mkI_of (by omega) (by omega))
  · show mkL ((shOnes i).map .int ++ ((shOnes i).map (· + 1)).map .int) = _
    unfold mkL
    rw [if_pos (by rw [List.length_append, List.length_map, List.length_map, List.length_map, shOnes_len]; omega), shOnes, List.map_append]
theorem sh2_step (k : Nat) (M S : V) (n : Int) (i : Nat) (hi : i < 5) : forStep theTab theGlob (k + 26) shapeFn.names "k" (tgtPos sh2) (bodyOf sh2) (sh2St M S n i).1 (sh2St M S n i).2 (.int (i : Nat)) = some (.next (sh2St M S n (i + 1)).1 (sh2St M S n (i + 1)).2) := by
  have core : ∀ σ ω σ2 ω2, bindT shapeFn.names σ (.Name "k" (tgtPos sh2)) (.int (i : Nat)) = some σ2 → dropOwn "k" ω = ω2 → frozenFor sh2E σ2 ω2 = (shS (some M) (some (.int n)) (some S) (some (.list ((shOnes i).map .int))) (some (.int (i : Nat))) none none none, none) →
      forStep theTab theGlob (k + 26) shapeFn.names "k" (tgtPos sh2) (bodyOf sh2) σ ω (.int (i : Nat)) = some (.next (sh2St M S n (i + 1)).1 (sh2St M S n (i + 1)).2) := by
    intro σ ω σ2 ω2 hb hd hf
    refine for_step hb hd ?_
    rw [sh2_body]
    have ea : mexec theTab theGlob (k + 25) shapeFn.names σ2 ω2 (.Assign [.Name "ones" (tgtPos sh2A)] sh2E (posOf sh2A)) = _ :=
      ex_assign (d := .list ((shOnes (i + 1)).map .int)) rfl sh2_list (by kernel_rfl) (by rw [hf]; exact sh2_turn (k + 1) M S n i hi)
    rw [hf] at ea
    refine (exs_next ea).trans ?_
    exact (show mexecs theTab theGlob (k + 25) shapeFn.names (sh2St M S n (i + 1)).1 none [] = _ by kernel_rfl)
  cases i with
  | zero => exact core _ _ (shS (some M) (some (.int n)) (some S) none (some (.int 0)) none none none) (some ("ones", [.int 0])) (by kernel_rfl) (by kernel_rfl) (by kernel_rfl)
  | succ i => exact core _ _ (shS (some M) (some (.int n)) (some S) (some (.list ((shOnes (i + 1)).map .int))) (some (.int (i + 1 : Nat))) none none none) none (by kernel_rfl) (by kernel_rfl) (by kernel_rfl)
theorem sh2_for : sh2 = .For (.Name "k" (tgtPos sh2)) (exprOf sh2) (bodyOf sh2) [] (posOf sh2) := by kernel_rfl
theorem sh2_src4 (k : Nat) (M S : V) : msrc theTab theGlob (k + 20) shapeFn.names (sh2St M S 4 0).1 (sh2St M S 4 0).2 (exprOf sh2) = some (natL 4) := by kernel_rfl
theorem sh2_src5 (k : Nat) (M S : V) : msrc theTab theGlob (k + 20) shapeFn.names (sh2St M S 5 0).1 (sh2St M S 5 0).2 (exprOf sh2) = some (natL 5) := by kernel_rfl
theorem sh2_run (k n : Nat) (hn : n = 4 ∨ n = 5) (M S : V) : mexec theTab theGlob (k + 27) shapeFn.names (sh2St M S n 0).1 (sh2St M S n 0).2 sh2 = some (.next (sh2St M S n n).1 (sh2St M S n n).2) := by
  have fz : frozenFor (exprOf sh2) (sh2St M S n 0).1 (sh2St M S n 0).2 = sh2St M S n 0 := by kernel_rfl
  refine ex_for sh2_for (xs := natL n) ?_ ?_
  · rw [fz]
    rcases hn with rfl | rfl
    · exact sh2_src4 (k + 6) M S
    · exact sh2_src5 (k + 6) M S
  · rw [fz]
    exact loopM_nat (sh2St M S n) n fun i hi => sh2_step k M S n i (by omega)
end Mine
end
section
open PySem
set_option maxRecDepth 1000000
namespace Mine
theorem loopM_el {step : Sto → Own → V → Option Res} (el : Nat → V) (S : Nat → Sto × Own) (n : Nat) (h : ∀ i, i < n → step (S i).1 (S i).2 (el i) = some (.next (S (i + 1)).1 (S (i + 1)).2)) : loopM step (S 0).1 (S 0).2 ((List.range n).map el) = some (.next (S n).1 (S n).2) := by
  have key : ∀ j i, (∀ m, i ≤ m → m < i + j → step (S m).1 (S m).2 (el m) = some (.next (S (m + 1)).1 (S (m + 1)).2)) →
      loopM step (S i).1 (S i).2 ((List.range' i j).map el) = some (.next (S (i + j)).1 (S (i + j)).2) := by
    intro j
    induction j with
    | zero => intro i _; rfl
    | succ j ih =>
      intro i h
      rw [List.range'_succ, List.map_cons, loopM, h i (Nat.le_refl _) (by omega)]
      simp only
      rw [ih (i + 1) fun m h1 h2 => h m (by omega) (by omega)]
      rw [show i + 1 + j = i + (j + 1) by omega]
  have := key n 0 fun m _ hm => h m (by omega)
  rw [Nat.zero_add] at this
  rw [List.range_eq_range']
  exact this
section
variable {tab : Tab} {glob : Str → Option V} {n : Nat} {N : Names} {σ : Sto}
theorem ex_append {s : Stmt} {x : Str} {px ap cp p : Pos} {e : Expr} {xs : List V} {d : V} (hs : s = .Expr (.Call (.Attribute (.Name x px) "append" ap) [e] [] cp) p) (hc : (okN x && ap.endLine == cp.line) = true) (h : meval tab glob n N σ (some (x, xs)) e = some d) (hl : xs.length ≤ 4096) :
    mexec tab glob (n + 1) N σ (some (x, xs)) s = some (.next σ (some (x, xs ++ [d]))) := by
  subst hs
  rw [mx_Append]
  have e1 : ((("append" : Str) == "append") && (okN x && ap.endLine == cp.line)) = true := by rw [hc]; rfl
  rw [if_pos e1]
  simp only [beq_self_eq_true, if_true]
  rw [h]
  simp only
  rw [if_pos hl]
end
noncomputable def smallO (i : Int) : Option Int := if small i then some i else none
theorem mkI_O (i : Int) : mkI i = (smallO i).map .int := by unfold mkI smallO; split <;> rfl
noncomputable def shIdx (one ch : Int) : Int := Builtin.bitAnd ch (Builtin.bitNot one)
noncomputable def shCond (ch one : Int) : Bool := Builtin.bitAnd (Builtin.bitAnd one ch) (-ch) != 0
noncomputable def idxI (xs : List Int) (i : Int) : Option Int := if i == -1 && decide (xs.length ≤ 4096) then xs[xs.length - 1]? else if decide (0 ≤ i) && decide (i < 2 ^ 20) then xs[i.toNat]? else none
theorem idxI_eq (xs : List Int) (i : Int) : idxV (.list (xs.map .int)) (.int i) = (idxI xs i).map .int := by
  unfold idxV idxI
  dsimp only
  rw [List.length_map]
  split
  · rw [List.getElem?_map]
  · split
    · rw [List.getElem?_map]
    · rfl
noncomputable def shVal (nd : List Int) (ch one : Int) : Option Int := idxI nd (shIdx one ch)
noncomputable def shVals (sets nd : List Int) (ch : Int) : Option (List Int) := optMap (shVal nd ch) (sets.filter (shCond ch))
noncomputable def shTurn (sets nd : List Int) (ch : Int) : Option Int := (shVals sets nd ch).bind fun xs => (minL xs).bind fun m => smallO (1 + m)
noncomputable def shNeed (sets : List Int) : Nat → Option (List Int)
  | 0 => some [0]
  | c + 1 => (shNeed sets c).bind fun nd => (shTurn sets nd ((c : Int) + 1)).map fun v => nd ++ [v]
theorem shNeed_len {sets : List Int} : ∀ {c : Nat} {nd : List Int}, shNeed sets c = some nd → nd.length = c + 1
  | 0, nd, h => by cases h; rfl
  | c + 1, nd, h => by
    rw [shNeed] at h
    cases h1 : shNeed sets c with
    | none => rw [h1] at h; cases h
    | some nd' =>
      rw [h1] at h
      simp only [Option.bind_some] at h
      cases h2 : shTurn sets nd' ((c : Int) + 1) with
      | none => rw [h2] at h; cases h
      | some v =>
        rw [h2] at h; cases h
        rw [List.length_append, shNeed_len h1]; rfl
theorem shNeed_prev {sets : List Int} {c : Nat} {nd : List Int} (h : shNeed sets (c + 1) = some nd) : ∃ nd' v, shNeed sets c = some nd' ∧ shTurn sets nd' ((c : Int) + 1) = some v ∧ nd = nd' ++ [v] := by
  rw [shNeed] at h
  cases h1 : shNeed sets c with
  | none => rw [h1] at h; cases h
  | some nd' =>
    rw [h1] at h
    simp only [Option.bind_some] at h
    cases h2 : shTurn sets nd' ((c : Int) + 1) with
    | none => rw [h2] at h; cases h
    | some v => rw [h2] at h; cases h; exact ⟨nd', v, rfl, h2, rfl⟩

noncomputable def sh4 : Stmt := at_ shapeFn.body 4
noncomputable def sh4X : Expr := arg 0 (exprOf (at_ (bodyOf sh4) 0))
noncomputable def sh4C : Expr := arg 0 (rhs sh4X)
noncomputable def sh4S (M S : V) (n : Int) (O : V) (ch : Int) : Sto := shS (some M) (some (.int n)) (some S) (some O) (some (.int (n - 1))) none (some (.int ch)) none
noncomputable def sh4I (ch one : Int) : Sto := [("need", none), ("chosen", some (.int ch)), ("one", some (.int one))]
theorem sh4_test0 (k : Nat) (ch one : Int) (nd : List V) : mtests theTab theGlob (k + 20) (scopeOf sh4C).names (sh4I ch one) (some ("need", nd)) (genOf sh4C).ifs = some (shCond ch one) := by
  have e : (genOf sh4C).ifs = [(genOf sh4C).ifs.getD 0 nil0] := by kernel_rfl
  rw [e]
  refine tests_one ?_
  kernel_rfl
theorem sh4_elt (k : Nat) (ch one : Int) (nd : List V) : meval theTab theGlob (k + 20) (scopeOf sh4C).names (sh4I ch one) (some ("need", nd)) (eltOf sh4C) = idxV (.list nd) (.int (shIdx one ch)) := by kernel_rfl
theorem sh4_f (k : Nat) (M S : V) (n : Int) (O : V) (nd : List Int) (ch one : Int) :
    compF theTab theGlob (k + 20) (scopeOf sh4C) (sh4S M S n O ch) (some ("need", nd.map .int)) (genOf sh4C).target (genOf sh4C).ifs (eltOf sh4C) (.int one) = if shCond ch one then (match (shVal nd ch one).map V.int with | some y => some (some y) | none => none) else some none := by
  refine compF_if (σ' := sh4I ch one) (by kernel_rfl) (sh4_test0 k ch one _) (fun e => ?_) (fun e => by rw [if_neg (by rw [e]; exact Bool.false_ne_true)])
  rw [if_pos e]
  show (match meval theTab theGlob (k + 20) (scopeOf sh4C).names (sh4I ch one) (some ("need", nd.map .int)) (eltOf sh4C) with | some y => some (some y) | none => none) = _
  rw [sh4_elt, idxI_eq]
  rfl
theorem optMap_map {α : Type} (h : α → Option Int) : ∀ (xs : List α), optMap (fun x => (h x).map V.int) xs = (optMap h xs).map fun ys => ys.map V.int
  | [] => rfl
  | x :: r => by
    simp only [optMap]
    cases h x with
    | none => rfl
    | some y =>
      simp only [Option.map_some]
      rw [optMap_map h r]
      cases optMap h r <;> rfl
theorem sh4_comp (k : Nat) (M : V) (sets : List Int) (n : Int) (O : V) (nd : List Int) (ch : Int) (hl : sets.length ≤ 4096) {xs : List Int} (h : shVals sets nd ch = some xs) :
    meval theTab theGlob (k + 21) shapeFn.names (sh4S M (.list (sets.map .int)) n O ch) (some ("need", nd.map .int)) sh4C = some (.list (xs.map .int)) := by
  refine ev_comp (xs := sets.map .int) (by kernel_rfl) (by kernel_rfl) ?_ ?_
  · have e : msrc theTab theGlob (k + 20) shapeFn.names (sh4S M (.list (sets.map .int)) n O ch) (some ("need", nd.map .int)) (genOf sh4C).iter = itemsV (.list (sets.map .int)) := by kernel_rfl
    rw [e]
    unfold itemsV
    dsimp only
    rw [if_pos (by rw [List.length_map]; exact hl)]
  · rw [compM_opt (b := shCond ch) (h := fun one => (shVal nd ch one).map V.int) V.int sets fun one _ => sh4_f k M _ n O nd ch one, optMap_map]
    show (shVals sets nd ch).map _ = _
    rw [h]; rfl
theorem intsOf_map : ∀ (xs : List Int), intsOf (xs.map .int) = some xs
  | [] => rfl
  | x :: r => by rw [List.map_cons, intsOf, intsOf_map r]; rfl
theorem optMap_len {α β : Type} {h : α → Option β} : ∀ {xs : List α} {ys : List β}, optMap h xs = some ys → ys.length = xs.length
  | [], ys, e => by cases e; rfl
  | x :: r, ys, e => by
    simp only [optMap] at e
    cases hx : h x with
    | none => rw [hx] at e; cases e
    | some y =>
      rw [hx] at e
      simp only at e
      cases hr : optMap h r with
      | none => rw [hr] at e; cases e
      | some zs => rw [hr] at e; cases e; rw [List.length_cons, optMap_len hr]; rfl
theorem sh4_ev (k : Nat) (M : V) (sets : List Int) (n : Int) (O : V) (nd : List Int) (ch : Int) (hl : sets.length ≤ 4096) {v : Int} (h : shTurn sets nd ch = some v) :
    meval theTab theGlob (k + 24) shapeFn.names (sh4S M (.list (sets.map .int)) n O ch) (some ("need", nd.map .int)) sh4X = some (.int v) := by
  unfold shTurn at h
  cases h1 : shVals sets nd ch with
  | none => rw [h1] at h; cases h
  | some xs =>
    rw [h1] at h
    simp only [Option.bind_some] at h
    cases h2 : minL xs with
    | none => rw [h2] at h; cases h
    | some m =>
      rw [h2] at h
      simp only [Option.bind_some] at h
      have hlen : xs.length ≤ 4096 := by
        unfold shVals at h1
        rw [optMap_len h1]
        exact Nat.le_trans (List.length_filter_le _ _) hl
      have hE : sh4X = .BinOp (lhs sh4X) .Add (rhs sh4X) (posE sh4X) := by kernel_rfl
      rw [hE]
      refine ev_bin (a := .int 1) (b := .int m) (by kernel_rfl) ?_ ?_
      · have e : meval theTab theGlob (k + 23) shapeFn.names (sh4S M (.list (sets.map .int)) n O ch) (some ("need", nd.map .int)) (rhs sh4X) =
            (match (match meval theTab theGlob (k + 21) shapeFn.names (sh4S M (.list (sets.map .int)) n O ch) (some ("need", nd.map .int)) sh4C with | some d => some [d] | none => none) with | some ds => callB "min" ds | none => none) := by kernel_rfl
        rw [e, sh4_comp k M sets n O nd ch hl h1]
        show (if (xs.map V.int).length ≤ 4096 then ((intsOf (xs.map .int)).bind minL).map V.int else none) = _
        rw [if_pos (by rw [List.length_map]; exact hlen), intsOf_map]
        show (minL xs).map V.int = _
        rw [h2]; rfl
      · show mkI (1 + m) = _
        rw [mkI_O, h]; rfl
noncomputable def appSt (x : Str) (s : Stmt) : Stmt := .Expr (.Call (.Attribute (.Name x (apName s)) "append" (apAttr s)) [arg 0 (exprOf s)] [] (apCall s)) (posOf s)
noncomputable def sh4St (M S : V) (n : Int) (O : V) (sets : List Int) (i : Nat) : Sto × Own :=
  (shS (some M) (some (.int n)) (some S) (some O) (some (.int (n - 1))) none (if i = 0 then none else some (.int (i : Nat))) none, some ("need", ((shNeed sets i).getD []).map .int))
theorem sh4_app : bodyOf sh4 = [appSt "need" (at_ (bodyOf sh4) 0)] := by kernel_rfl
theorem sh4_step (k : Nat) (M : V) (sets : List Int) (n : Int) (O : V) (hl : sets.length ≤ 4096) (i : Nat) {nd : List Int} (hi : i + 1 ≤ 4096) (h : shNeed sets (i + 1) = some nd) :
    forStep theTab theGlob (k + 26) shapeFn.names "chosen" (tgtPos sh4) (bodyOf sh4) (sh4St M (.list (sets.map .int)) n O sets i).1 (sh4St M (.list (sets.map .int)) n O sets i).2 (.int ((i : Int) + 1)) =
      some (.next (sh4St M (.list (sets.map .int)) n O sets (i + 1)).1 (sh4St M (.list (sets.map .int)) n O sets (i + 1)).2) := by
  obtain ⟨nd', v, h1, h2, rfl⟩ := shNeed_prev h
  have hb : bindT shapeFn.names (sh4St M (.list (sets.map .int)) n O sets i).1 (.Name "chosen" (tgtPos sh4)) (.int ((i : Int) + 1)) = some (sh4S M (.list (sets.map .int)) n O ((i : Int) + 1)) := by kernel_rfl
  have hd : dropOwn "chosen" (sh4St M (.list (sets.map .int)) n O sets i).2 = some (("need" : Str), nd'.map V.int) := by
    show some (("need" : Str), ((shNeed sets i).getD []).map V.int) = _
    rw [h1]; rfl
  refine for_step hb hd ?_
  rw [sh4_app]
  have ea : mexec theTab theGlob (k + 25) shapeFn.names (sh4S M (.list (sets.map .int)) n O ((i : Int) + 1)) (some (("need" : Str), nd'.map V.int)) (appSt "need" (at_ (bodyOf sh4) 0)) = some (.next (sh4S M (.list (sets.map .int)) n O ((i : Int) + 1)) (some (("need" : Str), nd'.map V.int ++ [.int v]))) :=
    ex_append (e := sh4X) (d := .int v) rfl (by kernel_rfl) (sh4_ev k M sets n O nd' _ hl h2) (by rw [List.length_map, shNeed_len h1]; omega)
  refine (exs_next ea).trans ?_
  have e2 : (sh4St M (.list (sets.map .int)) n O sets (i + 1)) = (sh4S M (.list (sets.map .int)) n O ((i : Int) + 1), some (("need" : Str), (nd' ++ [v]).map V.int)) := by
    unfold sh4St
    rw [h, if_neg (Nat.succ_ne_zero i)]
    rfl
  rw [e2, List.map_append]
  exact (show mexecs theTab theGlob (k + 25) shapeFn.names (sh4S M (.list (sets.map .int)) n O ((i : Int) + 1)) (some ("need", nd'.map .int ++ [V.int v])) [] = _ by kernel_rfl)
theorem shNeed_some {sets : List Int} {c : Nat} {nd : List Int} (h : shNeed sets c = some nd) : ∀ i, i ≤ c → ∃ nd, shNeed sets i = some nd := by
  induction c generalizing nd with
  | zero => intro i hi; rw [show i = 0 by omega]; exact ⟨_, h⟩
  | succ c ih =>
    intro i hi
    by_cases e : i = c + 1
    · subst e; exact ⟨_, h⟩
    · obtain ⟨nd', v, h1, _, _⟩ := shNeed_prev h
      exact ih h1 i (by omega)
theorem sh4_for : sh4 = .For (.Name "chosen" (tgtPos sh4)) (exprOf sh4) (bodyOf sh4) [] (posOf sh4) := by kernel_rfl
theorem sh4_src4 (k : Nat) (M S O : V) (sets : List Int) : msrc theTab theGlob (k + 20) shapeFn.names (sh4St M S 4 O sets 0).1 (sh4St M S 4 O sets 0).2 (exprOf sh4) = some ((fromOne 4).map .int) := by kernel_rfl
theorem sh4_src5 (k : Nat) (M S O : V) (sets : List Int) : msrc theTab theGlob (k + 20) shapeFn.names (sh4St M S 5 O sets 0).1 (sh4St M S 5 O sets 0).2 (exprOf sh4) = some ((fromOne 5).map .int) := by kernel_rfl
theorem sh4_run (k n : Nat) (hn : n = 4 ∨ n = 5) (M : V) (sets : List Int) (O : V) (hl : sets.length ≤ 4096) {nd : List Int} (h : shNeed sets (2 ^ n - 1) = some nd) :
    mexec theTab theGlob (k + 27) shapeFn.names (sh4St M (.list (sets.map .int)) n O sets 0).1 (sh4St M (.list (sets.map .int)) n O sets 0).2 sh4 =
      some (.next (sh4St M (.list (sets.map .int)) n O sets (2 ^ n - 1)).1 (sh4St M (.list (sets.map .int)) n O sets (2 ^ n - 1)).2) := by
  have fz : frozenFor (exprOf sh4) (sh4St M (.list (sets.map .int)) n O sets 0).1 (sh4St M (.list (sets.map .int)) n O sets 0).2 = sh4St M (.list (sets.map .int)) n O sets 0 := by kernel_rfl
  have p : 2 ^ n ≤ 32 := by rcases hn with rfl | rfl <;> decide
  refine ex_for sh4_for (xs := (fromOne n).map .int) ?_ ?_
  · rw [fz]
    rcases hn with rfl | rfl
    · exact sh4_src4 (k + 6) M _ O sets
    · exact sh4_src5 (k + 6) M _ O sets
  · rw [fz]
    unfold fromOne
    rw [List.map_map]
    exact loopM_el (fun i => .int ((i : Int) + 1)) (sh4St M (.list (sets.map .int)) n O sets) (2 ^ n - 1) fun i hi => by
      obtain ⟨nd1, h1⟩ := shNeed_some h (i + 1) (by omega)
      exact sh4_step k M sets n O hl i (by omega) h1
end Mine
end
section
open PySem
set_option maxRecDepth 1000000
namespace Mine
section
variable {tab : Tab} {glob : Str → Option V} {n : Nat} {N : Names} {σ : Sto} {ω : Own}
theorem tst_cmp {c l r : Expr} {op : CmpOp} {p : Pos} {a d : V} {b : Bool} (hc : c = .Compare l [op] [r] p) (hl : meval tab glob n N σ ω l = some a) (hr : meval tab glob n N σ ω r = some d) (h : cmpT op a d = some b) : mtest tab glob (n + 1) N σ ω c = some b := by
  subst hc
  rw [mt_Compare, hl, hr]; exact h
theorem ev_call {e : Expr} {f : Str} {fp p : Pos} {as : List Expr} {fn : Fn} {ds : List V} {d : V} (he : e = .Call (.Name f fp) as [] p) (hg : isGlob N f = true) (ht : tab f = some fn) (ha : meach tab glob n N σ ω as = some ds) (h : mcall tab glob n fn ds = some d) : meval tab glob (n + 1) N σ ω e = some d := by
  subst he
  rw [mv_Call, if_pos hg, ht, ha]
  exact h
theorem each_cons {e : Expr} {r : List Expr} {d : V} {ds : List V} (h : meval tab glob n N σ ω e = some d) (hr : meach tab glob n N σ ω r = some ds) : meach tab glob (n + 1) N σ ω (e :: r) = some (d :: ds) := by
  rw [me_cons, h, hr]
theorem each_nil : meach tab glob (n + 1) N σ ω [] = some [] := rfl
end
noncomputable def sh6 : Stmt := at_ shapeFn.body 6
noncomputable def sh6X : Expr := arg 0 (exprOf (at_ (bodyOf sh6) 0))
noncomputable def sh6C : Expr := arg 0 sh6X
noncomputable def sh6T : Expr := (genOf sh6C).ifs.getD 0 nil0
noncomputable def sh6S (M S O : V) (n : Int) (k : Option V) (nd : List Int) (ch : Option V) : Sto := shS (some M) (some (.int n)) (some S) (some O) k (some (.list (nd.map .int))) ch none
noncomputable def sh6I (ones nd : List Int) (k ch : Int) : Sto := [("ones", some (.list (ones.map .int))), ("k", some (.int k)), ("need", some (.list (nd.map .int))), ("chosen", some (.int ch))]
noncomputable def shPick (ones nd : List Int) (m : Nat) (k : Int) : List Int := ((List.range m).filter fun ch => decide (nd.getD ch 0 ≤ k)).map fun ch => ones.getD ch 0
noncomputable def shMost (ones nd : List Int) (m : Nat) (k : Int) : Option Int := maxL (shPick ones nd m k)
theorem sh6_l (f : Nat) (ones nd : List Int) (k ch : Int) : meval theTab theGlob (f + 17) (scopeOf sh6C).names (sh6I ones nd k ch) none (lhs sh6T) = idxV (.list (nd.map .int)) (.int ch) := by kernel_rfl
theorem sh6_r (f : Nat) (ones nd : List Int) (k ch : Int) : meval theTab theGlob (f + 17) (scopeOf sh6C).names (sh6I ones nd k ch) none (rhs sh6T) = some (.int k) := by kernel_rfl
theorem sh6_e (f : Nat) (ones nd : List Int) (k ch : Int) : meval theTab theGlob (f + 19) (scopeOf sh6C).names (sh6I ones nd k ch) none (eltOf sh6C) = idxV (.list (ones.map .int)) (.int ch) := by kernel_rfl
theorem idx_ints (xs : List Int) (i : Nat) (h : i < xs.length) (h2 : i < 2 ^ 20) : idxV (.list (xs.map .int)) (.int i) = some (.int (xs.getD i 0)) := by
  rw [idx_nat _ _ h2, List.getElem?_map, getD_at (d := 0) h]; rfl
theorem optMap_some {α β : Type} (g : α → β) : ∀ (xs : List α), optMap (fun x => some (g x)) xs = some (xs.map g)
  | [] => rfl
  | x :: r => by simp only [optMap, optMap_some g r]; rfl
theorem sh6_src4 (f : Nat) (M S O : V) (k ch : Option V) (nd mo : List Int) : msrc theTab theGlob (f + 20) shapeFn.names (sh6S M S O 4 k nd ch) (some ("most", mo.map .int)) (genOf sh6C).iter = some (natL (2 ^ 4)) := by kernel_rfl
theorem sh6_src5 (f : Nat) (M S O : V) (k ch : Option V) (nd mo : List Int) : msrc theTab theGlob (f + 20) shapeFn.names (sh6S M S O 5 k nd ch) (some ("most", mo.map .int)) (genOf sh6C).iter = some (natL (2 ^ 5)) := by kernel_rfl
theorem sh6_comp (f n : Nat) (hn : n = 4 ∨ n = 5) (M S : V) (ones nd mo : List Int) (k : Int) (ch : Option V) (ho : ones.length = 2 ^ n) (hd : nd.length = 2 ^ n) :
    meval theTab theGlob (f + 21) shapeFn.names (sh6S M S (.list (ones.map .int)) n (some (.int k)) nd ch) (some ("most", mo.map .int)) sh6C = some (.list ((shPick ones nd (2 ^ n) k).map .int)) := by
  have p : 2 ^ n ≤ 32 := by rcases hn with rfl | rfl <;> decide
  refine ev_comp (xs := natL (2 ^ n)) (by kernel_rfl) (by kernel_rfl) ?_ ?_
  · rcases hn with rfl | rfl
    · exact sh6_src4 f M S _ _ ch nd mo
    · exact sh6_src5 f M S _ _ ch nd mo
  · unfold natL
    rw [compM_opt (b := fun c : Nat => decide (nd.getD c 0 ≤ k)) (h := fun c => some (.int (ones.getD c 0))) (fun (i : Nat) => .int (i : Int)) (List.range (2 ^ n)) fun c hc => ?_, optMap_some]
    · unfold shPick
      rw [List.map_map]; rfl
    · have hc := List.mem_range.mp hc
      have e : (genOf sh6C).ifs = [sh6T] := by kernel_rfl
      have hT : sh6T = .Compare (lhs sh6T) [.LtE] [rhs sh6T] (posC sh6T) := by kernel_rfl
      have ht : mtests theTab theGlob (f + 20) (scopeOf sh6C).names (sh6I ones nd k c) none (genOf sh6C).ifs = some (decide (nd.getD c 0 ≤ k)) := by
        rw [e]
        refine tests_one (tst_cmp hT ((sh6_l (f + 1) ones nd k c).trans (idx_ints nd c (by omega) (by omega))) (sh6_r (f + 1) ones nd k c) rfl)
      refine compF_if (σ' := sh6I ones nd k c) (by kernel_rfl) ht (fun e => ?_) (fun e => ?_)
      · have e2 : meval theTab theGlob (f + 20) (scopeOf sh6C).names (sh6I ones nd k c) (innerOwn (scopeOf sh6C) (some ("most", mo.map .int))) (eltOf sh6C) = some (.int (ones.getD c 0)) :=
          (sh6_e (f + 1) ones nd k c).trans (idx_ints ones c (by omega) (by omega))
        rw [e2]
        simp only [e, if_true]
      · simp only [e, if_false, Bool.false_eq_true]
theorem sh6_ev (f n : Nat) (hn : n = 4 ∨ n = 5) (M S : V) (ones nd mo : List Int) (k : Int) (ch : Option V) (ho : ones.length = 2 ^ n) (hd : nd.length = 2 ^ n) {v : Int} (h : shMost ones nd (2 ^ n) k = some v) :
    meval theTab theGlob (f + 24) shapeFn.names (sh6S M S (.list (ones.map .int)) n (some (.int k)) nd ch) (some ("most", mo.map .int)) sh6X = some (.int v) := by
  have e : meval theTab theGlob (f + 24) shapeFn.names (sh6S M S (.list (ones.map .int)) n (some (.int k)) nd ch) (some ("most", mo.map .int)) sh6X =
    (match (match meval theTab theGlob (f + 22) shapeFn.names (sh6S M S (.list (ones.map .int)) n (some (.int k)) nd ch) (some ("most", mo.map .int)) sh6C with | some d => some [d] | none => none) with | some ds => callB "max" ds | none => none) := by kernel_rfl
  rw [e, sh6_comp (f + 1) n hn M S ones nd mo k ch ho hd]
  have p : 2 ^ n ≤ 32 := by rcases hn with rfl | rfl <;> decide
  show (if ((shPick ones nd (2 ^ n) k).map V.int).length ≤ 4096 then ((intsOf ((shPick ones nd (2 ^ n) k).map .int)).bind maxL).map V.int else none) = _
  rw [if_pos (by rw [List.length_map, shPick, List.length_map]; have := List.length_filter_le (fun ch => decide (nd.getD ch 0 ≤ k)) (List.range (2 ^ n)); rw [List.length_range] at this; omega), intsOf_map]
  show (shMost ones nd (2 ^ n) k).map V.int = _
  rw [h]; rfl
theorem sh6_app : bodyOf sh6 = [appSt "most" (at_ (bodyOf sh6) 0)] := by kernel_rfl
theorem sh6_for : sh6 = .For (.Name "k" (tgtPos sh6)) (exprOf sh6) (bodyOf sh6) [] (posOf sh6) := by kernel_rfl
/-- the maxima so far -/
noncomputable def shMosts (ones nd : List Int) (m : Nat) : Nat → List Int
  | 0 => []
  | i + 1 => shMosts ones nd m i ++ [(shMost ones nd m (i : Nat)).getD 0]
noncomputable def sh6St (M S : V) (n : Int) (ones nd : List Int) (m : Nat) (ch : Option V) (i : Nat) : Sto × Own :=
  (sh6S M S (.list (ones.map .int)) n (some (.int (if i = 0 then n - 1 else (i : Int) - 1))) nd ch, some ("most", (shMosts ones nd m i).map .int))
theorem shMosts_len (ones nd : List Int) (m : Nat) : ∀ i, (shMosts ones nd m i).length = i
  | 0 => rfl
  | i + 1 => by rw [shMosts, List.length_append, shMosts_len ones nd m i]; rfl
theorem sh6_step (f n : Nat) (hn : n = 4 ∨ n = 5) (M S : V) (ones nd : List Int) (ch : Option V) (ho : ones.length = 2 ^ n) (hd : nd.length = 2 ^ n) (i : Nat) (hi : i ≤ 5) {v : Int} (h : shMost ones nd (2 ^ n) (i : Nat) = some v) :
    forStep theTab theGlob (f + 26) shapeFn.names "k" (tgtPos sh6) (bodyOf sh6) (sh6St M S n ones nd (2 ^ n) ch i).1 (sh6St M S n ones nd (2 ^ n) ch i).2 (.int (i : Nat)) =
      some (.next (sh6St M S n ones nd (2 ^ n) ch (i + 1)).1 (sh6St M S n ones nd (2 ^ n) ch (i + 1)).2) := by
  have hb : bindT shapeFn.names (sh6St M S n ones nd (2 ^ n) ch i).1 (.Name "k" (tgtPos sh6)) (.int (i : Nat)) = some (sh6S M S (.list (ones.map .int)) n (some (.int (i : Nat))) nd ch) := by kernel_rfl
  have hd' : dropOwn "k" (sh6St M S n ones nd (2 ^ n) ch i).2 = some (("most" : Str), (shMosts ones nd (2 ^ n) i).map V.int) := by kernel_rfl
  refine for_step hb hd' ?_
  rw [sh6_app]
  have ea : mexec theTab theGlob (f + 25) shapeFn.names (sh6S M S (.list (ones.map .int)) n (some (.int (i : Nat))) nd ch) (some (("most" : Str), (shMosts ones nd (2 ^ n) i).map V.int)) (appSt "most" (at_ (bodyOf sh6) 0)) =
      some (.next (sh6S M S (.list (ones.map .int)) n (some (.int (i : Nat))) nd ch) (some (("most" : Str), (shMosts ones nd (2 ^ n) i).map V.int ++ [.int v]))) :=
    ex_append (e := sh6X) (d := .int v) rfl (by kernel_rfl) (sh6_ev f n hn M S ones nd _ _ ch ho hd h) (by rw [List.length_map, shMosts_len]; omega)
  refine (exs_next ea).trans ?_
  have e2 : sh6St M S n ones nd (2 ^ n) ch (i + 1) = (sh6S M S (.list (ones.map .int)) n (some (.int (i : Nat))) nd ch, some (("most" : Str), (shMosts ones nd (2 ^ n) i).map V.int ++ [V.int v])) := by
    unfold sh6St
    rw [if_neg (Nat.succ_ne_zero i), shMosts, h, List.map_append, show ((i + 1 : Nat) : Int) - 1 = (i : Int) by omega]
    rfl
  rw [e2]
  exact (show mexecs theTab theGlob (f + 25) shapeFn.names (sh6S M S (.list (ones.map .int)) n (some (.int (i : Nat))) nd ch) (some (("most" : Str), (shMosts ones nd (2 ^ n) i).map V.int ++ [V.int v])) [] = _ by kernel_rfl)
end Mine
end
section
open PySem
set_option maxRecDepth 1000000
namespace Mine
theorem getDmem {α : Type} {xs : List α} {i : Nat} {d : α} (h : i < xs.length) : xs.getD i d ∈ xs := by
  rw [List.getD_eq_getElem?_getD, List.getElem?_eq_getElem h]
  exact List.getElem_mem h
theorem sh6_it4 (f : Nat) (M S : V) (ones nd : List Int) (m : Nat) (ch : Option V) : msrc theTab theGlob (f + 20) shapeFn.names (sh6St M S 4 ones nd m ch 0).1 (sh6St M S 4 ones nd m ch 0).2 (exprOf sh6) = some (natL 5) := by kernel_rfl
theorem sh6_it5 (f : Nat) (M S : V) (ones nd : List Int) (m : Nat) (ch : Option V) : msrc theTab theGlob (f + 20) shapeFn.names (sh6St M S 5 ones nd m ch 0).1 (sh6St M S 5 ones nd m ch 0).2 (exprOf sh6) = some (natL 6) := by kernel_rfl
theorem sh6_run (f n : Nat) (hn : n = 4 ∨ n = 5) (M S : V) (ones nd : List Int) (ch : Option V) (ho : ones.length = 2 ^ n) (hd : nd.length = 2 ^ n) (h : ∀ i, i ≤ n → ∃ v, shMost ones nd (2 ^ n) (i : Nat) = some v) :
    mexec theTab theGlob (f + 27) shapeFn.names (sh6St M S n ones nd (2 ^ n) ch 0).1 (sh6St M S n ones nd (2 ^ n) ch 0).2 sh6 = some (.next (sh6St M S n ones nd (2 ^ n) ch (n + 1)).1 (sh6St M S n ones nd (2 ^ n) ch (n + 1)).2) := by
  have fz : frozenFor (exprOf sh6) (sh6St M S n ones nd (2 ^ n) ch 0).1 (sh6St M S n ones nd (2 ^ n) ch 0).2 = sh6St M S n ones nd (2 ^ n) ch 0 := by kernel_rfl
  refine ex_for sh6_for (xs := natL (n + 1)) ?_ ?_
  · rw [fz]
    rcases hn with rfl | rfl
    · exact sh6_it4 (f + 6) M S ones nd _ ch
    · exact sh6_it5 (f + 6) M S ones nd _ ch
  · rw [fz]
    exact loopM_nat (sh6St M S n ones nd (2 ^ n) ch) (n + 1) fun i hi => by
      obtain ⟨v, hv⟩ := h i (by omega)
      exact sh6_step f n hn M S ones nd ch ho hd i (by omega) hv
-- the answer
noncomputable def sh7E : Expr := exprOf (at_ shapeFn.body 7)
noncomputable def sh7X : Expr := eltOf sh7E
noncomputable def sh7I (mo : List Int) (k : Int) : Sto := [("most", some (.list (mo.map .int))), ("k", some (.int k))]
noncomputable def sh7S (M S O : V) (n : Int) (k : Option V) (nd : List Int) (ch : Option V) (mo : List Int) : Sto := shS (some M) (some (.int n)) (some S) (some O) k (some (.list (nd.map .int))) ch (some (.list (mo.map .int)))
theorem sh7_call : sh7X = .Call (.Name "sub" (fnPos sh7X)) [arg 0 sh7X, arg 1 sh7X] [] (posC sh7X) := by kernel_rfl
theorem sh7_a (f : Nat) (mo : List Int) (k : Int) : meval theTab theGlob (f + 17) (scopeOf sh7E).names (sh7I mo k) none (arg 0 sh7X) = (match binV .Add (.int k) (.int 1) with | some i => idxV (.list (mo.map .int)) i | none => none) := by kernel_rfl
theorem sh7_b (f : Nat) (mo : List Int) (k : Int) : meval theTab theGlob (f + 17) (scopeOf sh7E).names (sh7I mo k) none (arg 1 sh7X) = idxV (.list (mo.map .int)) (.int k) := by kernel_rfl
theorem sh7_src4 (f : Nat) (M S O : V) (k ch : Option V) (nd mo : List Int) : msrc theTab theGlob (f + 20) shapeFn.names (sh7S M S O 4 k nd ch mo) none (genOf sh7E).iter = some (natL 4) := by kernel_rfl
theorem sh7_src5 (f : Nat) (M S O : V) (k ch : Option V) (nd mo : List Int) : msrc theTab theGlob (f + 20) shapeFn.names (sh7S M S O 5 k nd ch mo) none (genOf sh7E).iter = some (natL 5) := by kernel_rfl
noncomputable def diffs (mo : List Int) (n : Nat) : List Int := (List.range n).map fun k => mo.getD (k + 1) 0 - mo.getD k 0
noncomputable def diffG (mo : List Int) : V → V
  | .int k => .int (mo.getD (k.toNat + 1) 0 - mo.getD k.toNat 0)
  | v => v
theorem sh7_run (f n : Nat) (hn : n = 4 ∨ n = 5) (M S O : V) (k ch : Option V) (nd mo : List Int) (hl : mo.length = n + 1) (hb : ∀ x ∈ mo, 0 ≤ x ∧ x ≤ 5) :
    meval theTab theGlob (f + 21) shapeFn.names (sh7S M S O n k nd ch mo) none sh7E = some (.list ((diffs mo n).map .int)) := by
  refine ev_comp (xs := natL n) (by kernel_rfl) (by kernel_rfl) ?_ ?_
  · rcases hn with rfl | rfl
    · exact sh7_src4 f M S O k ch nd mo
    · exact sh7_src5 f M S O k ch nd mo
  · rw [compM_map (g := diffG mo) _ fun x hx => ?_]
    · unfold natL diffs
      rw [List.map_map, List.map_map]; rfl
    · obtain ⟨i, hi, rfl⟩ := List.mem_map.mp hx
      have hi := List.mem_range.mp hi
      have b1 := hb _ (getDmem (d := 0) (show i < mo.length by omega))
      have b2 := hb _ (getDmem (d := 0) (show i + 1 < mo.length by omega))
      refine compF_of (σ' := sh7I mo i) (by kernel_rfl) (by kernel_rfl) ?_
      refine ev_call sh7_call (by kernel_rfl) sub_tab (ds := [.int (mo.getD (i + 1) 0), .int (mo.getD i 0)]) ?_ (sub_run (f + 13) _ _ (by omega) (by omega))
      refine each_cons ?_ (each_cons ?_ each_nil)
      · refine (sh7_a (f + 1) mo i).trans ?_
        have e : binV .Add (.int (i : Int)) (.int 1) = some (.int ((i : Int) + 1)) := mkI_of (by omega) (by omega)
        rw [e]
        exact idx_ints mo (i + 1) (by omega) (by omega)
      · exact (sh7_b f mo i).trans (idx_ints mo i (by omega) (by omega))
end Mine
end
section
open PySem
set_option maxRecDepth 1000000
namespace Mine
noncomputable def sh0A : Stmt := at_ shapeFn.body 0
theorem sh_body : shapeFn.body = [.Assign [.Name "sets" (tgtPos sh0A)] sh0 (posOf sh0A), at_ shapeFn.body 1, sh2, at_ shapeFn.body 3, sh4, at_ shapeFn.body 5, sh6, .Return (some sh7E) (posOf (at_ shapeFn.body 7))] := by kernel_rfl
theorem sh0_list : ∀ es q, sh0 ≠ .List es q := by
  have h : sh0 = compAt sh0 := by kernel_rfl
  intro es q e
  rw [h] at e; cases e
theorem maxL_mem {xs : List Int} {v : Int} (h : maxL xs = some v) : v ∈ xs := by
  cases xs with
  | nil => cases h
  | cons x r => cases h; exact (foldl_max_spec r x).1
theorem shMost_bound {n : Nat} {nd : List Int} {k v : Int} (h : shMost (shOnes n) nd (2 ^ n) k = some v) : 0 ≤ v ∧ v ≤ n := by
  have h := maxL_mem h
  unfold shPick at h
  obtain ⟨ch, hc, rfl⟩ := List.mem_map.mp h
  have hc := List.mem_range.mp (List.mem_filter.mp hc).1
  exact shOnes_le n _ (getDmem (by rw [shOnes_len]; exact hc))
theorem shMosts_bound {n : Nat} {nd : List Int} (h : ∀ i : Nat, i ≤ n → ∃ v, shMost (shOnes n) nd (2 ^ n) (i : Int) = some v) : ∀ i, i ≤ n + 1 → ∀ x ∈ shMosts (shOnes n) nd (2 ^ n) i, 0 ≤ x ∧ x ≤ n
  | 0, _, x, hx => by cases hx
  | i + 1, hi, x, hx => by
    rw [shMosts, List.mem_append] at hx
    rcases hx with hx | hx
    · exact shMosts_bound h i (by omega) x hx
    · obtain ⟨v, hv⟩ := h i (by omega)
      rw [List.mem_singleton.mp hx, hv]
      exact shMost_bound hv
theorem fromOne_len (n : Nat) : (fromOne n).length = 2 ^ n - 1 := by unfold fromOne; rw [List.length_map, List.length_range]
theorem shape_run (f n : Nat) (hn : n = 4 ∨ n = 5) (ms : List Bool) (hl : ms.length = 2 ^ n) {nd : List Int} (h1 : shNeed (shSets ms n) (2 ^ n - 1) = some nd) (h2 : ∀ i : Nat, i ≤ n → ∃ v, shMost (shOnes n) nd (2 ^ n) (i : Int) = some v) :
    mcall theTab theGlob (f + 50) shapeFn [.list (ms.map .bool), .int n] = some (.list ((diffs (shMosts (shOnes n) nd (2 ^ n) (n + 1)) n).map .int)) := by
  have p : 16 ≤ 2 ^ n ∧ 2 ^ n ≤ 32 := by rcases hn with rfl | rfl <;> decide
  have hsl : (shSets ms n).length ≤ 4096 := by
    unfold shSets
    have := List.length_filter_le (fun one : Int => ms.getD one.toNat false) (fromOne n)
    rw [fromOne_len] at this
    omega
  have hnd : nd.length = 2 ^ n := by rw [shNeed_len h1]; omega
  refine call_of (σ := shS (some (.list (ms.map .bool))) (some (.int n)) none none none none none none) (by kernel_rfl) ?_
  rw [sh_body]
  have e0 : mexec theTab theGlob (f + 48) shapeFn.names (shS (some (.list (ms.map .bool))) (some (.int n)) none none none none none none) none (.Assign [.Name "sets" (tgtPos sh0A)] sh0 (posOf sh0A)) = _ :=
    ex_assign (d := .list ((shSets ms n).map .int)) rfl sh0_list (by kernel_rfl) (sh0_run (f + 26) n ms hn hl)
  refine (exs_next e0).trans ?_
  have e1 : mexec theTab theGlob (f + 47) shapeFn.names (sput "sets" (some (.list ((shSets ms n).map .int))) (frozenFor sh0 (shS (some (.list (ms.map .bool))) (some (.int n)) none none none none none none) none).1) (dropOwn "sets" (frozenFor sh0 (shS (some (.list (ms.map .bool))) (some (.int n)) none none none none none none) none).2) (at_ shapeFn.body 1) =
      some (.next (sh2St (.list (ms.map .bool)) (.list ((shSets ms n).map .int)) n 0).1 (sh2St (.list (ms.map .bool)) (.list ((shSets ms n).map .int)) n 0).2) := by kernel_rfl
  refine (exs_next e1).trans ?_
  refine (exs_next (sh2_run (f + 19) n hn (.list (ms.map .bool)) (.list ((shSets ms n).map .int)))).trans ?_
  have e3 : mexec theTab theGlob (f + 45) shapeFn.names (sh2St (.list (ms.map .bool)) (.list ((shSets ms n).map .int)) n n).1 (sh2St (.list (ms.map .bool)) (.list ((shSets ms n).map .int)) n n).2 (at_ shapeFn.body 3) =
      some (.next (sh4St (.list (ms.map .bool)) (.list ((shSets ms n).map .int)) n (.list ((shOnes n).map .int)) (shSets ms n) 0).1 (sh4St (.list (ms.map .bool)) (.list ((shSets ms n).map .int)) n (.list ((shOnes n).map .int)) (shSets ms n) 0).2) := by
    rcases hn with rfl | rfl <;> kernel_rfl
  refine (exs_next e3).trans ?_
  refine (exs_next (sh4_run (f + 17) n hn (.list (ms.map .bool)) (shSets ms n) (.list ((shOnes n).map .int)) hsl h1)).trans ?_
  have e5 : mexec theTab theGlob (f + 43) shapeFn.names (sh4St (.list (ms.map .bool)) (.list ((shSets ms n).map .int)) n (.list ((shOnes n).map .int)) (shSets ms n) (2 ^ n - 1)).1 (sh4St (.list (ms.map .bool)) (.list ((shSets ms n).map .int)) n (.list ((shOnes n).map .int)) (shSets ms n) (2 ^ n - 1)).2 (at_ shapeFn.body 5) =
      some (.next (sh6St (.list (ms.map .bool)) (.list ((shSets ms n).map .int)) n (shOnes n) nd (2 ^ n) (some (.int ((2 ^ n - 1 : Nat) : Int))) 0).1 (sh6St (.list (ms.map .bool)) (.list ((shSets ms n).map .int)) n (shOnes n) nd (2 ^ n) (some (.int ((2 ^ n - 1 : Nat) : Int))) 0).2) := by
    have es : sh4St (.list (ms.map .bool)) (.list ((shSets ms n).map .int)) n (.list ((shOnes n).map .int)) (shSets ms n) (2 ^ n - 1) =
        (shS (some (.list (ms.map .bool))) (some (.int n)) (some (.list ((shSets ms n).map .int))) (some (.list ((shOnes n).map .int))) (some (.int ((n : Int) - 1))) none (some (.int ((2 ^ n - 1 : Nat) : Int))) none, some (("need" : Str), nd.map V.int)) := by
      unfold sh4St
      rw [h1, if_neg (by omega)]
      rfl
    rw [es]
    kernel_rfl
  refine (exs_next e5).trans ?_
  refine (exs_next (sh6_run (f + 15) n hn (.list (ms.map .bool)) (.list ((shSets ms n).map .int)) (shOnes n) nd _ (shOnes_len n) hnd h2)).trans ?_
  refine exs_ret (ex_ret ?_)
  have ef : freeze (sh6St (.list (ms.map .bool)) (.list ((shSets ms n).map .int)) n (shOnes n) nd (2 ^ n) (some (.int ((2 ^ n - 1 : Nat) : Int))) (n + 1)).1 (sh6St (.list (ms.map .bool)) (.list ((shSets ms n).map .int)) n (shOnes n) nd (2 ^ n) (some (.int ((2 ^ n - 1 : Nat) : Int))) (n + 1)).2 =
      sh7S (.list (ms.map .bool)) (.list ((shSets ms n).map .int)) (.list ((shOnes n).map .int)) n (some (.int ((n + 1 : Nat) - 1 : Int))) nd (some (.int ((2 ^ n - 1 : Nat) : Int))) (shMosts (shOnes n) nd (2 ^ n) (n + 1)) := by
    unfold sh6St
    rw [if_neg (Nat.succ_ne_zero n)]
    kernel_rfl
  rw [ef]
  refine sh7_run (f + 19) n hn _ _ _ _ _ nd _ (shMosts_len _ _ _ _) fun x hx => ?_
  have := shMosts_bound h2 (n + 1) (Nat.le_refl _) x hx
  omega
end Mine
end
section
open PySem
set_option maxRecDepth 1000000
namespace Mine
section
variable {tab : Tab} {glob : Str → Option V} {n : Nat} {N : Names} {σ : Sto} {ω : Own}
theorem ev_callB {e : Expr} {f : Str} {fp p : Pos} {as : List Expr} {ds : List V} {r : Option V} (he : e = .Call (.Name f fp) as [] p) (hg : isGlob N f = true) (ht : tab f = none) (h1 : (f == "indexOf") = false) (h2 : (f == "isinstance") = false) (ha : meach tab glob n N σ ω as = some ds) (h : callB f ds = r) : meval tab glob (n + 1) N σ ω e = r := by
  subst he
  rw [mv_Call, if_pos hg, ht]
  show (if (f == "indexOf") = true then _ else _) = _
  rw [if_neg (by rw [h1]; exact Bool.false_ne_true), if_neg (by rw [h2]; exact Bool.false_ne_true), ha]
  exact h
theorem ev_bin' {e l r : Expr} {op : Operator} {p : Pos} {a b d : V} (he : e = .BinOp l op r p) (hl : meval tab glob n N σ ω l = some a) (hr : meval tab glob n N σ ω r = some b) (h : binV op a b = some d) : meval tab glob (n + 1) N σ ω e = some d := by
  subst he; exact ev_bin hl hr h
end
noncomputable def lightsFn : Fn := (fnOfStmt "_law_lights" PySem.Challenge.pw_sw0011_01.main.body).getD ⟨[], [], []⟩
theorem lights_tab : theTab "_law_lights" = some lightsFn := by kernel_rfl
/-- the store: draw hue share level lights corner way -/
noncomputable def liS (d h s l c w : Option V) : Sto := [("draw", d), ("hue", h), ("share", s), ("level", l), ("lights", none), ("corner", c), ("way", w), ("min", none), ("max", none)]
noncomputable def li4 : Stmt := at_ lightsFn.body 4
noncomputable def liW : Expr := exprOf (at_ (bodyOf li4) 0)
noncomputable def liX : Expr := arg 0 (exprOf (at_ (bodyOf li4) 1))
noncomputable def min2 (a b : Int) : Int := if b < a then b else a
noncomputable def max2 (a b : Int) : Int := if b > a then b else a
noncomputable def wayOf (hue corner : Int) : Int := min2 (Int.fmod (hue - corner) 48) (Int.fmod (corner - hue) 48)
noncomputable def lightOf (hue share level corner : Int) : Int := level * (32 - share * min2 (max2 (wayOf hue corner - 8) 0) 8)
theorem fmod48 (x : Int) : 0 ≤ Int.fmod x 48 ∧ Int.fmod x 48 < 48 := ⟨Int.fmod_nonneg_of_pos x (by decide), Int.fmod_lt_of_pos x (by decide)⟩
theorem wayOf_b (hue corner : Int) : 0 ≤ wayOf hue corner ∧ wayOf hue corner < 48 := by
  have h1 := fmod48 (hue - corner)
  have h2 := fmod48 (corner - hue)
  unfold wayOf min2
  split <;> omega
theorem liW_call : liW = .Call (.Name "min" (fnPos liW)) [.BinOp (lhs (arg 0 liW)) .Mod (rhs (arg 0 liW)) (posE (arg 0 liW)), .BinOp (lhs (arg 1 liW)) .Mod (rhs (arg 1 liW)) (posE (arg 1 liW))] [] (posC liW) := by kernel_rfl
theorem liW_run (f : Nat) (d hue share level corner : Int) (ls : List V) (w : Option V) (hh : 0 ≤ hue ∧ hue < 48) (hc : 0 ≤ corner ∧ corner < 48) :
    meval theTab theGlob (f + 21) lightsFn.names (liS (some (.int d)) (some (.int hue)) (some (.int share)) (some (.int level)) (some (.int corner)) w) (some ("lights", ls)) liW = some (.int (wayOf hue corner)) := by
  have a1 : meval theTab theGlob (f + 17) lightsFn.names (liS (some (.int d)) (some (.int hue)) (some (.int share)) (some (.int level)) (some (.int corner)) w) (some ("lights", ls)) (lhs (arg 1 liW)) = mkI (corner - hue) := by kernel_rfl
  have a0 : meval theTab theGlob (f + 18) lightsFn.names (liS (some (.int d)) (some (.int hue)) (some (.int share)) (some (.int level)) (some (.int corner)) w) (some ("lights", ls)) (lhs (arg 0 liW)) = mkI (hue - corner) := by kernel_rfl
  rw [mkI_of (by omega) (by omega)] at a0 a1
  refine ev_callB liW_call (by kernel_rfl) (by kernel_rfl) (by kernel_rfl) (by kernel_rfl) (ds := [.int (Int.fmod (hue - corner) 48), .int (Int.fmod (corner - hue) 48)]) ?_ rfl
  exact each_cons (ev_bin (b := .int 48) a0 (by kernel_rfl) rfl) (each_cons (ev_bin (b := .int 48) a1 (by kernel_rfl) rfl) each_nil)
theorem share_b (s w : Int) (hs : 0 ≤ s ∧ s < 5) (hw : 0 ≤ w ∧ w < 48) : 0 ≤ min2 (max2 (w - 8) 0) 8 ∧ min2 (max2 (w - 8) 0) 8 ≤ 8 := by
  unfold min2 max2; split <;> split <;> omega
theorem mul_b (a b A B : Int) (ha : 0 ≤ a ∧ a ≤ A) (hb : 0 ≤ b ∧ b ≤ B) : 0 ≤ a * b ∧ a * b ≤ A * B :=
  ⟨Int.mul_nonneg ha.1 hb.1, Int.mul_le_mul ha.2 hb.2 hb.1 (Int.le_trans ha.1 ha.2)⟩
theorem lightOf_b (hue s l c : Int) (hs : 0 ≤ s ∧ s < 5) (hl : 0 ≤ l ∧ l < 5) : 0 ≤ lightOf hue s l c ∧ lightOf hue s l c ≤ 128 := by
  unfold lightOf
  have hm := share_b s (wayOf hue c) hs (wayOf_b hue c)
  have h1 := mul_b s _ 4 8 ⟨hs.1, by omega⟩ hm
  have h2 := mul_b l (32 - s * min2 (max2 (wayOf hue c - 8) 0) 8) 4 32 ⟨hl.1, by omega⟩ ⟨by omega, by omega⟩
  omega
-- level * (32 - share * min(max(way - 8, 0), 8))
noncomputable def liR : Expr := rhs liX
noncomputable def liM : Expr := rhs (rhs liR)
noncomputable def liN : Expr := arg 0 liM
theorem liX_e : liX = .BinOp (lhs liX) .Mult liR (posE liX) := by kernel_rfl
theorem liR_e : liR = .BinOp (lhs liR) .Sub (rhs liR) (posE liR) := by kernel_rfl
theorem liQ_e : rhs liR = .BinOp (lhs (rhs liR)) .Mult liM (posE (rhs liR)) := by kernel_rfl
theorem liM_e : liM = .Call (.Name "min" (fnPos liM)) [liN, arg 1 liM] [] (posC liM) := by kernel_rfl
theorem liN_e : liN = .Call (.Name "max" (fnPos liN)) [.BinOp (lhs (arg 0 liN)) .Sub (rhs (arg 0 liN)) (posE (arg 0 liN)), arg 1 liN] [] (posC liN) := by kernel_rfl
theorem binMul (a b : Int) (ha : small a = true) (hb : small b = true) (h : small (a * b) = true) : binV .Mult (.int a) (.int b) = some (.int (a * b)) := by
  show (if (small a && small b) = true then mkI (a * b) else none) = _
  rw [ha, hb]
  unfold mkI
  rw [h]; rfl
theorem sm {i : Int} (h : -1000 < i) (h' : i < 1000000) : small i = true := small_of (by omega) (by omega)
theorem liX_run (f : Nat) (d hue share level corner : Int) (ls : List V) (hs : 0 ≤ share ∧ share < 5) (hl : 0 ≤ level ∧ level < 5) :
    meval theTab theGlob (f + 30) lightsFn.names (liS (some (.int d)) (some (.int hue)) (some (.int share)) (some (.int level)) (some (.int corner)) (some (.int (wayOf hue corner)))) (some ("lights", ls)) liX = some (.int (lightOf hue share level corner)) := by
  have hw := wayOf_b hue corner
  have hm := share_b share (wayOf hue corner) hs hw
  have h1 := mul_b share _ 4 8 ⟨hs.1, by omega⟩ hm
  have h2 := lightOf_b hue share level corner hs hl
  rw [liX_e]
  refine ev_bin (a := .int level) (b := .int (32 - share * min2 (max2 (wayOf hue corner - 8) 0) 8)) (by kernel_rfl) ?_ (binMul _ _ (sm (by omega) (by omega)) (sm (by omega) (by omega)) (sm (Int.lt_of_lt_of_le (by decide) h2.1) (Int.lt_of_le_of_lt h2.2 (by decide))))
  rw [liR_e]
  refine ev_bin (a := .int 32) (b := .int (share * min2 (max2 (wayOf hue corner - 8) 0) 8)) (by kernel_rfl) ?_ (mkI_of (by omega) (by omega))
  rw [liQ_e]
  refine ev_bin (a := .int share) (b := .int (min2 (max2 (wayOf hue corner - 8) 0) 8)) (by kernel_rfl) ?_ (binMul _ _ (sm (by omega) (by omega)) (sm (by omega) (by omega)) (sm (by omega) (by omega)))
  refine ev_callB liM_e (by kernel_rfl) (by kernel_rfl) (by kernel_rfl) (by kernel_rfl) (ds := [.int (max2 (wayOf hue corner - 8) 0), .int 8]) ?_ rfl
  refine each_cons ?_ (each_cons (by kernel_rfl) each_nil)
  refine ev_callB liN_e (by kernel_rfl) (by kernel_rfl) (by kernel_rfl) (by kernel_rfl) (ds := [.int (wayOf hue corner - 8), .int 0]) ?_ rfl
  exact each_cons (ev_bin (a := .int (wayOf hue corner)) (b := .int 8) (by kernel_rfl) (by kernel_rfl) (mkI_of (by omega) (by omega))) (each_cons (by kernel_rfl) each_nil)
end Mine
end
section
open PySem
set_option maxRecDepth 1000000
namespace Mine
noncomputable def li0E : Expr := exprOf (at_ lightsFn.body 0)
noncomputable def li1E : Expr := exprOf (at_ lightsFn.body 1)
noncomputable def li2E : Expr := exprOf (at_ lightsFn.body 2)
noncomputable def asg (x : Str) (s : Stmt) : Stmt := .Assign [.Name x (tgtPos s)] (exprOf s) (posOf s)
theorem li_body : lightsFn.body = [asg "hue" (at_ lightsFn.body 0), asg "share" (at_ lightsFn.body 1), asg "level" (at_ lightsFn.body 2), at_ lightsFn.body 3, li4, .Return (some (exprOf (at_ lightsFn.body 5))) (posOf (at_ lightsFn.body 5))] := by kernel_rfl
theorem binFd (a b : Int) (ha : small a = true) (hb : 0 < b) : binV .FloorDiv (.int a) (.int b) = some (.int (Int.fdiv a b)) := by
  show (if (small a && decide (0 < b)) = true then _ else _) = _
  rw [ha, if_pos (by simpa using hb)]
theorem nolist_bin {e : Expr} (h : ∃ l op r p, e = .BinOp l op r p) : ∀ es q, e ≠ .List es q := by
  obtain ⟨l, op, r, p, rfl⟩ := h
  intro es q e; cases e
theorem fm (a b : Int) (hb : 0 < b) : 0 ≤ Int.fmod a b ∧ Int.fmod a b < b := ⟨Int.fmod_nonneg_of_pos a hb, Int.fmod_lt_of_pos a hb⟩
/-- x // m % k -/
theorem ev_divmod {tab : Tab} {glob : Str → Option V} {n : Nat} {N : Names} {σ : Sto} {ω : Own} {e l r l2 r2 : Expr} {p p2 : Pos} {d m k : Int} (he : e = .BinOp l .Mod r p) (hl : l = .BinOp l2 .FloorDiv r2 p2) (h1 : meval tab glob n N σ ω l2 = some (.int d)) (h2 : meval tab glob n N σ ω r2 = some (.int m)) (h3 : meval tab glob (n + 1) N σ ω r = some (.int k))
    (hd : small d = true) (hm : 0 < m) (hk : 0 < k) : meval tab glob (n + 2) N σ ω e = some (.int (Int.fmod (Int.fdiv d m) k)) := by
  subst he hl
  refine ev_bin (ev_bin h1 h2 (binFd d m hd hm)) h3 ?_
  show (if 0 < k then _ else _) = _
  rw [if_pos hk]
noncomputable def liT (d : Int) (c w : Option V) : Sto := liS (some (.int d)) (some (.int (3 * Int.fmod d 16))) (some (.int (Int.fmod (Int.fdiv d 16) 5))) (some (.int (Int.fmod (Int.fdiv d 80) 5))) c w
noncomputable def lightsOf (d : Int) : List Int := [0, 16, 32].map (lightOf (3 * Int.fmod d 16) (Int.fmod (Int.fdiv d 16) 5) (Int.fmod (Int.fdiv d 80) 5))
theorem li4_body : bodyOf li4 = [.Assign [.Name "way" (tgtPos (at_ (bodyOf li4) 0))] liW (posOf (at_ (bodyOf li4) 0)), appSt "lights" (at_ (bodyOf li4) 1)] := by kernel_rfl
theorem liW_list : ∀ es q, liW ≠ .List es q := by
  intro es q e
  rw [liW_call] at e; cases e
theorem li4_step (f : Nat) (d c : Int) (hc : 0 ≤ c ∧ c < 48) (c0 w0 : Option V) (ls : List V) (hl : ls.length ≤ 4096) :
    forStep theTab theGlob (f + 33) lightsFn.names "corner" (tgtPos li4) (bodyOf li4) (liT d c0 w0) (some ("lights", ls)) (.int c) =
      some (.next (liT d (some (.int c)) (some (.int (wayOf (3 * Int.fmod d 16) c)))) (some ("lights", ls ++ [.int (lightOf (3 * Int.fmod d 16) (Int.fmod (Int.fdiv d 16) 5) (Int.fmod (Int.fdiv d 80) 5) c)]))) := by
  have h16 := fm d 16 (by decide)
  have hb : bindT lightsFn.names (liT d c0 w0) (.Name "corner" (tgtPos li4)) (.int c) = some (liT d (some (.int c)) w0) := by kernel_rfl
  have hd : dropOwn "corner" (some (("lights" : Str), ls)) = some (("lights" : Str), ls) := by kernel_rfl
  refine for_step hb hd ?_
  rw [li4_body]
  have hf : frozenFor liW (liT d (some (.int c)) w0) (some (("lights" : Str), ls)) = (liT d (some (.int c)) w0, some (("lights" : Str), ls)) := by kernel_rfl
  have ea : mexec theTab theGlob (f + 32) lightsFn.names (liT d (some (.int c)) w0) (some (("lights" : Str), ls)) (.Assign [.Name "way" (tgtPos (at_ (bodyOf li4) 0))] liW (posOf (at_ (bodyOf li4) 0))) = _ :=
    ex_assign (d := .int (wayOf (3 * Int.fmod d 16) c)) rfl liW_list (by kernel_rfl) (by rw [hf]; exact liW_run (f + 10) d _ _ _ c ls w0 (by omega) hc)
  rw [hf] at ea
  refine (exs_next ea).trans ?_
  have eb : mexec theTab theGlob (f + 31) lightsFn.names (liT d (some (.int c)) (some (.int (wayOf (3 * Int.fmod d 16) c)))) (some (("lights" : Str), ls)) (appSt "lights" (at_ (bodyOf li4) 1)) = _ :=
    ex_append (e := liX) rfl (by kernel_rfl) (liX_run f d _ _ _ c ls (fm _ 5 (by decide)) (fm _ 5 (by decide))) hl
  have es : (sput "way" (some (.int (wayOf (3 * Int.fmod d 16) c))) (liT d (some (.int c)) w0)) = liT d (some (.int c)) (some (.int (wayOf (3 * Int.fmod d 16) c))) := by kernel_rfl
  have ed : dropOwn "way" (some (("lights" : Str), ls)) = some (("lights" : Str), ls) := by kernel_rfl
  simp only [es, ed]
  refine (exs_next eb).trans ?_
  exact mxs_nil
theorem lights_run (f : Nat) (d : Int) (hd : 0 ≤ d ∧ d < 1000000) : mcall theTab theGlob (f + 45) lightsFn [.int d] = some (.list ((lightsOf d).map .int)) := by
  have h16 := fm d 16 (by decide)
  refine call_of (σ := liS (some (.int d)) none none none none none) (by kernel_rfl) ?_
  rw [li_body]
  have v0 : meval theTab theGlob (f + 42) lightsFn.names (liS (some (.int d)) none none none none none) none li0E = some (.int (3 * Int.fmod d 16)) := by
    have he : li0E = .BinOp (lhs li0E) .Mult (rhs li0E) (posE li0E) := by kernel_rfl
    rw [he]
    exact ev_bin (a := .int 3) (b := .int (Int.fmod d 16)) (by kernel_rfl) (by kernel_rfl) (binMul _ _ (sm (by omega) (by omega)) (sm (by omega) (by omega)) (sm (by omega) (by omega)))
  have e0 : mexec theTab theGlob (f + 43) lightsFn.names (liS (some (.int d)) none none none none none) none (asg "hue" (at_ lightsFn.body 0)) = some (.next (liS (some (.int d)) (some (.int (3 * Int.fmod d 16))) none none none none) none) :=
    (ex_assign (e := li0E) rfl (nolist_bin ⟨_, _, _, _, rfl⟩) (by kernel_rfl) v0).trans (by kernel_rfl)
  refine (exs_next e0).trans ?_
  have sd : small d = true := small_of (by omega) (by omega)
  have v1 : meval theTab theGlob (f + 41) lightsFn.names (liS (some (.int d)) (some (.int (3 * Int.fmod d 16))) none none none none) none li1E = some (.int (Int.fmod (Int.fdiv d 16) 5)) :=
    ev_divmod (l := lhs li1E) (r := rhs li1E) (p := posE li1E) (l2 := lhs (lhs li1E)) (r2 := rhs (lhs li1E)) (p2 := posE (lhs li1E)) (by kernel_rfl) (by kernel_rfl) (by kernel_rfl) (by kernel_rfl) (by kernel_rfl) sd (by decide) (by decide)
  have e1 : mexec theTab theGlob (f + 42) lightsFn.names (liS (some (.int d)) (some (.int (3 * Int.fmod d 16))) none none none none) none (asg "share" (at_ lightsFn.body 1)) = some (.next (liS (some (.int d)) (some (.int (3 * Int.fmod d 16))) (some (.int (Int.fmod (Int.fdiv d 16) 5))) none none none) none) :=
    (ex_assign (e := li1E) rfl (nolist_bin ⟨_, _, _, _, rfl⟩) (by kernel_rfl) v1).trans (by kernel_rfl)
  refine (exs_next e1).trans ?_
  have v2 : meval theTab theGlob (f + 40) lightsFn.names (liS (some (.int d)) (some (.int (3 * Int.fmod d 16))) (some (.int (Int.fmod (Int.fdiv d 16) 5))) none none none) none li2E = some (.int (Int.fmod (Int.fdiv d 80) 5)) :=
    ev_divmod (l := lhs li2E) (r := rhs li2E) (p := posE li2E) (l2 := lhs (lhs li2E)) (r2 := rhs (lhs li2E)) (p2 := posE (lhs li2E)) (by kernel_rfl) (by kernel_rfl) (by kernel_rfl) (by kernel_rfl) (by kernel_rfl) sd (by decide) (by decide)
  have e2 : mexec theTab theGlob (f + 41) lightsFn.names (liS (some (.int d)) (some (.int (3 * Int.fmod d 16))) (some (.int (Int.fmod (Int.fdiv d 16) 5))) none none none) none (asg "level" (at_ lightsFn.body 2)) = some (.next (liT d none none) none) :=
    (ex_assign (e := li2E) rfl (nolist_bin ⟨_, _, _, _, rfl⟩) (by kernel_rfl) v2).trans (by kernel_rfl)
  refine (exs_next e2).trans ?_
  have e3 : mexec theTab theGlob (f + 40) lightsFn.names (liT d none none) none (at_ lightsFn.body 3) = some (.next (liT d none none) (some (("lights" : Str), []))) := by kernel_rfl
  refine (exs_next e3).trans ?_
  have hfor : li4 = .For (.Name "corner" (tgtPos li4)) (exprOf li4) (bodyOf li4) [] (posOf li4) := by kernel_rfl
  have fz : frozenFor (exprOf li4) (liT d none none) (some (("lights" : Str), [])) = (liT d none none, some (("lights" : Str), [])) := by kernel_rfl
  have src : msrc theTab theGlob (f + 38) lightsFn.names (liT d none none) (some (("lights" : Str), [])) (exprOf li4) = some [.int 0, .int 16, .int 32] := by kernel_rfl
  have loop : loopM (forStep theTab theGlob (f + 38) lightsFn.names "corner" (tgtPos li4) (bodyOf li4)) (liT d none none) (some (("lights" : Str), [])) [.int 0, .int 16, .int 32] =
      some (.next (liT d (some (.int 32)) (some (.int (wayOf (3 * Int.fmod d 16) 32)))) (some (("lights" : Str), (lightsOf d).map .int))) := by
    rw [loopM, li4_step (f + 5) d 0 (by decide) none none [] (by decide)]
    simp only
    rw [loopM, li4_step (f + 5) d 16 (by decide) _ _ _ (by simp)]
    simp only
    rw [loopM, li4_step (f + 5) d 32 (by decide) _ _ _ (by simp)]
    rfl
  refine (exs_next (ex_for hfor (by rw [fz]; exact src) (by rw [fz]; exact loop))).trans ?_
  refine exs_ret (ex_ret ?_)
  kernel_rfl
end Mine
end
section
open PySem
set_option maxRecDepth 1000000
namespace Mine
noncomputable def hsvFn : Fn := (fnOfStmt "hsv_to_rgb" PySem.Challenge.pw_sw0011_01.main.body).getD ⟨[], [], []⟩
theorem hsv_tab : theTab "hsv_to_rgb" = some hsvFn := by kernel_rfl
noncomputable def one0 : UInt64 := 0x3FF0000000000000
noncomputable def six0 : UInt64 := 0x4018000000000000
/-- the store: h s v i f p q t -/
noncomputable def hsS (h s v i f p q t : Option V) : Sto := [("h", h), ("s", s), ("v", v), ("i", i), ("f", f), ("p", p), ("q", q), ("t", t), ("int", none)]
theorem hs_body : hsvFn.body = at_ hsvFn.body 0 :: asg "i" (at_ hsvFn.body 1) :: asg "f" (at_ hsvFn.body 2) :: asg "p" (at_ hsvFn.body 3) :: asg "q" (at_ hsvFn.body 4) :: asg "t" (at_ hsvFn.body 5) :: asg "i" (at_ hsvFn.body 6) :: hsvFn.body.drop 7 := by kernel_rfl
theorem hs_if : at_ hsvFn.body 0 = .If (exprOf (at_ hsvFn.body 0)) (bodyOf (at_ hsvFn.body 0)) [] (posOf (at_ hsvFn.body 0)) := by kernel_rfl
section
variable {tab : Tab} {glob : Str → Option V} {n : Nat} {N : Names} {σ : Sto} {ω : Own}
theorem ex_if {s : Stmt} {t : Expr} {b o : List Stmt} {p : Pos} {c : Bool} {r : Option Res} (hs : s = .If t b o p) (ht : mtest tab glob n N (frozenFor t σ ω).1 (frozenFor t σ ω).2 t = some c) (h : mexecs tab glob n N (frozenFor t σ ω).1 (frozenFor t σ ω).2 (if c then b else o) = r) : mexec tab glob (n + 1) N σ ω s = r := by
  subst hs
  rw [mx_If, ht]
  cases c <;> exact h
end
theorem hs_test0 (f : Nat) (h s v : UInt64) : mtest theTab theGlob (f + 20) hsvFn.names (hsS (some (.float h)) (some (.float s)) (some (.float v)) none none none none none) none (exprOf (at_ hsvFn.body 0)) = eqV 8 (.float s) (.float 0) := by kernel_rfl
theorem hsv_zero (f : Nat) (h s v : UInt64) (hs : eqV 8 (.float s) (.float 0) = some true) : mcall theTab theGlob (f + 30) hsvFn [.float h, .float s, .float v] = some (.tup [.float v, .float v, .float v]) := by
  refine call_of (σ := hsS (some (.float h)) (some (.float s)) (some (.float v)) none none none none none) (by kernel_rfl) ?_
  rw [hs_body]
  refine exs_ret (ex_if hs_if (c := true) ?_ ?_)
  · exact (hs_test0 (f + 7) h s v).trans hs
  · kernel_rfl
noncomputable def hsF (h : UInt64) (i : Int) : UInt64 := Float64.sub (Float64.mul h six0) (Float64.ofInt i)
noncomputable def hsP (s v : UInt64) : UInt64 := Float64.mul v (Float64.sub one0 s)
noncomputable def hsQ (s v f : UInt64) : UInt64 := Float64.mul v (Float64.sub one0 (Float64.mul s f))
noncomputable def hsT (s v f : UInt64) : UInt64 := Float64.mul v (Float64.sub one0 (Float64.mul s (Float64.sub one0 f)))
noncomputable def hsPick (c : Int) (v p q t : UInt64) : List UInt64 := if c == 0 then [v, t, p] else if c == 1 then [q, v, p] else if c == 2 then [p, v, t] else if c == 3 then [p, q, v] else if c == 4 then [t, p, v] else [v, p, q]
theorem hs_end (f : Nat) (h s v ff p q t : UInt64) : ∀ c : Int, 0 ≤ c ∧ c < 6 → mexecs theTab theGlob (f + 25) hsvFn.names (hsS (some (.float h)) (some (.float s)) (some (.float v)) (some (.int c)) (some (.float ff)) (some (.float p)) (some (.float q)) (some (.float t))) none (hsvFn.body.drop 7) = some (.ret (.tup ((hsPick c v p q t).map .float))) := by
  intro c hc
  have : c = 0 ∨ c = 1 ∨ c = 2 ∨ c = 3 ∨ c = 4 ∨ c = 5 := by omega
  rcases this with rfl | rfl | rfl | rfl | rfl | rfl <;> kernel_rfl
noncomputable def hsE (i : Nat) : Expr := exprOf (at_ hsvFn.body i)
noncomputable def hsRef (h s v : UInt64) (i : Int) : List UInt64 := hsPick (Int.fmod i 6) v (hsP s v) (hsQ s v (hsF h i)) (hsT s v (hsF h i))
theorem hsv_run (k : Nat) (h s v : UInt64) (i : Int) (hs : eqV 8 (.float s) (.float 0) = some false) (hi : callB "int" [.float (Float64.mul h six0)] = some (.int i)) (hb : 0 ≤ i ∧ i < 1000) :
    mcall theTab theGlob (k + 40) hsvFn [.float h, .float s, .float v] = some (.tup ((hsRef h s v i).map .float)) := by
  refine call_of (σ := hsS (some (.float h)) (some (.float s)) (some (.float v)) none none none none none) (by kernel_rfl) ?_
  rw [hs_body]
  have e0 : mexec theTab theGlob (k + 38) hsvFn.names (hsS (some (.float h)) (some (.float s)) (some (.float v)) none none none none none) none (at_ hsvFn.body 0) = some (.next (hsS (some (.float h)) (some (.float s)) (some (.float v)) none none none none none) none) :=
    ex_if hs_if (c := false) ((hs_test0 (k + 17) h s v).trans hs) (by kernel_rfl)
  refine (exs_next e0).trans ?_
  have v1 : meval theTab theGlob (k + 36) hsvFn.names (hsS (some (.float h)) (some (.float s)) (some (.float v)) none none none none none) none (hsE 1) = callB "int" [.float (Float64.mul h six0)] := by kernel_rfl
  rw [hi] at v1
  have l1 : ∀ es q, hsE 1 ≠ .List es q := by
    have e : hsE 1 = .Call (.Name "int" (fnPos (hsE 1))) [arg 0 (hsE 1)] [] (posC (hsE 1)) := by kernel_rfl
    intro es q e2
    rw [e] at e2; cases e2
  have e1 : mexec theTab theGlob (k + 37) hsvFn.names (hsS (some (.float h)) (some (.float s)) (some (.float v)) none none none none none) none (asg "i" (at_ hsvFn.body 1)) = some (.next (hsS (some (.float h)) (some (.float s)) (some (.float v)) (some (.int i)) none none none none) none) :=
    (ex_assign (e := hsE 1) rfl l1 (by kernel_rfl) v1).trans (by kernel_rfl)
  refine (exs_next e1).trans ?_
  have v2 : meval theTab theGlob (k + 35) hsvFn.names (hsS (some (.float h)) (some (.float s)) (some (.float v)) (some (.int i)) none none none none) none (hsE 2) = some (.float (hsF h i)) := by
    have he : hsE 2 = .BinOp (lhs (hsE 2)) .Sub (rhs (hsE 2)) (posE (hsE 2)) := by kernel_rfl
    rw [he]
    refine ev_bin (a := .float (Float64.mul h six0)) (b := .int i) (by kernel_rfl) (by kernel_rfl) ?_
    show (if small i = true then some (V.float (Float64.sub (Float64.mul h six0) (Float64.ofInt i))) else none) = _
    rw [small_of (by omega) (by omega), if_pos rfl]; rfl
  have e2 : mexec theTab theGlob (k + 36) hsvFn.names (hsS (some (.float h)) (some (.float s)) (some (.float v)) (some (.int i)) none none none none) none (asg "f" (at_ hsvFn.body 2)) = some (.next (hsS (some (.float h)) (some (.float s)) (some (.float v)) (some (.int i)) (some (.float (hsF h i))) none none none) none) :=
    (ex_assign (e := hsE 2) rfl (nolist_bin ⟨_, _, _, _, rfl⟩) (by kernel_rfl) v2).trans (by kernel_rfl)
  refine (exs_next e2).trans ?_
  generalize hff : hsF h i = ff
  have e3 : mexec theTab theGlob (k + 35) hsvFn.names (hsS (some (.float h)) (some (.float s)) (some (.float v)) (some (.int i)) (some (.float ff)) none none none) none (asg "p" (at_ hsvFn.body 3)) = some (.next (hsS (some (.float h)) (some (.float s)) (some (.float v)) (some (.int i)) (some (.float ff)) (some (.float (hsP s v))) none none) none) := by kernel_rfl
  refine (exs_next e3).trans ?_
  have e4 : mexec theTab theGlob (k + 34) hsvFn.names (hsS (some (.float h)) (some (.float s)) (some (.float v)) (some (.int i)) (some (.float ff)) (some (.float (hsP s v))) none none) none (asg "q" (at_ hsvFn.body 4)) = some (.next (hsS (some (.float h)) (some (.float s)) (some (.float v)) (some (.int i)) (some (.float ff)) (some (.float (hsP s v))) (some (.float (hsQ s v ff))) none) none) := by kernel_rfl
  refine (exs_next e4).trans ?_
  have e5 : mexec theTab theGlob (k + 33) hsvFn.names (hsS (some (.float h)) (some (.float s)) (some (.float v)) (some (.int i)) (some (.float ff)) (some (.float (hsP s v))) (some (.float (hsQ s v ff))) none) none (asg "t" (at_ hsvFn.body 5)) = some (.next (hsS (some (.float h)) (some (.float s)) (some (.float v)) (some (.int i)) (some (.float ff)) (some (.float (hsP s v))) (some (.float (hsQ s v ff))) (some (.float (hsT s v ff)))) none) := by kernel_rfl
  refine (exs_next e5).trans ?_
  have e6 : mexec theTab theGlob (k + 32) hsvFn.names (hsS (some (.float h)) (some (.float s)) (some (.float v)) (some (.int i)) (some (.float ff)) (some (.float (hsP s v))) (some (.float (hsQ s v ff))) (some (.float (hsT s v ff)))) none (asg "i" (at_ hsvFn.body 6)) = some (.next (hsS (some (.float h)) (some (.float s)) (some (.float v)) (some (.int (Int.fmod i 6))) (some (.float ff)) (some (.float (hsP s v))) (some (.float (hsQ s v ff))) (some (.float (hsT s v ff)))) none) := by kernel_rfl
  refine (exs_next e6).trans ?_
  rw [hs_end (k + 7) h s v ff _ _ _ _ (fm i 6 (by decide))]
  unfold hsRef
  rw [hff]
end Mine
end
section
open PySem
set_option maxRecDepth 1000000
namespace Mine
noncomputable def frac (a b : Nat) : UInt64 := Float64.ofFrac false a b
noncomputable def tabF (j : Int) : UInt64 := Float64.ofFrac false j.natAbs 128
noncomputable def hueF (a t : Nat) : UInt64 := Float64.add (frac a 16) (Float64.ofInt t)
noncomputable def intF (u : UInt64) : Int := match Float64.decode u with
  | .fin sg m e => Float64.truncOf sg m e
  | _ => -1
noncomputable def lightsAt (a s l : Nat) : List Int := [0, 16, 32].map (lightOf (3 * (a : Int)) s l)
noncomputable def hueOk (a t : Nat) : Bool := (intF (Float64.mul (hueF a t) six0) == (((3 * a) / 8 + 6 * t : Nat) : Int)) && (hsF (hueF a t) (((3 * a) / 8 + 6 * t : Nat) : Int) == frac ((3 * a) % 8) 8)
noncomputable def paintOk (a s l : Nat) : Bool :=
  hsPick (((3 * a) / 8 % 6 : Nat) : Int) (frac l 4) (hsP (frac s 4) (frac l 4)) (hsQ (frac s 4) (frac l 4) (frac ((3 * a) % 8) 8)) (hsT (frac s 4) (frac l 4) (frac ((3 * a) % 8) 8)) == (lightsAt a s l).map tabF
noncomputable def decOk (j : Nat) : Bool := match Float64.decode (tabF j) with
  | .fin false m e => decide (-1100 ≤ e) && (m * 2 ^ (e + 1100).toNat == j * 2 ^ 1093)
  | _ => false
noncomputable def timesOk (j : Nat) : Bool := Float64.cmpInt (Float64.mul (tabF j) (Float64.ofInt 128)) j == some .eq
noncomputable def zeroOk (s : Nat) : Bool := eqV 8 (.float (frac s 4)) (.float 0) == some (s == 0)
theorem hue_all : ((List.range 16).all fun a => (List.range 4).all fun t => hueOk a t) = true := by decide +kernel
theorem paint_0 : ((List.range 8).all fun a => (List.range 5).all fun s => (List.range 5).all fun l => paintOk a s l) = true := by decide +kernel
theorem paint_1 : ((List.range 8).all fun a => (List.range 5).all fun s => (List.range 5).all fun l => paintOk (a + 8) s l) = true := by decide +kernel
theorem times_all : ((List.range 129).all timesOk) = true := by decide +kernel
theorem dec_all : ((List.range 129).all decOk) = true := by decide +kernel
theorem zero_all : ((List.range 5).all zeroOk) = true := by decide +kernel
end Mine
end
section
open PySem
set_option maxRecDepth 1000000
namespace Mine
noncomputable def risesFn : Fn := (fnOfStmt "_law_rises" PySem.Challenge.pw_sw0011_01.main.body).getD ⟨[], [], []⟩
theorem rises_tab : theTab "_law_rises" = some risesFn := by kernel_rfl
/-- the store: lights order c rises k high -/
noncomputable def riS (L O : V) (c : Int) (k h : Option V) : Sto := [("lights", some L), ("order", some O), ("c", some (.int c)), ("rises", none), ("k", k), ("high", h), ("range", none), ("len", none), ("sum", none)]
noncomputable def ri1 : Stmt := at_ risesFn.body 1
noncomputable def riH : Expr := exprOf (at_ (bodyOf ri1) 0)
noncomputable def riX : Expr := arg 0 (exprOf (at_ (bodyOf ri1) 1))
noncomputable def riC : Expr := arg 0 riX
noncomputable def riT : Expr := (genOf riC).ifs.getD 0 nil0
/-- lexicographic < -/
noncomputable def lessI (a b c d : Int) : Bool := if a == c then (if b == d then false else decide (b < d)) else decide (a < c)
theorem ltP_int (a b c d : Int) : ltP (.tup [.int a, .int b]) (.tup [.int c, .int d]) = some (lessI a b c d) := by
  have e : ltP (.tup [.int a, .int b]) (.tup [.int c, .int d]) = (match some (a == c) with
    | some true => (match some (b == d) with
      | some true => some false
      | some false => some (decide (b < d))
      | none => none)
    | some false => some (decide (a < c))
    | none => none) := by kernel_rfl
  rw [e]
  unfold lessI
  cases a == c with
  | true => cases b == d <;> rfl
  | false => rfl
noncomputable def light (lights : List (List Int)) (i : Int) (c : Nat) : Int := (lights.getD i.toNat []).getD c 0
noncomputable def listsV (lights : List (List Int)) : V := .list (lights.map fun l => .list (l.map .int))
noncomputable def riI (L O : V) (c : Int) (h : V) (j : Int) : Sto := [("lights", some L), ("order", some O), ("c", some (.int c)), ("high", some h), ("j", some (.int j))]
theorem riT_e : riT = .Compare (lhs riT) [.Lt] [rhs riT] (posC riT) := by kernel_rfl
theorem riT_r (f : Nat) (L O : V) (c : Int) (h : V) (j : Int) : meval theTab theGlob (f + 18) (scopeOf riC).names (riI L O c h j) none (rhs riT) = some h := by kernel_rfl
theorem riT_l0 (f : Nat) (L O : V) (c : Int) (h : V) (j : Int) : meval theTab theGlob (f + 16) (scopeOf riC).names (riI L O c h j) none (elOf 0 (lhs riT)) =
    (match (match idxV O (.int j) with | some i => idxV L i | none => none) with | some a => idxV a (.int c) | none => none) := by kernel_rfl
theorem riH_0 (f : Nat) (L O : V) (c k : Int) (h : Option V) (rs : List V) : meval theTab theGlob (f + 16) risesFn.names (riS L O c (some (.int k)) h) (some ("rises", rs)) (elOf 0 riH) =
    (match (match idxV O (.int k) with | some i => idxV L i | none => none) with | some a => idxV a (.int c) | none => none) := by kernel_rfl
theorem riT_l1 (f : Nat) (L O : V) (c : Int) (h : V) (j : Int) : meval theTab theGlob (f + 16) (scopeOf riC).names (riI L O c h j) none (elOf 1 (lhs riT)) = idxV O (.int j) := by kernel_rfl
theorem riX_e (f : Nat) (L O : V) (c : Int) (h : V) (j : Int) : meval theTab theGlob (f + 16) (scopeOf riC).names (riI L O c h j) none (eltOf riC) = binV .Pow (.int 2) (.int j) := by kernel_rfl
/-- what the runs need of the data: n lists of three, an order of n places below n -/
structure RiOk (lights : List (List Int)) (order : List Int) (c : Nat) : Prop where
  len : order.length = lights.length
  few : lights.length ≤ 5
  three : ∀ l ∈ lights, l.length = 3
  place : ∀ i ∈ order, 0 ≤ i ∧ i < lights.length
  c3 : c < 3
noncomputable def keyL (lights : List (List Int)) (order : List Int) (c : Nat) (j : Nat) : Int := light lights (order.getD j 0) c
theorem riKey {lights : List (List Int)} {order : List Int} {c : Nat} (R : RiOk lights order c) (j : Nat) (hj : j < order.length) :
    (match (match idxV (.list (order.map .int)) (.int (j : Int)) with | some i => idxV (listsV lights) i | none => none) with | some a => idxV a (.int (c : Int)) | none => none) = some (.int (keyL lights order c j)) := by
  have hf := R.few
  have hl := R.len
  have hc := R.c3
  rw [idx_ints order j hj (by omega)]
  have hp := R.place _ (getDmem (d := 0) hj)
  unfold keyL light
  generalize order.getD j 0 = i at *
  have hi : i.toNat < lights.length := by omega
  have e1 : idxV (listsV lights) (.int i) = some (.list ((lights.getD i.toNat []).map .int)) := by
    unfold listsV
    rw [idx_int _ _ hp.1 (by omega), List.getElem?_map, getD_at (d := []) hi]
    rfl
  simp only [e1]
  have h3 := R.three _ (getDmem (d := []) hi)
  exact idx_ints _ c (by omega) (by omega)
noncomputable def pairV (lights : List (List Int)) (order : List Int) (c : Nat) (j : Nat) : V := .tup [.int (keyL lights order c j), .int (order.getD j 0)]
noncomputable def lessK (lights : List (List Int)) (order : List Int) (c : Nat) (j k : Nat) : Bool := lessI (keyL lights order c j) (order.getD j 0) (keyL lights order c k) (order.getD k 0)
theorem riT_tup : lhs riT = .Tuple [elOf 0 (lhs riT), elOf 1 (lhs riT)] 0 (match lhs riT with | .Tuple _ _ p => p | _ => ⟨0, 0, 0, 0⟩) := by kernel_rfl
theorem ev_tup {tab : Tab} {glob : Str → Option V} {n : Nat} {N : Names} {σ : Sto} {ω : Own} {e : Expr} {es : List Expr} {k : Nat} {p : Pos} {ds : List V} (he : e = .Tuple es k p) (h : meach tab glob n N σ ω es = some ds) (hl : ds.length ≤ 4096) : meval tab glob (n + 1) N σ ω e = some (.tup ds) := by
  subst he
  rw [mv_Tuple, h]
  exact if_pos hl
theorem riT_run (f : Nat) {lights : List (List Int)} {order : List Int} {c : Nat} (R : RiOk lights order c) (j k : Nat) (hj : j < order.length) :
    mtests theTab theGlob (f + 21) (scopeOf riC).names (riI (listsV lights) (.list (order.map .int)) c (pairV lights order c k) j) none (genOf riC).ifs = some (lessK lights order c j k) := by
  have e : (genOf riC).ifs = [riT] := by kernel_rfl
  have hf := R.few
  have hl := R.len
  rw [e]
  refine tests_one (tst_cmp riT_e (a := pairV lights order c j) (d := pairV lights order c k) ?_ (riT_r (f + 1) _ _ _ _ _) (ltP_int _ _ _ _))
  refine ev_tup riT_tup ?_ (show (2 : Nat) ≤ 4096 by decide)
  refine each_cons ((riT_l0 (f + 1) _ _ _ _ _).trans (riKey R j hj)) (each_cons ((riT_l1 f _ _ _ _ _).trans (idx_ints order j hj (by omega))) each_nil)
theorem riH_tup : riH = .Tuple [elOf 0 riH, elOf 1 riH] 0 (match riH with | .Tuple _ _ p => p | _ => ⟨0, 0, 0, 0⟩) := by kernel_rfl
theorem riH_1 (f : Nat) (L O : V) (c k : Int) (h : Option V) (rs : List V) : meval theTab theGlob (f + 16) risesFn.names (riS L O c (some (.int k)) h) (some ("rises", rs)) (elOf 1 riH) = idxV O (.int k) := by kernel_rfl
theorem riH_run (f : Nat) {lights : List (List Int)} {order : List Int} {c : Nat} (R : RiOk lights order c) (k : Nat) (hk : k < order.length) (h : Option V) (rs : List V) :
    meval theTab theGlob (f + 19) risesFn.names (riS (listsV lights) (.list (order.map .int)) c (some (.int (k : Int))) h) (some ("rises", rs)) riH = some (pairV lights order c k) := by
  have hl := R.len
  have hf := R.few
  refine ev_tup riH_tup ?_ (show (2 : Nat) ≤ 4096 by decide)
  have h0 := (riH_0 (f + 1) (listsV lights) (.list (order.map .int)) c k h rs).trans (riKey R k hk)
  have h1 := (riH_1 f (listsV lights) (.list (order.map .int)) c k h rs).trans (idx_ints order k hk (by omega))
  exact each_cons h0 (each_cons h1 each_nil)
end Mine
end
section
open PySem
set_option maxRecDepth 1000000
namespace Mine
noncomputable def risesAt (lights : List (List Int)) (order : List Int) (c k : Nat) : List Int := ((List.range k).filter fun j => lessK lights order c j k).map fun j => (2 : Int) ^ j
theorem pow_run : ∀ j : Nat, j < 5 → binV .Pow (.int 2) (.int (j : Int)) = some (.int ((2 : Int) ^ j))
  | 0, _ => by kernel_rfl
  | 1, _ => by kernel_rfl
  | 2, _ => by kernel_rfl
  | 3, _ => by kernel_rfl
  | 4, _ => by kernel_rfl
theorem riC_src (f : Nat) (L O : V) (c : Int) (h : V) (rs : List V) : ∀ k : Nat, k < 5 → msrc theTab theGlob (f + 20) risesFn.names (riS L O c (some (.int (k : Int))) (some h)) (some ("rises", rs)) (genOf riC).iter = some (natL k)
  | 0, _ => by kernel_rfl
  | 1, _ => by kernel_rfl
  | 2, _ => by kernel_rfl
  | 3, _ => by kernel_rfl
  | 4, _ => by kernel_rfl
theorem riC_run (f : Nat) {lights : List (List Int)} {order : List Int} {c : Nat} (R : RiOk lights order c) (k : Nat) (hk : k < order.length) (rs : List V) :
    meval theTab theGlob (f + 22) risesFn.names (riS (listsV lights) (.list (order.map .int)) c (some (.int (k : Int))) (some (pairV lights order c k))) (some ("rises", rs)) riC = some (.list ((risesAt lights order c k).map .int)) := by
  have hl := R.len
  have hf := R.few
  refine ev_comp (xs := natL k) (by kernel_rfl) (by kernel_rfl) (riC_src (f + 1) _ _ _ _ rs k (by omega)) ?_
  unfold natL
  rw [compM_opt (b := fun j : Nat => lessK lights order c j k) (h := fun j => some (.int ((2 : Int) ^ j))) (fun (i : Nat) => .int (i : Int)) (List.range k) fun j hj => ?_, optMap_some]
  · unfold risesAt
    rw [List.map_map]; rfl
  · have hj := List.mem_range.mp hj
    refine compF_if (σ' := riI (listsV lights) (.list (order.map .int)) c (pairV lights order c k) j) (by kernel_rfl) (riT_run f R j k (by omega)) (fun e => ?_) (fun e => by rw [e]; rfl)
    have e2 : meval theTab theGlob (f + 21) (scopeOf riC).names (riI (listsV lights) (.list (order.map .int)) c (pairV lights order c k) j) (innerOwn (scopeOf riC) (some ("rises", rs))) (eltOf riC) = some (.int ((2 : Int) ^ j)) :=
      (riX_e (f + 5) _ _ _ _ _).trans (pow_run j (by omega))
    rw [e2, e]
    rfl
theorem riX_run (f : Nat) {lights : List (List Int)} {order : List Int} {c : Nat} (R : RiOk lights order c) (k : Nat) (hk : k < order.length) (rs : List V) :
    meval theTab theGlob (f + 24) risesFn.names (riS (listsV lights) (.list (order.map .int)) c (some (.int (k : Int))) (some (pairV lights order c k))) (some ("rises", rs)) riX = some (.int (risesAt lights order c k).sum) := by
  have hl := R.len
  have hf := R.few
  have he : riX = .Call (.Name "sum" (fnPos riX)) [riC] [] (posC riX) := by kernel_rfl
  refine ev_callB he (by kernel_rfl) (by kernel_rfl) (by kernel_rfl) (by kernel_rfl) (each_cons (riC_run f R k hk rs) each_nil) ?_
  show (if ((risesAt lights order c k).map V.int).length ≤ 4096 then (intsOf ((risesAt lights order c k).map .int)).map (fun l => V.int l.sum) else none) = _
  rw [if_pos (by rw [List.length_map, risesAt, List.length_map]; have := List.length_filter_le (fun j => lessK lights order c j k) (List.range k); rw [List.length_range] at this; omega), intsOf_map]
  rfl
noncomputable def risesRef (lights : List (List Int)) (order : List Int) (c : Nat) : Nat → List Int
  | 0 => []
  | k + 1 => risesRef lights order c k ++ [(risesAt lights order c k).sum]
noncomputable def riSt (lights : List (List Int)) (order : List Int) (c : Nat) : Nat → Sto × Own
  | 0 => (riS (listsV lights) (.list (order.map .int)) c none none, some ("rises", []))
  | k + 1 => (riS (listsV lights) (.list (order.map .int)) c (some (.int (k : Int))) (some (pairV lights order c k)), some ("rises", (risesRef lights order c (k + 1)).map .int))
theorem ri_body1 : bodyOf ri1 = [.Assign [.Name "high" (tgtPos (at_ (bodyOf ri1) 0))] riH (posOf (at_ (bodyOf ri1) 0)), appSt "rises" (at_ (bodyOf ri1) 1)] := by kernel_rfl
theorem riH_list : ∀ es q, riH ≠ .List es q := by
  intro es q e
  rw [riH_tup] at e; cases e
theorem risesRef_len (lights : List (List Int)) (order : List Int) (c : Nat) : ∀ k, (risesRef lights order c k).length = k
  | 0 => rfl
  | k + 1 => by rw [risesRef, List.length_append, risesRef_len lights order c k]; rfl
theorem ri_step (f : Nat) {lights : List (List Int)} {order : List Int} {c : Nat} (R : RiOk lights order c) (k : Nat) (hk : k < order.length) :
    forStep theTab theGlob (f + 27) risesFn.names "k" (tgtPos ri1) (bodyOf ri1) (riSt lights order c k).1 (riSt lights order c k).2 (.int (k : Nat)) = some (.next (riSt lights order c (k + 1)).1 (riSt lights order c (k + 1)).2) := by
  have hl := R.len
  have hf := R.few
  have core : ∀ σ ω h0, bindT risesFn.names σ (.Name "k" (tgtPos ri1)) (.int (k : Nat)) = some (riS (listsV lights) (.list (order.map .int)) c (some (.int (k : Int))) h0) → dropOwn "k" ω = some (("rises" : Str), (risesRef lights order c k).map V.int) →
      forStep theTab theGlob (f + 27) risesFn.names "k" (tgtPos ri1) (bodyOf ri1) σ ω (.int (k : Nat)) = some (.next (riSt lights order c (k + 1)).1 (riSt lights order c (k + 1)).2) := by
    intro σ ω h0 hb hd
    refine for_step hb hd ?_
    rw [ri_body1]
    have hfz : frozenFor riH (riS (listsV lights) (.list (order.map .int)) c (some (.int (k : Int))) h0) (some (("rises" : Str), (risesRef lights order c k).map V.int)) = (riS (listsV lights) (.list (order.map .int)) c (some (.int (k : Int))) h0, some (("rises" : Str), (risesRef lights order c k).map V.int)) := by kernel_rfl
    have ea : mexec theTab theGlob (f + 26) risesFn.names (riS (listsV lights) (.list (order.map .int)) c (some (.int (k : Int))) h0) (some (("rises" : Str), (risesRef lights order c k).map V.int)) (.Assign [.Name "high" (tgtPos (at_ (bodyOf ri1) 0))] riH (posOf (at_ (bodyOf ri1) 0))) =
        some (.next (riS (listsV lights) (.list (order.map .int)) c (some (.int (k : Int))) (some (pairV lights order c k))) (some (("rises" : Str), (risesRef lights order c k).map V.int))) :=
      (ex_assign rfl riH_list (by kernel_rfl) (by rw [hfz]; exact riH_run (f + 6) R k hk h0 _)).trans (by rw [hfz]; kernel_rfl)
    refine (exs_next ea).trans ?_
    have eb : mexec theTab theGlob (f + 25) risesFn.names (riS (listsV lights) (.list (order.map .int)) c (some (.int (k : Int))) (some (pairV lights order c k))) (some (("rises" : Str), (risesRef lights order c k).map V.int)) (appSt "rises" (at_ (bodyOf ri1) 1)) = _ :=
      ex_append (e := riX) rfl (by kernel_rfl) (riX_run f R k hk _) (by rw [List.length_map, risesRef_len]; omega)
    refine (exs_next eb).trans ?_
    have es : riSt lights order c (k + 1) = (riS (listsV lights) (.list (order.map .int)) c (some (.int (k : Int))) (some (pairV lights order c k)), some (("rises" : Str), (risesRef lights order c k).map V.int ++ [V.int (risesAt lights order c k).sum])) := by
      show (_, some (("rises" : Str), (risesRef lights order c (k + 1)).map V.int)) = _
      rw [risesRef, List.map_append]; rfl
    rw [es]
    exact mxs_nil
  cases k with
  | zero => exact core _ _ none (by kernel_rfl) (by kernel_rfl)
  | succ k => exact core _ _ (some (pairV lights order c k)) (by kernel_rfl) (by kernel_rfl)
end Mine
end
section
open PySem
set_option maxRecDepth 1000000
namespace Mine
theorem ri_it4 (f : Nat) (L : V) (c : Int) (a b d e : Int) : msrc theTab theGlob (f + 20) risesFn.names (riS L (.list ([a, b, d, e].map .int)) c none none) (some ("rises", [])) (exprOf ri1) = some (natL 4) := by kernel_rfl
theorem ri_it5 (f : Nat) (L : V) (c : Int) (a b d e g : Int) : msrc theTab theGlob (f + 20) risesFn.names (riS L (.list ([a, b, d, e, g].map .int)) c none none) (some ("rises", [])) (exprOf ri1) = some (natL 5) := by kernel_rfl
theorem ri_for : ri1 = .For (.Name "k" (tgtPos ri1)) (exprOf ri1) (bodyOf ri1) [] (posOf ri1) := by kernel_rfl
theorem ri_bd : risesFn.body = [at_ risesFn.body 0, ri1, .Return (some (exprOf (at_ risesFn.body 2))) (posOf (at_ risesFn.body 2))] := by kernel_rfl
theorem rises_run (f : Nat) {lights : List (List Int)} {order : List Int} {c : Nat} (R : RiOk lights order c) (h : order.length = 4 ∨ order.length = 5) :
    mcall theTab theGlob (f + 32) risesFn [listsV lights, .list (order.map .int), .int c] = some (.list ((risesRef lights order c order.length).map .int)) := by
  refine call_of (σ := riS (listsV lights) (.list (order.map .int)) c none none) (by kernel_rfl) ?_
  rw [ri_bd]
  have e0 : mexec theTab theGlob (f + 30) risesFn.names (riS (listsV lights) (.list (order.map .int)) c none none) none (at_ risesFn.body 0) = some (.next (riSt lights order c 0).1 (riSt lights order c 0).2) := by kernel_rfl
  refine (exs_next e0).trans ?_
  have src : msrc theTab theGlob (f + 28) risesFn.names (riSt lights order c 0).1 (riSt lights order c 0).2 (exprOf ri1) = some (natL order.length) := by
    rcases h with h | h
    · obtain ⟨a, b, c, d, rfl⟩ := len4 h
      exact ri_it4 (f + 8) _ _ a b c d
    · obtain ⟨a, b, c, d, e, rfl⟩ := len5 h
      exact ri_it5 (f + 8) _ _ a b c d e
  have fz : frozenFor (exprOf ri1) (riSt lights order c 0).1 (riSt lights order c 0).2 = riSt lights order c 0 := by kernel_rfl
  have loop := loopM_nat (step := forStep theTab theGlob (f + 28) risesFn.names "k" (tgtPos ri1) (bodyOf ri1)) (riSt lights order c) order.length fun i hi => ri_step (f + 1) R i hi
  refine (exs_next (ex_for ri_for (by rw [fz]; exact src) (by rw [fz]; exact loop))).trans ?_
  refine exs_ret (ex_ret ?_)
  obtain ⟨m, hm⟩ : ∃ m, order.length = m + 1 := ⟨order.length - 1, by omega⟩
  rw [hm]
  have ef : freeze (riSt lights order c (m + 1)).1 (riSt lights order c (m + 1)).2 = ([("lights", some (listsV lights)), ("order", some (.list (order.map .int))), ("c", some (.int c)), ("rises", some (.list ((risesRef lights order c (m + 1)).map .int))), ("k", some (.int (m : Int))), ("high", some (pairV lights order c m)), ("range", none), ("len", none), ("sum", none)] : Sto) := by kernel_rfl
  rw [ef]
  kernel_rfl
end Mine
end
section
open PySem
set_option maxRecDepth 1000000
namespace Mine
noncomputable def elFn : Fn := (fnOfStmt "_ellipsis_match" PySem.Challenge.pw_sw0011_01.main.body).getD ⟨[], [], []⟩
theorem el_tab : theTab "_ellipsis_match" = some elFn := by kernel_rfl
/-- the store: want got ws startpos endpos w -/
noncomputable def elS (want got ws sp ep w : Option V) : Sto := [("want", want), ("got", got), ("ws", ws), ("startpos", sp), ("endpos", ep), ("w", w), ("ELLIPSIS_MARKER", none), ("len", none)]
noncomputable def el0 : Stmt := at_ elFn.body 0
noncomputable def tupK : Expr → Nat
  | .Tuple _ k _ => k
  | _ => 0
noncomputable def constOf : Expr → Const
  | .Constant c _ _ => c
  | _ => .none
noncomputable def constK : Expr → Nat
  | .Constant _ k _ => k
  | _ => 0
section
variable {tab : Tab} {glob : Str → Option V} {n : Nat} {N : Names} {σ : Sto} {ω : Own}
theorem ex_swap {T E : Expr} {st : Stmt} {x y : Str} {p : Pos} {d e : V}
    (hs : st = .Assign [.Tuple [.Name x (namePos (elOf 0 T)), .Name y (namePos (elOf 1 T))] (tupK T) (namePos T)] (.Tuple [.Constant (constOf (elOf 0 E)) (constK (elOf 0 E)) (namePos (elOf 0 E)), .Call (calOf (elOf 1 E)) (argsOf (elOf 1 E)) [] (namePos (elOf 1 E))] (tupK E) (namePos E)) p)
    (hc : ((namePos (elOf 0 T)).line == (namePos (elOf 1 T)).line && (x != y && (N.lookup x == some .local && N.lookup y == some .local))) = true)
    (h1 : meval tab glob n N σ ω (.Constant (constOf (elOf 0 E)) (constK (elOf 0 E)) (namePos (elOf 0 E))) = some d) (h2 : meval tab glob n N σ ω (.Call (calOf (elOf 1 E)) (argsOf (elOf 1 E)) [] (namePos (elOf 1 E))) = some e) :
    mexec tab glob (n + 1) N σ ω st = some (.next (sput x (some d) (sput y (some e) σ)) (dropOwn x (dropOwn y ω))) := by
  subst hs
  rw [mx_Swap, if_pos hc, h1, h2]
theorem ex_aug {st : Stmt} {x : Str} {px p : Pos} {e : Expr} {a b c : Int} (hs : st = .AugAssign (.Name x px) .Add e p) (hx : isVar N x = true) (h1 : sget σ x = some (.int a)) (h2 : meval tab glob n N σ ω e = some (.int b)) (h3 : mkI (a + b) = some (.int c)) :
    mexec tab glob (n + 1) N σ ω st = some (.next (sput x (some (.int c)) σ) (dropOwn x ω)) := by
  subst hs
  rw [mx_Aug, if_pos hx, h1, h2]
  show (match mkI (a + b) with | some d => some (Res.next (sput x (some d) σ) (dropOwn x ω)) | none => none) = _
  rw [h3]
theorem ex_assert {st : Stmt} {t : Expr} {m : Option Expr} {p : Pos} (hs : st = .Assert t m p) (h : mtest tab glob n N (frozenFor t σ ω).1 (frozenFor t σ ω).2 t = some true) : mexec tab glob (n + 1) N σ ω st = some (.next (frozenFor t σ ω).1 (frozenFor t σ ω).2) := by
  subst hs
  rw [mx_Assert, h]
end
noncomputable def elEq (i : Nat) : Stmt := at_ elFn.body i
theorem el_body : elFn.body = [elEq 0, elEq 1, elEq 2, elEq 3, elEq 4, elEq 5, elEq 6, elEq 7, elEq 8, elEq 9, elEq 10] := by kernel_rfl
theorem el_0 (f : Nat) (want got : Str) : mtest theTab theGlob (f + 20) elFn.names (elS (some (.str want)) (some (.str got)) none none none none) none (exprOf (elEq 0)) = some ((Builtin.Str.occurrences want "..." 0 want.length 1).isEmpty) := by kernel_rfl
theorem el_0s : elEq 0 = .If (exprOf (elEq 0)) (bodyOf (elEq 0)) [] (posOf (elEq 0)) := by kernel_rfl
theorem el_1 (f : Nat) (want got : Str) : meval theTab theGlob (f + 20) elFn.names (elS (some (.str want)) (some (.str got)) none none none none) none (exprOf (elEq 1)) = methB (.str want) "split" [.str "..."] := by kernel_rfl
noncomputable def msgOf : Stmt → Option Expr
  | .Assert _ m _ => m
  | _ => none
theorem el_2s : elEq 2 = .Assert (tstOf (elEq 2)) (msgOf (elEq 2)) (posA (elEq 2)) := by kernel_rfl
theorem el_2t : tstOf (elEq 2) = .Compare (lhs (tstOf (elEq 2))) [.GtE] [rhs (tstOf (elEq 2))] (posC (tstOf (elEq 2))) := by kernel_rfl
theorem el_2l (f : Nat) (want got : Str) (ws : List V) : meval theTab theGlob (f + 20) elFn.names (elS (some (.str want)) (some (.str got)) (some (.list ws)) none none none) none (lhs (tstOf (elEq 2))) = if ws.length ≤ 4096 then some (.int ws.length) else none := by kernel_rfl
theorem el_3 (f : Nat) (want got : Str) (ws : List V) : meval theTab theGlob (f + 20) elFn.names (elS (some (.str want)) (some (.str got)) (some (.list ws)) none none none) none (elOf 1 (exprOf (elEq 3))) = if got.length ≤ 4096 then some (.int got.length) else none := by kernel_rfl
end Mine
end
section
open PySem
set_option maxRecDepth 1000000
namespace Mine
noncomputable def elB (i : Nat) : Stmt := at_ (bodyOf (elEq 9)) i
theorem elB_body : bodyOf (elEq 9) = [.Assign [.Name "startpos" (tgtPos (elB 0))] (exprOf (elB 0)) (posOf (elB 0)), .If (exprOf (elB 1)) (bodyOf (elB 1)) [] (posOf (elB 1)), .AugAssign (.Name "startpos" (namePos (augT (elB 2)))) .Add (exprOf (elB 2)) (posOf (elB 2))] := by kernel_rfl
noncomputable def elL (want got : Str) (ws : List V) (p e : Int) (w : Str) : Sto := elS (some (.str want)) (some (.str got)) (some (.list ws)) (some (.int p)) (some (.int e)) (some (.str w))
theorem el_find (f : Nat) (want got : Str) (ws : List V) (p e : Int) (w : Str) : meval theTab theGlob (f + 20) elFn.names (elL want got ws p e w) none (exprOf (elB 0)) = findV got w p e := by kernel_rfl
theorem el_neg (f : Nat) (want got : Str) (ws : List V) (p e : Int) (w : Str) : mtest theTab theGlob (f + 20) elFn.names (elL want got ws p e w) none (exprOf (elB 1)) = some (decide (p < 0)) := by kernel_rfl
theorem el_len (f : Nat) (want got : Str) (ws : List V) (p e : Int) (w : Str) : meval theTab theGlob (f + 20) elFn.names (elL want got ws p e w) none (exprOf (elB 2)) = if w.length ≤ 4096 then some (.int w.length) else none := by kernel_rfl
theorem elB0_list : ∀ es q, exprOf (elB 0) ≠ .List es q := by
  have h : exprOf (elB 0) = .Call (calOf (exprOf (elB 0))) (argsOf (exprOf (elB 0))) [] (posC (exprOf (elB 0))) := by kernel_rfl
  intro es q e
  rw [h] at e; cases e
noncomputable def elStep (f : Nat) : Sto → Own → V → Option Res := forStep theTab theGlob f elFn.names "w" (tgtPos (elEq 9)) (bodyOf (elEq 9))
theorem el_step0 (f : Nat) (want got : Str) (ws : List V) (p e : Int) (w0 w : Str) (r : Int) (h : findV got w p e = some (.int r)) (hr : r < 0) :
    elStep (f + 26) (elL want got ws p e w0) none (.str w) = some (.ret (.bool false)) := by
  have hb : bindT elFn.names (elL want got ws p e w0) (.Name "w" (tgtPos (elEq 9))) (.str w) = some (elL want got ws p e w) := by kernel_rfl
  unfold elStep forStep
  rw [hb]
  simp only
  have hd : dropOwn "w" none = none := rfl
  rw [hd, elB_body]
  have e0 : mexec theTab theGlob (f + 25) elFn.names (elL want got ws p e w) none (.Assign [.Name "startpos" (tgtPos (elB 0))] (exprOf (elB 0)) (posOf (elB 0))) = some (.next (elL want got ws r e w) none) :=
    (ex_assign (d := .int r) rfl elB0_list (by kernel_rfl) ((el_find (f + 4) want got ws p e w).trans h)).trans (by kernel_rfl)
  refine (exs_next e0).trans ?_
  refine exs_ret (ex_if rfl (c := true) ?_ ?_)
  · exact (el_neg (f + 3) want got ws r e w).trans (by rw [decide_eq_true hr])
  · kernel_rfl
theorem el_step1 (f : Nat) (want got : Str) (ws : List V) (p e : Int) (w0 w : Str) (r : Int) (h : findV got w p e = some (.int r)) (hr : ¬ r < 0) (hw : w.length ≤ 4096) {c : Int} (hc : mkI (r + w.length) = some (.int c)) :
    elStep (f + 26) (elL want got ws p e w0) none (.str w) = some (.next (elL want got ws c e w) none) := by
  have hb : bindT elFn.names (elL want got ws p e w0) (.Name "w" (tgtPos (elEq 9))) (.str w) = some (elL want got ws p e w) := by kernel_rfl
  unfold elStep forStep
  rw [hb]
  simp only
  have hd : dropOwn "w" none = none := rfl
  rw [hd, elB_body]
  have e0 : mexec theTab theGlob (f + 25) elFn.names (elL want got ws p e w) none (.Assign [.Name "startpos" (tgtPos (elB 0))] (exprOf (elB 0)) (posOf (elB 0))) = some (.next (elL want got ws r e w) none) :=
    (ex_assign (d := .int r) rfl elB0_list (by kernel_rfl) ((el_find (f + 4) want got ws p e w).trans h)).trans (by kernel_rfl)
  refine (exs_next e0).trans ?_
  have e1 : mexec theTab theGlob (f + 24) elFn.names (elL want got ws r e w) none (.If (exprOf (elB 1)) (bodyOf (elB 1)) [] (posOf (elB 1))) = some (.next (elL want got ws r e w) none) :=
    ex_if rfl (c := false) ((el_neg (f + 3) want got ws r e w).trans (by rw [decide_eq_false hr])) (by kernel_rfl)
  refine (exs_next e1).trans ?_
  have e2 : mexec theTab theGlob (f + 23) elFn.names (elL want got ws r e w) none (.AugAssign (.Name "startpos" (namePos (augT (elB 2)))) .Add (exprOf (elB 2)) (posOf (elB 2))) = some (.next (elL want got ws c e w) none) :=
    (ex_aug rfl (by kernel_rfl) (by kernel_rfl) ((el_len (f + 2) want got ws r e w).trans (by rw [if_pos hw])) hc).trans (by kernel_rfl)
  refine (exs_next e2).trans ?_
  exact mxs_nil
/-- the loop's answer -/
noncomputable def elGo (got : Str) (e : Int) : Int → List Str → Option Bool
  | _, [] => some true
  | p, w :: r => match findV got w p e with
    | some (.int i) => if i < 0 then some false else (match smallO (i + w.length) with
      | some c => if w.length ≤ 4096 then elGo got e c r else none
      | none => none)
    | _ => none
theorem el_loop (f : Nat) (want got : Str) (L : List V) (e : Int) (b : Bool) : ∀ (ws : List Str) (p : Int) (w0 : Str), elGo got e p ws = some b → ∃ σ, loopM (elStep (f + 26)) (elL want got L p e w0) none (ws.map .str) = some (if b then .next σ none else .ret (.bool false))
  | [], p, w0, h => by
    cases h
    exact ⟨_, rfl⟩
  | w :: r, p, w0, h => by
    rw [elGo] at h
    rw [List.map_cons, loopM]
    cases h1 : findV got w p e with
    | none => rw [h1] at h; cases h
    | some x =>
      rw [h1] at h
      cases x with
      | int i =>
        simp only at h
        by_cases hi : i < 0
        · rw [if_pos hi] at h
          cases h
          rw [el_step0 f want got L p e w0 w i h1 hi]
          exact ⟨[], rfl⟩
        · rw [if_neg hi] at h
          cases h2 : smallO (i + w.length) with
          | none => rw [h2] at h; cases h
          | some c =>
            rw [h2] at h
            simp only at h
            by_cases hw : w.length ≤ 4096
            · rw [if_pos hw] at h
              rw [el_step1 f want got L p e w0 w i h1 hi hw (c := c) (by rw [mkI_O, h2]; rfl)]
              exact el_loop f want got L e b r c w h
            · rw [if_neg hw] at h; cases h
      | _ => cases h
end Mine
end
section
open PySem
set_option maxRecDepth 1000000
namespace Mine
theorem ex_asg {tab : Tab} {glob : Str → Option V} {n : Nat} {N : Names} {σ : Sto} {s : Stmt} {x : Str} {d : V} (hs : s = asg x s) (hl : ∀ es q, exprOf s ≠ .List es q) (hx : isVar N x = true) (h : meval tab glob n N σ none (exprOf s) = some d) :
    mexec tab glob (n + 1) N σ none s = some (.next (sput x (some d) σ) none) := ex_assign (ω := none) hs hl hx h
theorem nolist_of {e : Expr} (h : (match e with | .List .. => true | _ => false) = false) : ∀ es q, e ≠ .List es q := by
  intro es q he
  subst he
  cases h
noncomputable def elW (i : Nat) (want got : Str) (ws : List V) (e : Int) (w : Option V) : Sto := elS (some (.str want)) (some (.str got)) (some (.list ws)) (some (.int 0)) (some (.int e)) w
theorem el_4 (f : Nat) (want got : Str) (ws : List V) (e : Int) : meval theTab theGlob (f + 20) elFn.names (elW 0 want got ws e none) none (exprOf (elEq 4)) = idxV (.list ws) (.int 0) := by kernel_rfl
theorem el_6 (f : Nat) (want got : Str) (ws : List V) (e : Int) (w : Str) : meval theTab theGlob (f + 20) elFn.names (elW 0 want got ws e (some (.str w))) none (exprOf (elEq 6)) = idxV (.list ws) (.int (-1)) := by kernel_rfl
theorem el_5 (f : Nat) (want got : Str) (ws : List V) (e : Int) : mexec theTab theGlob (f + 25) elFn.names (elW 0 want got ws e (some (.str ⟨#[]⟩))) none (elEq 5) = some (.next (elW 0 want got ws e (some (.str ⟨#[]⟩))) none) := by kernel_rfl
theorem el_7 (f : Nat) (want got : Str) (ws : List V) (e : Int) : mexec theTab theGlob (f + 25) elFn.names (elW 0 want got ws e (some (.str ⟨#[]⟩))) none (elEq 7) = some (.next (elW 0 want got ws e (some (.str ⟨#[]⟩))) none) := by kernel_rfl
theorem el_8s : elEq 8 = .If (exprOf (elEq 8)) (bodyOf (elEq 8)) [] (posOf (elEq 8)) := by kernel_rfl
theorem el_8 (f : Nat) (want got : Str) (ws : List V) (e : Int) (w : Option V) : mtest theTab theGlob (f + 25) elFn.names (elW 0 want got ws e w) none (exprOf (elEq 8)) = some (decide (0 > e)) := by kernel_rfl
theorem el_3s : elEq 3 = .Assign [.Tuple [.Name "startpos" (namePos (elOf 0 (tgtOf (elEq 3)))), .Name "endpos" (namePos (elOf 1 (tgtOf (elEq 3))))] (tupK (tgtOf (elEq 3))) (namePos (tgtOf (elEq 3)))] (.Tuple [.Constant (constOf (elOf 0 (exprOf (elEq 3)))) (constK (elOf 0 (exprOf (elEq 3)))) (namePos (elOf 0 (exprOf (elEq 3)))), .Call (calOf (elOf 1 (exprOf (elEq 3)))) (argsOf (elOf 1 (exprOf (elEq 3)))) [] (namePos (elOf 1 (exprOf (elEq 3))))] (tupK (exprOf (elEq 3))) (namePos (exprOf (elEq 3)))) (posOf (elEq 3)) := by kernel_rfl
theorem el_9s : elEq 9 = .For (.Name "w" (tgtPos (elEq 9))) (exprOf (elEq 9)) (bodyOf (elEq 9)) [] (posOf (elEq 9)) := by kernel_rfl
theorem el_9 (f : Nat) (want got : Str) (ws : List V) (e : Int) (w : Option V) : msrc theTab theGlob (f + 25) elFn.names (elW 0 want got ws e w) none (exprOf (elEq 9)) = itemsV (.list ws) := by kernel_rfl
theorem el_run (f : Nat) (want got : Str) (ws : List Str) (b : Bool) (h0 : (Builtin.Str.occurrences want "..." 0 want.length 1).isEmpty = false) (h1 : methB (.str want) "split" [.str "..."] = some (.list (ws.map .str))) (h2 : 2 ≤ ws.length) (h3 : ws.length ≤ 4096)
    (h4 : ws[0]? = some ⟨#[]⟩) (h5 : ws[ws.length - 1]? = some ⟨#[]⟩) (h6 : got.length ≤ 4096) (h7 : elGo got got.length 0 ws = some b) : mcall theTab theGlob (f + 40) elFn [.str want, .str got] = some (.bool b) := by
  refine call_of (σ := elS (some (.str want)) (some (.str got)) none none none none) (by kernel_rfl) ?_
  rw [el_body]
  have e0 : mexec theTab theGlob (f + 38) elFn.names (elS (some (.str want)) (some (.str got)) none none none none) none (elEq 0) = some (.next (elS (some (.str want)) (some (.str got)) none none none none) none) :=
    ex_if el_0s (c := false) ((el_0 (f + 17) want got).trans (by rw [h0])) (by kernel_rfl)
  refine (exs_next e0).trans ?_
  have e1 : mexec theTab theGlob (f + 37) elFn.names (elS (some (.str want)) (some (.str got)) none none none none) none (elEq 1) = some (.next (elS (some (.str want)) (some (.str got)) (some (.list (ws.map .str))) none none none) none) :=
    (ex_asg (x := "ws") (by kernel_rfl) (nolist_of (by kernel_rfl)) (by kernel_rfl) ((el_1 (f + 16) want got).trans h1)).trans (by kernel_rfl)
  refine (exs_next e1).trans ?_
  have hl : (ws.map V.str).length = ws.length := List.length_map _
  have e2 : mexec theTab theGlob (f + 36) elFn.names (elS (some (.str want)) (some (.str got)) (some (.list (ws.map .str))) none none none) none (elEq 2) = some (.next (elS (some (.str want)) (some (.str got)) (some (.list (ws.map .str))) none none none) none) := by
    refine (ex_assert el_2s (tst_cmp el_2t (a := .int ws.length) (d := .int 2) ?_ ?_ ?_)).trans (by kernel_rfl)
    · exact (el_2l (f + 14) want got _).trans (by rw [hl, if_pos h3])
    · kernel_rfl
    · show some (decide ((ws.length : Int) ≥ 2)) = _
      rw [decide_eq_true (by omega)]
  refine (exs_next e2).trans ?_
  have e3 : mexec theTab theGlob (f + 35) elFn.names (elS (some (.str want)) (some (.str got)) (some (.list (ws.map .str))) none none none) none (elEq 3) = some (.next (elW 0 want got (ws.map .str) got.length none) none) := by
    refine (ex_swap el_3s (d := .int 0) (e := .int got.length) (by kernel_rfl) (by kernel_rfl) ?_).trans (by kernel_rfl)
    have e : (Expr.Call (calOf (elOf 1 (exprOf (elEq 3)))) (argsOf (elOf 1 (exprOf (elEq 3)))) [] (namePos (elOf 1 (exprOf (elEq 3))))) = elOf 1 (exprOf (elEq 3)) := by kernel_rfl
    rw [e]
    exact (el_3 (f + 14) want got _).trans (by rw [if_pos h6])
  refine (exs_next e3).trans ?_
  have e4 : mexec theTab theGlob (f + 34) elFn.names (elW 0 want got (ws.map .str) got.length none) none (elEq 4) = some (.next (elW 0 want got (ws.map .str) got.length (some (.str ⟨#[]⟩))) none) := by
    refine (ex_asg (x := "w") (d := .str ⟨#[]⟩) (by kernel_rfl) (nolist_of (by kernel_rfl)) (by kernel_rfl) ((el_4 (f + 13) want got _ _).trans ?_)).trans (by kernel_rfl)
    have := idx_nat (ws.map V.str) 0 (by omega)
    refine this.trans ?_
    rw [List.getElem?_map, h4]; rfl
  refine (exs_next e4).trans ?_
  refine (exs_next (el_5 (f + 8) want got _ _)).trans ?_
  have e6 : mexec theTab theGlob (f + 32) elFn.names (elW 0 want got (ws.map .str) got.length (some (.str ⟨#[]⟩))) none (elEq 6) = some (.next (elW 0 want got (ws.map .str) got.length (some (.str ⟨#[]⟩))) none) := by
    refine (ex_asg (x := "w") (d := .str ⟨#[]⟩) (by kernel_rfl) (nolist_of (by kernel_rfl)) (by kernel_rfl) ((el_6 (f + 11) want got _ _ _).trans ?_)).trans (by kernel_rfl)
    unfold idxV
    dsimp only
    rw [hl, if_pos (by simpa using h3), List.getElem?_map, h5]; rfl
  refine (exs_next e6).trans ?_
  refine (exs_next (el_7 (f + 6) want got _ _)).trans ?_
  have e8 : mexec theTab theGlob (f + 30) elFn.names (elW 0 want got (ws.map .str) got.length (some (.str ⟨#[]⟩))) none (elEq 8) = some (.next (elW 0 want got (ws.map .str) got.length (some (.str ⟨#[]⟩))) none) :=
    ex_if el_8s (c := false) ((el_8 (f + 4) want got _ _ _).trans (by rw [decide_eq_false (by omega)])) (by kernel_rfl)
  refine (exs_next e8).trans ?_
  obtain ⟨σ, hσ⟩ := el_loop (f + 2) want got (ws.map .str) got.length b ws 0 ⟨#[]⟩ h7
  have e9 : mexec theTab theGlob (f + 29) elFn.names (elW 0 want got (ws.map .str) got.length (some (.str ⟨#[]⟩))) none (elEq 9) = some (if b then .next σ none else .ret (.bool false)) := by
    have fz : frozenFor (exprOf (elEq 9)) (elW 0 want got (ws.map .str) got.length (some (.str ⟨#[]⟩))) none = (elW 0 want got (ws.map .str) got.length (some (.str ⟨#[]⟩)), none) := by kernel_rfl
    refine ex_for el_9s (xs := ws.map .str) ?_ ?_
    · rw [fz]
      refine (el_9 (f + 3) want got _ _ _).trans ?_
      show (if (ws.map V.str).length ≤ 4096 then _ else _) = _
      rw [hl, if_pos h3]
    · rw [fz]
      exact hσ
  cases b with
  | false => exact exs_ret e9
  | true =>
    refine (exs_next e9).trans ?_
    exact exs_ret (by kernel_rfl)
end Mine
end
section
open PySem
set_option maxRecDepth 1000000
namespace Mine
noncomputable def lawFn : Fn := (fnOfStmt "law" PySem.Challenge.pw_sw0011_01.main.body).getD ⟨[], [], []⟩
theorem law_tab : theTab "law" = some lawFn := by kernel_rfl
/-- law's variables -/
structure La where
  script : Option V := none
  size : Option V := none
  draws : Option V := none
  paints : Option V := none
  draw : Option V := none
  hue : Option V := none
  lights : Option V := none
  names : Option V := none
  listings : Option V := none
  c : Option V := none
  k : Option V := none
  ranks : Option V := none
  order : Option V := none
  taken : Option V := none
  chosen : Option V := none
  word : Option V := none
  want : Option V := none
  answers : Option V := none
  places : Option V := none
  apart : Option V := none
  lines : Option V := none
  crowds : Option V := none
noncomputable def laS (s : La) : Sto := [("script", s.script), ("size", s.size), ("draws", s.draws), ("paints", s.paints), ("draw", s.draw), ("hue", s.hue), ("lights", s.lights), ("names", s.names), ("listings", s.listings), ("c", s.c), ("k", s.k), ("ranks", s.ranks), ("order", s.order), ("taken", s.taken), ("chosen", s.chosen), ("word", s.word), ("want", s.want), ("answers", s.answers), ("places", s.places), ("apart", s.apart), ("lines", s.lines), ("crowds", s.crowds),
  ("len", none), ("hsv_to_rgb", none), ("range", none), ("sorted", none), ("_law_sets", none), ("_law_rises", none), ("sum", none), ("_law_shape", none), ("_law_turned", none)]
noncomputable def lw (i : Nat) : Stmt := at_ lawFn.body i
theorem law_body : lawFn.body = [asg "size" (lw 0), asg "draws" (lw 1), asg "draws" (lw 2), lw 3, lw 4, asg "lights" (lw 5), lw 6, lw 7, lw 8, lw 9, asg "order" (lw 10), lw 11, lw 12, lw 13, asg "places" (lw 14), lw 15, lw 16, asg "lines" (lw 17), asg "crowds" (lw 18), .Return (some (exprOf (lw 19))) (posOf (lw 19))] := by kernel_rfl
theorem law_zip (v : V) : zipS lawFn.params [v] (lawFn.names.map fun p => (p.1, Option.none)) = some (laS { script := some v }) := by kernel_rfl
-- size
theorem ev_if {tab : Tab} {glob : Str → Option V} {n : Nat} {N : Names} {σ : Sto} {ω : Own} {e t a b : Expr} {p : Pos} {c : Bool} {d : V} (he : e = .IfExp t a b p) (ht : mtest tab glob n N σ ω t = some c) (h : meval tab glob n N σ ω (if c then a else b) = some d) : meval tab glob (n + 1) N σ ω e = some d := by
  subst he
  rw [mv_IfExp, ht]
  cases c <;> exact h
noncomputable def sizeOf' (ns : List Int) : Nat := if ns.length > 4 then 5 else 4
theorem l0_e : exprOf (lw 0) = .IfExp (ifT (exprOf (lw 0))) (ifA (exprOf (lw 0))) (ifB (exprOf (lw 0))) (ifP (exprOf (lw 0))) := by kernel_rfl
theorem l0_t : ifT (exprOf (lw 0)) = .Compare (lhs (ifT (exprOf (lw 0)))) [.Gt] [rhs (ifT (exprOf (lw 0)))] (posC (ifT (exprOf (lw 0)))) := by kernel_rfl
theorem l0_l (f : Nat) (X : List V) : meval theTab theGlob (f + 20) lawFn.names (laS { script := some (.list X) }) none (lhs (ifT (exprOf (lw 0)))) = if X.length ≤ 4096 then some (.int X.length) else none := by kernel_rfl
theorem l0_run (f : Nat) (ns : List Int) (h : ns.length ≤ 4096) : mexec theTab theGlob (f + 30) lawFn.names (laS { script := some (.list (ns.map .int)) }) none (asg "size" (lw 0)) = some (.next (laS { script := some (.list (ns.map .int)), size := some (.int (sizeOf' ns)) }) none) := by
  refine (ex_asg (s := asg "size" (lw 0)) (x := "size") (d := .int (sizeOf' ns)) (by kernel_rfl) (nolist_of (by kernel_rfl)) (by kernel_rfl) ?_).trans (by kernel_rfl)
  have hl : (ns.map V.int).length = ns.length := List.length_map _
  refine ev_if (c := decide (ns.length > 4)) l0_e (tst_cmp l0_t (a := .int ns.length) (d := .int 4) ((l0_l (f + 7) _).trans (by rw [hl, if_pos h])) (by kernel_rfl) ?_) ?_
  · show some (decide ((ns.length : Int) > 4)) = _
    congr 1
    exact decide_eq_decide.mpr (by omega)
  · unfold sizeOf'
    by_cases hh : ns.length > 4
    · rw [decide_eq_true hh, if_pos hh]; kernel_rfl
    · rw [decide_eq_false hh, if_neg hh]; kernel_rfl
-- the draws
noncomputable def l1E : Expr := exprOf (lw 1)
theorem l1_src (f : Nat) (X : List V) (s : Int) : msrc theTab theGlob (f + 20) lawFn.names (laS { script := some (.list X), size := some (.int s) }) none (genOf l1E).iter = (match (if X.length ≤ 4096 then (if (0 ≤ s && s ≤ 4096) = true then some (V.list (X.take s.toNat)) else none) else none) with | some d => itemsV d | none => none) := by kernel_rfl
noncomputable def draw0 (ns : List Int) : List Int := (ns.take (sizeOf' ns)).map fun x => Int.fmod x 1000000
noncomputable def modM : V → V
  | .int x => .int (Int.fmod x 1000000)
  | v => v
theorem l1_run (f : Nat) (ns : List Int) (h : ns.length ≤ 4096) : mexec theTab theGlob (f + 30) lawFn.names (laS { script := some (.list (ns.map .int)), size := some (.int (sizeOf' ns)) }) none (asg "draws" (lw 1)) =
    some (.next (laS { script := some (.list (ns.map .int)), size := some (.int (sizeOf' ns)), draws := some (.list ((draw0 ns).map .int)) }) none) := by
  refine (ex_asg (s := asg "draws" (lw 1)) (x := "draws") (d := .list ((draw0 ns).map .int)) (by kernel_rfl) (nolist_of (by kernel_rfl)) (by kernel_rfl) ?_).trans (by kernel_rfl)
  have hl : (ns.map V.int).length = ns.length := List.length_map _
  have hs : sizeOf' ns ≤ 5 := by unfold sizeOf'; split <;> omega
  refine ev_comp (E := l1E) (xs := (ns.take (sizeOf' ns)).map .int) (by kernel_rfl) (by kernel_rfl) ?_ ?_
  · refine (l1_src (f + 8) _ _).trans ?_
    rw [hl, if_pos h, if_pos (by simp only [Bool.and_eq_true, decide_eq_true_eq]; omega), Int.toNat_natCast, ← List.map_take]
    show (if ((ns.take (sizeOf' ns)).map V.int).length ≤ 4096 then _ else _) = _
    rw [if_pos (by rw [List.length_map, List.length_take]; omega)]
  · rw [compM_map (g := modM) _ fun x hx => ?_]
    · unfold draw0
      rw [List.map_map, List.map_map]; rfl
    · obtain ⟨x, _, rfl⟩ := List.mem_map.mp hx
      exact compF_of (σ' := [("x", some (.int x))]) (by kernel_rfl) (by kernel_rfl) (by kernel_rfl)
noncomputable def drawsOf (ns : List Int) : List Int := draw0 ns ++ ([483, 1072, 1429, 340] : List Int).drop (draw0 ns).length
theorem l2_ev (f : Nat) (s : La) : ∀ D : List Int, D.length ≤ 5 → meval theTab theGlob (f + 28) lawFn.names (laS { s with draws := some (.list (D.map .int)) }) none (exprOf (lw 2)) = some (.list ((D ++ ([483, 1072, 1429, 340] : List Int).drop D.length).map .int))
  | [], _ => by kernel_rfl
  | [a], _ => by kernel_rfl
  | [a, b], _ => by kernel_rfl
  | [a, b, c], _ => by kernel_rfl
  | [a, b, c, d], _ => by kernel_rfl
  | [a, b, c, d, e], _ => by kernel_rfl
theorem draw0_len (ns : List Int) : (draw0 ns).length ≤ 5 ∧ (draw0 ns).length = min (sizeOf' ns) ns.length := by
  unfold draw0
  rw [List.length_map, List.length_take]
  have hs : sizeOf' ns ≤ 5 := by unfold sizeOf'; split <;> omega
  exact ⟨by omega, rfl⟩
theorem l2_run (f : Nat) (ns : List Int) : mexec theTab theGlob (f + 30) lawFn.names (laS { script := some (.list (ns.map .int)), size := some (.int (sizeOf' ns)), draws := some (.list ((draw0 ns).map .int)) }) none (asg "draws" (lw 2)) =
    some (.next (laS { script := some (.list (ns.map .int)), size := some (.int (sizeOf' ns)), draws := some (.list ((drawsOf ns).map .int)) }) none) :=
  (ex_asg (s := asg "draws" (lw 2)) (x := "draws") (d := .list ((drawsOf ns).map .int)) (by kernel_rfl) (nolist_of (by kernel_rfl)) (by kernel_rfl) (l2_ev (f + 1) { script := some (.list (ns.map .int)), size := some (.int (sizeOf' ns)) } (draw0 ns) (draw0_len ns).1)).trans (by kernel_rfl)
theorem drawsOf_len (ns : List Int) : (drawsOf ns).length = sizeOf' ns := by
  unfold drawsOf
  rw [List.length_append, List.length_drop]
  have := (draw0_len ns).2
  rw [this]
  simp only [List.length_cons, List.length_nil]
  unfold sizeOf'
  split <;> omega
theorem drawsOf_b (ns : List Int) : ∀ d ∈ drawsOf ns, 0 ≤ d ∧ d < 1000000 := by
  intro d hd
  unfold drawsOf at hd
  rcases List.mem_append.mp hd with hd | hd
  · obtain ⟨x, _, rfl⟩ := List.mem_map.mp hd
    exact fm x 1000000 (by decide)
  · have hd := List.mem_of_mem_drop hd
    simp only [List.mem_cons, List.not_mem_nil, or_false] at hd
    omega
end Mine
end
section
open PySem
set_option maxRecDepth 1000000
namespace Mine
theorem all_range {n : Nat} {p : Nat → Bool} (h : (List.range n).all p = true) {i : Nat} (hi : i < n) : p i = true := List.all_eq_true.mp h i (List.mem_range.mpr hi)
noncomputable def zpOk (a l : Nat) : Bool := [frac l 4, frac l 4, frac l 4] == (lightsAt a 0 l).map tabF
theorem zp_all : ((List.range 16).all fun a => (List.range 5).all fun l => zpOk a l) = true := by decide +kernel
theorem int_of {u : UInt64} {i : Int} (h : intF u = i) (hi : 0 ≤ i) : callB "int" [.float u] = some (.int i) := by
  have e : callB "int" [.float u] = (match Float64.decode u with | .fin sg m e => some (.int (Float64.truncOf sg m e)) | _ => none) := by kernel_rfl
  rw [e]
  clear e
  unfold intF at h
  generalize Float64.decode u = x at h ⊢
  cases x with
  | fin sg m e' => exact congrArg (fun i => some (V.int i)) h
  | _ =>
    have h' : (-1 : Int) = i := h
    omega
theorem hue_ok {a t : Nat} (ha : a < 16) (ht : t < 4) : intF (Float64.mul (hueF a t) six0) = (((3 * a) / 8 + 6 * t : Nat) : Int) ∧ hsF (hueF a t) (((3 * a) / 8 + 6 * t : Nat) : Int) = frac ((3 * a) % 8) 8 := by
  have h := all_range (all_range hue_all ha) ht
  unfold hueOk at h
  rw [Bool.and_eq_true, beq_iff_eq, beq_iff_eq] at h
  exact h
theorem paint_ok {a s l : Nat} (ha : a < 16) (hs : s < 5) (hl : l < 5) : hsPick (((3 * a) / 8 % 6 : Nat) : Int) (frac l 4) (hsP (frac s 4) (frac l 4)) (hsQ (frac s 4) (frac l 4) (frac ((3 * a) % 8) 8)) (hsT (frac s 4) (frac l 4) (frac ((3 * a) % 8) 8)) = (lightsAt a s l).map tabF := by
  have key : paintOk a s l = true := by
    by_cases h : a < 8
    · exact all_range (all_range (all_range paint_0 h) hs) hl
    · have := all_range (all_range (all_range paint_1 (show a - 8 < 8 by omega)) hs) hl
      rwa [show a - 8 + 8 = a by omega] at this
  unfold paintOk at key
  exact beq_iff_eq.mp key
noncomputable def floatsV (us : List UInt64) : V := .tup (us.map .float)
theorem hsv_paint (k a s l t : Nat) (ha : a < 16) (hs : s < 5) (hl : l < 5) (ht : t < 4) : mcall theTab theGlob (k + 40) hsvFn [.float (hueF a t), .float (frac s 4), .float (frac l 4)] = some (floatsV ((lightsAt a s l).map tabF)) := by
  have hz := all_range zero_all hs
  unfold zeroOk at hz
  have hz := eq_of_beq hz
  by_cases h0 : s = 0
  · subst h0
    rw [hsv_zero (k + 10) _ _ _ hz]
    have := all_range (all_range zp_all ha) hl
    unfold zpOk at this
    rw [← eq_of_beq this]
    rfl
  · have hf : (s == 0) = false := by simpa using h0
    rw [hf] at hz
    obtain ⟨e1, e2⟩ := hue_ok ha ht
    rw [hsv_run k _ _ _ _ hz (int_of e1 (by omega)) (by omega)]
    unfold hsRef
    rw [e2]
    have em : Int.fmod (((3 * a) / 8 + 6 * t : Nat) : Int) 6 = (((3 * a) / 8 % 6 : Nat) : Int) := by
      rw [Int.fmod_eq_emod_of_nonneg _ (by decide)]
      omega
    rw [em, paint_ok ha hs hl]
    rfl
-- the numbers of a draw
noncomputable def aN (d : Int) : Nat := (Int.fmod d 16).toNat
noncomputable def sN (d : Int) : Nat := (Int.fmod (Int.fdiv d 16) 5).toNat
noncomputable def lN (d : Int) : Nat := (Int.fmod (Int.fdiv d 80) 5).toNat
noncomputable def tN (d : Int) : Nat := (Int.fmod (Int.fdiv d 400) 4).toNat
theorem aN_b (d : Int) : Int.fmod d 16 = aN d ∧ aN d < 16 := by have := fm d 16 (by decide); unfold aN; omega
theorem sN_b (d : Int) : Int.fmod (Int.fdiv d 16) 5 = sN d ∧ sN d < 5 := by have := fm (Int.fdiv d 16) 5 (by decide); unfold sN; omega
theorem lN_b (d : Int) : Int.fmod (Int.fdiv d 80) 5 = lN d ∧ lN d < 5 := by have := fm (Int.fdiv d 80) 5 (by decide); unfold lN; omega
theorem tN_b (d : Int) : Int.fmod (Int.fdiv d 400) 4 = tN d ∧ tN d < 4 := by have := fm (Int.fdiv d 400) 4 (by decide); unfold tN; omega
theorem lightsOf_at (d : Int) : lightsOf d = lightsAt (aN d) (sN d) (lN d) := by
  unfold lightsOf lightsAt
  rw [(aN_b d).1, (sN_b d).1, (lN_b d).1]
theorem below {p : Nat → Prop} : ∀ {n : Nat}, (∀ k, k < n → p k) → p n → ∀ k, k < n + 1 → p k := fun {n} h hn k hk => by
  rcases Nat.lt_succ_iff_lt_or_eq.mp hk with h1 | rfl
  · exact h k h1
  · exact hn
theorem div16 : ∀ (a : Nat), a < 16 → binV .Div (.int (a : Int)) (.int 16) = some (.float (frac a 16)) :=
  below (below (below (below (below (below (below (below (below (below (below (below (below (below (below (below (fun _ h => absurd h (Nat.not_lt_zero _)) (by kernel_rfl)) (by kernel_rfl)) (by kernel_rfl)) (by kernel_rfl)) (by kernel_rfl)) (by kernel_rfl)) (by kernel_rfl)) (by kernel_rfl)) (by kernel_rfl)) (by kernel_rfl)) (by kernel_rfl)) (by kernel_rfl)) (by kernel_rfl)) (by kernel_rfl)) (by kernel_rfl)) (by kernel_rfl)
theorem div4 : ∀ (a : Nat), a < 5 → binV .Div (.int (a : Int)) (.int 4) = some (.float (frac a 4)) :=
  below (below (below (below (below (fun _ h => absurd h (Nat.not_lt_zero _)) (by kernel_rfl)) (by kernel_rfl)) (by kernel_rfl)) (by kernel_rfl)) (by kernel_rfl)
theorem binAddF (a : UInt64) (b : Int) (h : small b = true) : binV .Add (.float a) (.int b) = some (.float (Float64.add a (Float64.ofInt b))) := by
  have e : binV .Add (.float a) (.int b) = if small b then some (.float (Float64.add a (Float64.ofInt b))) else none := by kernel_rfl
  rw [e, if_pos h]
-- the loop's expressions
noncomputable def l4H : Expr := exprOf (at_ (bodyOf (lw 4)) 0)
noncomputable def l4X : Expr := arg 0 (exprOf (at_ (bodyOf (lw 4)) 1))
noncomputable def laP (X : V) (n : Int) (D : V) (d h : Option V) : La := { script := some X, size := some (.int n), draws := some D, draw := d, hue := h }
theorem l4H_run (f : Nat) (X : V) (n : Int) (D : V) (d : Int) (hd : 0 ≤ d ∧ d < 1000000) (h : Option V) (ps : List V) : meval theTab theGlob (f + 25) lawFn.names (laS (laP X n D (some (.int d)) h)) (some ("paints", ps)) l4H = some (.float (hueF (aN d) (tN d))) := by
  have sd : small d = true := small_of (by omega) (by omega)
  refine ev_bin' (l := lhs l4H) (op := .Add) (r := rhs l4H) (p := posE l4H) (a := .float (frac (aN d) 16)) (b := .int (tN d)) (by kernel_rfl) ?_ ?_ ?_
  · refine ev_bin' (l := lhs (lhs l4H)) (op := .Div) (r := rhs (lhs l4H)) (p := posE (lhs l4H)) (a := .int (aN d)) (b := .int 16) (by kernel_rfl) ?_ (by kernel_rfl) (div16 _ (aN_b d).2)
    rw [← (aN_b d).1]
    exact (show meval theTab theGlob (f + 23) lawFn.names (laS (laP X n D (some (.int d)) h)) (some ("paints", ps)) (lhs (lhs l4H)) = some (.int (Int.fmod d 16)) by kernel_rfl)
  · rw [← (tN_b d).1]
    exact ev_divmod (n := f + 22) (l := lhs (rhs l4H)) (r := rhs (rhs l4H)) (p := posE (rhs l4H)) (l2 := lhs (lhs (rhs l4H))) (r2 := rhs (lhs (rhs l4H))) (p2 := posE (lhs (rhs l4H))) (by kernel_rfl) (by kernel_rfl) (by kernel_rfl) (by kernel_rfl) (by kernel_rfl) sd (by decide) (by decide)
  · have := (tN_b d).2
    exact binAddF _ _ (small_of (by omega) (by omega))
theorem l4X_run (f : Nat) (X : V) (n : Int) (D : V) (d : Int) (hd : 0 ≤ d ∧ d < 1000000) (ps : List V) : meval theTab theGlob (f + 45) lawFn.names (laS (laP X n D (some (.int d)) (some (.float (hueF (aN d) (tN d)))))) (some ("paints", ps)) l4X = some (floatsV ((lightsOf d).map tabF)) := by
  have sd : small d = true := small_of (by omega) (by omega)
  have hc : l4X = .Call (.Name "hsv_to_rgb" (fnPos l4X)) [arg 0 l4X, arg 1 l4X, arg 2 l4X] [] (posC l4X) := by kernel_rfl
  rw [lightsOf_at]
  refine ev_call hc (by kernel_rfl) hsv_tab (ds := [.float (hueF (aN d) (tN d)), .float (frac (sN d) 4), .float (frac (lN d) 4)]) ?_ (hsv_paint (f + 4) _ _ _ _ (aN_b d).2 (sN_b d).2 (lN_b d).2 (tN_b d).2)
  refine each_cons (by kernel_rfl) (each_cons ?_ (each_cons ?_ each_nil))
  · refine ev_bin' (l := lhs (arg 1 l4X)) (op := .Div) (r := rhs (arg 1 l4X)) (p := posE (arg 1 l4X)) (a := .int (sN d)) (b := .int 4) (by kernel_rfl) ?_ (by kernel_rfl) (div4 _ (sN_b d).2)
    rw [← (sN_b d).1]
    exact ev_divmod (n := f + 39) (l := lhs (lhs (arg 1 l4X))) (r := rhs (lhs (arg 1 l4X))) (p := posE (lhs (arg 1 l4X))) (l2 := lhs (lhs (lhs (arg 1 l4X)))) (r2 := rhs (lhs (lhs (arg 1 l4X)))) (p2 := posE (lhs (lhs (arg 1 l4X)))) (by kernel_rfl) (by kernel_rfl) (by kernel_rfl) (by kernel_rfl) (by kernel_rfl) sd (by decide) (by decide)
  · refine ev_bin' (l := lhs (arg 2 l4X)) (op := .Div) (r := rhs (arg 2 l4X)) (p := posE (arg 2 l4X)) (a := .int (lN d)) (b := .int 4) (by kernel_rfl) ?_ (by kernel_rfl) (div4 _ (lN_b d).2)
    rw [← (lN_b d).1]
    exact ev_divmod (n := f + 38) (l := lhs (lhs (arg 2 l4X))) (r := rhs (lhs (arg 2 l4X))) (p := posE (lhs (arg 2 l4X))) (l2 := lhs (lhs (lhs (arg 2 l4X)))) (r2 := rhs (lhs (lhs (arg 2 l4X)))) (p2 := posE (lhs (lhs (arg 2 l4X)))) (by kernel_rfl) (by kernel_rfl) (by kernel_rfl) (by kernel_rfl) (by kernel_rfl) sd (by decide) (by decide)
end Mine
end
section
open PySem
set_option maxRecDepth 1000000
namespace Mine
noncomputable def paintV (d : Int) : V := floatsV ((lightsOf d).map tabF)
noncomputable def l4s0 : Stmt := at_ (bodyOf (lw 4)) 0
noncomputable def l4s1 : Stmt := at_ (bodyOf (lw 4)) 1
theorem l4_body : bodyOf (lw 4) = [asg "hue" l4s0, appSt "paints" l4s1] := by kernel_rfl
theorem l4_for : lw 4 = .For (.Name "draw" (tgtPos (lw 4))) (exprOf (lw 4)) (bodyOf (lw 4)) [] (posOf (lw 4)) := by kernel_rfl
theorem l4_step (f : Nat) (X : V) (n : Int) (D : V) (d : Int) (hd : 0 ≤ d ∧ d < 1000000) (d0 h0 : Option V) (ps : List V) (hl : ps.length ≤ 4096) :
    forStep theTab theGlob (f + 50) lawFn.names "draw" (tgtPos (lw 4)) (bodyOf (lw 4)) (laS (laP X n D d0 h0)) (some ("paints", ps)) (.int d) =
      some (.next (laS (laP X n D (some (.int d)) (some (.float (hueF (aN d) (tN d)))))) (some ("paints", ps ++ [paintV d]))) := by
  have hb : bindT lawFn.names (laS (laP X n D d0 h0)) (.Name "draw" (tgtPos (lw 4))) (.int d) = some (laS (laP X n D (some (.int d)) h0)) := by kernel_rfl
  have hdr : dropOwn "draw" (some (("paints" : Str), ps)) = some (("paints" : Str), ps) := by kernel_rfl
  refine for_step hb hdr ?_
  rw [l4_body]
  have hf : frozenFor (exprOf l4s0) (laS (laP X n D (some (.int d)) h0)) (some (("paints" : Str), ps)) = (laS (laP X n D (some (.int d)) h0), some (("paints" : Str), ps)) := by kernel_rfl
  have ea : mexec theTab theGlob (f + 49) lawFn.names (laS (laP X n D (some (.int d)) h0)) (some (("paints" : Str), ps)) (asg "hue" l4s0) = some (.next (laS (laP X n D (some (.int d)) (some (.float (hueF (aN d) (tN d)))))) (some (("paints" : Str), ps))) :=
    (ex_assign (s := asg "hue" l4s0) (e := exprOf l4s0) (d := .float (hueF (aN d) (tN d))) rfl (nolist_of (by kernel_rfl)) (by kernel_rfl) (by rw [hf]; exact l4H_run (f + 23) X n D d hd h0 ps)).trans (by rw [hf]; kernel_rfl)
  refine (exs_next ea).trans ?_
  have eb : mexec theTab theGlob (f + 48) lawFn.names (laS (laP X n D (some (.int d)) (some (.float (hueF (aN d) (tN d)))))) (some (("paints" : Str), ps)) (appSt "paints" l4s1) = some (.next (laS (laP X n D (some (.int d)) (some (.float (hueF (aN d) (tN d)))))) (some (("paints" : Str), ps ++ [paintV d]))) :=
    ex_append (e := l4X) (d := paintV d) rfl (by kernel_rfl) (l4X_run (f + 2) X n D d hd ps) hl
  refine (exs_next eb).trans ?_
  exact mxs_nil
theorem l4_loop (f : Nat) (X : V) (n : Int) (D : V) : ∀ (ds : List Int) (ps : List V) (d0 h0 : Option V), (∀ d ∈ ds, 0 ≤ d ∧ d < 1000000) → ps.length + ds.length ≤ 4096 →
    ∃ d1 h1, loopM (forStep theTab theGlob (f + 50) lawFn.names "draw" (tgtPos (lw 4)) (bodyOf (lw 4))) (laS (laP X n D d0 h0)) (some ("paints", ps)) (ds.map .int) = some (.next (laS (laP X n D d1 h1)) (some ("paints", ps ++ ds.map paintV)))
  | [], ps, d0, h0, _, _ => ⟨d0, h0, by rw [show ps ++ List.map paintV [] = ps from List.append_nil ps]; rfl⟩
  | d :: r, ps, d0, h0, hb, hl => by
    rw [List.length_cons] at hl
    rw [List.map_cons, loopM, l4_step f X n D d (hb d List.mem_cons_self) d0 h0 ps (by omega)]
    simp only
    obtain ⟨d1, h1, e⟩ := l4_loop f X n D r (ps ++ [paintV d]) (some (.int d)) (some (.float (hueF (aN d) (tN d)))) (fun x hx => hb x (List.mem_cons_of_mem _ hx)) (by rw [List.length_append, List.length_singleton]; omega)
    refine ⟨d1, h1, e.trans ?_⟩
    rw [List.append_assoc]; rfl
theorem l3_run (f : Nat) (X : V) (n : Int) (D : V) : mexec theTab theGlob (f + 20) lawFn.names (laS (laP X n D none none)) none (lw 3) = some (.next (laS (laP X n D none none)) (some ("paints", []))) := by kernel_rfl
theorem l4_run (f : Nat) (X : V) (n : Int) (ds : List Int) (hb : ∀ d ∈ ds, 0 ≤ d ∧ d < 1000000) (hl : ds.length ≤ 5) :
    ∃ d1 h1, mexec theTab theGlob (f + 51) lawFn.names (laS (laP X n (.list (ds.map .int)) none none)) (some ("paints", [])) (lw 4) = some (.next (laS (laP X n (.list (ds.map .int)) d1 h1)) (some ("paints", ds.map paintV))) := by
  have fz : frozenFor (exprOf (lw 4)) (laS (laP X n (.list (ds.map .int)) none none)) (some (("paints" : Str), [])) = (laS (laP X n (.list (ds.map .int)) none none), some (("paints" : Str), [])) := by kernel_rfl
  obtain ⟨d1, h1, e⟩ := l4_loop f X n (.list (ds.map .int)) ds [] none none hb (by rw [List.length_nil]; omega)
  refine ⟨d1, h1, ex_for l4_for (xs := ds.map .int) ?_ ?_⟩
  · rw [fz]
    have e1 : msrc theTab theGlob (f + 50) lawFn.names (laS (laP X n (.list (ds.map .int)) none none)) (some (("paints" : Str), [])) (exprOf (lw 4)) = if (ds.map V.int).length ≤ 4096 then some (ds.map V.int) else none := by kernel_rfl
    rw [e1, if_pos (by rw [List.length_map]; omega)]
  · rw [fz]
    exact e
-- lights
noncomputable def l5E : Expr := exprOf (lw 5)
noncomputable def laQ (X : V) (n : Int) (D : V) (d h P L : Option V) : La := { script := some X, size := some (.int n), draws := some D, draw := d, hue := h, paints := P, lights := L }
noncomputable def lightM : V → V
  | .int d => .list ((lightsOf d).map .int)
  | v => v
theorem l5_run (f : Nat) (X : V) (n : Int) (ds : List Int) (d h : Option V) (ps : List V) (hb : ∀ d ∈ ds, 0 ≤ d ∧ d < 1000000) (hl : ds.length ≤ 5) :
    mexec theTab theGlob (f + 50) lawFn.names (laS (laP X n (.list (ds.map .int)) d h)) (some ("paints", ps)) (asg "lights" (lw 5)) = some (.next (laS (laQ X n (.list (ds.map .int)) d h none (some (listsV (ds.map lightsOf))))) (some ("paints", ps))) := by
  have hf : frozenFor l5E (laS (laP X n (.list (ds.map .int)) d h)) (some (("paints" : Str), ps)) = (laS (laP X n (.list (ds.map .int)) d h), some (("paints" : Str), ps)) := by kernel_rfl
  refine (ex_assign (s := asg "lights" (lw 5)) (e := l5E) (d := listsV (ds.map lightsOf)) rfl (nolist_of (by kernel_rfl)) (by kernel_rfl) ?_).trans (by rw [hf]; kernel_rfl)
  rw [hf]
  refine ev_comp (E := l5E) (xs := ds.map .int) (ys := (ds.map lightsOf).map fun l => .list (l.map .int)) (by kernel_rfl) (by kernel_rfl) ?_ ?_
  · have e1 : msrc theTab theGlob (f + 48) lawFn.names (laS (laP X n (.list (ds.map .int)) d h)) (some (("paints" : Str), ps)) (genOf l5E).iter = if (ds.map V.int).length ≤ 4096 then some (ds.map V.int) else none := by kernel_rfl
    exact e1.trans (by rw [if_pos (by rw [List.length_map]; omega)])
  · rw [compM_map (g := lightM) _ fun x hx => ?_]
    · rw [List.map_map, List.map_map]; rfl
    · obtain ⟨x, hx', rfl⟩ := List.mem_map.mp hx
      have hc : eltOf l5E = .Call (.Name "_law_lights" (fnPos (eltOf l5E))) [arg 0 (eltOf l5E)] [] (posC (eltOf l5E)) := by kernel_rfl
      refine compF_of (σ' := [("draw", some (.int x))]) (by kernel_rfl) (by kernel_rfl) ?_
      refine ev_call hc (by kernel_rfl) lights_tab (ds := [.int x]) (each_cons (by kernel_rfl) each_nil) (lights_run (f + 2) x (hb x hx'))
end Mine
end
section
open PySem
set_option maxRecDepth 1000000
namespace Mine
theorem lightsOf_b (d : Int) : ∀ j ∈ lightsOf d, 0 ≤ j ∧ j ≤ 128 := by
  intro j hj
  unfold lightsOf at hj
  obtain ⟨c, _, rfl⟩ := List.mem_map.mp hj
  exact lightOf_b _ _ _ _ (fm _ 5 (by decide)) (fm _ 5 (by decide))
theorem lightsOf_len (d : Int) : (lightsOf d).length = 3 := rfl
theorem eqV_list (n : Nat) (xs ys : List V) (h : xs.length = ys.length) : eqV (n + 1) (.list xs) (.list ys) = allO (eqV n) xs ys := by
  have e : eqV (n + 1) (.list xs) (.list ys) = if xs.length == ys.length then allO (eqV n) xs ys else some false := by kernel_rfl
  rw [e, if_pos (by simpa using h)]
theorem allO_true {α : Type} {f : V → V → Option Bool} (g h : α → V) : ∀ (l : List α), (∀ x ∈ l, f (g x) (h x) = some true) → allO f (l.map g) (l.map h) = some true
  | [], _ => rfl
  | x :: r, H => by
    show (match f (g x) (h x), allO f (r.map g) (r.map h) with | some a, some b => some (a && b) | _, _ => none) = some true
    rw [H x List.mem_cons_self, allO_true g h r fun y hy => H y (List.mem_cons_of_mem _ hy)]
    rfl
noncomputable def prodF (j : Int) : V := .float (Float64.mul (tabF j) (Float64.ofInt 128))
noncomputable def prodV (d : Int) : V := .list ((lightsOf d).map prodF)
theorem prod_eq (n : Nat) (j : Int) (h : 0 ≤ j ∧ j ≤ 128) : eqV (n + 1) (prodF j) (.int j) = some true := by
  have e : eqV (n + 1) (prodF j) (.int j) = some (Float64.cmpInt (Float64.mul (tabF j) (Float64.ofInt 128)) j == some .eq) := by kernel_rfl
  have key := all_range times_all (show j.toNat < 129 by omega)
  unfold timesOk at key
  rw [show ((j.toNat : Nat) : Int) = j by omega] at key
  rw [e, key]
theorem prods_eq (ds : List Int) : eqV 8 (.list (ds.map prodV)) (listsV (ds.map lightsOf)) = some true := by
  unfold listsV
  rw [eqV_list _ _ _ (by simp), List.map_map]
  refine allO_true prodV ((fun l => .list (l.map .int)) ∘ lightsOf) ds fun d _ => ?_
  show eqV 7 (.list ((lightsOf d).map prodF)) (.list ((lightsOf d).map .int)) = some true
  rw [eqV_list _ _ _ (by simp)]
  exact allO_true prodF V.int (lightsOf d) fun j hj => prod_eq 5 j (lightsOf_b d j hj)
-- the test
noncomputable def l6T : Expr := exprOf (lw 6)
noncomputable def l6E : Expr := lhs l6T
noncomputable def l6I : Expr := eltOf l6E
theorem l6_s : lw 6 = .If l6T (bodyOf (lw 6)) [] (posOf (lw 6)) := by kernel_rfl
theorem l6_t : l6T = .Compare l6E [.NotEq] [rhs l6T] (posC l6T) := by kernel_rfl
theorem binMulF (a : UInt64) (b : Int) (h : small b = true) : binV .Mult (.float a) (.int b) = some (.float (Float64.mul a (Float64.ofInt b))) := by
  have e : binV .Mult (.float a) (.int b) = if small b then some (.float (Float64.mul a (Float64.ofInt b))) else none := by kernel_rfl
  rw [e, if_pos h]
noncomputable def prodM : V → V
  | .float u => .float (Float64.mul u (Float64.ofInt 128))
  | v => v
theorem l6_in (f : Nat) (us : List UInt64) (hl : us.length ≤ 4096) : meval theTab theGlob (f + 26) (scopeOf l6E).names [("paint", some (floatsV us))] none l6I = some (.list (us.map fun u => .float (Float64.mul u (Float64.ofInt 128)))) := by
  refine ev_comp (E := l6I) (xs := us.map .float) (by kernel_rfl) (by kernel_rfl) ?_ ?_
  · have e1 : msrc theTab theGlob (f + 25) (scopeOf l6E).names [("paint", some (floatsV us))] none (genOf l6I).iter = if (us.map V.float).length ≤ 4096 then some (us.map V.float) else none := by kernel_rfl
    exact e1.trans (by rw [if_pos (by rw [List.length_map]; omega)])
  · rw [compM_map (g := prodM) _ fun x hx => ?_]
    · rw [List.map_map]; rfl
    · obtain ⟨u, _, rfl⟩ := List.mem_map.mp hx
      refine compF_of (σ' := [("part", some (.float u))]) (by kernel_rfl) (by kernel_rfl) ?_
      exact ev_bin' (l := lhs (eltOf l6I)) (op := .Mult) (r := rhs (eltOf l6I)) (p := posE (eltOf l6I)) (a := .float u) (b := .int 128) (by kernel_rfl) (by kernel_rfl) (by kernel_rfl) (binMulF u 128 (by decide))
noncomputable def prodsM : V → V
  | .tup us => .list (us.map prodM)
  | v => v
theorem l6_out (f : Nat) (X : V) (n : Int) (D : V) (d h L : Option V) (ds : List Int) (hl : ds.length ≤ 5) :
    meval theTab theGlob (f + 30) lawFn.names (laS (laQ X n D d h (some (.list (ds.map paintV))) L)) none l6E = some (.list (ds.map prodV)) := by
  refine ev_comp (E := l6E) (xs := ds.map paintV) (by kernel_rfl) (by kernel_rfl) ?_ ?_
  · have e1 : msrc theTab theGlob (f + 29) lawFn.names (laS (laQ X n D d h (some (.list (ds.map paintV))) L)) none (genOf l6E).iter = if (ds.map paintV).length ≤ 4096 then some (ds.map paintV) else none := by kernel_rfl
    exact e1.trans (by rw [if_pos (by rw [List.length_map]; omega)])
  · rw [compM_map (g := prodsM) _ fun x hx => ?_]
    · rw [List.map_map]
      congr 1
    · obtain ⟨d, _, rfl⟩ := List.mem_map.mp hx
      refine compF_of (σ' := [("paint", some (paintV d))]) (by kernel_rfl) (by kernel_rfl) ?_
      have := l6_in (f + 3) ((lightsOf d).map tabF) (by rw [List.length_map, lightsOf_len]; decide)
      refine this.trans ?_
      show some (V.list _) = some (V.list ((((lightsOf d).map tabF).map V.float).map prodM))
      rw [List.map_map]
      rfl
theorem l6_run (f : Nat) (X : V) (n : Int) (D : V) (d h : Option V) (ds : List Int) (hl : ds.length ≤ 5) :
    mexec theTab theGlob (f + 40) lawFn.names (laS (laQ X n D d h none (some (listsV (ds.map lightsOf))))) (some ("paints", ds.map paintV)) (lw 6) =
      some (.next (laS (laQ X n D d h (some (.list (ds.map paintV))) (some (listsV (ds.map lightsOf))))) none) := by
  have fz : frozenFor l6T (laS (laQ X n D d h none (some (listsV (ds.map lightsOf))))) (some ("paints", ds.map paintV)) = (laS (laQ X n D d h (some (.list (ds.map paintV))) (some (listsV (ds.map lightsOf)))), none) := by kernel_rfl
  refine ex_if l6_s (c := false) ?_ (by rw [fz]; kernel_rfl)
  rw [fz]
  refine tst_cmp l6_t (a := .list (ds.map prodV)) (d := listsV (ds.map lightsOf)) (l6_out (f + 8) X n D d h _ ds hl) (by kernel_rfl) ?_
  have e : cmpT .NotEq (.list (ds.map prodV)) (listsV (ds.map lightsOf)) = (eqV 8 (.list (ds.map prodV)) (listsV (ds.map lightsOf))).map (!·) := by kernel_rfl
  rw [e, prods_eq]
  rfl
end Mine
end
section
open PySem
set_option maxRecDepth 1000000
namespace Mine
noncomputable def ltOf (n : Nat) (b : Nat → Nat → Bool) : Nat → Nat → Option Bool := fun i j => if i < n && j < n then some (if i < j then b i j else if j < i then !b j i else false) else none
noncomputable def pairIx (i j : Nat) : Nat := j * (j - 1) / 2 + i
noncomputable def bOf (l : List Bool) (i j : Nat) : Bool := l.getD (pairIx i j) false
noncomputable def insAll (x : Nat) : List Nat → List (List Nat)
  | [] => [[x]]
  | y :: r => (x :: y :: r) :: (insAll x r).map (y :: ·)
noncomputable def perms : Nat → List (List Nat)
  | 0 => [[]]
  | n + 1 => (perms n).flatMap (insAll n)
noncomputable def consLt (n : Nat) (lt : Nat → Nat → Option Bool) : Bool := (List.range n).all fun i => (List.range n).all fun j => !(lt i j == some true) || (List.range n).all fun k => !(lt j k == some true) || lt i k == some true
noncomputable def posOk (n : Nat) (lt : Nat → Nat → Option Bool) (p : List Nat) : Bool := (perms n).contains p && (List.range n).all fun i => (List.range n).all fun j => lt i j == some (decide (p.idxOf i < p.idxOf j))
noncomputable def sortGood (n : Nat) (lt : Nat → Nat → Option Bool) : Bool := match runT lt (PySem.W.kas_sort n) with
  | some p => posOk n lt p.toList
  | none => false
noncomputable def allBs : Nat → List (List Bool)
  | 0 => [[]]
  | n + 1 => (allBs n).map (true :: ·) ++ (allBs n).map (false :: ·)
theorem allBs_mem : ∀ (n : Nat) (l : List Bool), l.length = n → l ∈ allBs n
  | 0, [], _ => by simp [allBs]
  | n + 1, x :: r, h => by
    have ih := allBs_mem n r (by simpa using h)
    rw [allBs, List.mem_append]
    cases x with
    | true => exact .inl (List.mem_map.mpr ⟨r, ih, rfl⟩)
    | false => exact .inr (List.mem_map.mpr ⟨r, ih, rfl⟩)
noncomputable def sortCheck (n : Nat) (l : List Bool) : Bool := !consLt n (ltOf n (bOf l)) || sortGood n (ltOf n (bOf l))
theorem sort4 : ((allBs 6).all (sortCheck 4)) = true := by decide +kernel
theorem allBs_step {k : Nat} {p : List Bool → Bool} (a : ((allBs k).all fun l => p (true :: l)) = true) (b : ((allBs k).all fun l => p (false :: l)) = true) : (allBs (k + 1)).all p = true := by
  rw [allBs, List.all_append, List.all_map, List.all_map]
  exact Bool.and_eq_true_iff.mpr ⟨a, b⟩
theorem s5a : ((allBs 8).all fun l => sortCheck 5 (true :: true :: l)) = true := by decide +kernel
theorem s5b : ((allBs 8).all fun l => sortCheck 5 (true :: false :: l)) = true := by decide +kernel
theorem s5c : ((allBs 8).all fun l => sortCheck 5 (false :: true :: l)) = true := by decide +kernel
theorem s5d : ((allBs 8).all fun l => sortCheck 5 (false :: false :: l)) = true := by decide +kernel
theorem sort5 : ((allBs 10).all (sortCheck 5)) = true := allBs_step (allBs_step s5a s5b) (allBs_step s5c s5d)
end Mine
end
section
open PySem
set_option maxRecDepth 1000000
namespace Mine
theorem lessI_iff (a b c d : Int) : lessI a b c d = true ↔ a < c ∨ (a = c ∧ b < d) := by
  unfold lessI
  by_cases h : a = c
  · subst h
    by_cases h2 : b = d
    · subst h2; simp
    · simp [h2]
  · simp [h]
noncomputable def lessAt (ls : List (List Int)) (c i j : Nat) : Bool := lessI (light ls i c) i (light ls j c) j
theorem lessAt_irr (ls : List (List Int)) (c i : Nat) : lessAt ls c i i = false := by
  have : ¬ lessAt ls c i i = true := by
    unfold lessAt
    rw [lessI_iff]
    omega
  simpa using this
theorem lessAt_not (ls : List (List Int)) (c : Nat) {i j : Nat} (h : i ≠ j) : (!lessAt ls c j i) = lessAt ls c i j := by
  have e : lessAt ls c i j = true ↔ ¬ lessAt ls c j i = true := by
    unfold lessAt
    rw [lessI_iff, lessI_iff]
    omega
  cases h1 : lessAt ls c i j <;> cases h2 : lessAt ls c j i <;> simp_all
theorem lessAt_trans (ls : List (List Int)) (c i j k : Nat) (h1 : lessAt ls c i j = true) (h2 : lessAt ls c j k = true) : lessAt ls c i k = true := by
  unfold lessAt at *
  rw [lessI_iff] at *
  omega
theorem ltOf_less (n : Nat) (ls : List (List Int)) (c i j : Nat) : ltOf n (lessAt ls c) i j = if i < n && j < n then some (lessAt ls c i j) else none := by
  unfold ltOf
  by_cases h1 : i < j
  · rw [if_pos h1]
  · rw [if_neg h1]
    by_cases h2 : j < i
    · rw [if_pos h2, lessAt_not ls c (show i ≠ j by omega)]
    · have : i = j := by omega
      subst this
      rw [if_neg h1, lessAt_irr]
noncomputable def bList4 (b : Nat → Nat → Bool) : List Bool := [b 0 1, b 0 2, b 1 2, b 0 3, b 1 3, b 2 3]
noncomputable def bList5 (b : Nat → Nat → Bool) : List Bool := [b 0 1, b 0 2, b 1 2, b 0 3, b 1 3, b 2 3, b 0 4, b 1 4, b 2 4, b 3 4]
theorem five {i : Nat} (h : i < 5) : i = 0 ∨ i = 1 ∨ i = 2 ∨ i = 3 ∨ i = 4 := by omega
theorem four {i : Nat} (h : i < 4) : i = 0 ∨ i = 1 ∨ i = 2 ∨ i = 3 := by omega
theorem ltOf_b4 (b : Nat → Nat → Bool) : ltOf 4 b = ltOf 4 (bOf (bList4 b)) := by
  funext i j
  by_cases h : i < 4 ∧ j < 4
  · rcases four h.1 with rfl | rfl | rfl | rfl <;> rcases four h.2 with rfl | rfl | rfl | rfl <;> rfl
  · have : (decide (i < 4) && decide (j < 4)) = false := by
      cases h' : (decide (i < 4) && decide (j < 4)) with
      | false => rfl
      | true => simp only [Bool.and_eq_true, decide_eq_true_eq] at h'; exact absurd h' h
    unfold ltOf
    rw [this]; rfl
theorem ltOf_b5 (b : Nat → Nat → Bool) : ltOf 5 b = ltOf 5 (bOf (bList5 b)) := by
  funext i j
  by_cases h : i < 5 ∧ j < 5
  · rcases five h.1 with rfl | rfl | rfl | rfl | rfl <;> rcases five h.2 with rfl | rfl | rfl | rfl | rfl <;> rfl
  · have : (decide (i < 5) && decide (j < 5)) = false := by
      cases h' : (decide (i < 5) && decide (j < 5)) with
      | false => rfl
      | true => simp only [Bool.and_eq_true, decide_eq_true_eq] at h'; exact absurd h' h
    unfold ltOf
    rw [this]; rfl
theorem sort_of {n : Nat} (hn : n = 4 ∨ n = 5) (b : Nat → Nat → Bool) (hc : consLt n (ltOf n b) = true) : sortGood n (ltOf n b) = true := by
  have key : sortCheck n (if n = 4 then bList4 b else bList5 b) = true ∧ ltOf n b = ltOf n (bOf (if n = 4 then bList4 b else bList5 b)) := by
    rcases hn with rfl | rfl
    · exact ⟨List.all_eq_true.mp sort4 _ (allBs_mem 6 _ rfl), ltOf_b4 b⟩
    · exact ⟨List.all_eq_true.mp sort5 _ (allBs_mem 10 _ rfl), ltOf_b5 b⟩
  rw [key.2] at hc ⊢
  have k := key.1
  unfold sortCheck at k
  rw [hc] at k
  exact k
theorem cons_less (n : Nat) (ls : List (List Int)) (c : Nat) : consLt n (ltOf n (lessAt ls c)) = true := by
  unfold consLt
  refine List.all_eq_true.mpr fun i hi => List.all_eq_true.mpr fun j hj => ?_
  have hi := List.mem_range.mp hi
  have hj := List.mem_range.mp hj
  rw [ltOf_less, if_pos (by simp [hi, hj])]
  cases h1 : lessAt ls c i j with
  | false => rfl
  | true =>
    refine List.all_eq_true.mpr fun k hk => ?_
    have hk := List.mem_range.mp hk
    rw [ltOf_less, if_pos (by simp [hj, hk]), ltOf_less, if_pos (by simp [hi, hk])]
    cases h2 : lessAt ls c j k with
    | false => rfl
    | true => rw [lessAt_trans ls c i j k h1 h2]; rfl
/-- the spots in turn, sorted by part c -/
noncomputable def permOf (n : Nat) (ls : List (List Int)) (c : Nat) : List Nat := match runT (ltOf n (lessAt ls c)) (PySem.W.kas_sort n) with
  | some p => p.toList
  | none => []
structure Srt (n : Nat) (ls : List (List Int)) (c : Nat) : Prop where
  run : ∃ p, runT (ltOf n (lessAt ls c)) (PySem.W.kas_sort n) = some p ∧ p.toList = permOf n ls c
  mem : permOf n ls c ∈ perms n
  ord : ∀ i, i < n → ∀ j, j < n → lessAt ls c i j = decide ((permOf n ls c).idxOf i < (permOf n ls c).idxOf j)
theorem srt {n : Nat} (hn : n = 4 ∨ n = 5) (ls : List (List Int)) (c : Nat) : Srt n ls c := by
  have h := sort_of hn _ (cons_less n ls c)
  unfold sortGood at h
  cases hr : runT (ltOf n (lessAt ls c)) (PySem.W.kas_sort n) with
  | none => rw [hr] at h; cases h
  | some p =>
    rw [hr] at h
    have e : permOf n ls c = p.toList := by unfold permOf; rw [hr]
    unfold posOk at h
    rw [Bool.and_eq_true] at h
    refine ⟨⟨p, hr, e.symm⟩, ?_, fun i hi j hj => ?_⟩
    · rw [e]; exact List.contains_iff_mem.mp h.1
    · have := all_range (all_range h.2 hi) hj
      rw [ltOf_less, if_pos (by simp [hi, hj])] at this
      rw [e]
      exact Option.some.inj (eq_of_beq this)
theorem perms_lt {n : Nat} (hn : n = 4 ∨ n = 5) {p : List Nat} (hp : p ∈ perms n) : p.length = n ∧ (∀ i ∈ p, i < n) ∧ p.Nodup ∧ (∀ i, i < n → p.idxOf i < n ∧ p.getD (p.idxOf i) 0 = i) ∧ (∀ k, k < n → p.getD k 0 < n ∧ p.idxOf (p.getD k 0) = k) := by
  have c4 : ∀ p ∈ perms 4, p.length = 4 ∧ (∀ i ∈ p, i < 4) ∧ p.Nodup ∧ (∀ i, i < 4 → p.idxOf i < 4 ∧ p.getD (p.idxOf i) 0 = i) ∧ (∀ k, k < 4 → p.getD k 0 < 4 ∧ p.idxOf (p.getD k 0) = k) := by decide +kernel
  have c5 : ∀ p ∈ perms 5, p.length = 5 ∧ (∀ i ∈ p, i < 5) ∧ p.Nodup ∧ (∀ i, i < 5 → p.idxOf i < 5 ∧ p.getD (p.idxOf i) 0 = i) ∧ (∀ k, k < 5 → p.getD k 0 < 5 ∧ p.idxOf (p.getD k 0) = k) := by decide +kernel
  rcases hn with rfl | rfl
  · exact c4 p hp
  · exact c5 p hp
theorem ltP_none_l (x : V) : ltP .none x = none := rfl
theorem ltP_none_r (x : V) : ltP x .none = none := by
  cases h : ltP x .none with
  | none => rfl
  | some b => exact ltP_r h
theorem sortV_run {n : Nat} (hn : n = 4 ∨ n = 5) (ls : List (List Int)) (c : Nat) (pairK : Nat → V) (kind : Bool) (h1 : ∀ k, k < n → pairKind (pairK k) = some kind) (h2 : ∀ i, i < n → ∀ j, j < n → ltP (pairK i) (pairK j) = some (lessAt ls c i j)) :
    sortV ((List.range n).map pairK) = some (.list ((permOf n ls c).map pairK)) := by
  have S := srt hn ls c
  obtain ⟨p, hr, hp⟩ := S.run
  have hL := perms_lt hn S.mem
  have hlen : ((List.range n).map pairK).length = n := by rw [List.length_map, List.length_range]
  have hget : ∀ i, i < n → ((List.range n).map pairK).getD i .none = pairK i := by
    intro i hi
    rw [List.getD_eq_getElem?_getD, List.getElem?_map, List.getElem?_range hi]; rfl
  have hget0 : ∀ i, ¬ i < n → ((List.range n).map pairK).getD i .none = .none := by
    intro i hi
    rw [List.getD_eq_getElem?_getD, List.getElem?_eq_none (by omega)]; rfl
  have hlt : (fun i j => ltP (((List.range n).map pairK).getD i .none) (((List.range n).map pairK).getD j .none)) = ltOf n (lessAt ls c) := by
    funext i j
    rw [ltOf_less]
    by_cases hi : i < n
    · by_cases hj : j < n
      · rw [hget i hi, hget j hj, h2 i hi j hj, if_pos (by simp [hi, hj])]
      · rw [hget0 j hj, ltP_none_r, if_neg (by simp [hj])]
    · rw [hget0 i hi, ltP_none_l, if_neg (by simp [hi])]
  unfold sortV
  rw [hlen, if_pos (by rcases hn with rfl | rfl <;> decide)]
  have hhead : (((List.range n).map pairK).head?).bind pairKind = some kind := by
    have h0 : 0 < n := by omega
    obtain ⟨m, rfl⟩ : ∃ m, n = m + 1 := ⟨n - 1, by omega⟩
    rw [List.range_succ_eq_map]
    exact h1 0 h0
  rw [hhead]
  simp only
  rw [if_pos (by
    refine List.all_eq_true.mpr fun x hx => ?_
    obtain ⟨k, hk, rfl⟩ := List.mem_map.mp hx
    rw [h1 k (List.mem_range.mp hk)]
    exact beq_self_eq_true _), hlt, hr]
  simp only [Option.map_some]
  rw [hp]
  congr 2
  refine List.map_congr_left fun i hi => ?_
  exact hget i (hL.2.1 i hi)
end Mine
end
section
open PySem
set_option maxRecDepth 1000000
namespace Mine
noncomputable def sign (k : Nat) : Nat := [10, 32, 42, 91, 97].getD k 0
noncomputable def spotS (k : Nat) : Str := ⟨#[sign k]⟩
noncomputable def listS (p : List Nat) : Str := ⟨(p.map sign).toArray⟩
noncomputable def namesS : Str := "\n *[a"
theorem names_at (k : Nat) (h : k < 5) : idxV (.str namesS) (.int (k : Int)) = some (.str (spotS k)) := by
  rcases five h with rfl | rfl | rfl | rfl | rfl <;> kernel_rfl
noncomputable def joinOk1 (p : List Nat) : Bool := JoinOk "" (p.map spotS) && decide ((Txt.join "" (p.map spotS)).length ≤ 4096) && Txt.join "" (p.map spotS) == listS p
theorem join4 : ((perms 4).all joinOk1) = true := by decide +kernel
theorem join5 : ((perms 5).all joinOk1) = true := by decide +kernel
theorem strsOf_map : ∀ (xs : List Str), strsOf (xs.map .str) = some xs
  | [] => rfl
  | x :: r => by rw [List.map_cons, strsOf, strsOf_map r]; rfl
theorem methJoin (x : Str) (ys : List Str) (h : (JoinOk x ys && decide ((Txt.join x ys).length ≤ 4096)) = true) : methB (.str x) "join" [.list (ys.map .str)] = some (.str (Txt.join x ys)) := by
  have e : methB (.str x) "join" [.list (ys.map .str)] = (strsOf (ys.map .str)).bind fun l => if JoinOk x l && (Txt.join x l).length ≤ 4096 then some (.str (Txt.join x l)) else none := by kernel_rfl
  rw [e, strsOf_map]
  simp only [Option.bind_some]
  rw [if_pos h]
theorem perm_join {n : Nat} (hn : n = 4 ∨ n = 5) {p : List Nat} (hp : p ∈ perms n) : methB (.str "") "join" [.list (p.map fun k => .str (spotS k))] = some (.str (listS p)) := by
  have key : joinOk1 p = true := by
    rcases hn with rfl | rfl
    · exact List.all_eq_true.mp join4 p hp
    · exact List.all_eq_true.mp join5 p hp
  unfold joinOk1 at key
  rw [Bool.and_eq_true] at key
  have := methJoin "" (p.map spotS) key.1
  rw [List.map_map] at this
  rw [← eq_of_beq key.2]
  exact this
-- floats' pairs
theorem cmp_lt {a b : Int} (h : a < b) : compare a b = .lt := if_pos h
theorem cmp_eq (a : Int) : compare a a = .eq := (if_neg (Int.lt_irrefl a)).trans (if_pos rfl)
theorem cmp_gt {a b : Int} (h : b < a) : compare a b = .gt := (if_neg (Int.lt_asymm h)).trans (if_neg fun e => Int.ne_of_lt h e.symm)
theorem cmp_scale {P Q i j A C : Nat} (hC : 0 < C) (h1 : P * A = i * C) (h2 : Q * A = j * C) (hA : 0 < A) : compare (P : Int) (Q : Int) = compare i j := by
  rcases Nat.lt_trichotomy i j with h | h | h
  · rw [Nat.compare_eq_lt.mpr h]
    exact cmp_lt (Int.ofNat_lt.mpr (Nat.lt_of_mul_lt_mul_right (a := A) (by rw [h1, h2]; exact Nat.mul_lt_mul_of_pos_right h hC)))
  · subst h
    have : P = Q := Nat.eq_of_mul_eq_mul_right hA (h1.trans h2.symm)
    rw [this, Nat.compare_eq_eq.mpr rfl]
    exact cmp_eq _
  · rw [Nat.compare_eq_gt.mpr h]
    exact cmp_gt (Int.ofNat_lt.mpr (Nat.lt_of_mul_lt_mul_right (a := A) (by rw [h1, h2]; exact Nat.mul_lt_mul_of_pos_right h hC)))
theorem dec_of {j : Nat} (h : decOk j = true) : ∃ m e, Float64.decode (tabF j) = .fin false m e ∧ -1100 ≤ e ∧ m * 2 ^ (e + 1100).toNat = j * 2 ^ 1093 := by
  unfold decOk at h
  generalize Float64.decode (tabF j) = d at h ⊢
  generalize 2 ^ 1093 = C at h ⊢
  cases d with
  | fin s m e => cases s with
    | false =>
      obtain ⟨a, b⟩ := Bool.and_eq_true_iff.mp h
      exact ⟨m, e, rfl, of_decide_eq_true a, eq_of_beq b⟩
    | true => cases h
  | _ => cases h
theorem cmp_ok {i j : Nat} (hi : i < 129) (hj : j < 129) : Float64.cmp (tabF i) (tabF j) = some (compare i j) := by
  obtain ⟨m, e, e1, e2, e3⟩ := dec_of (List.all_eq_true.mp dec_all i (List.mem_range.mpr hi))
  obtain ⟨k, f, f1, f2, f3⟩ := dec_of (List.all_eq_true.mp dec_all j (List.mem_range.mpr hj))
  have key : Float64.cmp (tabF i) (tabF j) = some (compare ((m * 2 ^ (e - min e f).toNat : Nat) : Int) ((k * 2 ^ (f - min e f).toNat : Nat) : Int)) := by
    unfold Float64.cmp
    rw [e1, f1]; rfl
  rw [key]
  have hC : 0 < 2 ^ 1093 := Nat.pow_pos (Nat.zero_lt_succ 1)
  generalize 2 ^ 1093 = C at e3 f3 hC
  refine congrArg some (cmp_scale (A := 2 ^ (min e f + 1100).toNat) hC ?_ ?_ (Nat.pow_pos (Nat.zero_lt_succ 1)))
  · rw [Nat.mul_assoc, ← Nat.pow_add, ← e3]; congr 2; omega
  · rw [Nat.mul_assoc, ← Nat.pow_add, ← f3]; congr 2; omega
theorem ltP_float (i j : Nat) (hi : i < 129) (hj : j < 129) (b d : Int) : ltP (.tup [.float (tabF i), .int b]) (.tup [.float (tabF j), .int d]) = some (lessI i b j d) := by
  have e : ∀ u w : UInt64, ltP (.tup [.float u, .int b]) (.tup [.float w, .int d]) = (match (if Float64.cmp u u == some .eq && Float64.cmp w w == some .eq then some (Float64.cmp u w == some .eq) else none) with
    | some true => (match some (b == d) with
      | some true => some false
      | some false => some (decide (b < d))
      | none => none)
    | some false => some (Float64.cmp u w == some .lt)
    | none => none) := by
    intro u w
    kernel_rfl
  rw [e, cmp_ok hi hi, cmp_ok hj hj, cmp_ok hi hj]
  have h1 : compare i i = .eq := Nat.compare_eq_eq.mpr rfl
  have h2 : compare j j = .eq := Nat.compare_eq_eq.mpr rfl
  rw [h1, h2]
  unfold lessI
  by_cases h : i = j
  · subst h
    rw [h1]
    simp only [beq_self_eq_true, Bool.and_self, if_true]
    cases b == d <;> rfl
  · have hne : ((i : Int) == (j : Int)) = false := beq_eq_false_iff_ne.mpr (by omega)
    have hc : (some (compare i j) == some Ordering.eq) = false := by
      have : compare i j ≠ .eq := fun e => h (Nat.compare_eq_eq.mp e)
      cases hcc : compare i j <;> simp_all
    rw [hc, hne]
    simp only [beq_self_eq_true, Bool.and_self, if_true, Bool.false_eq_true, if_false]
    congr 1
    by_cases h3 : i < j
    · rw [Nat.compare_eq_lt.mpr h3, decide_eq_true (by omega)]; rfl
    · have : compare i j = .gt := Nat.compare_eq_gt.mpr (by omega)
      rw [this, decide_eq_false (by omega)]; rfl
end Mine
end
section
open PySem
set_option maxRecDepth 1000000
namespace Mine
noncomputable def laR (s : La) (n : Int) (P L : V) (c rk : Option V) : La := { s with size := some (.int n), paints := some P, lights := some L, names := some (.str namesS), c := c, ranks := rk }
theorem l7_run (f : Nat) (X : V) (n : Int) (D : V) (d h : Option V) (P L : V) : mexec theTab theGlob (f + 20) lawFn.names (laS (laQ X n D d h (some P) (some L))) none (lw 7) = some (.next (laS (laR (laQ X n D d h (some P) (some L)) n P L none none)) none) := by kernel_rfl
theorem l8_run (f : Nat) (s : La) (n : Int) (P L : V) : mexec theTab theGlob (f + 20) lawFn.names (laS (laR { s with listings := none } n P L none none)) none (lw 8) = some (.next (laS (laR { s with listings := none } n P L none none)) (some ("listings", []))) := by kernel_rfl
-- ranks
noncomputable def l9s0 : Stmt := at_ (bodyOf (lw 9)) 0
noncomputable def l9s1 : Stmt := at_ (bodyOf (lw 9)) 1
noncomputable def l9C : Expr := arg 0 (exprOf l9s0)
theorem l9_e (f : Nat) (P : V) (c k : Int) : meval theTab theGlob (f + 20) (scopeOf l9C).names [("paints", some P), ("c", some (.int c)), ("k", some (.int k))] none (elOf 0 (eltOf l9C)) =
    (match idxV P (.int k) with | some a => idxV a (.int c) | none => none) := by kernel_rfl
theorem l9_tup : eltOf l9C = .Tuple [elOf 0 (eltOf l9C), elOf 1 (eltOf l9C)] (tupK (eltOf l9C)) (namePos (eltOf l9C)) := by kernel_rfl
theorem getD_map' {α β : Type} (g : α → β) (l : List α) (i : Nat) (d : α) (d' : β) (h : i < l.length) : (l.map g).getD i d' = g (l.getD i d) := by
  rw [List.getD_eq_getElem?_getD, List.getElem?_map, getD_at (d := d) h]; rfl
theorem light_at (ds : List Int) (k c : Nat) (hk : k < ds.length) : light (ds.map lightsOf) k c = (lightsOf (ds.getD k 0)).getD c 0 := by
  unfold light
  rw [show ((k : Int)).toNat = k from rfl, getD_map' lightsOf ds k 0 [] hk]
theorem light_b (ds : List Int) (k c : Nat) (hk : k < ds.length) (hc : c < 3) : 0 ≤ light (ds.map lightsOf) k c ∧ light (ds.map lightsOf) k c ≤ 128 := by
  rw [light_at ds k c hk]
  exact lightsOf_b _ _ (getDmem (by rw [lightsOf_len]; exact hc))
theorem idx_tup (xs : List V) (k : Nat) (h : k < 2 ^ 20) : idxV (.tup xs) (.int k) = xs[k]? := by
  unfold idxV
  have h2 : (decide (0 ≤ (k : Int)) && decide ((k : Int) < 2 ^ 20)) = true := by
    simp only [Bool.and_eq_true, decide_eq_true_eq]
    omega
  dsimp only
  rw [if_pos h2]
  rfl
theorem l9_key (f : Nat) (ds : List Int) (c k : Nat) (hl : ds.length ≤ 5) (hk : k < ds.length) (hc : c < 3) : meval theTab theGlob (f + 20) (scopeOf l9C).names [("paints", some (.list (ds.map paintV))), ("c", some (.int (c : Int))), ("k", some (.int (k : Int)))] none (elOf 0 (eltOf l9C)) =
    some (.float (tabF (light (ds.map lightsOf) k c))) := by
  rw [l9_e]
  have e1 : idxV (.list (ds.map paintV)) (.int (k : Int)) = some (paintV (ds.getD k 0)) := by
    rw [idx_nat _ _ (by omega), List.getElem?_map, getD_at (d := 0) hk]; rfl
  rw [e1]
  simp only
  unfold paintV floatsV
  rw [idx_tup _ _ (by omega), List.map_map, List.getElem?_map, getD_at (d := 0) (by rw [lightsOf_len]; exact hc), light_at ds k c hk]
  rfl
noncomputable def pairF (ds : List Int) (c k : Nat) : V := .tup [.float (tabF (light (ds.map lightsOf) k c)), .int (k : Int)]
theorem l9_src4 (f : Nat) (s : La) (P L : V) (c rk : Option V) (LS : List V) : msrc theTab theGlob (f + 20) lawFn.names (laS (laR { s with listings := none } 4 P L c rk)) (some ("listings", LS)) (genOf l9C).iter = some (natL 4) := by kernel_rfl
theorem l9_src5 (f : Nat) (s : La) (P L : V) (c rk : Option V) (LS : List V) : msrc theTab theGlob (f + 20) lawFn.names (laS (laR { s with listings := none } 5 P L c rk)) (some ("listings", LS)) (genOf l9C).iter = some (natL 5) := by kernel_rfl
noncomputable def nthM (g : Nat → V) : V → V
  | .int k => g k.toNat
  | v => v
theorem l9_comp (f : Nat) (s : La) (n : Nat) (hn : n = 4 ∨ n = 5) (ds : List Int) (hd : ds.length = n) (L : V) (c : Nat) (hc : c < 3) (rk : Option V) (LS : List V) :
    meval theTab theGlob (f + 24) lawFn.names (laS (laR { s with listings := none } n (.list (ds.map paintV)) L (some (.int (c : Int))) rk)) (some ("listings", LS)) l9C = some (.list ((List.range n).map (pairF ds c))) := by
  refine ev_comp (E := l9C) (xs := natL n) (by kernel_rfl) (by kernel_rfl) ?_ ?_
  · rcases hn with rfl | rfl
    · exact l9_src4 (f + 3) s _ L _ rk LS
    · exact l9_src5 (f + 3) s _ L _ rk LS
  · rw [compM_map (g := nthM (pairF ds c)) _ fun x hx => ?_]
    · unfold natL
      rw [List.map_map]; rfl
    · obtain ⟨k, hk, rfl⟩ := List.mem_map.mp hx
      have hk := List.mem_range.mp hk
      refine compF_of (σ' := [("paints", some (.list (ds.map paintV))), ("c", some (.int (c : Int))), ("k", some (.int (k : Int)))]) (by kernel_rfl) (by kernel_rfl) ?_
      refine ev_tup l9_tup ?_ (show (2 : Nat) ≤ 4096 by decide)
      exact each_cons (l9_key (f + 1) ds c k (by omega) (by omega) hc) (each_cons (by kernel_rfl) each_nil)
theorem sort_paints (n : Nat) (hn : n = 4 ∨ n = 5) (ds : List Int) (hd : ds.length = n) (c : Nat) (hc : c < 3) : sortV ((List.range n).map (pairF ds c)) = some (.list ((permOf n (ds.map lightsOf) c).map (pairF ds c))) := by
  refine sortV_run hn (ds.map lightsOf) c (pairF ds c) false (fun k _ => rfl) fun i hi j hj => ?_
  have b1 := light_b ds i c (by omega) hc
  have b2 := light_b ds j c (by omega) hc
  have key := ltP_float (light (ds.map lightsOf) i c).toNat (light (ds.map lightsOf) j c).toNat (by omega) (by omega) i j
  rw [Int.toNat_of_nonneg b1.1, Int.toNat_of_nonneg b2.1] at key
  exact key
theorem l9_ranks (f : Nat) (s : La) (n : Nat) (hn : n = 4 ∨ n = 5) (ds : List Int) (hd : ds.length = n) (L : V) (c : Nat) (hc : c < 3) (rk : Option V) (LS : List V) :
    meval theTab theGlob (f + 26) lawFn.names (laS (laR { s with listings := none } n (.list (ds.map paintV)) L (some (.int (c : Int))) rk)) (some ("listings", LS)) (exprOf l9s0) = some (.list ((permOf n (ds.map lightsOf) c).map (pairF ds c))) := by
  have he : exprOf l9s0 = .Call (.Name "sorted" (fnPos (exprOf l9s0))) [l9C] [] (posC (exprOf l9s0)) := by kernel_rfl
  refine ev_callB he (by kernel_rfl) (by kernel_rfl) (by kernel_rfl) (by kernel_rfl) (each_cons (l9_comp f s n hn ds hd L c hc rk LS) each_nil) ?_
  have e : callB "sorted" [.list ((List.range n).map (pairF ds c))] = sortV ((List.range n).map (pairF ds c)) := by kernel_rfl
  rw [e]
  exact sort_paints n hn ds hd c hc
end Mine
end
section
open PySem
set_option maxRecDepth 1000000
namespace Mine
theorem ev_meth {tab : Tab} {glob : Str → Option V} {n : Nat} {N : Names} {σ : Sto} {ω : Own} {e o : Expr} {m : Str} {ap p : Pos} {as : List Expr} {x r : V} {ds : List V} (he : e = .Call (.Attribute o m ap) as [] p) (hc : (plainBase o && (decide (as.length < 30) && ap.endLine == p.line)) = true)
    (ho : meval tab glob n N σ ω o = some x) (ha : meach tab glob n N σ ω as = some ds) (h : methB x m ds = some r) : meval tab glob (n + 1) N σ ω e = some r := by
  subst he
  rw [mv_Meth, if_pos hc, ho, ha]
  exact h
noncomputable def l9X : Expr := arg 0 (exprOf l9s1)
noncomputable def l9J : Expr := arg 0 l9X
theorem l9X_e : l9X = .Call (.Attribute (mObj l9X) "join" (mPos l9X)) [l9J] [] (posC l9X) := by kernel_rfl
noncomputable def signM : V → V
  | .tup [_, .int k] => .str (spotS k.toNat)
  | v => v
theorem l9J_run (f : Nat) (s : La) (n : Nat) (hn : n = 4 ∨ n = 5) (ds : List Int) (P L : V) (c : Nat) (LS : List V) :
    meval theTab theGlob (f + 24) lawFn.names (laS (laR { s with listings := none } n P L (some (.int (c : Int))) (some (.list ((permOf n (ds.map lightsOf) c).map (pairF ds c)))))) (some ("listings", LS)) l9J = some (.list ((permOf n (ds.map lightsOf) c).map fun k => .str (spotS k))) := by
  have S := srt hn (ds.map lightsOf) c
  have hp := perms_lt hn S.mem
  refine ev_comp (E := l9J) (xs := (permOf n (ds.map lightsOf) c).map (pairF ds c)) (by kernel_rfl) (by kernel_rfl) ?_ ?_
  · have e1 : msrc theTab theGlob (f + 23) lawFn.names (laS (laR { s with listings := none } n P L (some (.int (c : Int))) (some (.list ((permOf n (ds.map lightsOf) c).map (pairF ds c)))))) (some ("listings", LS)) (genOf l9J).iter = if ((permOf n (ds.map lightsOf) c).map (pairF ds c)).length ≤ 4096 then some ((permOf n (ds.map lightsOf) c).map (pairF ds c)) else none := by kernel_rfl
    exact e1.trans (by rw [if_pos (by rw [List.length_map, hp.1]; omega)])
  · rw [compM_map (g := signM) _ fun x hx => ?_]
    · rw [List.map_map]; rfl
    · obtain ⟨k, hk, rfl⟩ := List.mem_map.mp hx
      have hk := hp.2.1 k hk
      refine compF_of (σ' := [("names", some (.str namesS)), ("part", some (.float (tabF (light (ds.map lightsOf) k c)))), ("spot", some (.int (k : Int)))]) (by kernel_rfl) (by kernel_rfl) ?_
      have e : meval theTab theGlob (f + 23) (scopeOf l9J).names [("names", some (.str namesS)), ("part", some (.float (tabF (light (ds.map lightsOf) k c)))), ("spot", some (.int (k : Int)))] (innerOwn (scopeOf l9J) (some ("listings", LS))) (eltOf l9J) = idxV (.str namesS) (.int (k : Int)) := by kernel_rfl
      exact e.trans (names_at k (by omega))
theorem l9X_run (f : Nat) (s : La) (n : Nat) (hn : n = 4 ∨ n = 5) (ds : List Int) (P L : V) (c : Nat) (LS : List V) :
    meval theTab theGlob (f + 26) lawFn.names (laS (laR { s with listings := none } n P L (some (.int (c : Int))) (some (.list ((permOf n (ds.map lightsOf) c).map (pairF ds c)))))) (some ("listings", LS)) l9X = some (.str (listS (permOf n (ds.map lightsOf) c))) :=
  ev_meth (x := .str "") l9X_e (by kernel_rfl) (by kernel_rfl) (each_cons (l9J_run f s n hn ds P L c LS) each_nil) (perm_join hn (srt hn (ds.map lightsOf) c).mem)
theorem l9_body : bodyOf (lw 9) = [asg "ranks" l9s0, appSt "listings" l9s1] := by kernel_rfl
theorem l9_for : lw 9 = .For (.Name "c" (tgtPos (lw 9))) (exprOf (lw 9)) (bodyOf (lw 9)) [] (posOf (lw 9)) := by kernel_rfl
theorem l9_app (f : Nat) (σ : Sto) (LS : List V) (d : V) (hl : LS.length ≤ 4096) (h2 : meval theTab theGlob (f + 32) lawFn.names σ (some ("listings", LS)) l9X = some d) : mexec theTab theGlob (f + 33) lawFn.names σ (some (("listings" : Str), LS)) (appSt "listings" l9s1) = some (.next σ (some (("listings" : Str), LS ++ [d]))) :=
  ex_append (e := l9X) rfl (by kernel_rfl) h2 hl
theorem exs_nil {tab : Tab} {glob : Str → Option V} {n : Nat} {N : Names} {σ : Sto} {ω : Own} : mexecs tab glob (n + 1) N σ ω [] = some (.next σ ω) := rfl
theorem l9X_run' (f : Nat) (s : La) (n : Nat) (hn : n = 4 ∨ n = 5) (ds : List Int) (P L : V) (c : Nat) (LS : List V) (p : List Nat) (hR : permOf n (ds.map lightsOf) c = p) :
    meval theTab theGlob (f + 32) lawFn.names (laS (laR { s with listings := none } n P L (some (.int (c : Int))) (some (.list (p.map (pairF ds c)))))) (some ("listings", LS)) l9X = some (.str (listS p)) := by
  subst hR
  exact l9X_run (f + 6) s n hn ds P L c LS
theorem l9_eb (f : Nat) (s : La) (n : Nat) (hn : n = 4 ∨ n = 5) (ds : List Int) (P L : V) (c : Nat) (LS : List V) (hl : LS.length ≤ 4096) (p : List Nat) (hR : permOf n (ds.map lightsOf) c = p) :
    mexec theTab theGlob (f + 33) lawFn.names (laS (laR { s with listings := none } n P L (some (.int (c : Int))) (some (.list (p.map (pairF ds c)))))) (some (("listings" : Str), LS)) (appSt "listings" l9s1) = some (.next (laS (laR { s with listings := none } n P L (some (.int (c : Int))) (some (.list (p.map (pairF ds c)))))) (some (("listings" : Str), LS ++ [.str (listS p)]))) :=
  l9_app f _ LS _ hl (l9X_run' f s n hn ds P L c LS p hR)
theorem l9_step (f : Nat) (s : La) (n : Nat) (hn : n = 4 ∨ n = 5) (ds : List Int) (hd : ds.length = n) (L : V) (c : Nat) (hc : c < 3) (p : List Nat) (hR : permOf n (ds.map lightsOf) c = p) (c0 rk : Option V) (LS : List V) (hl : LS.length ≤ 4096) :
    forStep theTab theGlob (f + 35) lawFn.names "c" (tgtPos (lw 9)) (bodyOf (lw 9)) (laS (laR { s with listings := none } n (.list (ds.map paintV)) L c0 rk)) (some ("listings", LS)) (.int (c : Int)) =
      some (.next (laS (laR { s with listings := none } n (.list (ds.map paintV)) L (some (.int (c : Int))) (some (.list (p.map (pairF ds c)))))) (some ("listings", LS ++ [.str (listS p)]))) := by
  have h1 := l9_ranks (f + 7) s n hn ds hd L c hc rk LS
  rw [hR] at h1
  have hb : bindT lawFn.names (laS (laR { s with listings := none } n (.list (ds.map paintV)) L c0 rk)) (.Name "c" (tgtPos (lw 9))) (.int (c : Int)) = some (laS (laR { s with listings := none } n (.list (ds.map paintV)) L (some (.int (c : Int))) rk)) := by kernel_rfl
  have hdr : dropOwn "c" (some (("listings" : Str), LS)) = some (("listings" : Str), LS) := by kernel_rfl
  refine for_step hb hdr ?_
  rw [l9_body]
  have hf : frozenFor (exprOf l9s0) (laS (laR { s with listings := none } n (.list (ds.map paintV)) L (some (.int (c : Int))) rk)) (some (("listings" : Str), LS)) = (laS (laR { s with listings := none } n (.list (ds.map paintV)) L (some (.int (c : Int))) rk), some (("listings" : Str), LS)) := by kernel_rfl
  have ea : mexec theTab theGlob (f + 34) lawFn.names (laS (laR { s with listings := none } n (.list (ds.map paintV)) L (some (.int (c : Int))) rk)) (some (("listings" : Str), LS)) (asg "ranks" l9s0) = some (.next (laS (laR { s with listings := none } n (.list (ds.map paintV)) L (some (.int (c : Int))) (some (.list (p.map (pairF ds c)))))) (some (("listings" : Str), LS))) :=
    (ex_assign (s := asg "ranks" l9s0) (e := exprOf l9s0) (d := .list (p.map (pairF ds c))) rfl (nolist_of (by kernel_rfl)) (by kernel_rfl) (by rw [hf]; exact h1)).trans (by rw [hf]; kernel_rfl)
  refine (exs_next ea).trans ?_
  have eb : mexec theTab theGlob (f + 33) lawFn.names (laS (laR { s with listings := none } n (.list (ds.map paintV)) L (some (.int (c : Int))) (some (.list (p.map (pairF ds c)))))) (some (("listings" : Str), LS)) (appSt "listings" l9s1) = some (.next (laS (laR { s with listings := none } n (.list (ds.map paintV)) L (some (.int (c : Int))) (some (.list (p.map (pairF ds c)))))) (some (("listings" : Str), LS ++ [.str (listS p)]))) :=
    l9_eb f s n hn ds _ L c LS hl p hR
  exact (exs_next eb).trans exs_nil
noncomputable def listingsV (n : Nat) (ls : List (List Int)) : List V := [.str (listS (permOf n ls 0)), .str (listS (permOf n ls 1)), .str (listS (permOf n ls 2))]
theorem loop3 {step : Sto → Own → V → Option Res} {σ0 σ1 σ2 σ3 : Sto} {ω0 ω1 ω2 ω3 : Own} {x0 x1 x2 : V} (h0 : step σ0 ω0 x0 = some (.next σ1 ω1)) (h1 : step σ1 ω1 x1 = some (.next σ2 ω2)) (h2 : step σ2 ω2 x2 = some (.next σ3 ω3)) : loopM step σ0 ω0 [x0, x1, x2] = some (.next σ3 ω3) := by
  rw [loopM, h0]
  simp only
  rw [loopM, h1]
  simp only
  rw [loopM, h2]
  rfl
theorem l9_run (f : Nat) (s : La) (n : Nat) (hn : n = 4 ∨ n = 5) (ds : List Int) (hd : ds.length = n) (L : V) (p0 p1 p2 : List Nat) (h0 : permOf n (ds.map lightsOf) 0 = p0) (h1 : permOf n (ds.map lightsOf) 1 = p1) (h2 : permOf n (ds.map lightsOf) 2 = p2) :
    mexec theTab theGlob (f + 36) lawFn.names (laS (laR { s with listings := none } n (.list (ds.map paintV)) L none none)) (some ("listings", [])) (lw 9) = some (.next (laS (laR { s with listings := none } n (.list (ds.map paintV)) L (some (.int ((2 : Nat) : Int))) (some (.list (p2.map (pairF ds 2)))))) (some ("listings", [.str (listS p0), .str (listS p1), .str (listS p2)]))) := by
  have fz : frozenFor (exprOf (lw 9)) (laS (laR { s with listings := none } n (.list (ds.map paintV)) L none none)) (some (("listings" : Str), [])) = (laS (laR { s with listings := none } n (.list (ds.map paintV)) L none none), some (("listings" : Str), [])) := by kernel_rfl
  have src : msrc theTab theGlob (f + 35) lawFn.names (laS (laR { s with listings := none } n (.list (ds.map paintV)) L none none)) (some (("listings" : Str), [])) (exprOf (lw 9)) = some [.int ((0 : Nat) : Int), .int ((1 : Nat) : Int), .int ((2 : Nat) : Int)] := by kernel_rfl
  have e0 := l9_step f s n hn ds hd L 0 (by decide) p0 h0 none none [] (by decide)
  have e1 := l9_step f s n hn ds hd L 1 (by decide) p1 h1 (some (.int ((0 : Nat) : Int))) (some (.list (p0.map (pairF ds 0)))) [.str (listS p0)] (by simp)
  have e2 := l9_step f s n hn ds hd L 2 (by decide) p2 h2 (some (.int ((1 : Nat) : Int))) (some (.list (p1.map (pairF ds 1)))) [.str (listS p0), .str (listS p1)] (by simp)
  refine ex_for l9_for (xs := [.int ((0 : Nat) : Int), .int ((1 : Nat) : Int), .int ((2 : Nat) : Int)]) ?_ ?_
  · rw [fz]; exact src
  · rw [fz]
    exact loop3 e0 e1 e2
end Mine
end
section
open PySem
set_option maxRecDepth 1000000
namespace Mine
theorem src_of {tab : Tab} {glob : Str → Option V} {n : Nat} {N : Names} {σ : Sto} {ω : Own} {e : Expr} {f : Str} {fp p : Pos} {as : List Expr} {d : V} {xs : List V} (he : e = .Call (.Name f fp) as [] p) (hf : (f == "range") = false) (h : meval tab glob n N σ ω e = some d) (hi : itemsV d = some xs) : msrc tab glob (n + 1) N σ ω e = some xs := by
  subst he
  rw [ms_range, if_neg (by rw [hf]; exact Bool.false_ne_true), h]
  exact hi
theorem items_list {xs : List V} (h : xs.length ≤ 4096) : itemsV (.list xs) = some xs := by
  unfold itemsV
  exact if_pos h
noncomputable def l10E : Expr := exprOf (lw 10)
noncomputable def l10I : Expr := (genOf l10E).iter
noncomputable def l10C : Expr := arg 0 l10I
noncomputable def pairI (ls : List (List Int)) (c k : Nat) : V := .tup [.int (light ls k c), .int (k : Int)]
theorem l10_e (f : Nat) (L : V) (k : Int) : meval theTab theGlob (f + 20) (scopeOf l10C).names [("lights", some L), ("k", some (.int k))] none (elOf 0 (eltOf l10C)) =
    (match idxV L (.int k) with | some a => idxV a (.int 0) | none => none) := by kernel_rfl
theorem l10_tup : eltOf l10C = .Tuple [elOf 0 (eltOf l10C), elOf 1 (eltOf l10C)] (tupK (eltOf l10C)) (namePos (eltOf l10C)) := by kernel_rfl
theorem l10_key (f : Nat) (ds : List Int) (k : Nat) (hl : ds.length ≤ 5) (hk : k < ds.length) : meval theTab theGlob (f + 20) (scopeOf l10C).names [("lights", some (listsV (ds.map lightsOf))), ("k", some (.int (k : Int)))] none (elOf 0 (eltOf l10C)) = some (.int (light (ds.map lightsOf) k 0)) := by
  rw [l10_e]
  have e1 : idxV (listsV (ds.map lightsOf)) (.int (k : Int)) = some (.list ((lightsOf (ds.getD k 0)).map .int)) := by
    unfold listsV
    rw [idx_nat _ _ (by omega), List.getElem?_map, List.getElem?_map, getD_at (d := 0) hk]; rfl
  rw [e1, light_at ds k 0 hk]
  simp only
  exact idx_ints (lightsOf (ds.getD k 0)) 0 (by rw [lightsOf_len]; decide) (by decide)
theorem l10_src4 (f : Nat) (s : La) (P L : V) (c rk : Option V) (LS : List V) : msrc theTab theGlob (f + 20) lawFn.names (laS (laR { s with listings := none } 4 P L c rk)) (some ("listings", LS)) (genOf l10C).iter = some (natL 4) := by kernel_rfl
theorem l10_src5 (f : Nat) (s : La) (P L : V) (c rk : Option V) (LS : List V) : msrc theTab theGlob (f + 20) lawFn.names (laS (laR { s with listings := none } 5 P L c rk)) (some ("listings", LS)) (genOf l10C).iter = some (natL 5) := by kernel_rfl
theorem l10_comp (f : Nat) (s : La) (n : Nat) (hn : n = 4 ∨ n = 5) (ds : List Int) (hd : ds.length = n) (P : V) (c rk : Option V) (LS : List V) :
    meval theTab theGlob (f + 24) lawFn.names (laS (laR { s with listings := none } n P (listsV (ds.map lightsOf)) c rk)) (some ("listings", LS)) l10C = some (.list ((List.range n).map (pairI (ds.map lightsOf) 0))) := by
  refine ev_comp (E := l10C) (xs := natL n) (by kernel_rfl) (by kernel_rfl) ?_ ?_
  · rcases hn with rfl | rfl
    · exact l10_src4 (f + 3) s P _ c rk LS
    · exact l10_src5 (f + 3) s P _ c rk LS
  · rw [compM_map (g := nthM (pairI (ds.map lightsOf) 0)) _ fun x hx => ?_]
    · unfold natL
      rw [List.map_map]; rfl
    · obtain ⟨k, hk, rfl⟩ := List.mem_map.mp hx
      have hk := List.mem_range.mp hk
      refine compF_of (σ' := [("lights", some (listsV (ds.map lightsOf))), ("k", some (.int (k : Int)))]) (by kernel_rfl) (by kernel_rfl) ?_
      refine ev_tup l10_tup ?_ (show (2 : Nat) ≤ 4096 by decide)
      exact each_cons (l10_key (f + 1) ds k (by omega) (by omega)) (each_cons (by kernel_rfl) each_nil)
theorem sort_lights (n : Nat) (hn : n = 4 ∨ n = 5) (ls : List (List Int)) (c : Nat) : sortV ((List.range n).map (pairI ls c)) = some (.list ((permOf n ls c).map (pairI ls c))) :=
  sortV_run hn ls c (pairI ls c) true (fun k _ => rfl) fun i _ j _ => ltP_int _ _ _ _
theorem l10_sorted (f : Nat) (s : La) (n : Nat) (hn : n = 4 ∨ n = 5) (ds : List Int) (hd : ds.length = n) (P : V) (c rk : Option V) (LS : List V) (p : List Nat) (hp : permOf n (ds.map lightsOf) 0 = p) :
    meval theTab theGlob (f + 26) lawFn.names (laS (laR { s with listings := none } n P (listsV (ds.map lightsOf)) c rk)) (some ("listings", LS)) l10I = some (.list (p.map (pairI (ds.map lightsOf) 0))) := by
  have he : l10I = .Call (.Name "sorted" (fnPos l10I)) [l10C] [] (posC l10I) := by kernel_rfl
  refine ev_callB he (by kernel_rfl) (by kernel_rfl) (by kernel_rfl) (by kernel_rfl) (each_cons (l10_comp f s n hn ds hd P c rk LS) each_nil) ?_
  have e : callB "sorted" [.list ((List.range n).map (pairI (ds.map lightsOf) 0))] = sortV ((List.range n).map (pairI (ds.map lightsOf) 0)) := by kernel_rfl
  rw [e, ← hp]
  exact sort_lights n hn _ 0
noncomputable def spotM : V → V
  | .tup [_, k] => k
  | v => v
noncomputable def natsV (p : List Nat) : V := .list (p.map fun (k : Nat) => .int (k : Int))
theorem l10_run (f : Nat) (s : La) (n : Nat) (hn : n = 4 ∨ n = 5) (ds : List Int) (hd : ds.length = n) (P : V) (c rk : Option V) (LS : List V) (p : List Nat) (hp : permOf n (ds.map lightsOf) 0 = p) (hpl : p.length ≤ 4096) :
    mexec theTab theGlob (f + 30) lawFn.names (laS (laR { s with listings := none, order := none } n P (listsV (ds.map lightsOf)) c rk)) (some ("listings", LS)) (asg "order" (lw 10)) =
      some (.next (laS (laR { s with listings := none, order := some (natsV p) } n P (listsV (ds.map lightsOf)) c rk)) (some ("listings", LS))) := by
  have hf : frozenFor l10E (laS (laR { s with listings := none, order := none } n P (listsV (ds.map lightsOf)) c rk)) (some ("listings", LS)) = (laS (laR { s with listings := none, order := none } n P (listsV (ds.map lightsOf)) c rk), some (("listings" : Str), LS)) := by kernel_rfl
  refine (ex_assign (s := asg "order" (lw 10)) (e := l10E) (d := natsV p) rfl (nolist_of (by kernel_rfl)) (by kernel_rfl) ?_).trans (by rw [hf]; kernel_rfl)
  rw [hf]
  have he : l10I = .Call (.Name "sorted" (fnPos l10I)) [l10C] [] (posC l10I) := by kernel_rfl
  refine ev_comp (E := l10E) (xs := p.map (pairI (ds.map lightsOf) 0)) (by kernel_rfl) (by kernel_rfl) ?_ ?_
  · exact src_of (n := f + 27) (e := l10I) he (by kernel_rfl) (l10_sorted (f + 1) { s with order := none } n hn ds hd P c rk LS p hp) (items_list (by rw [List.length_map]; exact hpl))
  · rw [compM_map (g := spotM) _ fun x hx => ?_]
    · rw [List.map_map]; rfl
    · obtain ⟨k, _, rfl⟩ := List.mem_map.mp hx
      exact compF_of (σ' := [("part", some (.int (light (ds.map lightsOf) k 0))), ("spot", some (.int (k : Int)))]) (by kernel_rfl) (by kernel_rfl) (by kernel_rfl)
end Mine
end
section
open PySem
set_option maxRecDepth 1000000
namespace Mine
/-- is y the head of x -/
noncomputable def preN : List Nat → List Nat → Bool
  | [], _ => true
  | _ :: _, [] => false
  | c :: r, d :: t => Nat.beq c d && preN r t
theorem preN_iff : ∀ (y x : List Nat), preN y x = true ↔ x.take y.length = y
  | [], x => by simp [preN]
  | c :: r, [] => by simp [preN]
  | c :: r, d :: t => by
    rw [preN, Bool.and_eq_true, preN_iff r t, List.length_cons, List.take_succ_cons]
    constructor
    · intro h; rw [Nat.eq_of_beq_eq_true h.1, h.2]
    · intro h
      injection h with h1 h2
      subst h1
      exact ⟨Nat.beq_refl _, h2⟩
theorem subAt_pre (s sub : Str) (i : Nat) : Builtin.Str.subAt s sub i = preN sub.cps.toList (s.cps.toList.drop i) := by
  rw [Bool.eq_iff_iff, preN_iff]
  unfold Builtin.Str.subAt
  rw [beq_iff_eq]
  have e : (s.cps.extract i (i + sub.length)).toList = (s.cps.toList.drop i).take sub.cps.toList.length := by
    rw [Array.toList_extract, List.extract_eq_take_drop, Nat.add_sub_cancel_left]
    rfl
  constructor
  · intro h; rw [← e, h]
  · intro h
    apply Array.toList_inj.mp
    rw [e, h]
/-- the places of y, as occurrences finds them -/
noncomputable def occG (y : List Nat) (w hi limit : Nat) : Nat → List Nat → Nat → Nat → Nat → List Nat
  | 0, _, _, _, _ => []
  | m + 1, x, i, cnt, free => if (((cnt < limit ∧ free ≤ i) ∧ i + w ≤ hi) ∧ preN y x = true) then i :: occG y w hi limit m x.tail (i + 1) (cnt + 1) (i + w) else occG y w hi limit m x.tail (i + 1) cnt free
theorem occ_loop (s sub : Str) (hi limit : Nat) : ∀ (m i : Nat) (acc : Array Nat) (free : Nat), (forIn (List.range' i m) (acc, free) (StrLaws.occBody s sub hi limit)).run.fst.toList = acc.toList ++ occG sub.cps.toList sub.length hi limit m (s.cps.toList.drop i) i acc.size free
  | 0, i, acc, free => by
    rw [occG, List.append_nil]; rfl
  | m + 1, i, acc, free => by
    rw [List.range'_succ, List.forIn_cons, occG]
    unfold StrLaws.occBody
    rw [← subAt_pre, List.tail_drop]
    by_cases h : (((acc.size < limit ∧ free ≤ i) ∧ i + sub.length ≤ hi) ∧ Builtin.Str.subAt s sub i = true)
    · rw [if_pos h, if_pos h]
      have := occ_loop s sub hi limit m (i + 1) (acc.push i) (i + sub.length)
      rw [Array.size_push, Array.toList_push, List.append_assoc] at this
      exact this
    · rw [if_neg h, if_neg h]
      exact occ_loop s sub hi limit m (i + 1) acc free
theorem occ_quick (s sub : Str) (lo hi limit : Nat) : Builtin.Str.occurrences s sub lo hi limit = occG sub.cps.toList sub.length hi limit (hi + 1 - lo) (s.cps.toList.drop lo) lo 0 lo := by
  rw [StrLaws.occ_eq]
  have := occ_loop s sub hi limit (hi + 1 - lo) lo #[] lo
  exact this
end Mine
end
section
open PySem
set_option maxRecDepth 1000000
namespace Mine
noncomputable def preQ (y : List Nat) : List Nat → Bool := @List.rec Nat (fun _ => List Nat → Bool) (fun _ => true) (fun c _ ih x => @List.rec Nat (fun _ => Bool) false (fun d t _ => @Bool.rec (fun _ => Bool) false (ih t) (Nat.beq c d)) x) y
noncomputable def fitQ (y x : List Nat) (w hi limit i cnt free : Nat) : Bool := @Bool.rec (fun _ => Bool) false (@Bool.rec (fun _ => Bool) false (@Bool.rec (fun _ => Bool) false (preQ y x) (Nat.ble (Nat.add i w) hi)) (Nat.ble free i)) (Nat.ble (Nat.succ cnt) limit)
noncomputable def occQ (y : List Nat) (w hi limit m : Nat) : List Nat → Nat → Nat → Nat → List Nat := @Nat.rec (fun _ => List Nat → Nat → Nat → Nat → List Nat) (fun _ _ _ _ => []) (fun _ ih x i cnt free => @Bool.rec (fun _ => List Nat) (ih x.tail (Nat.succ i) cnt free) (i :: ih x.tail (Nat.succ i) (Nat.succ cnt) (Nat.add i w)) (fitQ y x w hi limit i cnt free)) m
theorem boolRec {α : Type} (a b : α) (c : Bool) : @Bool.rec (fun _ => α) a b c = if c then b else a := by cases c <;> rfl
theorem preQ_eq : ∀ (y x : List Nat), preQ y x = preN y x
  | [], _ => rfl
  | c :: r, [] => rfl
  | c :: r, d :: t => by
    have e : preQ (c :: r) (d :: t) = @Bool.rec (fun _ => Bool) false (preQ r t) (Nat.beq c d) := rfl
    rw [e, boolRec, preQ_eq r t, preN]
    cases Nat.beq c d <;> rfl
theorem fitQ_eq (y x : List Nat) (w hi limit i cnt free : Nat) : fitQ y x w hi limit i cnt free = true ↔ (((cnt < limit ∧ free ≤ i) ∧ i + w ≤ hi) ∧ preN y x = true) := by
  unfold fitQ
  rw [boolRec, boolRec, boolRec, preQ_eq]
  have h1 : Nat.ble (Nat.succ cnt) limit = true ↔ cnt < limit := by rw [Nat.ble_eq]; exact Iff.rfl
  have h2 : Nat.ble free i = true ↔ free ≤ i := Iff.of_eq Nat.ble_eq
  have h3 : Nat.ble (Nat.add i w) hi = true ↔ i + w ≤ hi := by rw [Nat.ble_eq]; exact Iff.rfl
  rw [← h1, ← h2, ← h3]
  cases Nat.ble (Nat.succ cnt) limit <;> cases Nat.ble free i <;> cases Nat.ble (Nat.add i w) hi <;> cases preN y x <;> simp
theorem occQ_eq (y : List Nat) (w hi limit : Nat) : ∀ (m : Nat) (x : List Nat) (i cnt free : Nat), occQ y w hi limit m x i cnt free = occG y w hi limit m x i cnt free
  | 0, _, _, _, _ => rfl
  | m + 1, x, i, cnt, free => by
    have e : occQ y w hi limit (m + 1) x i cnt free = @Bool.rec (fun _ => List Nat) (occQ y w hi limit m x.tail (i + 1) cnt free) (i :: occQ y w hi limit m x.tail (i + 1) (cnt + 1) (i + w)) (fitQ y x w hi limit i cnt free) := rfl
    rw [e, boolRec, occQ_eq y w hi limit m, occQ_eq y w hi limit m, occG]
    by_cases h : fitQ y x w hi limit i cnt free = true
    · rw [if_pos h, if_pos ((fitQ_eq _ _ _ _ _ _ _ _).mp h)]
    · rw [if_neg h, if_neg fun g => h ((fitQ_eq _ _ _ _ _ _ _ _).mpr g)]
theorem occ_quick' (s sub : Str) (lo hi limit : Nat) : Builtin.Str.occurrences s sub lo hi limit = occQ sub.cps.toList sub.length hi limit (hi + 1 - lo) (s.cps.toList.drop lo) lo 0 lo := by
  rw [occ_quick, occQ_eq]
-- the wanted text
noncomputable def wsOf (w : List Nat) : List Str := ⟨#[]⟩ :: ((if w.isEmpty then [⟨#[]⟩] else w.map spotS) ++ [⟨#[]⟩])
noncomputable def joinS (w : List Nat) : Str := Txt.join "..." (w.map spotS)
noncomputable def wantS (w : List Nat) : Str := ("..." ++ joinS w) ++ "..."
noncomputable def joinL : List Nat → List Nat
  | [] => []
  | [x] => [sign x]
  | x :: y :: r => sign x :: 46 :: 46 :: 46 :: joinL (y :: r)
noncomputable def wantL (w : List Nat) : List Nat := 46 :: 46 :: 46 :: (joinL w ++ [46, 46, 46])
theorem dots_cps : ("..." : Str).cps = #[46, 46, 46] := by decide +kernel
theorem joinS_list : ∀ w : List Nat, (joinS w).cps.toList = joinL w
  | [] => by
    unfold joinS Txt.join
    rw [StrLaws.glued_eq_join]
    rfl
  | [x] => by
    unfold joinS Txt.join
    rw [StrLaws.glued_eq_join]
    rfl
  | x :: y :: r => by
    have ih := joinS_list (y :: r)
    unfold joinS Txt.join at ih ⊢
    rw [StrLaws.glued_eq_join] at ih ⊢
    have e : Str.join "..." ((x :: y :: r).map spotS) = spotS x ++ "..." ++ Str.join "..." ((y :: r).map spotS) := rfl
    rw [e, joinL, ← ih]
    show ((spotS x).cps ++ ("..." : Str).cps ++ (Str.join "..." ((y :: r).map spotS)).cps).toList = _
    rw [dots_cps, Array.toList_append, Array.toList_append]
    rfl
theorem wantS_list (w : List Nat) : (wantS w).cps.toList = wantL w := by
  have e : (wantS w).cps = ("..." : Str).cps ++ (joinS w).cps ++ ("..." : Str).cps := rfl
  rw [e, dots_cps, Array.toList_append, Array.toList_append, joinS_list]
  rfl
theorem joinL_len : ∀ w : List Nat, (joinL w).length ≤ 4 * w.length
  | [] => Nat.zero_le _
  | [x] => by show 1 ≤ 4; decide
  | x :: y :: r => by
    have ih := joinL_len (y :: r)
    rw [joinL]
    simp only [List.length_cons] at ih ⊢
    omega
theorem len_list (s : Str) : s.length = s.cps.toList.length := (Array.length_toList).symm
theorem wantS_len (w : List Nat) : (wantS w).length = (wantL w).length := by rw [len_list, wantS_list]
theorem wantL_len (w : List Nat) : (wantL w).length = (joinL w).length + 6 := by
  unfold wantL
  simp
end Mine
end
section
open PySem
set_option maxRecDepth 1000000
namespace Mine
noncomputable def wsL (w : List Nat) : List (List Nat) := [] :: ((if w.isEmpty then [[]] else w.map fun k => [sign k]) ++ [[]])
noncomputable def partsL (x : List Nat) (cuts : List Nat) (width : Nat) : List (List Nat) := ((0 :: cuts.map (· + width)).zip (cuts ++ [x.length])).map fun p => (x.drop p.1).take (p.2 - p.1)
theorem parts_list (s : Str) (cuts : List Nat) (width : Nat) : (Builtin.Str.partsBetween s cuts width).map (fun t => t.cps.toList) = partsL s.cps.toList cuts width := by
  unfold Builtin.Str.partsBetween partsL
  rw [List.map_map, len_list]
  refine List.map_congr_left fun p _ => ?_
  show (s.cps.extract p.1 p.2).toList = _
  rw [Array.toList_extract, List.extract_eq_take_drop]
theorem strs_inj : ∀ (l m : List Str), l.map (fun t => t.cps.toList) = m.map (fun t => t.cps.toList) → l = m
  | [], [], _ => rfl
  | [], _ :: _, h => by cases h
  | _ :: _, [], h => by cases h
  | ⟨a⟩ :: l, ⟨b⟩ :: m, h => by
    rw [List.map_cons, List.map_cons] at h
    injection h with h1 h2
    have h3 : a = b := Array.toList_inj.mp h1
    rw [strs_inj l m h2, h3]
theorem wsOf_list (w : List Nat) : (wsOf w).map (fun t => t.cps.toList) = wsL w := by
  unfold wsOf wsL
  cases w with
  | nil => rfl
  | cons x r =>
    rw [List.map_cons, List.map_append]
    show ([] : List Nat) :: (((x :: r).map spotS).map _ ++ _) = _
    rw [List.map_map]
    rfl
noncomputable def wordQ (w : List Nat) : Bool := !(occQ [46, 46, 46] 3 (wantL w).length 1 ((wantL w).length + 1) (wantL w) 0 0 0).isEmpty && (!(occQ [46, 46, 46] 3 (wantL w).length ((wantL w).length + 1) ((wantL w).length + 1) (wantL w) 0 0 0).isEmpty && partsL (wantL w) (occQ [46, 46, 46] 3 (wantL w).length ((wantL w).length + 1) ((wantL w).length + 1) (wantL w) 0 0 0) 3 == wsL w)
noncomputable def seqs (n : Nat) : Nat → List (List Nat)
  | 0 => [[]]
  | l + 1 => [] :: (seqs n l).flatMap fun w => ((List.range n).filter fun x => !w.contains x).map (· :: w)
theorem seqs_mem (n : Nat) : ∀ (l : Nat) (w : List Nat), w.length ≤ l → w.Nodup → (∀ x ∈ w, x < n) → w ∈ seqs n l
  | 0, w, h, _, _ => by
    have : w = [] := List.eq_nil_of_length_eq_zero (by omega)
    subst this; simp [seqs]
  | l + 1, [], _, _, _ => by simp [seqs]
  | l + 1, x :: r, h, hn, hb => by
    rw [List.nodup_cons] at hn
    have ih := seqs_mem n l r (by simp at h; omega) hn.2 fun y hy => hb y (List.mem_cons_of_mem _ hy)
    rw [seqs]
    refine List.mem_cons_of_mem _ (List.mem_flatMap.mpr ⟨r, ih, List.mem_map.mpr ⟨x, List.mem_filter.mpr ⟨List.mem_range.mpr (hb x List.mem_cons_self), ?_⟩, rfl⟩⟩)
    simpa using hn.1
theorem words5 : ((seqs 5 5).all wordQ) = true := by decide +kernel
structure WordFacts (w : List Nat) : Prop where
  join : (JoinOk "..." (w.map spotS) && decide ((Txt.join "..." (w.map spotS)).length ≤ 4096)) = true
  l1 : (("..." : Str) ++ joinS w).length ≤ 4096
  l2 : (wantS w).length ≤ 4096
  occ : (Builtin.Str.occurrences (wantS w) "..." 0 (wantS w).length 1).isEmpty = false
  split : Txt.split (wantS w) "..." = wsOf w
  parts : (Builtin.Str.partsBetween (wantS w) (Builtin.Str.occurrences (wantS w) "..." 0 (wantS w).length ((wantS w).length + 1)) ("..." : Str).length).length ≤ 4096
theorem dots_len : ("..." : Str).length = 3 := by decide +kernel
theorem join_total : ∀ (w : List Nat) (acc : Nat), (w.map spotS).foldl (fun a (t : Str) => a + t.length + 3) acc = acc + 4 * w.length
  | [], acc => rfl
  | x :: r, acc => by
    rw [List.map_cons, List.foldl_cons, join_total r]
    have e : (spotS x).length = 1 := rfl
    rw [e, List.length_cons]
    omega
theorem small_total : ∀ k : Nat, k ≤ 5 → Builtin.Str.tooLong (4 * k) = false := by
  intro k h
  have : k = 0 ∨ k = 1 ∨ k = 2 ∨ k = 3 ∨ k = 4 ∨ k = 5 := by omega
  rcases this with rfl | rfl | rfl | rfl | rfl | rfl <;> decide +kernel
theorem kind_dots : Builtin.Str.strKind "..." = 1 := by decide +kernel
theorem kind_pos (s : Str) : ¬ Builtin.Str.strKind s < 1 := by
  unfold Builtin.Str.strKind
  split
  · omega
  · split <;> omega
theorem word_facts {w : List Nat} (h : w ∈ seqs 5 5) (hw : w.length ≤ 5) : WordFacts w := by
  have key := List.all_eq_true.mp words5 w h
  unfold wordQ at key
  simp only [Bool.and_eq_true] at key
  obtain ⟨k1, k2, k3⟩ := key
  have hj := joinL_len w
  have hL := wantL_len w
  have hlen := wantS_len w
  have hjl : (joinS w).length = (joinL w).length := by rw [len_list, joinS_list]
  have q : ∀ lim, Builtin.Str.occurrences (wantS w) "..." 0 (wantS w).length lim = occQ [46, 46, 46] 3 (wantL w).length lim ((wantL w).length + 1) (wantL w) 0 0 0 := by
    intro lim
    rw [occ_quick', dots_cps, dots_len, hlen, wantS_list, Nat.sub_zero]
    rfl
  have hparts : Builtin.Str.partsBetween (wantS w) (Builtin.Str.occurrences (wantS w) "..." 0 (wantS w).length ((wantS w).length + 1)) ("..." : Str).length = wsOf w := by
    refine strs_inj _ _ ?_
    rw [parts_list, wsOf_list, q, dots_len, wantS_list, hlen]
    exact eq_of_beq k3
  have hws : (wsOf w).length ≤ 7 := by
    unfold wsOf
    cases w with
    | nil => decide
    | cons x r =>
      simp only [List.isEmpty_cons, Bool.false_eq_true, if_false, List.length_cons, List.length_append, List.length_map, List.length_nil] at *
      omega
  refine ⟨?_, ?_, by omega, ?_, ?_, ?_⟩
  · have e1 : JoinOk "..." (w.map spotS) = true := by
      unfold JoinOk
      rw [dots_len, List.foldl_toArray, join_total, Nat.zero_add, small_total _ hw]
      rfl
    rw [e1, decide_eq_true (show (Txt.join "..." (w.map spotS)).length ≤ 4096 from by
      show (joinS w).length ≤ 4096
      omega)]
    rfl
  · show (("..." : Str).cps ++ (joinS w).cps).size ≤ 4096
    rw [Array.size_append]
    have e1 : ("..." : Str).cps.size = 3 := dots_len
    have e2 : (joinS w).cps.size = (joinS w).length := rfl
    omega
  · rw [q]
    cases hq : (occQ [46, 46, 46] 3 (wantL w).length 1 ((wantL w).length + 1) (wantL w) 0 0 0).isEmpty with
    | false => rfl
    | true => rw [hq] at k1; cases k1
  · unfold Txt.split
    have e1 : (decide ((wantS w).length < ("..." : Str).length) || decide (Builtin.Str.strKind (wantS w) < Builtin.Str.strKind "...")) = false := by
      rw [dots_len, kind_dots, decide_eq_false (by omega), decide_eq_false (kind_pos _)]
      rfl
    rw [e1, if_neg Bool.false_ne_true, if_neg (by
      rw [q, ← hlen]
      intro hq
      rw [hlen] at hq
      rw [hq] at k2; cases k2)]
    exact hparts
  · rw [hparts]; omega
noncomputable def findQ (p : List Nat) (n : Nat) (y : List Nat) (w s : Nat) : List Nat := occQ y w n 1 (n + 1 - s) ((p.map sign).drop s) s 0 s
noncomputable def findOk (n : Nat) (p : List Nat) : Bool := p.length == n && (List.range (n + 1)).all fun s => findQ p n [] 0 s == [s] && (List.range n).all fun c => findQ p n [sign c] 1 s == (if s ≤ p.idxOf c then [p.idxOf c] else [])
theorem find4 : ((perms 4).all (findOk 4)) = true := by decide +kernel
theorem find5 : ((perms 5).all (findOk 5)) = true := by decide +kernel
end Mine
end
section
open PySem
set_option maxRecDepth 1000000
namespace Mine
noncomputable def upB (p : List Nat) : Nat → List Nat → Bool
  | _, [] => true
  | s, k :: r => if s ≤ p.idxOf k then upB p (p.idxOf k + 1) r else false
structure FindFacts (n : Nat) (p : List Nat) : Prop where
  len : (listS p).length = n
  nil : ∀ s, s ≤ n → findV (listS p) ⟨#[]⟩ s n = some (.int s)
  one : ∀ s, s ≤ n → ∀ c, c < n → findV (listS p) (spotS c) s n = some (.int (if s ≤ p.idxOf c then p.idxOf c else -1))
theorem listS_list (p : List Nat) : (listS p).cps.toList = p.map sign := by
  show (p.map sign).toArray.toList = _
  rw [List.toList_toArray]
theorem findV_eq (x y : Str) (s n : Nat) (h1 : s ≤ n) (h2 : n = x.length) (h3 : x.length ≤ 4096) : findV x y s n = some (.int (match Builtin.Str.occurrences x y s n 1 with | i :: _ => (i : Int) | [] => -1)) := by
  unfold findV
  have hc : (decide (0 ≤ (s : Int)) && decide ((s : Int) ≤ (n : Int)) && decide ((n : Int) ≤ (x.length : Int)) && decide (x.length ≤ 4096)) = true := by
    simp only [Bool.and_eq_true, decide_eq_true_eq]
    omega
  rw [if_pos hc]
  rfl
theorem find_facts {n : Nat} (hn : n = 4 ∨ n = 5) {p : List Nat} (hp : p ∈ perms n) : FindFacts n p := by
  have key : findOk n p = true := by
    rcases hn with rfl | rfl
    · exact List.all_eq_true.mp find4 p hp
    · exact List.all_eq_true.mp find5 p hp
  unfold findOk at key
  rw [Bool.and_eq_true] at key
  have hl : (listS p).length = n := by
    rw [len_list, listS_list, List.length_map]
    exact eq_of_beq key.1
  have q : ∀ (y : Str) (s : Nat), s ≤ n → findV (listS p) y s n = some (.int (match findQ p n y.cps.toList y.length s with | i :: _ => (i : Int) | [] => -1)) := by
    intro y s hs
    rw [findV_eq _ _ _ _ hs hl.symm (by omega), occ_quick', listS_list]
    rfl
  refine ⟨hl, fun s hs => ?_, fun s hs c hc => ?_⟩
  · have := all_range key.2 (show s < n + 1 by omega)
    rw [Bool.and_eq_true] at this
    have e := eq_of_beq this.1
    rw [q _ s hs]
    have e2 : findQ p n (⟨#[]⟩ : Str).cps.toList (⟨#[]⟩ : Str).length s = [s] := e
    rw [e2]
  · have := all_range key.2 (show s < n + 1 by omega)
    rw [Bool.and_eq_true] at this
    have e := eq_of_beq (all_range this.2 hc)
    rw [q _ s hs]
    have e2 : findQ p n (spotS c).cps.toList (spotS c).length s = if s ≤ p.idxOf c then [p.idxOf c] else [] := e
    rw [e2]
    by_cases h : s ≤ p.idxOf c
    · rw [if_pos h, if_pos h]
    · rw [if_neg h, if_neg h]
theorem smallO_of {i : Int} (h : -(2 ^ 60 : Int) < i) (h' : i < 2 ^ 60) : smallO i = some i := by
  unfold smallO; rw [small_of h h', if_pos rfl]
theorem elGo_nil {n : Nat} (hn : n ≤ 5) {p : List Nat} (F : FindFacts n p) (s : Nat) (hs : s ≤ n) (r : List Str) : elGo (listS p) n s (⟨#[]⟩ :: r) = elGo (listS p) n s r := by
  rw [elGo, F.nil s hs]
  simp only
  have e : ((⟨#[]⟩ : Str).length : Int) = 0 := rfl
  rw [if_neg (by omega), e, Int.add_zero, smallO_of (by omega) (by omega)]
  simp only
  rw [if_pos (by decide)]
theorem elGo_word {n : Nat} (hn : n ≤ 5) {p : List Nat} (F : FindFacts n p) (hb : ∀ k, k < n → p.idxOf k < n) : ∀ (w : List Nat) (s : Nat), s ≤ n → (∀ k ∈ w, k < n) → elGo (listS p) n s (w.map spotS ++ [⟨#[]⟩]) = some (upB p s w)
  | [], s, hs, _ => by
    rw [List.map_nil, List.nil_append, elGo_nil hn F s hs, elGo, upB]
  | k :: r, s, hs, hw => by
    have hk := hw k List.mem_cons_self
    have hi := hb k hk
    rw [List.map_cons, List.cons_append, elGo, F.one s hs k hk, upB]
    simp only
    by_cases h : s ≤ p.idxOf k
    · rw [if_pos h, if_pos h, if_neg (by omega)]
      have e : ((spotS k).length : Int) = 1 := rfl
      rw [e, smallO_of (by omega) (by omega)]
      simp only
      rw [if_pos (by show (1 : Nat) ≤ 4096; decide)]
      exact elGo_word hn F hb r (p.idxOf k + 1) (by omega) fun x hx => hw x (List.mem_cons_of_mem _ hx)
    · rw [if_neg h, if_neg h, if_pos (by decide)]
theorem elGo_ws {n : Nat} (hn : n ≤ 5) {p : List Nat} (F : FindFacts n p) (hb : ∀ k, k < n → p.idxOf k < n) (w : List Nat) (hw : ∀ k ∈ w, k < n) : elGo (listS p) n 0 (wsOf w) = some (upB p 0 w) := by
  unfold wsOf
  have e0 := elGo_nil hn F 0 (Nat.zero_le _) ((if w.isEmpty then [⟨#[]⟩] else w.map spotS) ++ [⟨#[]⟩])
  refine e0.trans ?_
  cases w with
  | nil =>
    have e1 := elGo_nil hn F 0 (Nat.zero_le _) [⟨#[]⟩]
    refine e1.trans ?_
    exact elGo_word hn F hb [] 0 (Nat.zero_le _) hw
  | cons k r => exact elGo_word hn F hb (k :: r) 0 (Nat.zero_le _) hw
theorem meth_split {w : List Nat} (F : WordFacts w) : methB (.str (wantS w)) "split" [.str "..."] = some (.list ((wsOf w).map .str)) := by
  have e : ∀ x y : Str, methB (.str x) "split" [.str y] = if y.length != 0 && (x.length ≤ 4096 && (Builtin.Str.partsBetween x (Builtin.Str.occurrences x y 0 x.length (x.length + 1)) y.length).length ≤ 4096) then
        some (.list ((Txt.split x y).map .str)) else none := by
    intro x y
    kernel_rfl
  have hc : ((("..." : Str).length != 0) && (decide ((wantS w).length ≤ 4096) && decide ((Builtin.Str.partsBetween (wantS w) (Builtin.Str.occurrences (wantS w) "..." 0 (wantS w).length ((wantS w).length + 1)) ("..." : Str).length).length ≤ 4096))) = true := by
    rw [decide_eq_true F.l2, decide_eq_true F.parts]
    decide +kernel
  rw [e, if_pos hc, F.split]
theorem wsOf_len (w : List Nat) : (wsOf w).length = (if w.isEmpty then 1 else w.length) + 2 := by
  unfold wsOf
  cases w <;> simp
theorem wsOf_last (w : List Nat) : (wsOf w)[(wsOf w).length - 1]? = some ⟨#[]⟩ := by
  unfold wsOf
  rw [← List.cons_append, List.length_append, List.length_singleton, Nat.add_sub_cancel, List.getElem?_append_right (Nat.le_refl _), Nat.sub_self]
  rfl
theorem el_word (f : Nat) {n : Nat} (hn : n = 4 ∨ n = 5) {p : List Nat} (hp : p ∈ perms n) (w : List Nat) (hw : w.Nodup) (hb : ∀ k ∈ w, k < n) (hl : w.length ≤ n) : mcall theTab theGlob (f + 40) elFn [.str (wantS w), .str (listS p)] = some (.bool (upB p 0 w)) := by
  have F := find_facts hn hp
  have W : WordFacts w := word_facts (seqs_mem 5 5 w (by omega) hw fun x hx => by have := hb x hx; omega) (by omega)
  have hP := perms_lt hn hp
  have hlen := wsOf_len w
  have hle : (if w.isEmpty then 1 else w.length) ≤ 5 ∧ 0 ≤ (if w.isEmpty then 1 else w.length) := by
    split <;> omega
  refine el_run f (wantS w) (listS p) (wsOf w) (upB p 0 w) W.occ (meth_split W) (by omega) (by omega) rfl (wsOf_last w) (by rw [F.len]; omega) ?_
  rw [F.len]
  exact elGo_ws (by omega) F (fun k hk => (hP.2.2.2.1 k hk).1) w hb
end Mine
end
section
open PySem
set_option maxRecDepth 1000000
namespace Mine
noncomputable def laT (s : La) (n : Int) (LS : V) (ch w wa : Option V) : La := { s with size := some (.int n), listings := some LS, chosen := ch, word := w, want := wa, taken := none }
theorem l11_run (f : Nat) (s : La) (n : Int) (LS : List V) : mexec theTab theGlob (f + 20) lawFn.names (laS { s with size := some (.int n), listings := none, chosen := none, word := none, want := none, taken := none }) (some ("listings", LS)) (lw 11) = some (.next (laS (laT s n (.list LS) none none none)) (some ("taken", []))) := by kernel_rfl
noncomputable def l12s0 : Stmt := at_ (bodyOf (lw 12)) 0
noncomputable def l12s1 : Stmt := at_ (bodyOf (lw 12)) 1
noncomputable def l12s2 : Stmt := at_ (bodyOf (lw 12)) 2
noncomputable def l12W : Expr := exprOf l12s0
noncomputable def l12N : Expr := exprOf l12s1
noncomputable def l12X : Expr := arg 0 (exprOf l12s2)
theorem l12_body : bodyOf (lw 12) = [asg "word" l12s0, asg "want" l12s1, appSt "taken" l12s2] := by kernel_rfl
theorem l12_for : lw 12 = .For (.Name "chosen" (tgtPos (lw 12))) (exprOf (lw 12)) (bodyOf (lw 12)) [] (posOf (lw 12)) := by kernel_rfl
noncomputable def lsV (p0 p1 p2 : List Nat) : V := .list [.str (listS p0), .str (listS p1), .str (listS p2)]
noncomputable def bitsOf (n ch : Nat) : List Nat := (List.range n).filter (Nat.testBit ch)
noncomputable def wordL (n : Nat) (p : List Nat) (ch : Nat) : List Nat := (bitsOf n ch).map fun k => p.getD k 0
theorem bit_all : ((List.range 32).all fun ch => (List.range 5).all fun k => (Builtin.bitAnd (Int.fdiv (ch : Int) (2 ^ k)) 1 != 0) == Nat.testBit ch k) = true := by decide +kernel
theorem bit_eq {ch k : Nat} (h : ch < 32) (hk : k < 5) : (Builtin.bitAnd (Int.fdiv (ch : Int) (2 ^ k)) 1 != 0) = Nat.testBit ch k := eq_of_beq (all_range (all_range bit_all h) hk)
noncomputable def l12I (LS : V) (ch k : Int) : Sto := [("listings", some LS), ("chosen", some (.int ch)), ("k", some (.int k))]
theorem l12_test (f : Nat) (LS : V) (ch : Int) : ∀ k : Nat, k < 5 → mtests theTab theGlob (f + 20) (scopeOf l12W).names (l12I LS ch k) none (genOf l12W).ifs = some (Builtin.bitAnd (Int.fdiv ch (2 ^ k)) 1 != 0) := by
  intro k hk
  have e : (genOf l12W).ifs = [(genOf l12W).ifs.getD 0 nil0] := by kernel_rfl
  rw [e]
  refine tests_one ?_
  rcases five hk with rfl | rfl | rfl | rfl | rfl <;> kernel_rfl
theorem l12_elt (f : Nat) (p0 p1 p2 : List Nat) (ch k : Int) : meval theTab theGlob (f + 20) (scopeOf l12W).names (l12I (lsV p0 p1 p2) ch k) none (eltOf l12W) = idxV (.str (listS p0)) (.int k) := by kernel_rfl
theorem idx_listS (p : List Nat) (k : Nat) (h : k < p.length) (h2 : k < 2 ^ 20) : idxV (.str (listS p)) (.int (k : Int)) = some (.str (spotS (p.getD k 0))) := by
  unfold idxV
  have hc : (decide (0 ≤ (k : Int)) && decide ((k : Int) < 2 ^ 20)) = true := by
    simp only [Bool.and_eq_true, decide_eq_true_eq]
    omega
  dsimp only
  rw [if_pos hc]
  unfold listS
  have e : ((p.map sign).toArray)[(k : Int).toNat]? = some (sign (p.getD k 0)) := by
    rw [show ((k : Int)).toNat = k from rfl, List.getElem?_toArray, List.getElem?_map, getD_at (d := 0) h]; rfl
  rw [e]
  rfl
theorem l12_src4 (f : Nat) (s : La) (LS : V) (ch w wa : Option V) (T : List V) : msrc theTab theGlob (f + 20) lawFn.names (laS (laT s 4 LS ch w wa)) (some ("taken", T)) (genOf l12W).iter = some (natL 4) := by kernel_rfl
theorem l12_src5 (f : Nat) (s : La) (LS : V) (ch w wa : Option V) (T : List V) : msrc theTab theGlob (f + 20) lawFn.names (laS (laT s 5 LS ch w wa)) (some ("taken", T)) (genOf l12W).iter = some (natL 5) := by kernel_rfl
theorem l12_word (f : Nat) (s : La) (n : Nat) (hn : n = 4 ∨ n = 5) (p0 p1 p2 : List Nat) (hp : p0.length = n) (ch : Nat) (hch : ch < 32) (w wa : Option V) (T : List V) :
    meval theTab theGlob (f + 24) lawFn.names (laS (laT s n (lsV p0 p1 p2) (some (.int (ch : Int))) w wa)) (some ("taken", T)) l12W = some (.list ((wordL n p0 ch).map fun k => .str (spotS k))) := by
  refine ev_comp (E := l12W) (xs := natL n) (by kernel_rfl) (by kernel_rfl) ?_ ?_
  · rcases hn with rfl | rfl
    · exact l12_src4 (f + 3) s _ _ w wa T
    · exact l12_src5 (f + 3) s _ _ w wa T
  · unfold natL
    rw [compM_opt (b := fun k : Nat => Nat.testBit ch k) (h := fun k => some (.str (spotS (p0.getD k 0)))) (fun (i : Nat) => .int (i : Int)) (List.range n) fun k hk => ?_, optMap_some]
    · unfold wordL bitsOf
      rw [List.map_map]; rfl
    · have hk := List.mem_range.mp hk
      have ht := (l12_test (f + 3) (lsV p0 p1 p2) ch k (by omega)).trans (congrArg some (bit_eq hch (show k < 5 by omega)))
      refine compF_if (σ' := l12I (lsV p0 p1 p2) ch k) (by kernel_rfl) ht (fun e => ?_) (fun e => by rw [e]; rfl)
      have e2 : meval theTab theGlob (f + 23) (scopeOf l12W).names (l12I (lsV p0 p1 p2) ch k) (innerOwn (scopeOf l12W) (some ("taken", T))) (eltOf l12W) = some (.str (spotS (p0.getD k 0))) :=
        (l12_elt (f + 3) p0 p1 p2 ch k).trans (idx_listS p0 k (by omega) (by omega))
      rw [e2, e]
      rfl
theorem mkS_of {s : Str} (h : s.length ≤ 4096) : mkS s = some (.str s) := by
  unfold mkS; rw [if_pos h]
theorem l12_want (f : Nat) (s : La) (n : Int) (LS : V) (ch wa : Option V) (T : List V) (w : List Nat) (W : WordFacts w) :
    meval theTab theGlob (f + 25) lawFn.names (laS (laT s n LS ch (some (.list (w.map fun k => .str (spotS k)))) wa)) (some ("taken", T)) l12N = some (.str (wantS w)) := by
  refine ev_bin' (l := lhs l12N) (op := .Add) (r := rhs l12N) (p := posE l12N) (a := .str ("..." ++ joinS w)) (b := .str "...") (by kernel_rfl) ?_ (by kernel_rfl) (mkS_of W.l2)
  refine ev_bin' (l := lhs (lhs l12N)) (op := .Add) (r := rhs (lhs l12N)) (p := posE (lhs l12N)) (a := .str "...") (b := .str (joinS w)) (by kernel_rfl) (by kernel_rfl) ?_ (mkS_of W.l1)
  have he : rhs (lhs l12N) = .Call (.Attribute (mObj (rhs (lhs l12N))) "join" (mPos (rhs (lhs l12N)))) [arg 0 (rhs (lhs l12N))] [] (posC (rhs (lhs l12N))) := by kernel_rfl
  have hj := methJoin "..." (w.map spotS) W.join
  rw [List.map_map] at hj
  exact ev_meth (x := .str "...") (ds := [.list (w.map fun k => .str (spotS k))]) he (by kernel_rfl) (by kernel_rfl) (each_cons (by kernel_rfl) each_nil) hj
end Mine
end
section
open PySem
set_option maxRecDepth 1000000
namespace Mine
theorem compM3 {f : V → Option (Option V)} {x0 x1 x2 y0 y1 y2 : V} (h0 : f x0 = some (some y0)) (h1 : f x1 = some (some y1)) (h2 : f x2 = some (some y2)) : compM f [x0, x1, x2] = some [y0, y1, y2] := by
  rw [compM, h0]
  simp only
  rw [compM, h1]
  simp only
  rw [compM, h2]
  simp only
  rw [compM]
  rfl
theorem word_len (n : Nat) (p : List Nat) (ch : Nat) : (wordL n p ch).length ≤ n := by
  unfold wordL bitsOf
  rw [List.length_map]
  have := List.length_filter_le (Nat.testBit ch) (List.range n)
  rw [List.length_range] at this
  exact this
theorem word_lt {n : Nat} (hn : n = 4 ∨ n = 5) {p : List Nat} (hp : p ∈ perms n) (ch : Nat) : ∀ k ∈ wordL n p ch, k < n := by
  intro k hk
  obtain ⟨i, hi, rfl⟩ := List.mem_map.mp hk
  exact ((perms_lt hn hp).2.2.2.2 i (List.mem_range.mp (List.mem_filter.mp hi).1)).1
theorem word_nodup {n : Nat} (hn : n = 4 ∨ n = 5) {p : List Nat} (hp : p ∈ perms n) (ch : Nat) : (wordL n p ch).Nodup := by
  unfold wordL
  refine List.pairwise_map.mpr ?_
  have h : (bitsOf n ch).Nodup := List.Pairwise.filter _ List.nodup_range
  refine List.Pairwise.imp_of_mem (fun {a b} ha hb hab he => hab ?_) h
  have e1 := ((perms_lt hn hp).2.2.2.2 a (List.mem_range.mp (List.mem_filter.mp ha).1)).2
  have e2 := ((perms_lt hn hp).2.2.2.2 b (List.mem_range.mp (List.mem_filter.mp hb).1)).2
  rw [← e1, ← e2, he]
theorem l12_f (f : Nat) {n : Nat} (hn : n = 4 ∨ n = 5) {p : List Nat} (hp : p ∈ perms n) (w : List Nat) (hw : w.Nodup) (hb : ∀ k ∈ w, k < n) (hl : w.length ≤ n) (σ : Sto) (hσ : inner (scopeOf l12X) σ = ([("want", some (.str (wantS w)))] : Sto)) (T : List V) :
    compF theTab theGlob (f + 44) (scopeOf l12X) σ (some ("taken", T)) (genOf l12X).target (genOf l12X).ifs (eltOf l12X) (.str (listS p)) = some (some (.bool (upB p 0 w))) := by
  have hc : eltOf l12X = .Call (.Name "_ellipsis_match" (fnPos (eltOf l12X))) [arg 0 (eltOf l12X), arg 1 (eltOf l12X)] [] (posC (eltOf l12X)) := by kernel_rfl
  refine compF_of (σ' := [("want", some (.str (wantS w))), ("listing", some (.str (listS p)))]) (by rw [hσ]; kernel_rfl) (by kernel_rfl) ?_
  exact ev_call hc (by kernel_rfl) el_tab (ds := [.str (wantS w), .str (listS p)]) (each_cons (by kernel_rfl) (each_cons (by kernel_rfl) each_nil)) (el_word (f + 3) hn hp w hw hb hl)
noncomputable def rowB (n : Nat) (p0 p1 p2 : List Nat) (ch : Nat) : List Bool := [upB p0 0 (wordL n p0 ch), upB p1 0 (wordL n p0 ch), upB p2 0 (wordL n p0 ch)]
noncomputable def rowV (n : Nat) (p0 p1 p2 : List Nat) (ch : Nat) : V := .list ((rowB n p0 p1 p2 ch).map .bool)
theorem l12_row (f : Nat) (s : La) {n : Nat} (hn : n = 4 ∨ n = 5) {p0 p1 p2 : List Nat} (h0 : p0 ∈ perms n) (h1 : p1 ∈ perms n) (h2 : p2 ∈ perms n) (ch : Nat) (c w : Option V) (T : List V) :
    meval theTab theGlob (f + 45) lawFn.names (laS (laT s n (lsV p0 p1 p2) c w (some (.str (wantS (wordL n p0 ch)))))) (some ("taken", T)) l12X = some (rowV n p0 p1 p2 ch) := by
  have hs : msrc theTab theGlob (f + 44) lawFn.names (laS (laT s n (lsV p0 p1 p2) c w (some (.str (wantS (wordL n p0 ch)))))) (some ("taken", T)) (genOf l12X).iter = some [.str (listS p0), .str (listS p1), .str (listS p2)] := by kernel_rfl
  refine ev_comp (E := l12X) (xs := [.str (listS p0), .str (listS p1), .str (listS p2)]) (by kernel_rfl) (by kernel_rfl) hs ?_
  have hσ : inner (scopeOf l12X) (laS (laT s n (lsV p0 p1 p2) c w (some (.str (wantS (wordL n p0 ch)))))) = ([("want", some (.str (wantS (wordL n p0 ch))))] : Sto) := by kernel_rfl
  have a := word_nodup hn h0 ch
  have b := word_lt hn h0 ch
  have d := word_len n p0 ch
  exact compM3 (l12_f f hn h0 _ a b d _ hσ T) (l12_f f hn h1 _ a b d _ hσ T) (l12_f f hn h2 _ a b d _ hσ T)
theorem l12_app (f : Nat) (σ : Sto) (T : List V) (d : V) (hl : T.length ≤ 4096) (h : meval theTab theGlob (f + 46) lawFn.names σ (some ("taken", T)) l12X = some d) : mexec theTab theGlob (f + 47) lawFn.names σ (some (("taken" : Str), T)) (appSt "taken" l12s2) = some (.next σ (some (("taken" : Str), T ++ [d]))) :=
  ex_append (e := l12X) rfl (by kernel_rfl) h hl
theorem l12_step (f : Nat) (s : La) {n : Nat} (hn : n = 4 ∨ n = 5) {p0 p1 p2 : List Nat} (h0 : p0 ∈ perms n) (h1 : p1 ∈ perms n) (h2 : p2 ∈ perms n) (ch : Nat) (hch : ch < 32) (c w wa : Option V) (T : List V) (hl : T.length ≤ 4096) :
    forStep theTab theGlob (f + 50) lawFn.names "chosen" (tgtPos (lw 12)) (bodyOf (lw 12)) (laS (laT s n (lsV p0 p1 p2) c w wa)) (some ("taken", T)) (.int (ch : Int)) =
      some (.next (laS (laT s n (lsV p0 p1 p2) (some (.int (ch : Int))) (some (.list ((wordL n p0 ch).map fun k => .str (spotS k)))) (some (.str (wantS (wordL n p0 ch)))))) (some ("taken", T ++ [rowV n p0 p1 p2 ch]))) := by
  have hP := perms_lt hn h0
  have hW : WordFacts (wordL n p0 ch) := word_facts (seqs_mem 5 5 _ (by have := word_len n p0 ch; omega) (word_nodup hn h0 ch) fun x hx => by have := word_lt hn h0 ch x hx; omega) (by have := word_len n p0 ch; omega)
  have v0 := l12_word (f + 24) s n hn p0 p1 p2 hP.1 ch hch w wa T
  have v1 := l12_want (f + 22) s n (lsV p0 p1 p2) (some (.int (ch : Int))) wa T _ hW
  have v2 := l12_row (f + 1) s hn h0 h1 h2 ch (some (.int (ch : Int))) (some (.list ((wordL n p0 ch).map fun k => .str (spotS k)))) T
  generalize hR : rowV n p0 p1 p2 ch = R at *
  generalize hw : wordL n p0 ch = W at *
  have hb : bindT lawFn.names (laS (laT s n (lsV p0 p1 p2) c w wa)) (.Name "chosen" (tgtPos (lw 12))) (.int (ch : Int)) = some (laS (laT s n (lsV p0 p1 p2) (some (.int (ch : Int))) w wa)) := by kernel_rfl
  have hdr : dropOwn "chosen" (some (("taken" : Str), T)) = some (("taken" : Str), T) := by kernel_rfl
  refine for_step hb hdr ?_
  rw [l12_body]
  have hf0 : frozenFor (exprOf l12s0) (laS (laT s n (lsV p0 p1 p2) (some (.int (ch : Int))) w wa)) (some (("taken" : Str), T)) = (laS (laT s n (lsV p0 p1 p2) (some (.int (ch : Int))) w wa), some (("taken" : Str), T)) := by kernel_rfl
  have ea : mexec theTab theGlob (f + 49) lawFn.names (laS (laT s n (lsV p0 p1 p2) (some (.int (ch : Int))) w wa)) (some (("taken" : Str), T)) (asg "word" l12s0) = some (.next (laS (laT s n (lsV p0 p1 p2) (some (.int (ch : Int))) (some (.list (W.map fun k => .str (spotS k)))) wa)) (some (("taken" : Str), T))) :=
    (ex_assign (s := asg "word" l12s0) (e := exprOf l12s0) (d := .list (W.map fun k => .str (spotS k))) rfl (nolist_of (by kernel_rfl)) (by kernel_rfl) (by rw [hf0]; exact v0)).trans (by rw [hf0]; kernel_rfl)
  refine (exs_next ea).trans ?_
  have hf1 : frozenFor (exprOf l12s1) (laS (laT s n (lsV p0 p1 p2) (some (.int (ch : Int))) (some (.list (W.map fun k => .str (spotS k)))) wa)) (some (("taken" : Str), T)) = (laS (laT s n (lsV p0 p1 p2) (some (.int (ch : Int))) (some (.list (W.map fun k => .str (spotS k)))) wa), some (("taken" : Str), T)) := by kernel_rfl
  have eb : mexec theTab theGlob (f + 48) lawFn.names (laS (laT s n (lsV p0 p1 p2) (some (.int (ch : Int))) (some (.list (W.map fun k => .str (spotS k)))) wa)) (some (("taken" : Str), T)) (asg "want" l12s1) = some (.next (laS (laT s n (lsV p0 p1 p2) (some (.int (ch : Int))) (some (.list (W.map fun k => .str (spotS k)))) (some (.str (wantS W))))) (some (("taken" : Str), T))) :=
    (ex_assign (s := asg "want" l12s1) (e := exprOf l12s1) (d := .str (wantS W)) rfl (nolist_of (by kernel_rfl)) (by kernel_rfl) (by rw [hf1]; exact v1)).trans (by rw [hf1]; kernel_rfl)
  refine (exs_next eb).trans ?_
  exact (exs_next (l12_app f _ T R hl v2)).trans exs_nil
end Mine
end
section
open PySem
set_option maxRecDepth 1000000
namespace Mine
noncomputable def takenV (n : Nat) (p0 p1 p2 : List Nat) (i : Nat) : List V := (List.range i).map (rowV n p0 p1 p2)
theorem takenV_succ (n : Nat) (p0 p1 p2 : List Nat) (i : Nat) : takenV n p0 p1 p2 (i + 1) = takenV n p0 p1 p2 i ++ [rowV n p0 p1 p2 i] := by
  unfold takenV
  rw [List.range_succ, List.map_append]; rfl
noncomputable def l12St (s : La) (n : Nat) (p0 p1 p2 : List Nat) : Nat → Sto × Own
  | 0 => (laS (laT s n (lsV p0 p1 p2) none none none), some ("taken", []))
  | i + 1 => (laS (laT s n (lsV p0 p1 p2) (some (.int (i : Int))) (some (.list ((wordL n p0 i).map fun k => .str (spotS k)))) (some (.str (wantS (wordL n p0 i))))), some ("taken", takenV n p0 p1 p2 (i + 1)))
theorem l12_turn (f : Nat) (s : La) {n : Nat} (hn : n = 4 ∨ n = 5) {p0 p1 p2 : List Nat} (h0 : p0 ∈ perms n) (h1 : p1 ∈ perms n) (h2 : p2 ∈ perms n) (i : Nat) (hi : i < 32) :
    forStep theTab theGlob (f + 50) lawFn.names "chosen" (tgtPos (lw 12)) (bodyOf (lw 12)) (l12St s n p0 p1 p2 i).1 (l12St s n p0 p1 p2 i).2 (.int (i : Nat)) = some (.next (l12St s n p0 p1 p2 (i + 1)).1 (l12St s n p0 p1 p2 (i + 1)).2) := by
  have e2 : (l12St s n p0 p1 p2 (i + 1)) = (laS (laT s n (lsV p0 p1 p2) (some (.int (i : Int))) (some (.list ((wordL n p0 i).map fun k => .str (spotS k)))) (some (.str (wantS (wordL n p0 i))))), some (("taken" : Str), takenV n p0 p1 p2 i ++ [rowV n p0 p1 p2 i])) := by
    rw [← takenV_succ]
    rfl
  rw [e2]
  have hl : (takenV n p0 p1 p2 i).length ≤ 4096 := by unfold takenV; rw [List.length_map, List.length_range]; omega
  cases i with
  | zero => exact l12_step f s hn h0 h1 h2 0 hi none none none [] hl
  | succ i => exact l12_step f s hn h0 h1 h2 (i + 1) hi _ _ _ (takenV n p0 p1 p2 (i + 1)) hl
theorem l12_it4 (f : Nat) (s : La) (LS : V) : msrc theTab theGlob (f + 20) lawFn.names (laS (laT s 4 LS none none none)) (some ("taken", [])) (exprOf (lw 12)) = some (natL 16) := by kernel_rfl
theorem l12_it5 (f : Nat) (s : La) (LS : V) : msrc theTab theGlob (f + 20) lawFn.names (laS (laT s 5 LS none none none)) (some ("taken", [])) (exprOf (lw 12)) = some (natL 32) := by kernel_rfl
theorem l12_run (f : Nat) (s : La) {n : Nat} (hn : n = 4 ∨ n = 5) {p0 p1 p2 : List Nat} (h0 : p0 ∈ perms n) (h1 : p1 ∈ perms n) (h2 : p2 ∈ perms n) :
    ∃ c w wa, mexec theTab theGlob (f + 51) lawFn.names (laS (laT s n (lsV p0 p1 p2) none none none)) (some ("taken", [])) (lw 12) = some (.next (laS (laT s n (lsV p0 p1 p2) c w wa)) (some ("taken", takenV n p0 p1 p2 (2 ^ n)))) := by
  have fz : frozenFor (exprOf (lw 12)) (laS (laT s n (lsV p0 p1 p2) none none none)) (some (("taken" : Str), [])) = (laS (laT s n (lsV p0 p1 p2) none none none), some (("taken" : Str), [])) := by kernel_rfl
  have hp : 2 ^ n ≤ 32 := by rcases hn with rfl | rfl <;> decide
  have loop := loopM_nat (step := forStep theTab theGlob (f + 50) lawFn.names "chosen" (tgtPos (lw 12)) (bodyOf (lw 12))) (l12St s n p0 p1 p2) (2 ^ n) fun i hi => l12_turn f s hn h0 h1 h2 i (by omega)
  have src : msrc theTab theGlob (f + 50) lawFn.names (laS (laT s n (lsV p0 p1 p2) none none none)) (some (("taken" : Str), [])) (exprOf (lw 12)) = some (natL (2 ^ n)) := by
    rcases hn with rfl | rfl
    · exact l12_it4 (f + 30) s _
    · exact l12_it5 (f + 30) s _
  obtain ⟨m, hm⟩ : ∃ m, 2 ^ n = m + 1 := ⟨2 ^ n - 1, by rcases hn with rfl | rfl <;> rfl⟩
  have run : mexec theTab theGlob (f + 51) lawFn.names (laS (laT s n (lsV p0 p1 p2) none none none)) (some (("taken" : Str), [])) (lw 12) = some (.next (l12St s n p0 p1 p2 (2 ^ n)).1 (l12St s n p0 p1 p2 (2 ^ n)).2) :=
    ex_for l12_for (xs := natL (2 ^ n)) (by rw [fz]; exact src) (by rw [fz]; exact loop)
  rw [hm] at run ⊢
  exact ⟨_, _, _, run⟩
end Mine
end
section
open PySem
set_option maxRecDepth 1000000
namespace Mine
theorem compM_mapf {α : Type} {f : V → Option (Option V)} (inj : α → V) (g : α → V) : ∀ (xs : List α), (∀ x ∈ xs, f (inj x) = some (some (g x))) → compM f (xs.map inj) = some (xs.map g)
  | [], _ => rfl
  | x :: r, h => by
    rw [List.map_cons, compM, h x List.mem_cons_self]
    simp only
    rw [compM_mapf inj g r fun y hy => h y (List.mem_cons_of_mem _ hy)]
    rfl
theorem compM_drop {f : V → Option (Option V)} : ∀ (xs : List V), (∀ x ∈ xs, f x = some none) → compM f xs = some []
  | [], _ => rfl
  | x :: r, h => by
    rw [compM, h x List.mem_cons_self]
    simp only
    exact compM_drop r fun y hy => h y (List.mem_cons_of_mem _ hy)
theorem eqV_bools (k : Nat) (bs : List Bool) : eqV (k + 2) (.list (bs.map .bool)) (.list (bs.map .bool)) = some true := by
  rw [eqV_list _ _ _ rfl]
  refine allO_true V.bool V.bool bs fun b _ => ?_
  show some (b == b) = some true
  rw [beq_self_eq_true]
theorem eqV_ints (k : Nat) (bs : List Int) : eqV (k + 2) (.list (bs.map .int)) (.list (bs.map .int)) = some true := by
  rw [eqV_list _ _ _ rfl]
  refine allO_true V.int V.int bs fun b _ => ?_
  show some (b == b) = some true
  rw [beq_self_eq_true]
noncomputable def laU (s : La) (n : Int) (LS L O : V) (tk c an : Option V) : La := { s with size := some (.int n), listings := some LS, lights := some L, order := some O, taken := tk, c := c, answers := an }
noncomputable def l13s0 : Stmt := at_ (bodyOf (lw 13)) 0
noncomputable def l13s1 : Stmt := at_ (bodyOf (lw 13)) 1
noncomputable def l13s2 : Stmt := at_ (bodyOf (lw 13)) 2
noncomputable def l13A : Expr := exprOf l13s0
theorem l13_body : bodyOf (lw 13) = [asg "answers" l13s0, l13s1, l13s2] := by kernel_rfl
theorem l13_for : lw 13 = .For (.Name "c" (tgtPos (lw 13))) (exprOf (lw 13)) (bodyOf (lw 13)) [] (posOf (lw 13)) := by kernel_rfl
noncomputable def ansL (n : Nat) (p0 p1 p2 : List Nat) (c : Nat) : List Bool := (List.range (2 ^ n)).map fun ch => (rowB n p0 p1 p2 ch).getD c false
theorem l13_elt (f : Nat) (c : Int) (R : V) : meval theTab theGlob (f + 20) (scopeOf l13A).names [("c", some (.int c)), ("row", some R)] none (eltOf l13A) = idxV R (.int c) := by kernel_rfl
theorem l13_ans (f : Nat) (s : La) (n : Nat) (hn : n = 4 ∨ n = 5) (LS L O : V) (p0 p1 p2 : List Nat) (c : Nat) (hc : c < 3) (an : Option V) :
    meval theTab theGlob (f + 24) lawFn.names (laS (laU s n LS L O (some (.list (takenV n p0 p1 p2 (2 ^ n)))) (some (.int (c : Int))) an)) none l13A = some (.list ((ansL n p0 p1 p2 c).map .bool)) := by
  have hp : 2 ^ n ≤ 32 := by rcases hn with rfl | rfl <;> decide
  refine ev_comp (E := l13A) (xs := takenV n p0 p1 p2 (2 ^ n)) (by kernel_rfl) (by kernel_rfl) ?_ ?_
  · have e1 : msrc theTab theGlob (f + 23) lawFn.names (laS (laU s n LS L O (some (.list (takenV n p0 p1 p2 (2 ^ n)))) (some (.int (c : Int))) an)) none (genOf l13A).iter = itemsV (.list (takenV n p0 p1 p2 (2 ^ n))) := by kernel_rfl
    exact e1.trans (items_list (by unfold takenV; rw [List.length_map, List.length_range]; omega))
  · unfold takenV
    rw [compM_mapf (rowV n p0 p1 p2) (fun ch => .bool ((rowB n p0 p1 p2 ch).getD c false)) (List.range (2 ^ n)) fun ch _ => ?_]
    · unfold ansL
      rw [List.map_map]; rfl
    · refine compF_of (σ' := [("c", some (.int (c : Int))), ("row", some (rowV n p0 p1 p2 ch))]) (by kernel_rfl) (by kernel_rfl) ?_
      refine (l13_elt (f + 3) c _).trans ?_
      unfold rowV
      rw [idx_nat _ _ (by omega), List.getElem?_map, getD_at (d := false) (show c < (rowB n p0 p1 p2 ch).length from hc)]
      rfl
-- the first test
noncomputable def l13T : Expr := exprOf l13s1
noncomputable def l13R : Expr := rhs l13T
noncomputable def l13Q : Expr := arg 0 l13R
theorem l13_1 : l13s1 = .If l13T (bodyOf l13s1) [] (posOf l13s1) := by kernel_rfl
theorem l13_t : l13T = .Compare (lhs l13T) [.NotEq] [l13R] (posC l13T) := by kernel_rfl
theorem natsV_ints (p : List Nat) : natsV p = .list ((p.map fun (k : Nat) => (k : Int)).map .int) := by
  unfold natsV
  rw [List.map_map]; rfl
noncomputable def ordI (p : List Nat) : List Int := p.map fun (k : Nat) => (k : Int)
theorem l13_sets (f : Nat) (s : La) (n : Nat) (hn : n = 4 ∨ n = 5) (LS : V) (ls : List (List Int)) (p : List Nat) (hp : p.length = n) (tk : Option V) (c : Nat) (R : RiOk ls (ordI p) c) (an : Option V) :
    meval theTab theGlob (f + 44) lawFn.names (laS (laU s n LS (listsV ls) (natsV p) tk (some (.int (c : Int))) an)) none l13R = some (.list ((marksAt (risesRef ls (ordI p) c n) n).map .bool)) := by
  have h1 : l13R = .Call (.Name "_law_sets" (fnPos l13R)) [l13Q] [] (posC l13R) := by kernel_rfl
  have h2 : l13Q = .Call (.Name "_law_rises" (fnPos l13Q)) [arg 0 l13Q, arg 1 l13Q, arg 2 l13Q] [] (posC l13Q) := by kernel_rfl
  have hol : (ordI p).length = n := by unfold ordI; rw [List.length_map, hp]
  have e2 := sets_run (f + 3) (risesRef ls (ordI p) c n) (by rw [risesRef_len]; exact hn)
  rw [risesRef_len] at e2
  refine ev_call h1 (by kernel_rfl) sets_tab (ds := [.list ((risesRef ls (ordI p) c n).map .int)]) (each_cons ?_ each_nil) e2
  have e1 := rises_run (f + 9) R (by rw [hol]; exact hn)
  rw [hol] at e1
  refine ev_call h2 (by kernel_rfl) rises_tab (ds := [listsV ls, .list ((ordI p).map .int), .int (c : Int)]) ?_ e1
  rw [natsV_ints]
  exact each_cons (by kernel_rfl) (each_cons (by kernel_rfl) (each_cons (by kernel_rfl) each_nil))
-- the second test
noncomputable def l13S : Expr := exprOf l13s2
noncomputable def l13B : Expr := lhs l13S
theorem l13_2 : l13s2 = .If l13S (bodyOf l13s2) [] (posOf l13s2) := by kernel_rfl
theorem l13_t2 : l13S = .Compare l13B [.NotEq] [rhs l13S] (posC l13S) := by kernel_rfl
theorem l13_none (f : Nat) (s : La) (n : Int) (LS L O : V) (tk c : Option V) (bs : List Bool) (hl : bs.length ≤ 4096) :
    meval theTab theGlob (f + 24) lawFn.names (laS (laU s n LS L O tk c (some (.list (bs.map .bool))))) none l13B = some (.list []) := by
  refine ev_comp (E := l13B) (xs := bs.map .bool) (by kernel_rfl) (by kernel_rfl) ?_ ?_
  · have e1 : msrc theTab theGlob (f + 23) lawFn.names (laS (laU s n LS L O tk c (some (.list (bs.map .bool))))) none (genOf l13B).iter = itemsV (.list (bs.map .bool)) := by kernel_rfl
    exact e1.trans (items_list (by rw [List.length_map]; exact hl))
  · refine compM_drop _ fun x hx => ?_
    obtain ⟨b, _, rfl⟩ := List.mem_map.mp hx
    exact compF_no (σ' := [("answer", some (.bool b))]) (by kernel_rfl) (by kernel_rfl)
end Mine
end
section
open PySem
set_option maxRecDepth 1000000
namespace Mine
theorem l13_core (f : Nat) (s : La) (n : Nat) (hn : n = 4 ∨ n = 5) (LS : V) (ls : List (List Int)) (p0 p1 p2 : List Nat) (hp : p0.length = n) (c : Nat) (R : RiOk ls (ordI p0) c) (hA : ansL n p0 p1 p2 c = marksAt (risesRef ls (ordI p0) c n) n) (an : Option V)
    (σ σ2 : Sto) (ω ω2 : Own) (hb : bindT lawFn.names σ (.Name "c" (tgtPos (lw 13))) (.int (c : Int)) = some σ2) (hd : dropOwn "c" ω = ω2) (hf : frozenFor (exprOf l13s0) σ2 ω2 = (laS (laU s n LS (listsV ls) (natsV p0) (some (.list (takenV n p0 p1 p2 (2 ^ n)))) (some (.int (c : Int))) an), none)) :
    forStep theTab theGlob (f + 50) lawFn.names "c" (tgtPos (lw 13)) (bodyOf (lw 13)) σ ω (.int (c : Int)) = some (.next (laS (laU s n LS (listsV ls) (natsV p0) (some (.list (takenV n p0 p1 p2 (2 ^ n)))) (some (.int (c : Int))) (some (.list ((ansL n p0 p1 p2 c).map .bool))))) none) := by
  have h2 : 2 ^ n ≤ 32 := by rcases hn with rfl | rfl <;> decide
  have v0 := l13_ans (f + 24) s n hn LS (listsV ls) (natsV p0) p0 p1 p2 c R.c3 an
  have v1 := l13_sets (f + 2) s n hn LS ls p0 hp (some (.list (takenV n p0 p1 p2 (2 ^ n)))) c R (some (.list ((ansL n p0 p1 p2 c).map .bool)))
  have v2 := l13_none (f + 21) s n LS (listsV ls) (natsV p0) (some (.list (takenV n p0 p1 p2 (2 ^ n)))) (some (.int (c : Int))) (ansL n p0 p1 p2 c) (by unfold ansL; rw [List.length_map, List.length_range]; omega)
  rw [← hA] at v1
  generalize takenV n p0 p1 p2 (2 ^ n) = TV at *
  generalize ansL n p0 p1 p2 c = A at *
  generalize listsV ls = LV at *
  generalize natsV p0 = OV at *
  refine for_step hb hd ?_
  rw [l13_body]
  have ea : mexec theTab theGlob (f + 49) lawFn.names σ2 ω2 (asg "answers" l13s0) = some (.next (laS (laU s n LS LV OV (some (.list TV)) (some (.int (c : Int))) (some (.list (A.map .bool))))) none) :=
    (ex_assign (s := asg "answers" l13s0) (e := exprOf l13s0) (d := .list (A.map .bool)) rfl (nolist_of (by kernel_rfl)) (by kernel_rfl) (by rw [hf]; exact v0)).trans (by rw [hf]; kernel_rfl)
  refine (exs_next ea).trans ?_
  have eb : mexec theTab theGlob (f + 48) lawFn.names (laS (laU s n LS LV OV (some (.list TV)) (some (.int (c : Int))) (some (.list (A.map .bool))))) none l13s1 = some (.next (laS (laU s n LS LV OV (some (.list TV)) (some (.int (c : Int))) (some (.list (A.map .bool))))) none) := by
    have e1 : cmpT .NotEq (.list (A.map .bool)) (.list (A.map .bool)) = some false := by
      have e : cmpT .NotEq (.list (A.map .bool)) (.list (A.map .bool)) = (eqV 8 (.list (A.map .bool)) (.list (A.map .bool))).map (!·) := by kernel_rfl
      rw [e, eqV_bools 6]; rfl
    refine ex_if l13_1 (c := false) (tst_cmp l13_t (a := .list (A.map .bool)) (d := .list (A.map .bool)) (by kernel_rfl) v1 e1) (by kernel_rfl)
  refine (exs_next eb).trans ?_
  have ec : mexec theTab theGlob (f + 47) lawFn.names (laS (laU s n LS LV OV (some (.list TV)) (some (.int (c : Int))) (some (.list (A.map .bool))))) none l13s2 = some (.next (laS (laU s n LS LV OV (some (.list TV)) (some (.int (c : Int))) (some (.list (A.map .bool))))) none) := by
    have e1 : cmpT .NotEq (.list []) (.list []) = some false := by kernel_rfl
    refine ex_if l13_2 (c := false) (tst_cmp l13_t2 (a := .list []) (d := .list []) v2 (by kernel_rfl) e1) (by kernel_rfl)
  exact (exs_next ec).trans exs_nil
theorem l13_run (f : Nat) (s : La) (n : Nat) (hn : n = 4 ∨ n = 5) (LS : V) (ls : List (List Int)) (p0 p1 p2 : List Nat) (hp : p0.length = n) (c0 an0 : Option V) (R : ∀ c, c < 3 → RiOk ls (ordI p0) c) (hA : ∀ c, c < 3 → ansL n p0 p1 p2 c = marksAt (risesRef ls (ordI p0) c n) n) :
    mexec theTab theGlob (f + 51) lawFn.names (laS (laU s n LS (listsV ls) (natsV p0) none c0 an0)) (some ("taken", takenV n p0 p1 p2 (2 ^ n))) (lw 13) = some (.next (laS (laU s n LS (listsV ls) (natsV p0) (some (.list (takenV n p0 p1 p2 (2 ^ n)))) (some (.int ((2 : Nat) : Int))) (some (.list ((ansL n p0 p1 p2 2).map .bool))))) none) := by
  have s0 := l13_core f s n hn LS ls p0 p1 p2 hp 0 (R 0 (by decide)) (hA 0 (by decide)) an0
  have s1 := l13_core f s n hn LS ls p0 p1 p2 hp 1 (R 1 (by decide)) (hA 1 (by decide)) (some (.list ((ansL n p0 p1 p2 0).map .bool)))
  have s2 := l13_core f s n hn LS ls p0 p1 p2 hp 2 (R 2 (by decide)) (hA 2 (by decide)) (some (.list ((ansL n p0 p1 p2 1).map .bool)))
  generalize takenV n p0 p1 p2 (2 ^ n) = TV at *
  generalize ansL n p0 p1 p2 0 = A0 at *
  generalize ansL n p0 p1 p2 1 = A1 at *
  generalize ansL n p0 p1 p2 2 = A2 at *
  generalize listsV ls = LV at *
  generalize natsV p0 = OV at *
  have fz : frozenFor (exprOf (lw 13)) (laS (laU s n LS LV OV none c0 an0)) (some (("taken" : Str), TV)) = (laS (laU s n LS LV OV none c0 an0), some (("taken" : Str), TV)) := by kernel_rfl
  have src : msrc theTab theGlob (f + 50) lawFn.names (laS (laU s n LS LV OV none c0 an0)) (some (("taken" : Str), TV)) (exprOf (lw 13)) = some [.int ((0 : Nat) : Int), .int ((1 : Nat) : Int), .int ((2 : Nat) : Int)] := by kernel_rfl
  refine ex_for l13_for (xs := [.int ((0 : Nat) : Int), .int ((1 : Nat) : Int), .int ((2 : Nat) : Int)]) (by rw [fz]; exact src) ?_
  rw [fz]
  refine loop3 (s0 _ (laS (laU s n LS LV OV none (some (.int ((0 : Nat) : Int))) an0)) _ (some (("taken" : Str), TV)) (by kernel_rfl) (by kernel_rfl) (by kernel_rfl)) (s1 _ (laS (laU s n LS LV OV (some (.list TV)) (some (.int ((1 : Nat) : Int))) (some (.list (A0.map .bool))))) _ none (by kernel_rfl) (by kernel_rfl) (by kernel_rfl)) (s2 _ (laS (laU s n LS LV OV (some (.list TV)) (some (.int ((2 : Nat) : Int))) (some (.list (A1.map .bool))))) _ none (by kernel_rfl) (by kernel_rfl) (by kernel_rfl))
end Mine
end
section
open PySem
set_option maxRecDepth 1000000
namespace Mine
noncomputable def indOk (n : Nat) (p : List Nat) : Bool := (List.range n).all fun c => placeOf (sign c) (p.map sign) 0 == some (p.idxOf c)
theorem ind4 : ((perms 4).all (indOk 4)) = true := by decide +kernel
theorem ind5 : ((perms 5).all (indOk 5)) = true := by decide +kernel
theorem index_at {n : Nat} (hn : n = 4 ∨ n = 5) {p : List Nat} (hp : p ∈ perms n) {k : Nat} (hk : k < n) : indexV [.str (listS p), .chr (sign k)] = some (.int (p.idxOf k : Nat)) := by
  have key : indOk n p = true := by
    rcases hn with rfl | rfl
    · exact List.all_eq_true.mp ind4 p hp
    · exact List.all_eq_true.mp ind5 p hp
  have e := eq_of_beq (all_range key hk)
  have hl : (listS p).length ≤ 4096 := by
    have := (perms_lt hn hp).1
    show (p.map sign).toArray.size ≤ 4096
    rw [List.size_toArray, List.length_map]
    omega
  unfold indexV
  simp only
  rw [if_pos hl]
  have ee : (listS p).cps.toList = p.map sign := by
    show (p.map sign).toArray.toList = _
    rw [List.toList_toArray]
  rw [ee, e]
  rfl
theorem ev_index {tab : Tab} {glob : Str → Option V} {n : Nat} {N : Names} {σ : Sto} {ω : Own} {e : Expr} {fp p : Pos} {as : List Expr} {ds : List V} {r : Option V} (he : e = .Call (.Name "indexOf" fp) as [] p) (hg : isGlob N "indexOf" = true) (ht : tab "indexOf" = none) (ha : meach tab glob n N σ ω as = some ds) (h : indexV ds = r) : meval tab glob (n + 1) N σ ω e = r := by
  subst he
  rw [mv_Call, if_pos hg, ht]
  show (if (("indexOf" : Str) == "indexOf") = true then _ else _) = _
  rw [if_pos (by rfl), ha]
  exact h
noncomputable def laV (s : La) (LS : V) (pl : Option V) : La := { s with listings := some LS, places := pl }
noncomputable def l14E : Expr := exprOf (lw 14)
noncomputable def l14I : Expr := eltOf l14E
noncomputable def posV (p0 p : List Nat) : V := .list (p0.map fun k => .int ((p.idxOf k : Nat) : Int))
theorem l14_in (f : Nat) {n : Nat} (hn : n = 4 ∨ n = 5) {p0 p1 p2 p : List Nat} (h0 : p0 ∈ perms n) (hp : p ∈ perms n) :
    meval theTab theGlob (f + 26) (scopeOf l14E).names [("listings", some (lsV p0 p1 p2)), ("listing", some (.str (listS p)))] none l14I = some (posV p0 p) := by
  have hP := perms_lt hn h0
  refine ev_comp (E := l14I) (xs := p0.map fun k => .chr (sign k)) (by kernel_rfl) (by kernel_rfl) ?_ ?_
  · have e1 : msrc theTab theGlob (f + 25) (scopeOf l14E).names [("listings", some (lsV p0 p1 p2)), ("listing", some (.str (listS p)))] none (genOf l14I).iter = if (listS p0).length ≤ 4096 then some (chars (listS p0)) else none := by kernel_rfl
    have hl : (listS p0).length ≤ 4096 := by
      show (p0.map sign).toArray.size ≤ 4096
      rw [List.size_toArray, List.length_map]
      omega
    rw [e1, if_pos hl]
    unfold chars listS
    rw [List.toList_toArray, List.map_map]; rfl
  · refine compM_mapf (fun k => .chr (sign k)) (fun k => .int ((p.idxOf k : Nat) : Int)) p0 fun k hk => ?_
    have hk := hP.2.1 k hk
    refine compF_of (σ' := [("listing", some (.str (listS p))), ("name", some (.chr (sign k)))]) (by kernel_rfl) (by kernel_rfl) ?_
    have he : eltOf l14I = .Call (.Name "indexOf" (fnPos (eltOf l14I))) [arg 0 (eltOf l14I), arg 1 (eltOf l14I)] [] (posC (eltOf l14I)) := by kernel_rfl
    exact ev_index he (by kernel_rfl) (by kernel_rfl) (ds := [.str (listS p), .chr (sign k)]) (each_cons (by kernel_rfl) (each_cons (by kernel_rfl) each_nil)) (index_at hn hp hk)
theorem l14_f (f : Nat) (s : La) {n : Nat} (hn : n = 4 ∨ n = 5) {p0 p1 p2 p : List Nat} (h0 : p0 ∈ perms n) (hp : p ∈ perms n) :
    compF theTab theGlob (f + 26) (scopeOf l14E) (laS (laV s (lsV p0 p1 p2) none)) none (genOf l14E).target (genOf l14E).ifs (eltOf l14E) (.str (listS p)) = some (some (posV p0 p)) :=
  compF_of (σ' := [("listings", some (lsV p0 p1 p2)), ("listing", some (.str (listS p)))]) (by kernel_rfl) (by kernel_rfl) (l14_in f hn h0 hp)
noncomputable def placesV (p0 p1 p2 : List Nat) : V := .list [posV p0 p0, posV p0 p1, posV p0 p2]
theorem l14_run (f : Nat) (s : La) {n : Nat} (hn : n = 4 ∨ n = 5) {p0 p1 p2 : List Nat} (h0 : p0 ∈ perms n) (h1 : p1 ∈ perms n) (h2 : p2 ∈ perms n) :
    mexec theTab theGlob (f + 30) lawFn.names (laS (laV s (lsV p0 p1 p2) none)) none (asg "places" (lw 14)) = some (.next (laS (laV s (lsV p0 p1 p2) (some (placesV p0 p1 p2)))) none) := by
  have v : meval theTab theGlob (f + 29) lawFn.names (laS (laV s (lsV p0 p1 p2) none)) none l14E = some (placesV p0 p1 p2) := by
    have hs : msrc theTab theGlob (f + 28) lawFn.names (laS (laV s (lsV p0 p1 p2) none)) none (genOf l14E).iter = some [.str (listS p0), .str (listS p1), .str (listS p2)] := by kernel_rfl
    exact ev_comp (E := l14E) (by kernel_rfl) (by kernel_rfl) hs (compM3 (l14_f (f + 2) s hn h0 h0) (l14_f (f + 2) s hn h0 h1) (l14_f (f + 2) s hn h0 h2))
  generalize placesV p0 p1 p2 = PV at *
  exact (ex_asg (s := asg "places" (lw 14)) (x := "places") (by kernel_rfl) (nolist_of (by kernel_rfl)) (by kernel_rfl) v).trans (by kernel_rfl)
end Mine
end
section
open PySem
set_option maxRecDepth 1000000
namespace Mine
noncomputable def laW (s : La) (n : Int) (PL : V) (k ap : Option V) : La := { s with size := some (.int n), places := some PL, k := k, apart := ap }
theorem l15_run (f : Nat) (s : La) (n : Int) (PL : V) : mexec theTab theGlob (f + 20) lawFn.names (laS (laW s n PL none none)) none (lw 15) = some (.next (laS (laW s n PL none none)) (some ("apart", []))) := by kernel_rfl
noncomputable def l16s : Stmt := at_ (bodyOf (lw 16)) 0
noncomputable def l16X : Expr := arg 0 (exprOf l16s)
noncomputable def l16C : Expr := arg 0 l16X
noncomputable def l16T : Expr := (genOf l16C).ifs.getD 0 nil0
noncomputable def l16F : Expr := lhs l16T
noncomputable def l16D : Expr := arg 0 l16F
noncomputable def l16L : Expr := eltOf l16D
theorem l16_ifs : (genOf l16C).ifs = [l16T] := by kernel_rfl
theorem l16_t : l16T = .Compare l16F [.Gt] [rhs l16T] (posC l16T) := by kernel_rfl
theorem l16_f : l16F = .Call (.Name "countOf" (fnPos l16F)) [l16D, arg 1 l16F] [] (posC l16F) := by kernel_rfl
theorem l16_l : l16L = .Call (.Name "lt" (fnPos l16L)) [arg 0 l16L, arg 1 l16L] [] (posC l16L) := by kernel_rfl
noncomputable def rowsV (u0 u1 u2 : List Int) : V := .list [.list (u0.map .int), .list (u1.map .int), .list (u2.map .int)]
noncomputable def l16I (PL : V) (k j : Int) : Sto := [("k", some (.int k)), ("places", some PL), ("j", some (.int j))]
noncomputable def ltB (u : List Int) (k j : Nat) : Bool := decide (u.getD k 0 < u.getD j 0)
theorem l16_a (f : Nat) (k j : Int) (R : V) : meval theTab theGlob (f + 20) (scopeOf l16D).names [("k", some (.int k)), ("j", some (.int j)), ("row", some R)] none (arg 0 l16L) = idxV R (.int k) := by kernel_rfl
theorem l16_b (f : Nat) (k j : Int) (R : V) : meval theTab theGlob (f + 20) (scopeOf l16D).names [("k", some (.int k)), ("j", some (.int j)), ("row", some R)] none (arg 1 l16L) = idxV R (.int j) := by kernel_rfl
theorem l16_one (f : Nat) (PL : V) (u : List Int) (k j : Nat) (hk : k < u.length) (hj : j < u.length) (hl : u.length ≤ 5) :
    compF theTab theGlob (f + 24) (scopeOf l16D) (l16I PL k j) none (genOf l16D).target (genOf l16D).ifs (eltOf l16D) (.list (u.map .int)) = some (some (.bool (ltB u k j))) := by
  refine compF_of (σ' := [("k", some (.int (k : Int))), ("j", some (.int (j : Int))), ("row", some (.list (u.map .int)))]) (by kernel_rfl) (by kernel_rfl) ?_
  refine ev_call l16_l (by kernel_rfl) lt_tab (ds := [.int (u.getD k 0), .int (u.getD j 0)]) (each_cons ((l16_a (f + 2) k j _).trans (idx_ints u k hk (by omega))) (each_cons ((l16_b (f + 1) k j _).trans (idx_ints u j hj (by omega))) each_nil)) (lt_run (f + 17) _ _)
noncomputable def ltsB (u0 u1 u2 : List Int) (k j : Nat) : List Bool := [ltB u0 k j, ltB u1 k j, ltB u2 k j]
noncomputable def apB (u0 u1 u2 : List Int) (j k : Nat) : Bool := decide ((((ltsB u0 u1 u2 k j).count true : Nat) : Int) > 0)
theorem l16_test (f : Nat) (n : Nat) (hn : n ≤ 5) (u0 u1 u2 : List Int) (h0 : u0.length = n) (h1 : u1.length = n) (h2 : u2.length = n) (k j : Nat) (hk : k < n) (hj : j < n) :
    mtests theTab theGlob (f + 32) (scopeOf l16C).names (l16I (rowsV u0 u1 u2) k j) none (genOf l16C).ifs = some (apB u0 u1 u2 j k) := by
  rw [l16_ifs]
  refine tests_one (tst_cmp l16_t (a := .int ((ltsB u0 u1 u2 k j).count true : Nat)) (d := .int 0) ?_ (by kernel_rfl) (by kernel_rfl))
  refine ev_call l16_f (by kernel_rfl) count_tab (ds := [.list ((ltsB u0 u1 u2 k j).map .bool), .bool true]) (each_cons ?_ (each_cons (by kernel_rfl) each_nil)) (count_run (f + 17) _ (by show (3 : Nat) ≤ 5; decide))
  have hs : msrc theTab theGlob (f + 27) (scopeOf l16C).names (l16I (rowsV u0 u1 u2) k j) none (genOf l16D).iter = some [.list (u0.map .int), .list (u1.map .int), .list (u2.map .int)] := by kernel_rfl
  exact ev_comp (E := l16D) (by kernel_rfl) (by kernel_rfl) hs (compM3 (l16_one (f + 3) _ u0 k j (by omega) (by omega) (by omega)) (l16_one (f + 3) _ u1 k j (by omega) (by omega) (by omega)) (l16_one (f + 3) _ u2 k j (by omega) (by omega) (by omega)))
noncomputable def apAt (u0 u1 u2 : List Int) (k : Nat) : List Int := ((List.range k).filter fun j => apB u0 u1 u2 j k).map fun j => (2 : Int) ^ j
theorem l16_src (f : Nat) (s : La) (n : Int) (PL : V) (ap : List V) : ∀ k : Nat, k < 5 → msrc theTab theGlob (f + 20) lawFn.names (laS (laW s n PL (some (.int (k : Int))) none)) (some ("apart", ap)) (genOf l16C).iter = some (natL k)
  | 0, _ => by kernel_rfl
  | 1, _ => by kernel_rfl
  | 2, _ => by kernel_rfl
  | 3, _ => by kernel_rfl
  | 4, _ => by kernel_rfl
theorem l16_pow (f : Nat) (PL : V) (k j : Int) : meval theTab theGlob (f + 20) (scopeOf l16C).names (l16I PL k j) none (eltOf l16C) = binV .Pow (.int 2) (.int j) := by kernel_rfl
theorem l16_comp (f : Nat) (s : La) (n : Nat) (hn : n ≤ 5) (u0 u1 u2 : List Int) (h0 : u0.length = n) (h1 : u1.length = n) (h2 : u2.length = n) (k : Nat) (hk : k < n) (ap : List V) :
    meval theTab theGlob (f + 33) lawFn.names (laS (laW s n (rowsV u0 u1 u2) (some (.int (k : Int))) none)) (some ("apart", ap)) l16C = some (.list ((apAt u0 u1 u2 k).map .int)) := by
  refine ev_comp (E := l16C) (xs := natL k) (by kernel_rfl) (by kernel_rfl) (l16_src (f + 12) s n _ ap k (by omega)) ?_
  unfold natL
  rw [compM_opt (b := fun j : Nat => apB u0 u1 u2 j k) (h := fun j => some (.int ((2 : Int) ^ j))) (fun (i : Nat) => .int (i : Int)) (List.range k) fun j hj => ?_, optMap_some]
  · unfold apAt
    rw [List.map_map]; rfl
  · have hj := List.mem_range.mp hj
    have ht := l16_test f n hn u0 u1 u2 h0 h1 h2 k j hk (by omega)
    refine compF_if (σ' := l16I (rowsV u0 u1 u2) k j) (by kernel_rfl) ht (fun e => ?_) (fun e => by rw [e]; rfl)
    have e2 : meval theTab theGlob (f + 32) (scopeOf l16C).names (l16I (rowsV u0 u1 u2) k j) (innerOwn (scopeOf l16C) (some ("apart", ap))) (eltOf l16C) = some (.int ((2 : Int) ^ j)) :=
      (l16_pow (f + 12) _ _ _).trans (pow_run j (by omega))
    rw [e2, e]
    rfl
theorem l16_ev (f : Nat) (s : La) (n : Nat) (hn : n ≤ 5) (u0 u1 u2 : List Int) (h0 : u0.length = n) (h1 : u1.length = n) (h2 : u2.length = n) (k : Nat) (hk : k < n) (ap : List V) :
    meval theTab theGlob (f + 35) lawFn.names (laS (laW s n (rowsV u0 u1 u2) (some (.int (k : Int))) none)) (some ("apart", ap)) l16X = some (.int (apAt u0 u1 u2 k).sum) := by
  have he : l16X = .Call (.Name "sum" (fnPos l16X)) [l16C] [] (posC l16X) := by kernel_rfl
  refine ev_callB he (by kernel_rfl) (by kernel_rfl) (by kernel_rfl) (by kernel_rfl) (each_cons (l16_comp f s n hn u0 u1 u2 h0 h1 h2 k hk ap) each_nil) ?_
  show (if ((apAt u0 u1 u2 k).map V.int).length ≤ 4096 then (intsOf ((apAt u0 u1 u2 k).map .int)).map (fun l => V.int l.sum) else none) = _
  rw [if_pos (by rw [List.length_map, apAt, List.length_map]; have := List.length_filter_le (fun j => apB u0 u1 u2 j k) (List.range k); rw [List.length_range] at this; omega), intsOf_map]
  rfl
end Mine
end
section
open PySem
set_option maxRecDepth 1000000
namespace Mine
noncomputable def apRef (u0 u1 u2 : List Int) : Nat → List Int
  | 0 => []
  | k + 1 => apRef u0 u1 u2 k ++ [(apAt u0 u1 u2 k).sum]
theorem apRef_len (u0 u1 u2 : List Int) : ∀ k, (apRef u0 u1 u2 k).length = k
  | 0 => rfl
  | k + 1 => by rw [apRef, List.length_append, apRef_len u0 u1 u2 k]; rfl
theorem l16_body : bodyOf (lw 16) = [appSt "apart" l16s] := by kernel_rfl
theorem l16_for : lw 16 = .For (.Name "k" (tgtPos (lw 16))) (exprOf (lw 16)) (bodyOf (lw 16)) [] (posOf (lw 16)) := by kernel_rfl
theorem l16_app (f : Nat) (σ : Sto) (T : List V) (d : V) (hl : T.length ≤ 4096) (h : meval theTab theGlob (f + 46) lawFn.names σ (some ("apart", T)) l16X = some d) : mexec theTab theGlob (f + 47) lawFn.names σ (some (("apart" : Str), T)) (appSt "apart" l16s) = some (.next σ (some (("apart" : Str), T ++ [d]))) :=
  ex_append (e := l16X) rfl (by kernel_rfl) h hl
theorem l16_step (f : Nat) (s : La) (n : Nat) (hn : n ≤ 5) (u0 u1 u2 : List Int) (h0 : u0.length = n) (h1 : u1.length = n) (h2 : u2.length = n) (k : Nat) (hk : k < n) (k0 : Option V) (ap : List V) (hl : ap.length ≤ 4096) :
    forStep theTab theGlob (f + 48) lawFn.names "k" (tgtPos (lw 16)) (bodyOf (lw 16)) (laS (laW s n (rowsV u0 u1 u2) k0 none)) (some ("apart", ap)) (.int (k : Int)) =
      some (.next (laS (laW s n (rowsV u0 u1 u2) (some (.int (k : Int))) none)) (some ("apart", ap ++ [.int (apAt u0 u1 u2 k).sum]))) := by
  have v := l16_ev (f + 11) s n hn u0 u1 u2 h0 h1 h2 k hk ap
  generalize (apAt u0 u1 u2 k).sum = A at *
  generalize rowsV u0 u1 u2 = RV at *
  have hb : bindT lawFn.names (laS (laW s n RV k0 none)) (.Name "k" (tgtPos (lw 16))) (.int (k : Int)) = some (laS (laW s n RV (some (.int (k : Int))) none)) := by kernel_rfl
  have hdr : dropOwn "k" (some (("apart" : Str), ap)) = some (("apart" : Str), ap) := by kernel_rfl
  refine for_step hb hdr ?_
  rw [l16_body]
  exact (exs_next (l16_app f _ ap _ hl v)).trans exs_nil
noncomputable def l16St (s : La) (n : Nat) (u0 u1 u2 : List Int) : Nat → Sto × Own
  | 0 => (laS (laW s n (rowsV u0 u1 u2) none none), some ("apart", []))
  | k + 1 => (laS (laW s n (rowsV u0 u1 u2) (some (.int (k : Int))) none), some ("apart", (apRef u0 u1 u2 (k + 1)).map .int))
theorem l16_it4 (f : Nat) (s : La) (PL : V) : msrc theTab theGlob (f + 20) lawFn.names (laS (laW s 4 PL none none)) (some ("apart", [])) (exprOf (lw 16)) = some (natL 4) := by kernel_rfl
theorem l16_it5 (f : Nat) (s : La) (PL : V) : msrc theTab theGlob (f + 20) lawFn.names (laS (laW s 5 PL none none)) (some ("apart", [])) (exprOf (lw 16)) = some (natL 5) := by kernel_rfl
theorem l16_turn (f : Nat) (s : La) (n : Nat) (hn : n ≤ 5) (u0 u1 u2 : List Int) (h0 : u0.length = n) (h1 : u1.length = n) (h2 : u2.length = n) (k : Nat) (hk : k < n) :
    forStep theTab theGlob (f + 48) lawFn.names "k" (tgtPos (lw 16)) (bodyOf (lw 16)) (l16St s n u0 u1 u2 k).1 (l16St s n u0 u1 u2 k).2 (.int (k : Nat)) = some (.next (l16St s n u0 u1 u2 (k + 1)).1 (l16St s n u0 u1 u2 (k + 1)).2) := by
  have e2 : (l16St s n u0 u1 u2 (k + 1)) = (laS (laW s n (rowsV u0 u1 u2) (some (.int (k : Int))) none), some (("apart" : Str), (apRef u0 u1 u2 k).map V.int ++ [.int (apAt u0 u1 u2 k).sum])) := by
    have e : (apRef u0 u1 u2 k).map V.int ++ [.int (apAt u0 u1 u2 k).sum] = (apRef u0 u1 u2 (k + 1)).map V.int := by rw [apRef, List.map_append]; rfl
    rw [e]
    rfl
  rw [e2]
  have hl : ((apRef u0 u1 u2 k).map V.int).length ≤ 4096 := by rw [List.length_map, apRef_len]; omega
  cases k with
  | zero => exact l16_step f s n hn u0 u1 u2 h0 h1 h2 0 hk none [] (by decide)
  | succ k => exact l16_step f s n hn u0 u1 u2 h0 h1 h2 (k + 1) hk _ _ hl
theorem l16_run (f : Nat) (s : La) (n : Nat) (hn : n = 4 ∨ n = 5) (u0 u1 u2 : List Int) (h0 : u0.length = n) (h1 : u1.length = n) (h2 : u2.length = n) :
    ∃ k, mexec theTab theGlob (f + 49) lawFn.names (laS (laW s n (rowsV u0 u1 u2) none none)) (some ("apart", [])) (lw 16) = some (.next (laS (laW s n (rowsV u0 u1 u2) k none)) (some ("apart", (apRef u0 u1 u2 n).map .int))) := by
  have fz : frozenFor (exprOf (lw 16)) (laS (laW s n (rowsV u0 u1 u2) none none)) (some (("apart" : Str), [])) = (laS (laW s n (rowsV u0 u1 u2) none none), some (("apart" : Str), [])) := by
    generalize rowsV u0 u1 u2 = RV
    kernel_rfl
  have loop := loopM_nat (step := forStep theTab theGlob (f + 48) lawFn.names "k" (tgtPos (lw 16)) (bodyOf (lw 16))) (l16St s n u0 u1 u2) n fun i hi => l16_turn f s n (by omega) u0 u1 u2 h0 h1 h2 i hi
  have src : msrc theTab theGlob (f + 48) lawFn.names (laS (laW s n (rowsV u0 u1 u2) none none)) (some (("apart" : Str), [])) (exprOf (lw 16)) = some (natL n) := by
    rcases hn with rfl | rfl
    · exact l16_it4 (f + 28) s _
    · exact l16_it5 (f + 28) s _
  have run : mexec theTab theGlob (f + 49) lawFn.names (laS (laW s n (rowsV u0 u1 u2) none none)) (some (("apart" : Str), [])) (lw 16) = some (.next (l16St s n u0 u1 u2 n).1 (l16St s n u0 u1 u2 n).2) :=
    ex_for l16_for (xs := natL n) (by rw [fz]; exact src) (by rw [fz]; exact loop)
  obtain ⟨m, hm⟩ : ∃ m, n = m + 1 := ⟨n - 1, by omega⟩
  refine ⟨some (.int (m : Int)), run.trans ?_⟩
  subst hm
  rfl
-- shapes
noncomputable def shapeRef (ms : List Bool) (n : Nat) : List Int := match shNeed (shSets ms n) (2 ^ n - 1) with
  | some nd => diffs (shMosts (shOnes n) nd (2 ^ n) (n + 1)) n
  | none => []
noncomputable def shapeOk (ms : List Bool) (n : Nat) : Bool := match shNeed (shSets ms n) (2 ^ n - 1) with
  | some nd => (List.range (n + 1)).all fun i => (shMost (shOnes n) nd (2 ^ n) (i : Nat)).isSome
  | none => false
theorem shape_ref (f n : Nat) (hn : n = 4 ∨ n = 5) (ms : List Bool) (hl : ms.length = 2 ^ n) (h : shapeOk ms n = true) : mcall theTab theGlob (f + 50) shapeFn [.list (ms.map .bool), .int n] = some (.list ((shapeRef ms n).map .int)) ∧ (shapeRef ms n).length = n := by
  unfold shapeOk at h
  unfold shapeRef
  cases h1 : shNeed (shSets ms n) (2 ^ n - 1) with
  | none => rw [h1] at h; cases h
  | some nd =>
    rw [h1] at h
    simp only at h ⊢
    refine ⟨shape_run f n hn ms hl h1 fun i hi => ?_, by unfold diffs; rw [List.length_map, List.length_range]⟩
    exact Option.isSome_iff_exists.mp (all_range h (show i < n + 1 by omega))
end Mine
end
section
open PySem
set_option maxRecDepth 1000000
namespace Mine
noncomputable def laY (s : La) (n : Int) (TV : V) (ap li cr : Option V) : La := { s with size := some (.int n), taken := some TV, apart := ap, lines := li, crowds := cr }
noncomputable def l17E : Expr := exprOf (lw 17)
noncomputable def l17C : Expr := arg 0 l17E
noncomputable def lnB (n : Nat) (p0 p1 p2 : List Nat) (ch : Nat) : Bool := upB p0 0 (wordL n p0 ch) && (upB p1 0 (wordL n p0 ch) && upB p2 0 (wordL n p0 ch))
noncomputable def lnL (n : Nat) (p0 p1 p2 : List Nat) : List Bool := (List.range (2 ^ n)).map (lnB n p0 p1 p2)
theorem l17_elt (f : Nat) (a b c : Bool) : meval theTab theGlob (f + 24) (scopeOf l17C).names [("row", some (.list [.bool a, .bool b, .bool c]))] none (eltOf l17C) = some (.bool (a && (b && c))) := by
  cases a <;> cases b <;> cases c <;> kernel_rfl
theorem l17_comp (f : Nat) (s : La) (n : Nat) (hn : n = 4 ∨ n = 5) (p0 p1 p2 : List Nat) (ap : List V) :
    meval theTab theGlob (f + 30) lawFn.names (laS (laY s n (.list (takenV n p0 p1 p2 (2 ^ n))) none none none)) (some ("apart", ap)) l17C = some (.list ((lnL n p0 p1 p2).map .bool)) := by
  have hp : 2 ^ n ≤ 32 := by rcases hn with rfl | rfl <;> decide
  refine ev_comp (E := l17C) (xs := takenV n p0 p1 p2 (2 ^ n)) (by kernel_rfl) (by kernel_rfl) ?_ ?_
  · have e1 : msrc theTab theGlob (f + 29) lawFn.names (laS (laY s n (.list (takenV n p0 p1 p2 (2 ^ n))) none none none)) (some ("apart", ap)) (genOf l17C).iter = itemsV (.list (takenV n p0 p1 p2 (2 ^ n))) := by
      generalize takenV n p0 p1 p2 (2 ^ n) = TV
      kernel_rfl
    exact e1.trans (items_list (by unfold takenV; rw [List.length_map, List.length_range]; omega))
  · unfold takenV
    rw [compM_mapf (rowV n p0 p1 p2) (fun ch => .bool (lnB n p0 p1 p2 ch)) (List.range (2 ^ n)) fun ch _ => ?_]
    · unfold lnL
      rw [List.map_map]; rfl
    · refine compF_of (σ' := [("row", some (rowV n p0 p1 p2 ch))]) (by kernel_rfl) (by kernel_rfl) ?_
      unfold rowV rowB lnB
      exact l17_elt (f + 5) _ _ _
theorem l17_run (f : Nat) (s : La) (n : Nat) (hn : n = 4 ∨ n = 5) (p0 p1 p2 : List Nat) (ap : List V) (ho : shapeOk (lnL n p0 p1 p2) n = true) :
    mexec theTab theGlob (f + 60) lawFn.names (laS (laY s n (.list (takenV n p0 p1 p2 (2 ^ n))) none none none)) (some ("apart", ap)) (asg "lines" (lw 17)) =
      some (.next (laS (laY s n (.list (takenV n p0 p1 p2 (2 ^ n))) none (some (.list ((shapeRef (lnL n p0 p1 p2) n).map .int))) none)) (some ("apart", ap))) := by
  have v := l17_comp (f + 27) s n hn p0 p1 p2 ap
  have w := (shape_ref (f + 8) n hn (lnL n p0 p1 p2) (by unfold lnL; rw [List.length_map, List.length_range]) ho).1
  generalize takenV n p0 p1 p2 (2 ^ n) = TV at *
  generalize shapeRef (lnL n p0 p1 p2) n = SH at *
  have hf : frozenFor (exprOf (lw 17)) (laS (laY s n (.list TV) none none none)) (some (("apart" : Str), ap)) = (laS (laY s n (.list TV) none none none), some (("apart" : Str), ap)) := by kernel_rfl
  refine (ex_assign (s := asg "lines" (lw 17)) (e := exprOf (lw 17)) (d := .list (SH.map .int)) rfl (nolist_of (by kernel_rfl)) (by kernel_rfl) ?_).trans (by rw [hf]; kernel_rfl)
  rw [hf]
  have he : l17E = .Call (.Name "_law_shape" (fnPos l17E)) [l17C, arg 1 l17E] [] (posC l17E) := by kernel_rfl
  exact ev_call (n := f + 58) (e := l17E) he (by kernel_rfl) shape_tab (ds := [.list ((lnL n p0 p1 p2).map .bool), .int n]) (each_cons v (each_cons (by kernel_rfl) each_nil)) w
noncomputable def l18E : Expr := exprOf (lw 18)
noncomputable def l18A : Expr := arg 0 l18E
theorem l18_run (f : Nat) (s : La) (n : Nat) (hn : n = 4 ∨ n = 5) (TV : V) (li : Option V) (ap : List Int) (hl : ap.length = n) (ho : shapeOk (marksAt ap n) n = true) :
    mexec theTab theGlob (f + 60) lawFn.names (laS (laY s n TV none li none)) (some ("apart", ap.map .int)) (asg "crowds" (lw 18)) =
      some (.next (laS (laY s n TV (some (.list (ap.map .int))) li (some (.list ((shapeRef (marksAt ap n) n).map .int))))) none) := by
  have v := sets_run (f + 16) ap (by rw [hl]; exact hn)
  rw [hl] at v
  have w := (shape_ref (f + 8) n hn (marksAt ap n) (by rw [marksAt_len]) ho).1
  generalize shapeRef (marksAt ap n) n = SH at *
  have hf : frozenFor (exprOf (lw 18)) (laS (laY s n TV none li none)) (some (("apart" : Str), ap.map .int)) = (laS (laY s n TV (some (.list (ap.map .int))) li none), none) := by kernel_rfl
  refine (ex_assign (s := asg "crowds" (lw 18)) (e := exprOf (lw 18)) (d := .list (SH.map .int)) rfl (nolist_of (by kernel_rfl)) (by kernel_rfl) ?_).trans (by rw [hf]; kernel_rfl)
  rw [hf]
  have he : l18E = .Call (.Name "_law_shape" (fnPos l18E)) [l18A, arg 1 l18E] [] (posC l18E) := by kernel_rfl
  have h2 : l18A = .Call (.Name "_law_sets" (fnPos l18A)) [arg 0 l18A] [] (posC l18A) := by kernel_rfl
  refine ev_call (n := f + 58) (e := l18E) he (by kernel_rfl) shape_tab (ds := [.list ((marksAt ap n).map .bool), .int n]) (each_cons ?_ (each_cons (by kernel_rfl) each_nil)) w
  exact ev_call (n := f + 56) (e := l18A) h2 (by kernel_rfl) sets_tab (ds := [.list (ap.map .int)]) (each_cons (by kernel_rfl) each_nil) v
noncomputable def l19E : Expr := exprOf (lw 19)
noncomputable def l19A : Expr := lhs l19E
noncomputable def l19B : Expr := rhs l19E
theorem ev_cmp {tab : Tab} {glob : Str → Option V} {n : Nat} {N : Names} {σ : Sto} {ω : Own} {c l r : Expr} {op : CmpOp} {p : Pos} {a d : V} {b : Bool} (hc : c = .Compare l [op] [r] p) (hl : meval tab glob n N σ ω l = some a) (hr : meval tab glob n N σ ω r = some d) (h : cmpV op a d = some b) : meval tab glob (n + 1) N σ ω c = some (.bool b) := by
  subst hc
  rw [mv_Compare, hl, hr]
  show Option.map V.bool (cmpV op a d) = _
  rw [h]; rfl
theorem l19_run (f : Nat) (s : La) (n : Nat) (hn : n = 4 ∨ n = 5) (TV : V) (ap : Option V) (li cr : List Int) (h1 : li.length = n) (h2 : cr.length = n) (t1 : turnedRef li = cr) (t2 : turnedRef cr = li) :
    mexec theTab theGlob (f + 60) lawFn.names (laS (laY s n TV ap (some (.list (li.map .int))) (some (.list (cr.map .int))))) none (.Return (some (exprOf (lw 19))) (posOf (lw 19))) = some (.ret (.bool true)) := by
  have v1 := turned_run (f + 26) li (by rw [h1]; exact hn)
  have v2 := turned_run (f + 26) cr (by rw [h2]; exact hn)
  rw [t1] at v1
  rw [t2] at v2
  refine ex_ret ?_
  have hE : l19E = .BoolOp .And [l19A, l19B] (posE l19E) := by kernel_rfl
  have hA : l19A = .Compare (lhs l19A) [.Eq] [rhs l19A] (posC l19A) := by kernel_rfl
  have hB : l19B = .Compare (lhs l19B) [.Eq] [rhs l19B] (posC l19B) := by kernel_rfl
  have hA1 : lhs l19A = .Call (.Name "_law_turned" (fnPos (lhs l19A))) [arg 0 (lhs l19A)] [] (posC (lhs l19A)) := by kernel_rfl
  have hB1 : lhs l19B = .Call (.Name "_law_turned" (fnPos (lhs l19B))) [arg 0 (lhs l19B)] [] (posC (lhs l19B)) := by kernel_rfl
  show meval theTab theGlob (f + 59) lawFn.names (laS (laY s n TV ap (some (.list (li.map .int))) (some (.list (cr.map .int))))) none l19E = _
  rw [hE]
  have ce : ∀ x : List Int, cmpV .Eq (.list (x.map .int)) (.list (x.map .int)) = some true := by
    intro x
    have e : cmpV .Eq (.list (x.map .int)) (.list (x.map .int)) = eqV 8 (.list (x.map .int)) (.list (x.map .int)) := by kernel_rfl
    rw [e]; exact eqV_ints 6 x
  have eA : meval theTab theGlob (f + 58) lawFn.names (laS (laY s n TV ap (some (.list (li.map .int))) (some (.list (cr.map .int))))) none l19A = some (.bool true) :=
    ev_cmp (n := f + 57) hA (a := .list (cr.map .int)) (d := .list (cr.map .int)) (ev_call (n := f + 56) hA1 (by kernel_rfl) turned_tab (ds := [.list (li.map .int)]) (each_cons (by kernel_rfl) each_nil) v1) (by kernel_rfl) (ce cr)
  have eB : meval theTab theGlob (f + 58) lawFn.names (laS (laY s n TV ap (some (.list (li.map .int))) (some (.list (cr.map .int))))) none l19B = some (.bool true) :=
    ev_cmp (n := f + 57) hB (a := .list (li.map .int)) (d := .list (li.map .int)) (ev_call (n := f + 56) hB1 (by kernel_rfl) turned_tab (ds := [.list (cr.map .int)]) (each_cons (by kernel_rfl) each_nil) v2) (by kernel_rfl) (ce li)
  exact (ev_and eA (fun _ => eB)).trans rfl
end Mine
end
section
open PySem
set_option maxRecDepth 1000000
namespace Mine
noncomputable def linkL (k : Nat) (b : Nat → Bool) : Int := (((List.range k).filter b).map fun j => (2 : Int) ^ j).sum
noncomputable def linksOf (P : Nat → Nat → Bool) : Nat → List Int
  | 0 => []
  | k + 1 => linksOf P k ++ [linkL k fun j => P j k]
theorem linksOf_len (P : Nat → Nat → Bool) : ∀ n, (linksOf P n).length = n
  | 0 => rfl
  | n + 1 => by rw [linksOf, List.length_append, linksOf_len P n]; rfl
theorem linkL_congr {k : Nat} {b c : Nat → Bool} (h : ∀ j, j < k → b j = c j) : linkL k b = linkL k c := by
  unfold linkL
  congr 2
  exact List.filter_congr fun j hj => h j (List.mem_range.mp hj)
theorem linksOf_congr {P Q : Nat → Nat → Bool} : ∀ (n : Nat), (∀ k, k < n → ∀ j, j < k → P j k = Q j k) → linksOf P n = linksOf Q n
  | 0, _ => rfl
  | n + 1, h => by
    rw [linksOf, linksOf, linksOf_congr n fun k hk j hj => h k (by omega) j hj, linkL_congr fun j hj => h n (by omega) j hj]
theorem linksOf_getD (P : Nat → Nat → Bool) (k : Nat) : ∀ n, k < n → (linksOf P n).getD k 0 = linkL k fun j => P j k
  | 0, h => by omega
  | n + 1, h => by
    rw [linksOf, List.getD_eq_getElem?_getD]
    by_cases e : k < n
    · rw [List.getElem?_append_left (by rw [linksOf_len]; exact e), ← List.getD_eq_getElem?_getD]
      exact linksOf_getD P k n e
    · have : k = n := by omega
      subst this
      rw [List.getElem?_append_right (by rw [linksOf_len]; omega), linksOf_len, Nat.sub_self]
      rfl
noncomputable def rowP (k : Nat) (b : Nat → Bool) (ch : Nat) : Bool := (List.range k).all fun j => !(Nat.testBit ch j) || b j
noncomputable def goodP (n : Nat) (P : Nat → Nat → Bool) (ch : Nat) : Bool := (List.range n).all fun k => (List.range k).all fun j => !(Nat.testBit ch j && Nat.testBit ch k) || P j k
theorem goodP_iff {n : Nat} {P : Nat → Nat → Bool} {ch : Nat} : goodP n P ch = true ↔ ∀ k, k < n → ∀ j, j < k → Nat.testBit ch j = true → Nat.testBit ch k = true → P j k = true := by
  unfold goodP
  rw [List.all_eq_true]
  constructor
  · intro h k hk j hj a b
    have := List.all_eq_true.mp (h k (List.mem_range.mpr hk)) j (List.mem_range.mpr hj)
    rw [a, b] at this
    exact this
  · intro h k hk
    refine List.all_eq_true.mpr fun j hj => ?_
    have := h k (List.mem_range.mp hk) j (List.mem_range.mp hj)
    cases h1 : Nat.testBit ch j <;> cases h2 : Nat.testBit ch k <;> simp_all
theorem rowP_iff {k : Nat} {b : Nat → Bool} {ch : Nat} : rowP k b ch = true ↔ ∀ j, j < k → Nat.testBit ch j = true → b j = true := by
  unfold rowP
  rw [List.all_eq_true]
  constructor
  · intro h j hj a
    have := h j (List.mem_range.mpr hj)
    rw [a] at this
    exact this
  · intro h j hj
    have := h j (List.mem_range.mp hj)
    cases h1 : Nat.testBit ch j <;> simp_all
theorem goodP_and {n : Nat} {P Q : Nat → Nat → Bool} {ch : Nat} : goodP n (fun j k => P j k && Q j k) ch = (goodP n P ch && goodP n Q ch) := by
  rw [Bool.eq_iff_iff, Bool.and_eq_true, goodP_iff, goodP_iff, goodP_iff]
  constructor
  · intro h
    refine ⟨fun k hk j hj a b => ?_, fun k hk j hj a b => ?_⟩
    · have := h k hk j hj a b
      rw [Bool.and_eq_true] at this
      exact this.1
    · have := h k hk j hj a b
      rw [Bool.and_eq_true] at this
      exact this.2
  · intro h k hk j hj a b
    rw [h.1 k hk j hj a b, h.2 k hk j hj a b]; rfl
theorem goodP_congr {n : Nat} {P Q : Nat → Nat → Bool} {ch : Nat} (h : ∀ k, k < n → ∀ j, j < k → P j k = Q j k) : goodP n P ch = goodP n Q ch := by
  rw [Bool.eq_iff_iff, goodP_iff, goodP_iff]
  constructor
  · intro g k hk j hj a b
    rw [← h k hk j hj]; exact g k hk j hj a b
  · intro g k hk j hj a b
    rw [h k hk j hj]; exact g k hk j hj a b
theorem goodP_low {k : Nat} {P : Nat → Nat → Bool} {r : Nat} (hr : r < 2 ^ k) : goodP (k + 1) P r = goodP k P r := by
  rw [Bool.eq_iff_iff, goodP_iff, goodP_iff]
  constructor
  · intro h i hi; exact h i (by omega)
  · intro h i hi j hj a b
    by_cases e : i < k
    · exact h i e j hj a b
    · have : i = k := by omega
      subst this
      rw [Nat.testBit_lt_two_pow hr] at b
      cases b
theorem goodP_high {k : Nat} {P : Nat → Nat → Bool} {r : Nat} (hr : r < 2 ^ k) : goodP (k + 1) P (2 ^ k + r) = (goodP k P r && rowP k (fun j => P j k) r) := by
  rw [Bool.eq_iff_iff, Bool.and_eq_true, goodP_iff, goodP_iff, rowP_iff]
  have hk : Nat.testBit (2 ^ k + r) k = true := by rw [Nat.testBit_two_pow_add_eq, Nat.testBit_lt_two_pow hr]; rfl
  have hj : ∀ j, j < k → Nat.testBit (2 ^ k + r) j = Nat.testBit r j := fun j h => Nat.testBit_two_pow_add_gt h r
  constructor
  · intro h
    refine ⟨fun i hi j hj' a b => ?_, fun j hj' a => ?_⟩
    · exact h i (by omega) j hj' (by rw [hj j (by omega)]; exact a) (by rw [hj i hi]; exact b)
    · exact h k (by omega) j hj' (by rw [hj j hj']; exact a) hk
  · intro h i hi j hj' a b
    by_cases e : i < k
    · rw [hj j (by omega)] at a
      rw [hj i e] at b
      exact h.1 i e j hj' a b
    · have : i = k := by omega
      subst this
      rw [hj j hj'] at a
      exact h.2 j hj' a
noncomputable def linkCheck (k : Nat) (l : List Bool) : Bool := (List.range (2 ^ k)).all fun r => (Builtin.bitAnd (r : Int) (Builtin.bitNot (linkL k fun j => l.getD j false)) == 0) == rowP k (fun j => l.getD j false) r
theorem link_all : ((List.range 5).all fun k => (allBs k).all (linkCheck k)) = true := by decide +kernel
theorem link_eq {k : Nat} (hk : k < 5) (b : Nat → Bool) {r : Nat} (hr : r < 2 ^ k) : (Builtin.bitAnd (r : Int) (Builtin.bitNot (linkL k b)) == 0) = rowP k b r := by
  have hl : ((List.range k).map b).length = k := by rw [List.length_map, List.length_range]
  have key := List.all_eq_true.mp (all_range link_all hk) _ (allBs_mem k ((List.range k).map b) hl)
  have e := eq_of_beq (all_range key hr)
  have hg : ∀ j, j < k → ((List.range k).map b).getD j false = b j := by
    intro j hj
    rw [List.getD_eq_getElem?_getD, List.getElem?_map, List.getElem?_range hj]; rfl
  rw [linkL_congr hg] at e
  rw [e, Bool.eq_iff_iff, rowP_iff, rowP_iff]
  constructor
  · intro h j hj a; rw [← hg j hj]; exact h j hj a
  · intro h j hj a; rw [hg j hj]; exact h j hj a
theorem marks_good (P : Nat → Nat → Bool) (n : Nat) (hn : n ≤ 5) : ∀ k, k ≤ n → marksAt (linksOf P n) k = (List.range (2 ^ k)).map (goodP k P)
  | 0, _ => rfl
  | k + 1, h => by
    rw [marksAt, marks_good P n hn k (by omega), Nat.pow_succ, Nat.mul_two, List.range_add, List.map_append, List.map_map, linksOf_getD P k n (by omega)]
    congr 1
    · refine List.map_congr_left fun r hr => (goodP_low (List.mem_range.mp hr)).symm
    · refine List.map_congr_left fun r hr => ?_
      have hr := List.mem_range.mp hr
      show mark _ _ r = goodP (k + 1) P (2 ^ k + r)
      rw [goodP_high hr]
      unfold mark
      rw [link_eq (by omega) _ hr, List.getD_eq_getElem?_getD, List.getElem?_map, List.getElem?_range hr]
      rfl
end Mine
end
section
open PySem
set_option maxRecDepth 1000000
namespace Mine
/-- the place in p of the j-th of p0 -/
noncomputable def atU (p0 p : List Nat) (j : Nat) : Nat := p.idxOf (p0.getD j 0)
noncomputable def upP (p0 p : List Nat) (j k : Nat) : Bool := decide (atU p0 p j < atU p0 p k)
theorem upB_iff (p : List Nat) : ∀ (w : List Nat) (s : Nat), upB p s w = true ↔ (∀ k ∈ w, s ≤ p.idxOf k) ∧ w.Pairwise fun a b => p.idxOf a < p.idxOf b
  | [], s => by simp [upB]
  | x :: r, s => by
    rw [upB]
    by_cases h : s ≤ p.idxOf x
    · rw [if_pos h, upB_iff p r (p.idxOf x + 1), List.pairwise_cons]
      constructor
      · intro g
        refine ⟨fun k hk => ?_, fun b hb => ?_, g.2⟩
        · rcases List.mem_cons.mp hk with rfl | hk
          · exact h
          · have := g.1 k hk; omega
        · have := g.1 b hb; omega
      · intro g
        refine ⟨fun k hk => ?_, g.2.2⟩
        have := g.2.1 k hk; omega
    · rw [if_neg h]
      constructor
      · intro g; cases g
      · intro g
        exact absurd (g.1 x List.mem_cons_self) h
theorem bits_pairwise (R : Nat → Nat → Prop) (ch : Nat) : ∀ n, ((List.range n).filter (Nat.testBit ch)).Pairwise R ↔ ∀ k, k < n → ∀ j, j < k → Nat.testBit ch j = true → Nat.testBit ch k = true → R j k
  | 0 => by simp
  | n + 1 => by
    rw [List.range_succ, List.filter_append, List.pairwise_append, bits_pairwise R ch n]
    constructor
    · intro ⟨h1, _, h3⟩ k hk j hj a b
      by_cases e : k < n
      · exact h1 k e j hj a b
      · have : k = n := by omega
        subst this
        exact h3 j (List.mem_filter.mpr ⟨List.mem_range.mpr hj, a⟩) k (List.mem_filter.mpr ⟨List.mem_singleton.mpr rfl, b⟩)
    · intro h
      refine ⟨fun k hk j hj a b => h k (by omega) j hj a b, ?_, fun a ha b hb => ?_⟩
      · have : ([n].filter (Nat.testBit ch)).length ≤ 1 := List.length_filter_le _ _
        match hm : [n].filter (Nat.testBit ch), this with
        | [], _ => exact List.Pairwise.nil
        | [x], _ => exact List.pairwise_singleton _ _
      · obtain ⟨ha1, ha2⟩ := List.mem_filter.mp ha
        obtain ⟨hb1, hb2⟩ := List.mem_filter.mp hb
        rw [List.mem_singleton] at hb1
        subst hb1
        exact h b (by omega) a (List.mem_range.mp ha1) ha2 hb2
theorem up_good (n : Nat) (p0 p : List Nat) (ch : Nat) : upB p 0 (wordL n p0 ch) = goodP n (upP p0 p) ch := by
  rw [Bool.eq_iff_iff, upB_iff, goodP_iff]
  unfold wordL bitsOf
  rw [List.pairwise_map, bits_pairwise]
  constructor
  · intro h k hk j hj a b
    exact decide_eq_true (h.2 k hk j hj a b)
  · intro h
    exact ⟨fun _ _ => Nat.zero_le _, fun k hk j hj a b => of_decide_eq_true (h k hk j hj a b)⟩
noncomputable def pOf (p0 p1 p2 : List Nat) (c : Nat) : List Nat := if c = 0 then p0 else if c = 1 then p1 else p2
theorem ans_good (n : Nat) (p0 p1 p2 : List Nat) (c : Nat) (hc : c < 3) : ansL n p0 p1 p2 c = (List.range (2 ^ n)).map (goodP n (upP p0 (pOf p0 p1 p2 c))) := by
  unfold ansL
  refine List.map_congr_left fun ch _ => ?_
  rw [← up_good]
  have : c = 0 ∨ c = 1 ∨ c = 2 := by omega
  rcases this with rfl | rfl | rfl <;> rfl
noncomputable def allP (p0 p1 p2 : List Nat) (j k : Nat) : Bool := upP p0 p0 j k && (upP p0 p1 j k && upP p0 p2 j k)
theorem ln_good (n : Nat) (p0 p1 p2 : List Nat) : lnL n p0 p1 p2 = (List.range (2 ^ n)).map (goodP n (allP p0 p1 p2)) := by
  unfold lnL
  refine List.map_congr_left fun ch _ => ?_
  unfold lnB
  rw [up_good, up_good, up_good, ← goodP_and, ← goodP_and]
  rfl
-- the rises
theorem ordI_getD (p : List Nat) (j : Nat) (h : j < p.length) : (ordI p).getD j 0 = ((p.getD j 0 : Nat) : Int) := by
  unfold ordI
  exact getD_map' (fun (k : Nat) => (k : Int)) p j 0 0 h
theorem less_up {n : Nat} (hn : n = 4 ∨ n = 5) (ls : List (List Int)) (c j k : Nat) (hj : j < n) (hk : k < n) : lessK ls (ordI (permOf n ls 0)) c j k = upP (permOf n ls 0) (permOf n ls c) j k := by
  have S0 := srt hn ls 0
  have S := srt hn ls c
  have P := perms_lt hn S0.mem
  unfold lessK keyL
  rw [ordI_getD _ j (by omega), ordI_getD _ k (by omega)]
  have e := S.ord _ (P.2.2.2.2 j hj).1 _ (P.2.2.2.2 k hk).1
  exact e
theorem rises_links {n : Nat} (hn : n = 4 ∨ n = 5) (ls : List (List Int)) (c : Nat) : ∀ m, m ≤ n → risesRef ls (ordI (permOf n ls 0)) c m = linksOf (upP (permOf n ls 0) (permOf n ls c)) m
  | 0, _ => rfl
  | m + 1, h => by
    rw [risesRef, linksOf, rises_links hn ls c m (by omega)]
    congr 2
    unfold risesAt linkL
    congr 2
    refine List.filter_congr fun j hj => ?_
    have := List.mem_range.mp hj
    exact less_up hn ls c j m (by omega) (by omega)
theorem answers_ok {n : Nat} (hn : n = 4 ∨ n = 5) (ls : List (List Int)) (c : Nat) (hc : c < 3) : ansL n (permOf n ls 0) (permOf n ls 1) (permOf n ls 2) c = marksAt (risesRef ls (ordI (permOf n ls 0)) c n) n := by
  rw [ans_good n _ _ _ c hc, rises_links hn ls c n (Nat.le_refl _), marks_good _ n (by omega) n (Nat.le_refl _)]
  have : c = 0 ∨ c = 1 ∨ c = 2 := by omega
  rcases this with rfl | rfl | rfl <;> rfl
end Mine
end
section
open PySem
set_option maxRecDepth 1000000
namespace Mine
noncomputable def transP (n : Nat) (P : Nat → Nat → Bool) : Bool := (List.range n).all fun k => (List.range k).all fun j => !(P j k) || (List.range j).all fun i => !(P i j) || P i k
noncomputable def notP (P : Nat → Nat → Bool) (j k : Nat) : Bool := !P j k
noncomputable def gm (n : Nat) (P : Nat → Nat → Bool) : List Bool := marksAt (linksOf P n) n
noncomputable def greene (n : Nat) (P : Nat → Nat → Bool) : Bool :=
  (shapeOk (gm n P) n && shapeOk (gm n (notP P)) n) && (turnedRef (shapeRef (gm n P) n) == shapeRef (gm n (notP P)) n && turnedRef (shapeRef (gm n (notP P)) n) == shapeRef (gm n P) n)
noncomputable def greeneCheck (n : Nat) (l : List Bool) : Bool := !transP n (bOf l) || greene n (bOf l)
end Mine
end
section
open PySem
set_option maxRecDepth 1000000
namespace Mine
-- the same, by Nat's own operations, quick for the kernel
noncomputable def bitN (b : Nat → Bool) (j : Nat) : Nat := @Nat.rec (fun _ => Nat) 0 (fun j ih => @Bool.rec (fun _ => Nat) ih (Nat.add ih (Nat.pow 2 j)) (b j)) j
noncomputable def filtN (L b : Nat) (l : List Nat) : List Nat := @List.rec Nat (fun _ => List Nat) [] (fun r _ ih => @Bool.rec (fun _ => List Nat) ih (Nat.add b r :: ih) (Nat.beq (Nat.land r L) r)) l
noncomputable def appN (l m : List Nat) : List Nat := @List.rec Nat (fun _ => List Nat) m (fun r _ ih => r :: ih) l
noncomputable def gs (P : Nat → Nat → Bool) (k : Nat) : List Nat := @Nat.rec (fun _ => List Nat) [0] (fun k ih => appN ih (filtN (bitN (fun j => P j k) k) (Nat.pow 2 k) ih)) k
noncomputable def gt (N i : Nat) : Nat := Nat.land (Nat.shiftRight N (Nat.mul 4 i)) 15
noncomputable def turnC (N ch c : Nat) (l : List Nat) : Nat := @List.rec Nat (fun _ => Nat) 14 (fun one _ ih => @Bool.rec (fun _ => Nat) (@Bool.rec (fun _ => Nat) ih (gt N (Nat.sub ch (Nat.land ch one))) (Nat.ble (gt N (Nat.sub ch (Nat.land ch one))) ih)) ih (Nat.beq (Nat.land (Nat.land one ch) c) (Nat.land one ch))) l
noncomputable def needC (sets : List Nat) (c : Nat) : Nat := @Nat.rec (fun _ => Nat) 0 (fun c ih => Nat.add ih (Nat.shiftLeft (Nat.succ (turnC ih (Nat.succ c) c sets)) (Nat.mul 4 (Nat.succ c)))) c
noncomputable def okC (N c : Nat) : Bool := @Nat.rec (fun _ => Bool) true (fun c ih => @Bool.rec (fun _ => Bool) false ih (Nat.ble (gt N (Nat.succ c)) 14)) c
noncomputable def onesN : Nat := 112004398439102515831086157106144944400
noncomputable def mostC (N k c : Nat) : Nat := @Nat.rec (fun _ => Nat) 0 (fun c ih => @Bool.rec (fun _ => Nat) ih (@Bool.rec (fun _ => Nat) (gt onesN c) ih (Nat.ble (gt onesN c) ih)) (Nat.ble (gt N c) k)) c
noncomputable def cntC (mo : Nat → Nat) (k i : Nat) : Nat := @Nat.rec (fun _ => Nat) 0 (fun i ih => @Bool.rec (fun _ => Nat) ih (Nat.succ ih) (Nat.ble (Nat.add (mo i) (Nat.succ k)) (mo (Nat.succ i)))) i
noncomputable def turnOk (mo mo' : Nat → Nat) (n k : Nat) : Bool := @Nat.rec (fun _ => Bool) true (fun k ih => @Bool.rec (fun _ => Bool) false ih (Nat.beq (Nat.add (cntC mo k n) (mo' k)) (mo' (Nat.succ k)))) k
noncomputable def forceN (f : Nat → Bool) (N : Nat) : Bool := @Nat.rec (fun _ => Bool) (f 0) (fun m _ => f (Nat.succ m)) N
noncomputable def chkC (n : Nat) (N1 N2 : Nat) : Bool := @Bool.rec (fun _ => Bool) false (@Bool.rec (fun _ => Bool) false (@Bool.rec (fun _ => Bool) false (turnOk (fun k => mostC N2 k (Nat.pow 2 n)) (fun k => mostC N1 k (Nat.pow 2 n)) n n) (turnOk (fun k => mostC N1 k (Nat.pow 2 n)) (fun k => mostC N2 k (Nat.pow 2 n)) n n)) (okC N2 (Nat.pred (Nat.pow 2 n)))) (okC N1 (Nat.pred (Nat.pow 2 n)))
noncomputable def greeneC (n : Nat) (P : Nat → Nat → Bool) : Bool := forceN (fun N1 => forceN (fun N2 => chkC n N1 N2) (needC (gs (notP P) n).tail (Nat.pred (Nat.pow 2 n)))) (needC (gs P n).tail (Nat.pred (Nat.pow 2 n)))
end Mine
end
section
open PySem
set_option maxRecDepth 1000000
namespace Mine
theorem brec {α : Type} (a b : α) (c : Bool) : @Bool.rec (fun _ => α) a b c = if c then b else a := by cases c <;> rfl
theorem gt_eq (N i : Nat) : gt N i = N / 16 ^ i % 16 := by
  have e : gt N i = (N >>> (4 * i)) &&& 15 := rfl
  rw [e, Nat.shiftRight_eq_div_pow, Nat.pow_mul]
  exact Nat.and_two_pow_sub_one_eq_mod (N / (2 ^ 4) ^ i) 4
theorem gt_lt (N i : Nat) : gt N i < 16 := by rw [gt_eq]; exact Nat.mod_lt _ (by decide)
theorem code_add (N v len : Nat) (hN : N < 16 ^ len) (hv : v < 16) : N + v * 16 ^ len < 16 ^ (len + 1) ∧ gt (N + v * 16 ^ len) len = v ∧ ∀ i, i < len → gt (N + v * 16 ^ len) i = gt N i := by
  have hp : 0 < 16 ^ len := Nat.pow_pos (by decide)
  refine ⟨?_, ?_, fun i hi => ?_⟩
  · rw [Nat.pow_succ]
    have : v * 16 ^ len ≤ 15 * 16 ^ len := Nat.mul_le_mul_right _ (by omega)
    omega
  · rw [gt_eq, Nat.add_mul_div_right _ _ hp, Nat.div_eq_of_lt hN, Nat.zero_add]
    exact Nat.mod_eq_of_lt hv
  · rw [gt_eq, gt_eq]
    have e : (16 : Nat) ^ len = 16 ^ (len - i - 1) * 16 * 16 ^ i := by
      rw [← Nat.pow_succ, ← Nat.pow_add]
      congr 1; omega
    have hp2 : 0 < 16 ^ i := Nat.pow_pos (by decide)
    rw [e, ← Nat.mul_assoc, Nat.add_mul_div_right _ _ hp2, ← Nat.mul_assoc, Nat.add_mul_mod_self_right]
/-- a list of ints by a number's digits -/
structure Cod (nd : List Int) (N : Nat) : Prop where
  lt : N < 16 ^ nd.length
  get : ∀ i, i < nd.length → nd[i]? = some (gt N i : Int)
theorem Cod.push {nd : List Int} {N v : Nat} (R : Cod nd N) (hv : v < 16) : Cod (nd ++ [(v : Int)]) (N + v * 16 ^ nd.length) := by
  obtain ⟨h1, h2, h3⟩ := code_add N v nd.length R.lt hv
  refine ⟨by rw [List.length_append]; exact h1, fun i hi => ?_⟩
  rw [List.length_append, List.length_singleton] at hi
  by_cases e : i < nd.length
  · rw [List.getElem?_append_left e, h3 i e]; exact R.get i e
  · have : i = nd.length := by omega
    subst this
    rw [List.getElem?_append_right (Nat.le_refl _), Nat.sub_self, h2]; rfl
theorem Cod.zero : Cod [0] 0 := ⟨by decide, fun i hi => by
  have : i = 0 := by simp at hi; exact hi
  subst this; rfl⟩
noncomputable def condN (ch c one : Nat) : Bool := !(Nat.beq (Nat.land (Nat.land one ch) c) (Nat.land one ch))
noncomputable def ixN (ch one : Nat) : Nat := Nat.sub ch (Nat.land ch one)
theorem turnC_cons (N ch c one : Nat) (r : List Nat) : turnC N ch c (one :: r) = if condN ch c one then (if Nat.ble (gt N (ixN ch one)) (turnC N ch c r) then gt N (ixN ch one) else turnC N ch c r) else turnC N ch c r := by
  have e : turnC N ch c (one :: r) = @Bool.rec (fun _ => Nat) (@Bool.rec (fun _ => Nat) (turnC N ch c r) (gt N (ixN ch one)) (Nat.ble (gt N (ixN ch one)) (turnC N ch c r))) (turnC N ch c r) (Nat.beq (Nat.land (Nat.land one ch) c) (Nat.land one ch)) := rfl
  rw [e, brec, brec]
  unfold condN
  cases Nat.beq (Nat.land (Nat.land one ch) c) (Nat.land one ch) <;> rfl
theorem turnC_le (N ch c : Nat) : ∀ (l : List Nat), ∀ one ∈ l, condN ch c one = true → turnC N ch c l ≤ gt N (ixN ch one)
  | [], one, h, _ => by cases h
  | x :: r, one, h, hc => by
    rw [turnC_cons]
    rcases List.mem_cons.mp h with rfl | h
    · rw [if_pos hc]
      by_cases hb : Nat.ble (gt N (ixN ch one)) (turnC N ch c r) = true
      · rw [if_pos hb]; exact Nat.le_refl _
      · rw [if_neg hb]
        rw [Nat.ble_eq] at hb
        omega
    · have ih := turnC_le N ch c r one h hc
      by_cases hx : condN ch c x = true
      · rw [if_pos hx]
        by_cases hb : Nat.ble (gt N (ixN ch x)) (turnC N ch c r) = true
        · rw [if_pos hb]
          rw [Nat.ble_eq] at hb
          omega
        · rw [if_neg hb]; exact ih
      · rw [if_neg hx]; exact ih
theorem turnC_mem (N ch c : Nat) : ∀ (l : List Nat), turnC N ch c l = 14 ∨ ∃ one ∈ l, condN ch c one = true ∧ turnC N ch c l = gt N (ixN ch one)
  | [] => .inl rfl
  | x :: r => by
    rw [turnC_cons]
    have ih := turnC_mem N ch c r
    have lift : (∃ one ∈ r, condN ch c one = true ∧ turnC N ch c r = gt N (ixN ch one)) → ∃ one ∈ x :: r, condN ch c one = true ∧ turnC N ch c r = gt N (ixN ch one) := fun ⟨o, h1, h2⟩ => ⟨o, List.mem_cons_of_mem _ h1, h2⟩
    by_cases hx : condN ch c x = true
    · rw [if_pos hx]
      by_cases hb : Nat.ble (gt N (ixN ch x)) (turnC N ch c r) = true
      · rw [if_pos hb]
        exact .inr ⟨x, List.mem_cons_self, hx, rfl⟩
      · rw [if_neg hb]
        exact ih.imp id lift
    · rw [if_neg hx]
      exact ih.imp id lift
-- the int side
theorem bitAnd_nat (a b : Nat) : Builtin.bitAnd (a : Int) (b : Int) = ((a &&& b : Nat) : Int) := by
  unfold Builtin.bitAnd
  rw [decide_eq_true (by omega : (0 : Int) ≤ a), decide_eq_true (by omega : (0 : Int) ≤ b)]
  rfl
theorem bitAnd_neg (a b : Nat) : Builtin.bitAnd (a : Int) (-(b : Int) - 1) = ((a - (a &&& b) : Nat) : Int) := by
  unfold Builtin.bitAnd
  rw [decide_eq_true (by omega : (0 : Int) ≤ a), decide_eq_false (by omega : ¬ (0 : Int) ≤ -(b : Int) - 1)]
  simp only
  have e : (Builtin.bitNot (-(b : Int) - 1)).toNat = b := by unfold Builtin.bitNot; omega
  rw [e, show ((a : Int)).toNat = a from rfl]
  have : a &&& b ≤ a := Nat.and_le_left
  omega
theorem shCond_nat (c one : Nat) : shCond ((c : Int) + 1) (one : Int) = condN (c + 1) c one := by
  unfold shCond condN
  rw [show ((c : Int) + 1) = ((c + 1 : Nat) : Int) by omega, bitAnd_nat, show (-((c + 1 : Nat) : Int)) = -(c : Int) - 1 by omega, bitAnd_neg]
  have e1 : Nat.land (Nat.land one (c + 1)) c = ((one &&& (c + 1)) &&& c) := rfl
  have e2 : Nat.land one (c + 1) = (one &&& (c + 1)) := rfl
  rw [e1, e2]
  generalize one &&& (c + 1) = x
  have hle : x &&& c ≤ x := Nat.and_le_left
  by_cases h : x &&& c = x
  · rw [h, Nat.sub_self]
    have : Nat.beq x x = true := Nat.beq_refl x
    rw [this]; rfl
  · have hb : Nat.beq (x &&& c) x = false := by
      cases hbb : Nat.beq (x &&& c) x with
      | false => rfl
      | true => exact absurd (Nat.eq_of_beq_eq_true hbb) h
    rw [hb]
    have : ((x - (x &&& c) : Nat) : Int) ≠ 0 := by omega
    simpa using this
theorem ix_lt {c one : Nat} (h : condN (c + 1) c one = true) : ixN (c + 1) one < c + 1 := by
  have e : ixN (c + 1) one = (c + 1) - ((c + 1) &&& one) := rfl
  rw [e]
  have hne : (c + 1) &&& one ≠ 0 := by
    intro h0
    unfold condN at h
    have e2 : Nat.land one (c + 1) = 0 := by
      have : one &&& (c + 1) = 0 := by rw [Nat.and_comm]; exact h0
      exact this
    rw [e2] at h
    have : Nat.land 0 c = 0 := Nat.zero_and c
    rw [this] at h
    cases h
  omega
end Mine
end
section
open PySem
set_option maxRecDepth 1000000
namespace Mine
theorem turnC_le14 (N ch c : Nat) : ∀ (l : List Nat), turnC N ch c l ≤ 14
  | [] => Nat.le_refl _
  | x :: r => by
    have ih := turnC_le14 N ch c r
    rw [turnC_cons]
    by_cases hx : condN ch c x = true
    · rw [if_pos hx]
      by_cases hb : Nat.ble (gt N (ixN ch x)) (turnC N ch c r) = true
      · rw [if_pos hb]
        rw [Nat.ble_eq] at hb
        omega
      · rw [if_neg hb]; exact ih
    · rw [if_neg hx]; exact ih
theorem needC_succ (sets : List Nat) (c : Nat) : needC sets (c + 1) = needC sets c + (turnC (needC sets c) (c + 1) c sets + 1) * 16 ^ (c + 1) := by
  have e : needC sets (c + 1) = needC sets c + ((turnC (needC sets c) (c + 1) c sets + 1) <<< (4 * (c + 1))) := rfl
  rw [e, Nat.shiftLeft_eq, Nat.pow_mul]
theorem needC_lt (sets : List Nat) : ∀ c, needC sets c < 16 ^ (c + 1)
  | 0 => by show (0 : Nat) < _; decide
  | c + 1 => by
    rw [needC_succ]
    have := turnC_le14 (needC sets c) (c + 1) c sets
    exact (code_add _ _ (c + 1) (needC_lt sets c) (by omega)).1
theorem optMap_mapSome {α β γ : Type} {h : β → Option γ} (inj : α → β) (g : α → γ) : ∀ (xs : List α), (∀ x ∈ xs, h (inj x) = some (g x)) → optMap h (xs.map inj) = some (xs.map g)
  | [], _ => rfl
  | x :: r, H => by
    rw [List.map_cons, optMap, H x List.mem_cons_self]
    simp only
    rw [optMap_mapSome inj g r fun y hy => H y (List.mem_cons_of_mem _ hy)]
    rfl
noncomputable def toI (l : List Nat) : List Int := l.map fun (x : Nat) => (x : Int)
theorem idxI_nat (nd : List Int) (i : Nat) (h : i < nd.length) (h2 : nd.length ≤ 4096) : idxI nd (i : Int) = nd[i]? := by
  unfold idxI
  have h1 : ((i : Int) == -1) = false := beq_eq_false_iff_ne.mpr (by omega)
  rw [h1, Bool.false_and, if_neg Bool.false_ne_true, if_pos (by simp only [Bool.and_eq_true, decide_eq_true_eq]; omega)]
  rfl
theorem minL_mem {xs : List Int} {m : Int} (h : m ∈ xs) (hm : ∀ a ∈ xs, m ≤ a) : minL xs = some m := by
  cases xs with
  | nil => cases h
  | cons x r =>
    obtain ⟨k1, k2⟩ := foldl_min_spec r x
    show some (r.foldl min x) = some m
    congr 1
    exact Int.le_antisymm (k2 _ h) (hm _ k1)
theorem shVal_nat (nd : List Int) (N c one : Nat) (C : Cod nd N) (hl : nd.length = c + 1) (hc : c ≤ 31) (ho : condN (c + 1) c one = true) : shVal nd ((c : Int) + 1) (one : Int) = some ((gt N (ixN (c + 1) one) : Nat) : Int) := by
  have hi := ix_lt ho
  have e1 : shIdx (one : Int) ((c : Int) + 1) = ((ixN (c + 1) one : Nat) : Int) := by
    unfold shIdx
    have eb : Builtin.bitNot (one : Int) = -(one : Int) - 1 := rfl
    rw [eb, show ((c : Int) + 1) = ((c + 1 : Nat) : Int) by omega, bitAnd_neg]
    rfl
  unfold shVal
  rw [e1]
  generalize ixN (c + 1) one = i at *
  rw [idxI_nat nd i (by omega) (by omega), C.get i (by omega)]
theorem shVals_nat (sets : List Nat) (nd : List Int) (N c : Nat) (C : Cod nd N) (hl : nd.length = c + 1) (hc : c ≤ 31) : shVals (toI sets) nd ((c : Int) + 1) = some ((sets.filter (condN (c + 1) c)).map fun one => ((gt N (ixN (c + 1) one) : Nat) : Int)) := by
  unfold shVals toI
  rw [List.filter_map]
  have e : (shCond ((c : Int) + 1) ∘ fun (x : Nat) => (x : Int)) = condN (c + 1) c := by
    funext one
    exact shCond_nat c one
  rw [e]
  exact optMap_mapSome (fun (x : Nat) => (x : Int)) _ _ fun one ho => shVal_nat nd N c one C hl hc (List.mem_filter.mp ho).2
theorem turn_min (sets : List Nat) (N c : Nat) (ht : turnC N (c + 1) c sets ≤ 13) : minL ((sets.filter (condN (c + 1) c)).map fun one => ((gt N (ixN (c + 1) one) : Nat) : Int)) = some ((turnC N (c + 1) c sets : Nat) : Int) := by
  have k1 := turnC_mem N (c + 1) c sets
  have k2 := turnC_le N (c + 1) c sets
  generalize turnC N (c + 1) c sets = t at *
  refine minL_mem ?_ fun a ha => ?_
  · rcases k1 with h | ⟨one, h1, h2, h3⟩
    · omega
    · rw [h3]
      exact List.mem_map.mpr ⟨one, List.mem_filter.mpr ⟨h1, h2⟩, rfl⟩
  · obtain ⟨one, h1, rfl⟩ := List.mem_map.mp ha
    have := k2 one (List.mem_filter.mp h1).1 (List.mem_filter.mp h1).2
    omega
theorem turn_bind {v : Option (List Int)} {xs : List Int} {t : Nat} (h1 : v = some xs) (h2 : minL xs = some (t : Int)) (ht : t ≤ 13) : (v.bind fun xs => (minL xs).bind fun m => smallO (1 + m)) = some ((t + 1 : Nat) : Int) := by
  have key : smallO (1 + (t : Int)) = some ((t + 1 : Nat) : Int) := by
    rw [show (1 + (t : Int)) = ((t + 1 : Nat) : Int) by omega]
    exact smallO_of (by omega) (by omega)
  generalize smallO = f at *
  rw [h1, Option.bind_some, h2, Option.bind_some]
  exact key
theorem turn_eq (sets : List Nat) (nd : List Int) (N c : Nat) (C : Cod nd N) (hl : nd.length = c + 1) (hc : c ≤ 31) (ht : turnC N (c + 1) c sets ≤ 13) : shTurn (toI sets) nd ((c : Int) + 1) = some ((turnC N (c + 1) c sets + 1 : Nat) : Int) :=
  turn_bind (shVals_nat sets nd N c C hl hc) (turn_min sets N c ht) ht
theorem need_eq (sets : List Nat) : ∀ (m : Nat), m ≤ 32 → (∀ c, c < m → gt (needC sets m) (c + 1) ≤ 14) → ∃ nd, shNeed (toI sets) m = some nd ∧ Cod nd (needC sets m) ∧ nd.length = m + 1
  | 0, _, _ => ⟨[0], rfl, Cod.zero, rfl⟩
  | m + 1, hm, ok => by
    have h14 := turnC_le14 (needC sets m) (m + 1) m sets
    obtain ⟨c1, c2, c3⟩ := code_add (needC sets m) (turnC (needC sets m) (m + 1) m sets + 1) (m + 1) (needC_lt sets m) (by omega)
    rw [← needC_succ] at c1 c2 c3
    obtain ⟨nd, h1, h2, h3⟩ := need_eq sets m (by omega) fun c hc => by
      rw [← c3 (c + 1) (by omega)]
      exact ok c (by omega)
    have ht : turnC (needC sets m) (m + 1) m sets ≤ 13 := by
      have := ok m (by omega)
      omega
    have et := turn_eq sets nd (needC sets m) m h2 h3 (by omega) ht
    refine ⟨nd ++ [((turnC (needC sets m) (m + 1) m sets + 1 : Nat) : Int)], ?_, ?_, by rw [List.length_append, h3]; rfl⟩
    · rw [shNeed, h1]
      simp only [Option.bind_some]
      rw [et]; rfl
    · rw [needC_succ, ← h3]
      have := h2.push (v := turnC (needC sets m) (m + 1) m sets + 1) (by omega)
      rw [h3] at this ⊢
      exact this
end Mine
end
section
open PySem
set_option maxRecDepth 1000000
namespace Mine
theorem bitN_succ (b : Nat → Bool) (j : Nat) : bitN b (j + 1) = if b j then bitN b j + 2 ^ j else bitN b j := by
  have e : bitN b (j + 1) = @Bool.rec (fun _ => Nat) (bitN b j) (Nat.add (bitN b j) (Nat.pow 2 j)) (b j) := rfl
  rw [e, brec]; rfl
theorem bitN_congr {b c : Nat → Bool} : ∀ (k : Nat), (∀ j, j < k → b j = c j) → bitN b k = bitN c k
  | 0, _ => rfl
  | k + 1, h => by rw [bitN_succ, bitN_succ, bitN_congr k fun j hj => h j (by omega), h k (by omega)]
theorem filtN_eq (L b : Nat) : ∀ l : List Nat, filtN L b l = (l.filter fun r => Nat.beq (Nat.land r L) r).map (b + ·)
  | [] => rfl
  | x :: r => by
    have e : filtN L b (x :: r) = @Bool.rec (fun _ => List Nat) (filtN L b r) (Nat.add b x :: filtN L b r) (Nat.beq (Nat.land x L) x) := rfl
    rw [e, brec, filtN_eq L b r, List.filter_cons]
    cases Nat.beq (Nat.land x L) x <;> rfl
theorem appN_eq (m : List Nat) : ∀ l : List Nat, appN l m = l ++ m
  | [] => rfl
  | x :: r => by
    have e : appN (x :: r) m = x :: appN r m := rfl
    rw [e, appN_eq m r]; rfl
theorem gs_succ (P : Nat → Nat → Bool) (k : Nat) : gs P (k + 1) = gs P k ++ ((gs P k).filter fun r => Nat.beq (Nat.land r (bitN (fun j => P j k) k)) r).map (2 ^ k + ·) := by
  have e : gs P (k + 1) = appN (gs P k) (filtN (bitN (fun j => P j k) k) (Nat.pow 2 k) (gs P k)) := rfl
  rw [e, appN_eq, filtN_eq]; rfl
noncomputable def linkNCheck (k : Nat) (l : List Bool) : Bool := (List.range (2 ^ k)).all fun r => Nat.beq (Nat.land r (bitN (fun j => l.getD j false) k)) r == rowP k (fun j => l.getD j false) r
theorem linkN_all : ((List.range 5).all fun k => (allBs k).all (linkNCheck k)) = true := by decide +kernel
theorem rowP_congr {k : Nat} {b c : Nat → Bool} {r : Nat} (h : ∀ j, j < k → b j = c j) : rowP k b r = rowP k c r := by
  rw [Bool.eq_iff_iff, rowP_iff, rowP_iff]
  constructor
  · intro g j hj a; rw [← h j hj]; exact g j hj a
  · intro g j hj a; rw [h j hj]; exact g j hj a
theorem linkN_eq {k : Nat} (hk : k < 5) (b : Nat → Bool) {r : Nat} (hr : r < 2 ^ k) : Nat.beq (Nat.land r (bitN b k)) r = rowP k b r := by
  have hl : ((List.range k).map b).length = k := by rw [List.length_map, List.length_range]
  have key := List.all_eq_true.mp (all_range linkN_all hk) _ (allBs_mem k ((List.range k).map b) hl)
  have e := eq_of_beq (all_range key hr)
  have hg : ∀ j, j < k → ((List.range k).map b).getD j false = b j := by
    intro j hj
    rw [List.getD_eq_getElem?_getD, List.getElem?_map, List.getElem?_range hj]; rfl
  rw [bitN_congr k hg] at e
  rw [e]
  exact rowP_congr hg
theorem gs_eq (P : Nat → Nat → Bool) : ∀ k, k ≤ 5 → gs P k = (List.range (2 ^ k)).filter (goodP k P)
  | 0, _ => rfl
  | k + 1, h => by
    rw [gs_succ, gs_eq P k (by omega), Nat.pow_succ, Nat.mul_two, List.range_add, List.filter_append, List.filter_map, List.filter_filter]
    congr 1
    · exact List.filter_congr fun r hr => (goodP_low (List.mem_range.mp hr)).symm
    · congr 1
      refine List.filter_congr fun r hr => ?_
      have hr := List.mem_range.mp hr
      rw [linkN_eq (by omega) _ hr]
      show _ = goodP (k + 1) P (2 ^ k + r)
      rw [goodP_high hr, Bool.and_comm]
theorem goodP_zero (n : Nat) (P : Nat → Nat → Bool) : goodP n P 0 = true := by
  rw [goodP_iff]
  intro k _ j _ a _
  rw [Nat.zero_testBit] at a
  cases a
theorem sets_eq {n : Nat} (hn : n = 4 ∨ n = 5) (P : Nat → Nat → Bool) : shSets (gm n P) n = toI (gs P n).tail := by
  have h5 : n ≤ 5 := by omega
  unfold gm
  rw [marks_good P n h5 n (Nat.le_refl _), gs_eq P n h5]
  obtain ⟨m, hm⟩ : ∃ m, 2 ^ n = m + 1 := ⟨2 ^ n - 1, by rcases hn with rfl | rfl <;> rfl⟩
  unfold shSets fromOne toI
  rw [hm, Nat.add_sub_cancel, List.range_succ_eq_map, List.filter_cons, goodP_zero, if_pos rfl, List.tail_cons, List.filter_map, List.filter_map, List.map_map]
  have e : ((fun (one : Int) => (List.map (goodP n P) (0 :: List.map Nat.succ (List.range m))).getD one.toNat false) ∘ fun (i : Nat) => (i : Int) + 1) = fun i => (List.map (goodP n P) (0 :: List.map Nat.succ (List.range m))).getD (i + 1) false := by
    funext i
    show (List.map (goodP n P) _).getD ((i : Int) + 1).toNat false = _
    rw [show ((i : Int) + 1).toNat = i + 1 by omega]
  rw [e]
  have ef : (List.range m).filter (fun i => (List.map (goodP n P) (0 :: List.map Nat.succ (List.range m))).getD (i + 1) false) = (List.range m).filter (goodP n P ∘ Nat.succ) := by
    refine List.filter_congr fun i hi => ?_
    have hi := List.mem_range.mp hi
    rw [List.map_cons, List.getD_eq_getElem?_getD, List.getElem?_cons_succ, List.map_map, List.getElem?_map, List.getElem?_range hi]
    rfl
  rw [ef]
  rfl
end Mine
end
section
open PySem
set_option maxRecDepth 1000000
namespace Mine
theorem gt_zero (sets : List Nat) : ∀ m, gt (needC sets m) 0 = 0
  | 0 => by rw [gt_eq]; show 0 / 16 ^ 0 % 16 = 0; decide
  | m + 1 => by
    have h14 := turnC_le14 (needC sets m) (m + 1) m sets
    obtain ⟨_, _, c3⟩ := code_add (needC sets m) (turnC (needC sets m) (m + 1) m sets + 1) (m + 1) (needC_lt sets m) (by omega)
    rw [needC_succ, c3 0 (by omega)]
    exact gt_zero sets m
theorem mostC_succ (N k c : Nat) : mostC N k (c + 1) = if Nat.ble (gt N c) k then (if Nat.ble (gt onesN c) (mostC N k c) then mostC N k c else gt onesN c) else mostC N k c := by
  have e : mostC N k (c + 1) = @Bool.rec (fun _ => Nat) (mostC N k c) (@Bool.rec (fun _ => Nat) (gt onesN c) (mostC N k c) (Nat.ble (gt onesN c) (mostC N k c))) (Nat.ble (gt N c) k) := rfl
  rw [e, brec, brec]
theorem mostC_ge (N k : Nat) : ∀ c, ∀ ch, ch < c → gt N ch ≤ k → gt onesN ch ≤ mostC N k c
  | 0, ch, h, _ => by omega
  | c + 1, ch, h, hk => by
    have ih := mostC_ge N k c
    rw [mostC_succ]
    generalize mostC N k c = M at *
    by_cases e : ch = c
    · subst e
      rw [if_pos (Nat.ble_eq.mpr hk)]
      by_cases hb : Nat.ble (gt onesN ch) M = true
      · rw [if_pos hb]; exact Nat.ble_eq.mp hb
      · rw [if_neg hb]; exact Nat.le_refl _
    · have := ih ch (by omega) hk
      by_cases h1 : Nat.ble (gt N c) k = true
      · rw [if_pos h1]
        by_cases hb : Nat.ble (gt onesN c) M = true
        · rw [if_pos hb]; exact this
        · rw [if_neg hb]
          rw [Nat.ble_eq] at hb
          omega
      · rw [if_neg h1]; exact this
theorem mostC_mem (N k : Nat) : ∀ c, mostC N k c = 0 ∨ ∃ ch, ch < c ∧ gt N ch ≤ k ∧ mostC N k c = gt onesN ch
  | 0 => .inl rfl
  | c + 1 => by
    have ih := mostC_mem N k c
    rw [mostC_succ]
    generalize mostC N k c = M at *
    have lift : (∃ ch, ch < c ∧ gt N ch ≤ k ∧ M = gt onesN ch) → ∃ ch, ch < c + 1 ∧ gt N ch ≤ k ∧ M = gt onesN ch := fun ⟨ch, h1, h2⟩ => ⟨ch, by omega, h2⟩
    by_cases h1 : Nat.ble (gt N c) k = true
    · rw [if_pos h1]
      by_cases hb : Nat.ble (gt onesN c) M = true
      · rw [if_pos hb]; exact ih.imp id lift
      · rw [if_neg hb]; exact .inr ⟨c, by omega, Nat.ble_eq.mp h1, rfl⟩
    · rw [if_neg h1]; exact ih.imp id lift
theorem ones4 : ((List.range 16).all fun ch => (shOnes 4).getD ch 0 == (gt onesN ch : Int)) = true := by decide +kernel
theorem ones5 : ((List.range 32).all fun ch => (shOnes 5).getD ch 0 == (gt onesN ch : Int)) = true := by decide +kernel
theorem ones_at {n : Nat} (hn : n = 4 ∨ n = 5) {ch : Nat} (h : ch < 2 ^ n) : (shOnes n).getD ch 0 = (gt onesN ch : Int) := by
  rcases hn with rfl | rfl
  · exact eq_of_beq (all_range ones4 h)
  · exact eq_of_beq (all_range ones5 h)
theorem maxL_mem' {xs : List Int} {m : Int} (h : m ∈ xs) (hm : ∀ a ∈ xs, a ≤ m) : maxL xs = some m := by
  cases xs with
  | nil => cases h
  | cons x r =>
    obtain ⟨k1, k2⟩ := foldl_max_spec r x
    show some (r.foldl max x) = some m
    congr 1
    exact Int.le_antisymm (hm _ k1) (k2 _ h)
theorem most_eq {n : Nat} (hn : n = 4 ∨ n = 5) {nd : List Int} {N : Nat} (C : Cod nd N) (hl : nd.length = 2 ^ n) (h0 : gt N 0 = 0) (k : Nat) : shMost (shOnes n) nd (2 ^ n) (k : Nat) = some ((mostC N k (2 ^ n) : Nat) : Int) := by
  have hg : ∀ ch, ch < 2 ^ n → nd.getD ch 0 = (gt N ch : Int) := fun ch h => by
    rw [List.getD_eq_getElem?_getD, C.get ch (by omega)]; rfl
  have k1 := mostC_mem N k (2 ^ n)
  have k2 := mostC_ge N k (2 ^ n)
  have hp : 0 < 2 ^ n := by rcases hn with rfl | rfl <;> decide
  have hone : gt onesN 0 = 0 := by rw [gt_eq]; decide
  generalize mostC N k (2 ^ n) = M at *
  have hin : ∀ ch, ch < 2 ^ n → gt N ch ≤ k → ((gt onesN ch : Nat) : Int) ∈ shPick (shOnes n) nd (2 ^ n) (k : Nat) := fun ch h1 h2 => by
    unfold shPick
    refine List.mem_map.mpr ⟨ch, List.mem_filter.mpr ⟨List.mem_range.mpr h1, ?_⟩, ones_at hn h1⟩
    rw [hg ch h1]
    exact decide_eq_true (by omega)
  unfold shMost
  refine maxL_mem' ?_ fun a ha => ?_
  · rcases k1 with h | ⟨ch, h1, h2, h3⟩
    · have := hin 0 hp (by omega)
      rw [hone] at this
      rw [h]; exact this
    · rw [h3]; exact hin ch h1 h2
  · unfold shPick at ha
    obtain ⟨ch, hc, rfl⟩ := List.mem_map.mp ha
    obtain ⟨h1, h2⟩ := List.mem_filter.mp hc
    have h1 := List.mem_range.mp h1
    have h2 := of_decide_eq_true h2
    rw [hg ch h1] at h2
    rw [ones_at hn h1]
    have := k2 ch h1 (by omega)
    omega
theorem shMosts_getD (ones nd : List Int) (m : Nat) : ∀ i j, j < i → (shMosts ones nd m i).getD j 0 = (shMost ones nd m (j : Nat)).getD 0
  | 0, j, h => by omega
  | i + 1, j, h => by
    rw [shMosts, List.getD_eq_getElem?_getD]
    by_cases e : j < i
    · rw [List.getElem?_append_left (by rw [shMosts_len]; exact e), ← List.getD_eq_getElem?_getD]
      exact shMosts_getD ones nd m i j e
    · have : j = i := by omega
      subst this
      rw [List.getElem?_append_right (by rw [shMosts_len]; omega), shMosts_len, Nat.sub_self]
      rfl
noncomputable def rowsI (mo : Nat → Nat) (n : Nat) : List Int := (List.range n).map fun k => ((mo (k + 1) : Nat) : Int) - ((mo k : Nat) : Int)
theorem okC_all (N : Nat) : ∀ c, okC N c = true → ∀ i, i < c → gt N (i + 1) ≤ 14
  | 0, _, i, h => by omega
  | c + 1, h, i, hi => by
    have e : okC N (c + 1) = @Bool.rec (fun _ => Bool) false (okC N c) (Nat.ble (gt N (c + 1)) 14) := rfl
    rw [e, brec] at h
    by_cases hb : Nat.ble (gt N (c + 1)) 14 = true
    · rw [if_pos hb] at h
      by_cases ei : i < c
      · exact okC_all N c h i ei
      · have : i = c := by omega
        subst this
        exact Nat.ble_eq.mp hb
    · rw [if_neg hb] at h; cases h
noncomputable def codeN (n : Nat) (P : Nat → Nat → Bool) : Nat := needC (gs P n).tail (Nat.pred (Nat.pow 2 n))
theorem shape_eq {n : Nat} (hn : n = 4 ∨ n = 5) (P : Nat → Nat → Bool) (ok : okC (codeN n P) (Nat.pred (Nat.pow 2 n)) = true) : shapeOk (gm n P) n = true ∧ shapeRef (gm n P) n = rowsI (fun k => mostC (codeN n P) k (2 ^ n)) n := by
  have hp : Nat.pred (Nat.pow 2 n) = 2 ^ n - 1 := rfl
  have h32 : 2 ^ n ≤ 32 ∧ 0 < 2 ^ n := by rcases hn with rfl | rfl <;> decide
  unfold codeN at *
  rw [hp] at *
  obtain ⟨nd, h1, h2, h3⟩ := need_eq (gs P n).tail (2 ^ n - 1) (by omega) fun c hc => okC_all _ _ ok c hc
  have hl : nd.length = 2 ^ n := by omega
  have h0 := gt_zero (gs P n).tail (2 ^ n - 1)
  have hm := most_eq hn h2 hl h0
  rw [← sets_eq hn P] at h1
  generalize needC (gs P n).tail (2 ^ n - 1) = N at *
  constructor
  · unfold shapeOk
    rw [h1]
    refine List.all_eq_true.mpr fun i _ => ?_
    rw [hm i]; rfl
  · unfold shapeRef
    rw [h1]
    unfold diffs rowsI
    refine List.map_congr_left fun k hk => ?_
    have hk := List.mem_range.mp hk
    rw [shMosts_getD _ _ _ _ _ (by omega), shMosts_getD _ _ _ _ _ (by omega), hm (k + 1), hm k]
    rfl
end Mine
end
section
open PySem
set_option maxRecDepth 1000000
namespace Mine
theorem cntC_eq (mo : Nat → Nat) (k : Nat) : ∀ i, ((List.range i).map fun j => decide (((mo (j + 1) : Nat) : Int) - ((mo j : Nat) : Int) ≥ (k : Int) + 1)).count true = cntC mo k i
  | 0 => rfl
  | i + 1 => by
    have e : cntC mo k (i + 1) = @Bool.rec (fun _ => Nat) (cntC mo k i) (Nat.succ (cntC mo k i)) (Nat.ble (Nat.add (mo i) (Nat.succ k)) (mo (Nat.succ i))) := rfl
    rw [e, brec, List.range_succ, List.map_append, List.count_append, cntC_eq mo k i]
    have e2 : Nat.ble (Nat.add (mo i) (Nat.succ k)) (mo (Nat.succ i)) = decide (((mo (i + 1) : Nat) : Int) - ((mo i : Nat) : Int) ≥ (k : Int) + 1) := by
      rw [Bool.eq_iff_iff, Nat.ble_eq, decide_eq_true_iff]
      show mo i + (k + 1) ≤ mo (i + 1) ↔ _
      omega
    rw [e2]
    have e3 : (List.map (fun j => decide (((mo (j + 1) : Nat) : Int) - ((mo j : Nat) : Int) ≥ (k : Int) + 1)) [i]) = [decide (((mo (i + 1) : Nat) : Int) - ((mo i : Nat) : Int) ≥ (k : Int) + 1)] := rfl
    rw [e3]
    generalize decide (((mo (i + 1) : Nat) : Int) - ((mo i : Nat) : Int) ≥ (k : Int) + 1) = b at *
    cases b <;> rfl
theorem turnOk_all (mo mo' : Nat → Nat) (n : Nat) : ∀ m, turnOk mo mo' n m = true → ∀ k, k < m → cntC mo k n + mo' k = mo' (k + 1)
  | 0, _, k, h => by omega
  | m + 1, h, k, hk => by
    have e : turnOk mo mo' n (m + 1) = @Bool.rec (fun _ => Bool) false (turnOk mo mo' n m) (Nat.beq (Nat.add (cntC mo m n) (mo' m)) (mo' (Nat.succ m))) := rfl
    rw [e, brec] at h
    by_cases hb : Nat.beq (Nat.add (cntC mo m n) (mo' m)) (mo' (Nat.succ m)) = true
    · rw [if_pos hb] at h
      by_cases ek : k < m
      · exact turnOk_all mo mo' n m h k ek
      · have : k = m := by omega
        subst this
        exact Nat.eq_of_beq_eq_true hb
    · rw [if_neg hb] at h; cases h
theorem turned_eq (mo mo' : Nat → Nat) (n : Nat) (h : turnOk mo mo' n n = true) : turnedRef (rowsI mo n) = rowsI mo' n := by
  have hl : (rowsI mo n).length = n := by unfold rowsI; rw [List.length_map, List.length_range]
  unfold turnedRef
  rw [hl]
  unfold rowsI
  refine List.map_congr_left fun k hk => ?_
  have hk := List.mem_range.mp hk
  have e := turnOk_all mo mo' n n h k hk
  have c := cntC_eq mo k n
  rw [List.map_map]
  have c2 : (((List.range n).map ((fun r => decide (r ≥ (k : Int) + 1)) ∘ fun k => ((mo (k + 1) : Nat) : Int) - ((mo k : Nat) : Int))).count true) = cntC mo k n := c
  rw [c2]
  omega
theorem forceN_eq (f : Nat → Bool) (N : Nat) : forceN f N = f N := by cases N <;> rfl
theorem greeneC_ok {n : Nat} (hn : n = 4 ∨ n = 5) (P : Nat → Nat → Bool) (h : greeneC n P = true) : greene n P = true := by
  have e : greeneC n P = chkC n (codeN n P) (codeN n (notP P)) := by
    unfold greeneC
    rw [forceN_eq, forceN_eq]; rfl
  rw [e] at h
  unfold chkC at h
  rw [brec] at h
  by_cases a1 : okC (codeN n P) (Nat.pred (Nat.pow 2 n)) = true
  · rw [if_pos a1, brec] at h
    by_cases a2 : okC (codeN n (notP P)) (Nat.pred (Nat.pow 2 n)) = true
    · rw [if_pos a2, brec] at h
      by_cases a3 : turnOk (fun k => mostC (codeN n P) k (Nat.pow 2 n)) (fun k => mostC (codeN n (notP P)) k (Nat.pow 2 n)) n n = true
      · rw [if_pos a3] at h
        obtain ⟨b1, b2⟩ := shape_eq hn P a1
        obtain ⟨b3, b4⟩ := shape_eq hn (notP P) a2
        have t1 := turned_eq _ _ n a3
        have t2 := turned_eq _ _ n h
        unfold greene
        rw [b1, b3, b2, b4]
        simp only [Bool.and_eq_true, beq_iff_eq]
        exact ⟨⟨trivial, trivial⟩, t1, t2⟩
      · rw [if_neg a3] at h; cases h
    · rw [if_neg a2] at h; cases h
  · rw [if_neg a1] at h; cases h
noncomputable def gcC (n : Nat) (l : List Bool) : Bool := !transP n (bOf l) || greeneC n (bOf l)
theorem gc4 : ((allBs 6).all (gcC 4)) = true := by decide +kernel
theorem g5a : ((allBs 7).all fun l => gcC 5 (true :: true :: true :: l)) = true := by decide +kernel
theorem g5b : ((allBs 7).all fun l => gcC 5 (true :: true :: false :: l)) = true := by decide +kernel
theorem g5c : ((allBs 7).all fun l => gcC 5 (true :: false :: true :: l)) = true := by decide +kernel
theorem g5d : ((allBs 7).all fun l => gcC 5 (true :: false :: false :: l)) = true := by decide +kernel
theorem g5e : ((allBs 7).all fun l => gcC 5 (false :: true :: true :: l)) = true := by decide +kernel
theorem g5f : ((allBs 7).all fun l => gcC 5 (false :: true :: false :: l)) = true := by decide +kernel
theorem g5g : ((allBs 7).all fun l => gcC 5 (false :: false :: true :: l)) = true := by decide +kernel
theorem g5h : ((allBs 7).all fun l => gcC 5 (false :: false :: false :: l)) = true := by decide +kernel
theorem gc5 : ((allBs 10).all (gcC 5)) = true := allBs_step (allBs_step (allBs_step g5a g5b) (allBs_step g5c g5d)) (allBs_step (allBs_step g5e g5f) (allBs_step g5g g5h))
theorem gc_ok {n : Nat} (hn : n = 4 ∨ n = 5) {l : List Bool} (h : gcC n l = true) : greeneCheck n l = true := by
  unfold gcC at h
  unfold greeneCheck
  cases ht : transP n (bOf l) with
  | false => rfl
  | true =>
    rw [ht] at h
    exact greeneC_ok hn _ h
theorem greene4 : ((allBs 6).all (greeneCheck 4)) = true := List.all_eq_true.mpr fun l hl => gc_ok (.inl rfl) (List.all_eq_true.mp gc4 l hl)
theorem greene5 : ((allBs 10).all (greeneCheck 5)) = true := List.all_eq_true.mpr fun l hl => gc_ok (.inr rfl) (List.all_eq_true.mp gc5 l hl)
end Mine
end
section
open PySem
set_option maxRecDepth 1000000
namespace Mine
theorem transP_iff {n : Nat} {P : Nat → Nat → Bool} : transP n P = true ↔ ∀ k, k < n → ∀ j, j < k → P j k = true → ∀ i, i < j → P i j = true → P i k = true := by
  unfold transP
  rw [List.all_eq_true]
  constructor
  · intro h k hk j hj a i hi b
    have := List.all_eq_true.mp (h k (List.mem_range.mpr hk)) j (List.mem_range.mpr hj)
    rw [a] at this
    have := List.all_eq_true.mp this i (List.mem_range.mpr hi)
    rw [b] at this
    exact this
  · intro h k hk
    refine List.all_eq_true.mpr fun j hj => ?_
    cases a : P j k with
    | false => rfl
    | true =>
      refine List.all_eq_true.mpr fun i hi => ?_
      cases b : P i j with
      | false => rfl
      | true => rw [h k (List.mem_range.mp hk) j (List.mem_range.mp hj) a i (List.mem_range.mp hi) b]; rfl
theorem greene_congr {n : Nat} {P Q : Nat → Nat → Bool} (h : ∀ k, k < n → ∀ j, j < k → P j k = Q j k) : greene n P = greene n Q := by
  have e1 : gm n P = gm n Q := by unfold gm; rw [linksOf_congr n h]
  have e2 : gm n (notP P) = gm n (notP Q) := by
    unfold gm
    rw [linksOf_congr n fun k hk j hj => ?_]
    unfold notP
    rw [h k hk j hj]
  unfold greene
  rw [e1, e2]
theorem transP_congr {n : Nat} {P Q : Nat → Nat → Bool} (h : ∀ k, k < n → ∀ j, j < k → P j k = Q j k) : transP n P = transP n Q := by
  rw [Bool.eq_iff_iff, transP_iff, transP_iff]
  constructor
  · intro g k hk j hj a i hi b
    rw [← h k hk j hj] at a
    rw [← h j (by omega) i hi] at b
    rw [← h k hk i (by omega)]
    exact g k hk j hj a i hi b
  · intro g k hk j hj a i hi b
    rw [h k hk j hj] at a
    rw [h j (by omega) i hi] at b
    rw [h k hk i (by omega)]
    exact g k hk j hj a i hi b
theorem bOf4 (P : Nat → Nat → Bool) : ∀ k, k < 4 → ∀ j, j < k → bOf (bList4 P) j k = P j k := by
  intro k hk j hj
  rcases four hk with rfl | rfl | rfl | rfl <;> rcases four (show j < 4 by omega) with rfl | rfl | rfl | rfl <;> first | rfl | omega
theorem bOf5 (P : Nat → Nat → Bool) : ∀ k, k < 5 → ∀ j, j < k → bOf (bList5 P) j k = P j k := by
  intro k hk j hj
  rcases five hk with rfl | rfl | rfl | rfl | rfl <;> rcases five (show j < 5 by omega) with rfl | rfl | rfl | rfl | rfl <;> first | rfl | omega
theorem greene_all {n : Nat} (hn : n = 4 ∨ n = 5) (P : Nat → Nat → Bool) (h : transP n P = true) : greene n P = true := by
  rcases hn with rfl | rfl
  · have c := bOf4 P
    have k := List.all_eq_true.mp greene4 (bList4 P) (allBs_mem 6 _ rfl)
    unfold greeneCheck at k
    rw [transP_congr c, greene_congr c, h] at k
    exact k
  · have c := bOf5 P
    have k := List.all_eq_true.mp greene5 (bList5 P) (allBs_mem 10 _ rfl)
    unfold greeneCheck at k
    rw [transP_congr c, greene_congr c, h] at k
    exact k
theorem trans_all (n : Nat) (p0 p1 p2 : List Nat) : transP n (allP p0 p1 p2) = true := by
  rw [transP_iff]
  intro k _ j _ a i _ b
  unfold allP upP at *
  simp only [Bool.and_eq_true, decide_eq_true_eq] at *
  omega
-- the places
noncomputable def uI (p0 p : List Nat) : List Int := p0.map fun k => ((p.idxOf k : Nat) : Int)
theorem places_rows (p0 p1 p2 : List Nat) : placesV p0 p1 p2 = rowsV (uI p0 p0) (uI p0 p1) (uI p0 p2) := by
  unfold placesV rowsV posV uI
  rw [List.map_map, List.map_map, List.map_map]
  rfl
theorem uI_getD (p0 p : List Nat) (j : Nat) (h : j < p0.length) : (uI p0 p).getD j 0 = (atU p0 p j : Int) := by
  unfold uI
  exact getD_map' (fun k => ((p.idxOf k : Nat) : Int)) p0 j 0 0 h
theorem atU_inj {n : Nat} (hn : n = 4 ∨ n = 5) {p0 p : List Nat} (h0 : p0 ∈ perms n) (hp : p ∈ perms n) {j k : Nat} (hj : j < n) (hk : k < n) (h : atU p0 p j = atU p0 p k) : j = k := by
  have P0 := perms_lt hn h0
  have P := perms_lt hn hp
  unfold atU at h
  have e1 := (P.2.2.2.1 _ (P0.2.2.2.2 j hj).1).2
  have e2 := (P.2.2.2.1 _ (P0.2.2.2.2 k hk).1).2
  rw [h, e2] at e1
  have f1 := (P0.2.2.2.2 j hj).2
  have f2 := (P0.2.2.2.2 k hk).2
  rw [← f1, ← f2, e1]
theorem ltB_up {n : Nat} (hn : n = 4 ∨ n = 5) {p0 p : List Nat} (h0 : p0 ∈ perms n) (hp : p ∈ perms n) {j k : Nat} (hj : j < k) (hk : k < n) : ltB (uI p0 p) k j = !upP p0 p j k := by
  have P0 := perms_lt hn h0
  unfold ltB upP
  rw [uI_getD _ _ k (by omega), uI_getD _ _ j (by omega)]
  have ne : atU p0 p j ≠ atU p0 p k := fun e => by
    have := atU_inj hn h0 hp (by omega) hk e
    omega
  by_cases h : atU p0 p j < atU p0 p k
  · rw [decide_eq_true h, decide_eq_false (by omega)]; rfl
  · rw [decide_eq_false h, decide_eq_true (by omega)]; rfl
theorem count3 (a b c : Bool) : decide (((([!a, !b, !c] : List Bool).count true : Nat) : Int) > 0) = !(a && (b && c)) := by
  cases a <;> cases b <;> cases c <;> rfl
theorem apB_not {n : Nat} (hn : n = 4 ∨ n = 5) {p0 p1 p2 : List Nat} (h0 : p0 ∈ perms n) (h1 : p1 ∈ perms n) (h2 : p2 ∈ perms n) {j k : Nat} (hj : j < k) (hk : k < n) : apB (uI p0 p0) (uI p0 p1) (uI p0 p2) j k = notP (allP p0 p1 p2) j k := by
  unfold apB ltsB
  rw [ltB_up hn h0 h0 hj hk, ltB_up hn h0 h1 hj hk, ltB_up hn h0 h2 hj hk]
  exact count3 _ _ _
theorem ap_links {n : Nat} (hn : n = 4 ∨ n = 5) {p0 p1 p2 : List Nat} (h0 : p0 ∈ perms n) (h1 : p1 ∈ perms n) (h2 : p2 ∈ perms n) : ∀ m, m ≤ n → apRef (uI p0 p0) (uI p0 p1) (uI p0 p2) m = linksOf (notP (allP p0 p1 p2)) m
  | 0, _ => rfl
  | m + 1, h => by
    rw [apRef, linksOf, ap_links hn h0 h1 h2 m (by omega)]
    congr 2
    unfold apAt linkL
    congr 2
    refine List.filter_congr fun j hj => ?_
    have := List.mem_range.mp hj
    exact apB_not hn h0 h1 h2 this (by omega)
structure Ends (n : Nat) (p0 p1 p2 : List Nat) : Prop where
  ok1 : shapeOk (lnL n p0 p1 p2) n = true
  ok2 : shapeOk (marksAt (apRef (uI p0 p0) (uI p0 p1) (uI p0 p2) n) n) n = true
  t1 : turnedRef (shapeRef (lnL n p0 p1 p2) n) = shapeRef (marksAt (apRef (uI p0 p0) (uI p0 p1) (uI p0 p2) n) n) n
  t2 : turnedRef (shapeRef (marksAt (apRef (uI p0 p0) (uI p0 p1) (uI p0 p2) n) n) n) = shapeRef (lnL n p0 p1 p2) n
theorem ends {n : Nat} (hn : n = 4 ∨ n = 5) {p0 p1 p2 : List Nat} (h0 : p0 ∈ perms n) (h1 : p1 ∈ perms n) (h2 : p2 ∈ perms n) : Ends n p0 p1 p2 := by
  have g := greene_all hn _ (trans_all n p0 p1 p2)
  unfold greene at g
  simp only [Bool.and_eq_true, beq_iff_eq] at g
  have e1 : lnL n p0 p1 p2 = gm n (allP p0 p1 p2) := by
    unfold gm
    rw [ln_good, marks_good _ n (by omega) n (Nat.le_refl _)]
  have e2 : marksAt (apRef (uI p0 p0) (uI p0 p1) (uI p0 p2) n) n = gm n (notP (allP p0 p1 p2)) := by
    unfold gm
    rw [ap_links hn h0 h1 h2 n (Nat.le_refl _)]
  obtain ⟨⟨a, b⟩, c, d⟩ := g
  exact ⟨by rw [e1]; exact a, by rw [e2]; exact b, by rw [e1, e2]; exact c, by rw [e1, e2]; exact d⟩
end Mine
end
section
open PySem
set_option maxRecDepth 1000000
namespace Mine
noncomputable def laZ (s : La) (n : Int) (LS TV : V) (k pl ap li cr : Option V) : La := { s with size := some (.int n), listings := some LS, taken := some TV, k := k, places := pl, apart := ap, lines := li, crowds := cr }
theorem part_last (f : Nat) (s : La) {n : Nat} (hn : n = 4 ∨ n = 5) {p0 p1 p2 : List Nat} (h0 : p0 ∈ perms n) (h1 : p1 ∈ perms n) (h2 : p2 ∈ perms n) (u0 u1 u2 : List Int) (l0 : u0.length = n) (l1 : u1.length = n) (l2 : u2.length = n) (hu : placesV p0 p1 p2 = rowsV u0 u1 u2)
    (ok1 : shapeOk (lnL n p0 p1 p2) n = true) (ok2 : shapeOk (marksAt (apRef u0 u1 u2 n) n) n = true)
    (t1 : turnedRef (shapeRef (lnL n p0 p1 p2) n) = shapeRef (marksAt (apRef u0 u1 u2 n) n) n) (t2 : turnedRef (shapeRef (marksAt (apRef u0 u1 u2 n) n) n) = shapeRef (lnL n p0 p1 p2) n) :
    mexecs theTab theGlob (f + 67) lawFn.names (laS (laZ s n (lsV p0 p1 p2) (.list (takenV n p0 p1 p2 (2 ^ n))) none none none none none)) none [asg "places" (lw 14), lw 15, lw 16, asg "lines" (lw 17), asg "crowds" (lw 18), .Return (some (exprOf (lw 19))) (posOf (lw 19))] = some (.ret (.bool true)) := by
  have e14 := l14_run (f + 36) (laZ s n (lsV p0 p1 p2) (.list (takenV n p0 p1 p2 (2 ^ n))) none none none none none) hn h0 h1 h2
  rw [hu] at e14
  have r17 := l17_run (f + 3) (laZ s n (lsV p0 p1 p2) (.list (takenV n p0 p1 p2 (2 ^ n))) none (some (rowsV u0 u1 u2)) none none none) n hn p0 p1 p2
  have s1 := (shape_ref f n hn (lnL n p0 p1 p2) (by unfold lnL; rw [List.length_map, List.length_range]) ok1).2
  have s2 := (shape_ref f n hn (marksAt (apRef u0 u1 u2 n) n) (by rw [marksAt_len]) ok2).2
  have hal := apRef_len u0 u1 u2 n
  obtain ⟨kk, e16⟩ := l16_run (f + 15) (laZ s n (lsV p0 p1 p2) (.list (takenV n p0 p1 p2 (2 ^ n))) none none none none none) n hn u0 u1 u2 l0 l1 l2
  have e17 := l17_run (f + 3) (laZ s n (lsV p0 p1 p2) (.list (takenV n p0 p1 p2 (2 ^ n))) kk (some (rowsV u0 u1 u2)) none none none) n hn p0 p1 p2 ((apRef u0 u1 u2 n).map .int) ok1
  generalize lsV p0 p1 p2 = LS at *
  generalize takenV n p0 p1 p2 (2 ^ n) = TV at *
  generalize rowsV u0 u1 u2 = RV at *
  have e18 := l18_run (f + 2) (laZ s n LS (.list TV) kk (some RV) none none none) n hn (.list TV) (some (.list ((shapeRef (lnL n p0 p1 p2) n).map .int))) (apRef u0 u1 u2 n) hal ok2
  have e19 := l19_run (f + 1) (laZ s n LS (.list TV) kk (some RV) none none none) n hn (.list TV) (some (.list ((apRef u0 u1 u2 n).map .int))) _ _ s1 s2 t1 t2
  generalize shapeRef (lnL n p0 p1 p2) n = A at *
  generalize shapeRef (marksAt (apRef u0 u1 u2 n) n) n = B at *
  generalize apRef u0 u1 u2 n = C at *
  have e15 := l15_run (f + 45) (laZ s n LS (.list TV) none none none none none) n RV
  have q14 : mexec theTab theGlob (f + 66) lawFn.names (laS (laZ s n LS (.list TV) none none none none none)) none (asg "places" (lw 14)) = some (.next (laS (laZ s n LS (.list TV) none (some RV) none none none)) none) := e14
  have q15 : mexec theTab theGlob (f + 65) lawFn.names (laS (laZ s n LS (.list TV) none (some RV) none none none)) none (lw 15) = some (.next (laS (laZ s n LS (.list TV) none (some RV) none none none)) (some ("apart", []))) := e15
  have q16 : mexec theTab theGlob (f + 64) lawFn.names (laS (laZ s n LS (.list TV) none (some RV) none none none)) (some ("apart", [])) (lw 16) = some (.next (laS (laZ s n LS (.list TV) kk (some RV) none none none)) (some ("apart", C.map .int))) := e16
  have q17 : mexec theTab theGlob (f + 63) lawFn.names (laS (laZ s n LS (.list TV) kk (some RV) none none none)) (some ("apart", C.map .int)) (asg "lines" (lw 17)) = some (.next (laS (laZ s n LS (.list TV) kk (some RV) none (some (.list (A.map .int))) none)) (some ("apart", C.map .int))) := e17
  have q18 : mexec theTab theGlob (f + 62) lawFn.names (laS (laZ s n LS (.list TV) kk (some RV) none (some (.list (A.map .int))) none)) (some ("apart", C.map .int)) (asg "crowds" (lw 18)) = some (.next (laS (laZ s n LS (.list TV) kk (some RV) (some (.list (C.map .int))) (some (.list (A.map .int))) (some (.list (B.map .int))))) none) := e18
  have q19 : mexec theTab theGlob (f + 61) lawFn.names (laS (laZ s n LS (.list TV) kk (some RV) (some (.list (C.map .int))) (some (.list (A.map .int))) (some (.list (B.map .int))))) none (.Return (some (exprOf (lw 19))) (posOf (lw 19))) = some (.ret (.bool true)) := e19
  refine (exs_next q14).trans ?_
  refine (exs_next q15).trans ?_
  refine (exs_next q16).trans ?_
  refine (exs_next q17).trans ?_
  refine (exs_next q18).trans ?_
  exact exs_ret q19
end Mine
end
section
open PySem
set_option maxRecDepth 1000000
namespace Mine
/-- after S6 -/
theorem part_first (f : Nat) (ns : List Int) (h : ns.length ≤ 4096) (rest : List Stmt) :
    ∃ d1 h1, mexecs theTab theGlob (f + 67) lawFn.names (laS { script := some (.list (ns.map .int)) }) none (asg "size" (lw 0) :: asg "draws" (lw 1) :: asg "draws" (lw 2) :: lw 3 :: lw 4 :: asg "lights" (lw 5) :: lw 6 :: rest) =
      mexecs theTab theGlob (f + 60) lawFn.names (laS (laQ (.list (ns.map .int)) (sizeOf' ns : Int) (.list ((drawsOf ns).map .int)) d1 h1 (some (.list ((drawsOf ns).map paintV))) (some (listsV ((drawsOf ns).map lightsOf))))) none rest := by
  have hb := drawsOf_b ns
  have hl : (drawsOf ns).length ≤ 5 := by rw [drawsOf_len]; unfold sizeOf'; split <;> omega
  have e0 := l0_run (f + 36) ns h
  have e1 := l1_run (f + 35) ns h
  have e2 := l2_run (f + 34) ns
  have e3 := l3_run (f + 43) (.list (ns.map .int)) (sizeOf' ns : Int) (.list ((drawsOf ns).map .int))
  obtain ⟨d1, h1, e4⟩ := l4_run (f + 11) (.list (ns.map .int)) (sizeOf' ns : Int) (drawsOf ns) hb hl
  have e5 := l5_run (f + 11) (.list (ns.map .int)) (sizeOf' ns : Int) (drawsOf ns) d1 h1 ((drawsOf ns).map paintV) hb hl
  have e6 := l6_run (f + 20) (.list (ns.map .int)) (sizeOf' ns : Int) (.list ((drawsOf ns).map .int)) d1 h1 (drawsOf ns) hl
  refine ⟨d1, h1, ?_⟩
  refine (exs_next e0).trans ?_
  refine (exs_next e1).trans ?_
  refine (exs_next e2).trans ?_
  generalize (List.map V.int (drawsOf ns)) = D at *
  generalize (List.map V.int ns) = X at *
  generalize (drawsOf ns).map paintV = PV at *
  generalize listsV ((drawsOf ns).map lightsOf) = LV at *
  generalize (sizeOf' ns : Int) = n at *
  have q3 : mexec theTab theGlob (f + 63) lawFn.names (laS { script := some (.list X), size := some (.int n), draws := some (.list D) }) none (lw 3) = some (.next (laS (laP (.list X) n (.list D) none none)) (some ("paints", []))) := e3
  refine (exs_next q3).trans ?_
  refine (exs_next e4).trans ?_
  refine (exs_next e5).trans ?_
  refine (exs_next e6).trans ?_
  exact rfl
end Mine
end
section
open PySem
set_option maxRecDepth 1000000
namespace Mine
theorem part_mid (f : Nat) (X : V) (D : V) (d h : Option V) {n : Nat} (hn : n = 4 ∨ n = 5) (ds : List Int) (hd : ds.length = n) (p0 p1 p2 : List Nat) (h0 : permOf n (ds.map lightsOf) 0 = p0) (h1 : permOf n (ds.map lightsOf) 1 = p1) (h2 : permOf n (ds.map lightsOf) 2 = p2)
    (m0 : p0 ∈ perms n) (m1 : p1 ∈ perms n) (m2 : p2 ∈ perms n) (hp : p0.length = n) (R : ∀ c, c < 3 → RiOk (ds.map lightsOf) (ordI p0) c) (hA : ∀ c, c < 3 → ansL n p0 p1 p2 c = marksAt (risesRef (ds.map lightsOf) (ordI p0) c n) n) (rest : List Stmt) :
    ∃ s, mexecs theTab theGlob (f + 60) lawFn.names (laS (laQ X n D d h (some (.list (ds.map paintV))) (some (listsV (ds.map lightsOf))))) none (lw 7 :: lw 8 :: lw 9 :: asg "order" (lw 10) :: lw 11 :: lw 12 :: lw 13 :: rest) =
      mexecs theTab theGlob (f + 53) lawFn.names (laS (laZ s n (lsV p0 p1 p2) (.list (takenV n p0 p1 p2 (2 ^ n))) none none none none none)) none rest := by
  have e9 := l9_run (f + 21) (laQ X n D d h (some (.list (ds.map paintV))) (some (listsV (ds.map lightsOf)))) n hn ds hd (listsV (ds.map lightsOf)) p0 p1 p2 h0 h1 h2
  have e10 := l10_run (f + 26) (laQ X n D d h (some (.list (ds.map paintV))) (some (listsV (ds.map lightsOf)))) n hn ds hd (.list (ds.map paintV)) (some (.int ((2 : Nat) : Int))) (some (.list (p2.map (pairF ds 2)))) [.str (listS p0), .str (listS p1), .str (listS p2)] p0 h0 (by omega)
  generalize (p2.map (pairF ds 2)) = RK at *
  generalize hLs : ds.map lightsOf = ls at *
  generalize ds.map paintV = PV at *
  have e7 := l7_run (f + 39) X n D d h (.list PV) (listsV ls)
  have e8 := l8_run (f + 38) (laQ X n D d h (some (.list PV)) (some (listsV ls))) n (.list PV) (listsV ls)
  have e11 := l11_run (f + 35) (laR { laQ X n D d h (some (.list PV)) (some (listsV ls)) with order := some (natsV p0) } n (.list PV) (listsV ls) (some (.int ((2 : Nat) : Int))) (some (.list RK))) n [.str (listS p0), .str (listS p1), .str (listS p2)]
  obtain ⟨c, w, wa, e12⟩ := l12_run (f + 3) (laR { laQ X n D d h (some (.list PV)) (some (listsV ls)) with order := some (natsV p0) } n (.list PV) (listsV ls) (some (.int ((2 : Nat) : Int))) (some (.list RK))) hn m0 m1 m2
  have e13 := l13_run (f + 2) (laT (laR { laQ X n D d h (some (.list PV)) (some (listsV ls)) with order := some (natsV p0) } n (.list PV) (listsV ls) (some (.int ((2 : Nat) : Int))) (some (.list RK))) n (lsV p0 p1 p2) c w wa) n hn (lsV p0 p1 p2) ls p0 p1 p2 hp (some (.int ((2 : Nat) : Int))) none R hA
  generalize listsV ls = LV at *
  generalize natsV p0 = OV at *
  generalize takenV n p0 p1 p2 (2 ^ n) = TV at *
  generalize ansL n p0 p1 p2 2 = A2 at *
  refine ⟨laU (laT (laR { laQ X n D d h (some (.list PV)) (some LV) with order := some OV } n (.list PV) LV (some (.int ((2 : Nat) : Int))) (some (.list RK))) n (lsV p0 p1 p2) c w wa) n (lsV p0 p1 p2) LV OV (some (.list TV)) (some (.int ((2 : Nat) : Int))) (some (.list (A2.map .bool))), ?_⟩
  have q8 : mexec theTab theGlob (f + 58) lawFn.names (laS (laR (laQ X n D d h (some (.list PV)) (some LV)) n (.list PV) LV none none)) none (lw 8) = some (.next (laS (laR { laQ X n D d h (some (.list PV)) (some LV) with listings := none } n (.list PV) LV none none)) (some ("listings", []))) := e8
  have q10 : mexec theTab theGlob (f + 56) lawFn.names (laS (laR { laQ X n D d h (some (.list PV)) (some LV) with listings := none } n (.list PV) LV (some (.int ((2 : Nat) : Int))) (some (.list RK)))) (some ("listings", [.str (listS p0), .str (listS p1), .str (listS p2)])) (asg "order" (lw 10)) =
      some (.next (laS (laR { laQ X n D d h (some (.list PV)) (some LV) with listings := none, order := some OV } n (.list PV) LV (some (.int ((2 : Nat) : Int))) (some (.list RK)))) (some ("listings", [.str (listS p0), .str (listS p1), .str (listS p2)]))) := e10
  have q11 : mexec theTab theGlob (f + 55) lawFn.names (laS (laR { laQ X n D d h (some (.list PV)) (some LV) with listings := none, order := some OV } n (.list PV) LV (some (.int ((2 : Nat) : Int))) (some (.list RK)))) (some ("listings", [.str (listS p0), .str (listS p1), .str (listS p2)])) (lw 11) =
      some (.next (laS (laT (laR { laQ X n D d h (some (.list PV)) (some LV) with order := some OV } n (.list PV) LV (some (.int ((2 : Nat) : Int))) (some (.list RK))) n (lsV p0 p1 p2) none none none)) (some ("taken", []))) := e11
  have q13 : mexec theTab theGlob (f + 53) lawFn.names (laS (laT (laR { laQ X n D d h (some (.list PV)) (some LV) with order := some OV } n (.list PV) LV (some (.int ((2 : Nat) : Int))) (some (.list RK))) n (lsV p0 p1 p2) c w wa)) (some ("taken", TV)) (lw 13) =
      some (.next (laS (laZ (laU (laT (laR { laQ X n D d h (some (.list PV)) (some LV) with order := some OV } n (.list PV) LV (some (.int ((2 : Nat) : Int))) (some (.list RK))) n (lsV p0 p1 p2) c w wa) n (lsV p0 p1 p2) LV OV (some (.list TV)) (some (.int ((2 : Nat) : Int))) (some (.list (A2.map .bool)))) n (lsV p0 p1 p2) (.list TV) none none none none none)) none) := e13
  refine (exs_next e7).trans ?_
  refine (exs_next q8).trans ?_
  refine (exs_next e9).trans ?_
  refine (exs_next q10).trans ?_
  refine (exs_next q11).trans ?_
  refine (exs_next e12).trans ?_
  refine (exs_next q13).trans ?_
  exact rfl
end Mine
end
section
open PySem
set_option maxRecDepth 1000000
namespace Mine
theorem law_plain (ns : List Int) {fn : Fn} (h : theTab "law" = some fn) (hl : ns.length ≤ 4096) : mcall theTab theGlob 120 fn [.list (ns.map .int)] = some (.bool true) := by
  have hfn : lawFn = fn := Option.some.inj (law_tab.symm.trans h)
  subst hfn
  have hn : sizeOf' ns = 4 ∨ sizeOf' ns = 5 := by unfold sizeOf'; split <;> omega
  have hd := drawsOf_len ns
  obtain ⟨d1, h1, e1⟩ := part_first 52 ns hl (lw 7 :: lw 8 :: lw 9 :: asg "order" (lw 10) :: lw 11 :: lw 12 :: lw 13 :: [asg "places" (lw 14), lw 15, lw 16, asg "lines" (lw 17), asg "crowds" (lw 18), .Return (some (exprOf (lw 19))) (posOf (lw 19))])
  have S0 := srt hn ((drawsOf ns).map lightsOf) 0
  have S1 := srt hn ((drawsOf ns).map lightsOf) 1
  have S2 := srt hn ((drawsOf ns).map lightsOf) 2
  have P0 := perms_lt hn S0.mem
  have hol : (ordI (permOf (sizeOf' ns) ((drawsOf ns).map lightsOf) 0)).length = sizeOf' ns := by unfold ordI; rw [List.length_map, P0.1]
  have R : ∀ c, c < 3 → RiOk ((drawsOf ns).map lightsOf) (ordI (permOf (sizeOf' ns) ((drawsOf ns).map lightsOf) 0)) c := fun c hc => {
    len := by rw [hol, List.length_map, hd]
    few := by rw [List.length_map, hd]; omega
    three := fun l hl => by
      obtain ⟨d, _, rfl⟩ := List.mem_map.mp hl
      exact lightsOf_len d
    place := fun i hi => by
      unfold ordI at hi
      obtain ⟨k, hk, rfl⟩ := List.mem_map.mp hi
      have := P0.2.1 k hk
      rw [List.length_map, hd]
      omega
    c3 := hc }
  have A := fun c hc => answers_ok hn ((drawsOf ns).map lightsOf) c hc
  have E := ends hn S0.mem S1.mem S2.mem
  have l0 : ∀ p, (uI (permOf (sizeOf' ns) ((drawsOf ns).map lightsOf) 0) p).length = sizeOf' ns := fun p => by unfold uI; rw [List.length_map, P0.1]
  obtain ⟨s, e2⟩ := part_mid 52 (.list (ns.map .int)) (.list ((drawsOf ns).map .int)) d1 h1 hn (drawsOf ns) hd _ _ _ rfl rfl rfl S0.mem S1.mem S2.mem P0.1 R A [asg "places" (lw 14), lw 15, lw 16, asg "lines" (lw 17), asg "crowds" (lw 18), .Return (some (exprOf (lw 19))) (posOf (lw 19))]
  have e3 := part_last 38 s hn S0.mem S1.mem S2.mem _ _ _ (l0 _) (l0 _) (l0 _) (places_rows _ _ _) E.ok1 E.ok2 E.t1 E.t2
  refine call_of (law_zip _) ?_
  rw [law_body]
  exact e1.trans (e2.trans e3)
end Mine
end
open PySem PySem.W PyProof.Rows
open PySem.W.X PySem.W.ZRun
namespace Mine
theorem law_fn : ∃ fn, theTab "law" = some fn := ⟨_, rfl⟩
theorem law_fn2 {fn : Fn} (h : theTab "law" = some fn) : fnOfStmt "law" textB = some fn := h
set_option maxRecDepth 100000 in
set_option maxHeartbeats 8000000 in
theorem said_ok : PySem.Challenge.rw_sw0011_01.wellSaid = true := by
  unfold OpenLaw.wellSaid OpenRow.wellSaid OpenRow.partSaid looksOpen
  repeat' (with_reducible apply look_both)
  all_goals decide +kernel
end Mine
set_option maxRecDepth 100000 in
set_option maxHeartbeats 8000000 in
theorem PySem.Challenge.cw_sw0011_01_holds : PySem.Challenge.rw_sw0011_01.Holds := by
  w_on
  refine holds_law Mine.said_ok fun said => ?_
  refine holds_openX (q := Mine.viewP) (loose := []) (Xt := fun s => xlAt Mine.viewP [] s && recOk [] s) (XP := XL Mine.viewP []) (Yf := Mine.obsT) (Ya := fun _ => true) (d := Mine.recV "law") (kwd := []) (N := 994) Mine.left (fun s e => xl_of s (Bool.and_eq_true_iff.mp e).1) XL.keeps (by kernel_rfl) (by kernel_rfl) (by kernel_rfl) (fun s e => recFacts_of (Bool.and_eq_true_iff.mp e).2) (by rfl) said (by decide +kernel) ⟨rfl, rfl, rfl, rfl, rfl, by decide +kernel⟩ ?hw ?hc
  case hw => w_witness2
  k_fill
  intro w s₀ s₁ mg mb G y fa o pm cd doc dV kV ho hd hcd hD hmg hg args vals as L hpre hlay hrd hwl hlo
  have GG := Mine.glob_of G.T L.keeps y
  have ef := Mine.fn_top G.T
  wrow_args hpre hlay hrd hwl hlo
  all_goals (
    have htk := Nat.lt_of_lt_of_le (Mine.toks_of y) (X.script_toks L rfl)
    obtain ⟨fn, hfn⟩ := Mine.law_fn
    obtain ⟨f, hf1, hf2⟩ := ef "law" fn (Mine.law_fn2 hfn)
    replace hmg : mg "law" = some (.ref fa) := hmg
    rw [hf1] at hmg
    cases hmg
    refine Mine.law_end GG htk hfn hf2 (by assumption) (by assumption) (Mine.law_plain _ hfn (by omega)) fun s' k => ?_
    obtain ⟨h', tk, rfl, up⟩ := k
    refine GoodW.toG ⟨.inl ⟨_, _, _, rfl, fun _ => rfl, .bool true, ?_, fun _ => ⟨List.nodup_nil, fun _ h => by cases h⟩⟩, up, rfl, hg⟩
    wrow_post)
