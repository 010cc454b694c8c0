import PyProof.Rows.All
import Wide.All
import OpenK.AllK
import Wide.FinOn
import KE.KSortTup
import Lean
import PySem.Challenge.RW_dh5004_02
set_option Elab.async false
set_option linter.all false
section
open PySem
namespace Mine

/-- plain data; a text is a str (oct = false) or a bytes (oct = true), by its codes -/
inductive D where
  | none
  | bool (b : Bool)
  | int (i : Int)
  | txt (oct : Bool) (cs : List Nat)
  | tup (ds : List D)
  | lst (ds : List D)
  | typ (n : String)
  deriving Inhabited

def eqDs (f : D → D → Option Bool) : List D → List D → Option Bool
  | [], [] => some true
  | x :: xs, y :: ys => match f x y, eqDs f xs ys with
    | some a, some b => some (a && b)
    | _, _ => Option.none
  | _, _ => Option.none
def eqD : Nat → D → D → Option Bool
  | _, .int i, .int j => some (decide (i = j))
  | _, .bool i, .bool j => some (decide (i = j))
  | _, .txt o x, .txt p y => if o = p then some (decide (x = y)) else Option.none
  | n + 1, .lst xs, .lst ys => if xs.length = ys.length then eqDs (eqD n) xs ys else some false
  | _, _, _ => Option.none

/-- a list of texts of one kind is less than another -/
def ltTs (o : Bool) : List D → List D → Option Bool
  | [], [] => some false
  | [], .txt p _ :: ys => if o = p then ltTs o [] ys >>= fun _ => some true else Option.none
  | .txt p _ :: xs, [] => if o = p then ltTs o xs [] >>= fun _ => some false else Option.none
  | .txt p x :: xs, .txt q y :: ys => if o = p ∧ o = q then
      (match ltTs o xs ys with
        | some b => some (if x = y then b else decide (x < y))
        | Option.none => Option.none)
      else Option.none
  | _, _ => Option.none

def isFresh : D → Bool
  | .lst _ => true
  | _ => false

def isTxt : D → Bool
  | .txt _ _ => true
  | _ => false

def lim : Nat := 1048576

def powLim (i : Int) : Bool := decide (0 ≤ i) && decide (i < 64)

def small (i : Int) : Bool := decide (-(2 ^ 63) ≤ i) && decide (i < 2 ^ 63)

def binD (op : Operator) (a b : D) : Option D :=
  match op, a, b with
  | .Add, .int i, .int j => some (.int (i + j))
  | .Sub, .int i, .int j => some (.int (i - j))
  | .Mult, .int i, .int j => if small i && small j then some (.int (i * j)) else Option.none
  | .Mod, .int i, .int j => if decide (0 < j) && decide (j < 1073741824) then some (.int (Int.fmod i j)) else Option.none
  | .FloorDiv, .int i, .int j => if decide (0 < j) && decide (j < 1073741824) then some (.int (Int.fdiv i j)) else Option.none
  | .Pow, .int i, .int j => if decide (i = 2) && powLim j then some (.int (2 ^ j.toNat)) else Option.none
  | .RShift, .int i, .int j => if decide (0 ≤ i) && powLim j then some (.int (i / 2 ^ j.toNat)) else Option.none
  | .BitAnd, .int i, .int j => if decide (0 ≤ i) && decide (0 ≤ j) then some (.int ((i.toNat &&& j.toNat : Nat) : Int)) else Option.none
  | .Add, .txt o x, .txt p y => if o = p ∧ x.length + y.length ≤ lim then some (.txt o (x ++ y)) else Option.none
  | .Add, .lst xs, .lst ys => if xs.length + ys.length ≤ lim then some (.lst (xs ++ ys)) else Option.none
  | .Mult, .lst [x], .int j => if decide (0 ≤ j) && decide (j ≤ lim) then some (.lst (List.replicate j.toNat x)) else Option.none
  | _, _, _ => Option.none

def augD (op : Operator) (a b : D) : Option D :=
  match op, a, b with
  | .Add, .int _, .int _ => binD op a b
  | .Mult, .int _, .int _ => binD op a b
  | .Add, .txt _ _, .txt _ _ => binD op a b
  | _, _, _ => Option.none

def truthD : D → Option Bool
  | .none => some false
  | .bool b => some b
  | .int i => some (decide (i ≠ 0))
  | .txt _ cs => if cs.length ≤ lim then some (!cs.isEmpty) else Option.none
  | .lst ds => if ds.length ≤ lim then some (!ds.isEmpty) else Option.none
  | .tup ds => if ds.length ≤ lim then some (!ds.isEmpty) else Option.none
  | .typ _ => Option.none

def memD (x : D) : List D → Option Bool
  | [] => some false
  | y :: ys => match eqD 4 y x, memD x ys with
    | some a, some b => some (a || b)
    | _, _ => Option.none

def idxOfD (x : D) : List D → Nat → Option Nat
  | [], _ => Option.none
  | y :: ys, k => match eqD 4 y x with
    | some true => some k
    | some false => idxOfD x ys (k + 1)
    | Option.none => Option.none

def cmpD (op : CmpOp) (a b : D) : Option Bool :=
  match op with
  | .Eq => eqD 5 a b
  | .NotEq => (eqD 5 a b).map (!·)
  | .Lt => match a, b with
    | .int i, .int j => some (decide (i < j))
    | _, _ => Option.none
  | .Gt => match a, b with
    | .int i, .int j => some (decide (i > j))
    | _, _ => Option.none
  | .Is => match b with
    | .none => (match a with | .none => some true | .int _ => some false | _ => Option.none)
    | _ => Option.none
  | .In => match b with
    | .lst ys => memD a ys
    | .tup ys => memD a ys
    | _ => Option.none
  | .NotIn => match b with
    | .lst ys => (memD a ys).map (!·)
    | .tup ys => (memD a ys).map (!·)
    | _ => Option.none
  | _ => Option.none

def natIdx (n : Nat) (i : Int) : Option Nat :=
  if 0 ≤ i then (if i.toNat < n then some i.toNat else Option.none)
  else if -(n : Int) ≤ i then some (i + n).toNat else Option.none

def idxD (a i : D) : Option D :=
  match a, i with
  | .lst ds, .int k => if ds.length ≤ lim then (natIdx ds.length k).bind (ds[·]?) else Option.none
  | .tup ds, .int k => if ds.length ≤ lim then (natIdx ds.length k).bind (ds[·]?) else Option.none
  | _, _ => Option.none

/-- the place of a slice's bound -/
def clipI (n : Nat) (i : Int) : Nat := if 0 ≤ i then min i.toNat n else (i + n).toNat

def sliceD (a : D) (lo hi : Option D) : Option D :=
  let f (n : Nat) : Option (Nat × Nat) := match lo, hi with
    | Option.none, some (.int k) => if small k then some (0, clipI n k) else Option.none
    | some (.int k), Option.none => if small k then some (clipI n k, n) else Option.none
    | _, _ => Option.none
  match a with
  | .lst ds => if ds.length ≤ lim then (f ds.length).map fun p => .lst ((ds.take p.2).drop p.1) else Option.none
  | .txt o _ => (match lo, hi with
    | Option.none, some (.int 0) => some (.txt o [])
    | _, _ => Option.none)
  | _ => Option.none

def splitC (c : Nat) : List Nat → List (List Nat)
  | [] => [[]]
  | x :: xs => if x = c then [] :: splitC c xs else match splitC c xs with
    | [] => [[x]]
    | p :: ps => (x :: p) :: ps

def joinC (sep : List Nat) : List (List Nat) → List Nat
  | [] => []
  | [x] => x
  | x :: y :: r => x ++ sep ++ joinC sep (y :: r)

def textsOf (o : Bool) : List D → Option (List (List Nat))
  | [] => some []
  | .txt p x :: r => if o = p then (textsOf o r).map (x :: ·) else Option.none
  | _ => Option.none

def S (s : String) : Str := Str.ofString s

def methD (name : Str) (a : D) (args : List D) : Option D :=
  match a, args with
  | .txt o x, [.txt p y] =>
    if name = S "startswith" then (if o = p ∧ x.length ≤ lim ∧ y.length ≤ lim then some (.bool (y.isPrefixOf x)) else Option.none)
    else if name = S "endswith" then (if o = p ∧ x.length ≤ lim ∧ y.length ≤ lim then some (.bool (y.isSuffixOf x)) else Option.none)
    else if name = S "split" then (match y with
      | [c] => if o = p ∧ x.length ≤ lim then some (.lst ((splitC c x).map (.txt o))) else Option.none
      | _ => Option.none)
    else if name = S "encode" then (if o = false ∧ p = false ∧ y = (S "latin-1").cps.toList ∧ x.length ≤ lim ∧ x.all (· < 128) then some (.txt true x) else Option.none)
    else Option.none
  | .txt o x, [.lst ds] =>
    if name = S "join" then (match textsOf o ds with
      | some xs => if ds.length ≤ 64 ∧ x.length ≤ 16 ∧ xs.all (·.length ≤ 1024) then some (.txt o (joinC x xs)) else Option.none
      | Option.none => Option.none)
    else Option.none
  | .lst ds, [x] => if name = S "index" then (if ds.length ≤ lim ∧ (memD x ds).isSome then (idxOfD x ds 0).map fun (k : Nat) => D.int (k : Int) else Option.none) else Option.none
  | _, _ => Option.none

def intsOf : List D → Option (List Int)
  | [] => some []
  | .int i :: r => (intsOf r).map (i :: ·)
  | _ => Option.none

/-- rows (int, int, ..) with their first two, the second apart -/
def keysOf : List D → Option (List (Int × Int))
  | [] => some []
  | .tup (.int w :: .int k :: _) :: r => (keysOf r).map ((w, k) :: ·)
  | _ => Option.none

def keyOf : D → Int × Int
  | .tup (.int w :: .int k :: _) => (w, k)
  | _ => (0, 0)

def leKey (a b : D) : Bool := decide ((keyOf a).1 < (keyOf b).1) || (decide ((keyOf a).1 = (keyOf b).1) && decide ((keyOf a).2 ≤ (keyOf b).2))

def insD (d : D) : List D → List D
  | [] => [d]
  | e :: r => if leKey d e then d :: e :: r else e :: insD d r
def sortD : List D → List D
  | [] => []
  | d :: r => insD d (sortD r)

def maxOf : List Int → Option Int
  | [] => Option.none
  | i :: r => some (r.foldl max i)

def kindT : List D → List D → Bool
  | .txt o _ :: _, _ => o
  | _, .txt o _ :: _ => o
  | _, _ => false

def callD (name : Str) (args : List D) : Option D :=
  match args with
  | [a] =>
    if name = S "len" then (match a with
      | .lst ds => if ds.length ≤ lim then some (.int ds.length) else Option.none
      | _ => Option.none)
    else if name = S "sum" then (match a with
      | .lst ds => if ds.length ≤ lim then (intsOf ds).map fun l => .int l.sum else Option.none
      | _ => Option.none)
    else if name = S "type" then (match a with
      | .txt o _ => some (.typ (if o then "bytes" else "str"))
      | _ => Option.none)
    else if name = S "list" then (match a with
      | .lst ds => if ds.length ≤ lim then some (.lst ds) else Option.none
      | _ => Option.none)
    else if name = S "max" then (match a with
      | .lst [.lst x, .lst y] => (ltTs (kindT x y) x y).bind fun b => some (.lst (if b then y else x))
      | .lst ds => if ds.length ≤ lim then (intsOf ds).bind fun l => (maxOf l).map .int else Option.none
      | _ => Option.none)
    else if name = S "min" then (match a with
      | .lst [.lst x, .lst y] => (ltTs (kindT x y) y x).bind fun b => some (.lst (if b then y else x))
      | _ => Option.none)
    else Option.none
  | _ => Option.none

def rangeD (a b : Int) : List D := (List.range (b - a).toNat).map fun (k : Nat) => .int (a + (k : Int))

inductive AV where
  | unset
  | frz (d : D)
  | own (ds : List D)
  deriving Inhabited

abbrev Ro := List (Str × AV)
def Ro.get (ρ : Ro) (x : Str) : AV := match ρ with
  | [] => .unset
  | p :: r => if p.1 = x then p.2 else Ro.get r x
def Ro.set (ρ : Ro) (x : Str) (a : AV) : Ro := match ρ with
  | [] => [(x, a)]
  | p :: r => if p.1 = x then (x, a) :: r else p :: Ro.set r x a

def AV.strict : AV → Option D
  | .frz d => some d
  | _ => Option.none
def AV.loose : AV → Option D
  | .frz d => some d
  | .own ds => some (.lst ds)
  | .unset => Option.none

def constD : Const → Option D
  | .none => some .none
  | .bool b => some (.bool b)
  | .int i => some (.int i)
  | .str s => if s.cps.size ≤ lim then some (.txt false s.cps.toList) else Option.none
  | .bytes b => if b.length ≤ lim then some (.txt true (b.map (·.toNat))) else Option.none
  | _ => Option.none

def builtins1 : List Str := [S "len", S "sum", S "type", S "list", S "max", S "min"]

def nameIs (e : Expr) (s : String) : Bool := match e with
  | .Name x _ => decide (x = S s)
  | _ => false

/-- a comprehension's own names are not yet bound -/
def hide (sc : Scope) (ρ : Ro) : Ro := ((sc.names.filter fun p => p.2 == .local).map fun p => (p.1, AV.unset)) ++ ρ
def AV.none : AV → Bool
  | .unset => true
  | _ => false

section
variable (Φ : Str → List D → Option D)

def mapO {α β : Type} (f : α → Option β) : List α → Option (List β)
  | [] => some []
  | a :: r => match f a with
    | some b => (mapO f r).map (b :: ·)
    | Option.none => Option.none

/-- one generator's turns -/
def turns (tst : List (Str × AV) → Option Bool) (rest : List (Str × AV) → Option (List D)) (x : Str) (ρ : Ro) : List D → Option (List D)
  | [] => some []
  | d :: ds => match tst ((x, .frz d) :: ρ) with
    | some true => (match rest ((x, .frz d) :: ρ) with
      | some out => (turns tst rest x ρ ds).map (out ++ ·)
      | Option.none => Option.none)
    | some false => turns tst rest x ρ ds
    | Option.none => Option.none

def idxO : Option D → Option D → Option D
  | some a, some k => idxD a k
  | _, _ => Option.none
def pickOL : Option D → Option (List D)
  | some (.lst ds) => some ds
  | _ => Option.none
def pickOS : Option D → Option (List D)
  | some (.lst ds) => some ds
  | some (.tup ds) => some ds
  | _ => Option.none

def oneTest (f : Expr → Option Bool) (ifs : List Expr) : Option Bool := match ifs with
  | [] => some true
  | [c] => f c
  | _ => Option.none

mutual
def ev : Nat → Expr → Ro → Option D
  | 0, _, _ => Option.none
  | n + 1, e, ρ => match e with
    | .Constant c _ _ => constD c
    | .Name x _ => (ρ.get x).strict
    | .BinOp l op r _ => match ev n l ρ, ev n r ρ with
      | some a, some b => binD op a b
      | _, _ => Option.none
    | .UnaryOp .USub x _ => match ev n x ρ with
      | some (.int i) => some (.int (-i))
      | _ => Option.none
    | .BoolOp op [a, b] _ => match ev n a ρ with
      | some v => (match truthD v with
        | some t => if (op == .And) == t then ev n b ρ else some v
        | Option.none => Option.none)
      | Option.none => Option.none
    | .Compare l [op] [r] _ => match (if op == .In || op == .NotIn then ev n l ρ else evB n l ρ), evB n r ρ with
      | some a, some b => (cmpD op a b).map .bool
      | _, _ => Option.none
    | .IfExp t b o _ => match tst n t ρ with
      | some true => ev n b ρ
      | some false => ev n o ρ
      | Option.none => Option.none
    | .List es _ => (mapO (fun e => ev n e ρ) es).map .lst
    | .Tuple es _ _ => (mapO (fun e => ev n e ρ) es).map .tup
    | .Subscript o i _ => match i with
      | .Slice lo hi Option.none _ => match evB n o ρ with
        | some a => (match lo, hi with
          | Option.none, some h => (ev n h ρ).bind fun k => sliceD a Option.none (some k)
          | some l, Option.none => (ev n l ρ).bind fun k => sliceD a (some k) Option.none
          | _, _ => Option.none)
        | Option.none => Option.none
      | _ => idxO (evB n o ρ) (ev n i ρ)
    | .Call (.Attribute o name _) [a] [] _ => match evB n o ρ, ev n a ρ with
      | some x, some y => methD name x [y]
      | _, _ => Option.none
    | .Call (.Name f _) args [] _ =>
      if f = S "isinstance" then (match args with
        | [a, t] => (match ev n a ρ with
          | some (.txt o _) => if nameIs t "bytes" then some (.bool o) else Option.none
          | some (.int _) => if nameIs t "tuple" then some (.bool false) else Option.none
          | some (.tup _) => if nameIs t "tuple" then some (.bool true) else Option.none
          | _ => Option.none)
        | _ => Option.none)
      else if f = S "issubclass" then (match args with
        | [a, .Tuple [t, u] _ _] => (match ev n a ρ with
          | some (.typ s) => if nameIs t "str" && nameIs u "bytes" && (s == "str" || s == "bytes") then some (.bool true) else Option.none
          | _ => Option.none)
        | _ => Option.none)
      else if f = S "tuple" then (match args with
        | [.Call (.Name m _) [.Name g _, a] [] _] => if m = S "map" then (match ev n a ρ with
          | some (.lst ds) => if 1 ≤ ds.length ∧ ds.length ≤ 64 ∧ ds.all isTxt then (match mapO (fun d => Φ g [d]) ds with
            | some out => if out.all isTxt then some (.tup out) else Option.none
            | Option.none => Option.none) else Option.none
          | _ => Option.none) else Option.none
        | _ => Option.none)
      else if builtins1.contains f then (match args with
        | [a] => (match evB n a ρ with
          | some x => callD f [x]
          | Option.none => Option.none)
        | _ => Option.none)
      else (match mapO (fun e => ev n e ρ) args with
        | some ds => Φ f ds
        | Option.none => Option.none)
    | .ListComp elt gens sc _ => match comp n elt gens (hide sc ρ) with
      | some ds => if ds.length ≤ lim then some (.lst ds) else Option.none
      | Option.none => Option.none
    | _ => Option.none
def evB : Nat → Expr → Ro → Option D
  | 0, _, _ => Option.none
  | n + 1, e, ρ => match e with
    | .Name x _ => (ρ.get x).loose
    | e => ev n e ρ
def tst : Nat → Expr → Ro → Option Bool
  | 0, _, _ => Option.none
  | n + 1, e, ρ => match e with
    | .UnaryOp .Not x _ => (tst n x ρ).map (!·)
    | .BoolOp op [a, b] _ => match tst n a ρ with
      | some t => if (op == .And) == t then tst n b ρ else some t
      | Option.none => Option.none
    | .IfExp _ _ _ _ => Option.none
    | .Compare l [op] [r] _ => match (if op == .In || op == .NotIn then ev n l ρ else evB n l ρ), evB n r ρ with
      | some a, some b => cmpD op a b
      | _, _ => Option.none
    | e => match ev n e ρ with
      | some d => truthD d
      | Option.none => Option.none
def src : Nat → Expr → Ro → Option (List D)
  | 0, _, _ => Option.none
  | n + 1, e, ρ => match e with
    | .Call (.Name f _) [a] [] _ =>
      if f = S "range" then (match ev n a ρ with
        | some (.int k) => if decide (0 ≤ k) && decide (k ≤ 4096) then some (rangeD 0 k) else Option.none
        | _ => Option.none)
      else if f = S "enumerate" then Option.none
      else pickOL (evB n e ρ)
    | .Call (.Name f _) [a, b] [] _ =>
      if f = S "range" then (match ev n a ρ, ev n b ρ with
        | some (.int j), some (.int k) => if decide (0 ≤ j) && decide (j ≤ 4096) && decide (0 ≤ k) && decide (k ≤ 4096) then some (rangeD j k) else Option.none
        | _, _ => Option.none)
      else pickOL (evB n e ρ)
    | e => pickOS (evB n e ρ)
def comp : Nat → Expr → List Comprehension → Ro → Option (List D)
  | 0, _, _, _ => Option.none
  | n + 1, elt, gens, ρ => match gens with
    | [] => (ev n elt ρ).map ([·])
    | ⟨.Name x _, it, ifs, 0⟩ :: rest => if (ρ.get x).none = false then Option.none else match src n it ρ with
      | some ds => turns (fun ρ' => oneTest (fun c => tst n c ρ') ifs) (fun ρ' => comp n elt rest ρ') x ρ ds
      | Option.none => Option.none
    | _ => Option.none
end

inductive Flw where
  | next | brk | ret (d : D)

def freezeX (x : Str) (ρ : Ro) : Ro := match ρ.get x with
  | .own ds => ρ.set x (.frz (.lst ds))
  | _ => ρ

variable (ow : Str → Bool) (fz : Nat → List Str)

def storeNew (x : Str) (e : Expr) (d : D) (ρ : Ro) : Ro :=
  match e, d with
  | .List _ _, .lst ds => if ow x then ρ.set x (.own ds) else ρ.set x (.frz d)
  | .BinOp _ .Mult _ _, .lst ds => if ow x && ds.all (fun d => match d with | .int _ => true | .none => true | _ => false) then ρ.set x (.own ds) else ρ.set x (.frz d)
  | .ListComp _ _ _ _, .lst ds => if ow x && ds.all (fun d => match d with | .int _ => true | .none => true | _ => false) then ρ.set x (.own ds) else ρ.set x (.frz d)
  | _, _ => ρ.set x (.frz d)

def storeAll : List Expr → List D → Ro → Option Ro
  | [], [], ρ => some ρ
  | .Name x _ :: es, d :: ds, ρ => storeAll es ds (ρ.set x (.frz d))
  | _, _, _ => Option.none

def allBool : List D → Option Bool
  | [] => Option.none
  | [.bool b] => some b
  | .bool b :: r => match allBool r with
    | some c => if b = c then some b else Option.none
    | Option.none => Option.none
  | _ => Option.none

def sortedArg (e : Expr) : Option Str := match e with
  | .Call (.Name f _) [.Name y _] [] _ => if f = S "sorted" then some y else Option.none
  | _ => Option.none
def ownName (e : Expr) (ρ : Ro) : Bool := match e with
  | .Name y _ => (match ρ.get y with
    | .own _ => true
    | _ => false)
  | _ => false

/-- a for's turns -/
def forT (asg : D → Ro → Option Ro) (body : Ro → Option (Flw × Ro)) : List D → Ro → Option (Flw × Ro)
  | [], ρ => some (.next, ρ)
  | d :: ds, ρ => match asg d ρ with
    | some ρ₁ => (match body ρ₁ with
      | some (.next, ρ₂) => forT asg body ds ρ₂
      | some (.brk, ρ₂) => some (.next, ρ₂)
      | some (.ret v, ρ₂) => some (.ret v, ρ₂)
      | Option.none => Option.none)
    | Option.none => Option.none

def whileT (test : Ro → Option Bool) (body : Ro → Option (Flw × Ro)) : Nat → Ro → Option (Flw × Ro)
  | 0, _ => Option.none
  | k + 1, ρ => match test ρ with
    | some false => some (.next, ρ)
    | some true => (match body ρ with
      | some (.next, ρ₂) => whileT test body k ρ₂
      | some (.brk, ρ₂) => some (.next, ρ₂)
      | some (.ret v, ρ₂) => some (.ret v, ρ₂)
      | Option.none => Option.none)
    | Option.none => Option.none

mutual
def exS : Nat → Stmt → Ro → Option (Flw × Ro)
  | 0, _, _ => Option.none
  | n + 1, st, ρ₀ =>
    let ρ := (fz st.pos.line).foldl (fun r x => freezeX x r) ρ₀
    match st with
    | .Assign [.Name x _] e _ => match sortedArg e with
      | some y => (match (ρ.get y).strict with
        | some (.lst ds) => (match keysOf ds with
          | some ks => if 2 ≤ ds.length ∧ ds.length < 64 ∧ (ks.map (·.2)).Nodup then some (.next, ρ.set x (.frz (.lst (sortD ds)))) else Option.none
          | Option.none => Option.none)
        | _ => Option.none)
      | Option.none => (match ev Φ n e ρ with
        | some d => some (.next, storeNew ow x e d ρ)
        | Option.none => Option.none)
    | .Assign [.Tuple [.Name x _] _ _] (.SetComp elt gens sc _) _ => match comp Φ n elt gens (hide sc ρ) with
      | some ds => if ds.length ≤ 16 then (allBool ds).map fun b => (.next, ρ.set x (.frz (.bool b))) else Option.none
      | Option.none => Option.none
    | .Assign [.Tuple ts _ _] e _ => match ev Φ n e ρ with
      | some (.tup ds) => if 2 ≤ ds.length then (storeAll ts ds ρ).map fun r => (.next, r) else Option.none
      | _ => Option.none
    | .Assign [.Subscript (.Name x _) i _] e _ => match ev Φ n e ρ, ev Φ n i ρ, ρ.get x with
      | some v, some (.int k), .own ds => if 0 ≤ k ∧ k.toNat < ds.length ∧ ds.length ≤ lim then some (.next, ρ.set x (.own (ds.set k.toNat v))) else Option.none
      | _, _, _ => Option.none
    | .AugAssign (.Name x _) op e _ => match (ρ.get x).strict, ev Φ n e ρ with
      | some a, some b => (augD op a b).map fun d => (.next, ρ.set x (.frz d))
      | _, _ => Option.none
    | .AugAssign (.Subscript (.Name x _) i _) op e _ => match ev Φ n i ρ, ev Φ n e ρ, ρ.get x with
      | some (.int k), some b, .own ds => if 0 ≤ k ∧ ds.length ≤ lim then (match ds[k.toNat]? with
          | some (.int a) => (augD op (.int a) b).map fun d => (.next, ρ.set x (.own (ds.set k.toNat d)))
          | _ => Option.none) else Option.none
      | _, _, _ => Option.none
    | .Expr (.Call (.Attribute (.Name x _) m _) [e] [] _) _ => if m = S "append" then (match ev Φ n e ρ, ρ.get x with
      | some v, .own ds => if ds.length ≤ lim then some (.next, ρ.set x (.own (ds ++ [v]))) else Option.none
      | _, _ => Option.none) else Option.none
    | .If t b o _ => match tst Φ n t ρ with
      | some true => exs n b ρ
      | some false => exs n o ρ
      | Option.none => Option.none
    | .For (.Name x _) it body [] _ => if ownName it ρ then Option.none else match src Φ n it ρ with
      | some ds => forT (fun d r => some (r.set x (.frz d))) (fun r => exs n body r) ds ρ
      | Option.none => Option.none
    | .For (.Tuple [.Name i _, .Name c _] _ _) (.Call (.Name f _) [e] [] _) body [] _ =>
      if f = S "enumerate" then (match ev Φ n e ρ with
        | some (.lst ds) => if ds.length ≤ lim then forT (fun d r => match d with
            | .tup [a, b] => some ((r.set i (.frz a)).set c (.frz b))
            | _ => Option.none) (fun r => exs n body r) (ds.zipIdx.map fun p => .tup [.int p.2, p.1]) ρ else Option.none
        | _ => Option.none)
      else Option.none
    | .While t body [] _ => whileT (fun r => tst Φ n t r) (fun r => exs n body r) n ρ
    | .Return (some e) _ => (ev Φ n e ρ).map fun d => (.ret d, ρ)
    | .Break _ => some (.brk, ρ)
    | .Try body _ [] [] _ => exs n body ρ
    | _ => Option.none
def exs : Nat → List Stmt → Ro → Option (Flw × Ro)
  | 0, _, _ => Option.none
  | n + 1, ss, ρ => match ss with
    | [] => some (.next, ρ)
    | s :: r => match exS n s ρ with
      | some (.next, ρ₁) => exs n r ρ₁
      | some (.brk, ρ₁) => some (.brk, ρ₁)
      | some (.ret d, ρ₁) => some (.ret d, ρ₁)
      | Option.none => Option.none
end
end
end Mine
end

section
set_option Elab.async false
set_option maxRecDepth 10000
open PySem PySem.Calls PyProof.Rows
namespace Mine

abbrev Ext (h h' : Heap) : Prop := ∀ b o, h.get? b = some o → h'.get? b = some o
theorem Ext.rfl {h : Heap} : Ext h h := fun _ _ e => e
theorem Ext.trans {h h' h'' : Heap} (a : Ext h h') (b : Ext h' h'') : Ext h h'' := fun x o e => b x o (a x o e)
theorem Ext.push {h h' : Heap} (a : Ext h h') (o : Obj) : Ext h (h'.push o) := fun x o' e => Heap.get?_push_of_some _ (a x o' e)

abbrev lobj (vs : List Value) (n : Nat) : Obj := { cls := .type "list", data := .seq vs.toArray n }
abbrev tobj (vs : List Value) (n : Nat) : Obj := { cls := .type "tuple", data := .seq vs.toArray n }

mutual
inductive Rep (h : Heap) (X : Addr → Prop) : Value → D → Prop
  | none : Rep h X Value.none D.none
  | bool (b : Bool) : Rep h X (Value.bool b) (D.bool b)
  | int (i : Int) (t : Tok) : Rep h X (Value.int i t) (D.int i)
  | str (cs : List Nat) (t : Tok) : Rep h X (Value.str ⟨cs.toArray⟩ t) (D.txt false cs)
  | bytes (cs : List Nat) (t : Tok) : (∀ c ∈ cs, c < 256) → Rep h X (Value.bytes (cs.map UInt8.ofNat).toArray t) (D.txt true cs)
  | typ (n : String) : Rep h X (Value.type n) (D.typ n)
  | tup {a : Addr} {vs : List Value} {n : Nat} {ds : List D} : ¬ X a → h.get? a = some (tobj vs n) → RepA h X vs ds → Rep h X (Value.ref a) (D.tup ds)
  | lst {a : Addr} {vs : List Value} {n : Nat} {ds : List D} : ¬ X a → h.get? a = some (lobj vs n) → RepA h X vs ds → Rep h X (Value.ref a) (D.lst ds)
inductive RepA (h : Heap) (X : Addr → Prop) : List Value → List D → Prop
  | nil : RepA h X [] []
  | cons {v : Value} {vs : List Value} {d : D} {ds : List D} : Rep h X v d → RepA h X vs ds → RepA h X (v :: vs) (d :: ds)
end

/-- what the changes between two heaps leave as it was: every sequence off X -/
def Keep (X : Addr → Prop) (h h' : Heap) : Prop := ∀ b o, ¬ X b → (∃ vs n, o.data = .seq vs n) → h.get? b = some o → h'.get? b = some o

theorem Ext.keep {X : Addr → Prop} {h h' : Heap} (e : Ext h h') : Keep X h h' := fun b o _ _ x => e b o x
theorem Keep.rfl {X : Addr → Prop} {h : Heap} : Keep X h h := fun _ _ _ _ x => x

mutual
theorem Rep.move {X X' : Addr → Prop} {h h' : Heap} (k : Keep X h h') (hx : ∀ a, ¬ X a → (∃ o, h.get? a = some o) → ¬ X' a) : ∀ {v : Value} {d : D}, Rep h X v d → Rep h' X' v d
  | _, _, .none => .none
  | _, _, .bool b => .bool b
  | _, _, .int i t => .int i t
  | _, _, .str c t => .str c t
  | _, _, .bytes c t hc => .bytes c t hc
  | _, _, .typ n => .typ n
  | _, _, .tup ha ho hr => .tup (hx _ ha ⟨_, ho⟩) (k _ _ ha ⟨_, _, by exact _root_.rfl⟩ ho) (RepA.move k hx hr)
  | _, _, .lst ha ho hr => .lst (hx _ ha ⟨_, ho⟩) (k _ _ ha ⟨_, _, by exact _root_.rfl⟩ ho) (RepA.move k hx hr)
theorem RepA.move {X X' : Addr → Prop} {h h' : Heap} (k : Keep X h h') (hx : ∀ a, ¬ X a → (∃ o, h.get? a = some o) → ¬ X' a) : ∀ {vs : List Value} {ds : List D}, RepA h X vs ds → RepA h' X' vs ds
  | _, _, .nil => .nil
  | _, _, .cons a b => .cons (Rep.move k hx a) (RepA.move k hx b)
end

section
variable {h h' : Heap} {X X' : Addr → Prop} {v : Value} {d : D} {vs ws : List Value} {ds es : List D}
theorem Rep.ext (r : Rep h X v d) (e : Ext h h') : Rep h' X v d := r.move e.keep fun _ x _ => x
theorem RepA.ext (r : RepA h X vs ds) (e : Ext h h') : RepA h' X vs ds := r.move e.keep fun _ x _ => x
theorem Rep.anti (r : Rep h X v d) (hx : ∀ a, X' a → X a) : Rep h X' v d := r.move Keep.rfl fun a n _ x => n (hx a x)
theorem RepA.anti (r : RepA h X vs ds) (hx : ∀ a, X' a → X a) : RepA h X' vs ds := r.move Keep.rfl fun a n _ x => n (hx a x)
/-- a place that was not there may be left out too -/
theorem Rep.out (r : Rep h X v d) (hx : ∀ a, X' a → X a ∨ h.get? a = Option.none) : Rep h X' v d := r.move Keep.rfl fun a n ⟨o, ho⟩ x => (hx a x).elim n fun e => by rw [ho] at e; cases e
theorem RepA.out (r : RepA h X vs ds) (hx : ∀ a, X' a → X a ∨ h.get? a = Option.none) : RepA h X' vs ds := r.move Keep.rfl fun a n ⟨o, ho⟩ x => (hx a x).elim n fun e => by rw [ho] at e; cases e

theorem RepA.length (r : RepA h X vs ds) : vs.length = ds.length := by
  induction vs generalizing ds with
  | nil => cases r; rfl
  | cons v vs ih => cases r with | cons _ r => rw [List.length_cons, List.length_cons, ih r]
theorem RepA.append (r : RepA h X vs ds) (q : RepA h X ws es) : RepA h X (vs ++ ws) (ds ++ es) := by
  induction vs generalizing ds with
  | nil => cases r; exact q
  | cons v vs ih => cases r with | cons a r => exact .cons a (ih r)
theorem RepA.get (r : RepA h X vs ds) {k : Nat} {d : D} (hk : ds[k]? = some d) : ∃ v, vs[k]? = some v ∧ Rep h X v d := by
  induction vs generalizing ds k with
  | nil => cases r; simp at hk
  | cons v vs ih =>
    cases r with
    | cons a r =>
      cases k with
      | zero => simp at hk; subst hk; exact ⟨v, by simp, a⟩
      | succ k => obtain ⟨u, h1, h2⟩ := ih r (by simpa using hk); exact ⟨u, by simpa using h1, h2⟩
theorem RepA.get' (r : RepA h X vs ds) {k : Nat} {v : Value} (hk : vs[k]? = some v) : ∃ d, ds[k]? = some d ∧ Rep h X v d := by
  induction vs generalizing ds k with
  | nil => simp at hk
  | cons u vs ih =>
    cases r with
    | cons a r =>
      cases k with
      | zero => simp at hk; subst hk; exact ⟨_, by simp, a⟩
      | succ k => obtain ⟨u, h1, h2⟩ := ih r (by simpa using hk); exact ⟨u, by simpa using h1, h2⟩
theorem RepA.take (r : RepA h X vs ds) (k : Nat) : RepA h X (vs.take k) (ds.take k) := by
  induction vs generalizing ds k with
  | nil => cases r; simp; exact .nil
  | cons u vs ih => cases r with | cons a r => cases k with
    | zero => simp; exact .nil
    | succ k => simp; exact .cons a (ih r k)
theorem RepA.drop (r : RepA h X vs ds) (k : Nat) : RepA h X (vs.drop k) (ds.drop k) := by
  induction vs generalizing ds k with
  | nil => cases r; simp; exact .nil
  | cons u vs ih => cases r with | cons a r => cases k with
    | zero => simp; exact .cons a r
    | succ k => simp; exact ih r k
theorem RepA.set (r : RepA h X vs ds) (k : Nat) (q : Rep h X v d) : RepA h X (vs.set k v) (ds.set k d) := by
  induction vs generalizing ds k with
  | nil => cases r; simp; exact .nil
  | cons u vs ih => cases r with | cons a r => cases k with
    | zero => simp; exact .cons q r
    | succ k => simp; exact .cons a (ih r k)
theorem RepA.replicate (q : Rep h X v d) (k : Nat) : RepA h X (List.replicate k v) (List.replicate k d) := by
  induction k with
  | zero => exact .nil
  | succ k ih => exact .cons q ih
theorem RepA.one (q : Rep h X v d) : RepA h X [v] [d] := .cons q .nil
theorem RepA.ofFn (f : D → Value) (hf : ∀ d ∈ ds, Rep h X (f d) d) : RepA h X (ds.map f) ds := by
  induction ds with
  | nil => exact .nil
  | cons d ds ih => exact .cons (hf d (.head _)) (ih fun e he => hf e (.tail _ he))
end

/-- a list that is seen, be it kept by one name alone -/
def RepL (h : Heap) (X : Addr → Prop) (v : Value) (ds : List D) : Prop := ∃ a vs n, v = .ref a ∧ h.get? a = some (lobj vs n) ∧ RepA h X vs ds
def RepB (h : Heap) (X : Addr → Prop) (v : Value) : D → Prop
  | .lst ds => RepL h X v ds
  | d => Rep h X v d
theorem Rep.b {h : Heap} {X : Addr → Prop} {v : Value} {d : D} (r : Rep h X v d) : RepB h X v d := by
  cases r with
  | lst ha ho hr => exact ⟨_, _, _, rfl, ho, hr⟩
  | tup ha ho hr => exact .tup ha ho hr
  | none => exact .none
  | bool b => exact .bool b
  | int i t => exact .int i t
  | str c t => exact .str c t
  | bytes c t hc => exact .bytes c t hc
  | typ n => exact .typ n

/-- what an expression's tree gives -/
def EvP (s : Shared) (P : Heap → Value → Prop) : Value → Shared → Prop := fun v s' => ∃ h' tk, s' = { s with heap := h', toks := tk } ∧ Ext s.heap h' ∧ P h' v
def BoP (s : Shared) (P : Bool → Prop) : Bool → Shared → Prop := fun b s' => ∃ h' tk, s' = { s with heap := h', toks := tk } ∧ Ext s.heap h' ∧ P b
abbrev NoE : Value → Shared → Prop := fun _ _ => False

theorem EvP.mk {s : Shared} {P : Heap → Value → Prop} {v : Value} {h' : Heap} {tk : Nat} (e : Ext s.heap h') (p : P h' v) : EvP s P v { s with heap := h', toks := tk } := ⟨h', tk, rfl, e, p⟩
theorem EvP.here {s : Shared} {P : Heap → Value → Prop} {v : Value} {tk : Nat} (p : P s.heap v) : EvP s P v { s with toks := tk } := ⟨s.heap, tk, rfl, Ext.rfl, p⟩
theorem BoP.here {s : Shared} {P : Bool → Prop} {b : Bool} {tk : Nat} (p : P b) : BoP s P b { s with toks := tk } := ⟨s.heap, tk, rfl, Ext.rfl, p⟩

/-- the room around: k calls deep -/
structure Room (k : Nat) (A : Around) : Prop where
  handled : A.handled = none
  depth : A.depth + k ≤ 900
  units : A.units + 100 * k ≤ 9000
theorem Room.in1 {k : Nat} {A : Around} (r : Room k A) (u : A.units + 1 + 100 * k ≤ 9000) : Room k A.in1 := ⟨r.handled, r.depth, u⟩
theorem Room.deeper {k : Nat} {A : Around} (r : Room (k + 1) A) (env : Env) : Room k (A.deeper env) := ⟨r.handled, by
  have := r.depth; show A.depth + 1 + k ≤ 900; omega, by have := r.units; show A.units + 3 + 100 * k ≤ 9000; omega⟩
end Mine
end

section
set_option Elab.async false
set_option maxRecDepth 10000
open PySem PySem.Calls PyProof.Rows
namespace Mine
section
variable {prog : Program} {w : World} {A : Around} {s : Shared} {X : Addr → Prop} {E : Value → Shared → Prop}

theorem retI {i j : Int} {t : Tok} (e : i = j) : EvP s (fun h v => Rep h X v (.int j)) (.int i t) { s with toks := s.toks + 1 } := EvP.here (e ▸ .int _ _)

theorem binI_sound {op : Operator} {i j : Int} {t u : Tok} {d : D} (h : binD op (.int i) (.int j) = some d) :
    wpAny (model prog w) A (binaryOp op (.int i t) (.int j u)) (EvP s fun h v => Rep h X v d) E s := by
  unfold binD at h
  split at h <;> simp only [D.int.injEq, reduceCtorEq] at * <;> try contradiction
  · rename_i e1 e2; subst e1; subst e2; cases h; exact P.add_int (retI rfl)
  · rename_i e1 e2; subst e1; subst e2; cases h; exact sub_int' (retI rfl)
  · rename_i e1 e2; subst e1; subst e2
    split at h
    · rename_i hc
      cases h
      simp only [small, Bool.and_eq_true, decide_eq_true_eq] at hc
      refine mul_int (retI rfl) (IntMulOk.of_left ?_)
      exact intBits_le_iff.mpr (by omega)
    · cases h
  · rename_i e1 e2; subst e1; subst e2
    split at h
    · rename_i hc
      cases h
      simp only [Bool.and_eq_true, decide_eq_true_eq] at hc
      exact mod_int' (by omega) (retI rfl)
    · cases h
  · rename_i e1 e2; subst e1; subst e2
    split at h
    · rename_i hc
      cases h
      simp only [Bool.and_eq_true, decide_eq_true_eq] at hc
      exact floordiv_int (by omega) (retI rfl) (Or.inl (PyProof.noPylong_small (by omega)))
    · cases h
  · rename_i e1 e2; subst e1; subst e2
    split at h
    · rename_i hc
      cases h
      simp only [powLim, Bool.and_eq_true, decide_eq_true_eq] at hc
      obtain ⟨rfl, h0, h1⟩ := hc
      refine pow_int h0 ?_ (retI rfl)
      have : Builtin.Int.intBits 2 = 2 := by decide +kernel
      rw [this]; omega
    · cases h
  · rename_i e1 e2; subst e1; subst e2
    split at h
    · rename_i hc
      cases h
      simp only [powLim, Bool.and_eq_true, decide_eq_true_eq] at hc
      refine rshift_int hc.2.1 (retI ?_)
      rw [Int.fdiv_eq_ediv_of_nonneg]
      exact Int.pow_nonneg (by omega)
    · cases h
  · rename_i e1 e2; subst e1; subst e2
    split at h
    · rename_i hc
      cases h
      simp only [Bool.and_eq_true, decide_eq_true_eq] at hc
      refine and_int (retI ?_)
      simp [Builtin.bitAnd, hc.1, hc.2]
    · cases h

theorem txt_str {cs : List Nat} {v : Value} {h : Heap} (r : Rep h X v (.txt false cs)) : ∃ t, v = .str ⟨cs.toArray⟩ t := by cases r; exact ⟨_, rfl⟩
theorem txt_bytes {cs : List Nat} {v : Value} {h : Heap} (r : Rep h X v (.txt true cs)) : (∀ c ∈ cs, c < 256) ∧ ∃ t, v = .bytes (cs.map UInt8.ofNat).toArray t := by
  cases r with | bytes _ t hc => exact ⟨hc, _, rfl⟩
theorem str_add (x y : List Nat) : (⟨x.toArray⟩ : Str) ++ ⟨y.toArray⟩ = ⟨(x ++ y).toArray⟩ := by
  apply Str.ext'
  simp [Str.cps_append]
theorem lim_le {n : Nat} (h : n ≤ lim) : n ≤ sizeLine := by rw [sizeLine_eq]; unfold lim at h; omega

theorem noI_bytes_add : typeLookup (.type "bytes") (dunderI "add") = pure none := by rw [typeLookup_type, builtinLookup_eq_fast]; kernel_rfl
theorem iadd_bytes {b c : Array UInt8} {t u : Tok} {Q : Value → Shared → Prop} (hsz : b.size + c.size ≤ 16777216) (h : ∀ t' k, Q (.bytes (b ++ c) t') { s with toks := k }) : wpAny (model prog w) A (inplaceOp .Add (.bytes b t) (.bytes c u)) Q E s := by
  refine iconcat_gives (PySem.W.typeIs_bytes s b t) (PySem.W.typeIs_bytes s c u) noI_bytes_add PySem.W.KBy.noFill_bytes_add PySem.W.KBy.seq_bytes_add PySem.W.FB.slot_bytes_add PySem.W.FB.entry_bytes_add (PySem.W.FB.args_bytes_add_2 _ _) (PySem.W.KBy.gives_bytes_add (PySem.W.KBy.tooLong_not hsz)) ?_
  by_cases hb : b.isEmpty = true
  · rw [if_pos hb]
    have e : b = #[] := Array.isEmpty_iff.1 hb
    have h' := h u s.toks
    rw [e, Array.empty_append] at h'
    exact h'
  · rw [if_neg hb]
    by_cases hc : c.isEmpty = true
    · rw [if_pos hc]
      have e : c = #[] := Array.isEmpty_iff.1 hc
      have h' := h t s.toks
      rw [e, Array.append_empty] at h'
      exact h'
    · rw [if_neg hc]
      exact ⟨by rw [Array.size_append, sizeLine_eq]; exact hsz, h s.toks (s.toks + 1)⟩

theorem addT_sound {o p : Bool} {x y : List Nat} {a b : Value} {d : D} (h : binD .Add (.txt o x) (.txt p y) = some d) (ra : Rep s.heap X a (.txt o x)) (rb : Rep s.heap X b (.txt p y)) :
    wpAny (model prog w) A (binaryOp .Add a b) (EvP s fun h v => Rep h X v d) E s ∧ wpAny (model prog w) A (inplaceOp .Add a b) (EvP s fun h v => Rep h X v d) E s := by
  simp only [binD] at h
  split at h
  · rename_i hc
    obtain ⟨rfl, hl⟩ := hc
    cases h
    cases o with
    | false =>
      obtain ⟨t, rfl⟩ := txt_str ra
      obtain ⟨u, rfl⟩ := txt_str rb
      have hz : (⟨x.toArray⟩ : Str).length + (⟨y.toArray⟩ : Str).length ≤ sizeLine := lim_le (by simpa [Str.length] using hl)
      exact ⟨SB.add (hsz := hz) fun t' k => EvP.here (str_add x y ▸ .str _ _), SB.iadd (hsz := hz) fun t' k => EvP.here (str_add x y ▸ .str _ _)⟩
    | true =>
      obtain ⟨hx, t, rfl⟩ := txt_bytes ra
      obtain ⟨hy, u, rfl⟩ := txt_bytes rb
      have hz : ((x.map UInt8.ofNat).toArray).size + ((y.map UInt8.ofNat).toArray).size ≤ 16777216 := by simp; unfold lim at hl; omega
      have e : (x.map UInt8.ofNat).toArray ++ (y.map UInt8.ofNat).toArray = ((x ++ y).map UInt8.ofNat).toArray := by simp
      have hr : ∀ t', Rep s.heap X (.bytes ((x.map UInt8.ofNat).toArray ++ (y.map UInt8.ofNat).toArray) t') (.txt true (x ++ y)) := fun t' => by
        rw [e]; exact .bytes _ _ fun c hc => (List.mem_append.mp hc).elim (hx c) (hy c)
      exact ⟨PySem.W.KBy.add_bytes hz fun t' k => EvP.here (hr t'), iadd_bytes hz fun t' k => EvP.here (hr t')⟩
  · cases h

theorem lobj_isList {h : Heap} {a : Addr} {vs : List Value} {n : Nat} (e : h.get? a = some (lobj vs n)) : h.IsList a vs.toArray := ⟨_, e, rfl, n, rfl⟩
theorem fresh_not {h : Heap} {a : Addr} (e : h.objs.size ≤ a) : h.get? a = none := by
  cases q : h.get? a with
  | none => rfl
  | some o => exact absurd (Heap.lt_size q) (Nat.not_lt.mpr e)

/-- what a new list is -/
def NewL (h₀ : Heap) (X : Addr → Prop) (ds : List D) (h : Heap) (v : Value) : Prop := ∃ vs n, v = .ref h₀.objs.size ∧ h.get? h₀.objs.size = some (lobj vs n) ∧ RepA h X vs ds
theorem NewL.rep {h₀ h : Heap} {ds : List D} {v : Value} (x : NewL h₀ X ds h v) (hX : ∀ a, X a → ∃ o, h₀.get? a = some o) : Rep h X v (.lst ds) := by
  obtain ⟨vs, n, rfl, ho, hr⟩ := x
  exact .lst (fun q => by obtain ⟨o, e⟩ := hX _ q; rw [fresh_not (Nat.le_refl _)] at e; cases e) ho hr

theorem addL_sound {xs ys : List D} {a b : Value} (hl : xs.length + ys.length ≤ lim) (ra : RepL s.heap X a xs) (rb : RepL s.heap X b ys) :
    wpAny (model prog w) A (binaryOp .Add a b) (EvP s fun h v => NewL s.heap X (xs ++ ys) h v) E s := by
  obtain ⟨a, vs, n, rfl, ho, hr⟩ := ra
  obtain ⟨b, ws, m, rfl, ho2, hr2⟩ := rb
  have hz : vs.toArray.size + ws.toArray.size ≤ sizeLine := by simp [hr.length, hr2.length]; exact lim_le hl
  refine concat_meets ⟨_, ho, rfl⟩ ⟨_, ho2, rfl⟩ noFill_list_add seq_list_add PySem.F.slot_list_add PySem.F.entry_list_add (PySem.F.args_list_add_2 _ _) (list_addW a b vs.toArray ws.toArray n m none none #[] #[] hz) ⟨ho, ho2, ?_⟩
  refine EvP.mk (Ext.rfl.push _) ⟨vs ++ ws, 0, rfl, ?_, (hr.append hr2).ext (Ext.rfl.push _)⟩
  have e : vs.toArray ++ ws.toArray = (vs ++ ws).toArray := by simp
  rw [e]
  exact Heap.get?_push_size _ rfl

theorem foldl_app (x : Value) : ∀ (k : Nat) (acc : Array Value), (List.replicate k #[x]).foldl (· ++ ·) acc = acc ++ (List.replicate k x).toArray := by
  intro k
  induction k with
  | zero => intro acc; simp
  | succ k ih => intro acc; rw [List.replicate_succ, List.foldl_cons, ih, List.replicate_succ]; apply Array.ext'; simp

theorem mulL_sound {x : D} {j : Int} {u : Tok} {a : Value} (h0 : 0 ≤ j) (hl : j ≤ lim) (ra : RepL s.heap X a [x]) :
    wpAny (model prog w) A (binaryOp .Mult a (.int j u)) (EvP s fun h v => NewL s.heap X (List.replicate j.toNat x) h v) E s := by
  obtain ⟨a, vs, n, rfl, ho, hr⟩ := ra
  cases hr with
  | cons hx hr =>
    cases hr
    rename_i v
    have hlim : (lim : Int) = 1048576 := rfl
    refine wpAny_binaryOp_repeat_ref (T := "list") (U := "int") (by decide) ⟨_, ho, rfl⟩ (fun s' => typeIs_int s' j u) noFill_list_mul F.fills_int_mul F.slot_int_rmul repeat_list F.slot_int_index.lookup
      (call_meets F.slot_int_rmul (typeIs_int s j u) F.entry_int_rmul (F.args_int_rmul_2 _ _) (int___rmul___int_list j u a _ n)
        ⟨ho, rfl, ⟨_, ho, rfl⟩, call_meets F.slot_list_mul ⟨_, ho, rfl⟩ F.entry_list_mul (F.args_list_mul_2 _ _)
          (AutoListH.list___mul___list_int_3 a _ n j u (by simp [Builtin.List.listFitsIndex]; omega) (by simp; omega) (by simp [Builtin.List.listTooLong, sizeLine]; omega))
          ⟨ho, ?_⟩⟩)
    refine EvP.mk (Ext.rfl.push _) ⟨List.replicate j.toNat v, 0, rfl, ?_, (RepA.replicate hx _).ext (Ext.rfl.push _)⟩
    have e : List.foldl (fun x1 x2 => x1 ++ x2) #[] (List.replicate (if (List.toArray [v]).isEmpty = true then 0 else j.toNat) (List.toArray [v])) = (List.replicate j.toNat v).toArray := by
      have : (List.toArray [v]).isEmpty = false := rfl
      rw [this, if_neg (by simp), foldl_app]
      simp
    rw [e]
    exact Heap.get?_push_size _ rfl
end
end Mine
end

section
set_option Elab.async false
set_option maxRecDepth 10000
open PySem PySem.Calls PyProof.Rows PySem.SeqAt PySem.MeetsSeq
namespace Mine
mutual
theorem Rep.uniq {h : Heap} {X : Addr → Prop} : ∀ {v : Value} {d e : D}, Rep h X v d → Rep h X v e → d = e
  | _, _, _, .none, .none => rfl
  | _, _, _, .bool _, .bool _ => rfl
  | _, _, _, .int _ _, .int _ _ => rfl
  | _, _, _, .typ _, .typ _ => rfl
  | _, _, _, @Rep.str _ _ cs t, r => by
    generalize hv : Value.str (⟨cs.toArray⟩ : Str) t = v at r
    cases r <;> simp at hv
    rw [hv.1]
  | _, _, _, @Rep.bytes _ _ cs t hc, r => by
    generalize hv : Value.bytes (cs.map UInt8.ofNat).toArray t = v at r
    cases r with
    | bytes cs' t' hc' =>
      simp only [Value.bytes.injEq] at hv
      have e : cs = cs' := by
        have h1 : ∀ l : List Nat, (∀ c ∈ l, c < 256) → (l.map UInt8.ofNat).map UInt8.toNat = l := by
          intro l hl
          induction l with
          | nil => rfl
          | cons c l ih =>
            have hc := hl c (.head _)
            simp only [List.map_cons, List.cons.injEq]
            exact ⟨by simp [UInt8.toNat_ofNat', Nat.mod_eq_of_lt hc], ih fun x hx => hl x (.tail _ hx)⟩
        have hv1 := congrArg Array.toList hv.1
        simp only at hv1
        rw [← h1 cs hc, hv1, h1 cs' hc']
      rw [e]
    | _ => simp at hv
  | _, _, _, @Rep.tup _ _ a vs n ds ha ho hr, r => by
    generalize hv : Value.ref a = v at r
    cases r with
    | tup ha' ho' hr' =>
      injection hv with hv; subst hv
      rw [ho] at ho'
      simp at ho'
      obtain ⟨rfl, -⟩ := ho'
      rw [RepA.uniq hr hr']
    | lst ha' ho' hr' => injection hv with hv; subst hv; rw [ho] at ho'; simp at ho'
    | _ => simp at hv
  | _, _, _, @Rep.lst _ _ a vs n ds ha ho hr, r => by
    generalize hv : Value.ref a = v at r
    cases r with
    | lst ha' ho' hr' =>
      injection hv with hv; subst hv
      rw [ho] at ho'
      simp at ho'
      obtain ⟨rfl, -⟩ := ho'
      rw [RepA.uniq hr hr']
    | tup ha' ho' hr' => injection hv with hv; subst hv; rw [ho] at ho'; simp at ho'
    | _ => simp at hv
theorem RepA.uniq {h : Heap} {X : Addr → Prop} : ∀ {vs : List Value} {ds es : List D}, RepA h X vs ds → RepA h X vs es → ds = es
  | _, _, _, .nil, .nil => rfl
  | _, _, _, .cons a r, .cons b q => by rw [Rep.uniq a b, RepA.uniq r q]
end

theorem u8_map {l : List Nat} (hl : ∀ c ∈ l, c < 256) : (l.map UInt8.ofNat).map UInt8.toNat = l := by
  induction l with
  | nil => rfl
  | cons c l ih =>
    have hc := hl c (.head _)
    simp only [List.map_cons, List.cons.injEq]
    exact ⟨by simp [UInt8.toNat_ofNat', Nat.mod_eq_of_lt hc], ih fun x hx => hl x (.tail _ hx)⟩
theorem u8_inj {l k : List Nat} (hl : ∀ c ∈ l, c < 256) (hk : ∀ c ∈ k, c < 256) : (l.map UInt8.ofNat = k.map UInt8.ofNat) ↔ l = k :=
  ⟨fun e => by rw [← u8_map hl, e, u8_map hk], fun e => by rw [e]⟩

theorem eqDs_len {f : D → D → Option Bool} : ∀ {xs ys : List D} {b : Bool}, eqDs f xs ys = some b → xs.length = ys.length
  | [], [], _, _ => rfl
  | x :: xs, y :: ys, b, h => by
    simp only [eqDs] at h
    split at h
    · rename_i h2; simp [eqDs_len h2]
    · cases h
  | [], _ :: _, _, h => by simp [eqDs] at h
  | _ :: _, [], _, h => by simp [eqDs] at h
theorem eqDs_all {f : D → D → Option Bool} : ∀ {xs ys : List D} {b : Bool}, eqDs f xs ys = some b → ∃ e : Nat → Bool, (∀ j x y, xs[j]? = some x → ys[j]? = some y → f x y = some (e j)) ∧ (List.range xs.length).all e = b
  | [], [], b, h => by simp [eqDs] at h; exact ⟨fun _ => true, by simp, by simp [h]⟩
  | x :: xs, y :: ys, b, h => by
    simp only [eqDs] at h
    split at h
    · rename_i a c h1 h2
      cases h
      obtain ⟨e, he, ha⟩ := eqDs_all h2
      refine ⟨fun j => match j with | 0 => a | j + 1 => e j, fun j x' y' hx hy => ?_, ?_⟩
      · cases j with
        | zero => simp at hx hy; subst hx; subst hy; exact h1
        | succ j => exact he j x' y' (by simpa using hx) (by simpa using hy)
      · rw [List.length_cons, List.range_succ_eq_map, List.all_cons, List.all_map, ← ha]; rfl
    · cases h
  | [], _ :: _, _, h => by simp [eqDs] at h
  | _ :: _, [], _, h => by simp [eqDs] at h

mutual
theorem eqD_refl : ∀ (n : Nat) (d : D) (b : Bool), eqD n d d = some b → b = true
  | n, .int i, b, h => by simp [eqD] at h; exact h
  | n, .bool i, b, h => by simp [eqD] at h; exact h
  | n, .txt o x, b, h => by simp [eqD] at h; exact h
  | 0, .lst xs, b, h => by simp [eqD] at h
  | n + 1, .lst xs, b, h => by
    simp only [eqD, if_true] at h
    exact eqDs_refl n xs b h
  | _, .none, b, h => by simp [eqD] at h
  | _, .tup _, b, h => by simp [eqD] at h
  | _, .typ _, b, h => by simp [eqD] at h
theorem eqDs_refl : ∀ (n : Nat) (ds : List D) (b : Bool), eqDs (eqD n) ds ds = some b → b = true
  | n, [], b, h => by simp [eqDs] at h; exact h
  | n, d :: ds, b, h => by
    simp only [eqDs] at h
    split at h
    · rename_i a c h1 h2
      cases h
      rw [eqD_refl n d a h1, eqDs_refl n ds c h2]; rfl
    · cases h
end

section
variable {A : Around} {s : Shared} {X : Addr → Prop}

theorem eqT_at {o p : Bool} {x y : List Nat} {u v : Value} (hop : o = p) (r : Rep s.heap X u (.txt o x)) (q : Rep s.heap X v (.txt p y)) : EqAt A s u v (decide (x = y)) := by
  subst hop
  cases o with
  | false =>
    obtain ⟨t, rfl⟩ := txt_str r
    obtain ⟨t', rfl⟩ := txt_str q
    intro prog w E Q hq
    refine wpAny_eqBool_str ?_
    have : ((⟨x.toArray⟩ : Str) = ⟨y.toArray⟩) ↔ x = y := by simp
    rw [decide_eq_decide.mpr this]; exact hq
  | true =>
    obtain ⟨hx, t, rfl⟩ := txt_bytes r
    obtain ⟨hy, t', rfl⟩ := txt_bytes q
    intro prog w E Q hq
    refine PySem.W.eqBool_bytes ?_
    rw [decide_eq_decide.mpr (u8_inj hx hy)]; exact hq

theorem eqAtD : ∀ (n : Nat) (A : Around) (d e : D) (b : Bool) (u v : Value) (X' : Addr → Prop), eqD n d e = some b → Rep s.heap X u d → Rep s.heap X' v e → A.units + n < cLine → EqAt A s u v b := by
  intro n
  induction n with
  | zero =>
    intro A d e b u v X' h r q _
    unfold eqD at h
    split at h
    · cases r; cases q; cases h
      intro prog w E Q hq
      exact wpAny_eqBool_int hq
    · rename_i i j
      cases r; cases q; cases h
      have := EqAt.bool_bool (A := A) (s := s) i j
      have e : (i == j) = decide (i = j) := by cases i <;> cases j <;> rfl
      rw [e] at this
      exact this
    · split at h
      · rename_i hop
        cases h
        exact eqT_at hop (r.anti (X' := fun _ => False) fun _ f => f.elim) (q.anti fun _ f => f.elim)
      · cases h
    · rename_i hn; cases hn
    · cases h
  | succ n ih =>
    intro A d e b u v X' h r q hu
    unfold eqD at h
    split at h
    · cases r; cases q; cases h
      intro prog w E Q hq
      exact wpAny_eqBool_int hq
    · rename_i i j
      cases r; cases q; cases h
      have := EqAt.bool_bool (A := A) (s := s) i j
      have e : (i == j) = decide (i = j) := by cases i <;> cases j <;> rfl
      rw [e] at this
      exact this
    · split at h
      · rename_i hop
        cases h
        exact eqT_at hop (r.anti (X' := fun _ => False) fun _ f => f.elim) (q.anti fun _ f => f.elim)
      · cases h
    · rename_i n' xs ys hn
      have hn' : n' = n := by omega
      subst hn'
      cases r with
      | @lst l vs k1 _ ha ho hr =>
      cases q with
      | @lst l' vs' k2 _ ha' ho' hr' =>
      have n1 : vs.length = xs.length := hr.length
      have n2 : vs'.length = ys.length := hr'.length
      by_cases hll : l = l'
      · subst hll
        have e : D.lst xs = D.lst ys := Rep.uniq (X := fun _ => False) ((Rep.lst ha ho hr).anti fun _ f => f.elim) ((Rep.lst ha' ho' hr').anti fun _ f => f.elim)
        injection e with e
        subst e
        rw [if_pos rfl] at h
        rw [eqDs_refl _ xs b h]
        exact EqAt.same _
      · by_cases hsz : xs.length = ys.length
        · rw [if_pos hsz] at h
          obtain ⟨e, he, ha⟩ := eqDs_all h
          rw [← ha]
          have := RcAt.lists (A := A) (e := e) (lobj_isList ho) (lobj_isList ho') (by simp [n1, n2, hsz]) (by omega) (fun j h1 h2 => by
            obtain ⟨d, hd, rd⟩ := hr.get' (k := j) (v := vs[j]'(by simpa using h1)) (by simp)
            obtain ⟨d', hd', rd'⟩ := hr'.get' (k := j) (v := vs'[j]'(by simpa using h2)) (by simp)
            exact ih A.in1 d d' (e j) _ _ X' (he j d d' hd hd') (by simpa using rd) (by simpa using rd') (by show A.units + 1 + _ < cLine; omega))
          have e2 : vs.toArray.size = xs.length := by simp [n1]
          rw [e2] at this
          exact EqAt.of_refs hll this
        · rw [if_neg hsz] at h
          cases h
          exact EqAt.of_refs hll (RcAt.lists_lengths (lobj_isList ho) (lobj_isList ho') (by simp [n1, n2]; exact hsz) (by omega))
    · cases h
end

section
variable {prog : Program} {w : World} {A : Around} {s : Shared} {X : Addr → Prop} {E : Value → Shared → Prop} {k : Nat}
theorem RepB.txt {h : Heap} {v : Value} {o : Bool} {cs : List Nat} (r : RepB h X v (.txt o cs)) : Rep h X v (.txt o cs) := r
theorem RepB.int {h : Heap} {v : Value} {i : Int} (r : RepB h X v (.int i)) : ∃ t, v = .int i t := by
  have r' : Rep h X v (.int i) := r
  cases r'; exact ⟨_, rfl⟩
theorem RepB.bool {h : Heap} {v : Value} {i : Bool} (r : RepB h X v (.bool i)) : v = .bool i := by
  have r' : Rep h X v (.bool i) := r
  cases r'; rfl
theorem RepB.lst {h : Heap} {v : Value} {ds : List D} (r : RepB h X v (.lst ds)) : RepL h X v ds := r

theorem eqC_sound {d e : D} {b : Bool} {u v : Value} (h : eqD 5 d e = some b) (r : RepB s.heap X u d) (q : RepB s.heap X v e) (R : Room k A) :
    wpAny (model prog w) A (compareOp .Eq u v) (EvP s fun h v => Rep h X v (.bool b)) E s ∧ wpAny (model prog w) A (compareOp .NotEq u v) (EvP s fun h v => Rep h X v (.bool !b)) E s := by
  have hcl : cLine = 9900 := rfl
  have hu := R.units
  unfold eqD at h
  split at h
  · rename_i i j
    obtain ⟨t, rfl⟩ := r.int
    obtain ⟨t', rfl⟩ := q.int
    cases h
    exact ⟨P.eq_int (EvP.here (.bool _)), P.ne_int (EvP.here (by rw [show (i != j) = !decide (i = j) from rfl]; exact .bool _))⟩
  · rename_i i j
    obtain rfl := r.bool
    obtain rfl := q.bool
    cases h
    refine ⟨eq_bool (EvP.here ?_), ne_bool (EvP.here ?_)⟩ <;> (have : (i == j) = decide (i = j) := by cases i <;> cases j <;> rfl)
    · rw [this]; exact .bool _
    · rw [show (i != j) = !(i == j) from rfl, this]; exact .bool _
  · rename_i o x p y
    split at h
    · rename_i hop
      subst hop
      cases h
      cases o with
      | false =>
        obtain ⟨t, rfl⟩ := txt_str r
        obtain ⟨t', rfl⟩ := txt_str q
        have e : ((⟨x.toArray⟩ : Str).cps.toList == (⟨y.toArray⟩ : Str).cps.toList) = decide (x = y) := by
          rw [Bool.eq_iff_iff]; simp
        refine ⟨P.eq_str (EvP.here ?_), P.ne_str (EvP.here ?_)⟩
        · rw [e]; exact .bool _
        · rw [bne, e]; exact .bool _
      | true =>
        obtain ⟨hx, t, rfl⟩ := txt_bytes r
        obtain ⟨hy, t', rfl⟩ := txt_bytes q
        have e : (((x.map UInt8.ofNat).toArray).toList == ((y.map UInt8.ofNat).toArray).toList) = decide (x = y) := by
          rw [Bool.eq_iff_iff]; simp [u8_inj hx hy]
        refine ⟨PySem.W.eq_bytes (EvP.here ?_), PySem.W.ne_bytes (EvP.here ?_)⟩
        · rw [e]; exact .bool _
        · rw [bne, e]; exact .bool _
    · cases h
  · rename_i n xs ys hn
    obtain ⟨l, vs, k1, rfl, ho, hr⟩ := r.lst
    obtain ⟨l', vs', k2, rfl, ho', hr'⟩ := q.lst
    have n1 : vs.length = xs.length := hr.length
    have n2 : vs'.length = ys.length := hr'.length
    have hn' : n = 4 := by omega
    subst hn'
    by_cases hsz : xs.length = ys.length
    · rw [if_pos hsz] at h
      obtain ⟨e, he, ha⟩ := eqDs_all h
      have hall : ∀ j (h1 : j < vs.toArray.size) (h2 : j < vs'.toArray.size), EqAt A.in1 s vs.toArray[j] vs'.toArray[j] (e j) := fun j h1 h2 => by
        obtain ⟨d, hd, rd⟩ := hr.get' (k := j) (v := vs[j]'(by simpa using h1)) (by simp)
        obtain ⟨d', hd', rd'⟩ := hr'.get' (k := j) (v := vs'[j]'(by simpa using h2)) (by simp)
        exact eqAtD 4 A.in1 d d' (e j) _ _ X (he j d d' hd hd') (by simpa using rd) (by simpa using rd') (by show A.units + 1 + 4 < cLine; omega)
      have e2 : vs.toArray.size = xs.length := by simp [n1]
      refine ⟨RcAt.lists (A := A) (e := e) (lobj_isList ho) (lobj_isList ho') (by simp [n1, n2, hsz]) (by omega) hall prog w E _ ?_,
        RcNeAt.lists (A := A) (e := e) (lobj_isList ho) (lobj_isList ho') (by simp [n1, n2, hsz]) (by omega) hall prog w E _ ?_⟩
      · rw [e2, ha]; exact EvP.here (.bool _)
      · rw [e2, ha]; exact EvP.here (.bool _)
    · rw [if_neg hsz] at h
      cases h
      exact ⟨RcAt.lists_lengths (lobj_isList ho) (lobj_isList ho') (by simp [n1, n2]; exact hsz) (by omega) prog w E _ (EvP.here (.bool _)),
        RcNeAt.lists_lengths (lobj_isList ho) (lobj_isList ho') (by simp [n1, n2]; exact hsz) (by omega) prog w E _ (EvP.here (.bool _))⟩
  · cases h
end
end Mine
end

section
set_option Elab.async false
set_option maxRecDepth 10000
open PySem PySem.Calls PyProof.Rows PySem.SeqAt PySem.MeetsSeq
namespace Mine

theorem tobj_isTuple {h : Heap} {a : Addr} {vs : List Value} {n : Nat} (e : h.get? a = some (tobj vs n)) : h.IsTuple a vs.toArray := ⟨_, e, rfl, n, rfl⟩
theorem tobj_isTup {h : Heap} {a : Addr} {vs : List Value} {n : Nat} (e : h.get? a = some (tobj vs n)) : IsTup h a vs.toArray := ⟨_, e, rfl, n, rfl⟩

theorem memD_all {x : D} : ∀ {ys : List D} {b : Bool}, memD x ys = some b → (∀ y ∈ ys, ∃ c, eqD 4 y x = some c) ∧ (b = true ↔ ∃ y ∈ ys, eqD 4 y x = some true)
  | [], b, h => by simp [memD] at h; subst h; simp
  | y :: ys, b, h => by
    simp only [memD] at h
    split at h
    · rename_i a c h1 h2
      cases h
      obtain ⟨p, q⟩ := memD_all h2
      refine ⟨fun z hz => ?_, ?_⟩
      · rcases List.mem_cons.mp hz with rfl | hz
        · exact ⟨a, h1⟩
        · exact p z hz
      · simp only [Bool.or_eq_true, q, List.mem_cons, exists_eq_or_imp, h1, Option.some.injEq]
    · cases h

open Classical in
/-- is this value the datum x -/
noncomputable def isD (h : Heap) (X : Addr → Prop) (x : D) (v : Value) : Bool := decide (∃ d, Rep h X v d ∧ eqD 4 d x = some true)
open Classical in
theorem isD_of {h : Heap} {X : Addr → Prop} {x d : D} {v : Value} {b : Bool} (r : Rep h X v d) (e : eqD 4 d x = some b) : isD h X x v = b := by
  unfold isD
  cases b with
  | true => exact decide_eq_true ⟨d, r, e⟩
  | false =>
    refine decide_eq_false ?_
    rintro ⟨d', r', e'⟩
    rw [Rep.uniq r r', e'] at e
    cases e
theorem mem_rep {h : Heap} {X : Addr → Prop} {vs : List Value} {ds : List D} (r : RepA h X vs ds) {v : Value} (hv : v ∈ vs) : ∃ d ∈ ds, Rep h X v d := by
  obtain ⟨k, hk⟩ := List.getElem?_of_mem hv
  obtain ⟨d, hd, rd⟩ := r.get' hk
  exact ⟨d, List.mem_of_getElem? hd, rd⟩
theorem mem_rep' {h : Heap} {X : Addr → Prop} {vs : List Value} {ds : List D} (r : RepA h X vs ds) {d : D} (hd : d ∈ ds) : ∃ v ∈ vs, Rep h X v d := by
  obtain ⟨k, hk⟩ := List.getElem?_of_mem hd
  obtain ⟨v, hv, rd⟩ := r.get hk
  exact ⟨v, List.mem_of_getElem? hv, rd⟩

section
variable {prog : Program} {w : World} {A : Around} {s : Shared} {X : Addr → Prop} {E : Value → Shared → Prop} {k : Nat}

theorem any_isD {x : D} {ys : List D} {b : Bool} {vs : List Value} (h : memD x ys = some b) (r : RepA s.heap X vs ys) : vs.toArray.any (isD s.heap X x) = b := by
  obtain ⟨p, q⟩ := memD_all h
  rw [Bool.eq_iff_iff]
  simp only [List.any_toArray, List.any_eq_true]
  rw [q]
  constructor
  · rintro ⟨v, hv, hi⟩
    obtain ⟨d, hd, rd⟩ := mem_rep r hv
    obtain ⟨c, hc⟩ := p d hd
    rw [isD_of rd hc] at hi
    exact ⟨d, hd, hi ▸ hc⟩
  · rintro ⟨y, hy, e⟩
    obtain ⟨v, hv, rv⟩ := mem_rep' r hy
    exact ⟨v, hv, isD_of rv e⟩
theorem mem_eqAt {x : D} {ys : List D} {b : Bool} {vs : List Value} {u : Value} (h : memD x ys = some b) (r : RepA s.heap X vs ys) (ru : Rep s.heap X u x) (R : Room k A) : ∀ y, y ∈ vs.toArray → EqAt A.in1 s y u (isD s.heap X x y) := by
  intro y hy
  obtain ⟨d, hd, rd⟩ := mem_rep r (by simpa using hy)
  obtain ⟨c, hc⟩ := (memD_all h).1 d hd
  rw [isD_of rd hc]
  have hcl : cLine = 9900 := rfl
  have hu := R.units
  exact eqAtD 4 A.in1 d x c y u X hc rd ru (by show A.units + 1 + 4 < cLine; omega)

theorem RepB.tup {h : Heap} {v : Value} {ds : List D} (r : RepB h X v (.tup ds)) : ∃ a vs n, v = .ref a ∧ ¬ X a ∧ h.get? a = some (tobj vs n) ∧ RepA h X vs ds := by
  have r' : Rep h X v (.tup ds) := r
  cases r' with | tup ha ho hr => exact ⟨_, _, _, rfl, ha, ho, hr⟩
/-- what is no list is seen as it is -/
theorem RepB.rep {h : Heap} {v : Value} {d : D} (hd : ∀ ds, d ≠ .lst ds) (r : RepB h X v d) : Rep h X v d := by
  cases d with
  | lst ds => exact absurd rfl (hd ds)
  | _ => exact r

theorem cmp_sound {op : CmpOp} {d e : D} {b : Bool} {u v : Value} (h : cmpD op d e = some b) (r : Rep s.heap X u d ∨ (RepB s.heap X u d ∧ op ≠ .In ∧ op ≠ .NotIn)) (q : RepB s.heap X v e) (R : Room k A) :
    wpAny (model prog w) A (compareOp op u v) (EvP s fun h v => Rep h X v (.bool b)) E s := by
  have rb : RepB s.heap X u d := r.elim Rep.b fun x => x.1
  cases op with
  | Eq => exact (eqC_sound h rb q R).1
  | NotEq =>
    simp only [cmpD, Option.map_eq_some_iff] at h
    obtain ⟨c, hc, rfl⟩ := h
    exact (eqC_sound hc rb q R).2
  | Lt =>
    simp only [cmpD] at h
    split at h
    · obtain ⟨t, rfl⟩ := rb.int
      obtain ⟨t', rfl⟩ := q.int
      cases h
      exact lt_int (EvP.here (.bool _))
    · cases h
  | Gt =>
    simp only [cmpD] at h
    split at h
    · obtain ⟨t, rfl⟩ := rb.int
      obtain ⟨t', rfl⟩ := q.int
      cases h
      exact gt_int (EvP.here (.bool _))
    · cases h
  | Is =>
    simp only [cmpD] at h
    split at h
    · have q' : Rep s.heap X v .none := q
      cases q'
      split at h
      · have r' : Rep s.heap X u .none := rb
        cases r'; cases h
        exact is_none_none (EvP.here (.bool _))
      · obtain ⟨t, rfl⟩ := rb.int
        cases h
        exact is_int_none (EvP.here (.bool _))
      · cases h
    · cases h
  | In =>
    have r' : Rep s.heap X u d := r.elim id fun x => absurd rfl x.2.1
    simp only [cmpD] at h
    split at h
    · obtain ⟨l, vs, n, rfl, ho, hr⟩ := q.lst
      refine in_listAt _ (lobj_isList ho) (mem_eqAt h hr r' R) ?_
      rw [any_isD h hr]; exact EvP.here (.bool _)
    · obtain ⟨l, vs, n, rfl, _, ho, hr⟩ := q.tup
      refine in_tupleAt _ (tobj_isTuple ho) (mem_eqAt h hr r' R) ?_
      rw [any_isD h hr]; exact EvP.here (.bool _)
    · cases h
  | NotIn =>
    have r' : Rep s.heap X u d := r.elim id fun x => absurd rfl x.2.2
    simp only [cmpD] at h
    split at h
    · simp only [Option.map_eq_some_iff] at h
      obtain ⟨c, hc, rfl⟩ := h
      obtain ⟨l, vs, n, rfl, ho, hr⟩ := q.lst
      refine notIn_listAt _ (lobj_isList ho) (mem_eqAt hc hr r' R) ?_
      rw [any_isD hc hr]; exact EvP.here (.bool _)
    · simp only [Option.map_eq_some_iff] at h
      obtain ⟨c, hc, rfl⟩ := h
      obtain ⟨l, vs, n, rfl, _, ho, hr⟩ := q.tup
      refine notIn_tupleAt _ (tobj_isTuple ho) (mem_eqAt hc hr r' R) ?_
      rw [any_isD hc hr]; exact EvP.here (.bool _)
    · cases h
  | _ => simp [cmpD] at h
end
end Mine
end

section
set_option Elab.async false
set_option maxRecDepth 10000
open PySem PySem.Calls PyProof.Rows PySem.SeqAt PySem.MeetsSeq
namespace Mine
section
variable {prog : Program} {w : World} {A : Around} {s : Shared} {X : Addr → Prop} {E : Value → Shared → Prop} {k : Nat}

theorem lim_int {n : Nat} (h : n ≤ lim) : (n : Int) < 2 ^ 63 := by unfold lim at h; omega

theorem truth_sound {d : D} {b : Bool} {v : Value} (h : truthD d = some b) (r : RepB s.heap X v d) :
    wpAny (model prog w) A (truthy v) (BoP s fun c => c = b) E s := by
  cases d with
  | none => have r' : Rep s.heap X v .none := r; cases r'; cases h; exact truthy_none (BoP.here rfl)
  | bool c => obtain rfl := r.bool; cases h; exact wpAny_truthy_bool (BoP.here rfl)
  | int i =>
    obtain ⟨t, rfl⟩ := r.int
    cases h
    refine P.truthy_int (BoP.here ?_)
    rw [Bool.eq_iff_iff]; simp
  | txt o cs =>
    simp only [truthD] at h
    split at h
    · rename_i hl
      cases h
      cases o with
      | false =>
        obtain ⟨t, rfl⟩ := txt_str r
        have hz : (⟨cs.toArray⟩ : Str).length = cs.length := by simp [Str.length]
        refine P.truthy_str (by rw [hz]; have := lim_int hl; omega) (BoP.here ?_)
        rw [hz]
        cases cs <;> simp
        omega
      | true =>
        obtain ⟨_, t, rfl⟩ := txt_bytes r
        refine PySem.W.truthy_bytes (by simp; unfold lim at hl; omega) (BoP.here ?_)
        cases cs <;> simp
        omega
    · cases h
  | lst ds =>
    obtain ⟨a, vs, n, rfl, ho, hr⟩ := r.lst
    simp only [truthD] at h
    split at h
    · rename_i hl
      cases h
      have e : vs.length = ds.length := hr.length
      refine wpAny_truthy_list (lobj_isList ho) (by simp; rw [e]; exact lim_int hl) (BoP.here ?_)
      cases vs <;> cases ds <;> simp_all
    · cases h
  | tup ds =>
    obtain ⟨a, vs, n, rfl, _, ho, hr⟩ := r.tup
    simp only [truthD] at h
    split at h
    · rename_i hl
      cases h
      have e : vs.length = ds.length := hr.length
      refine truthy_tuple (tobj_isTup ho) (by simp; rw [e]; exact lim_int hl) (BoP.here ?_)
      cases vs <;> cases ds <;> simp_all
    · cases h
  | typ n => cases h

theorem natIdx_spec {n : Nat} {i : Int} {j : Nat} (h : natIdx n i = some j) : (0 ≤ i ∧ j = i.toNat ∧ j < n) ∨ (i < 0 ∧ -(n : Int) ≤ i ∧ j = (i + n).toNat ∧ j < n) := by
  unfold natIdx at h
  split at h
  · split at h
    · cases h; left; refine ⟨by assumption, rfl, by assumption⟩
    · cases h
  · split at h
    · cases h; right; refine ⟨by omega, by assumption, rfl, by omega⟩
    · cases h
theorem natIdx_seq {n : Nat} {i : Int} {j : Nat} (h : natIdx n i = some j) : seqIndex? i n = some j := by
  unfold seqIndex?
  rcases natIdx_spec h with ⟨h1, h2, h3⟩ | ⟨h1, h2, h3, h4⟩
  · have : ¬ i < 0 := by omega
    simp only [this, if_false]
    have h5 : (decide (0 ≤ i) && decide (i < (n : Int))) = true := by simp; omega
    rw [if_pos h5, h2]
  · simp only [h1, if_true]
    have h5 : (decide (0 ≤ i + n) && decide (i + n < (n : Int))) = true := by simp; omega
    rw [if_pos h5, h3]

theorem item_sound {d : D} {i : Int} {t : Tok} {e : D} {v : Value} (h : idxD d (.int i) = some e) (r : RepB s.heap X v d) :
    wpAny (model prog w) A (getItem v (.int i t)) (EvP s fun h v => Rep h X v e) E s ∧ ∃ T id, s.TypeIs v T ∧ typeLookup (.type T) "__getitem__" = pure (some (.builtin id)) := by
  cases d with
  | lst ds =>
    obtain ⟨a, vs, n, rfl, ho, hr⟩ := r.lst
    simp only [idxD] at h
    split at h
    · rename_i hl
      obtain ⟨j, hj, hd⟩ := Option.bind_eq_some_iff.mp h
      obtain ⟨u, hu, ru⟩ := hr.get hd
      have e1 : vs.length = ds.length := hr.length
      have hli := lim_int hl
      refine ⟨?_, "list", _, (lobj_isList ho).typeIs, slot_list_getitem.lookup⟩
      rcases natIdx_spec hj with ⟨h1, rfl, h3⟩ | ⟨h1, h2, rfl, h4⟩
      · exact wpAny_getItem_list (lobj_isList ho) h1 (by omega) (by simpa using hu) (EvP.here ru)
      · exact PySem.wpAny_getItem_list_neg (lobj_isList ho) h1 (by simp [e1]; exact h2) (by omega) (by simp only [List.size_toArray, e1]; simpa using hu) (EvP.here ru)
    · cases h
  | tup ds =>
    obtain ⟨a, vs, n, rfl, _, ho, hr⟩ := r.tup
    simp only [idxD] at h
    split at h
    · rename_i hl
      obtain ⟨j, hj, hd⟩ := Option.bind_eq_some_iff.mp h
      obtain ⟨u, hu, ru⟩ := hr.get hd
      have e1 : vs.length = ds.length := hr.length
      have hli := lim_int hl
      have hb := natIdx_spec hj
      refine ⟨?_, "tuple", _, ⟨_, ho, rfl⟩, F.slot_tuple_getitem.lookup⟩
      exact PyProof.Rows.getItem_tuple (tobj_isTup ho) (by omega) (by omega) (by simp only [List.size_toArray, e1]; exact natIdx_seq hj) (by simpa using hu) (EvP.here ru)
    · cases h
  | _ => simp [idxD] at h

theorem sub_plain {e : Expr} {o i : Value} (hs : ∀ l u st p, e ≠ .Slice l u st p) : subscripted e false o i = operate [o, i] (getItem o i) := by
  cases e with
  | Slice l u st p => exact absurd rfl (hs l u st p)
  | _ => rfl

theorem idx_sound {value slice : Expr} {d : D} {i : Int} {t : Tok} {e : D} {v : Value} (hs : ∀ l u st p, slice ≠ .Slice l u st p) (h : idxD d (.int i) = some e) (r : RepB s.heap X v d) :
    wpAny (model prog w) A (subscriptTail value slice v (.int i t)) (EvP s fun h v => Rep h X v e) E s := by
  obtain ⟨g, T, id, hT, hl⟩ := item_sound (prog := prog) (w := w) (A := A) (E := E) (t := t) h r
  exact tail_any hT hl g (sub_plain hs)

theorem clipI_eq {n : Nat} {i : Int} : clipI n i = clipAt n i := by
  unfold clipI clipAt
  by_cases h : 0 ≤ i
  · rw [if_pos h, if_neg (by omega)]; omega
  · rw [if_neg h, if_pos (by omega)]; omega

theorem pickL {vs : List Value} {ds : List D} {hp : Heap} (hr : RepA hp X vs ds) (lo hi : Option Int) : RepA hp X (slicePick vs.toArray lo hi none).toList ((ds.take (hi.elim ds.length (clipI ds.length))).drop (lo.elim 0 (clipI ds.length))) := by
  have e1 : vs.length = ds.length := hr.length
  rw [slicePick_plain]
  have ec : clipAt ds.length = clipI ds.length := by funext i; exact clipI_eq.symm
  simp only [List.size_toArray, e1, ec]
  have := (hr.take (hi.elim ds.length (clipI ds.length))).drop (lo.elim 0 (clipI ds.length))
  simp only [List.drop_take] at this ⊢
  simpa using this

/-- a slice of a list: lo, hi written or not -/
theorem sliceL_sound {value : Expr} {l u : Option Expr} {p : Pos} {sl : Addr} {vl vu : Value} {lo hi : Option Int} {ds : List D} {v : Value} (hz : ds.length ≤ lim) (r : RepL s.heap X v ds)
    (hs : s.heap.IsSliceOf sl vl vu .none) (pl : IsPart vl lo) (pu : IsPart vu hi) (hX : ∀ a, X a → ∃ o, s.heap.get? a = some o) :
    wpAny (model prog w) A (subscriptTail value (.Slice l u none p) v (.ref sl)) (EvP s fun h v => Rep h X v (.lst ((ds.take (hi.elim ds.length (clipI ds.length))).drop (lo.elim 0 (clipI ds.length))))) E s := by
  obtain ⟨a, vs, n, rfl, ho, hr⟩ := r
  have e1 : vs.length = ds.length := hr.length
  refine tail_any (ops := [.ref sl, .ref a]) (lobj_isList ho).typeIs slot_list_getitem.lookup (wpAny_getItem_list_slice (lobj_isList ho) hs pl pu .none (by simp) ?_ (by simp [e1]; exact lim_le hz)) rfl
  refine EvP.mk (Ext.rfl.push _) (.lst (vs := (slicePick vs.toArray lo hi none).toList) (n := 0) (fun q => by obtain ⟨o, e⟩ := hX _ q; rw [fresh_not (Nat.le_refl _)] at e; cases e) ?_ ((pickL hr lo hi).ext (Ext.rfl.push _)))
  rw [Heap.get?_push_size _ rfl]

theorem picked0 (x : Str) (t : Tok) : slicePicked x none (some (0, t)) none = [] := by
  have h : ∀ n : Nat, Builtin.Str.strSliceIndices none (some 0) 1 n = [] := by
    intro n
    unfold Builtin.Str.strSliceIndices
    simp
    have e : max 0 (min 0 (n : Int)) = 0 := by omega
    rw [e]
    rfl
  exact h _
theorem bpicked0 (b : Array UInt8) : PySem.W.KBy.picked b none (some 0) = #[] := by
  unfold PySem.W.KBy.picked
  rw [sliceBounds_plain]
  simp [Builtin.Bytes.sliced, clipAt, sliceRange]
  intro a h
  split at h <;> omega

theorem sliceT_sound {value : Expr} {p : Pos} {u : Option Expr} {sl : Addr} {o : Bool} {cs : List Nat} {v : Value} {t : Tok} (r : Rep s.heap X v (.txt o cs))
    (hs : s.heap.get? sl = some { cls := .type "slice", data := .fields #[.none, .int 0 t, .none] }) :
    wpAny (model prog w) A (subscriptTail value (.Slice none u none p) v (.ref sl)) (EvP s fun h v => Rep h X v (.txt o [])) E s := by
  cases o with
  | false =>
    obtain ⟨t', rfl⟩ := txt_str r
    refine tail_any (ops := [.ref sl, .str ⟨cs.toArray⟩ t']) (typeIs_str _ _ _) F.slot_str_getitem.lookup (wpAny_getItem_str_slice (l := none) (u := some (0, t)) (st := none) ⟨_, hs, rfl, rfl⟩ rfl ?_) rfl
    unfold sliceMade
    rw [picked0]
    simp only [List.length_nil, List.filterMap_nil]
    split
    · rename_i hc
      simp only [Bool.and_eq_true, beq_iff_eq] at hc
      have hz : cs = [] := by
        have := hc.2
        simp only [Str.length, List.size_toArray] at this
        exact List.eq_nil_of_length_eq_zero this.symm
      subst hz
      exact EvP.here (.str _ _)
    · exact ⟨by simp [Str.length], EvP.here (.str [] _)⟩
  | true =>
    obtain ⟨hc, t', rfl⟩ := txt_bytes r
    refine tail_any (ops := [.ref sl, .bytes _ t']) (PySem.W.typeIs_bytes _ _ _) PySem.W.FB.slot_bytes_getitem.lookup (getItem_meets (PySem.W.typeIs_bytes _ _ _) (by decide) PySem.W.FB.slot_bytes_getitem PySem.W.FB.entry_bytes_getitem (PySem.W.FB.args_bytes_getitem_2 _ _) (PySem.W.KBc.meets_slice2 _ t' _ .none (.int 0 t))
      ⟨⟨_, hs, rfl, rfl⟩, ?_, fun t'' k => ?_⟩) rfl
    · rw [bpicked0]; simp
    · rw [bpicked0]; exact EvP.here (.bytes [] _ (by simp))
end
end Mine
end

section
set_option Elab.async false
set_option maxRecDepth 100000
open PySem PySem.Calls PyProof.Rows PySem.SeqAt PySem.MeetsSeq PySem.Builtin
namespace Mine

theorem u8_eq {a b : Nat} (ha : a < 256) (hb : b < 256) : (UInt8.ofNat a == UInt8.ofNat b) = (a == b) := by
  rw [Bool.eq_iff_iff]
  simp only [beq_iff_eq]
  constructor
  · intro e
    have := congrArg UInt8.toNat e
    simpa [UInt8.toNat_ofNat', Nat.mod_eq_of_lt ha, Nat.mod_eq_of_lt hb] using this
  · intro e; rw [e]
theorem prefix_u8 : ∀ {y x : List Nat}, (∀ c ∈ y, c < 256) → (∀ c ∈ x, c < 256) → (y.map UInt8.ofNat).isPrefixOf (x.map UInt8.ofNat) = y.isPrefixOf x
  | [], _, _, _ => by simp
  | _ :: _, [], _, _ => by simp
  | a :: y, b :: x, hy, hx => by
    simp only [List.map_cons, List.isPrefixOf_cons_cons]
    rw [u8_eq (hy a (.head _)) (hx b (.head _)), prefix_u8 (fun c h => hy c (.tail _ h)) fun c h => hx c (.tail _ h)]
theorem suffix_u8 {y x : List Nat} (hy : ∀ c ∈ y, c < 256) (hx : ∀ c ∈ x, c < 256) : (y.map UInt8.ofNat).isSuffixOf (x.map UInt8.ofNat) = y.isSuffixOf x := by
  unfold List.isSuffixOf
  rw [← List.map_reverse, ← List.map_reverse]
  exact prefix_u8 (fun c h => hy c (List.mem_reverse.mp h)) fun c h => hx c (List.mem_reverse.mp h)

theorem take_prefix {α : Type} [BEq α] [LawfulBEq α] (x y : List α) : (x.take y.length == y) = y.isPrefixOf x := by
  rw [Bool.eq_iff_iff]
  simp only [beq_iff_eq, List.isPrefixOf_iff_prefix]
  rw [List.prefix_iff_eq_take]
  exact ⟨fun e => e.symm, fun e => e.symm⟩
theorem drop_suffix {α : Type} [BEq α] [LawfulBEq α] (x y : List α) (_ : y.length ≤ x.length) : (x.drop (x.length - y.length) == y) = y.isSuffixOf x := by
  rw [Bool.eq_iff_iff]
  simp only [beq_iff_eq, List.isSuffixOf_iff_suffix]
  rw [List.suffix_iff_eq_drop]
  exact ⟨fun e => e.symm, fun e => e.symm⟩

theorem arr_beq {α : Type} [BEq α] [LawfulBEq α] (a b : Array α) : (a == b) = (a.toList == b.toList) := by
  rw [Bool.eq_iff_iff]; simp

theorem starts_val (b c : Array UInt8) : (if (b.size : Int) - 0 < c.size then false else b.extract 0 (0 + c.size) == c) = c.toList.isPrefixOf b.toList := by
  by_cases h : (b.size : Int) - 0 < c.size
  · rw [if_pos h]
    symm
    rw [Bool.eq_false_iff]
    intro q
    have := (List.isPrefixOf_iff_prefix.mp q).length_le
    simp at this; omega
  · rw [if_neg h, arr_beq, ← take_prefix]
    simp
theorem ends_val (b c : Array UInt8) : (if (b.size : Int) - 0 < c.size then false else b.extract (b.size - c.size) b.size == c) = c.toList.isSuffixOf b.toList := by
  by_cases h : (b.size : Int) - 0 < c.size
  · rw [if_pos h]
    symm
    rw [Bool.eq_false_iff]
    intro q
    have := (List.isSuffixOf_iff_suffix.mp q).length_le
    simp at this; omega
  · rw [if_neg h, arr_beq, ← drop_suffix _ _ (by simp; omega)]
    have e : (b.extract (b.size - c.size) b.size).toList = b.toList.drop (b.size - c.size) := by
      rw [Array.toList_extract, List.extract_eq_take_drop]
      exact List.take_of_length_le (by simp)
    rw [e]; simp

theorem gives_bytes_starts (b c : Array UInt8) (t u : Tok) : Gives («bytes.startswith» ⟨[.bytes b t, .bytes c u], []⟩) (.val (.bool (c.toList.isPrefixOf b.toList))) := by
  refine .of_wp fun M A E s Q hq => ?_
  show wpAny M A (isInstance (.bytes c u) (.type "tuple") >>= fun r => _) _ E s
  refine wpAny_bind (wpAny_of_eq (a := false) (by kernel_rfl) ?_)
  show wpAny M A (Bytes.buffer? _ (.bytes c u) >>= fun r => _) _ E s
  refine wpAny_bind (wpAny_of_eq PySem.W.KBy.buffer_eq ?_)
  refine wpAny_pure ⟨_, rfl, ?_⟩
  have e : Min.min (b.size : Int) ((fun i => if i < 0 then Max.max 0 (i + (b.size : Int)) else i) ((none : Option Int).getD b.size)) = b.size := by
    show Min.min (b.size : Int) (if (b.size : Int) < 0 then Max.max 0 ((b.size : Int) + (b.size : Int)) else b.size) = b.size
    rw [if_neg (by omega)]; omega
  have h1 : Q (.bool (if (b.size : Int) - 0 < c.size then false else b.extract 0 (0 + c.size) == c)) s := by rw [starts_val]; exact hq
  show Q (.bool (if Min.min (b.size : Int) ((fun i => if i < 0 then Max.max 0 (i + (b.size : Int)) else i) ((none : Option Int).getD b.size)) - 0 < c.size then false else b.extract 0 (0 + c.size) == c)) s
  rw [e]; exact h1
theorem gives_bytes_ends (b c : Array UInt8) (t u : Tok) : Gives («bytes.endswith» ⟨[.bytes b t, .bytes c u], []⟩) (.val (.bool (c.toList.isSuffixOf b.toList))) := by
  refine .of_wp fun M A E s Q hq => ?_
  show wpAny M A (isInstance (.bytes c u) (.type "tuple") >>= fun r => _) _ E s
  refine wpAny_bind (wpAny_of_eq (a := false) (by kernel_rfl) ?_)
  show wpAny M A (Bytes.buffer? _ (.bytes c u) >>= fun r => _) _ E s
  refine wpAny_bind (wpAny_of_eq PySem.W.KBy.buffer_eq ?_)
  refine wpAny_pure ⟨_, rfl, ?_⟩
  have e : Min.min (b.size : Int) ((fun i => if i < 0 then Max.max 0 (i + (b.size : Int)) else i) ((none : Option Int).getD b.size)) = b.size := by
    show Min.min (b.size : Int) (if (b.size : Int) < 0 then Max.max 0 ((b.size : Int) + (b.size : Int)) else b.size) = b.size
    rw [if_neg (by omega)]; omega
  have h1 : Q (.bool (if (b.size : Int) - 0 < c.size then false else b.extract (b.size - c.size) b.size == c)) s := by rw [ends_val]; exact hq
  show Q (.bool (if Min.min (b.size : Int) ((fun i => if i < 0 then Max.max 0 (i + (b.size : Int)) else i) ((none : Option Int).getD b.size)) - 0 < c.size then false
    else b.extract ((Min.min (b.size : Int) ((fun i => if i < 0 then Max.max 0 (i + (b.size : Int)) else i) ((none : Option Int).getD b.size))).toNat - c.size)
      (Min.min (b.size : Int) ((fun i => if i < 0 then Max.max 0 (i + (b.size : Int)) else i) ((none : Option Int).getD b.size))).toNat == c)) s
  rw [e]; exact h1

theorem subAt_str (x y : List Nat) (i : Nat) : Str.subAt ⟨x.toArray⟩ ⟨y.toArray⟩ i = ((x.drop i).take y.length == y) := by
  rw [StrLaws.subAt_eq]
  rfl
theorem txt_starts (x y : List Nat) : Txt.startswith ⟨x.toArray⟩ ⟨y.toArray⟩ = y.isPrefixOf x := by
  unfold Txt.startswith
  rw [subAt_str, List.drop_zero, take_prefix]
  rw [Bool.eq_iff_iff]
  simp only [Str.length, List.size_toArray, Nat.zero_add, Bool.and_eq_true, decide_eq_true_eq, and_iff_right_iff_imp]
  intro q
  exact (List.isPrefixOf_iff_prefix.mp q).length_le
theorem txt_ends (x y : List Nat) : Txt.endswith ⟨x.toArray⟩ ⟨y.toArray⟩ = y.isSuffixOf x := by
  unfold Txt.endswith
  rw [subAt_str]
  rw [Bool.eq_iff_iff]
  simp only [Str.length, List.size_toArray, Nat.zero_add, Bool.and_eq_true, decide_eq_true_eq]
  constructor
  · rintro ⟨h1, h2⟩
    rw [← drop_suffix _ _ h1]
    rw [List.take_of_length_le (by simp; omega)] at h2
    exact h2
  · intro q
    have h1 := (List.isSuffixOf_iff_suffix.mp q).length_le
    refine ⟨h1, ?_⟩
    rw [List.take_of_length_le (by simp; omega), drop_suffix _ _ h1]
    exact q

section
variable {prog : Program} {w : World} {A : Around} {s : Shared} {X : Addr → Prop} {E : Value → Shared → Prop} {k : Nat}
theorem starts_sound {o : Bool} {x y : List Nat} {u v : Value} (r : Rep s.heap X u (.txt o x)) (q : Rep s.heap X v (.txt o y)) :
    wpAny (model prog w) A (call (.builtin (if o then "bytes.startswith" else "str.startswith")) [u, v]) (EvP s fun h v => Rep h X v (.bool (y.isPrefixOf x))) E s := by
  cases o with
  | false =>
    obtain ⟨t, rfl⟩ := txt_str r
    obtain ⟨t', rfl⟩ := txt_str q
    refine SC.startswith ?_
    rw [txt_starts]; exact EvP.here (.bool _)
  | true =>
    obtain ⟨hx, t, rfl⟩ := txt_bytes r
    obtain ⟨hy, t', rfl⟩ := txt_bytes q
    refine call_gives PySem.W.FB.slot_bytes_startswith (PySem.W.typeIs_bytes _ _ _) PySem.W.FB.entry_bytes_startswith (PySem.W.FB.args_bytes_startswith_2 _ _) (gives_bytes_starts _ _ _ _) ?_
    show EvP s _ (Value.bool ((List.map UInt8.ofNat y).isPrefixOf (List.map UInt8.ofNat x))) s
    rw [prefix_u8 hy hx]; exact EvP.here (.bool _)
theorem ends_sound {o : Bool} {x y : List Nat} {u v : Value} (r : Rep s.heap X u (.txt o x)) (q : Rep s.heap X v (.txt o y)) :
    wpAny (model prog w) A (call (.builtin (if o then "bytes.endswith" else "str.endswith")) [u, v]) (EvP s fun h v => Rep h X v (.bool (y.isSuffixOf x))) E s := by
  cases o with
  | false =>
    obtain ⟨t, rfl⟩ := txt_str r
    obtain ⟨t', rfl⟩ := txt_str q
    refine SC.endswith ?_
    rw [txt_ends]; exact EvP.here (.bool _)
  | true =>
    obtain ⟨hx, t, rfl⟩ := txt_bytes r
    obtain ⟨hy, t', rfl⟩ := txt_bytes q
    refine call_gives PySem.W.FB.slot_bytes_endswith (PySem.W.typeIs_bytes _ _ _) PySem.W.FB.entry_bytes_endswith (PySem.W.FB.args_bytes_endswith_2 _ _) (gives_bytes_ends _ _ _ _) ?_
    show EvP s _ (Value.bool ((List.map UInt8.ofNat y).isSuffixOf (List.map UInt8.ofNat x))) s
    rw [suffix_u8 hy hx]; exact EvP.here (.bool _)
end
end Mine
end

section
set_option Elab.async false
set_option maxRecDepth 100000
open PySem PySem.Calls PyProof.Rows PySem.SeqAt PySem.MeetsSeq PySem.Builtin
namespace Mine
open Builtin._codecs

theorem foldl_bytes (l : List Nat) (acc : Array UInt8) : l.foldl (fun acc y => acc ++ [y.toUInt8].toArray) acc = acc ++ (l.map UInt8.ofNat).toArray := by
  induction l generalizing acc with
  | nil => simp
  | cons c l ih => rw [List.foldl_cons, ih]; apply Array.ext'; simp

theorem forIn_two {β : Type} {f : Nat → β → Sem (ForInStep β)} {b0 b1 : β} {x : Nat} {l : List Nat} (h0 : f x b0 = pure (.yield b1)) (h1 : ∀ j, f j b1 = pure (.done b1)) : forIn (x :: l) b0 f = pure b1 := by
  rw [List.forIn_cons, h0]
  show forIn l b1 f = pure b1
  cases l with
  | nil => rfl
  | cons j l => rw [List.forIn_cons, h1]; rfl

theorem narrow_latin (id : String) (self : Value) (cs : List Nat) (h : ∀ c ∈ cs, c < 256) (hz : cs.length ≤ sizeLine) :
    encodeNarrow id latin1Codec none self ⟨cs.toArray⟩ = pure (cs.map UInt8.ofNat).toArray := by
  unfold encodeNarrow
  simp only [Std.Legacy.Range.forIn_eq_forIn_range', Str.length, List.size_toArray]
  cases cs with
  | nil => rfl
  | cons c r =>
    have hsz : [:(c :: r).length].size = r.length + 1 := by simp [Std.Legacy.Range.size]
    rw [hsz, List.range'_succ]
    have hbad : ∀ x ∈ c :: r, latin1Codec.bad x = false := fun x hx => by
      have := h x hx
      simp only [latin1Codec, decide_eq_false_iff_not]; omega
    have hfind : Array.findIdx? latin1Codec.bad (c :: r).toArray = none := by
      rw [Array.findIdx?_eq_none_iff]
      intro x hx
      exact hbad x (by simpa using hx)
    rw [forIn_two (b1 := ((c :: r).length, ((c :: r).map UInt8.ofNat).toArray, ({} : Faults)))]
    · rfl
    · have e1 : ¬ ((#[] : Array UInt8).size > sizeLine) := by simp
      have e2 : ((c :: r).toArray.extract 0 (c :: r).length) = (c :: r).toArray := by apply Array.ext'; simp
      have e3 : (!latin1Codec.bad c) = true := by rw [hbad c (.head _)]; rfl
      simp only [if_neg e1, e2, hfind]
      have e4 : (c :: r).toArray[0]? = some c := rfl
      rw [e4]
      simp only [e3, if_true]
      have e5 : ((c :: r).toArray.extract 0 ((none : Option Nat).getD (c :: r).toArray.size)) = (c :: r).toArray := by apply Array.ext'; simp
      rw [e5]
      have e6 : Array.foldl (fun acc y => acc ++ (latin1Codec.bytesOf y).toArray) #[] (c :: r).toArray = ((c :: r).map UInt8.ofNat).toArray := by
        rw [List.foldl_toArray]
        have := foldl_bytes (c :: r) #[]
        rw [Array.empty_append] at this
        exact this
      rw [e6]
      simp
    · intro j
      have e1 : ¬ ((((c :: r).map UInt8.ofNat).toArray).size > sizeLine) := by simp at hz ⊢; omega
      simp only [if_neg e1]
      have e4 : (c :: r).toArray[(c :: r).length]? = none := by simp
      rw [e4]

theorem encode_latin_tree (x : Str) (t u : Tok) : «str.encode» ⟨[.str x t, .str (Str.ofString "latin-1") u], []⟩ = (do mkBytes (← encodeNarrow "str.encode" latin1Codec none (.str x t) x)) >>= fun v => ret v := by
  kernel_rfl

section
variable {prog : Program} {w : World} {A : Around} {s : Shared} {X : Addr → Prop} {E : Value → Shared → Prop} {k : Nat}
theorem encode_sound {x : List Nat} {u v : Value} (hz : x.length ≤ lim) (hx : ∀ c ∈ x, c < 256) (r : Rep s.heap X u (.txt false x)) (q : Rep s.heap X v (.txt false (S "latin-1").cps.toList)) :
    wpAny (model prog w) A (call (.builtin "str.encode") [u, v]) (EvP s fun h v => Rep h X v (.txt true x)) E s := by
  obtain ⟨t, rfl⟩ := txt_str r
  obtain ⟨t', rfl⟩ := txt_str q
  have g : Gives («str.encode» ⟨[.str ⟨x.toArray⟩ t, .str (Str.ofString "latin-1") t'], []⟩) (.bytes (x.map UInt8.ofNat).toArray) := by
    refine .of_wp fun M A E s Q hq => ?_
    rw [encode_latin_tree, narrow_latin _ _ _ hx (lim_le hz)]
    exact wpAny_bind (wpAny_bind (wpAny_pure (wpAny_mkBytes (wpAny_pure ⟨_, rfl, hq.2⟩) hq.1)))
  refine call_gives F.slot_str_encode (typeIs_str _ _ _) F.entry_str_encode (F.args_str_encode_2 _ _) g ⟨by simpa using lim_le hz, EvP.here (.bytes _ _ hx)⟩
end
end Mine
end

section
set_option Elab.async false
set_option maxRecDepth 100000
open PySem PySem.Calls PyProof.Rows PySem.SeqAt PySem.MeetsSeq PySem.Builtin
namespace Mine

theorem splitC_ne (c : Nat) (l : List Nat) : splitC c l ≠ [] := by
  induction l with
  | nil => simp [splitC]
  | cons x l ih =>
    unfold splitC
    split
    · simp
    · split <;> simp

theorem split_app (c : Nat) (p : List Nat) (hp : c ∉ p) (l : List Nat) : splitC c (p ++ l) = match splitC c l with | [] => [p] | q :: qs => (p ++ q) :: qs := by
  induction p with
  | nil =>
    have := splitC_ne c l
    cases h : splitC c l with
    | nil => exact absurd h this
    | cons q qs => simp [h]
  | cons x p ih =>
    have hx : x ≠ c := fun e => hp (by simp [e])
    have hp' : c ∉ p := fun m => hp (List.mem_cons_of_mem _ m)
    rw [List.cons_append, splitC, if_neg hx, ih hp']
    cases h : splitC c l with
    | nil => exact absurd h (splitC_ne c l)
    | cons q qs => simp

theorem split_unique (c : Nat) : ∀ (ps : List (List Nat)), ps ≠ [] → (∀ p ∈ ps, c ∉ p) → splitC c (joinC [c] ps) = ps
  | [], h, _ => absurd rfl h
  | [p], _, h => by
    have := split_app c p (h p (.head _)) []
    simpa [joinC, splitC] using this
  | p :: q :: r, _, h => by
    have hp := h p (.head _)
    have ih := split_unique c (q :: r) (by simp) fun x hx => h x (.tail _ hx)
    show splitC c (p ++ [c] ++ joinC [c] (q :: r)) = _
    rw [List.append_assoc, split_app c p hp, List.singleton_append, splitC, if_pos rfl, ih]
    simp

theorem strjoin_list (c : List Nat) : ∀ ps : List Str, (Str.join ⟨c.toArray⟩ ps).cps.toList = joinC c (ps.map (·.cps.toList))
  | [] => by simp [Str.join, joinC, Str.empty]
  | [p] => by simp [Str.join, joinC]
  | p :: q :: r => by
    have ih := strjoin_list c (q :: r)
    rw [Str.join, List.map_cons, List.map_cons, joinC]
    · rw [List.map_cons] at ih
      rw [← ih]
      simp [Str.cps_append]
    · simp

theorem partsB_ne {x : Str} {o : List Nat} {n : Nat} : Builtin.Str.partsBetween x o n ≠ [] := by
  unfold Builtin.Str.partsBetween
  cases o <;> simp
theorem txtsplit_ne (x y : Str) : Txt.split x y ≠ [] := by
  unfold Txt.split
  split
  · simp
  · split
    · simp
    · exact partsB_ne

theorem txt_split (x : List Nat) (c : Nat) : (Txt.split ⟨x.toArray⟩ ⟨#[c]⟩).map (·.cps.toList) = splitC c x := by
  have h1 := StrLaws.join_split ⟨x.toArray⟩ ⟨#[c]⟩
  have h2 := StrLaws.split_free ⟨x.toArray⟩ c
  have h3 := strjoin_list [c] (Txt.split ⟨x.toArray⟩ ⟨#[c]⟩)
  rw [h1] at h3
  have h4 := split_unique c ((Txt.split ⟨x.toArray⟩ ⟨#[c]⟩).map (·.cps.toList)) (by simpa using txtsplit_ne _ _) (by
    intro p hp
    obtain ⟨q, hq, rfl⟩ := List.mem_map.mp hp
    exact h2 q hq)
  rw [← h4, ← h3]

theorem split_len_le (c : Nat) (l : List Nat) : (splitC c l).length ≤ l.length + 1 := by
  induction l with
  | nil => simp [splitC]
  | cons x l ih =>
    unfold splitC
    split
    · simp; exact ih
    · split
      · simp
      · rename_i p ps h
        rw [h] at ih
        simp at ih ⊢; omega
theorem split_sub (c : Nat) (l : List Nat) : ∀ p ∈ splitC c l, ∀ x ∈ p, x ∈ l := by
  induction l with
  | nil => simp [splitC]
  | cons y l ih =>
    unfold splitC
    split
    · intro p hp x hx
      rcases List.mem_cons.mp hp with rfl | hp
      · simp at hx
      · exact .tail _ (ih p hp x hx)
    · split
      · rename_i h
        exact absurd h (splitC_ne c l)
      · rename_i q qs h
        rw [h] at ih
        intro p hp x hx
        rcases List.mem_cons.mp hp with rfl | hp
        · rcases List.mem_cons.mp hx with rfl | hx
          · exact .head _
          · exact .tail _ (ih q (.head _) x hx)
        · exact .tail _ (ih p (.tail _ hp) x hx)

theorem repA_strs {h : Heap} {X : Addr → Prop} : ∀ (tk : Nat) (ps : List Str), RepA h X (strsFrom tk ps) (ps.map fun p => D.txt false p.cps.toList)
  | _, [] => .nil
  | tk, p :: ps => .cons (.str p.cps.toList tk) (repA_strs (tk + 1) ps)

section
variable {prog : Program} {w : World} {A : Around} {s : Shared} {X : Addr → Prop} {E : Value → Shared → Prop} {k : Nat}
theorem newL_push {ds : List D} {vs : List Value} {tk : Nat} (hX : ∀ a, X a → ∃ o, s.heap.get? a = some o) (r : RepA s.heap X vs ds) :
    EvP s (fun h v => Rep h X v (.lst ds)) (.ref s.heap.objs.size) { s with heap := s.heap.push (lobj vs 0), toks := tk } :=
  EvP.mk (Ext.rfl.push _) (.lst (fun q => by obtain ⟨o, e⟩ := hX _ q; rw [fresh_not (Nat.le_refl _)] at e; cases e) (Heap.get?_push_size _ rfl) (r.ext (Ext.rfl.push _)))

theorem splitS_sound {x : List Nat} {c : Nat} {t t' : Tok} (hz : x.length ≤ lim) (hX : ∀ a, X a → ∃ o, s.heap.get? a = some o) :
    wpAny (model prog w) A (call (.builtin "str.split") [.str ⟨x.toArray⟩ t, .str ⟨#[c]⟩ t']) (EvP s fun h v => Rep h X v (.lst ((splitC c x).map (.txt false)))) E s := by
  have e : (splitC c x).map (D.txt false) = (Txt.split ⟨x.toArray⟩ ⟨#[c]⟩).map fun p => D.txt false p.cps.toList := by
    rw [← txt_split]; simp
  have hlen := split_len_le c x
  rw [← txt_split, List.length_map] at hlen
  rw [e]
  have hxl : (⟨x.toArray⟩ : Str).length = x.length := by simp [Str.length]
  have hs1 : x.length ≤ sizeLine := lim_le hz
  cases h1 : (decide ((⟨x.toArray⟩ : Str).length < (⟨#[c]⟩ : Str).length) || decide (Builtin.Str.strKind ⟨x.toArray⟩ < Builtin.Str.strKind ⟨#[c]⟩))
  · cases hf : (Builtin.Str.occurrences ⟨x.toArray⟩ ⟨#[c]⟩ 0 (⟨x.toArray⟩ : Str).length ((⟨x.toArray⟩ : Str).length + 1)).isEmpty
    · have e2 : Txt.split ⟨x.toArray⟩ ⟨#[c]⟩ = Builtin.Str.partsBetween ⟨x.toArray⟩ (Builtin.Str.occurrences ⟨x.toArray⟩ ⟨#[c]⟩ 0 (⟨x.toArray⟩ : Str).length ((⟨x.toArray⟩ : Str).length + 1)) (⟨#[c]⟩ : Str).length := by
        unfold Txt.split
        rw [h1, hf]; simp
      rw [e2] at hlen ⊢
      refine call_meets F.slot_str_split (typeIs_str _ _ _) F.entry_str_split (F.args_str_split_2 _ _) (meets_str_split_sep ⟨x.toArray⟩ ⟨#[c]⟩ t t' h1 rfl hf (by rw [hxl]; exact hs1) (Nat.le_trans hlen (by rw [sizeLine_eq]; unfold lim at hz; omega))) ?_
      exact newL_push hX (repA_strs _ _)
    · have e2 : Txt.split ⟨x.toArray⟩ ⟨#[c]⟩ = [⟨x.toArray⟩] := by
        unfold Txt.split
        rw [h1, hf]; simp
      rw [e2]
      refine call_meets F.slot_str_split (typeIs_str _ _ _) F.entry_str_split (F.args_str_split_2 _ _) (meets_str_split_not_found ⟨x.toArray⟩ ⟨#[c]⟩ t t' h1 rfl hf) ?_
      exact newL_push (vs := [.str ⟨x.toArray⟩ t]) (tk := s.toks) hX (.cons (.str _ _) .nil)
  · have e2 : Txt.split ⟨x.toArray⟩ ⟨#[c]⟩ = [⟨x.toArray⟩] := by
      unfold Txt.split
      rw [h1]; simp
    rw [e2]
    refine call_meets F.slot_str_split (typeIs_str _ _ _) F.entry_str_split (F.args_str_split_2 _ _) (meets_str_split_cannot_occur ⟨x.toArray⟩ ⟨#[c]⟩ t t' h1) ?_
    exact newL_push (vs := [.str ⟨x.toArray⟩ t]) (tk := s.toks) hX (.cons (.str _ _) .nil)
end
end Mine
end

section
set_option Elab.async false
set_option maxRecDepth 100000
open PySem PySem.Calls PyProof.Rows PySem.SeqAt PySem.MeetsSeq PySem.Builtin
namespace Mine
theorem slot_bytes_split : Slot "bytes" "split" "bytes.split" :=
  .of (owner := "bytes") (n := "split") (by rw [typeLookup_type, builtinLookup_eq_fast]; kernel_rfl) (by decide +kernel) (by decide +kernel) (by decide +kernel)
    (by first | exact .inl (by decide +kernel) | exact .inr (by decide +kernel)) (by rw [isSubtype_type]; kernel_rfl)
theorem type_bytes_split : typeOf (.builtin "bytes.split") = pure (.type "method_descriptor") := by show builtinType _ = _; rw [builtinType_eq_fast]; kernel_rfl
theorem entry_bytes_split : entryFor table "bytes.split" = some Builtin.«bytes.split» := entryFor_of_tree (by kernel_rfl)
theorem args_bytes_split_2 (a b : Value) : argsOk "bytes.split" ⟨[a, b], []⟩ := by
  unfold argsOk; rw [signature?_of (id := "bytes.split") (n := ['t', 'i', 'l', 'p', 's']) (o := ['s', 'e', 't', 'y', 'b']) (by kernel_rfl) PySem.W.FB.owner_bytes]; kernel_rfl
theorem slot_bytes_join : Slot "bytes" "join" "bytes.join" :=
  .of (owner := "bytes") (n := "join") (by rw [typeLookup_type, builtinLookup_eq_fast]; kernel_rfl) (by decide +kernel) (by decide +kernel) (by decide +kernel)
    (by first | exact .inl (by decide +kernel) | exact .inr (by decide +kernel)) (by rw [isSubtype_type]; kernel_rfl)
theorem type_bytes_join : typeOf (.builtin "bytes.join") = pure (.type "method_descriptor") := by show builtinType _ = _; rw [builtinType_eq_fast]; kernel_rfl
theorem entry_bytes_join : entryFor table "bytes.join" = some Builtin.«bytes.join» := entryFor_of_tree (by kernel_rfl)
theorem args_bytes_join_2 (a b : Value) : argsOk "bytes.join" ⟨[a, b], []⟩ := by
  unfold argsOk; rw [signature?_of (id := "bytes.join") (n := ['n', 'i', 'o', 'j']) (o := ['s', 'e', 't', 'y', 'b']) (by kernel_rfl) PySem.W.FB.owner_bytes]; kernel_rfl

theorem blike_eq {id : String} {b : Array UInt8} {t : Tok} : Bytes.bytesLike id (.bytes b t) = pure b := by
  unfold Bytes.bytesLike
  rw [PySem.W.KBy.buffer_eq]
  rfl

def bplaces (b c : Array UInt8) : List Nat := (Bytes.occurrences b c 0 b.size).take (b.size + 1)
theorem bytes_split_tree (b c : Array UInt8) (t u : Tok) (hc : c.isEmpty = false) {M : Model} {A : Around} {E : Value → Shared → Prop} {s : Shared} {Q : Fin → Shared → Prop}
    (h : wpAny M A (if (bplaces b c).isEmpty = true then (do rule "bytes.split.no-separator"; ret (← newList [.bytes b t])) else (do ret (← newList (← (Bytes.between b c.size (bplaces b c)).mapM Bytes.Kind.bytes.new)))) Q E s) :
    wpAny M A («bytes.split» ⟨[.bytes b t, .bytes c u], []⟩) Q E s := by
  show wpAny M A (Bytes.bytesLike _ (.bytes c u) >>= fun r => _) _ E s
  refine wpAny_bind (wpAny_of_eq blike_eq ?_)
  show wpAny M A (if c.isEmpty = true then _ else _) _ E s
  rw [if_neg (by rw [hc]; exact Bool.false_ne_true)]
  show wpAny M A (if (bplaces b c).isEmpty = true then _ else _) _ E s
  by_cases hp : (bplaces b c).isEmpty = true
  · rw [if_pos hp] at h ⊢
    exact h
  · rw [if_neg hp] at h ⊢
    exact h

def bytesFrom : Nat → List (Array UInt8) → List Value
  | _, [] => []
  | tk, b :: r => .bytes b tk :: bytesFrom (tk + 1) r
theorem wpAny_mapM_mkBytes {M : Model} {A : Around} {E : Value → Shared → Prop} : ∀ (bs : List (Array UInt8)) (s : Shared) (Q : List Value → Shared → Prop), (∀ b ∈ bs, b.size ≤ sizeLine) →
    Q (bytesFrom s.toks bs) { s with toks := s.toks + bs.length } → wpAny M A (bs.mapM Bytes.Kind.bytes.new) Q E s
  | [], s, Q, _, h => by rw [List.mapM_nil]; exact wpAny_pure h
  | b :: r, s, Q, hb, h => by
    rw [List.mapM_cons]
    refine wpAny_bind (wpAny_mkBytes (Q := fun v s' => wpAny M A _ Q E s') ?_ (hb b (.head _)))
    refine wpAny_bind (wpAny_mapM_mkBytes r _ _ (fun x hx => hb x (.tail _ hx)) (wpAny_pure ?_))
    have e : s.toks + 1 + r.length = s.toks + (b :: r).length := by simp; omega
    simpa [bytesFrom, e, Nat.add_assoc, Nat.add_comm] using h

theorem occ_fold (c : Nat) : ∀ (l : List Nat) (k last : Nat) (acc : List Nat) (b : Array UInt8), last ≤ k → b.toList.drop k = l.map UInt8.ofNat → (∀ x ∈ l, x < 256) → c < 256 →
    ((List.range' k l.length).foldl (fun (acc : List Nat × Nat) (i : Nat) => if i ≥ acc.2 && b.extract i (i + 1) == #[UInt8.ofNat c] then (i :: acc.1, i + 1) else acc) (acc, last)).1 =
      ((List.range' k l.length).filter fun i => l.getD (i - k) 256 == c).reverse ++ acc := by
  intro l
  induction l with
  | nil => intro k last acc b _ _ _ _; simp
  | cons x l ih =>
    intro k last acc b hk hb hx hc
    have hx0 : x < 256 := hx x (.head _)
    have hlt : k < b.size := by
      have := congrArg List.length hb
      simp at this; omega
    have hext : (b.extract k (k + 1) == #[UInt8.ofNat c]) = (x == c) := by
      rw [arr_beq]
      have : (b.extract k (k + 1)).toList = [UInt8.ofNat x] := by
        rw [Array.toList_extract, List.extract_eq_take_drop, hb]
        simp
      rw [this]
      simp only [List.cons_beq_cons]
      rw [u8_eq hx0 hc]
      simp
    have hb' : b.toList.drop (k + 1) = l.map UInt8.ofNat := by
      rw [← List.drop_drop, hb]; simp
    rw [List.length_cons, List.range'_succ, List.foldl_cons, List.filter_cons]
    have hg : decide (k ≥ last) = true := by simp; exact hk
    have hfil : ∀ (P : Nat → Bool), (List.range' (k + 1) l.length).filter (fun i => (x :: l).getD (i - k) 256 == c) = (List.range' (k + 1) l.length).filter fun i => l.getD (i - (k + 1)) 256 == c := by
      intro _
      refine List.filter_congr fun i hi => ?_
      have := (List.mem_range'_1.mp hi).1
      have e : i - k = (i - (k + 1)) + 1 := by omega
      rw [e, List.getD_cons_succ]
    simp only [hg, Bool.true_and, hext, Nat.sub_self, List.getD_cons_zero]
    rw [hfil fun _ => true]
    by_cases hxc : (x == c) = true
    · simp only [hxc, if_true]
      rw [ih (k + 1) (k + 1) (k :: acc) b (Nat.le_refl _) hb' (fun y hy => hx y (.tail _ hy)) hc]
      simp
    · simp only [hxc]
      exact ih (k + 1) last acc b (by omega) hb' (fun y hy => hx y (.tail _ hy)) hc

def posC (c : Nat) : Nat → List Nat → List Nat
  | _, [] => []
  | k, x :: l => if x = c then k :: posC c (k + 1) l else posC c (k + 1) l
theorem posC_filter (c : Nat) : ∀ (l : List Nat) (k : Nat), (List.range' k l.length).filter (fun i => l.getD (i - k) 256 == c) = posC c k l
  | [], k => rfl
  | x :: l, k => by
    rw [List.length_cons, List.range'_succ, List.filter_cons, posC]
    have hfil : (List.range' (k + 1) l.length).filter (fun i => (x :: l).getD (i - k) 256 == c) = (List.range' (k + 1) l.length).filter fun i => l.getD (i - (k + 1)) 256 == c := by
      refine List.filter_congr fun i hi => ?_
      have := (List.mem_range'_1.mp hi).1
      have e : i - k = (i - (k + 1)) + 1 := by omega
      rw [e, List.getD_cons_succ]
    rw [hfil, posC_filter c l (k + 1)]
    simp

theorem places_eq (x : List Nat) (c : Nat) (hx : ∀ y ∈ x, y < 256) (hc : c < 256) : bplaces (x.map UInt8.ofNat).toArray #[UInt8.ofNat c] = posC c 0 x := by
  have h := occ_fold c x 0 0 [] (x.map UInt8.ofNat).toArray (Nat.le_refl _) (by simp) hx hc
  rw [posC_filter] at h
  have e : Bytes.occurrences (x.map UInt8.ofNat).toArray #[UInt8.ofNat c] 0 (x.map UInt8.ofNat).toArray.size = posC c 0 x := by
    unfold Bytes.occurrences
    have e1 : (List.range ((x.map UInt8.ofNat).toArray.size + 1 - (0 + (#[UInt8.ofNat c] : Array UInt8).size))).map (· + 0) = List.range' 0 x.length := by
      simp [List.range_eq_range']
    rw [e1]
    have e2 : (#[UInt8.ofNat c] : Array UInt8).size = 1 := rfl
    simp only [e2]
    rw [h]
    simp
  unfold bplaces
  rw [e]
  refine List.take_of_length_le ?_
  have hl : ∀ (l : List Nat) (k : Nat), (posC c k l).length ≤ l.length := by
    intro l
    induction l with
    | nil => intro k; simp [posC]
    | cons y l ih => intro k; unfold posC; split <;> simp <;> have := ih (k + 1) <;> omega
  have := hl x 0
  simp; omega

/-- what the cuts leave between: the pieces of a row -/
theorem between_fold (c : Nat) (b : Array UInt8) : ∀ (l : List Nat) (k last : Nat) (acc : Array (Array UInt8)) (x : List Nat), b.toList = x.map UInt8.ofNat → x.drop k = l → last ≤ k → k ≤ x.length → c ∉ (x.take k).drop last →
    (let r := (posC c k l).foldl (fun (r : Array (Array UInt8) × Nat) p => (r.1.push (b.extract r.2 p), p + 1)) (acc, last);
      (r.1.push (b.extract r.2 b.size)).toList) = acc.toList ++ (splitC c (x.drop last)).map fun p => (p.map UInt8.ofNat).toArray := by
  intro l
  induction l with
  | nil =>
    intro k last acc x hb hd hk hkx hc
    have hk2 : k = x.length := by
      have := congrArg List.length hd
      simp at this; omega
    have hsz : b.size = x.length := by have := congrArg List.length hb; simpa using this
    simp only [posC, List.foldl_nil, Array.toList_push]
    congr 1
    have hfree : c ∉ x.drop last := by
      rw [hk2, List.take_of_length_le (Nat.le_refl _)] at hc
      exact hc
    have := split_app c (x.drop last) hfree []
    rw [List.append_nil] at this
    rw [this]
    simp only [splitC, List.append_nil, List.map_cons, List.map_nil, List.cons.injEq, and_true]
    apply Array.ext'
    rw [Array.toList_extract, List.extract_eq_take_drop, hb, hsz, ← List.map_drop, ← List.map_take]
    rw [List.take_of_length_le (by simp)]
  | cons y l ih =>
    intro k last acc x hb hd hk hkx hc
    have hd' : x.drop (k + 1) = l := by rw [← List.drop_drop, hd]; simp
    have hlt : k < x.length := by
      have := congrArg List.length hd
      simp at this; omega
    have hxk : x[k]? = some y := by
      have : (x.drop k)[0]? = some y := by rw [hd]; rfl
      simpa using this
    have htake : x.take (k + 1) = x.take k ++ [y] := by rw [List.take_add_one, hxk]; rfl
    unfold posC
    by_cases hyc : y = c
    · rw [if_pos hyc, List.foldl_cons]
      have hnext := ih (k + 1) (k + 1) (acc.push (b.extract last k)) x hb hd' (Nat.le_refl _) (by omega) (by
        have : (x.take (k + 1)).drop (k + 1) = [] := List.drop_eq_nil_of_le (by simp; omega)
        rw [this]; simp)
      simp only at hnext ⊢
      rw [hnext, Array.toList_push, List.append_assoc]
      congr 1
      have e1 : x.drop last = (x.take k).drop last ++ y :: x.drop (k + 1) := by
        conv => lhs; rw [← List.take_append_drop k x]
        rw [List.drop_append_of_le_length (by simp; omega), hd, hd']
      rw [e1, hyc, split_app c _ hc, splitC, if_pos rfl]
      simp only [List.append_nil, List.map_cons, List.singleton_append, List.cons.injEq, and_true]
      apply Array.ext'
      rw [Array.toList_extract, List.extract_eq_take_drop, hb, ← List.map_drop, ← List.map_take, List.drop_take]
    · rw [if_neg hyc]
      refine ih (k + 1) last acc x hb hd' (by omega) (by omega) ?_
      rw [htake, List.drop_append_of_le_length (by simp; omega)]
      simp only [List.mem_append, List.mem_singleton, not_or]
      exact ⟨hc, fun e => hyc e.symm⟩

theorem between_eq (x : List Nat) (c : Nat) : Bytes.between (x.map UInt8.ofNat).toArray 1 (posC c 0 x) = (splitC c x).map fun p => (p.map UInt8.ofNat).toArray := by
  have := between_fold c (x.map UInt8.ofNat).toArray x 0 0 #[] x (by simp) (by simp) (Nat.le_refl _) (Nat.zero_le _) (by simp)
  simp only [List.drop_zero, List.nil_append] at this
  rw [← this]
  rfl

theorem posC_nil (c : Nat) : ∀ (x : List Nat) (k : Nat), posC c k x = [] → splitC c x = [x] := by
  intro x
  induction x with
  | nil => intro k _; rfl
  | cons y x ih =>
    intro k h
    unfold posC at h
    split at h
    · cases h
    · rename_i hy
      rw [splitC, if_neg hy, ih (k + 1) h]

theorem repA_bytes {h : Heap} {X : Addr → Prop} : ∀ (tk : Nat) (ps : List (List Nat)), (∀ p ∈ ps, ∀ c ∈ p, c < 256) → RepA h X (bytesFrom tk (ps.map fun p => (p.map UInt8.ofNat).toArray)) (ps.map (D.txt true))
  | _, [], _ => .nil
  | tk, p :: ps, hp => .cons (.bytes p tk (hp p (.head _))) (repA_bytes (tk + 1) ps fun q hq => hp q (.tail _ hq))

theorem split_piece (c : Nat) (l : List Nat) : ∀ p ∈ splitC c l, p.length ≤ l.length := by
  induction l with
  | nil => simp [splitC]
  | cons y l ih =>
    unfold splitC
    split
    · intro p hp
      rcases List.mem_cons.mp hp with rfl | hp
      · simp
      · have := ih p hp; simp; omega
    · split
      · rename_i h
        exact absurd h (splitC_ne c l)
      · rename_i q qs h
        rw [h] at ih
        intro p hp
        rcases List.mem_cons.mp hp with rfl | hp
        · have := ih q (.head _); simp; omega
        · have := ih p (.tail _ hp); simp; omega

section
variable {prog : Program} {w : World} {A : Around} {s : Shared} {X : Addr → Prop} {E : Value → Shared → Prop} {k : Nat}
theorem splitB_sound {x : List Nat} {c : Nat} {t t' : Tok} (hz : x.length ≤ lim) (hx : ∀ y ∈ x, y < 256) (hc : c < 256) (hX : ∀ a, X a → ∃ o, s.heap.get? a = some o) :
    wpAny (model prog w) A (call (.builtin "bytes.split") [.bytes (x.map UInt8.ofNat).toArray t, .bytes #[UInt8.ofNat c] t']) (EvP s fun h v => Rep h X v (.lst ((splitC c x).map (.txt true)))) E s := by
  have m : Meets («bytes.split» ⟨[.bytes (x.map UInt8.ofNat).toArray t, .bytes #[UInt8.ofNat c] t'], []⟩) (fun _ R s' =>
      if (posC c 0 x).isEmpty = true then R (.ok (.ret (.ref s'.heap.objs.size))) { s' with heap := s'.heap.push (lobj [.bytes (x.map UInt8.ofNat).toArray t] 0) }
      else R (.ok (.ret (.ref s'.heap.objs.size))) { s' with heap := s'.heap.push (lobj (bytesFrom s'.toks ((splitC c x).map fun p => (p.map UInt8.ofNat).toArray)) 0), toks := s'.toks + (splitC c x).length }) := by
    refine .of_wp fun prog w A R s h => ?_
    refine bytes_split_tree _ _ _ _ rfl ?_
    rw [places_eq x c hx hc]
    by_cases hp : (posC c 0 x).isEmpty = true
    · rw [if_pos hp] at h ⊢
      exact wpAny_bind (wpAny_rule (wpAny_bind (wpAny_newObj_type (wpAny_pure ⟨_, rfl, h⟩))))
    · rw [if_neg hp] at h ⊢
      have e1 : (#[UInt8.ofNat c] : Array UInt8).size = 1 := rfl
      rw [e1, between_eq]
      have hl := split_len_le c x
      refine wpAny_bind (wpAny_mapM_mkBytes _ _ _ (fun b hb => ?_) (wpAny_bind (wpAny_newObj_type (wpAny_pure ⟨_, rfl, ?_⟩) ?_)))
      · obtain ⟨p, hp, rfl⟩ := List.mem_map.mp hb
        have := split_piece c x p hp
        simp
        exact Nat.le_trans this (lim_le hz)
      · simpa using h
      · have hbl : ∀ (tk : Nat) (bs : List (Array UInt8)), (bytesFrom tk bs).length = bs.length := by
          intro tk bs
          induction bs generalizing tk with
          | nil => rfl
          | cons b r ih => simp [bytesFrom, ih]
        show (bytesFrom _ _).toArray.size ≤ sizeLine
        simp only [List.size_toArray, hbl, List.length_map]
        rw [sizeLine_eq]; unfold lim at hz; omega
  refine call_meets slot_bytes_split (PySem.W.typeIs_bytes _ _ _) entry_bytes_split (args_bytes_split_2 _ _) m ?_
  by_cases hp : (posC c 0 x).isEmpty = true
  · rw [if_pos hp]
    have e : splitC c x = [x] := posC_nil c x 0 (by simpa using hp)
    rw [e]
    exact newL_push (tk := s.toks) hX (.cons (.bytes x t hx) .nil)
  · rw [if_neg hp]
    exact newL_push hX (repA_bytes _ _ fun p hp y hy => hx y (split_sub c x p hp y hy))

theorem split_sound {o : Bool} {x : List Nat} {c : Nat} {u v : Value} (hz : x.length ≤ lim) (hX : ∀ a, X a → ∃ o, s.heap.get? a = some o) (r : Rep s.heap X u (.txt o x)) (q : Rep s.heap X v (.txt o [c])) :
    wpAny (model prog w) A (call (.builtin (if o then "bytes.split" else "str.split")) [u, v]) (EvP s fun h v => Rep h X v (.lst ((splitC c x).map (.txt o)))) E s := by
  cases o with
  | false =>
    obtain ⟨t, rfl⟩ := txt_str r
    obtain ⟨t', rfl⟩ := txt_str q
    exact splitS_sound hz hX
  | true =>
    obtain ⟨hx, t, rfl⟩ := txt_bytes r
    obtain ⟨hy, t', rfl⟩ := txt_bytes q
    exact splitB_sound hz hx (hy c (.head _)) hX
end
end Mine
end

section
set_option Elab.async false
set_option maxRecDepth 100000
open PySem PySem.Calls PyProof.Rows PySem.SeqAt PySem.MeetsSeq PySem.Builtin
namespace Mine

theorem takeq_eq {id : String} {b : Array UInt8} {t : Tok} : Bytes.takeBufferQuiet? id (.bytes b t) 0 = pure (some (b, none)) := by
  unfold Bytes.takeBufferQuiet? Bytes.takeBuffer?
  rw [PySem.W.KBy.special_eq PySem.W.KBy.look_buffer, PySem.W.KBy.own_buffer]
  have e : Bytes.buffer? id (Value.bytes b t) (full := (0 : Int) == Bytes.fullReadOnly) = pure (some b) := by
    have : ((0 : Int) == Bytes.fullReadOnly) = false := by decide +kernel
    rw [this]
    exact PySem.W.KBy.buffer_eq
  show (Sem.attempt (do
    let r ← Bytes.buffer? id (Value.bytes b t) (full := (0 : Int) == Bytes.fullReadOnly)
    pure (r.map (·, (none : Option Value)))) >>= _) = _
  rw [e]
  rfl

theorem joinLetGo_wp {M : Model} {A : Around} {E : Value → Shared → Prop} {s : Shared} {Q : Unit → Shared → Prop} (keep : List Value) : ∀ (vs : List Value), Q () s → wpAny M A (Bytes.joinLetGo (vs.map (·, (none : Option Value))) keep) Q E s
  | [], h => wpAny_pure h
  | v :: r, h => by
    show wpAny M A (Bytes.joinLetGo ((v, none) :: r.map (·, none)) keep) Q E s
    unfold Bytes.joinLetGo
    exact wpAny_bind (wpAny_letGo (joinLetGo_wp keep r h))

theorem bjoined (sep : List UInt8) : ∀ (ps : List (List UInt8)), (Bytes.joined sep.toArray (ps.map List.toArray)).toList = (match ps with | [] => [] | p :: r => r.foldl (fun acc q => acc ++ sep ++ q) p) := by
  have key : ∀ (r : List (List UInt8)) (k : Nat) (acc : Array UInt8), ((r.map List.toArray).zipIdx (k + 1)).foldl (fun out (x : Array UInt8 × Nat) => (if x.2 > 0 then out ++ sep.toArray else out) ++ x.1) acc = (r.foldl (fun acc q => acc ++ sep ++ q) acc.toList).toArray := by
    intro r
    induction r with
    | nil => intro k acc; simp
    | cons q r ih =>
      intro k acc
      simp only [List.map_cons, List.zipIdx_cons, List.foldl_cons]
      rw [ih]
      simp
  intro ps
  cases ps with
  | nil => rfl
  | cons p r =>
    unfold Bytes.joined
    simp only [List.map_cons, List.zipIdx_cons, List.foldl_cons]
    have := key r 0 p.toArray
    simp at this ⊢
    rw [this]
theorem foldl_join (sep : List Nat) : ∀ (r : List (List Nat)) (p : List Nat), r.foldl (fun acc q => acc ++ sep ++ q) p = joinC sep (p :: r)
  | [], p => rfl
  | q :: r, p => by
    rw [List.foldl_cons, foldl_join sep r, joinC]
    cases r with
    | nil => simp [joinC]
    | cons a r => simp [joinC]
theorem foldl_u8 (sep : List Nat) : ∀ (r : List (List Nat)) (p : List Nat), (r.map (·.map UInt8.ofNat)).foldl (fun acc q => acc ++ sep.map UInt8.ofNat ++ q) (p.map UInt8.ofNat) = (r.foldl (fun acc q => acc ++ sep ++ q) p).map UInt8.ofNat
  | [], p => rfl
  | q :: r, p => by
    rw [List.map_cons, List.foldl_cons, List.foldl_cons, ← foldl_u8 sep r]
    simp

theorem joinC_len (sep : List Nat) (B : Nat) (hs : sep.length ≤ 16) : ∀ ps : List (List Nat), (∀ p ∈ ps, p.length ≤ B) → (joinC sep ps).length ≤ ps.length * (B + 16)
  | [], _ => by simp [joinC]
  | [p], h => by have := h p (.head _); simp [joinC]; omega
  | p :: q :: r, h => by
    have h1 := h p (.head _)
    have ih := joinC_len sep B hs (q :: r) fun x hx => h x (.tail _ hx)
    simp only [joinC, List.length_append, List.length_cons] at ih ⊢
    rw [Nat.add_mul]
    omega

section
variable {M : Model} {A : Around} {E : Value → Shared → Prop}
theorem wif_t {α : Type} {s : Shared} {c : Bool} {x y : Sem α} {Q : α → Shared → Prop} (hc : c = true) (h : wpAny M A x Q E s) : wpAny M A (if c = true then x else y) Q E s := by rw [if_pos hc]; exact h
theorem wif_f {α : Type} {s : Shared} {c : Bool} {x y : Sem α} {Q : α → Shared → Prop} (hc : c = false) (h : wpAny M A y Q E s) : wpAny M A (if c = true then x else y) Q E s := by rw [if_neg (by rw [hc]; exact Bool.false_ne_true)]; exact h
def bvals : List (List Nat × Tok) → List Value := fun l => l.map fun p => .bytes (p.1.map UInt8.ofNat).toArray p.2
theorem bytes_join_tree {sep : List Nat} {t : Tok} {a : Addr} {l : List (List Nat × Tok)} {s : Shared} {n : Nat} {Q : Fin → Shared → Prop} (ho : s.heap.get? a = some (lobj (bvals l) n)) (hs : sep.length ≤ 16) (hl : l.length ≤ 64) (hp : ∀ p ∈ l, p.1.length ≤ 1024)
    (h : ∀ t' k, Q (.done (.ret (.bytes ((joinC sep (l.map (·.1))).map UInt8.ofNat).toArray t'))) { s with toks := k }) :
    wpAny M A («bytes.join» ⟨[.bytes (sep.map UInt8.ofNat).toArray t, .ref a], []⟩) Q E s := by
  show wpAny M A (Bytes.joinItems (.ref a) >>= fun r => _) _ E s
  refine wpAny_bind ?_
  unfold Bytes.joinItems
  refine wpAny_bind (wpAny_typeOf (T := "list") ⟨_, ho, rfl⟩ ?_)
  show wpAny M A (if ((Value.type "list" == Value.type "list") || (Value.type "list" == Value.type "tuple")) = true then _ else _) _ E s
  refine wif_t rfl (wpAny_pure ?_)
  refine wpAny_bind (m := seqItems? (.ref a)) (wpAny_seqItems ho rfl ?_)
  rcases l with _ | ⟨p, _ | ⟨q, r⟩⟩
  case cons.nil =>
    show wpAny M A (typeOf (.bytes (p.1.map UInt8.ofNat).toArray p.2) >>= fun r => _) Q E s
    refine wpAny_bind (wpAny_typeOf (T := "bytes") rfl (wif_t rfl ?_))
    exact wpAny_bind (wpAny_rule (wpAny_pure (h p.2 s.toks)))
  case' nil => show wpAny M A (forIn [:_] (_, _) _ >>= fun r => _) Q E s
  case' cons.cons => show wpAny M A (forIn [:_] (_, _) _ >>= fun r => _) Q E s
  case' nil => generalize hL : ([] : List (List Nat × Tok)) = L at *
  case' cons.cons => generalize hL : p :: q :: r = L at *
  all_goals
    refine wpAny_bind ?_
    rw [Std.Legacy.Range.forIn_eq_forIn_range']
    refine wpAny_forIn_list _ (fun rest st s' => s' = s ∧ ∃ i, i ≤ L.length ∧ rest = List.range' i (L.length - i) ∧ st = (((L.take i).map fun p => (p.1.map UInt8.ofNat).toArray).toArray, (bvals (L.take i)).map fun v => (v, (none : Option Value))))
      _ ?turn ?fin _ _ ⟨rfl, 0, Nat.zero_le _, ?start, ?first⟩
    case start =>
      have : (bvals L).toArray.size = L.length := by simp [bvals]
      simp [Std.Legacy.Range.size, bvals]
    case first => simp [bvals]
    case turn =>
      rintro x rest st s' ⟨rfl, i, hi, hrest, rfl⟩
      have hlt : i < L.length := by
        have := congrArg List.length hrest
        simp at this; omega
      have e1 : L.length - i = (L.length - (i + 1)) + 1 := by omega
      rw [e1, List.range'_succ] at hrest
      injection hrest with hx hr
      subst hx
      obtain ⟨p, hpi⟩ : ∃ p, L[x]? = some p := ⟨L[x], by simp [hlt]⟩
      have hx : (bvals L).toArray.getD x Value.none = .bytes (p.1.map UInt8.ofNat).toArray p.2 := by
        simp [bvals, hpi]
      have htk : L.take (x + 1) = L.take x ++ [p] := by rw [List.take_add_one, hpi]; rfl
      refine wpAny_bind (m := seqItems? (.ref a)) (wpAny_seqItems ho rfl ?_)
      dsimp only
      rw [hx]
      refine wif_f ?_ ?_
      · have : ∀ l : List Value, (∀ v ∈ l, v.onHeap = false) → ((l.map fun v => (v, (none : Option Value))).any fun x => x.fst.onHeap) = false := by
          intro l hl
          simp only [List.any_map, List.any_eq_false, Function.comp]
          intro v hv
          rw [hl v hv]; exact Bool.false_ne_true
        rw [this _ (by intro v hv; simp only [bvals, List.mem_map] at hv; obtain ⟨q, _, rfl⟩ := hv; rfl)]
        rfl
      · refine wpAny_bind (wpAny_holding ?_)
        rw [takeq_eq]
        refine wpAny_pure ?_
        dsimp only
        refine wpAny_bind (m := seqItems? (.ref a)) (wpAny_seqItems ho rfl ?_)
        dsimp only
        refine wif_f (by simp) (wpAny_pure ⟨rfl, x + 1, hlt, ?_, ?_⟩)
        · exact hr
        · rw [htk]; simp [bvals]
    case fin =>
      rintro st s' ⟨rfl, i, hi, hrest, rfl⟩
      have hi2 : i = L.length := by
        have := congrArg List.length hrest
        simp at this; omega
      subst hi2
      rw [List.take_length]
      show wpAny M A (Bytes.payload (.bytes (sep.map UInt8.ofNat).toArray t) >>= fun r => _) Q E s'
      refine wpAny_bind (wpAny_of_eq (a := (sep.map UInt8.ofNat).toArray) rfl ?_)
      have hj : Bytes.joined (sep.map UInt8.ofNat).toArray (L.map fun p => (p.1.map UInt8.ofNat).toArray) = ((joinC sep (L.map (·.1))).map UInt8.ofNat).toArray := by
        apply Array.ext'
        have hmm : (L.map fun p => (p.1.map UInt8.ofNat).toArray) = ((L.map (·.1)).map (·.map UInt8.ofNat)).map List.toArray := by simp
        rw [hmm, bjoined]
        cases hq : L.map (·.1) with
        | nil => rfl
        | cons p0 r0 =>
          simp only [List.map_cons]
          rw [foldl_u8, foldl_join]
      have hlen : (joinC sep (L.map (·.1))).length ≤ 64 * 1040 := by
        have := joinC_len sep 1024 hs (L.map (·.1)) (by intro x hx; obtain ⟨p, hp', rfl⟩ := List.mem_map.mp hx; exact hp p hp')
        simp only [List.length_map] at this
        have h64 : L.length * (1024 + 16) ≤ 64 * 1040 := Nat.mul_le_mul_right _ hl
        omega
      have hsum : ∀ (l : List (List Nat × Tok)) (acc : Nat), (∀ p ∈ l, p.1.length ≤ 1024) → ((l.map fun p => (p.1.map UInt8.ofNat).toArray).foldl (fun a b => a + b.size) acc) ≤ acc + l.length * 1024 := by
        intro l
        induction l with
        | nil => intro acc _; simp
        | cons p l ih =>
          intro acc hl
          have h1 := hl p (.head _)
          have h2 := ih (acc + p.1.length) fun q hq => hl q (.tail _ hq)
          simp only [List.map_cons, List.foldl_cons, List.size_toArray, List.length_map, List.length_cons, Nat.add_mul] at h2 ⊢
          omega
      dsimp only
      refine wif_f ?_ ?_
      · refine PySem.W.KBy.tooLong_not ?_
        have h1 := hsum L (sep.length * (L.length - 1)) hp
        have h2 : sep.length * (L.length - 1) ≤ 16 * 64 := Nat.mul_le_mul hs (by omega)
        have h3 : L.length * 1024 ≤ 64 * 1024 := Nat.mul_le_mul_right _ hl
        have hA : ∀ (l : List (Array UInt8)) (acc n : Nat), n = l.length → Array.foldl (fun x1 x2 => x1 + Array.size x2) acc l.toArray 0 n = l.foldl (fun a b => a + b.size) acc := by
          intro l acc n hn; subst hn; simp
        simp only [List.size_toArray, List.length_map] at h1 ⊢
        rw [hA _ _ _ (by simp)]
        omega
      · rw [hj]
        refine wpAny_bind (wpAny_mkBytes ?_ (by simp; rw [sizeLine_eq]; omega))
        refine wpAny_bind (wpAny_holding (wpAny_point ?_))
        exact wpAny_bind (joinLetGo_wp _ _ (wpAny_pure (h _ _)))
end

theorem textsOf_rep {h : Heap} {X : Addr → Prop} {o : Bool} : ∀ {ds : List D} {xs : List (List Nat)} {vs : List Value}, textsOf o ds = some xs → RepA h X vs ds → ds = xs.map (D.txt o) ∧ (∀ x ∈ xs, o = true → ∀ c ∈ x, c < 256) ∧
    (o = false → ∃ l : List (Str × Tok), vs = strValues l ∧ l.map (·.1.cps.toList) = xs) ∧ (o = true → ∃ l : List (List Nat × Tok), vs = bvals l ∧ l.map (·.1) = xs)
  | [], xs, vs, h, r => by
    cases r
    simp [textsOf] at h; subst h
    exact ⟨rfl, by simp, fun _ => ⟨[], rfl, rfl⟩, fun _ => ⟨[], rfl, rfl⟩⟩
  | d :: ds, xs, vs, h, r => by
    cases r with
    | cons rd r =>
      cases d with
      | txt p x =>
        simp only [textsOf] at h
        split at h
        · rename_i hop
          subst hop
          obtain ⟨ys, hy, rfl⟩ := Option.map_eq_some_iff.mp h
          obtain ⟨h1, h2, h3, h4⟩ := textsOf_rep hy r
          refine ⟨by rw [h1]; simp, ?_, ?_, ?_⟩
          · intro z hz ho c hc
            rcases List.mem_cons.mp hz with rfl | hz
            · subst ho; obtain ⟨q, _⟩ := txt_bytes rd; exact q c hc
            · exact h2 z hz ho c hc
          · intro ho
            subst ho
            obtain ⟨l, rfl, hl⟩ := h3 rfl
            obtain ⟨t, rfl⟩ := txt_str rd
            exact ⟨(⟨x.toArray⟩, t) :: l, rfl, by simp [hl]⟩
          · intro ho
            subst ho
            obtain ⟨l, rfl, hl⟩ := h4 rfl
            obtain ⟨_, t, rfl⟩ := txt_bytes rd
            exact ⟨(x, t) :: l, rfl, by simp [hl]⟩
        · cases h
      | _ => simp [textsOf] at h

section
variable {prog : Program} {w : World} {A : Around} {s : Shared} {X : Addr → Prop} {E : Value → Shared → Prop} {k : Nat}
theorem joinC_mem (sep : List Nat) : ∀ (ps : List (List Nat)) (c : Nat), c ∈ joinC sep ps → c ∈ sep ∨ ∃ p ∈ ps, c ∈ p
  | [], c, h => by simp [joinC] at h
  | [p], c, h => .inr ⟨p, .head _, by simpa [joinC] using h⟩
  | p :: q :: r, c, h => by
    simp only [joinC, List.mem_append] at h
    rcases h with (h | h) | h
    · exact .inr ⟨p, .head _, h⟩
    · exact .inl h
    · rcases joinC_mem sep (q :: r) c h with h | ⟨x, hx, hc⟩
      · exact .inl h
      · exact .inr ⟨x, .tail _ hx, hc⟩
theorem join_sound {o : Bool} {sep : List Nat} {ds : List D} {xs : List (List Nat)} {u v : Value} (ht : textsOf o ds = some xs) (h1 : ds.length ≤ 64) (h2 : sep.length ≤ 16) (h3 : xs.all (·.length ≤ 1024) = true)
    (r : Rep s.heap X u (.txt o sep)) (q : RepL s.heap X v ds) :
    wpAny (model prog w) A (call (.builtin (if o then "bytes.join" else "str.join")) [u, v]) (EvP s fun h v => Rep h X v (.txt o (joinC sep xs))) E s := by
  obtain ⟨a, vs, n, rfl, ho, hr⟩ := q
  obtain ⟨e1, e2, e3, e4⟩ := textsOf_rep ht hr
  have hxl : xs.length ≤ 64 := by rw [e1] at h1; simpa using h1
  have h3' : ∀ x ∈ xs, x.length ≤ 1024 := by intro x hx; have := List.all_eq_true.mp h3 x hx; simpa using this
  cases o with
  | false =>
    obtain ⟨t, rfl⟩ := txt_str r
    obtain ⟨l, rfl, hl⟩ := e3 rfl
    have hll : l.length = xs.length := by rw [← hl]; simp
    refine SC.join (l := l) (lobj_isList ho) rfl ?_ fun t' k => ?_
    · unfold JoinOk
      rw [StrLaws.joinFits (B := 1024)]
      · rfl
      · intro y hy
        obtain ⟨p, hp, rfl⟩ := List.mem_map.mp hy
        have := h3' p.1.cps.toList (by rw [← hl]; exact List.mem_map.mpr ⟨p, hp, rfl⟩)
        simpa [Str.length] using this
      · simp only [List.length_map, hll]
        have a1 : xs.length * 1024 ≤ 64 * 1024 := Nat.mul_le_mul_right _ hxl
        have a2 : xs.length * (⟨sep.toArray⟩ : Str).length ≤ 64 * 16 := Nat.mul_le_mul hxl (by simpa [Str.length] using h2)
        omega
    · have e : (Txt.join ⟨sep.toArray⟩ (l.map (·.1))) = ⟨(joinC sep xs).toArray⟩ := by
        unfold Txt.join
        rw [StrLaws.glued_eq_join]
        apply Str.ext'
        have := strjoin_list sep (l.map (·.1))
        rw [List.map_map] at this
        rw [← hl]
        apply Array.ext'
        exact this
      rw [e]
      exact EvP.here (.str _ _)
  | true =>
    obtain ⟨hs, t, rfl⟩ := txt_bytes r
    obtain ⟨l, rfl, hl⟩ := e4 rfl
    have hll : l.length = xs.length := by rw [← hl]; simp
    have m : Meets («bytes.join» ⟨[.bytes (sep.map UInt8.ofNat).toArray t, .ref a], []⟩) (fun _ R s' => s'.heap.get? a = some (lobj (bvals l) n) ∧ ∀ t' k, R (.ok (.ret (.bytes ((joinC sep (l.map (·.1))).map UInt8.ofNat).toArray t'))) { s' with toks := k }) := by
      refine .of_wp fun prog w A R s h => ?_
      refine bytes_join_tree h.1 h2 (by omega) (fun p hp => h3' _ (by rw [← hl]; exact List.mem_map.mpr ⟨p, hp, rfl⟩)) fun t' k => ⟨_, rfl, h.2 t' k⟩
    refine call_meets slot_bytes_join (PySem.W.typeIs_bytes _ _ _) entry_bytes_join (args_bytes_join_2 _ _) m ⟨ho, fun t' k => ?_⟩
    rw [hl]
    refine EvP.here (.bytes _ _ fun c hc => ?_)
    rcases joinC_mem sep xs c hc with h | ⟨p, hp, h⟩
    · exact hs c h
    · exact e2 p hp rfl c h
end
end Mine
end

section
set_option Elab.async false
set_option maxRecDepth 100000
open PySem PySem.Calls PyProof.Rows PySem.SeqAt PySem.MeetsSeq PySem.MeetsSeq2 PySem.MeetsSeq3 PySem.Builtin
namespace Mine
theorem slot_bytes_lt : Slot "bytes" (cmpInfo .Lt).2.1 "bytes.__lt__" :=
  .of (owner := "bytes") (n := "__lt__") (by rw [typeLookup_type, builtinLookup_eq_fast]; kernel_rfl) (by decide +kernel) (by decide +kernel) (by decide +kernel)
    (by first | exact .inl (by decide +kernel) | exact .inr (by decide +kernel)) (by rw [isSubtype_type]; kernel_rfl)
theorem entry_bytes_lt : entryFor table "bytes.__lt__" = some Builtin.«bytes.__lt__» := entryFor_of_tree (by kernel_rfl)
theorem args_bytes_lt_2 (a b : Value) : argsOk "bytes.__lt__" ⟨[a, b], []⟩ := by
  unfold argsOk; rw [signature?_of (id := "bytes.__lt__") (n := ['_', '_', 't', 'l', '_', '_']) (o := ['s', 'e', 't', 'y', 'b']) (by kernel_rfl) PySem.W.FB.owner_bytes]; kernel_rfl
theorem slot_bytes_gt : Slot "bytes" (cmpInfo .Gt).2.1 "bytes.__gt__" :=
  .of (owner := "bytes") (n := "__gt__") (by rw [typeLookup_type, builtinLookup_eq_fast]; kernel_rfl) (by decide +kernel) (by decide +kernel) (by decide +kernel)
    (by first | exact .inl (by decide +kernel) | exact .inr (by decide +kernel)) (by rw [isSubtype_type]; kernel_rfl)
theorem entry_bytes_gt : entryFor table "bytes.__gt__" = some Builtin.«bytes.__gt__» := entryFor_of_tree (by kernel_rfl)
theorem args_bytes_gt_2 (a b : Value) : argsOk "bytes.__gt__" ⟨[a, b], []⟩ := by
  unfold argsOk; rw [signature?_of (id := "bytes.__gt__") (n := ['_', '_', 't', 'g', '_', '_']) (o := ['s', 'e', 't', 'y', 'b']) (by kernel_rfl) PySem.W.FB.owner_bytes]; kernel_rfl
theorem gives_bytes_lt (b c : Array UInt8) (t u : Tok) : Gives («bytes.__lt__» ⟨[.bytes b t, .bytes c u], []⟩) (.val (.bool (Bytes.order b.toList c.toList == .lt))) := by
  refine .of_wp fun M A E s Q hq => ?_
  show wpAny M A (isInstance (.bytes c u) (.type "bytes") >>= fun r => _) _ E s
  refine wpAny_bind (wpAny_isInstance (PySem.W.typeIs_bytes s c u) F.sub_bytes_bytes ?_)
  exact wpAny_pure ⟨_, rfl, hq⟩
theorem gives_bytes_gt (b c : Array UInt8) (t u : Tok) : Gives («bytes.__gt__» ⟨[.bytes b t, .bytes c u], []⟩) (.val (.bool (Bytes.order b.toList c.toList == .gt))) := by
  refine .of_wp fun M A E s Q hq => ?_
  show wpAny M A (isInstance (.bytes c u) (.type "bytes") >>= fun r => _) _ E s
  refine wpAny_bind (wpAny_isInstance (PySem.W.typeIs_bytes s c u) F.sub_bytes_bytes ?_)
  exact wpAny_pure ⟨_, rfl, hq⟩

theorem u8_lt {a b : Nat} (ha : a < 256) (hb : b < 256) : (UInt8.ofNat a < UInt8.ofNat b) ↔ a < b := by
  rw [UInt8.lt_iff_toNat_lt]
  simp [UInt8.toNat_ofNat', Nat.mod_eq_of_lt ha, Nat.mod_eq_of_lt hb]
theorem order_lt : ∀ {x y : List Nat}, (∀ c ∈ x, c < 256) → (∀ c ∈ y, c < 256) → ((Bytes.order (x.map UInt8.ofNat) (y.map UInt8.ofNat) == .lt) = decide (x < y)) ∧ ((Bytes.order (x.map UInt8.ofNat) (y.map UInt8.ofNat) == .gt) = decide (y < x))
  | [], [], _, _ => by simp [Bytes.order]
  | [], b :: y, _, _ => by simp [Bytes.order]
  | a :: x, [], _, _ => by simp [Bytes.order]
  | a :: x, b :: y, hx, hy => by
    have ha := hx a (.head _)
    have hb := hy b (.head _)
    have ih := order_lt (x := x) (y := y) (fun c h => hx c (.tail _ h)) fun c h => hy c (.tail _ h)
    simp only [List.map_cons, Bytes.order, gt_iff_lt, u8_lt ha hb, u8_lt hb ha, List.cons_lt_cons_iff]
    by_cases h1 : a < b
    · have h2 : ¬ b < a := by omega
      have h3 : b ≠ a := by omega
      simp [h1, h2, h3]
    · by_cases h2 : b < a
      · have h3 : a ≠ b := by omega
        simp [h1, h2, h3]
      · have h3 : a = b := by omega
        subst h3
        simp [ih]

section
variable {prog : Program} {w : World} {A : Around} {s : Shared} {X : Addr → Prop} {E : Value → Shared → Prop} {k : Nat}
theorem ltT_sound {o : Bool} {x y : List Nat} {u v : Value} {Q : Value → Shared → Prop} (r : Rep s.heap X u (.txt o x)) (q : Rep s.heap X v (.txt o y)) :
    (Q (.bool (decide (x < y))) s → wpAny (model prog w) A (richCompare .Lt u v) Q E s) ∧ (Q (.bool (decide (y < x))) s → wpAny (model prog w) A (richCompare .Gt u v) Q E s) := by
  cases o with
  | false =>
    obtain ⟨t, rfl⟩ := txt_str r
    obtain ⟨t', rfl⟩ := txt_str q
    exact ⟨fun h => P.lt_str h, fun h => P.gt_str h⟩
  | true =>
    obtain ⟨hx, t, rfl⟩ := txt_bytes r
    obtain ⟨hy, t', rfl⟩ := txt_bytes q
    have e := order_lt hx hy
    refine ⟨fun h => ?_, fun h => ?_⟩
    · refine compareOp_gives (op := .Lt) (PySem.W.typeIs_bytes s _ t) (PySem.W.typeIs_bytes s _ t') slot_bytes_lt entry_bytes_lt (args_bytes_lt_2 _ _) (gives_bytes_lt _ _ t t') (fun e => nomatch e) ?_
      show Q (.bool (Bytes.order (x.map UInt8.ofNat) (y.map UInt8.ofNat) == .lt)) s
      rw [e.1]; exact h
    · refine compareOp_gives (op := .Gt) (PySem.W.typeIs_bytes s _ t) (PySem.W.typeIs_bytes s _ t') slot_bytes_gt entry_bytes_gt (args_bytes_gt_2 _ _) (gives_bytes_gt _ _ t t') (fun e => nomatch e) ?_
      show Q (.bool (Bytes.order (x.map UInt8.ofNat) (y.map UInt8.ofNat) == .gt)) s
      rw [e.2]; exact h
end

/-- what ltTs says, for lists of one kind of texts -/
def ltL : List (List Nat) → List (List Nat) → Bool
  | [], [] => false
  | [], _ :: _ => true
  | _ :: _, [] => false
  | x :: xs, y :: ys => if x = y then ltL xs ys else decide (x < y)
theorem ltTs_spec {o : Bool} : ∀ {ds es : List D} {b : Bool}, ltTs o ds es = some b → ∃ xs ys, ds = xs.map (D.txt o) ∧ es = ys.map (D.txt o) ∧ ltL xs ys = b
  | [], [], b, h => by simp [ltTs] at h; exact ⟨[], [], rfl, rfl, by simp [ltL, h]⟩
  | [], .txt p y :: es, b, h => by
    simp only [ltTs] at h
    split at h
    · rename_i hp
      subst hp
      obtain ⟨c, hc, hb⟩ := Option.bind_eq_some_iff.mp h
      cases hb
      obtain ⟨xs, ys, e1, e2, _⟩ := ltTs_spec hc
      have : xs = [] := by simpa using e1.symm
      subst this
      exact ⟨[], y :: ys, rfl, by simp [e2], rfl⟩
    · cases h
  | .txt p x :: ds, [], b, h => by
    simp only [ltTs] at h
    split at h
    · rename_i hp
      subst hp
      obtain ⟨c, hc, hb⟩ := Option.bind_eq_some_iff.mp h
      cases hb
      obtain ⟨xs, ys, e1, e2, _⟩ := ltTs_spec hc
      have : ys = [] := by simpa using e2.symm
      subst this
      exact ⟨x :: xs, [], by simp [e1], rfl, rfl⟩
    · cases h
  | .txt p x :: ds, .txt q y :: es, b, h => by
    simp only [ltTs] at h
    split at h
    · rename_i hp
      obtain ⟨rfl, rfl⟩ := hp
      split at h
      · rename_i c hc
        cases h
        obtain ⟨xs, ys, e1, e2, e3⟩ := ltTs_spec hc
        exact ⟨x :: xs, y :: ys, by simp [e1], by simp [e2], by simp [ltL, e3]⟩
      · cases h
    · cases h
  | .none :: _, _, b, h => by simp [ltTs] at h
  | .bool _ :: _, _, b, h => by simp [ltTs] at h
  | .int _ :: _, _, b, h => by simp [ltTs] at h
  | .tup _ :: _, _, b, h => by simp [ltTs] at h
  | .lst _ :: _, _, b, h => by simp [ltTs] at h
  | .typ _ :: _, _, b, h => by simp [ltTs] at h
  | [], .none :: _, b, h => by simp [ltTs] at h
  | [], .bool _ :: _, b, h => by simp [ltTs] at h
  | [], .int _ :: _, b, h => by simp [ltTs] at h
  | [], .tup _ :: _, b, h => by simp [ltTs] at h
  | [], .lst _ :: _, b, h => by simp [ltTs] at h
  | [], .typ _ :: _, b, h => by simp [ltTs] at h
  | .txt _ _ :: _, .none :: _, b, h => by simp [ltTs] at h
  | .txt _ _ :: _, .bool _ :: _, b, h => by simp [ltTs] at h
  | .txt _ _ :: _, .int _ :: _, b, h => by simp [ltTs] at h
  | .txt _ _ :: _, .tup _ :: _, b, h => by simp [ltTs] at h
  | .txt _ _ :: _, .lst _ :: _, b, h => by simp [ltTs] at h
  | .txt _ _ :: _, .typ _ :: _, b, h => by simp [ltTs] at h

open AutoSeq1 (wpAny_loadPart')
set_option maxHeartbeats 4000000 in
/-- the loop of a list's comparison: less (g = false), greater (g = true) -/
theorem cmp_loop (g : Bool) (o : Bool) {X : Addr → Prop} (l b : Addr) (vs us : List Value) (n m : Nat) (xs ys : List (List Nat)) (k : Nat) : ∀ i : Nat, xs.length - i = k → i ≤ xs.length → i ≤ ys.length →
    Meets (Builtin.«list.__eq__.loop» ⟨[.ref l, .ref b, rawInt i, rawInt (if g then 4 else 0)], []⟩) (fun A R s => s.heap.get? l = some (lobj vs n) ∧ s.heap.get? b = some (lobj us m) ∧ RepA s.heap X vs (xs.map (D.txt o)) ∧ RepA s.heap X us (ys.map (D.txt o)) ∧
      R (.ok (.ret (.bool (if g then ltL (ys.drop i) (xs.drop i) else ltL (xs.drop i) (ys.drop i))))) s) := by
  induction k with
  | zero =>
    intro i hk h1 h2 prog w A R s h
    obtain ⟨hp, gg, d, tk, os⟩ := s; obtain ⟨hl, hb, hr, hq, h⟩ := h
    have e1 : vs.length = xs.length := by simpa using hr.length
    have e2 : us.length = ys.length := by simpa using hq.length
    have hi : i = xs.length := by omega
    have hx : vs.toArray[((i : Nat) : Int).toNat]? = none := by simp; omega
    have hdx : xs.drop i = [] := by simp; omega
    rw [hdx] at h
    cases g with
    | false =>
      wp_walk using wpAny_loadPart' hl, wpAny_loadPart' hb
      rw [hx]
      dsimp only
      wp_walk using wpAny_loadPart' hl, wpAny_loadPart' hb
      show R (.ok (.ret (.bool (decide (vs.toArray.size < us.toArray.size))))) _
      have : decide (vs.toArray.size < us.toArray.size) = ltL [] (ys.drop i) := by
        simp only [List.size_toArray, e1, e2]
        cases hd : ys.drop i with
        | nil => have := List.drop_eq_nil_iff.mp hd; simp [ltL]; omega
        | cons a r => have := congrArg List.length hd; simp at this; simp [ltL]; omega
      rw [this]
      simpa using h
    | true =>
      wp_walk using wpAny_loadPart' hl, wpAny_loadPart' hb
      rw [hx]
      dsimp only
      wp_walk using wpAny_loadPart' hl, wpAny_loadPart' hb
      show R (.ok (.ret (.bool (decide (vs.toArray.size > us.toArray.size))))) _
      have : decide (vs.toArray.size > us.toArray.size) = ltL (ys.drop i) [] := by
        simp only [List.size_toArray, e1, e2]
        cases hd : ys.drop i with
        | nil => have := List.drop_eq_nil_iff.mp hd; simp [ltL]; omega
        | cons a r => have := congrArg List.length hd; simp at this; simp [ltL]; omega
      rw [this]
      simpa using h
  | succ k ih =>
    intro i hk h1 h2 prog w A R s h
    obtain ⟨hp, gg, d, tk, os⟩ := s; obtain ⟨hl, hb, hr, hq, h⟩ := h
    have e1 : vs.length = xs.length := by simpa using hr.length
    have e2 : us.length = ys.length := by simpa using hq.length
    have hlt : i < xs.length := by omega
    obtain ⟨x, hxi⟩ : ∃ x, xs[i]? = some x := ⟨xs[i], by simp [hlt]⟩
    obtain ⟨vx, hvx, rx⟩ := hr.get (k := i) (d := D.txt o x) (by simp [hxi])
    have hx : vs.toArray[((i : Nat) : Int).toNat]? = some vx := by simpa using hvx
    have hdx : xs.drop i = x :: xs.drop (i + 1) := by
      rw [List.drop_eq_getElem_cons hlt]
      have : xs[i] = x := by simpa [hlt] using hxi
      rw [this]
    by_cases hy2 : i < ys.length
    · obtain ⟨y, hyi⟩ : ∃ y, ys[i]? = some y := ⟨ys[i], by simp [hy2]⟩
      obtain ⟨vy, hvy, ry⟩ := hq.get (k := i) (d := D.txt o y) (by simp [hyi])
      have hy : us.toArray[((i : Nat) : Int).toNat]? = some vy := by simpa using hvy
      have hdy : ys.drop i = y :: ys.drop (i + 1) := by
        rw [List.drop_eq_getElem_cons hy2]
        have : ys[i] = y := by simpa [hy2] using hyi
        rw [this]
      have hc : ((i : Int) + 1) = ((i + 1 : Nat) : Int) := by push_cast; rfl
      rw [hdx, hdy] at h
      have hsym : (y = x) ↔ (x = y) := ⟨Eq.symm, Eq.symm⟩
      cases g with
      | false =>
        wp_walk using wpAny_loadPart' hl, wpAny_loadPart' hb
        rw [hx, hy]
        refine wpAny_bind (eqT_at rfl rx ry prog w _ _ ?_)
        by_cases hxy : x = y
        · subst hxy
          simp only [ltL, if_true, decide_true] at h ⊢
          wp_walk
          rw [hc]
          exact ⟨plainId_quiet plain_eq_loop _, codeAny_builtin entry_eq_loop (by
            rw [Around.under_plainId plain_eq_loop _]
            exact ih (i + 1) (by omega) (by omega) (by omega) prog w A R _ ⟨hl, hb, hr, hq, h⟩)⟩
        · simp only [ltL, hxy, if_false, decide_false] at h ⊢
          wp_walk using wpAny_loadPart' hl, wpAny_loadPart' hb
          rw [hx, hy]
          refine wpAny_bind ((ltT_sound rx ry).1 (wpAny_pure ?_))
          simpa using h
      | true =>
        wp_walk using wpAny_loadPart' hl, wpAny_loadPart' hb
        rw [hx, hy]
        refine wpAny_bind (eqT_at rfl rx ry prog w _ _ ?_)
        by_cases hxy : x = y
        · subst hxy
          simp only [ltL, if_true, decide_true] at h ⊢
          wp_walk
          rw [hc]
          exact ⟨plainId_quiet plain_eq_loop _, codeAny_builtin entry_eq_loop (by
            rw [Around.under_plainId plain_eq_loop _]
            exact ih (i + 1) (by omega) (by omega) (by omega) prog w A R _ ⟨hl, hb, hr, hq, h⟩)⟩
        · simp only [ltL, hsym, hxy, if_true, if_false, decide_false] at h ⊢
          wp_walk using wpAny_loadPart' hl, wpAny_loadPart' hb
          rw [hx, hy]
          refine wpAny_bind ((ltT_sound rx ry).2 (wpAny_pure ?_))
          simpa using h
    · have hy : us.toArray[((i : Nat) : Int).toNat]? = none := by simp; omega
      have hdy : ys.drop i = [] := by simp; omega
      rw [hdx, hdy] at h
      cases g with
      | false =>
        wp_walk using wpAny_loadPart' hl, wpAny_loadPart' hb
        rw [hx, hy]
        dsimp only
        wp_walk using wpAny_loadPart' hl, wpAny_loadPart' hb
        show R (.ok (.ret (.bool (decide (vs.toArray.size < us.toArray.size))))) _
        have : decide (vs.toArray.size < us.toArray.size) = false := by simp [e1, e2]; omega
        rw [this]
        exact h
      | true =>
        wp_walk using wpAny_loadPart' hl, wpAny_loadPart' hb
        rw [hx, hy]
        dsimp only
        wp_walk using wpAny_loadPart' hl, wpAny_loadPart' hb
        show R (.ok (.ret (.bool (decide (vs.toArray.size > us.toArray.size))))) _
        have : decide (vs.toArray.size > us.toArray.size) = true := by simp [e1, e2]; omega
        rw [this]
        exact h

/-- «list.__lt__», «list.__gt__» -/
theorem lt_meets (o : Bool) {X : Addr → Prop} (l b : Addr) (vs us : List Value) (n m : Nat) (xs ys : List (List Nat)) :
    Meets (Builtin.«list.__lt__» ⟨[.ref l, .ref b], []⟩) (fun A R s => s.heap.get? l = some (lobj vs n) ∧ s.heap.get? b = some (lobj us m) ∧ RepA s.heap X vs (xs.map (D.txt o)) ∧ RepA s.heap X us (ys.map (D.txt o)) ∧
      R (.ok (.ret (.bool (ltL xs ys)))) s) := by
  intro prog w A R s h
  obtain ⟨hp, gg, d, tk, os⟩ := s; obtain ⟨hl, hb, hr, hq, h⟩ := h
  have f3 := AutoSeq1.sub_list_list
  wp_walk using wpAny_loadPart' hl, wpAny_loadPart' hb
  exact ⟨plainId_quiet plain_eq_loop _, codeAny_builtin entry_eq_loop (by
    rw [Around.under_plainId plain_eq_loop _]
    exact cmp_loop false o l b vs us n m xs ys _ 0 rfl (Nat.zero_le _) (Nat.zero_le _) prog w A R _ ⟨hl, hb, hr, hq, by simpa using h⟩)⟩
theorem gt_meets (o : Bool) {X : Addr → Prop} (l b : Addr) (vs us : List Value) (n m : Nat) (xs ys : List (List Nat)) :
    Meets (Builtin.«list.__gt__» ⟨[.ref l, .ref b], []⟩) (fun A R s => s.heap.get? l = some (lobj vs n) ∧ s.heap.get? b = some (lobj us m) ∧ RepA s.heap X vs (xs.map (D.txt o)) ∧ RepA s.heap X us (ys.map (D.txt o)) ∧
      R (.ok (.ret (.bool (ltL ys xs)))) s) := by
  intro prog w A R s h
  obtain ⟨hp, gg, d, tk, os⟩ := s; obtain ⟨hl, hb, hr, hq, h⟩ := h
  have f3 := AutoSeq1.sub_list_list
  wp_walk using wpAny_loadPart' hl, wpAny_loadPart' hb
  exact ⟨plainId_quiet plain_eq_loop _, codeAny_builtin entry_eq_loop (by
    rw [Around.under_plainId plain_eq_loop _]
    exact cmp_loop true o l b vs us n m xs ys _ 0 rfl (Nat.zero_le _) (Nat.zero_le _) prog w A R _ ⟨hl, hb, hr, hq, by simpa using h⟩)⟩

section
variable {prog : Program} {w : World} {A : Around} {s : Shared} {X : Addr → Prop} {E : Value → Shared → Prop} {k : Nat}
theorem ltL_sound {o : Bool} {xs ys : List (List Nat)} {u v : Value} {Q : Value → Shared → Prop} (r : RepL s.heap X u (xs.map (D.txt o))) (q : RepL s.heap X v (ys.map (D.txt o))) (hu : A.units < cLine) :
    (Q (.bool (ltL xs ys)) s → wpAny (model prog w) A (richCompare .Lt u v) Q E s) ∧ (Q (.bool (ltL ys xs)) s → wpAny (model prog w) A (richCompare .Gt u v) Q E s) := by
  obtain ⟨l, vs, n, rfl, ho, hr⟩ := r
  obtain ⟨b, us, m, rfl, ho', hr'⟩ := q
  refine ⟨fun h => ?_, fun h => ?_⟩
  · exact richCompare_meets_room (op := .Lt) ⟨_, ho, rfl⟩ ⟨_, ho', rfl⟩ F.slot_list_lt F.entry_list_lt (F.args_list_lt_2 _ _) (lt_meets o l b vs us n m xs ys)
      ⟨ho, ho', hr, hr', show Value.bool (ltL xs ys) ≠ Value.notImplemented ∧ Q (.bool (ltL xs ys)) s from ⟨(fun x => nomatch x), h⟩⟩ hu
  · exact richCompare_meets_room (op := .Gt) ⟨_, ho, rfl⟩ ⟨_, ho', rfl⟩ F.slot_list_gt F.entry_list_gt (F.args_list_gt_2 _ _) (gt_meets o l b vs us n m xs ys)
      ⟨ho, ho', hr, hr', show Value.bool (ltL ys xs) ≠ Value.notImplemented ∧ Q (.bool (ltL ys xs)) s from ⟨(fun x => nomatch x), h⟩⟩ hu
end
end Mine
end

section
set_option Elab.async false
set_option maxRecDepth 100000
open PySem PySem.Calls PyProof.Rows
namespace Mine
section
variable {prog : Program} {w : World} {A : Around} {s : Shared} {X : Addr → Prop} {E : Value → Shared → Prop}

theorem fresh_ext {h h' : Heap} (e : ∀ b o, b ∉ [h.objs.size] → (h.push x).get? b = some o → h'.get? b = some o) : Ext h h' := fun b o ho =>
  e b o (by simp; exact Nat.ne_of_lt (Heap.lt_size ho)) (Heap.get?_push_of_some _ ho)

theorem len_sound {ds : List D} {v : Value} (hz : ds.length ≤ lim) (r : RepL s.heap X v ds) :
    wpAny (model prog w) A (call (.builtin "len") [v]) (EvP s fun h v => Rep h X v (.int ds.length)) E s := by
  obtain ⟨a, vs, n, rfl, ho, hr⟩ := r
  have e : vs.length = ds.length := hr.length
  refine call_len_list (items := vs.toArray) ⟨_, ho, rfl, _, rfl⟩ (by rw [List.size_toArray, e]; exact lim_int hz) ?_
  refine EvP.here ?_
  rw [List.size_toArray, e]
  exact .int _ _

theorem intsOf_at : ∀ {ds : List D} {l : List Int}, intsOf ds = some l → ds = l.map D.int
  | [], l, h => by simp [intsOf] at h; subst h; rfl
  | .int i :: r, l, h => by
    simp only [intsOf, Option.map_eq_some_iff] at h
    obtain ⟨l', h1, rfl⟩ := h
    rw [intsOf_at h1]; rfl
  | .none :: r, l, h => by simp [intsOf] at h
  | .bool _ :: r, l, h => by simp [intsOf] at h
  | .txt _ _ :: r, l, h => by simp [intsOf] at h
  | .tup _ :: r, l, h => by simp [intsOf] at h
  | .lst _ :: r, l, h => by simp [intsOf] at h
  | .typ _ :: r, l, h => by simp [intsOf] at h

theorem presum_take (l : List Int) : ∀ n, n ≤ l.length → preSum (fun i => l.getD i 0) n = (l.take n).sum := by
  intro n
  induction n with
  | zero => intro _; rfl
  | succ n ih =>
    intro h
    have h1 : n < l.length := by omega
    rw [show preSum (fun i => l.getD i 0) (n+1) = preSum (fun i => l.getD i 0) n + l.getD n 0 from rfl, ih (by omega), List.take_add_one, List.sum_append]
    simp [h1]

theorem rep_int {h : Heap} {v : Value} {i : Int} (r : Rep h X v (.int i)) : ∃ t, v = .int i t := by cases r; exact ⟨_, rfl⟩

theorem sum_sound {ds : List D} {l : List Int} {v : Value} (hh : A.handled = none) (hi : intsOf ds = some l) (r : RepL s.heap X v ds) :
    wpAny (model prog w) A (call (.builtin "sum") [v]) (EvP s fun h v => Rep h X v (.int l.sum)) E s := by
  obtain ⟨a, vs, n, rfl, ho, hr⟩ := r
  have e : vs.length = ds.length := hr.length
  have hds := intsOf_at hi
  have e2 : ds.length = l.length := by rw [hds, List.length_map]
  have hl : s.heap.IsList a vs.toArray := ⟨_, ho, rfl, _, rfl⟩
  refine call_sum_walkG (wpAny_pyIter_list hl ?_)
  have hne : a ≠ s.heap.objs.size := Nat.ne_of_lt (Heap.lt_size ho)
  refine ⟨s.heap.objs.size, _, _, _, _, _, fun i => l.getD i 0, rfl, Walks.list (A := A.in1) hh s.heap.objs.size a hne vs.toArray, ⟨⟨_, Heap.get?_push_size _ rfl, rfl, rfl⟩, hl.push _⟩, ?_, ?_, ?_⟩
  · intro b hb
    simp at hb
    show b < (s.heap.push _).objs.size
    have h1 := Heap.lt_size ho
    have h2 : (s.heap.push { cls := Value.type "list_iterator", data := Data.fields #[Value.ref a, Value.int 0 0] }).objs.size = s.heap.objs.size + 1 := Array.size_push ..
    rcases hb with rfl | rfl
    · exact h2 ▸ Nat.lt_succ_self _
    · exact h2 ▸ Nat.lt_succ_of_lt h1
  · intro i v hv
    have hv' : vs[i]? = some v := by simpa using hv
    obtain ⟨d, h1, h2⟩ := hr.get' hv'
    rw [hds] at h1
    simp at h1
    obtain ⟨j, hj, rfl⟩ := h1
    obtain ⟨t, rfl⟩ := rep_int h2
    exact ⟨t, by simp [hj]⟩
  · intro h' tk t' hk
    refine ⟨h', tk, rfl, fresh_ext hk, ?_⟩
    rw [presum_take _ _ (by simp [e, e2]), List.take_of_length_le (by simp [e, e2])]
    exact .int _ _

theorem type_sound {o : Bool} {cs : List Nat} {v : Value} (r : Rep s.heap X v (.txt o cs)) :
    wpAny (model prog w) A (call (.type "type") [v]) (EvP s fun h v => Rep h X v (.typ (if o then "bytes" else "str"))) E s := by
  cases o with
  | false =>
    obtain ⟨t, rfl⟩ := txt_str r
    exact call_type_of (Tx := "str") rfl (by decide +kernel) ⟨s.heap, s.toks, rfl, Ext.rfl, .typ _⟩
  | true =>
    obtain ⟨hx, t, rfl⟩ := txt_bytes r
    exact call_type_of (Tx := "bytes") rfl (by decide +kernel) ⟨s.heap, s.toks, rfl, Ext.rfl, .typ _⟩

theorem list_sound {ds : List D} {v : Value} (hz : ds.length ≤ lim) (hX : ∀ a, X a → ∃ o, s.heap.get? a = some o) (r : RepL s.heap X v ds) :
    wpAny (model prog w) A (call (.type "list") [v]) (EvP s fun h v => Rep h X v (.lst ds)) E s := by
  obtain ⟨a, vs, n, rfl, ho, hr⟩ := r
  have e : vs.length = ds.length := hr.length
  refine call_list_seq a (.inl rfl) ho rfl rfl (fun h' c' hk hn => ?_) (by rw [List.size_toArray, e]; exact lim_le hz)
  refine ⟨h', s.toks, rfl, hk, .lst (fun hx => ?_) hn (hr.ext hk)⟩
  obtain ⟨o, he⟩ := hX _ hx
  exact Nat.lt_irrefl _ (Heap.lt_size he)

theorem argBest_max (l : List Int) (a : Int) : ∀ n, n ≤ l.length → (a :: l).getD (argBest (fun i j => decide ((a :: l).getD i 0 > (a :: l).getD j 0)) n) 0 = (l.take n).foldl max a := by
  intro n
  induction n with
  | zero => intro _; rfl
  | succ n ih =>
    intro h
    have h1 : n < l.length := by omega
    have ih := ih (by omega)
    rw [List.take_add_one, List.foldl_append]
    have : l[n]?.toList = [l[n]] := by simp [h1]
    rw [this]
    simp only [List.foldl_cons, List.foldl_nil, argBest]
    have e1 : (a :: l).getD (n + 1) 0 = l[n] := by simp [h1]
    by_cases hb : (a :: l).getD (n + 1) 0 > (a :: l).getD (argBest (fun i j => decide ((a :: l).getD i 0 > (a :: l).getD j 0)) n) 0
    · rw [if_pos (by simpa using hb), e1]
      rw [e1, ih] at hb
      omega
    · rw [if_neg (by simpa using hb), ih]
      rw [e1, ih] at hb
      omega

theorem maxI_sound {ds : List D} {l : List Int} {m : Int} {v : Value} (hh : A.handled = none) (hi : intsOf ds = some l) (hm : maxOf l = some m) (r : RepL s.heap X v ds) :
    wpAny (model prog w) A (call (.builtin "max") [v]) (EvP s fun h v => Rep h X v (D.int m)) E s := by
  obtain ⟨a, vs, n, rfl, ho, hr⟩ := r
  have e : vs.length = ds.length := hr.length
  have hds := intsOf_at hi
  have e2 : ds.length = l.length := by rw [hds, List.length_map]
  obtain ⟨i, r, rfl⟩ : ∃ i r, l = i :: r := by
    cases l with
    | nil => simp [maxOf] at hm
    | cons i r => exact ⟨i, r, rfl⟩
  have hl : s.heap.IsList a vs.toArray := ⟨_, ho, rfl, _, rfl⟩
  refine call_max_walk (wpAny_pyIter_list hl ?_)
  have hne : a ≠ s.heap.objs.size := Nat.ne_of_lt (Heap.lt_size ho)
  have hat : ∀ j v, vs.toArray[j]? = some v → ∃ t, v = Value.int ((i :: r).getD j 0) t := by
    intro j v hv
    have hv' : vs[j]? = some v := by simpa using hv
    obtain ⟨d, h1, h2⟩ := hr.get' hv'
    rw [hds, List.getElem?_map] at h1
    obtain ⟨k, hk, rfl⟩ := Option.map_eq_some_iff.mp h1
    obtain ⟨t, rfl⟩ := rep_int h2
    exact ⟨t, by rw [List.getD_eq_getElem?_getD, hk]; rfl⟩
  refine ⟨s.heap.objs.size, _, _, _, _, _, fun j k => decide ((i :: r).getD j 0 > (i :: r).getD k 0), rfl, Walks.list (A := A.in1) hh s.heap.objs.size a hne vs.toArray, ⟨⟨_, Heap.get?_push_size _ rfl, rfl, rfl⟩, hl.push _⟩, ?_, ?_, ?_, ?_⟩
  · intro b hb
    simp at hb
    show b < (s.heap.push _).objs.size
    have h1 := Heap.lt_size ho
    have h2 : (s.heap.push { cls := Value.type "list_iterator", data := Data.fields #[Value.ref a, Value.int 0 0] }).objs.size = s.heap.objs.size + 1 := Array.size_push ..
    rcases hb with rfl | rfl
    · exact h2 ▸ Nat.lt_succ_self _
    · exact h2 ▸ Nat.lt_succ_of_lt h1
  · simp [e, e2]
  · intro j k vj vk s' Q E' hj hk hQ
    obtain ⟨t, rfl⟩ := hat j _ hj
    obtain ⟨t', rfl⟩ := hat k _ hk
    exact P.gt_int hQ
  · intro v h' tk hv hk
    obtain ⟨t, rfl⟩ := hat _ _ hv
    refine ⟨h', tk, rfl, fresh_ext hk, ?_⟩
    have hn : vs.toArray.size - 1 = r.length := by rw [List.size_toArray, e, e2]; simp
    rw [hn, argBest_max r i r.length (Nat.le_refl _), List.take_length]
    simp [maxOf] at hm
    subst hm
    exact Rep.int _ _
end
end Mine
end

section
set_option Elab.async false
set_option maxRecDepth 100000
open PySem PySem.Calls PyProof.Rows
namespace Mine

theorem max_two {prog : Program} {w : World} {A : Around} {s : Shared} {E : Value → Shared → Prop} {Q : Value → Shared → Prop} (hh : A.handled = none) {a : Addr} {u v : Value} {n : Nat} {b : Bool} (ho : s.heap.get? a = some (lobj [u, v] n))
    (hcmp : ∀ (s' : Shared) Q E, Ext s.heap s'.heap → Q (.bool b) s' → wpAny (model prog w) A.in1 (richCompare .Gt v u) Q E s')
    (hQ : ∀ h' tk, Ext s.heap h' → Q (if b then v else u) { s with heap := h', toks := tk }) :
    wpAny (model prog w) A (call (.builtin "max") [.ref a]) Q E s := by
  have hl : s.heap.IsList a [u, v].toArray := ⟨_, ho, rfl, _, rfl⟩
  have hname : (toString "max" ++ toString ".loop" : String) = "max.loop" := by decide
  have hne : a ≠ s.heap.objs.size := Nat.ne_of_lt (Heap.lt_size ho)
  have W := Walks.list (prog := prog) (w := w) (A := A.in1) hh s.heap.objs.size a hne [u, v].toArray
  refine call_function_tree F.kind_max F.plain_max F.entry_max (F.args_max1 _) ?_
  show wpAny _ A.in1 (Builtin.Builtins.bindParams "max" ["key", "default"] 0 ⟨[], []⟩ >>= _) _ _ s
  refine wpAny_bind (wpAny_of_eq (show Builtin.Builtins.bindParams "max" ["key", "default"] 0 ⟨[], []⟩ = pure [none, none] from rfl) ?_)
  refine wpAny_bind (wpAny_pure ?_)
  refine wpAny_bind (wpAny_pyIter_list hl ?_)
  refine wpAny_bind (wpAny_newObj_type ?_)
  rw [hname]
  have st0 : (s.heap.push { cls := .type "list_iterator", data := .fields #[.ref a, .int 0 0] }).IsListIter s.heap.objs.size a 0 ∧ (s.heap.push { cls := .type "list_iterator", data := .fields #[.ref a, .int 0 0] }).IsList a [u, v].toArray :=
    ⟨⟨_, Heap.get?_push_size _ rfl, rfl, rfl⟩, hl.push _⟩
  generalize hH : s.heap.push { cls := .type "list_iterator", data := .fields #[.ref a, .int 0 0] } = H at st0 ⊢
  have hHs : H.objs.size = s.heap.objs.size + 1 := by rw [← hH]; exact Array.size_push ..
  have hx : Ext s.heap H := by rw [← hH]; exact Ext.push Ext.rfl _
  generalize hS0 : H.objs.size = S at *
  have hSI : S ≠ s.heap.objs.size := by omega
  have hlt : s.heap.objs.size < S := hHs ▸ Nat.lt_succ_self _
  have hSf : S ∉ [s.heap.objs.size, a] := by
    have h1 := Heap.lt_size ho
    rw [List.mem_cons, List.mem_singleton, not_or]
    exact ⟨hSI, Nat.ne_of_gt (Nat.lt_trans h1 hlt)⟩
  have hSw : S ∉ [s.heap.objs.size] := by simp [hSI]
  have off : ∀ c o, s.heap.get? c = some o → c ∉ [s.heap.objs.size] ∧ c ≠ S := fun c o hc => by
    have h1 := Heap.lt_size hc
    rw [List.mem_singleton]
    exact ⟨Nat.ne_of_lt h1, Nat.ne_of_lt (Nat.lt_trans h1 hlt)⟩
  refine wpAny_pure ⟨plainId_quiet F.plain_max_loop _, ?_⟩
  -- the first turn
  refine codeAny_builtin F.entry_max_loop ?_
  rw [Around.under_plainId F.plain_max_loop _]
  have hS : (H.push { cls := .type "list", data := .seq #[] }).get? S = some { cls := .type "list", data := .seq #[] } := by rw [← hS0]; exact Heap.get?_push_size _ rfl
  show wpAny _ A.in1 (seqItems? (.ref S) >>= _) _ _ _
  refine wpAny_bind (wpAny_seqItems hS rfl ?_)
  show wpAny _ A.in1 (tryCatch (pyNext (.ref s.heap.objs.size)) _ >>= _) _ _ _
  refine wpAny_bind (wpAny_tryCatch (W.item 0 _ _ _ (by simp) (W.frame _ _ _ st0 fun b _ o e => Heap.get?_push_of_some _ e) fun x h1 tk1 hP hst1 hk1 => ?_))
  have : u = x := by simpa using hP
  subst this
  have hS1 := hk1 S _ hSw hS
  have x1 : Ext s.heap h1 := fun c o e => hk1 c o (off c o e).1 (Heap.get?_push_of_some _ (hx c o e))
  show wpAny _ A.in1 (updateSeq S (fun _ => #[u, u]) >>= _) _ _ _
  refine wpAny_bind ?_
  refine wpAny_updateSeq hS1 rfl ?_
  rw [hname]
  refine wpAny_pure ⟨plainId_quiet F.plain_max_loop _, ?_⟩
  have hst1' := W.frame _ _ (h1.update S (Obj.mapSeq fun _ => #[u, u])) hst1 fun b hbf o e => (Heap.get?_update_other _ _ (fun h : S = b => hSf (by rw [h]; exact hbf))).trans e
  have hS2 := Heap.get?_update_self (Obj.mapSeq fun _ => #[u, u]) hS1 rfl
  have x2 : Ext s.heap (h1.update S (Obj.mapSeq fun _ => #[u, u])) := fun c o e => (Heap.get?_update_other _ _ (Ne.symm (off c o e).2)).trans (x1 c o e)
  -- the second turn
  refine codeAny_builtin F.entry_max_loop ?_
  rw [Around.under_plainId F.plain_max_loop _]
  show wpAny _ A.in1 (seqItems? (.ref S) >>= _) _ _ _
  refine wpAny_bind (wpAny_seqItems hS2 rfl ?_)
  show wpAny _ A.in1 (tryCatch (pyNext (.ref s.heap.objs.size)) _ >>= _) _ _ _
  refine wpAny_bind (wpAny_tryCatch (W.item 1 _ _ _ (by simp) hst1' fun x h2 tk2 hP hst2 hk2 => ?_))
  have : v = x := by simpa using hP
  subst this
  have hS3 := hk2 S _ hSw hS2
  have x3 : Ext s.heap h2 := fun c o e => hk2 c o (off c o e).1 (x2 c o e)
  show wpAny _ A.in1 (tryCatch (holding [v, v] (richCompare .Gt v u >>= _)) _ >>= _) _ _ _
  refine wpAny_bind (wpAny_tryCatch (wpAny_holding (wpAny_bind (hcmp _ _ _ x3 ?_))))
  refine wpAny_bind (wpAny_holding (wpAny_truthy_bool ?_))
  refine wpAny_bind (wpAny_letGo (wpAny_pure ?_))
  -- the third
  cases b with
  | true =>
    simp only [if_true]
    refine wpAny_bind ?_
    refine wpAny_updateSeq hS3 rfl (wpAny_bind (wpAny_letGo ?_))
    rw [hname]
    refine wpAny_pure ⟨plainId_quiet F.plain_max_loop _, ?_⟩
    have hst3 := W.frame _ _ (h2.update S (Obj.mapSeq fun _ => #[v, v])) hst2 fun b hbf o e => (Heap.get?_update_other _ _ (fun h : S = b => hSf (by rw [h]; exact hbf))).trans e
    have hS4 := Heap.get?_update_self (Obj.mapSeq fun _ => #[v, v]) hS3 rfl
    have x4 : Ext s.heap (h2.update S (Obj.mapSeq fun _ => #[v, v])) := fun c o e => (Heap.get?_update_other _ _ (Ne.symm (off c o e).2)).trans (x3 c o e)
    refine codeAny_builtin F.entry_max_loop ?_
    rw [Around.under_plainId F.plain_max_loop _]
    show wpAny _ A.in1 (seqItems? (.ref S) >>= _) _ _ _
    refine wpAny_bind (wpAny_seqItems hS4 rfl ?_)
    show wpAny _ A.in1 (tryCatch (pyNext (.ref s.heap.objs.size)) _ >>= _) _ _ _
    refine wpAny_bind (wpAny_tryCatch (W.done _ _ _ hst3 fun h5 tk5 hk5 => ?_))
    have hS5 := hk5 S _ hSw hS4
    show wpAny _ A.in1 (updateSeq S (fun _ => #[]) >>= _) _ _ _
    refine wpAny_bind ?_
    refine wpAny_updateSeq hS5 rfl (wpAny_bind (wpAny_letGo (wpAny_pure ?_)))
    exact hQ _ tk5 fun c o e => (Heap.get?_update_other _ _ (Ne.symm (off c o e).2)).trans (hk5 c o (off c o e).1 (x4 c o e))
  | false =>
    simp only [Bool.false_eq_true, if_false]
    refine wpAny_bind (wpAny_letGo ?_)
    rw [hname]
    refine wpAny_pure ⟨plainId_quiet F.plain_max_loop _, ?_⟩
    refine codeAny_builtin F.entry_max_loop ?_
    rw [Around.under_plainId F.plain_max_loop _]
    show wpAny _ A.in1 (seqItems? (.ref S) >>= _) _ _ _
    refine wpAny_bind (wpAny_seqItems hS3 rfl ?_)
    show wpAny _ A.in1 (tryCatch (pyNext (.ref s.heap.objs.size)) _ >>= _) _ _ _
    refine wpAny_bind (wpAny_tryCatch (W.done _ _ _ hst2 fun h5 tk5 hk5 => ?_))
    have hS5 := hk5 S _ hSw hS3
    show wpAny _ A.in1 (updateSeq S (fun _ => #[]) >>= _) _ _ _
    refine wpAny_bind ?_
    refine wpAny_updateSeq hS5 rfl (wpAny_bind (wpAny_letGo (wpAny_pure ?_)))
    exact hQ _ tk5 fun c o e => (Heap.get?_update_other _ _ (Ne.symm (off c o e).2)).trans (hk5 c o (off c o e).1 (x3 c o e))

theorem min_two {prog : Program} {w : World} {A : Around} {s : Shared} {E : Value → Shared → Prop} {Q : Value → Shared → Prop} (hh : A.handled = none) {a : Addr} {u v : Value} {n : Nat} {b : Bool} (ho : s.heap.get? a = some (lobj [u, v] n))
    (hcmp : ∀ (s' : Shared) Q E, Ext s.heap s'.heap → Q (.bool b) s' → wpAny (model prog w) A.in1 (richCompare .Lt v u) Q E s')
    (hQ : ∀ h' tk, Ext s.heap h' → Q (if b then v else u) { s with heap := h', toks := tk }) :
    wpAny (model prog w) A (call (.builtin "min") [.ref a]) Q E s := by
  have hl : s.heap.IsList a [u, v].toArray := ⟨_, ho, rfl, _, rfl⟩
  have hname : (toString "min" ++ toString ".loop" : String) = "min.loop" := by decide
  have hne : a ≠ s.heap.objs.size := Nat.ne_of_lt (Heap.lt_size ho)
  have W := Walks.list (prog := prog) (w := w) (A := A.in1) hh s.heap.objs.size a hne [u, v].toArray
  refine call_function_tree F.kind_min F.plain_min F.entry_min (F.args_min1 _) ?_
  show wpAny _ A.in1 (Builtin.Builtins.bindParams "min" ["key", "default"] 0 ⟨[], []⟩ >>= _) _ _ s
  refine wpAny_bind (wpAny_of_eq (show Builtin.Builtins.bindParams "min" ["key", "default"] 0 ⟨[], []⟩ = pure [none, none] from rfl) ?_)
  refine wpAny_bind (wpAny_pure ?_)
  refine wpAny_bind (wpAny_pyIter_list hl ?_)
  refine wpAny_bind (wpAny_newObj_type ?_)
  rw [hname]
  have st0 : (s.heap.push { cls := .type "list_iterator", data := .fields #[.ref a, .int 0 0] }).IsListIter s.heap.objs.size a 0 ∧ (s.heap.push { cls := .type "list_iterator", data := .fields #[.ref a, .int 0 0] }).IsList a [u, v].toArray :=
    ⟨⟨_, Heap.get?_push_size _ rfl, rfl, rfl⟩, hl.push _⟩
  generalize hH : s.heap.push { cls := .type "list_iterator", data := .fields #[.ref a, .int 0 0] } = H at st0 ⊢
  have hHs : H.objs.size = s.heap.objs.size + 1 := by rw [← hH]; exact Array.size_push ..
  have hx : Ext s.heap H := by rw [← hH]; exact Ext.push Ext.rfl _
  generalize hS0 : H.objs.size = S at *
  have hSI : S ≠ s.heap.objs.size := by omega
  have hlt : s.heap.objs.size < S := hHs ▸ Nat.lt_succ_self _
  have hSf : S ∉ [s.heap.objs.size, a] := by
    have h1 := Heap.lt_size ho
    rw [List.mem_cons, List.mem_singleton, not_or]
    exact ⟨hSI, Nat.ne_of_gt (Nat.lt_trans h1 hlt)⟩
  have hSw : S ∉ [s.heap.objs.size] := by simp [hSI]
  have off : ∀ c o, s.heap.get? c = some o → c ∉ [s.heap.objs.size] ∧ c ≠ S := fun c o hc => by
    have h1 := Heap.lt_size hc
    rw [List.mem_singleton]
    exact ⟨Nat.ne_of_lt h1, Nat.ne_of_lt (Nat.lt_trans h1 hlt)⟩
  refine wpAny_pure ⟨plainId_quiet F.plain_min_loop _, ?_⟩
  -- the first turn
  refine codeAny_builtin F.entry_min_loop ?_
  rw [Around.under_plainId F.plain_min_loop _]
  have hS : (H.push { cls := .type "list", data := .seq #[] }).get? S = some { cls := .type "list", data := .seq #[] } := by rw [← hS0]; exact Heap.get?_push_size _ rfl
  show wpAny _ A.in1 (seqItems? (.ref S) >>= _) _ _ _
  refine wpAny_bind (wpAny_seqItems hS rfl ?_)
  show wpAny _ A.in1 (tryCatch (pyNext (.ref s.heap.objs.size)) _ >>= _) _ _ _
  refine wpAny_bind (wpAny_tryCatch (W.item 0 _ _ _ (by simp) (W.frame _ _ _ st0 fun b _ o e => Heap.get?_push_of_some _ e) fun x h1 tk1 hP hst1 hk1 => ?_))
  have : u = x := by simpa using hP
  subst this
  have hS1 := hk1 S _ hSw hS
  have x1 : Ext s.heap h1 := fun c o e => hk1 c o (off c o e).1 (Heap.get?_push_of_some _ (hx c o e))
  show wpAny _ A.in1 (updateSeq S (fun _ => #[u, u]) >>= _) _ _ _
  refine wpAny_bind ?_
  refine wpAny_updateSeq hS1 rfl ?_
  rw [hname]
  refine wpAny_pure ⟨plainId_quiet F.plain_min_loop _, ?_⟩
  have hst1' := W.frame _ _ (h1.update S (Obj.mapSeq fun _ => #[u, u])) hst1 fun b hbf o e => (Heap.get?_update_other _ _ (fun h : S = b => hSf (by rw [h]; exact hbf))).trans e
  have hS2 := Heap.get?_update_self (Obj.mapSeq fun _ => #[u, u]) hS1 rfl
  have x2 : Ext s.heap (h1.update S (Obj.mapSeq fun _ => #[u, u])) := fun c o e => (Heap.get?_update_other _ _ (Ne.symm (off c o e).2)).trans (x1 c o e)
  -- the second turn
  refine codeAny_builtin F.entry_min_loop ?_
  rw [Around.under_plainId F.plain_min_loop _]
  show wpAny _ A.in1 (seqItems? (.ref S) >>= _) _ _ _
  refine wpAny_bind (wpAny_seqItems hS2 rfl ?_)
  show wpAny _ A.in1 (tryCatch (pyNext (.ref s.heap.objs.size)) _ >>= _) _ _ _
  refine wpAny_bind (wpAny_tryCatch (W.item 1 _ _ _ (by simp) hst1' fun x h2 tk2 hP hst2 hk2 => ?_))
  have : v = x := by simpa using hP
  subst this
  have hS3 := hk2 S _ hSw hS2
  have x3 : Ext s.heap h2 := fun c o e => hk2 c o (off c o e).1 (x2 c o e)
  show wpAny _ A.in1 (tryCatch (holding [v, v] (richCompare .Lt v u >>= _)) _ >>= _) _ _ _
  refine wpAny_bind (wpAny_tryCatch (wpAny_holding (wpAny_bind (hcmp _ _ _ x3 ?_))))
  refine wpAny_bind (wpAny_holding (wpAny_truthy_bool ?_))
  refine wpAny_bind (wpAny_letGo (wpAny_pure ?_))
  -- the third
  cases b with
  | true =>
    simp only [if_true]
    refine wpAny_bind ?_
    refine wpAny_updateSeq hS3 rfl (wpAny_bind (wpAny_letGo ?_))
    rw [hname]
    refine wpAny_pure ⟨plainId_quiet F.plain_min_loop _, ?_⟩
    have hst3 := W.frame _ _ (h2.update S (Obj.mapSeq fun _ => #[v, v])) hst2 fun b hbf o e => (Heap.get?_update_other _ _ (fun h : S = b => hSf (by rw [h]; exact hbf))).trans e
    have hS4 := Heap.get?_update_self (Obj.mapSeq fun _ => #[v, v]) hS3 rfl
    have x4 : Ext s.heap (h2.update S (Obj.mapSeq fun _ => #[v, v])) := fun c o e => (Heap.get?_update_other _ _ (Ne.symm (off c o e).2)).trans (x3 c o e)
    refine codeAny_builtin F.entry_min_loop ?_
    rw [Around.under_plainId F.plain_min_loop _]
    show wpAny _ A.in1 (seqItems? (.ref S) >>= _) _ _ _
    refine wpAny_bind (wpAny_seqItems hS4 rfl ?_)
    show wpAny _ A.in1 (tryCatch (pyNext (.ref s.heap.objs.size)) _ >>= _) _ _ _
    refine wpAny_bind (wpAny_tryCatch (W.done _ _ _ hst3 fun h5 tk5 hk5 => ?_))
    have hS5 := hk5 S _ hSw hS4
    show wpAny _ A.in1 (updateSeq S (fun _ => #[]) >>= _) _ _ _
    refine wpAny_bind ?_
    refine wpAny_updateSeq hS5 rfl (wpAny_bind (wpAny_letGo (wpAny_pure ?_)))
    exact hQ _ tk5 fun c o e => (Heap.get?_update_other _ _ (Ne.symm (off c o e).2)).trans (hk5 c o (off c o e).1 (x4 c o e))
  | false =>
    simp only [Bool.false_eq_true, if_false]
    refine wpAny_bind (wpAny_letGo ?_)
    rw [hname]
    refine wpAny_pure ⟨plainId_quiet F.plain_min_loop _, ?_⟩
    refine codeAny_builtin F.entry_min_loop ?_
    rw [Around.under_plainId F.plain_min_loop _]
    show wpAny _ A.in1 (seqItems? (.ref S) >>= _) _ _ _
    refine wpAny_bind (wpAny_seqItems hS3 rfl ?_)
    show wpAny _ A.in1 (tryCatch (pyNext (.ref s.heap.objs.size)) _ >>= _) _ _ _
    refine wpAny_bind (wpAny_tryCatch (W.done _ _ _ hst2 fun h5 tk5 hk5 => ?_))
    have hS5 := hk5 S _ hSw hS3
    show wpAny _ A.in1 (updateSeq S (fun _ => #[]) >>= _) _ _ _
    refine wpAny_bind ?_
    refine wpAny_updateSeq hS5 rfl (wpAny_bind (wpAny_letGo (wpAny_pure ?_)))
    exact hQ _ tk5 fun c o e => (Heap.get?_update_other _ _ (Ne.symm (off c o e).2)).trans (hk5 c o (off c o e).1 (x3 c o e))

theorem RepL.ext {h h' : Heap} {X : Addr → Prop} {v : Value} {ds : List D} (r : RepL h X v ds) (e : Ext h h') : RepL h' X v ds := by
  obtain ⟨a, vs, n, rfl, ho, hr⟩ := r
  exact ⟨a, vs, n, rfl, e _ _ ho, hr.ext e⟩
theorem RepB.ext {h h' : Heap} {X : Addr → Prop} {v : Value} {d : D} (r : RepB h X v d) (e : Ext h h') : RepB h' X v d := by
  cases d with
  | lst ds => exact RepL.ext r e
  | _ => exact Rep.ext r e

section
variable {prog : Program} {w : World} {A : Around} {s : Shared} {X : Addr → Prop} {E : Value → Shared → Prop}
theorem maxL_sound {o : Bool} {x y : List D} {b : Bool} {v : Value} (hh : A.handled = none) (hu : A.in1.units < cLine) (hb : ltTs o x y = some b) (r : RepL s.heap X v [.lst x, .lst y]) :
    wpAny (model prog w) A (call (.builtin "max") [v]) (EvP s fun h v => Rep h X v (.lst (if b then y else x))) E s := by
  obtain ⟨a, vs, n, rfl, ho, hr⟩ := r
  cases hr with
  | cons r1 hr => cases hr with
  | cons r2 hr => cases hr with
  | nil =>
  obtain ⟨xs, ys, rfl, rfl, rfl⟩ := ltTs_spec hb
  refine max_two hh ho (b := ltL xs ys) (fun s' Q E e h => ?_) fun h' tk e => ⟨h', tk, rfl, e, ?_⟩
  · exact (ltL_sound (r2.ext e).b (r1.ext e).b hu).2 h
  · cases ltL xs ys
    · exact r1.ext e
    · exact r2.ext e
theorem minL_sound {o : Bool} {x y : List D} {b : Bool} {v : Value} (hh : A.handled = none) (hu : A.in1.units < cLine) (hb : ltTs o y x = some b) (r : RepL s.heap X v [.lst x, .lst y]) :
    wpAny (model prog w) A (call (.builtin "min") [v]) (EvP s fun h v => Rep h X v (.lst (if b then y else x))) E s := by
  obtain ⟨a, vs, n, rfl, ho, hr⟩ := r
  cases hr with
  | cons r1 hr => cases hr with
  | cons r2 hr => cases hr with
  | nil =>
  obtain ⟨ys, xs, rfl, rfl, rfl⟩ := ltTs_spec hb
  refine min_two hh ho (b := ltL ys xs) (fun s' Q E e h => ?_) fun h' tk e => ⟨h', tk, rfl, e, ?_⟩
  · exact (ltL_sound (r2.ext e).b (r1.ext e).b hu).1 h
  · cases ltL ys xs
    · exact r1.ext e
    · exact r2.ext e

/-- the builtins of one argument -/
def bval (f : Str) : Value :=
  if f = S "len" then .builtin "len" else if f = S "sum" then .builtin "sum" else if f = S "type" then .type "type" else if f = S "list" then .type "list"
  else if f = S "max" then .builtin "max" else .builtin "min"

theorem kindT_of {o : Bool} {x y : List D} (h : (∃ xs, x = List.map (D.txt o) xs) ∧ (∃ ys, y = List.map (D.txt o) ys)) : x = [] ∧ y = [] ∨ kindT x y = o := by
  obtain ⟨⟨xs, rfl⟩, ⟨ys, rfl⟩⟩ := h
  cases xs with
  | nil => cases ys with
    | nil => exact .inl ⟨rfl, rfl⟩
    | cons y ys => exact .inr rfl
  | cons x xs => exact .inr rfl

theorem callD_sound {f : Str} {x d : D} {v : Value} (hh : A.handled = none) (hu : A.in1.units < cLine) (hX : ∀ a, X a → ∃ o, s.heap.get? a = some o) (hf : f ≠ S "sorted") (h : callD f [x] = some d) (r : RepB s.heap X v x) :
    wpAny (model prog w) A (call (bval f) [v]) (EvP s fun h v => Rep h X v d) E s := by
  unfold bval
  simp only [callD] at h
  split at h
  · rename_i e; subst e
    rw [if_pos rfl]
    cases x <;> simp at h
    obtain ⟨hz, rfl⟩ := h
    exact len_sound hz r
  rename_i e1
  rw [if_neg e1]
  split at h
  · rename_i e; subst e
    rw [if_pos rfl]
    cases x <;> simp at h
    obtain ⟨hz, l, hl, rfl⟩ := h
    exact sum_sound hh hl r
  rename_i e2
  rw [if_neg e2]
  split at h
  · rename_i e; subst e
    rw [if_pos rfl]
    cases x <;> simp at h
    subst h
    exact type_sound r
  rename_i e3
  rw [if_neg e3]
  split at h
  · rename_i e; subst e
    rw [if_pos rfl]
    cases x <;> simp at h
    obtain ⟨hz, rfl⟩ := h
    exact list_sound hz hX r
  rename_i e4
  rw [if_neg e4]
  try rw [if_neg hf] at h
  split at h
  · rename_i e; subst e
    rw [if_pos rfl]
    split at h
    · obtain ⟨b, hb, e⟩ := Option.bind_eq_some_iff.mp h
      injection e with e
      subst e
      exact maxL_sound hh hu hb r
    · rename_i ds _
      split at h
      · obtain ⟨l, hl, e⟩ := Option.bind_eq_some_iff.mp h
        obtain ⟨m, hm, rfl⟩ := Option.map_eq_some_iff.mp e
        exact maxI_sound hh hl hm r
      · cases h
    · cases h
  rename_i e5
  rw [if_neg e5]
  split at h
  · rename_i e; subst e
    split at h
    · obtain ⟨b, hb, e⟩ := Option.bind_eq_some_iff.mp h
      injection e with e
      subst e
      exact minL_sound hh hu hb r
    · cases h
  · cases h
end
end Mine
end

section
set_option Elab.async false
set_option maxRecDepth 100000
open PySem PySem.Calls PyProof.Rows
namespace Mine

/-- a global name's value, at all heaps that keep h₀ -/
def GlobOk (h₀ : Heap) (x : Str) (v : Value) : Prop := ∀ (M : Model) (A : Around) (E Q : Value → Shared → Prop) (s : Shared) (env : Env), env.globals = mainGlobals → env.builtins = builtinsNs → Ext h₀ s.heap → Q v s → wpAny M A (loadGlobal env x) Q E s

structure EnvOk (h₀ : Heap) (env : Env) : Prop where
  kind : env.scope.kind = .function
  glob : env.globals = mainGlobals
  blt : env.builtins = builtinsNs
  inj : ∀ x y c, env.cells.lookup x = some c → env.cells.lookup y = some c → x = y
  locF : h₀.get? env.locals = none
  celF : ∀ x c, env.cells.lookup x = some c → h₀.get? c = none

def ValOf (h : Heap) (X : Addr → Prop) (adr : Str → Addr) (x : Str) : AV → Option Value → Prop
  | .unset, _ => True
  | .frz d, o => ∃ v, o = some v ∧ Rep h X v d
  | .own ds, o => o = some (.ref (adr x)) ∧ X (adr x) ∧ ∃ vs n, h.get? (adr x) = some (lobj vs n) ∧ RepA h X vs ds

structure St (h₀ : Heap) (env : Env) (X : Addr → Prop) (adr : Str → Addr) (ρ : Ro) (h : Heap) : Prop where
  base : Ext h₀ h
  dom : ∀ a, X a → ∃ o, h.get? a = some o
  out : ∀ a, X a → h₀.get? a = none
  ns : ∃ m, h.Ns env.locals m ∧ ∀ x, env.kindOf x = some .local → ValOf h X adr x (ρ.get x) (m x)
  cel : ∀ x, env.kindOf x = some .cell → ∃ c o, env.cells.lookup x = some c ∧ h.IsCell c o ∧ ValOf h X adr x (ρ.get x) o

theorem Heap.Ns.ext {h h' : Heap} {a m} (hn : h.Ns a m) (e : Ext h h') : h'.Ns a m :=
  let ⟨o, es, ep, x, r⟩ := hn; ⟨o, es, ep, e _ _ x, r⟩

theorem ValOf.move {h h' : Heap} {X X' : Addr → Prop} {adr : Str → Addr} {x : Str} {a : AV} {o : Option Value} (v : ValOf h X adr x a o) (k : Keep X h h') (hx : ∀ a, ¬ X a → (∃ o, h.get? a = some o) → ¬ X' a)
    (hown : ∀ ds, a = .own ds → X' (adr x) ∧ ∀ o, h.get? (adr x) = some o → h'.get? (adr x) = some o) : ValOf h' X' adr x a o := by
  cases a with
  | unset => trivial
  | frz d => obtain ⟨v, e, r⟩ := v; exact ⟨v, e, r.move k hx⟩
  | own ds =>
    obtain ⟨e, _, vs, n, ho, r⟩ := v
    obtain ⟨h1, h2⟩ := hown ds rfl
    exact ⟨e, h1, vs, n, h2 _ ho, r.move k hx⟩
theorem ValOf.ext {h h' : Heap} {X : Addr → Prop} {adr : Str → Addr} {x : Str} {a : AV} {o : Option Value} (v : ValOf h X adr x a o) (e : Ext h h') : ValOf h' X adr x a o := by
  cases a with
  | unset => trivial
  | frz d => obtain ⟨v, e', r⟩ := v; exact ⟨v, e', r.ext e⟩
  | own ds =>
    obtain ⟨e', hx, vs, n, ho, r⟩ := v
    exact ⟨e', hx, vs, n, e _ _ ho, r.ext e⟩

section
variable {h₀ h h' : Heap} {env : Env} {X : Addr → Prop} {adr : Str → Addr} {ρ : Ro}
theorem St.ext (st : St h₀ env X adr ρ h) (e : Ext h h') : St h₀ env X adr ρ h' where
  base := st.base.trans e
  dom := fun a hx => let ⟨o, ho⟩ := st.dom a hx; ⟨o, e _ _ ho⟩
  out := st.out
  ns := let ⟨m, hm, hv⟩ := st.ns; ⟨m, Heap.Ns.ext hm e, fun x hx => (hv x hx).ext e⟩
  cel := fun x hx => let ⟨c, o, h1, h2, h3⟩ := st.cel x hx; ⟨c, o, h1, h2.keeps e, h3.ext e⟩

/-- a kind of name that is a variable -/
def vk : Option NameKind → Bool
  | some .local => true
  | some .cell => true
  | _ => false

variable {M : Model} {A : Around} {E : Value → Shared → Prop} {s : Shared}
theorem St.load {x : Str} {Q : Value → Shared → Prop} (st : St h₀ env X adr ρ s.heap) (ok : EnvOk h₀ env) (hk : vk (env.kindOf x) = true) (h : ∀ v o, ValOf s.heap X adr x (ρ.get x) (some v) → o = v → Q v s) (hs : ∃ d, (ρ.get x).loose = some d) :
    wpAny M A (loadName env x) Q E s := by
  cases hkx : env.kindOf x with
  | none => rw [hkx] at hk; cases hk
  | some k =>
    rw [hkx] at hk
    cases k <;> try cases hk
    · obtain ⟨m, hm, hv⟩ := st.ns
      have v := hv x hkx
      cases hr : ρ.get x with
      | unset => rw [hr] at hs; obtain ⟨d, hd⟩ := hs; cases hd
      | frz d =>
        rw [hr] at v
        obtain ⟨u, e, r⟩ := v
        exact wpAny_loadName_local ok.kind hkx hm e (h u _ (by rw [hr]; exact ⟨u, rfl, r⟩) rfl)
      | own ds =>
        rw [hr] at v
        obtain ⟨e, r⟩ := v
        exact wpAny_loadName_local ok.kind hkx hm e (h _ _ (by rw [hr]; exact ⟨rfl, r⟩) rfl)
    · obtain ⟨c, o, hc, hco, v⟩ := st.cel x hkx
      cases hr : ρ.get x with
      | unset => rw [hr] at hs; obtain ⟨d, hd⟩ := hs; cases hd
      | frz d =>
        rw [hr] at v
        obtain ⟨u, rfl, r⟩ := v
        exact wpAny_loadName_cell ok.kind hkx hc hco (h u _ (by rw [hr]; exact ⟨u, rfl, r⟩) rfl)
      | own ds =>
        rw [hr] at v
        obtain ⟨rfl, r⟩ := v
        exact wpAny_loadName_cell ok.kind hkx hc hco (h _ _ (by rw [hr]; exact ⟨rfl, r⟩) rfl)

theorem St.name {x : Str} {p : Pos} {d : D} (st : St h₀ env X adr ρ s.heap) (ok : EnvOk h₀ env) (hk : vk (env.kindOf x) = true) (hd : (x == ("__debug__" : Str)) = false) (h : (ρ.get x).strict = some d) :
    wpAny M A (eval (.Name x p) env) (EvP s fun h v => Rep h X v d) E s := by
  refine wpAny_Name (st.load ok hk (fun v _ hv _ => ?_) ?_) hd
  · cases hr : ρ.get x with
    | frz d' =>
      rw [hr] at h hv
      cases h
      obtain ⟨u, e, r⟩ := hv
      cases e
      exact ⟨s.heap, s.toks, rfl, Ext.rfl, r⟩
    | unset => rw [hr] at h; cases h
    | own ds => rw [hr] at h; cases h
  · cases hr : ρ.get x with
    | frz d' => exact ⟨_, rfl⟩
    | unset => rw [hr] at h; cases h
    | own ds => rw [hr] at h; cases h
theorem St.nameB {x : Str} {p : Pos} {d : D} (st : St h₀ env X adr ρ s.heap) (ok : EnvOk h₀ env) (hk : vk (env.kindOf x) = true) (hd : (x == ("__debug__" : Str)) = false) (h : (ρ.get x).loose = some d) :
    wpAny M A (eval (.Name x p) env) (EvP s fun h v => RepB h X v d) E s := by
  refine wpAny_Name (st.load ok hk (fun v _ hv _ => ?_) ⟨d, h⟩) hd
  cases hr : ρ.get x with
  | frz d' =>
    rw [hr] at h hv
    cases h
    obtain ⟨u, e, r⟩ := hv
    cases e
    exact ⟨s.heap, s.toks, rfl, Ext.rfl, r.b⟩
  | unset => rw [hr] at h; cases h
  | own ds =>
    rw [hr] at h hv
    cases h
    obtain ⟨e, _, vs, n, ho, r⟩ := hv
    cases e
    exact ⟨s.heap, s.toks, rfl, Ext.rfl, _, vs, n, rfl, ho, r⟩

/-- a global name -/
theorem St.glob {x : Str} {p : Pos} {v : Value} {Q : Value → Shared → Prop} (st : St h₀ env X adr ρ s.heap) (ok : EnvOk h₀ env) (hk : env.kindOf x = some .globalImplicit) (hd : (x == ("__debug__" : Str)) = false) (g : GlobOk h₀ x v) (h : Q v s) :
    wpAny M A (eval (.Name x p) env) Q E s :=
  Name_function_global ok.kind hk (g _ _ _ _ _ _ ok.glob ok.blt st.base h) hd
end

/-- what the tree of a chain of expressions gives -/
def EvL (s : Shared) (P : Heap → List Value → Prop) : List Value → Shared → Prop := fun v s' => ∃ h' tk, s' = { s with heap := h', toks := tk } ∧ Ext s.heap h' ∧ P h' v

theorem EvP.then {s s1 : Shared} {P P' : Heap → Value → Prop} {v u : Value} {h' : Heap} {tk : Nat} (e : Ext s.heap h') (hs : s1 = { s with heap := h', toks := tk }) (h : EvP s1 P' u s2) (hp : ∀ h'', Ext h' h'' → P' h'' u → P h'' u) : EvP s P u s2 := by
  subst hs
  obtain ⟨h'', tk', rfl, e', p⟩ := h
  exact ⟨h'', tk', rfl, e.trans e', hp _ e' p⟩

section
variable {M : Model} {A : Around} {E : Value → Shared → Prop} {s : Shared} {s₂ : Shared}
/-- go on from a state that came by an expression -/
theorem wp_then {α : Type} {t : Sem α} {k : Sem Value} {P : Heap → Value → Prop} {h' : Heap} {tk : Nat} (e : Ext s.heap h') (h : wpAny M A k (EvP { s with heap := h', toks := tk } P) E { s with heap := h', toks := tk }) :
    wpAny M A k (EvP s P) E { s with heap := h', toks := tk } :=
  wpAny_mono h (fun v s' ⟨h'', tk', e1, e2, p⟩ => ⟨h'', tk', by rw [e1], e.trans e2, p⟩) fun _ _ x => x
theorem EvP.mono {P P' : Heap → Value → Prop} {v : Value} (h : EvP s P v s₂) (hp : ∀ h', Ext s.heap h' → P h' v → P' h' v) : EvP s P' v s₂ := by
  obtain ⟨h', tk, e1, e2, p⟩ := h; exact ⟨h', tk, e1, e2, hp _ e2 p⟩
end
end Mine
end

section
set_option Elab.async false
set_option maxRecDepth 100000
open PySem PySem.Calls PyProof.Rows
namespace Mine

def relab (inner sc : Scope) : Scope :=
  { inner with names := inner.names.map fun (n, k) => if (k == .free && sc.kind == .function && sc.names.lookup n == some .cell) then (n, .cell) else (n, k) }
theorem relabel_eq (inner : Scope) (env : Env) : relabel inner env = relab inner env.scope := rfl

def okG (sc : Scope) (x : Str) : Bool := sc.names.lookup x == some .globalImplicit && !(x == ("__debug__" : Str))
def okScope (sc inner : Scope) : Bool := inner.kind == .function && inner.names.all fun p => match p.2 with
  | .local => inner.names.lookup p.1 == some .local
  | .free => sc.names.lookup p.1 == some .cell && inner.names.lookup p.1 == some .free
  | .globalImplicit => true
  | _ => false
def okTarget (sc : Scope) (g : Comprehension) : Bool := g.is_async == 0 && match g.target with
  | .Name x _ => sc.names.lookup x == some .local
  | _ => false
def notCall0 : Expr → Bool
  | .Call _ [] _ _ => false
  | _ => true

def okE : Nat → Scope → Expr → Bool
  | 0, _, _ => false
  | n + 1, sc, e => match e with
    | .Constant _ _ _ => true
    | .Name x _ => vk (sc.names.lookup x) && !(x == ("__debug__" : Str))
    | .BinOp l _ r _ => okE n sc l && okE n sc r
    | .UnaryOp _ x _ => okE n sc x
    | .BoolOp _ vs _ => vs.all fun v => okE n sc v
    | .Compare l _ rs _ => okE n sc l && rs.all fun v => okE n sc v
    | .IfExp t b o _ => okE n sc t && okE n sc b && okE n sc o
    | .List es _ => decide (es.length ≤ 64) && es.all fun v => okE n sc v
    | .Tuple es _ _ => decide (es.length ≤ 64) && es.all fun v => okE n sc v
    | .Subscript o i _ => okE n sc o && okE n sc i
    | .Slice lo hi st _ => (match lo with | some e => okE n sc e | none => true) && (match hi with | some e => okE n sc e | none => true) && st.isNone
    | .Call (.Attribute o _ ap) args _ pos => ap.endLine == pos.line && notCall0 o && okE n sc o && args.all fun v => okE n sc v
    | .Call (.Name f _) args _ _ => okG sc f && (
      if f = S "isinstance" then (match args with
        | [a, .Name t _] => okE n sc a && okG sc t
        | _ => false)
      else if f = S "issubclass" then (match args with
        | [a, .Tuple [.Name t _, .Name u _] _ _] => okE n sc a && okG sc t && okG sc u
        | _ => false)
      else if f = S "tuple" then (match args with
        | [.Call (.Name m _) [.Name g _, a] [] _] => okG sc m && okG sc g && okE n sc a
        | _ => false)
      else !args.isEmpty && args.all fun v => okE n sc v)
    | .ListComp elt gens inner _ => okScope sc inner && (match gens with
      | [] => false
      | g :: rest => okE n sc g.iter && (g.ifs.all fun v => okE n (relab inner sc) v) && okTarget (relab inner sc) g
        && (rest.all fun g => okE n (relab inner sc) g.iter && (g.ifs.all fun v => okE n (relab inner sc) v) && okTarget (relab inner sc) g) && okE n (relab inner sc) elt)
    | .SetComp elt gens inner _ => okScope sc inner && (match gens with
      | [g] => okE n sc g.iter && (g.ifs.all fun v => okE n (relab inner sc) v) && okTarget (relab inner sc) g && okE n (relab inner sc) elt
      | _ => false)
    | _ => false

section
variable {Φ : Str → List D → Option D}
theorem ev_plain {n : Nat} {e : Expr} {ρ : Ro} {d : D} (h : ev Φ n e ρ = some d) : (∀ v p, e ≠ .Starred v p) ∧ (∀ es k p, e ≠ .Set es k p) ∧ (∀ l u st p, e ≠ .Slice l u st p) := by
  cases n with
  | zero => cases h
  | succ n => cases e <;> first | (cases h; done) | exact ⟨fun _ _ x => (nomatch x), fun _ _ _ x => (nomatch x), fun _ _ _ _ x => (nomatch x)⟩
theorem evB_plain {n : Nat} {e : Expr} {ρ : Ro} {d : D} (h : evB Φ n e ρ = some d) : (∀ v p, e ≠ .Starred v p) ∧ (∀ es k p, e ≠ .Set es k p) ∧ (∀ l u st p, e ≠ .Slice l u st p) := by
  cases n with
  | zero => cases h
  | succ n => cases e <;> first | exact ev_plain h | exact ⟨fun _ _ x => (nomatch x), fun _ _ _ x => (nomatch x), fun _ _ _ _ x => (nomatch x)⟩
end

theorem star_plain {e : Expr} {rest : List Expr} {env : Env} (h : ∀ v p, e ≠ .Starred v p) : starEach (e :: rest) env = (false, eval e env) :: starEach rest env := by
  cases e <;> first | rfl | exact absurd rfl (h _ _)
theorem marks_plain {op : CmpOp} {e : Expr} (h : ∀ es k p, e ≠ .Set es k p) : behindInMarks op e = false := by
  cases e <;> first | rfl | exact absurd rfl (h _ _ _)
theorem fold_plain {env : Env} {e : Expr} (h : ∀ es k p, e ≠ .Set es k p) (x : Value) : foldedSetIterable e env x = pure x := by
  cases e <;> first | rfl | exact absurd rfl (h _ _ _)

section
variable {M : Model} {A : Around} {E : Value → Shared → Prop} {s : Shared} {X : Addr → Prop}
theorem const_sound {c : Const} {k : Nat} {p : Pos} {env : Env} {d : D} (h : constD c = some d) : wpAny M A (eval (.Constant c k p) env) (EvP s fun h v => Rep h X v d) E s := by
  cases c <;> simp only [constD] at h
  · cases h; exact wpAny_Constant_none (EvP.here (tk := s.toks) .none)
  · cases h; exact wpAny_Constant_bool (EvP.here (tk := s.toks) (.bool _))
  · cases h; exact wpAny_Constant_int (EvP.here (.int _ _))
  · cases h
  · cases h
  · split at h
    · cases h; exact wpAny_Constant_str (EvP.here (.str _ _))
    · cases h
  · split at h
    · cases h
      rename_i b _
      refine PySem.W.Constant_bytes (EvP.here ?_)
      have e : b = (b.map (·.toNat)).map UInt8.ofNat := by
        rw [List.map_map]
        refine (List.map_id b).symm.trans (List.map_congr_left fun u _ => ?_)
        show u = UInt8.ofNat u.toNat
        simp
      have := Rep.bytes (h := s.heap) (X := X) (b.map (·.toNat)) s.toks (by intro c hc; obtain ⟨u, _, rfl⟩ := List.mem_map.mp hc; exact UInt8.toNat_lt u)
      rwa [← e] at this
    · cases h
  · cases h
end

section
variable {M : Model} {A : Around} {E : Value → Shared → Prop} {X : Addr → Prop}
theorem each_sound {env : Env} {pos : Pos} : ∀ (es : List Expr) (ds : List D) (s : Shared), es.length = ds.length →
    (∀ e ∈ es, ∀ v p, e ≠ .Starred v p) →
    (∀ (i : Nat) (e : Expr) (d : D), es[i]? = some e → ds[i]? = some d → ∀ h' tk, Ext s.heap h' → wpAny M A (eval e env) (EvP { s with heap := h', toks := tk } fun h v => Rep h X v d) E { s with heap := h', toks := tk }) →
    wpAny M A (spliced (backTo pos (starEach es env))) (EvL s fun h vs => RepA h X vs ds) E s
  | [], [], s, _, _, _ => spliced_nil ⟨s.heap, s.toks, rfl, Ext.rfl, .nil⟩
  | e :: es, d :: ds, s, hl, hp, hr => by
    rw [star_plain (hp e (.head _))]
    show wpAny M A (spliced ((false, eval e env) :: backTo pos (starEach es env))) _ E s
    refine spliced_cons (wpAny_mono (hr 0 e d rfl rfl s.heap s.toks Ext.rfl) (fun v s₁ h₁ => ?_) fun _ _ x => x)
    obtain ⟨h₁, tk₁, rfl, e₁, r₁⟩ := h₁
    refine wpAny_mono (each_sound es ds _ (by simpa using hl) (fun e he => hp e (.tail _ he)) fun i e' d' h1 h2 h' tk e2 => hr (i + 1) e' d' (by simpa using h1) (by simpa using h2) h' tk (e₁.trans e2)) (fun vs s₂ h₂ => ?_) fun _ _ x => x
    obtain ⟨h₂, tk₂, rfl, e₂, r₂⟩ := h₂
    exact ⟨h₂, tk₂, rfl, e₁.trans e₂, .cons (r₁.ext e₂) r₂⟩
  | [], _ :: _, _, hl, _, _ => by simp at hl
  | _ :: _, [], _, hl, _, _ => by simp at hl
end

theorem mapO_length {α β : Type} {f : α → Option β} : ∀ {l : List α} {r : List β}, mapO f l = some r → l.length = r.length
  | [], r, h => by simp [mapO] at h; subst h; rfl
  | a :: l, r, h => by
    simp only [mapO] at h
    split at h
    · obtain ⟨r', h', rfl⟩ := Option.map_eq_some_iff.mp h
      simp [mapO_length h']
    · cases h
theorem mapO_at {α β : Type} {f : α → Option β} : ∀ {l : List α} {r : List β}, mapO f l = some r → ∀ (i : Nat) (a : α) (b : β), l[i]? = some a → r[i]? = some b → f a = some b
  | [], r, h, i, a, b, ha, _ => by simp at ha
  | x :: l, r, h, i, a, b, ha, hb => by
    simp only [mapO] at h
    split at h
    · rename_i y hy
      obtain ⟨r', h', rfl⟩ := Option.map_eq_some_iff.mp h
      cases i with
      | zero => simp at ha hb; subst ha; subst hb; exact hy
      | succ i => exact mapO_at h' i a b (by simpa using ha) (by simpa using hb)
    · cases h
theorem mapO_all {α β : Type} {f : α → Option β} {l : List α} {r : List β} (h : mapO f l = some r) : ∀ a ∈ l, ∃ b, f a = some b := by
  intro a ha
  obtain ⟨i, hi, rfl⟩ := List.mem_iff_getElem.mp ha
  have hl := mapO_length h
  exact ⟨r[i]'(hl ▸ hi), mapO_at h i _ _ (by simp [hi]) (by simp [hl ▸ hi])⟩
end Mine
end

section
set_option Elab.async false
set_option maxRecDepth 100000
open PySem PySem.Calls PyProof.Rows
namespace Mine

/-- an iterator over the data ds, made since the heap h -/
structure Src (prog : Program) (w : World) (h : Heap) (X Z : Addr → Prop) (ds : List D) (I : Addr) (fp wr : List Addr) (P : Nat → Value → Prop) (Sx : Nat → Heap → Prop) (h' : Heap) : Prop where
  ext : Ext h h'
  walks : ∀ A : Around, A.handled = none → Walks prog w A I fp wr ds.length P Sx
  start : Sx 0 h'
  lt : ∀ b ∈ fp, b < h'.objs.size
  alive : ∀ i h, Sx i h → ∀ b ∈ fp, ∃ o, h.get? b = some o
  fresh : ∀ b ∈ wr, h.get? b = none
  fps : ∀ b ∈ fp, h.get? b = none ∨ ((∃ o vs n, h.get? b = some o ∧ o.data = .seq vs n) ∧ (¬ X b ∨ Z b))
  nonseq : ∀ i h, Sx i h → ∀ b ∈ wr, ∀ o vs n, h.get? b = some o → o.data = .seq vs n → False
  items : ∀ i v, P i v → ∃ d, ds[i]? = some d ∧ Rep h' X v d
def SrcP (prog : Program) (w : World) (s : Shared) (X Z : Addr → Prop) (ds : List D) (it : Value) (s₂ : Shared) : Prop :=
  ∃ I fp wr P Sx h' tk, it = .ref I ∧ s₂ = { s with heap := h', toks := tk } ∧ Src prog w s.heap X Z ds I fp wr P Sx h'

theorem Src.here {prog : Program} {w : World} {h : Heap} {X Z : Addr → Prop} {ds : List D} {I : Addr} {fp wr : List Addr} {P : Nat → Value → Prop} {Sx : Nat → Heap → Prop} {h' : Heap} (x : Src prog w h X Z ds I fp wr P Sx h') : ∀ b ∈ fp, ∃ o, h'.get? b = some o := x.alive 0 _ x.start

theorem Src.up {prog : Program} {w : World} {h h1 : Heap} {X Z : Addr → Prop} {ds : List D} {I : Addr} {fp wr : List Addr} {P : Nat → Value → Prop} {Sx : Nat → Heap → Prop} {h' : Heap} (e : Ext h h1) (x : Src prog w h1 X Z ds I fp wr P Sx h')
    : Src prog w h X Z ds I fp wr P Sx h' := by
  have nn : ∀ b, h1.get? b = none → h.get? b = none := fun b hb => by
    cases hx : h.get? b with
    | none => rfl
    | some o => rw [e _ _ hx] at hb; cases hb
  refine ⟨e.trans x.ext, x.walks, x.start, x.lt, x.alive, fun b hb => nn b (x.fresh b hb), fun b hb => ?_, x.nonseq, x.items⟩
  cases hx : h.get? b with
  | none => exact .inl rfl
  | some o =>
    rcases x.fps b hb with q | ⟨⟨o', vs, n, h1, h2⟩, h3⟩
    · rw [nn b q] at hx; cases hx
    · rw [e _ _ hx] at h1; cases h1
      exact .inr ⟨⟨o, vs, n, rfl, h2⟩, h3⟩
theorem SrcP.up {prog : Program} {w : World} {s : Shared} {X Z : Addr → Prop} {ds : List D} {it : Value} {h' : Heap} {tk : Nat} {s₂ : Shared} (e : Ext s.heap h') (h : SrcP prog w { s with heap := h', toks := tk } X Z ds it s₂) : SrcP prog w s X Z ds it s₂ := by
  obtain ⟨I, fp, wr, P, Sx, h'', tk', e1, rfl, x⟩ := h
  exact ⟨I, fp, wr, P, Sx, h'', tk', e1, rfl, x.up e⟩

section
variable {prog : Program} {w : World} {A : Around} {E : Value → Shared → Prop} {s : Shared} {X : Addr → Prop}
theorem iterL_sound {ds : List D} {a : Addr} {vs : List Value} {n : Nat} (Z : Addr → Prop) (ho : s.heap.get? a = some (lobj vs n)) (hr : RepA s.heap X vs ds) (hZ : ¬ X a ∨ Z a) : wpAny (model prog w) A (pyIter (.ref a)) (SrcP prog w s X Z ds) E s := by
  have hl : s.heap.IsList a vs.toArray := ⟨_, ho, rfl, _, rfl⟩
  have hne : a ≠ s.heap.objs.size := Nat.ne_of_lt (Heap.lt_size ho)
  have fr : s.heap.get? s.heap.objs.size = none := fresh_not (Nat.le_refl _)
  have e : vs.toArray.size = ds.length := by rw [List.size_toArray]; exact hr.length
  refine wpAny_pyIter_list hl ?_
  refine ⟨_, _, _, fun i v => vs.toArray[i]? = some v, _, _, s.toks, rfl, rfl, Ext.rfl.push _, fun A' hA => e ▸ Walks.list hA s.heap.objs.size a hne vs.toArray, ⟨⟨_, Heap.get?_push_size _ rfl, rfl, rfl⟩, hl.push _⟩, ?_, ?_, ?_, ?_, ?_, ?_⟩
  · intro b hb
    simp at hb
    have h1 := Heap.lt_size ho
    have h2 : (s.heap.push { cls := Value.type "list_iterator", data := Data.fields #[Value.ref a, Value.int 0 0] }).objs.size = s.heap.objs.size + 1 := Array.size_push ..
    rcases hb with rfl | rfl
    · exact h2 ▸ Nat.lt_succ_self _
    · exact h2 ▸ Nat.lt_succ_of_lt h1
  · rintro i h ⟨⟨o1, q1, _⟩, ⟨o2, q2, _⟩⟩ b hb
    simp at hb
    rcases hb with rfl | rfl
    · exact ⟨_, q1⟩
    · exact ⟨_, q2⟩
  · intro b hb; simp at hb; subst hb; exact fr
  · intro b hb
    simp at hb
    rcases hb with rfl | rfl
    · exact .inl fr
    · exact .inr ⟨⟨_, _, _, ho, rfl⟩, hZ⟩
  · rintro i h ⟨⟨o', h1, h2, h3⟩, _⟩ b hb o vs' n' ho' hd
    simp at hb; subst hb
    rw [h1] at ho'; cases ho'
    rw [h3] at hd; cases hd
  · intro i v hv
    obtain ⟨d, h1, h2⟩ := hr.get' (k := i) (by simpa using hv)
    exact ⟨d, h1, h2.ext (Ext.rfl.push _)⟩
theorem iterT_sound {ds : List D} {v : Value} (r : Rep s.heap X v (.tup ds)) : wpAny (model prog w) A (pyIter v) (SrcP prog w s X (fun _ => False) ds) E s := by
  cases r with
  | tup hx ho hr =>
  rename_i a vs n
  have hl : s.heap.IsTuple a vs.toArray := ⟨_, ho, rfl, _, rfl⟩
  have hne : a ≠ s.heap.objs.size := Nat.ne_of_lt (Heap.lt_size ho)
  have fr : s.heap.get? s.heap.objs.size = none := fresh_not (Nat.le_refl _)
  have e : vs.toArray.size = ds.length := by rw [List.size_toArray]; exact hr.length
  refine wpAny_pyIter_tuple hl ?_
  refine ⟨_, _, _, fun i v => vs.toArray[i]? = some v, _, _, s.toks, rfl, rfl, Ext.rfl.push _, fun A' hA => e ▸ Walks.tuple hA s.heap.objs.size a hne vs.toArray, ⟨⟨_, Heap.get?_push_size _ rfl, rfl, rfl⟩, hl.push _⟩, ?_, ?_, ?_, ?_, ?_, ?_⟩
  · intro b hb
    simp at hb
    have h1 := Heap.lt_size ho
    have h2 : (s.heap.push { cls := Value.type "tuple_iterator", data := Data.fields #[Value.ref a, Value.int 0 0] }).objs.size = s.heap.objs.size + 1 := Array.size_push ..
    rcases hb with rfl | rfl
    · exact h2 ▸ Nat.lt_succ_self _
    · exact h2 ▸ Nat.lt_succ_of_lt h1
  · rintro i h ⟨⟨o1, q1, _⟩, ⟨o2, q2, _⟩⟩ b hb
    simp at hb
    rcases hb with rfl | rfl
    · exact ⟨_, q1⟩
    · exact ⟨_, q2⟩
  · intro b hb; simp at hb; subst hb; exact fr
  · intro b hb
    simp at hb
    rcases hb with rfl | rfl
    · exact .inl fr
    · exact .inr ⟨⟨_, _, _, ho, rfl⟩, .inl hx⟩
  · rintro i h ⟨⟨o', h1, h2, h3⟩, _⟩ b hb o vs' n' ho' hd
    simp at hb; subst hb
    rw [h1] at ho'; cases ho'
    rw [h3] at hd; cases hd
  · intro i v hv
    obtain ⟨d, h1, h2⟩ := hr.get' (k := i) (by simpa using hv)
    exact ⟨d, h1, h2.ext (Ext.rfl.push _)⟩
theorem rangeD_at {a b : Int} {i : Nat} (h : i < (b - a).toNat) : (rangeD a b)[i]? = some (.int (a + (i : Int))) := by
  unfold rangeD
  rw [List.getElem?_map, List.getElem?_range h]; rfl
theorem rangeD_len {a b : Int} : (rangeD a b).length = (b - a).toNat := by simp [rangeD]
theorem iterR_sound {r : Addr} {a b : Int} {t u v : Tok} (hr : IsRange s.heap r a b 1 t u v) (ha : -(2 ^ 62) ≤ a) (ha' : a < 2 ^ 62) (hb : -(2 ^ 62) ≤ b) (hb' : b < 2 ^ 62) (Z : Addr → Prop) :
    wpAny (model prog w) A (pyIter (.ref r)) (SrcP prog w s X Z (rangeD a b)) E s := by
  have fr : s.heap.get? s.heap.objs.size = none := fresh_not (Nat.le_refl _)
  refine wpAny_pyIter_range hr (small_one ha ha' hb hb') ?_
  have e : Builtin.Range.rangeSize a b 1 = (((b - a).toNat : Nat) : Int) := by rw [rangeSize_one]; split <;> omega
  refine ⟨s.heap.objs.size, [s.heap.objs.size], [s.heap.objs.size], (fun i v => i < (b - a).toNat ∧ ∃ t, v = .int (a + (i : Int)) t), (fun i h => IsRangeIter h s.heap.objs.size (a + (i : Nat) * 1) ((((b - a).toNat : Nat) : Int) - (i : Nat)) 1), _, s.toks, rfl, rfl, Ext.rfl.push _, fun A' hA => ?_, ?_, ?_, ?_, ?_, ?_, ?_, ?_⟩
  · rw [rangeD_len]
    exact (PyProof.Rows.LCg.range_walks (I := s.heap.objs.size) hA a (b - a).toNat).bound
  · rw [e]
    have := Heap.get?_push_size s.heap (o := { cls := .type "range_iterator", data := .fields #[rawInt a, rawInt (((b - a).toNat : Nat) : Int), rawInt 1] }) rfl
    have e1 : a + ((0 : Nat) : Int) * 1 = a := by simp
    have e2 : (((b - a).toNat : Nat) : Int) - ((0 : Nat) : Int) = (((b - a).toNat : Nat) : Int) := by simp
    show IsRangeIter _ _ _ _ _
    rw [e1, e2]
    exact this
  · intro b hb
    simp at hb; subst hb
    show _ < (s.heap.push _).objs.size
    exact (Array.size_push .. : (s.heap.push _).objs.size = s.heap.objs.size + 1) ▸ Nat.lt_succ_self _
  · intro i h hst b hb; simp at hb; subst hb; exact ⟨_, hst⟩
  · intro b hb; simp at hb; subst hb; exact fr
  · intro b hb; simp at hb; subst hb; exact .inl fr
  · intro i h hst b hb o vs' n' ho' hd
    simp at hb; subst hb
    have : h.get? s.heap.objs.size = some _ := hst
    rw [this] at ho'; cases ho'
    cases hd
  · rintro i v ⟨hi, t, rfl⟩
    exact ⟨_, rangeD_at hi, .int _ _⟩
end
end Mine
end

section
set_option Elab.async false
set_option maxRecDepth 100000
open PySem PySem.Calls PyProof.Rows
namespace Mine

theorem seq_not_dict {h : Heap} {a : Addr} {o : Obj} {vs : Array Value} {n : Nat} {m : Str → Option Value} (ho : h.get? a = some o) (hd : o.data = .seq vs n) (hn : h.Ns a m) : False := by
  obtain ⟨o', es, ep, h1, h2, _⟩ := hn
  rw [ho] at h1; cases h1
  rw [hd] at h2; cases h2
theorem seq_not_cell {h : Heap} {a : Addr} {o : Obj} {vs : Array Value} {n : Nat} {c : Option Value} (ho : h.get? a = some o) (hd : o.data = .seq vs n) (hn : h.IsCell a c) : False := by
  obtain ⟨o', h1, h2⟩ := hn
  rw [ho] at h1; cases h1
  rw [hd] at h2; cases h2
theorem dict_not_cell {h : Heap} {a : Addr} {m : Str → Option Value} {c : Option Value} (hm : h.Ns a m) (hn : h.IsCell a c) : False := by
  obtain ⟨o, es, ep, h1, h2, _⟩ := hm
  obtain ⟨o', h3, h4⟩ := hn
  rw [h1] at h3; cases h3
  rw [h2] at h4; cases h4

section
variable {h₀ h h' : Heap} {env : Env} {X : Addr → Prop} {adr : Str → Addr} {ρ : Ro}

/-- one list of X is changed, that no name owns -/
theorem St.moveAt {a : Addr} (st : St h₀ env X adr ρ h) (hk : ∀ b o, b ≠ a → h.get? b = some o → h'.get? b = some o) (hX : X a) (ha : ∃ vs n, h.get? a = some (lobj vs n)) (ha' : ∃ o, h'.get? a = some o)
    (hne : ∀ x ds, vk (env.kindOf x) = true → ρ.get x = .own ds → adr x ≠ a) : St h₀ env X adr ρ h' := by
  obtain ⟨vs, n, ha⟩ := ha
  have keep : Keep X h h' := fun b o hb _ e => hk b o (fun q => hb (q ▸ hX)) e
  refine ⟨fun b o e => hk b o (fun q => ?_) (st.base b o e), fun b hb => ?_, st.out, ?_, fun x hx => ?_⟩
  · rw [q, st.out a hX] at e; cases e
  · by_cases q : b = a
    · rw [q]; exact ha'
    · obtain ⟨o, e⟩ := st.dom b hb; exact ⟨o, hk b o q e⟩
  · obtain ⟨m, hm, hv⟩ := st.ns
    have hL : env.locals ≠ a := fun q => seq_not_dict (q ▸ ha) rfl hm
    exact ⟨m, hm.at' fun o e => hk _ o hL e, fun x hx => (hv x hx).move keep (fun _ p _ => p) fun ds e => ⟨by have := hv x hx; rw [e] at this; exact this.2.1, fun o q => hk _ o (hne x ds (by rw [hx]; rfl) e) q⟩⟩
  · obtain ⟨c, o, h1, h2, h3⟩ := st.cel x hx
    have hc : c ≠ a := fun q => seq_not_cell (q ▸ ha) rfl h2
    obtain ⟨oc, e1, e2⟩ := h2
    exact ⟨c, o, h1, ⟨oc, hk _ _ hc e1, e2⟩, h3.move keep (fun _ p _ => p) fun ds e => ⟨by rw [e] at h3; exact h3.2.1, fun o q => hk _ o (hne x ds (by rw [hx]; rfl) e) q⟩⟩

/-- a place that was not there is kept apart -/
theorem St.grow {a : Addr} (st : St h₀ env X adr ρ h) (hn : h.get? a = none) (e : Ext h h') (ha : ∃ o, h'.get? a = some o) : St h₀ env (fun b => X b ∨ b = a) adr ρ h' := by
  have hx : ∀ b, ¬ X b → (∃ o, h.get? b = some o) → ¬ (X b ∨ b = a) := fun b hb ⟨o, ho⟩ q => q.elim hb fun q => by rw [q, hn] at ho; cases ho
  refine ⟨st.base.trans e, fun b hb => ?_, fun b hb => ?_, ?_, fun x hx' => ?_⟩
  · rcases hb with hb | rfl
    · obtain ⟨o, ho⟩ := st.dom b hb; exact ⟨o, e _ _ ho⟩
    · exact ha
  · rcases hb with hb | rfl
    · exact st.out b hb
    · cases q : h₀.get? b with
      | none => rfl
      | some o => rw [st.base _ _ q] at hn; cases hn
  · obtain ⟨m, hm, hv⟩ := st.ns
    exact ⟨m, Heap.Ns.ext hm e, fun x hx' => (hv x hx').move e.keep hx fun ds q => ⟨by have := hv x hx'; rw [q] at this; exact .inl this.2.1, fun o ho => e _ _ ho⟩⟩
  · obtain ⟨c, o, h1, h2, h3⟩ := st.cel x hx'
    exact ⟨c, o, h1, h2.keeps e, h3.move e.keep hx fun ds q => ⟨by rw [q] at h3; exact .inl h3.2.1, fun o ho => e _ _ ho⟩⟩

/-- a smaller X -/
theorem St.shrink {X' : Addr → Prop} (st : St h₀ env X adr ρ h) (hx : ∀ a, X' a → X a) (hown : ∀ x ds, ρ.get x = .own ds → X' (adr x)) : St h₀ env X' adr ρ h := by
  refine ⟨st.base, fun b hb => st.dom b (hx b hb), fun b hb => st.out b (hx b hb), ?_, fun x hx' => ?_⟩
  · obtain ⟨m, hm, hv⟩ := st.ns
    exact ⟨m, hm, fun x hx' => (hv x hx').move Keep.rfl (fun b hb _ q => hb (hx b q)) fun ds q => ⟨hown x ds q, fun o ho => ho⟩⟩
  · obtain ⟨c, o, h1, h2, h3⟩ := st.cel x hx'
    exact ⟨c, o, h1, h2, h3.move Keep.rfl (fun b hb _ q => hb (hx b q)) fun ds q => ⟨hown x ds q, fun o ho => ho⟩⟩

/-- fewer names are spoken of -/
theorem St.forget {ρ' : Ro} (st : St h₀ env X adr ρ h) (hr : ∀ x, ρ'.get x = .unset ∨ ρ'.get x = ρ.get x) : St h₀ env X adr ρ' h := by
  refine ⟨st.base, st.dom, st.out, ?_, fun x hx => ?_⟩
  · obtain ⟨m, hm, hv⟩ := st.ns
    exact ⟨m, hm, fun x hx => by rcases hr x with e | e <;> rw [e]; · trivial
                                 · exact hv x hx⟩
  · obtain ⟨c, o, h1, h2, h3⟩ := st.cel x hx
    exact ⟨c, o, h1, h2, by rcases hr x with e | e <;> rw [e]; · trivial
                            · exact h3⟩

variable {M : Model} {A : Around} {E : Value → Shared → Prop} {s : Shared}
/-- what a store into a name leaves -/
def Stored (env : Env) (x : Str) (h h' : Heap) : Prop := ∃ c, (c = env.locals ∨ env.cells.lookup x = some c) ∧ (env.kindOf x = some .local → c = env.locals) ∧ Heap.SameBut c h h'

theorem same_keep {c : Addr} (hs : Heap.SameBut c h h') (hc : ∀ o vs n, h.get? c = some o → o.data = .seq vs n → False) (X : Addr → Prop) : Keep X h h' := fun b o _ ⟨vs, n, e⟩ ho =>
  (hs.2 b (fun q => hc o vs n (q ▸ ho) e)).trans ho

theorem ValOf.other {c : Addr} {x : Str} {a : AV} {o : Option Value} (v : ValOf h X adr x a o) (hs : Heap.SameBut c h h') (hc : ∀ o vs n, h.get? c = some o → o.data = .seq vs n → False) : ValOf h' X adr x a o := by
  cases a with
  | unset => trivial
  | frz d => obtain ⟨v, e', r⟩ := v; exact ⟨v, e', r.move (same_keep hs hc X) fun _ p _ => p⟩
  | own ds =>
    obtain ⟨e', hx, vs, n, ho, r⟩ := v
    exact ⟨e', hx, vs, n, (hs.2 _ (fun q => hc _ _ _ (q ▸ ho) rfl)).trans ho, r.move (same_keep hs hc X) fun _ p _ => p⟩

theorem St.store {x : Str} {v : Value} {d : D} {ρ' : Ro} {Q : Unit → Shared → Prop} (st : St h₀ env X adr ρ s.heap) (ok : EnvOk h₀ env) (hk : vk (env.kindOf x) = true) (hg : ρ'.get x = .frz d) (hg' : ∀ y, y ≠ x → ρ'.get y = ρ.get y)
    (r : Rep s.heap X v d) (h : ∀ h' tk, St h₀ env X adr ρ' h' → Rep h' X v d → Stored env x s.heap h' → Q () { s with heap := h', toks := tk }) : wpAny M A (storeName env x v) Q E s := by
  have kindF : (env.scope.kind == .class || (env.scope.kind == .module && env.locals != env.globals)) = false := by rw [ok.kind]; rfl
  obtain ⟨m, hm, hv⟩ := st.ns
  cases hkx : env.kindOf x with
  | none => rw [hkx] at hk; cases hk
  | some k =>
    rw [hkx] at hk
    cases k <;> try cases hk
    · -- a local
      refine wpAny_storeName_local hkx hm (fun h' hn hs => ?_) kindF
      have hc : ∀ o vs n, s.heap.get? env.locals = some o → o.data = .seq vs n → False := fun o vs n ho hd => seq_not_dict ho hd hm
      have r' : Rep h' X v d := r.move (same_keep hs hc X) fun _ p _ => p
      refine h h' _ ⟨fun b o e => ?_, fun b hb => ?_, st.out, ⟨_, hn, fun y hy => ?_⟩, fun y hy => ?_⟩ r' ⟨env.locals, .inl rfl, fun _ => rfl, hs⟩
      · exact (hs.2 b (fun q => by rw [q, ok.locF] at e; cases e)).trans (st.base b o e)
      · by_cases q : b = env.locals
        · obtain ⟨o, _, _, ho, _⟩ := hn
          exact ⟨o, q ▸ ho⟩
        · obtain ⟨o, ho⟩ := st.dom b hb; exact ⟨o, (hs.2 b q).trans ho⟩
      · by_cases e : y = x
        · subst e; rw [hg]; exact ⟨v, by simp, r'⟩
        · rw [hg' y e]; simp only [e, if_false]; exact (hv y hy).other hs hc
      · obtain ⟨c, o, h1, h2, h3⟩ := st.cel y hy
        have e : y ≠ x := fun e => by subst e; rw [hkx] at hy; cases hy
        refine ⟨c, o, h1, h2.sameBut hs (fun q => dict_not_cell (q ▸ hm) h2), ?_⟩
        rw [hg' y e]; exact h3.other hs hc
    · -- a cell
      obtain ⟨c, o, h1, h2, h3⟩ := st.cel x hkx
      have hc : ∀ o vs n, s.heap.get? c = some o → o.data = .seq vs n → False := fun o vs n ho hd => seq_not_cell ho hd h2
      refine wpAny_storeName_cell ok.kind hkx h1 h2 fun h' hn hs => ?_
      have r' : Rep h' X v d := r.move (same_keep hs hc X) fun _ p _ => p
      refine h h' s.toks ⟨fun b o e => ?_, fun b hb => ?_, st.out, ⟨m, hm.sameBut hs (fun q => dict_not_cell (q ▸ hm) h2), fun y hy => ?_⟩, fun y hy => ?_⟩ r' ⟨c, .inr h1, fun q => (nomatch hkx.symm.trans q), hs⟩
      · exact (hs.2 b (fun q => by rw [q, ok.celF x c h1] at e; cases e)).trans (st.base b o e)
      · by_cases q : b = c
        · obtain ⟨o, ho, _⟩ := hn
          exact ⟨o, q ▸ ho⟩
        · obtain ⟨o, ho⟩ := st.dom b hb; exact ⟨o, (hs.2 b q).trans ho⟩
      · have e : y ≠ x := fun e => by subst e; rw [hkx] at hy; cases hy
        rw [hg' y e]; exact (hv y hy).other hs hc
      · by_cases e : y = x
        · subst e; rw [hg]; exact ⟨c, some v, h1, hn, v, rfl, r'⟩
        · obtain ⟨c', o', k1, k2, k3⟩ := st.cel y hy
          have ne : c' ≠ c := fun q => e (ok.inj y x c (q ▸ k1) h1)
          refine ⟨c', o', k1, k2.sameBut hs ne, ?_⟩
          rw [hg' y e]; exact k3.other hs hc
end
end Mine
end

section
set_option Elab.async false
set_option maxRecDepth 100000
open PySem PySem.Calls PyProof.Rows
namespace Mine
/-- what a comprehension does with an item that passes -/
def innerT (elt : Expr) (gens : List Comprehension) (scope : Scope) (pos : Pos) (depth : Nat) (acc : Value) (env : Env) : Sem PUnit :=
  match gens[depth]? with
  | some g' => do
    let x ← eval g'.iter env
    standAt g'.iter.pos
    let x ← foldedSetIterable g'.iter env x
    let _ ← runOwn (.compStart (.ListComp elt gens scope pos) depth (← holding [x] (pyIter x)) acc env) env
    pure ()
  | none => do let _ ← call (.builtin "list.append") [acc, ← eval elt env]
theorem compTurn_at {elt : Expr} {gens : List Comprehension} {scope : Scope} {pos : Pos} {depth : Nat} {it acc : Value} {env : Env} {x : Str} {px : Pos} {iter : Expr} {ifs : List Expr} (hg : gens[depth]? = some ⟨.Name x px, iter, ifs, 0⟩)
    (hg' : ∀ g', gens[depth + 1]? = some g' → g'.is_async = 0) :
    compTurn (.ListComp elt gens scope pos) depth it acc env = (do
      standAt iter.pos
      match ← pyNext it with
      | none => pure (.done .next)
      | some v =>
        assign (.Name x px) env v
        let ok ← forIn ifs true fun c r => if r = true then do let ok ← isTrue c env (eval c env); pure (ForInStep.yield ok) else pure (ForInStep.yield r)
        if ok then do
          innerT elt gens scope pos (depth + 1) acc env
          again (.compLoop (.ListComp elt gens scope pos) depth it acc env)
        else again (.compLoop (.ListComp elt gens scope pos) depth it acc env)) := by
  unfold compTurn
  simp only [hg]
  unfold innerT
  cases h : gens[depth + 1]? with
  | none => rfl
  | some g' =>
    have := hg' g' h
    obtain ⟨t, i, f, a⟩ := g'
    cases this
    simp only [bind_assoc, pure_bind]
    rfl

section
variable {prog : Program} {w : World} {A : Around} {E : Value → Shared → Prop} {s : Shared} {R : Result → Shared → Prop}
/-- the turns of one generator -/
theorem compLoop_at {elt : Expr} {gens : List Comprehension} {scope : Scope} {pos : Pos} {depth : Nat} {it acc : Value} {env : Env} {x : Str} {px : Pos} {iter : Expr} {ifs : List Expr} (hg : gens[depth]? = some ⟨.Name x px, iter, ifs, 0⟩)
    (hg' : ∀ g', gens[depth + 1]? = some g' → g'.is_async = 0) (I : Nat → Shared → Prop)
    (turn : ∀ n s, I n s → wpAny (model prog w) A (pyNext it) (fun r s₁ => match r with
      | none => R (.ok .next) s₁
      | some v => wpAny (model prog w) A (assign (.Name x px) env v) (fun _ s₂ =>
          wpAny (model prog w) A (forIn ifs true fun c r => if r = true then do let ok ← isTrue c env (eval c env); pure (ForInStep.yield ok) else pure (ForInStep.yield r)) (fun ok s₃ =>
            if ok = true then wpAny (model prog w) A (innerT elt gens scope pos (depth + 1) acc env) (fun _ s₅ => ∃ m, m < n ∧ I m s₅) (fun _ _ => False) s₃
            else ∃ m, m < n ∧ I m s₃) (fun _ _ => False) s₂) (fun _ _ => False) s₁) (fun _ _ => False) s)
    (n : Nat) (h : I n s) :
    codeAny (model prog w) A (.compLoop (.ListComp elt gens scope pos) depth it acc env) R s := by
  refine codeAny_loop rfl I (fun n s hI => ?_) n h
  show wpAny _ A ((compTurn (.ListComp elt gens scope pos) depth it acc env).onRaise (fun x => do noteFrame x env; theTreesLotGoes x)) _ _ s
  refine wpAny_noted ?_
  rw [compTurn_at hg hg']
  refine wpAny_bind (wpAny_standAt (wpAny_bind (wpAny_mono (turn n s hI) (fun r s₁ h₁ => ?_) fun _ _ h' => h'.elim)))
  cases r with
  | none => exact wpAny_pure h₁
  | some v =>
    refine wpAny_bind (wpAny_mono h₁ (fun _ s₂ h₂ => wpAny_bind (wpAny_mono h₂ (fun ok s₃ h₃ => ?_) fun _ _ h' => h'.elim)) fun _ _ h' => h'.elim)
    cases ok with
    | false => exact wpAny_pure ⟨rfl, h₃⟩
    | true => exact wpAny_bind (wpAny_mono h₃ (fun _ s₄ h₄ => wpAny_pure ⟨rfl, h₄⟩) fun _ _ h' => h'.elim)

theorem compStart_at {elt : Expr} {gens : List Comprehension} {scope : Scope} {pos : Pos} {depth : Nat} {it acc : Value} {env : Env} {g : Comprehension} (hg : gens[depth]? = some g) (ha : g.is_async = 0)
    (h : codeAny (model prog w) A (.compLoop (.ListComp elt gens scope pos) depth it acc env) R s)
    (hs : ∀ Q : Value → Shared → Prop, Q it s → wpAny (model prog w) A (pyIter it) Q (fun _ _ => False) s) :
    codeAny (model prog w) A (.compStart (.ListComp elt gens scope pos) depth it acc env) R s := by
  refine codeAny_of_tree ?_
  show wpAny _ _ ((compStart (.ListComp elt gens scope pos) depth it acc env).onRaise (fun x => do noteFrame x env; standAt theWindowsPlace)) _ _ s
  refine wpAny_notedAt ?_
  unfold compStart
  have hc : clausesOf (.ListComp elt gens scope pos) = gens := rfl
  rw [hc, hg]
  have e : (Option.elim (some g) false fun x => x.is_async != 0) = false := by show (g.is_async != 0) = false; rw [ha]; rfl
  rw [e]
  simp only [Bool.false_eq_true, if_false]
  show wpAny _ _ (ask >>= _) _ _ s
  refine wpAny_bind (wpAny_askSetting (wpAny_ite ?_))
  split
  · first
      | exact wpAny_bind (wpAny_pure (wpAny_pure (And.intro rfl h)))
      | exact wpAny_pure (And.intro rfl h)
  · refine wpAny_bind (wpAny_rule ?_)
    refine wpAny_bind (wpAny_standAt ?_)
    refine wpAny_bind (wpAny_mono (hs (fun it' s' => it' = it ∧ s' = s) ⟨rfl, rfl⟩) (fun it' s' h' => ?_) fun _ _ x => x.elim)
    obtain ⟨rfl, rfl⟩ := h'
    exact wpAny_pure (And.intro rfl h)
end
end Mine
end

section
set_option Elab.async false
set_option maxRecDepth 100000
open PySem PySem.Calls PyProof.Rows
namespace Mine

theorem Ro.get_cons {ρ : Ro} {x y : Str} {a : AV} : Ro.get ((x, a) :: ρ) y = if x = y then a else ρ.get y := rfl

/-- a table of functions -/
def PhiOk (prog : Program) (w : World) (h₀ : Heap) (Φ : Str → List D → Option D) (k : Nat) : Prop := ∀ f, (∃ ds d, Φ f ds = some d) → ∃ a o fd, GlobOk h₀ f (.ref a) ∧ h₀.get? a = some o ∧ o.data = .func fd ∧
  ∀ (ds : List D) (d : D), Φ f ds = some d → ∀ (A : Around) (s : Shared) (X : Addr → Prop) (vs : List Value) (E : Value → Shared → Prop), Ext h₀ s.heap → (∀ a, X a → ∃ o, s.heap.get? a = some o) → (∀ a, X a → h₀.get? a = none) → RepA s.heap X vs ds → Room k A → wpAny (model prog w) A (call (.ref a) vs) (EvP s fun h v => Rep h X v d) E s

/-- the builtins that are used -/
def btab : List (String × Value) := [("len", .builtin "len"), ("sum", .builtin "sum"), ("type", .type "type"), ("list", .type "list"), ("max", .builtin "max"), ("min", .builtin "min"), ("isinstance", .builtin "isinstance"), ("issubclass", .builtin "issubclass"), ("tuple", .type "tuple"), ("map", .type "map"), ("range", .type "range"), ("enumerate", .type "enumerate"), ("sorted", .builtin "sorted"), ("str", .type "str"), ("bytes", .type "bytes")]
def Glb (h₀ : Heap) : Prop := ∀ p ∈ btab, GlobOk h₀ (S p.1) p.2

/-- all but two places are as they were -/
def Mov (D C : Addr) (h h' : Heap) : Prop := ∀ b o, b ≠ D → b ≠ C → h.get? b = some o → h'.get? b = some o

/-- the state of a comprehension -/
structure CI (h₀ : Heap) (env : Env) (X : Addr → Prop) (adr : Str → Addr) (ρ : Ro) (D : Addr) (h : Heap) (ws : List Value) (outs : List Mine.D) : Prop where
  st : St h₀ env X adr ρ h
  at' : ∃ n, h.get? D = some (lobj ws n)
  rep : RepA h X ws outs
  inX : X D
  ne : ∀ x ds, vk (env.kindOf x) = true → ρ.get x = .own ds → adr x ≠ D

section
variable (prog : Program) (w : World) (h₀ : Heap) (Φ : Str → List D → Option D) (k : Nat)
def EvS (n : Nat) : Prop := ∀ (e : Expr) (ρ : Ro) (d : D) (m : Nat) (env : Env) (X : Addr → Prop) (adr : Str → Addr) (A : Around) (s : Shared) (E : Value → Shared → Prop), ev Φ n e ρ = some d → okE m env.scope e = true → EnvOk h₀ env → St h₀ env X adr ρ s.heap → Room (k + 1) A →
  wpAny (model prog w) A (eval e env) (EvP s fun h v => Rep h X v d) E s
def EvBS (n : Nat) : Prop := ∀ (e : Expr) (ρ : Ro) (d : D) (m : Nat) (env : Env) (X : Addr → Prop) (adr : Str → Addr) (A : Around) (s : Shared) (E : Value → Shared → Prop), evB Φ n e ρ = some d → okE m env.scope e = true → EnvOk h₀ env → St h₀ env X adr ρ s.heap → Room (k + 1) A →
  wpAny (model prog w) A (eval e env) (EvP s fun h v => RepB h X v d) E s
def TstS (n : Nat) : Prop := ∀ (e : Expr) (ρ : Ro) (b : Bool) (m : Nat) (env : Env) (X : Addr → Prop) (adr : Str → Addr) (A : Around) (s : Shared) (E : Value → Shared → Prop), tst Φ n e ρ = some b → okE m env.scope e = true → EnvOk h₀ env → St h₀ env X adr ρ s.heap → Room (k + 1) A →
  wpAny (model prog w) A (isTrue e env (eval e env)) (BoP s fun c => c = b) E s
/-- the lists that a name owns -/
def ownZ (env : Env) (adr : Str → Addr) (e : Expr) (ρ : Ro) (b : Addr) : Prop := ownName e ρ = true ∧ ∃ x ds, vk (env.kindOf x) = true ∧ ρ.get x = .own ds ∧ adr x = b
def SrcS (n : Nat) : Prop := ∀ (e : Expr) (ρ : Ro) (ds : List D) (m : Nat) (env : Env) (X : Addr → Prop) (adr : Str → Addr) (A : Around) (s : Shared) (E : Value → Shared → Prop), src Φ n e ρ = some ds → okE m env.scope e = true → EnvOk h₀ env → St h₀ env X adr ρ s.heap → Room (k + 1) A →
  wpAny (model prog w) A (eval e env) (fun x s₁ => wpAny (model prog w) A (pyIter x) (SrcP prog w s X (ownZ env adr e ρ) ds) E s₁) E s
def okGen (m : Nat) (sc : Scope) (g : Comprehension) : Bool := okE m sc g.iter && (g.ifs.all fun v => okE m sc v) && okTarget sc g
def CompS (n : Nat) : Prop := ∀ (elt : Expr) (gens : List Comprehension) (scope : Scope) (pos : Pos) (depth : Nat) (ρ : Ro) (ds : List D) (m : Nat) (env : Env) (X : Addr → Prop) (adr : Str → Addr) (A : Around) (s : Shared) (Dc : Addr) (ws : List Value) (outs : List D),
  comp Φ n elt (gens.drop depth) ρ = some ds → okE m env.scope elt = true → ((gens.drop depth).all fun g => okGen m env.scope g) = true → EnvOk h₀ env → CI h₀ env X adr ρ Dc s.heap ws outs → outs.length + ds.length ≤ lim → Room (k + 1) A →
  wpAny (model prog w) A (innerT elt gens scope pos depth (.ref Dc) env) (fun _ s' => ∃ h' tk us, s' = { s with heap := h', toks := tk } ∧ Mov Dc env.locals s.heap h' ∧ CI h₀ env X adr ρ Dc h' (ws ++ us) (outs ++ ds)) (fun _ _ => False) s
end

theorem src_plain {Φ : Str → List D → Option D} {n : Nat} {e : Expr} {ρ : Ro} {ds : List D} (h : src Φ n e ρ = some ds) : (∀ es k p, e ≠ .Set es k p) := by
  intro es k p he
  subst he
  cases n with
  | zero => cases h
  | succ n =>
    cases n with
    | zero => cases h
    | succ n => cases n <;> cases h

section
variable {h₀ h h' : Heap} {env : Env} {X : Addr → Prop} {adr : Str → Addr} {ρ : Ro}
/-- places that an iterator writes -/
def WrOff (h₀ : Heap) (env : Env) (X : Addr → Prop) (wr : List Addr) : Prop := ∀ b ∈ wr, h₀.get? b = none ∧ ¬ X b ∧ b ≠ env.locals ∧ ∀ y, env.kindOf y = some .cell → env.cells.lookup y ≠ some b

theorem St.offFresh {wr : List Addr} (st : St h₀ env X adr ρ h) (hf : ∀ b ∈ wr, h.get? b = none) : WrOff h₀ env X wr := by
  intro b hb
  have hn := hf b hb
  refine ⟨?_, fun q => ?_, fun q => ?_, fun y hy q => ?_⟩
  · cases e : h₀.get? b with
    | none => rfl
    | some o => rw [st.base _ _ e] at hn; cases hn
  · obtain ⟨o, ho⟩ := st.dom b q; rw [ho] at hn; cases hn
  · obtain ⟨m, ⟨o, _, _, ho, _⟩, _⟩ := st.ns; rw [← q, hn] at ho; cases ho
  · obtain ⟨c, o, h1, ⟨oc, h2, _⟩, _⟩ := st.cel y hy
    rw [q] at h1; cases h1
    rw [hn] at h2; cases h2

theorem St.iter {wr : List Addr} (st : St h₀ env X adr ρ h) (off : WrOff h₀ env X wr) (ns : ∀ b ∈ wr, ∀ o vs n, h.get? b = some o → o.data = .seq vs n → False) (hk : ∀ b o, b ∉ wr → h.get? b = some o → h'.get? b = some o) : St h₀ env X adr ρ h' := by
  have keep : Keep X h h' := fun b o _ ⟨vs, n, e⟩ ho => hk b o (fun q => ns b q o vs n ho e) ho
  have vmove : ∀ {x a o}, ValOf h X adr x a o → ValOf h' X adr x a o := fun {x a o} v => v.move keep (fun _ p _ => p) fun ds e => by
    rw [e] at v
    exact ⟨v.2.1, fun o ho => hk _ o (fun q => (off _ q).2.1 v.2.1) ho⟩
  refine ⟨fun b o e => hk b o (fun q => by rw [(off b q).1] at e; cases e) (st.base b o e), fun b hb => ?_, st.out, ?_, fun x hx => ?_⟩
  · obtain ⟨o, ho⟩ := st.dom b hb; exact ⟨o, hk b o (fun q => (off b q).2.1 hb) ho⟩
  · obtain ⟨m, hm, hv⟩ := st.ns
    exact ⟨m, hm.at' fun o e => hk _ o (fun q => (off _ q).2.2.1 rfl) e, fun x hx => vmove (hv x hx)⟩
  · obtain ⟨c, o, h1, ⟨oc, h2, h2'⟩, h3⟩ := st.cel x hx
    exact ⟨c, o, h1, ⟨oc, hk _ _ (fun q => (off c q).2.2.2 x hx h1) h2, h2'⟩, vmove h3⟩
end

section
variable {h₀ h h' : Heap} {env : Env} {X : Addr → Prop} {adr : Str → Addr} {ρ ρ' : Ro} {Dc : Addr} {ws : List Value} {outs : List D}
theorem CI.iter {wr : List Addr} (ci : CI h₀ env X adr ρ Dc h ws outs) (off : WrOff h₀ env X wr) (ns : ∀ b ∈ wr, ∀ o vs n, h.get? b = some o → o.data = .seq vs n → False) (hk : ∀ b o, b ∉ wr → h.get? b = some o → h'.get? b = some o) : CI h₀ env X adr ρ Dc h' ws outs := by
  obtain ⟨n, ho⟩ := ci.at'
  exact ⟨ci.st.iter off ns hk, ⟨n, hk _ _ (fun q => (off _ q).2.1 ci.inX) ho⟩, ci.rep.move (fun b o _ ⟨vs, n, e⟩ ho => hk b o (fun q => ns b q o vs n ho e) ho) fun _ p _ => p, ci.inX, ci.ne⟩
theorem CI.ext (ci : CI h₀ env X adr ρ Dc h ws outs) (e : Ext h h') : CI h₀ env X adr ρ Dc h' ws outs :=
  ⟨ci.st.ext e, let ⟨n, ho⟩ := ci.at'; ⟨n, e _ _ ho⟩, ci.rep.ext e, ci.inX, ci.ne⟩
theorem CI.neL (ci : CI h₀ env X adr ρ Dc h ws outs) : Dc ≠ env.locals := fun q => by
  obtain ⟨m, hm, _⟩ := ci.st.ns
  obtain ⟨n, ho⟩ := ci.at'
  exact seq_not_dict (q ▸ ho) rfl hm
theorem CI.stored {x : Str} (ci : CI h₀ env X adr ρ Dc h ws outs) (hkx : env.kindOf x = some .local) (st : St h₀ env X adr ρ' h') (s : Stored env x h h') (hn : ∀ y, (ρ'.get y = ρ.get y) ∨ ∃ d, ρ'.get y = .frz d) : CI h₀ env X adr ρ' Dc h' ws outs := by
  obtain ⟨c, _, e, hs⟩ := s
  have := e hkx
  subst this
  obtain ⟨m, hm, _⟩ := ci.st.ns
  obtain ⟨n, ho⟩ := ci.at'
  refine ⟨st, ⟨n, (hs.2 _ ci.neL).trans ho⟩, ci.rep.move (same_keep hs (fun o vs n ho hd => seq_not_dict ho hd hm) X) fun _ p _ => p, ci.inX, fun y ds hv e => ?_⟩
  rcases hn y with q | ⟨d, q⟩
  · exact ci.ne y ds hv (q ▸ e)
  · rw [q] at e; cases e
theorem CI.forget (ci : CI h₀ env X adr ρ' Dc h ws outs) (hr : ∀ x, ρ.get x = .unset ∨ ρ.get x = ρ'.get x) : CI h₀ env X adr ρ Dc h ws outs :=
  ⟨ci.st.forget hr, ci.at', ci.rep, ci.inX, fun x ds hv e => (hr x).elim (fun q => by rw [q] at e; cases e) fun q => ci.ne x ds hv (q ▸ e)⟩
end
theorem AV.none_iff {a : AV} (h : a.none = true) : a = .unset := by cases a <;> first | rfl | cases h

section
variable {prog : Program} {w : World} {h₀ : Heap} {Φ : Str → List D → Option D} {k : Nat} {A : Around}

theorem tests_sound {n m : Nat} {ifs : List Expr} {ρ : Ro} {b : Bool} {env : Env} {X : Addr → Prop} {adr : Str → Addr} {s : Shared} {E : Value → Shared → Prop} (hT : TstS prog w h₀ Φ k n) (h : oneTest (fun c => tst Φ n c ρ) ifs = some b)
    (hok : (ifs.all fun v => okE m env.scope v) = true) (ok : EnvOk h₀ env) (st : St h₀ env X adr ρ s.heap) (R : Room (k + 1) A) :
    wpAny (model prog w) A (forIn ifs true fun c r => if r = true then do let ok ← isTrue c env (eval c env); pure (ForInStep.yield ok) else pure (ForInStep.yield r)) (BoP s fun c => c = b) E s := by
  rcases ifs with _ | ⟨c, _ | ⟨c', r⟩⟩
  · cases h; exact wpAny_tests_nil ⟨s.heap, s.toks, rfl, Ext.rfl, rfl⟩
  · exact wpAny_tests_one (hT c ρ b m env X adr A s E h (by simpa using hok) ok st R)
  · cases h

theorem append_sound {env : Env} {X : Addr → Prop} {adr : Str → Addr} {ρ : Ro} {Dc : Addr} {s : Shared} {ws : List Value} {outs : List D} {v : Value} {d : D} {E : Value → Shared → Prop} (ci : CI h₀ env X adr ρ Dc s.heap ws outs) (r : Rep s.heap X v d) (hl : outs.length ≤ lim) :
    wpAny (model prog w) A (call (.builtin "list.append") [.ref Dc, v]) (fun _ s' => ∃ h' tk, s' = { s with heap := h', toks := tk } ∧ Heap.SameBut Dc s.heap h' ∧ CI h₀ env X adr ρ Dc h' (ws ++ [v]) (outs ++ [d])) E s := by
  obtain ⟨n, ho⟩ := ci.at'
  have hw := ci.rep.length
  refine wpAny_list_append_plain (items := ws.toArray) ⟨n, ho⟩ (fun h' hp hs => ?_) (by rw [List.size_toArray, hw]; exact lim_le hl)
  obtain ⟨n', hp⟩ := hp
  have keep : Keep X s.heap h' := fun b o hb _ e => (hs.2 b (fun q => hb (q ▸ ci.inX))).trans e
  have hp' : h'.get? Dc = some (lobj (ws ++ [v]) n') := by rw [hp]; simp
  refine ⟨h', s.toks, rfl, hs, ci.st.moveAt (fun b o q e => (hs.2 b q).trans e) ci.inX ⟨ws, n, ho⟩ ⟨_, hp'⟩ ci.ne, ⟨n', hp'⟩, (ci.rep.move keep fun _ p _ => p).append (.one (r.move keep fun _ p _ => p)), ci.inX, ci.ne⟩

/-- the turns of a generator -/
theorem loop_sound {n m : Nat} (hT : TstS prog w h₀ Φ k n) (hC : CompS prog w h₀ Φ k n) {elt : Expr} {gens : List Comprehension} {scope : Scope} {pos : Pos} {depth : Nat} {x : Str} {px : Pos} {iter : Expr} {ifs : List Expr} {rest : List Comprehension} {ρ : Ro} {items ds : List D}
    {env : Env} {X : Addr → Prop} {adr : Str → Addr} {s : Shared} {Dc I : Addr} {fp wr : List Addr} {P : Nat → Value → Prop} {Sx : Nat → Heap → Prop} {ws : List Value} {outs : List D}
    (hg : gens.drop depth = ⟨.Name x px, iter, ifs, 0⟩ :: rest) (hx : (ρ.get x).none = true)
    (ht : turns (fun ρ' => oneTest (fun c => tst Φ n c ρ') ifs) (fun ρ' => comp Φ n elt rest ρ') x ρ items = some ds)
    (hok : okE m env.scope elt = true) (hok2 : (rest.all fun g => okGen m env.scope g) = true) (hokI : (ifs.all fun v => okE m env.scope v) = true) (hkx : env.kindOf x = some .local) (ok : EnvOk h₀ env) (R : Room (k + 1) A)
    (ha : ∀ g ∈ rest, g.is_async = 0)
    (ci : CI h₀ env X adr ρ Dc s.heap ws outs) (hl : outs.length + ds.length ≤ lim)
    (W : Walks prog w A I fp wr items.length P Sx) (st0 : Sx 0 s.heap) (ns : ∀ i h, Sx i h → ∀ b ∈ wr, ∀ o vs n, h.get? b = some o → o.data = .seq vs n → False) (off : WrOff h₀ env X wr) (hD : Dc ∉ fp) (hCf : env.locals ∉ fp)
    (hP : ∀ i v, P i v → ∃ d, items[i]? = some d ∧ Rep s.heap X v d) :
    codeAny (model prog w) A (.compLoop (.ListComp elt gens scope pos) depth (.ref I) (.ref Dc) env) (fun r s' => r = .ok .next ∧ ∃ h' tk us, s' = { s with heap := h', toks := tk } ∧ (∀ b o, b ≠ Dc → b ≠ env.locals → b ∉ wr → s.heap.get? b = some o → h'.get? b = some o) ∧ CI h₀ env X adr ρ Dc h' (ws ++ us) (outs ++ ds)) s := by
  have hgd : gens[depth]? = some ⟨.Name x px, iter, ifs, 0⟩ := by
    have := List.getElem?_drop (xs := gens) (i := depth) (j := 0)
    rw [hg] at this; simpa using this.symm
  have hgr : gens.drop (depth + 1) = rest := by
    rw [← List.drop_drop, hg]; rfl
  have hga : ∀ g', gens[depth + 1]? = some g' → g'.is_async = 0 := fun g' h => ha g' (by
    have := List.getElem?_drop (xs := gens) (i := depth + 1) (j := 0)
    rw [hgr] at this
    exact List.mem_of_getElem? (this.trans (by simpa using h)))
  refine compLoop_at hgd hga (fun r s' => ∃ i h' tk us done rem, r = items.length - i ∧ i ≤ items.length ∧ s' = { s with heap := h', toks := tk } ∧ Sx i h' ∧ (∀ b o, b ≠ Dc → b ≠ env.locals → b ∉ wr → s.heap.get? b = some o → h'.get? b = some o) ∧
    CI h₀ env X adr ρ Dc h' (ws ++ us) (outs ++ done) ∧ turns (fun ρ' => oneTest (fun c => tst Φ n c ρ') ifs) (fun ρ' => comp Φ n elt rest ρ') x ρ (items.drop i) = some rem ∧ ds = done ++ rem)
    ?turn items.length ⟨0, s.heap, s.toks, [], [], ds, rfl, Nat.zero_le _, rfl, st0, fun b o _ _ _ e => e, by simpa using ci, by simpa using ht, by simp⟩
  rintro r s' ⟨i, h', tk, us, done, rem, rfl, hi, rfl, sx, hk, ci', htr, hds⟩
  have hsub := W.sub
  have dwr : Dc ∉ wr := fun q => hD (hsub _ q)
  have cwr : env.locals ∉ wr := fun q => hCf (hsub _ q)
  obtain ⟨m₀, hm₀, _⟩ := ci.st.ns
  by_cases hlt : i < items.length
  · refine W.item i _ _ _ hlt sx fun v h1 tk1 hPv sx1 hk1 => ?_
    dsimp only at hk1 sx1
    obtain ⟨d, hd, rd⟩ := hP i v hPv
    have hdrop : items.drop i = d :: items.drop (i + 1) := by
      rw [List.drop_eq_getElem_cons hlt]
      have : items[i] = d := by simpa [hlt] using hd
      rw [this]
    rw [hdrop] at htr
    have kb : ∀ b o, b ≠ Dc → b ≠ env.locals → b ∉ wr → s.heap.get? b = some o → h1.get? b = some o := fun b o q1 q2 q3 e => hk1 b o q3 (hk b o q1 q2 q3 e)
    have rv : Rep h1 X v d := rd.move (fun b o hb ⟨vs, n, e⟩ ho => kb b o (fun q => hb (q ▸ ci.inX)) (fun q => seq_not_dict (q ▸ ho) e hm₀) (fun q => ns 0 _ st0 b q o vs n ho e) ho) fun _ p _ => p
    have ci1 := ci'.iter off (ns _ _ sx) hk1
    have hρx := AV.none_iff hx
    refine wpAny_assign_Name (ci1.st.store (s := { s with heap := h1, toks := tk1 }) (d := d) (ρ' := (x, .frz d) :: ρ) ok (by rw [hkx]; rfl) (by simp [Ro.get_cons]) (fun y hy => by simp [Ro.get_cons, Ne.symm hy]) rv fun h2 tk2 st2 rv2 sto => ?_)
    have ci2 : CI h₀ env X adr ((x, .frz d) :: ρ) Dc h2 (ws ++ us) (outs ++ done) := ci1.stored hkx st2 sto fun y => by
      by_cases q : x = y
      · exact .inr ⟨d, by simp [Ro.get_cons, q]⟩
      · exact .inl (by simp [Ro.get_cons, q])
    obtain ⟨c, _, ec, hs⟩ := sto
    have := ec hkx
    subst this
    have ka : ∀ b o, b ≠ env.locals → h1.get? b = some o → h2.get? b = some o := fun b o q e => (hs.2 b q).trans e
    simp only [turns] at htr
    cases htest : oneTest (fun c => tst Φ n c ((x, .frz d) :: ρ)) ifs with
    | none => rw [htest] at htr; cases htr
    | some bt =>
      rw [htest] at htr
      refine wpAny_mono (tests_sound hT htest hokI ok ci2.st R) (fun b s3 h3 => ?_) fun _ _ f => f
      obtain ⟨h3, tk3, rfl, e3, rfl⟩ := h3
      have ci3 := ci2.ext e3
      have frame : ∀ {h5 : Heap}, Mov Dc env.locals h3 h5 → Sx (i + 1) h5 := fun {h5} mv => W.frame _ _ _ sx1 fun b hb o e => mv b o (fun q => hD (q ▸ hb)) (fun q => hCf (q ▸ hb)) (e3 _ _ (ka b o (fun q => hCf (q ▸ hb)) e))
      have back : ∀ {h5 : Heap}, Mov Dc env.locals h3 h5 → ∀ b o, b ≠ Dc → b ≠ env.locals → b ∉ wr → s.heap.get? b = some o → h5.get? b = some o := fun {h5} mv b o q1 q2 q3 e => mv b o q1 q2 (e3 _ _ (ka b o q2 (kb b o q1 q2 q3 e)))
      have frg : ∀ y, ρ.get y = .unset ∨ ρ.get y = Ro.get ((x, .frz d) :: ρ) y := fun y => by
        by_cases q : x = y
        · exact .inl (q ▸ hρx)
        · exact .inr (by simp [Ro.get_cons, q])
      cases b with
      | false =>
        simp only [Bool.false_eq_true, if_false]
        exact ⟨items.length - (i + 1), by omega, i + 1, h3, tk3, us, done, rem, rfl, hlt, rfl, frame fun b o _ _ e => e, back fun b o _ _ e => e, ci3.forget frg, htr, hds⟩
      | true =>
        simp only [if_true]
        dsimp only at htr
        cases hcomp : comp Φ n elt rest ((x, .frz d) :: ρ) with
        | none => rw [hcomp] at htr; cases htr
        | some out =>
          rw [hcomp] at htr
          obtain ⟨rem', hr', rfl⟩ := Option.map_eq_some_iff.mp htr
          have hlen : (outs ++ done).length + out.length ≤ lim := by
            rw [hds] at hl
            simp only [List.length_append] at hl ⊢
            omega
          refine wpAny_mono (hC elt gens scope pos (depth + 1) ((x, .frz d) :: ρ) out m env X adr A _ Dc (ws ++ us) (outs ++ done) (by rw [hgr]; exact hcomp) hok (by rw [hgr]; exact hok2) ok ci3 hlen R) (fun _ s5 h5 => ?_) fun _ _ f => f
          obtain ⟨h5, tk5, us5, rfl, mv, ci5⟩ := h5
          exact ⟨items.length - (i + 1), by omega, i + 1, h5, tk5, us ++ us5, done ++ out, rem', rfl, hlt, rfl, frame mv, back mv, by have := ci5.forget frg; rwa [List.append_assoc, List.append_assoc] at this, hr', by rw [hds, List.append_assoc]⟩
  · have : i = items.length := by omega
    subst this
    rw [List.drop_length] at htr
    simp only [turns] at htr
    cases htr
    refine W.done _ _ _ sx fun h1 tk1 hk1 => ?_
    refine ⟨rfl, h1, tk1, us, rfl, fun b o q1 q2 q3 e => hk1 b o q3 (hk b o q1 q2 q3 e), ?_⟩
    rw [hds, List.append_nil]
    exact ci'.iter off (ns _ _ sx) hk1
end
end Mine
end

section
set_option Elab.async false
set_option maxRecDepth 100000
open PySem PySem.Calls PyProof.Rows
namespace Mine
section
variable {prog : Program} {w : World} {h₀ : Heap} {Φ : Str → List D → Option D} {k : Nat}

theorem target_ok {sc : Scope} {g : Comprehension} (h : okTarget sc g = true) : g.is_async = 0 ∧ ∃ x p, g.target = .Name x p ∧ sc.names.lookup x = some .local := by
  unfold okTarget at h
  rw [Bool.and_eq_true] at h
  obtain ⟨h1, h2⟩ := h
  refine ⟨by simpa using h1, ?_⟩
  split at h2
  · rename_i x p e; exact ⟨x, p, e, by simpa using h2⟩
  · cases h2

theorem compS_succ {n : Nat} (hE : EvS prog w h₀ Φ k n) (hT : TstS prog w h₀ Φ k n) (hS : SrcS prog w h₀ Φ k n) (hC : CompS prog w h₀ Φ k n) : CompS prog w h₀ Φ k (n + 1) := by
  intro elt gens scope pos depth ρ ds m env X adr A s Dc ws outs h hok hok2 ok ci hl R
  cases hg : gens.drop depth with
  | nil =>
    have hgd : gens[depth]? = none := by
      have := List.drop_eq_nil_iff.mp hg
      simp; omega
    unfold innerT
    rw [hgd]
    rw [hg] at h
    simp only [comp] at h
    obtain ⟨d, hd, rfl⟩ := Option.map_eq_some_iff.mp h
    refine wpAny_bind (wpAny_mono (hE elt ρ d m env X adr A s _ hd hok ok ci.st R) (fun v s1 h1 => ?_) fun _ _ f => f)
    obtain ⟨h1, tk1, rfl, e1, r1⟩ := h1
    refine wpAny_bind (wpAny_mono (append_sound (ci.ext e1) r1 (by simp at hl; omega)) (fun _ s2 h2 => ?_) fun _ _ f => f)
    obtain ⟨h2, tk2, rfl, hs, ci2⟩ := h2
    exact wpAny_pure ⟨h2, tk2, [v], rfl, fun b o q _ e => (hs.2 b q).trans (e1 _ _ e), ci2⟩
  | cons g rest =>
    rw [hg] at h hok2
    rw [List.all_cons, Bool.and_eq_true] at hok2
    obtain ⟨hgo, hro⟩ := hok2
    unfold okGen at hgo
    rw [Bool.and_eq_true, Bool.and_eq_true] at hgo
    obtain ⟨⟨hgi, hgf⟩, hgt⟩ := hgo
    obtain ⟨ha, x, px, ht, hkx⟩ := target_ok hgt
    obtain ⟨tg, iter, ifs, asy⟩ := g
    dsimp only at ha ht hgi hgf
    subst ha; subst ht
    have hgd : gens[depth]? = some ⟨.Name x px, iter, ifs, 0⟩ := by
      have := List.getElem?_drop (xs := gens) (i := depth) (j := 0)
      rw [hg] at this; simpa using this.symm
    have hra : ∀ g ∈ rest, g.is_async = 0 := fun g hg => by
      have := List.all_eq_true.mp hro g hg
      unfold okGen at this
      rw [Bool.and_eq_true] at this
      exact (target_ok this.2).1
    simp only [comp] at h
    split at h
    · cases h
    rename_i hx
    have hx' : (ρ.get x).none = true := by simpa using hx
    cases hsrc : src Φ n iter ρ with
    | none => rw [hsrc] at h; cases h
    | some items =>
      rw [hsrc] at h
      dsimp only at h
      unfold innerT
      rw [hgd]
      refine wpAny_bind (wpAny_mono (hS iter ρ items m env X adr A s _ hsrc hgi ok ci.st R) (fun xv s1 h1 => ?_) fun _ _ f => f)
      refine wpAny_bind (wpAny_standAt ?_)
      refine wpAny_bind (wpAny_of_eq (fold_plain (src_plain hsrc) xv) ?_)
      refine wpAny_bind (wpAny_holding (wpAny_mono h1 (fun it s2 h2 => ?_) fun _ _ f => f))
      obtain ⟨I, fp, wr, P, Sx, h2, tk2, rfl, rfl, W⟩ := h2
      refine wpAny_bind (wpAny_runOwn (h := none) ?_)
      rw [Around.mark_none]
      have W' := W.walks A R.handled
      have off := ci.st.offFresh W.fresh
      obtain ⟨n₀, hoD⟩ := ci.at'
      obtain ⟨m₀, hm₀, _⟩ := ci.st.ns
      have ci2 := ci.ext W.ext
      have hD : Dc ∉ fp := fun q => by
        rcases W.fps _ q with e | ⟨_, e | ⟨_, y, dy, hv, hy, hya⟩⟩
        · rw [hoD] at e; cases e
        · exact e ci.inX
        · exact ci.ne y dy hv hy hya
      have hCf : env.locals ∉ fp := fun q => by
        rcases W.fps _ q with e | ⟨⟨o, vs, nn, e1, e2⟩, _⟩
        · obtain ⟨o, _, _, ho, _⟩ := hm₀; rw [ho] at e; cases e
        · exact seq_not_dict e1 e2 hm₀
      have lp := loop_sound (prog := prog) (w := w) (A := A) (s := { s with heap := h2, toks := tk2 }) (m := m) hT hC (iter := iter) (scope := scope) (pos := pos) hg hx' h hok hro hgf hkx ok R hra ci2 hl W' W.start W.nonseq off hD hCf W.items
      refine codeAny_mono (compStart_at hgd rfl lp fun Q q => W'.self 0 _ _ _ W.start q) fun r s' hr => ?_
      obtain ⟨rfl, h', tk, us, rfl, hk, ci'⟩ := hr
      refine wpAny_pure ⟨h', tk, us, rfl, fun b o q1 q2 e => hk b o q1 q2 (fun q => by rw [W.fresh b q] at e; cases e) (W.ext _ _ e), ci'⟩
end
end Mine
end

section
set_option Elab.async false
set_option maxRecDepth 100000
open PySem PySem.Calls PyProof.Rows
namespace Mine

def closeL (env : Env) : List (Str × NameKind) → List (Str × Addr) → List (Str × Addr)
  | [], cs => cs
  | (n, k) :: r, cs => if (k == NameKind.free) = true then closeL env r ((n, (env.cells.lookup n).getD default) :: cs) else closeL env r cs
theorem closeL_eq {env : Env} : ∀ (names : List (Str × NameKind)) (cs : List (Str × Addr)), (∀ p ∈ names, p.2 = .free → ∃ c, env.cells.lookup p.1 = some c) →
    (forIn names cs fun (x : Str × NameKind) (r : List (Str × Addr)) => if (x.2 == NameKind.free) = true then do let a ← cellOf env x.1; pure (ForInStep.yield ((x.1, a) :: r)) else pure (ForInStep.yield r)) = (pure (closeL env names cs) : Sem _)
  | [], cs, _ => rfl
  | (n, k) :: r, cs, h => by
    have hr : ∀ p ∈ r, p.2 = .free → ∃ c, env.cells.lookup p.1 = some c := fun p hp => h p (.tail _ hp)
    rw [List.forIn_cons]
    by_cases hk : (k == NameKind.free) = true
    · obtain ⟨c, hc⟩ := h (n, k) (.head _) (by simpa using hk)
      have e : cellOf env n = pure c := by unfold cellOf; rw [hc]
      simp only [hk, if_true, e, pure_bind, closeL, hc, Option.getD_some]
      exact closeL_eq r _ hr
    · simp only [Bool.not_eq_true] at hk
      simp only [hk, Bool.false_eq_true, if_false, pure_bind, closeL]
      exact closeL_eq r _ hr
theorem closure_eq {env : Env} {scope : Scope} (h : ∀ p ∈ scope.names, p.2 = .free → ∃ c, env.cells.lookup p.1 = some c) : closureFor scope env = pure (closeL env scope.names []) := by
  have := closeL_eq scope.names [] h
  show (_ >>= fun cs => pure cs) = _
  rw [bind_pure]
  exact this
theorem closeL_mem {env : Env} : ∀ (names : List (Str × NameKind)) (cs : List (Str × Addr)), (∀ p ∈ names, p.2 = .free → ∃ c, env.cells.lookup p.1 = some c) → (∀ x c, cs.lookup x = some c → env.cells.lookup x = some c) →
    ∀ x c, (closeL env names cs).lookup x = some c → env.cells.lookup x = some c
  | [], cs, _, hc, x, c, h => hc x c h
  | (n, k) :: r, cs, h, hc, x, c, e => by
    have hr : ∀ p ∈ r, p.2 = .free → ∃ c, env.cells.lookup p.1 = some c := fun p hp => h p (.tail _ hp)
    by_cases hk : (k == NameKind.free) = true
    · rw [closeL, if_pos hk] at e
      refine closeL_mem r _ hr (fun y d hy => ?_) x c e
      obtain ⟨c', hc'⟩ := h (n, k) (.head _) (by simpa using hk)
      rw [List.lookup_cons] at hy
      split at hy
      · rename_i q
        have q : y = n := by simpa using q
        rw [hc', Option.getD_some] at hy
        cases hy
        rw [q]; exact hc'
      · exact hc y d hy
    · rw [closeL, if_neg hk] at e
      exact closeL_mem r _ hr hc x c e
theorem closeL_keep {env : Env} : ∀ (names : List (Str × NameKind)) (cs : List (Str × Addr)) (x : Str), cs.lookup x ≠ none → (closeL env names cs).lookup x ≠ none
  | [], cs, x, h => h
  | (n, k) :: r, cs, x, h => by
    by_cases hk : (k == NameKind.free) = true
    · rw [closeL, if_pos hk]
      refine closeL_keep r _ x ?_
      rw [List.lookup_cons]
      split
      · simp
      · exact h
    · rw [closeL, if_neg hk]; exact closeL_keep r _ x h
theorem closeL_has {env : Env} : ∀ (names : List (Str × NameKind)) (cs : List (Str × Addr)) (p : Str × NameKind), p ∈ names → p.2 = .free → (closeL env names cs).lookup p.1 ≠ none
  | (n, k) :: r, cs, p, hp, hf => by
    rcases List.mem_cons.mp hp with rfl | hp
    · have hk : (k == NameKind.free) = true := by simpa using hf
      rw [closeL, if_pos hk]
      refine closeL_keep r _ n ?_
      simp
    · by_cases hk : (k == NameKind.free) = true
      · rw [closeL, if_pos hk]; exact closeL_has r _ p hp hf
      · rw [closeL, if_neg hk]; exact closeL_has r _ p hp hf

theorem hide_app {ρ : Ro} : ∀ (l : List (Str × NameKind)) (x : Str), Ro.get ((l.map fun p => (p.1, AV.unset)) ++ ρ) x = if ∃ p ∈ l, p.1 = x then .unset else ρ.get x
  | [], x => by simp
  | (n, k) :: l, x => by
    rw [List.map_cons, List.cons_append, Ro.get_cons, hide_app l x]
    by_cases h : n = x
    · simp [h]
    · have : (∃ p ∈ (n, k) :: l, p.1 = x) ↔ ∃ p ∈ l, p.1 = x := by
        constructor
        · rintro ⟨p, hp, e⟩
          rcases List.mem_cons.mp hp with rfl | hp
          · exact absurd e h
          · exact ⟨p, hp, e⟩
        · rintro ⟨p, hp, e⟩; exact ⟨p, .tail _ hp, e⟩
      simp only [h, if_false, this]
theorem hide_get {sc : Scope} {ρ : Ro} (x : Str) : (hide sc ρ).get x = if ∃ p ∈ sc.names, p.2 = .local ∧ p.1 = x then .unset else ρ.get x := by
  unfold hide
  rw [hide_app]
  congr 1
  simp only [List.mem_filter, beq_iff_eq, eq_iff_iff]
  exact ⟨fun ⟨p, ⟨h1, h2⟩, h3⟩ => ⟨p, h1, h2, h3⟩, fun ⟨p, h1, h2, h3⟩ => ⟨p, ⟨h1, h2⟩, h3⟩⟩
theorem hide_or {sc : Scope} {ρ : Ro} (x : Str) : (hide sc ρ).get x = .unset ∨ (hide sc ρ).get x = ρ.get x := by
  rw [hide_get]; split
  · exact .inl rfl
  · exact .inr rfl

theorem lookup_mem {α : Type} {x : Str} {v : α} : ∀ {l : List (Str × α)}, l.lookup x = some v → (x, v) ∈ l
  | [], h => by cases h
  | (n, u) :: l, h => by
    rw [List.lookup_cons] at h
    split at h
    · rename_i q
      have q : x = n := by simpa using q
      cases h; subst q; exact .head _
    · exact .tail _ (lookup_mem h)
end Mine
end

section
set_option Elab.async false
set_option maxRecDepth 100000
open PySem PySem.Calls PyProof.Rows
namespace Mine

structure ScopeOk (sc inner : Scope) : Prop where
  kind : inner.kind = .function
  loc : ∀ p ∈ inner.names, p.2 = .local → inner.names.lookup p.1 = some .local
  free : ∀ p ∈ inner.names, p.2 = .free → sc.names.lookup p.1 = some .cell ∧ inner.names.lookup p.1 = some .free
  cell : ∀ p ∈ inner.names, p.2 ≠ .cell
theorem ScopeOk.of {sc inner : Scope} (h : okScope sc inner = true) : ScopeOk sc inner := by
  unfold okScope at h
  rw [Bool.and_eq_true] at h
  obtain ⟨h1, h2⟩ := h
  have h2 := List.all_eq_true.mp h2
  refine ⟨by simpa using h1, fun p hp e => ?_, fun p hp e => ?_, fun p hp e => ?_⟩
  · have := h2 p hp; rw [e] at this; simpa using this
  · have := h2 p hp; rw [e] at this; simpa using this
  · have := h2 p hp; rw [e] at this; cases this

theorem relab_local {sc inner : Scope} {x : Str} (h : (relab inner sc).names.lookup x = some .local) : (x, NameKind.local) ∈ inner.names := by
  have := lookup_mem h
  obtain ⟨p, hp, e⟩ := List.mem_map.mp this
  obtain ⟨n, k⟩ := p
  dsimp only at e
  split at e
  · cases e
  · cases e; exact hp
theorem relab_cell {sc inner : Scope} (ok : ScopeOk sc inner) {x : Str} (h : (relab inner sc).names.lookup x = some .cell) : (x, NameKind.free) ∈ inner.names := by
  have := lookup_mem h
  obtain ⟨p, hp, e⟩ := List.mem_map.mp this
  obtain ⟨n, k⟩ := p
  dsimp only at e
  split at e
  · rename_i q
    cases e
    rw [Bool.and_eq_true, Bool.and_eq_true] at q
    have : k = .free := by simpa using q.1.1
    subst this
    exact hp
  · cases e; exact absurd rfl (ok.cell _ hp)

theorem relab_loc {sc inner : Scope} {x : Str} (h : inner.names.lookup x = some .local) : (relab inner sc).names.lookup x = some .local := by
  have e : (relab inner sc) = relabel inner { scope := sc, locals := 0, globals := 0, cells := [] } := rfl
  rw [e]
  exact lookup_relabel_local h

section
variable {h₀ h : Heap} {env : Env} {X : Addr → Prop} {adr : Str → Addr} {ρ : Ro} {scope : Scope}
theorem closure_st (sok : ScopeOk env.scope scope) (st : St h₀ env X adr ρ h) : ∃ cl, closureFor scope env = pure cl ∧ (∀ x c, cl.lookup x = some c → env.cells.lookup x = some c) ∧ ∀ p ∈ scope.names, p.2 = .free → cl.lookup p.1 = env.cells.lookup p.1 := by
  have hc : ∀ p ∈ scope.names, p.2 = .free → ∃ c, env.cells.lookup p.1 = some c := fun p hp hf => by
    obtain ⟨c, o, h1, _⟩ := st.cel p.1 (sok.free p hp hf).1
    exact ⟨c, h1⟩
  refine ⟨_, closure_eq hc, fun x c e => closeL_mem _ _ hc (fun x c e => by cases e) x c e, fun p hp hf => ?_⟩
  have hn := closeL_has (env := env) scope.names [] p hp hf
  cases e : (closeL env scope.names []).lookup p.1 with
  | none => exact absurd e hn
  | some c => exact (closeL_mem _ _ hc (fun x c e => by cases e) p.1 c e).symm

theorem envOk_comp {cl : List (Str × Addr)} {C : Addr} (sok : ScopeOk env.scope scope) (ok : EnvOk h₀ env) (hcl : ∀ x c, cl.lookup x = some c → env.cells.lookup x = some c) (hC : h₀.get? C = none) : EnvOk h₀ (compEnvC scope cl C env) where
  kind := sok.kind
  glob := ok.glob
  blt := ok.blt
  inj := fun x y c h1 h2 => ok.inj x y c (hcl _ _ h1) (hcl _ _ h2)
  locF := hC
  celF := fun x c h1 => ok.celF x c (hcl _ _ h1)

theorem st_comp {cl : List (Str × Addr)} {C : Addr} {m : Str → Option Value} (sok : ScopeOk env.scope scope) (st : St h₀ env X adr ρ h) (hcl : ∀ p ∈ scope.names, p.2 = .free → cl.lookup p.1 = env.cells.lookup p.1) (hn : h.Ns C m) :
    St h₀ (compEnvC scope cl C env) X adr (hide scope ρ) h where
  base := st.base
  dom := st.dom
  out := st.out
  ns := ⟨m, hn, fun x hx => by
    have : (x, NameKind.local) ∈ scope.names := relab_local hx
    rw [hide_get, if_pos ⟨_, this, rfl, rfl⟩]
    trivial⟩
  cel := fun x hx => by
    have hm : (x, NameKind.free) ∈ scope.names := relab_cell sok hx
    obtain ⟨hk, hl⟩ := sok.free _ hm rfl
    obtain ⟨c, o, h1, h2, h3⟩ := st.cel x hk
    refine ⟨c, o, (hcl _ hm rfl).trans h1, h2, ?_⟩
    rw [hide_get, if_neg]
    · exact h3
    · rintro ⟨p, hp, e1, e2⟩
      have := sok.loc p hp e1
      rw [e2] at this
      rw [this] at hl; cases hl
end

section
variable {prog : Program} {w : World} {h₀ : Heap} {Φ : Str → List D → Option D} {k : Nat} {A : Around}
theorem comp_core {n m : Nat} (hT : TstS prog w h₀ Φ k n) (hS : SrcS prog w h₀ Φ k n) (hC : CompS prog w h₀ Φ k n) {elt : Expr} {g : Comprehension} {rest : List Comprehension} {scope : Scope} {pos : Pos} {ρ : Ro} {ds : List D} {env : Env} {X : Addr → Prop} {adr : Str → Addr} {s : Shared} {cl : List (Str × Addr)}
    {E : Value → Shared → Prop} {RR : Value → Addr → Result → Shared → Prop}
    (h : comp Φ (n + 1) elt (g :: rest) (hide scope ρ) = some ds) (sok : ScopeOk env.scope scope) (hgi : okE m env.scope g.iter = true) (hgf : (g.ifs.all fun v => okE m (relab scope env.scope) v) = true) (hgt : okTarget (relab scope env.scope) g = true)
    (hro : (rest.all fun g => okGen m (relab scope env.scope) g) = true) (hoe : okE m (relab scope env.scope) elt = true) (ok : EnvOk h₀ env) (st : St h₀ env X adr ρ s.heap) (R : Room (k + 1) A) (hl : ds.length ≤ lim)
    (hcl : (∀ x c, cl.lookup x = some c → env.cells.lookup x = some c) ∧ ∀ p ∈ scope.names, p.2 = .free → cl.lookup p.1 = env.cells.lookup p.1)
    (hRR : ∀ D C h' tk vs nn m', s.heap.get? D = none → s.heap.get? C = none → D ≠ C → Ext s.heap h' → h'.get? D = some (lobj vs nn) → h'.Ns C m' → RepA h' (fun b => X b ∨ b = D) vs ds → RR (.ref D) C (.ok .next) { s with heap := h', toks := tk }) :
    wpAny (model prog w) A (eval g.iter env) (fun x s₁ => wpAny (model prog w) A (pyIter x) (fun it s₂ => wpAny (model prog w) A (newList []) (fun acc s₃ =>
      wpAny (model prog w) A (newFunctionEnv scope env.globals cl [] env.qual none .none (some env)) (fun cenv s₄ =>
        codeAny (model prog w) A (.compStart (.ListComp elt (g :: rest) scope pos) 0 it acc { cenv with scope := relabel scope env }) (RR acc cenv.locals) s₄) E s₃) E s₂) E s₁) E s := by
  obtain ⟨ha, x, px, ht, hkx⟩ := target_ok hgt
  obtain ⟨tg, iter, ifs, asy⟩ := g
  dsimp only at ha ht hgi hgf
  subst ha; subst ht
  have hra : ∀ g ∈ rest, g.is_async = 0 := fun g hg => by
    have := List.all_eq_true.mp hro g hg
    unfold okGen at this
    rw [Bool.and_eq_true] at this
    exact (target_ok this.2).1
  simp only [comp] at h
  split at h
  · cases h
  rename_i hx
  have hx' : ((hide scope ρ).get x).none = true := by simpa using hx
  cases hsrc : src Φ n iter (hide scope ρ) with
  | none => rw [hsrc] at h; cases h
  | some items =>
  rw [hsrc] at h
  dsimp only at h
  have stH : St h₀ env X adr (hide scope ρ) s.heap := st.forget fun x => hide_or x
  refine wpAny_mono (hS iter _ items m env X adr A s _ hsrc hgi ok stH R) (fun xv s1 h1 => ?_) fun _ _ f => f
  refine wpAny_mono h1 (fun it s2 h2 => ?_) fun _ _ f => f
  obtain ⟨I, fp, wr, P, Sx, h2, tk2, rfl, rfl, W⟩ := h2
  refine wpAny_newObj_type (wpAny_newFunctionEnv sok.cell (by intro y hy; simp at hy) (fun h₁ hns₁ hsb₁ => ?_) sok.kind)
  dsimp only at hns₁ hsb₁ ⊢
  generalize hH2 : h2.push { cls := .type "list", dict := none, data := .seq ([] : List Value).toArray } = H2 at hns₁ hsb₁ ⊢
  have hCs : H2.objs.size = h2.objs.size + 1 := by rw [← hH2, Heap.size_push]
  have nn : ∀ b, h2.get? b = none → s.heap.get? b = none := fun b hb => by
    cases hx : s.heap.get? b with
    | none => rfl
    | some o => rw [W.ext _ _ hx] at hb; cases hb
  have hDn : h2.get? h2.objs.size = none := fresh_not (Nat.le_refl _)
  have hCn : h2.get? H2.objs.size = none := fresh_not (by rw [hCs]; exact Nat.le_succ _)
  have hDC : h2.objs.size ≠ H2.objs.size := by rw [hCs]; exact Nat.ne_of_lt (Nat.lt_succ_self _)
  have old : Ext h2 h₁ := fun b o e => hsb₁.extBut b o (fun q => by rw [q, hCn] at e; cases e) (Heap.get?_push_of_some _ (hH2 ▸ Heap.get?_push_of_some _ e))
  have hacc : h₁.get? h2.objs.size = some (lobj [] 0) := hsb₁.extBut _ _ hDC (Heap.get?_push_of_some _ (hH2 ▸ Heap.get?_push_size _ rfl))
  have hDf : h2.objs.size ∉ fp := fun q => Nat.lt_irrefl _ (W.lt _ q)
  have hCf : H2.objs.size ∉ fp := fun q => by have := W.lt _ q; rw [hCs] at this; exact Nat.lt_irrefl _ (Nat.lt_of_succ_lt this)
  have h0n : ∀ b, h2.get? b = none → h₀.get? b = none := fun b hb => by
    cases hx : h₀.get? b with
    | none => rfl
    | some o => rw [W.ext _ _ (st.base _ _ hx)] at hb; cases hb
  have st1 : St h₀ env (fun b => X b ∨ b = h2.objs.size) adr ρ h₁ := (st.ext W.ext).grow hDn old ⟨_, hacc⟩
  have stC := st_comp (cl := cl) (C := H2.objs.size) sok st1 hcl.2 hns₁
  have okC := envOk_comp (cl := cl) (C := H2.objs.size) sok ok hcl.1 (h0n _ hCn)
  have ci : CI h₀ (compEnvC scope cl H2.objs.size env) (fun b => X b ∨ b = h2.objs.size) adr (hide scope ρ) h2.objs.size h₁ [] [] := by
    refine ⟨stC, ⟨0, hacc⟩, .nil, .inr rfl, fun y ds hv e q => ?_⟩
    have hy : ρ.get y = .own ds := by
      rcases hide_or (sc := scope) (ρ := ρ) y with q | q
      · rw [q] at e; cases e
      · rw [← q]; exact e
    have hyc : (relab scope env.scope).names.lookup y = some .cell := by
      cases hkk : (relab scope env.scope).names.lookup y with
      | none => rw [show Env.kindOf (compEnvC scope cl H2.objs.size env) y = none from hkk] at hv; cases hv
      | some kk =>
        rw [show Env.kindOf (compEnvC scope cl H2.objs.size env) y = some kk from hkk] at hv
        cases kk <;> first | rfl | (cases hv; done) | skip
        have : (y, NameKind.local) ∈ scope.names := relab_local hkk
        rw [hide_get, if_pos ⟨_, this, rfl, rfl⟩] at e
        cases e
    obtain ⟨c, o, _, _, h3⟩ := st.cel y (sok.free _ (relab_cell sok hyc) rfl).1
    rw [hy] at h3
    obtain ⟨_, hxy, _⟩ := h3
    obtain ⟨o', ho'⟩ := st.dom _ hxy
    rw [q, nn _ hDn] at ho'
    cases ho'
  have off : WrOff h₀ (compEnvC scope cl H2.objs.size env) (fun b => X b ∨ b = h2.objs.size) wr := fun b hb => by
    have hbn := W.fresh b hb
    have o1 := st.offFresh W.fresh b hb
    have hbf : b ∈ fp := (W.walks A R.handled).sub b hb
    refine ⟨o1.1, fun q => q.elim o1.2.1 fun q => hDf (q ▸ hbf), fun q => hCf ((show b = H2.objs.size from q) ▸ hbf), fun y hy q => ?_⟩
    have hm : (y, NameKind.free) ∈ scope.names := relab_cell sok hy
    have := hcl.2 _ hm rfl
    exact o1.2.2.2 y (sok.free _ hm rfl).1 (this.symm.trans q)
  have W' := W.walks A R.handled
  have st0 : Sx 0 h₁ := W'.frame _ _ _ W.start fun b _ o e => old _ _ e
  have items' : ∀ i v, P i v → ∃ d, items[i]? = some d ∧ Rep h₁ (fun b => X b ∨ b = h2.objs.size) v d := fun i v hv => by
    obtain ⟨d, h1, h2'⟩ := W.items i v hv
    exact ⟨d, h1, (h2'.out fun a q => q.elim .inl fun q => .inr (q ▸ hDn)).ext old⟩
  have lp := loop_sound (prog := prog) (w := w) (A := A) (s := { s with heap := h₁, toks := tk2 + ([] : List (Str × Value)).length }) (m := m) (env := compEnvC scope cl H2.objs.size env) hT hC (depth := 0) (gens := ⟨.Name x px, iter, ifs, 0⟩ :: rest) (iter := iter) (scope := scope) (pos := pos) rfl hx' h hoe hro hgf hkx okC R hra ci (by simpa using hl) W' st0 W.nonseq off hDf hCf items'
  refine codeAny_mono (compStart_at rfl rfl lp fun Q q => W'.self 0 _ _ _ st0 q) fun r s' hr => ?_
  obtain ⟨rfl, h', tk, us, rfl, hk, ci'⟩ := hr
  obtain ⟨m', hm', _⟩ := ci'.st.ns
  obtain ⟨nn', hD'⟩ := ci'.at'
  exact hRR _ _ h' tk _ nn' m' (nn _ hDn) (nn _ hCn) hDC (fun b o e => hk b o (fun q => by rw [q, nn _ hDn] at e; cases e) (fun q => by rw [show b = H2.objs.size from q, nn _ hCn] at e; cases e) (fun q => by rw [W.fresh b q] at e; cases e) (old _ _ (W.ext _ _ e))) hD' hm' (by simpa using ci'.rep)
end
end Mine
end

section
set_option Elab.async false
set_option maxRecDepth 100000
open PySem PySem.Calls PyProof.Rows PySem.SeqAt PySem.MeetsSeq PySem.Builtin
open AutoSeq1 (wpAny_loadPart')
namespace Mine
namespace MapF
theorem owner_map : Manifest.owners.lookup (String.ofList ['p', 'a', 'm'].reverse) = some Manifest.sig_map := by kernel_rfl
theorem slot_iter : Slot "map" "__iter__" "map.__iter__" :=
  .of (owner := "map") (n := "__iter__") (by rw [typeLookup_type, builtinLookup_eq_fast]; kernel_rfl) (by decide +kernel) (by decide +kernel) (by decide +kernel)
    (by first | exact .inl (by decide +kernel) | exact .inr (by decide +kernel)) (by rw [isSubtype_type]; kernel_rfl)
theorem args_iter (a : Value) : argsOk "map.__iter__" ⟨[a], []⟩ := by
  unfold argsOk; rw [signature?_of (id := "map.__iter__") (n := ['_', '_', 'r', 'e', 't', 'i', '_', '_']) (o := ['p', 'a', 'm']) (by kernel_rfl) owner_map]; kernel_rfl
theorem entry_iter : entryFor table "map.__iter__" = some Builtin.«dict_keyiterator.__iter__» :=
  entryFor_alias (id' := "dict_keyiterator.__iter__") (by kernel_rfl) (by first | rfl | decide +kernel | (unfold String.splitOn; simp +decide [String.splitOnAux])) (by decide +kernel) (by kernel_rfl)
theorem slot_next : Slot "map" "__next__" "map.__next__" :=
  .of (owner := "map") (n := "__next__") (by rw [typeLookup_type, builtinLookup_eq_fast]; kernel_rfl) (by decide +kernel) (by decide +kernel) (by decide +kernel)
    (by first | exact .inl (by decide +kernel) | exact .inr (by decide +kernel)) (by rw [isSubtype_type]; kernel_rfl)
theorem args_next (a : Value) : argsOk "map.__next__" ⟨[a], []⟩ := by
  unfold argsOk; rw [signature?_of (id := "map.__next__") (n := ['_', '_', 't', 'x', 'e', 'n', '_', '_']) (o := ['p', 'a', 'm']) (by kernel_rfl) owner_map]; kernel_rfl
theorem entry_next : entryFor table "map.__next__" = some Builtin.«map.__next__» := entryFor_of_tree (by kernel_rfl)
theorem slot_init : Slot "map" "__init__" "object.__init__" :=
  .of (owner := "object") (n := "__init__") (by rw [typeLookup_type, builtinLookup_eq_fast]; kernel_rfl) (by decide +kernel) (by decide +kernel) (by decide +kernel)
    (by first | exact .inl (by decide +kernel) | exact .inr (by decide +kernel)) (by rw [isSubtype_type]; kernel_rfl)
theorem mro_map : mroOf (.type "map") = pure [.type "map", .type "object"] := by rw [mroOf_type]; kernel_rfl
theorem lookup_new : typeLookup (.type "map") "__new__" = pure (some (.builtin "map.__new__")) := by rw [typeLookup_type, builtinLookup_eq_fast]; kernel_rfl
theorem called : TypeCalled "map" "map.__new__" "object.__init__" :=
  ⟨by decide +kernel, by decide +kernel, ⟨_, _, mro_map⟩, madeBy_type mro_map lookup_new (by decide +kernel), by decide +kernel, by rw [isSubtype_type]; kernel_rfl, slot_init⟩
theorem typeCall_2 (a b : Value) : checkTypeCall "map" ⟨[a, b], []⟩ = pure () := by kernel_rfl
theorem newCall_2 (a b : Value) : checkBuiltinCall "map.__new__" ⟨[.type "map", a, b], []⟩ = pure () := by kernel_rfl
theorem entry_new : entryFor table "map.__new__" = some Builtin.«map.__new__» := entryFor_of_tree (by kernel_rfl)
theorem no_len : typeLookup (.type "map") "__len__" = pure none := by rw [typeLookup_type, builtinLookup_eq_fast]; kernel_rfl
theorem no_hint : typeLookup (.type "map") "__length_hint__" = pure none := by rw [typeLookup_type, builtinLookup_eq_fast]; kernel_rfl
theorem sub_map : isSubtype (.type "map") (.type "map") = pure true := by rw [isSubtype_type]; kernel_rfl
end MapF

/-- a map over one iterator -/
abbrev mapObj (tp : Addr) (f : Value) : Obj := { cls := .type "map", data := .fields #[.ref tp, f] }
abbrev litObj (l : Addr) : Obj := { cls := .type "list_iterator", data := .fields #[.ref l, .int 0 0] }
theorem map_new_meets (f : Value) (l : Addr) (vs : List Value) (n : Nat) : Meets (Builtin.«map.__new__» ⟨[.type "map", f, .ref l], []⟩) (fun _ R s => s.heap.get? l = some (lobj vs n) ∧
      R (.ok (.ret (.ref (((s.heap.push (litObj l)).push (tobj [.ref s.heap.objs.size] 0)).objs.size)))) { s with heap := ((s.heap.push (litObj l)).push (tobj [.ref s.heap.objs.size] 0)).push (mapObj (s.heap.push (litObj l)).objs.size f) }) :=
  .of_wp fun prog w A R s h => by
    obtain ⟨hp, g, d, tk, os⟩ := s; obtain ⟨hl, h⟩ := h
    have hsub := MapF.sub_map
    have hL : Heap.IsList (Shared.heap ⟨hp, g, d, tk, os⟩) l vs.toArray := ⟨_, hl, rfl, n, rfl⟩
    wp_walk using wpAny_loadPart' hl, wpAny_pyIter_list hL
    exact ⟨_, rfl, h⟩

section
variable {prog : Program} {w : World} {A : Around} {E : Value → Shared → Prop} {s : Shared}
theorem call_map {f : Value} {l : Addr} {vs : List Value} {n : Nat} {Q : Value → Shared → Prop} (hl : s.heap.get? l = some (lobj vs n))
    (h : ∀ I tp it h', s.heap.get? I = none → s.heap.get? tp = none → s.heap.get? it = none → I ≠ tp → I ≠ it → tp ≠ it → Ext s.heap h' → h'.get? I = some (mapObj tp f) → h'.get? tp = some (tobj [.ref it] 0) → h'.IsListIter it l 0 → Q (.ref I) { s with heap := h' }) :
    wpAny (model prog w) A (call (.type "map") [f, .ref l]) Q E s := by
  have z1 : (s.heap.push (litObj l)).objs.size = s.heap.objs.size + 1 := Array.size_push ..
  have z2 : ((s.heap.push (litObj l)).push (tobj [.ref s.heap.objs.size] 0)).objs.size = s.heap.objs.size + 2 := (Array.size_push ..).trans (congrArg (· + 1) z1)
  have fr : ∀ k, s.heap.objs.size ≤ k → s.heap.get? k = none := fun k h => fresh_not h
  refine callType_new MapF.called (by decide) (MapF.typeCall_2 _ _) (MapF.newCall_2 _ _) (fun obj => F.args_object_init_3 obj _ _) MapF.entry_new (map_new_meets f l vs n) ⟨hl, ?_⟩
  refine ⟨⟨_, Heap.get?_push_size _ rfl, rfl⟩, h _ (s.heap.push (litObj l)).objs.size s.heap.objs.size _ (fr _ (by rw [z2]; exact Nat.le_add_right _ _)) (fr _ (by rw [z1]; exact Nat.le_succ _)) (fr _ (Nat.le_refl _)) ?_ ?_ ?_ ?_ (Heap.get?_push_size _ rfl) (Heap.get?_push_of_some _ (Heap.get?_push_size _ rfl)) ⟨_, Heap.get?_push_of_some _ (Heap.get?_push_of_some _ (Heap.get?_push_size _ rfl)), rfl, rfl⟩⟩
  · rw [z2, z1]; exact Nat.ne_of_gt (Nat.lt_succ_self _)
  · rw [z2]; exact Nat.ne_of_gt (Nat.lt_succ_of_lt (Nat.lt_succ_self _))
  · rw [z1]; exact Nat.ne_of_gt (Nat.lt_succ_self _)
  · exact ((Ext.rfl.push _).push _).push _

/-- what the function answers at the items -/
def FnAt (prog : Program) (w : World) (A : Around) (H : Heap) (f : Value) (vs : List Value) (P : Nat → Value → Prop) : Prop := ∀ (i : Nat) (v : Value) (s : Shared) (Q E : Value → Shared → Prop), vs[i]? = some v → Ext H s.heap → (∀ y h' tk, P i y → Ext s.heap h' → Q y { s with heap := h', toks := tk }) → wpAny (model prog w) A (call f [v]) Q E s

structure MapSt (H : Heap) (I tp it l : Addr) (f : Value) (vs : List Value) (n : Nat) (i : Nat) (h : Heap) : Prop where
  base : Ext H h
  self : h.get? I = some (mapObj tp f)
  tup : h.get? tp = some (tobj [.ref it] 0)
  iter : h.IsListIter it l i
  list : h.get? l = some (lobj vs n)

theorem map_walks {H : Heap} {I tp it l : Addr} {f : Value} {vs : List Value} {n : Nat} {P : Nat → Value → Prop} (hh : A.handled = none) (hf : FnAt prog w A.in1 H f vs P) (n1 : I ≠ it) (n2 : tp ≠ it) (n3 : l ≠ it) (hit : H.get? it = none) :
    Walks prog w A I ((List.range H.objs.size).filter (fun b => (H.get? b).isSome) ++ [I, tp, it, l]) [it] vs.length P (MapSt H I tp it l f vs n) where
  sub := fun b hb => by simp at hb; simp [hb]
  frame := fun i h h' st hk => ⟨fun b o e => hk b (by simp [Heap.lt_size e, e]) o (st.base b o e), hk I (by simp) _ st.self, hk tp (by simp) _ st.tup, st.iter.at fun o e => hk it (by simp) o e, hk l (by simp) _ st.list⟩
  item := fun i s Q E hi st hQ => by
    have hT : s.TypeIs (.ref I) "map" := ⟨_, st.self, rfl⟩
    have hx : vs.toArray[i]? = some vs[i] := by simp [hi]
    unfold pyNext
    refine wpAny_bind (wpAny_attempt (wpAny_callSpecial?_slot (name := Str.ofString "__next__") hT MapF.slot_next (wpAny_call_entry MapF.slot_next hT MapF.entry_next ?_ (MapF.args_next _))))
    show wpAny _ A.in1 (field (.ref I) 0 >>= _) _ _ _
    refine wpAny_bind (wpAny_field st.self rfl (x := .ref tp) rfl ?_)
    refine wpAny_bind (wpAny_seqItems st.tup rfl ?_)
    show wpAny _ A.in1 (forIn (#[.ref it] : Array Value) _ _ >>= _) _ _ _
    rw [← Array.forIn_toList]
    simp only [List.forIn_cons, List.forIn_nil]
    refine wpAny_bind (wpAny_bind (wpAny_bind (wpAny_holding ?_)))
    refine wpAny_nextOf_list_item st.iter ⟨_, st.list, rfl, _, rfl⟩ hx fun h1 it1 hs1 => ?_
    refine wpAny_pure (wpAny_pure ?_)
    have off : ∀ b o, b ≠ it → s.heap.get? b = some o → h1.get? b = some o := fun b o q e => (hs1.2 b q).trans e
    have b1 : Ext H h1 := fun b o e => off b o (fun q => by rw [q, hit] at e; cases e) (st.base b o e)
    have s1 := off _ _ n1 st.self
    show wpAny _ A.in1 (field (.ref I) 1 >>= fun g => _) _ _ _
    refine wpAny_bind (wpAny_field (s := { s with heap := h1 }) s1 rfl (x := f) rfl ?_)
    refine wpAny_bind (wpAny_holding (hf i vs[i] _ _ _ (by simp [hi]) b1 fun y h2 tk2 hy e2 => ?_))
    refine wpAny_bind (wpAny_letGo (wpAny_pure ⟨_, rfl, wpAny_pure ?_⟩))
    exact hQ y h2 tk2 hy ⟨b1.trans e2, e2 _ _ s1, e2 _ _ (off _ _ n2 st.tup), it1.at fun o e => e2 _ _ e, e2 _ _ (off _ _ n3 st.list)⟩ fun b o hb e => e2 _ _ (off b o (by simpa using hb) e)
  done := fun s Q E st hQ => by
    have hT : s.TypeIs (.ref I) "map" := ⟨_, st.self, rfl⟩
    have hx : vs.toArray[vs.length]? = none := by simp
    unfold pyNext
    refine wpAny_bind (wpAny_attempt (wpAny_callSpecial?_slot (name := Str.ofString "__next__") hT MapF.slot_next (wpAny_call_entry MapF.slot_next hT MapF.entry_next ?_ (MapF.args_next _))))
    show wpAny _ A.in1 (field (.ref I) 0 >>= _) _ _ _
    refine wpAny_bind (wpAny_field st.self rfl (x := .ref tp) rfl ?_)
    refine wpAny_bind (wpAny_seqItems st.tup rfl ?_)
    show wpAny _ A.in1 (forIn (#[.ref it] : Array Value) _ _ >>= _) _ _ _
    rw [← Array.forIn_toList]
    simp only [List.forIn_cons, List.forIn_nil]
    refine wpAny_bind (wpAny_bind (wpAny_bind (wpAny_holding ?_)))
    refine wpAny_nextOf_list_end hh st.iter ⟨_, st.list, rfl, _, rfl⟩ hx fun h1 e hs1 he => ?_
    obtain ⟨o, ho, hc⟩ := he
    refine wpAny_bind (wpAny_isInstance (T := "StopIteration") (b := true) ⟨o, ho, hc⟩ isSubtype_stop ?_)
    exact wpAny_pure (hQ h1 s.toks fun b o hb e => hs1 b o (by simpa using hb) e)
  self := fun i s Q E st hQ => by
    have hT : s.TypeIs (.ref I) "map" := ⟨_, st.self, rfl⟩
    refine wpAny_pyIter_slot hT MapF.slot_iter (wpAny_call_entry MapF.slot_iter hT MapF.entry_iter ?_ (MapF.args_iter _))
    show wpAny _ _ (ret (.ref I)) _ _ s
    exact wpAny_pure ⟨_, rfl, "map", _, hT, MapF.slot_next.lookup, hQ⟩

/-- a map's items, all -/
theorem collect_map {I : Addr} {fp wr : List Addr} {n : Nat} {P : Nat → Value → Prop} {Sx : Nat → Heap → Prop} {Q : List Value → Shared → Prop} (W : Walks prog w A.in1 I fp wr n P Sx) (hT : ∀ i h, Sx i h → ∃ o, h.get? I = some o ∧ o.cls = .type "map") (hst : Sx 0 s.heap)
    (hfp : ∀ b ∈ fp, b < s.heap.objs.size) (hI : I ∈ fp) (hn : n ≤ sizeLine)
    (hQ : ∀ h' tk (acc : Array Value), (∀ b o, b ∉ wr → s.heap.get? b = some o → h'.get? b = some o) → ItemsOf P acc n → Q acc.toList { s with heap := h', toks := tk }) : wpAny (model prog w) A (collect (.ref I)) Q E s := by
  have hSf : s.heap.objs.size ∉ fp := fun q => Nat.lt_irrefl _ (hfp _ q)
  have hSI : s.heap.objs.size ≠ I := fun q => hSf (q ▸ hI)
  generalize hS : s.heap.objs.size = S at hSf hSI
  unfold collect
  refine wpAny_bind (wpAny_runValue (codeAny_builtin F.entry_proto_collect ?_))
  rw [Around.under_plainId F.plain_proto_collect _]
  show wpAny _ A.in1 (newList [] >>= fun l => again (.builtin "list.__iadd__" ⟨[l, .ref I], []⟩)) _ _ s
  refine wpAny_bind (wpAny_newObj_type (wpAny_pure ⟨plainId_quiet F.plain_list_iadd _, codeAny_builtin F.entry_list_iadd ?_⟩))
  rw [Around.under_plainId F.plain_list_iadd _, hS]
  generalize hH : s.heap.push { cls := .type "list", data := .seq ([] : List Value).toArray } = H
  have hHS : H.get? S = some (lobj [] 0) := by rw [← hH, ← hS]; exact Heap.get?_push_size _ rfl
  have hHx : Ext s.heap H := by rw [← hH]; exact Ext.rfl.push _
  have st1 : Sx 0 H := W.frame _ _ _ hst fun b _ o e => hHx b o e
  obtain ⟨oI, hoI, hcI⟩ := hT _ _ st1
  show wpAny _ A.in1 (Builtin.List.listExtendWith (.ref S) (.ref I) (.ref S)) _ _ _
  unfold Builtin.List.listExtendWith
  have hTI : Shared.TypeIs { s with heap := H } (.ref I) "map" := ⟨_, hoI, hcI⟩
  refine wpAny_bind (wpAny_typeOf hTI ?_)
  rw [show Builtin.List.listSameRef (.ref S) (.ref I) = false by simp [Builtin.List.listSameRef, hSI], show (Value.type "map" == Value.type "list") = false by decide, show (Value.type "map" == Value.type "tuple") = false by decide]
  simp only [Bool.or_false, Bool.false_eq_true, if_false]
  refine wpAny_bind (W.self 0 _ _ _ st1 (wpAny_bind (wpAny_holding ?_)))
  unfold Builtin.List.listLengthHint
  refine wpAny_bind (wpAny_specialOf hTI MapF.no_len ?_)
  show wpAny _ A.in1 (specialOf (Value.ref I) (Str.ofString "__length_hint__") >>= _) _ _ _
  refine wpAny_bind (wpAny_specialOf hTI MapF.no_hint (wpAny_pure ?_))
  show wpAny _ A.in1 (rule "list.extend.makes-room" >>= fun _ => Builtin.List.listTouch (.ref S) >>= fun _ => again (.builtin "list.extend.loop" ⟨[.ref S, .ref I, .ref S], []⟩)) _ _ _
  refine wpAny_bind (wpAny_rule (wpAny_bind ?_))
  show wpAny _ A.in1 (updateSeq S (·.push .none) >>= fun _ => updateSeq S (·.pop)) _ _ _
  refine wpAny_bind (wpAny_updateSeq hHS rfl ?_)
  have hS2 := Heap.get?_update_self (Obj.mapSeq (·.push Value.none)) hHS rfl
  refine wpAny_updateSeq hS2 rfl ?_
  have hS3 := Heap.get?_update_self (Obj.mapSeq (·.pop)) hS2 rfl
  generalize hH3 : ((H.update S (Obj.mapSeq (·.push Value.none))).update S (Obj.mapSeq (·.pop))) = H3 at hS3
  have off : ∀ b o, b ≠ S → H.get? b = some o → H3.get? b = some o := fun b o q e => by
    rw [← hH3]; exact (Heap.get?_update_other _ _ (Ne.symm q)).trans ((Heap.get?_update_other _ _ (Ne.symm q)).trans e)
  refine wpAny_pure ⟨plainId_quiet F.plain_extend_loop _, codeAny_extend_loopS (Walks.toS W) hn S hSf _ n 0 _ _ _ rfl (Nat.zero_le _) (show Sx 0 H3 from W.frame _ _ _ st1 fun b hb o e => off b o (fun q => hSf (q ▸ hb)) e) hS3 (ItemsOf.nil P) fun s' acc c' hm hS' hacc => ?_⟩
  show wpAny _ A (load S >>= _) _ _ s'
  refine wpAny_bind (wpAny_load hS' (wpAny_pure ?_))
  obtain ⟨hp', g', d', tk', os'⟩ := s'
  obtain ⟨k1, k2, k3, k4, _⟩ := hm
  dsimp only at k1 k2 k3 k4
  subst k2; subst k3; subst k4
  exact hQ hp' tk' acc (fun b o q e => k1 b o (fun z => (List.mem_cons.mp z).elim (fun z => by have := Heap.lt_size e; rw [hS, z] at this; exact Nat.lt_irrefl _ this) q) (off b o (fun z => by have := Heap.lt_size e; rw [hS, z] at this; exact Nat.lt_irrefl _ this) (hHx _ _ e))) hacc

/-- a tuple of a map's items -/
theorem code_tuple_map {I : Addr} {fp wr : List Addr} {n : Nat} {P : Nat → Value → Prop} {Sx : Nat → Heap → Prop} {Q : Value → Shared → Prop} (W : Walks prog w A.in1.in1 I fp wr n P Sx) (hT : ∀ i h, Sx i h → ∃ o, h.get? I = some o ∧ o.cls = .type "map") (hst : Sx 0 s.heap)
    (hfp : ∀ b ∈ fp, b < s.heap.objs.size) (hI : I ∈ fp) (hn : n ≤ sizeLine)
    (hQ : ∀ (h' : Heap) tk (acc : Array Value), (∀ b o, b ∉ wr → s.heap.get? b = some o → h'.get? b = some o) → ItemsOf P acc n → Q (.ref h'.objs.size) { s with heap := h'.push { cls := .type "tuple", data := .seq acc }, toks := tk }) :
    codeAny (model prog w) A (.call (.builtin "tuple.__new__") ⟨[.type "tuple", .ref I], []⟩) (wants (fun obj s₁ => s₁.TypeIs obj "tuple" ∧ Q obj s₁) E) s := by
  refine codeAny_of_tree ?_
  show wpAny _ A.in1 (do checkBuiltinCall "tuple.__new__" ⟨[.type "tuple", .ref I], []⟩; again (.builtin "tuple.__new__" ⟨[.type "tuple", .ref I], []⟩)) _ _ s
  refine wpAny_bind (wpAny_of_eq (F.newCall_tuple_1 _) (wpAny_pure ⟨plainId_quiet F.plain_tuple_new _, codeAny_builtin F.entry_tuple_new ?_⟩))
  rw [Around.under_plainId F.plain_tuple_new _]
  have hsub := sub_tuple_self
  have hinit := init_tuple_lookup
  have hmh := madeHere_tuple
  obtain ⟨oI, hoI, hcI⟩ := hT _ _ hst
  have hTI : s.TypeIs (.ref I) "map" := ⟨_, hoI, hcI⟩
  wp_walk using wpAny_typeOf hTI, collect_map W hT hst hfp hI hn
  intro h' tk acc hk hacc
  show wpAny _ _ (Builtin.Tuple.tupleExact acc.toList.toArray >>= fun v => ret v) _ _ _
  unfold Builtin.Tuple.tupleExact
  refine wpAny_bind (wpAny_newObj_type (wpAny_pure ?_) (by show acc.toList.toArray.size ≤ sizeLine; simp only [Array.toArray_toList]; rw [hacc.1]; exact hn))
  rw [show acc.toList.toArray = acc by simp]
  exact ⟨⟨_, Heap.get?_push_size _ rfl, rfl⟩, hQ h' tk acc hk hacc⟩
theorem call_tuple_map {I : Addr} {fp wr : List Addr} {n : Nat} {P : Nat → Value → Prop} {Sx : Nat → Heap → Prop} {Q : Value → Shared → Prop} (W : Walks prog w A.in1.in1.in1 I fp wr n P Sx) (hT : ∀ i h, Sx i h → ∃ o, h.get? I = some o ∧ o.cls = .type "map") (hst : Sx 0 s.heap)
    (hfp : ∀ b ∈ fp, b < s.heap.objs.size) (hI : I ∈ fp) (hn : n ≤ sizeLine)
    (hQ : ∀ (h' : Heap) tk (acc : Array Value), (∀ b o, b ∉ wr → s.heap.get? b = some o → h'.get? b = some o) → ItemsOf P acc n → Q (.ref h'.objs.size) { s with heap := h'.push { cls := .type "tuple", data := .seq acc }, toks := tk }) :
    wpAny (model prog w) A (call (.type "tuple") [.ref I]) Q E s :=
  callType_codes (Q₁ := fun obj s₁ => s₁.TypeIs obj "tuple" ∧ Q obj s₁) F.called_tuple (F.typeCall_tuple_1 _) F.entry_object_init (code_tuple_map W hT hst hfp hI hn hQ) fun obj s₁ h₁ =>
    ⟨h₁.1, F.args_object_init_2 obj _, object_init_meets F.called_tuple.init.lookup F.called_tuple.made (by decide) prog w A.in1 _ s₁ ⟨h₁.1, rfl, h₁.2⟩⟩

/-- a tuple of a function's answers, one by one -/
theorem tuple_map_sound {f : Value} {l : Addr} {vs : List Value} {n : Nat} {P : Nat → Value → Prop} {Q : Value → Shared → Prop} (hh : A.handled = none) (hl : s.heap.get? l = some (lobj vs n)) (hn : vs.length ≤ sizeLine)
    (hf : FnAt prog w A.in1.in1.in1.in1 s.heap f vs P) (hQ : ∀ (h' : Heap) tk (acc : Array Value), Ext s.heap h' → ItemsOf P acc vs.length → Q (.ref h'.objs.size) { s with heap := h'.push { cls := .type "tuple", data := .seq acc }, toks := tk }) :
    wpAny (model prog w) A (call (.type "map") [f, .ref l]) (fun m s₁ => wpAny (model prog w) A (call (.type "tuple") [m]) Q E s₁) E s := by
  refine (call_map hl fun I tp it h1 f1 f2 f3 d1 d2 d3 e1 m1 t1 i1 => ?_)
  have hli : l ≠ it := fun q => by rw [q, f3] at hl; cases hl
  have W : Walks prog w A.in1.in1.in1 I _ [it] vs.length P (MapSt s.heap I tp it l f vs n) := map_walks hh hf d2 d3 hli f3
  refine call_tuple_map (s := { s with heap := h1 }) W (fun i h st => ⟨_, st.self, rfl⟩) ⟨e1, m1, t1, i1, e1 _ _ hl⟩ (fun b hb => ?_) (by simp) hn fun h' tk acc hk hacc => hQ h' tk acc (fun b o e => hk b o (by rw [List.mem_singleton]; rintro rfl; rw [f3] at e; cases e) (e1 _ _ e)) hacc
  rcases List.mem_append.mp hb with hb | hb
  · have := (List.mem_filter.mp hb).2
    cases hx : s.heap.get? b with
    | some o => exact Heap.lt_size (e1 _ _ hx)
    | none => rw [hx] at this; cases this
  · simp at hb
    rcases hb with rfl | rfl | rfl | rfl
    · exact Heap.lt_size m1
    · exact Heap.lt_size t1
    · obtain ⟨o, q, _⟩ := i1; exact Heap.lt_size q
    · exact Heap.lt_size (e1 _ _ hl)
end
end Mine
end

section
set_option Elab.async false
set_option maxRecDepth 100000
open PySem PySem.Calls PyProof.Rows PySem.SeqAt PySem.MeetsSeq PySem.Builtin
open AutoSeq1 (wpAny_loadPart')
namespace Mine
section
variable {prog : Program} {w : World} {A : Around} {s : Shared} {X : Addr → Prop} {E : Value → Shared → Prop} {k : Nat}

theorem idxOf_spec {x : D} : ∀ {ds : List D} {i j : Nat}, idxOfD x ds i = some j → ∃ n, j = i + n ∧ n < ds.length ∧ (∀ d, ds[n]? = some d → eqD 4 d x = some true) ∧ ∀ m, m < n → ∀ d, ds[m]? = some d → eqD 4 d x = some false
  | [], i, j, h => by simp [idxOfD] at h
  | y :: ys, i, j, h => by
    simp only [idxOfD] at h
    split at h
    · rename_i e
      cases h
      exact ⟨0, rfl, by simp, fun d hd => by simp at hd; subst hd; exact e, fun m hm => absurd hm (Nat.not_lt_zero _)⟩
    · rename_i e
      obtain ⟨n, h1, h2, h3, h4⟩ := idxOf_spec h
      refine ⟨n + 1, by omega, by simp; omega, fun d hd => h3 d (by simpa using hd), fun m hm d hd => ?_⟩
      cases m with
      | zero => simp at hd; subst hd; exact e
      | succ m => exact h4 m (by omega) d (by simpa using hd)
    · cases h
theorem index_sound {ds : List D} {x : D} {j : Nat} {u v : Value} (hz : ds.length ≤ lim) (hm : (memD x ds).isSome = true) (hj : idxOfD x ds 0 = some j) (r : RepL s.heap X u ds) (q : Rep s.heap X v x) (R : Room k A) :
    wpAny (model prog w) A (call (.builtin "list.index") [u, v]) (EvP s fun h v => Rep h X v (.int j)) E s := by
  obtain ⟨b, hb⟩ := Option.isSome_iff_exists.mp hm
  obtain ⟨n, e, hn, h1, h2⟩ := idxOf_spec hj
  have e : j = n := by omega
  subst e
  obtain ⟨a, vs, m, rfl, ho, hr⟩ := r
  have hl := hr.length
  have hlim : lim = 1048576 := rfl
  refine call_meets PySem.F.slot_list_index ⟨_, ho, rfl⟩ PySem.F.entry_list_index (PySem.F.args_list_index_2 _ _)
    (list_indexAt a vs.toArray m none #[] v (isD s.heap X x) j (by simp; omega) (by omega) ?_ ?_) ⟨ho, mem_eqAt hb hr q R, EvP.here (.int _ _)⟩
  · have hv : vs[j]? = some vs[j] := by simp [hl, hn]
    obtain ⟨d, hd, rd⟩ := hr.get' hv
    show isD s.heap X x vs[j] = true
    exact isD_of rd (h1 d hd)
  · intro i hi hlt
    have hv : vs[i]? = some (vs[i]'(by simpa using hi)) := by simp
    obtain ⟨d, hd, rd⟩ := hr.get' hv
    show isD s.heap X x (vs[i]'(by simpa using hi)) = false
    exact isD_of rd (h2 i hlt d hd)

/-- isinstance -/
theorem isB_sound {o : Bool} {cs : List Nat} {v : Value} (r : Rep s.heap X v (.txt o cs)) : wpAny (model prog w) A (call (.builtin "isinstance") [v, .type "bytes"]) (EvP s fun h v => Rep h X v (.bool o)) E s := by
  cases o with
  | false =>
    obtain ⟨t, rfl⟩ := txt_str r
    exact call_isinstance (isinstance_false_str (by decide +kernel) F.isi_meta_bytes F.sub_str_bytes) (EvP.here (.bool _))
  | true =>
    obtain ⟨hx, t, rfl⟩ := txt_bytes r
    exact call_isinstance (isinstance_true (Tx := "bytes") F.isi_meta_bytes F.sub_bytes_bytes) ⟨rfl, EvP.here (tk := s.toks) (.bool _)⟩
theorem isTi_sound {i : Int} {v : Value} (r : Rep s.heap X v (.int i)) : wpAny (model prog w) A (call (.builtin "isinstance") [v, .type "tuple"]) (EvP s fun h v => Rep h X v (.bool false)) E s := by
  obtain ⟨t, rfl⟩ := rep_int r
  exact call_isinstance (isinstance_false_int (by decide +kernel) F.isi_meta_tuple F.sub_int_tuple) (EvP.here (.bool _))
theorem isTt_sound {ds : List D} {v : Value} (r : Rep s.heap X v (.tup ds)) : wpAny (model prog w) A (call (.builtin "isinstance") [v, .type "tuple"]) (EvP s fun h v => Rep h X v (.bool true)) E s := by
  cases r with
  | tup hx ho hr => exact call_isinstance (isinstance_true (Tx := "tuple") F.isi_meta_tuple sub_tuple_self) ⟨⟨_, ho, rfl⟩, EvP.here (tk := s.toks) (.bool _)⟩
end

namespace IscF
theorem kind : builtinKind "issubclass" = none := by decide +kernel
theorem plain : plainId "issubclass" = true := by decide +kernel
theorem args_2 (a b : Value) : argsOk "issubclass" ⟨[a, b], []⟩ := by unfold argsOk; kernel_rfl
theorem entry : entryFor table "issubclass" = some Builtin.«issubclass» := entryFor_of_tree (by kernel_rfl)
theorem entry_nested : entryFor table "issubclass.nested" = some Builtin.«issubclass.nested» := entryFor_of_tree (by kernel_rfl)
theorem kind_nested : builtinKind "issubclass.nested" = none := by decide +kernel
theorem plain_nested : plainId "issubclass.nested" = true := by decide +kernel
theorem args_nested (a b c : Value) : argsOk "issubclass.nested" ⟨[a, b, c], []⟩ := by unfold argsOk; kernel_rfl
theorem sub_bytes_str : isSubtype (.type "bytes") (.type "str") = pure false := by rw [isSubtype_type]; kernel_rfl
end IscF
section
variable {prog : Program} {w : World} {A : Around} {s : Shared} {X : Addr → Prop} {E : Value → Shared → Prop} {k : Nat}
theorem isc_nested {T U : String} {b : Bool} {n : Int} {t : Tok} {Q : Value → Shared → Prop} (hT : typeOf (.type T) = pure (.type "type")) (hU : typeOf (.type U) = pure (.type "type")) (hs : isSubtype (.type T) (.type U) = pure b) (h : Q (.bool b) s) :
    wpAny (model prog w) A (call (.builtin "issubclass.nested") [.type T, .type U, .int n t]) Q E s := by
  refine call_function_tree IscF.kind_nested IscF.plain_nested IscF.entry_nested (IscF.args_nested _ _ _) ?_
  obtain ⟨hp, g, d, tk, os⟩ := s
  repeat (any_goals (first | assumption | wp_step))
theorem isc_sound {T : String} {tp : Addr} {n : Nat} (hT : T = "str" ∨ T = "bytes") (ho : s.heap.get? tp = some (tobj [.type "str", .type "bytes"] n)) :
    wpAny (model prog w) A (call (.builtin "issubclass") [.type T, .ref tp]) (EvP s fun h v => Rep h X v (.bool true)) E s := by
  refine call_function_tree IscF.kind IscF.plain IscF.entry (IscF.args_2 _ _) ?_
  show wpAny _ A.in1 (again (.builtin "issubclass.nested" ⟨[.type T, .ref tp, rawInt 0], []⟩)) _ _ s
  refine wpAny_pure ⟨plainId_quiet IscF.plain_nested _, codeAny_builtin IscF.entry_nested ?_⟩
  rw [Around.under_plainId IscF.plain_nested _]
  show wpAny _ A.in1 (typeOf (.ref tp) >>= fun c => _) _ _ s
  refine wpAny_bind (wpAny_typeOf (T := "tuple") ⟨_, ho, rfl⟩ ?_)
  refine wif_f (by decide) ?_
  refine wpAny_bind (m := Builtins.unionMembers (.ref tp)) ?_
  unfold Builtins.unionMembers
  refine wpAny_bind (wpAny_typeOf (T := "tuple") ⟨_, ho, rfl⟩ (wif_f (by decide) (wpAny_pure ?_)))
  refine wpAny_bind (wpAny_isInstance (T := "tuple") (b := true) ⟨_, ho, rfl⟩ sub_tuple_self (wif_t rfl ?_))
  dsimp only
  rw [if_neg (by decide)]
  refine wpAny_bind (wpAny_seqItems ho rfl ?_)
  simp only [Option.getD_some]
  rw [← Array.forIn_toList]
  simp only [List.forIn_cons, List.forIn_nil]
  have fin : EvP s (fun h v => Rep h X v (D.bool true)) (.bool true) s := EvP.here (tk := s.toks) (.bool true)
  have h2 : typeOf (.type "bytes") = pure (.type "type") := F.isi_meta_bytes
  have h3 : typeOf (.type "str") = pure (.type "type") := F.isi_meta_str
  rcases hT with rfl | rfl
  · refine wpAny_bind (wpAny_bind (wpAny_bind (isc_nested h3 h3 F.sub_str_str (wpAny_bind (wpAny_truthy_bool ?_)))))
    simp only [if_true]
    exact wpAny_bind (wpAny_pure (wpAny_pure (wpAny_pure (wpAny_pure fin))))
  · refine wpAny_bind (wpAny_bind (wpAny_bind (isc_nested h2 h3 IscF.sub_bytes_str (wpAny_bind (wpAny_truthy_bool ?_)))))
    simp only [Bool.false_eq_true, if_false]
    refine wpAny_pure (wpAny_bind (wpAny_bind (isc_nested h2 h2 F.sub_bytes_bytes (wpAny_bind (wpAny_truthy_bool ?_)))))
    simp only [if_true]
    exact wpAny_bind (wpAny_pure (wpAny_pure (wpAny_pure (wpAny_pure fin))))
end
end Mine
end

section
set_option Elab.async false
set_option maxRecDepth 100000
open PySem PySem.Calls PyProof.Rows
namespace Mine
section
variable {prog : Program} {w : World} {A : Around} {s : Shared} {X : Addr → Prop} {k : Nat}

theorem binD_cases {op : Operator} {a b d : D} (h : binD op a b = some d) : (∃ i j, a = .int i ∧ b = .int j) ∨ (op = .Add ∧ ∃ o x p y, a = .txt o x ∧ b = .txt p y) ∨ (op = .Add ∧ ∃ xs ys, a = .lst xs ∧ b = .lst ys ∧ xs.length + ys.length ≤ lim ∧ d = .lst (xs ++ ys)) ∨
    (op = .Mult ∧ ∃ x j, a = .lst [x] ∧ b = .int j ∧ 0 ≤ j ∧ j ≤ lim ∧ d = .lst (List.replicate j.toNat x)) := by
  unfold binD at h
  split at h
  iterate 8
    · exact .inl ⟨_, _, rfl, rfl⟩
  · exact .inr (.inl ⟨rfl, _, _, _, _, rfl, rfl⟩)
  · split at h
    · rename_i hl
      cases h
      exact .inr (.inr (.inl ⟨rfl, _, _, rfl, rfl, hl, rfl⟩))
    · cases h
  · split at h
    · rename_i hl
      cases h
      rw [Bool.and_eq_true] at hl
      exact .inr (.inr (.inr ⟨rfl, _, _, rfl, rfl, by simpa using hl.1, by simpa using hl.2, rfl⟩))
    · cases h
  · cases h
/-- a binary operation on data -/
theorem bin_sound {op : Operator} {a b d : D} {u v : Value} {E : Value → Shared → Prop} (h : binD op a b = some d) (ra : Rep s.heap X u a) (rb : Rep s.heap X v b) (hX : ∀ a, X a → ∃ o, s.heap.get? a = some o) :
    wpAny (model prog w) A (binaryOp op u v) (EvP s fun h v => Rep h X v d) E s := by
  rcases binD_cases h with ⟨i, j, rfl, rfl⟩ | ⟨rfl, o, x, p, y, rfl, rfl⟩ | ⟨rfl, xs, ys, rfl, rfl, hl, rfl⟩ | ⟨rfl, x, j, rfl, rfl, h0, hl, rfl⟩
  · obtain ⟨t, rfl⟩ := rep_int ra
    obtain ⟨t', rfl⟩ := rep_int rb
    exact binI_sound h
  · exact (addT_sound h ra rb).1
  · exact wpAny_mono (addL_sound hl ra.b rb.b) (fun v s' hp => hp.mono fun h e x => x.rep hX) fun _ _ e => e
  · obtain ⟨t', rfl⟩ := rep_int rb
    exact wpAny_mono (mulL_sound h0 hl ra.b) (fun v s' hp => hp.mono fun h e x => x.rep hX) fun _ _ e => e

/-- a method of data -/
def MethAt (prog : Program) (w : World) (A : Around) (name : Str) (X : Addr → Prop) (x y d : D) (u : Value) (s : Shared) : Prop := ∃ T id, PlainAttrs T ∧ Slot T name id ∧ typeOf (.builtin id) = pure (.type "method_descriptor") ∧ s.TypeIs u T ∧
  (∀ a, u = .ref a → ∃ ob, s.heap.get? a = some ob ∧ ob.dict = none) ∧ ∀ (s' : Shared) v E, RepB s'.heap X u x → Rep s'.heap X v y → (∀ a, X a → ∃ o, s'.heap.get? a = some o) → wpAny (model prog w) A (call (.builtin id) [u, v]) (EvP s' fun h v => Rep h X v d) E s'

theorem txt_type {o : Bool} {cs : List Nat} {u : Value} (r : Rep s.heap X u (.txt o cs)) : s.TypeIs u (if o then "bytes" else "str") ∧ ∀ a, u = .ref a → ∃ ob, s.heap.get? a = some ob ∧ ob.dict = none := by
  cases o with
  | false => obtain ⟨t, rfl⟩ := txt_str r; exact ⟨typeIs_str _ _ _, fun _ e => nomatch e⟩
  | true => obtain ⟨_, t, rfl⟩ := txt_bytes r; exact ⟨PySem.W.typeIs_bytes _ _ _, fun _ e => nomatch e⟩

theorem meth_at {name : Str} {x y d : D} {u : Value} (h : methD name x [y] = some d) (r : RepB s.heap X u x) (R : Room k A) : MethAt prog w A name X x y d u s := by
  unfold methD at h
  split at h
  · rename_i o xs p ys heq
    cases heq
    obtain ⟨hT, hd⟩ := txt_type (show Rep s.heap X u (.txt o xs) from r)
    split at h
    · rename_i e; subst e
      split at h
      · rename_i hc
        obtain ⟨rfl, _, _⟩ := hc
        cases h
        have := fun (s' : Shared) v E (r1 : RepB s'.heap X u (.txt o xs)) (r2 : Rep s'.heap X v (.txt o ys)) => starts_sound (prog := prog) (w := w) (A := A) (E := E) (show Rep s'.heap X u (.txt o xs) from r1) r2
        cases o with
        | false => exact ⟨"str", _, F.plainAttrs_str, F.slot_str_startswith, F.type_str_startswith, hT, hd, fun s' v E r1 r2 _ => this s' v E r1 r2⟩
        | true => exact ⟨"bytes", _, PySem.W.FB.plainAttrs_bytes, PySem.W.FB.slot_bytes_startswith, PySem.W.FB.type_bytes_startswith, hT, hd, fun s' v E r1 r2 _ => this s' v E r1 r2⟩
      · cases h
    split at h
    · rename_i e; subst e
      split at h
      · rename_i hc
        obtain ⟨rfl, _, _⟩ := hc
        cases h
        have := fun (s' : Shared) v E (r1 : RepB s'.heap X u (.txt o xs)) (r2 : Rep s'.heap X v (.txt o ys)) => ends_sound (prog := prog) (w := w) (A := A) (E := E) (show Rep s'.heap X u (.txt o xs) from r1) r2
        cases o with
        | false => exact ⟨"str", _, F.plainAttrs_str, F.slot_str_endswith, F.type_str_endswith, hT, hd, fun s' v E r1 r2 _ => this s' v E r1 r2⟩
        | true => exact ⟨"bytes", _, PySem.W.FB.plainAttrs_bytes, PySem.W.FB.slot_bytes_endswith, PySem.W.FB.type_bytes_endswith, hT, hd, fun s' v E r1 r2 _ => this s' v E r1 r2⟩
      · cases h
    split at h
    · rename_i e; subst e
      split at h
      · rename_i c
        split at h
        · rename_i hc
          obtain ⟨rfl, hz⟩ := hc
          cases h
          have := fun (s' : Shared) v E (r1 : RepB s'.heap X u (.txt o xs)) (r2 : Rep s'.heap X v (.txt o [c])) hX => split_sound (prog := prog) (w := w) (A := A) (E := E) hz hX (show Rep s'.heap X u (.txt o xs) from r1) r2
          cases o with
          | false => exact ⟨"str", _, F.plainAttrs_str, F.slot_str_split, F.type_str_split, hT, hd, this⟩
          | true => exact ⟨"bytes", _, PySem.W.FB.plainAttrs_bytes, slot_bytes_split, type_bytes_split, hT, hd, this⟩
        · cases h
      · cases h
    split at h
    · rename_i e; subst e
      split at h
      · rename_i hc
        obtain ⟨rfl, rfl, hy, hz, ha⟩ := hc
        cases h
        subst hy
        refine ⟨"str", _, F.plainAttrs_str, F.slot_str_encode, F.type_str_encode, hT, hd, fun s' v E r1 r2 _ => encode_sound hz (fun c hc => ?_) r1 r2⟩
        have := List.all_eq_true.mp ha c hc
        have : c < 128 := by simpa using this
        omega
      · cases h
    · cases h
  · rename_i o xs ds heq
    cases heq
    obtain ⟨hT, hd⟩ := txt_type (show Rep s.heap X u (.txt o xs) from r)
    split at h
    · rename_i e; subst e
      split at h
      · rename_i ts ht
        split at h
        · rename_i hc
          obtain ⟨h1, h2, h3⟩ := hc
          cases h
          have := fun (s' : Shared) v E (r1 : RepB s'.heap X u (.txt o xs)) (r2 : Rep s'.heap X v (.lst ds)) => join_sound (prog := prog) (w := w) (A := A) (E := E) ht h1 h2 h3 (show Rep s'.heap X u (.txt o xs) from r1) r2.b
          cases o with
          | false => exact ⟨"str", _, F.plainAttrs_str, F.slot_str_join, F.type_str_join, hT, hd, fun s' v E r1 r2 _ => this s' v E r1 r2⟩
          | true => exact ⟨"bytes", _, PySem.W.FB.plainAttrs_bytes, slot_bytes_join, type_bytes_join, hT, hd, fun s' v E r1 r2 _ => this s' v E r1 r2⟩
        · cases h
      · cases h
    · cases h
  · rename_i ds z heq
    cases heq
    split at h
    · rename_i e; subst e
      split at h
      · rename_i hc
        obtain ⟨j, hj, rfl⟩ := Option.map_eq_some_iff.mp h
        obtain ⟨a, vs, n, rfl, ho, hr⟩ := id (show RepL s.heap X u ds from r)
        exact ⟨"list", _, F.plainAttrs_list, F.slot_list_index, F.type_list_index, ⟨_, ho, rfl⟩, fun a e => by cases e; exact ⟨_, ho, rfl⟩, fun s' v E r1 r2 _ => index_sound hc.1 hc.2 hj r1 r2 R⟩
      · cases h
    · cases h
  · cases h
end
end Mine
end

section
set_option Elab.async false
set_option maxRecDepth 100000
open PySem PySem.Calls PyProof.Rows
namespace Mine

theorem EvP.lift {s : Shared} {P P' : Heap → Value → Prop} {h₁ : Heap} {tk₁ : Nat} (e : Ext s.heap h₁) (hp : ∀ h v, Ext h₁ h → P h v → P' h v) {v : Value} {s₂ : Shared} (h : EvP { s with heap := h₁, toks := tk₁ } P v s₂) : EvP s P' v s₂ := by
  obtain ⟨h', tk, rfl, e', p⟩ := h
  exact ⟨h', tk, rfl, e.trans e', hp _ _ e' p⟩
theorem BoP.lift {s : Shared} {P : Bool → Prop} {h₁ : Heap} {tk₁ : Nat} (e : Ext s.heap h₁) {b : Bool} {s₂ : Shared} (h : BoP { s with heap := h₁, toks := tk₁ } P b s₂) : BoP s P b s₂ := by
  obtain ⟨h', tk, rfl, e', p⟩ := h
  exact ⟨h', tk, rfl, e.trans e', p⟩
theorem dom_ext {h h' : Heap} {X : Addr → Prop} (e : Ext h h') (hX : ∀ a, X a → ∃ o, h.get? a = some o) : ∀ a, X a → ∃ o, h'.get? a = some o := fun a ha => let ⟨o, ho⟩ := hX a ha; ⟨o, e _ _ ho⟩

theorem Rep.bool' {h : Heap} {X : Addr → Prop} {v : Value} {b : Bool} (r : Rep h X v (.bool b)) : v = .bool b := by cases r; rfl

section
variable {prog : Program} {w : World} {h₀ : Heap} {Φ : Str → List D → Option D} {k n m : Nat} {env : Env} {X : Addr → Prop} {adr : Str → Addr} {ρ : Ro} {A : Around} {s : Shared} {E : Value → Shared → Prop} {d : D}

theorem arm_bin (hE : EvS prog w h₀ Φ k n) {l r : Expr} {op : Operator} {p : Pos} (h : ev Φ (n + 1) (.BinOp l op r p) ρ = some d) (hok : okE (m + 1) env.scope (.BinOp l op r p) = true) (ok : EnvOk h₀ env) (st : St h₀ env X adr ρ s.heap) (R : Room (k + 1) A) :
    wpAny (model prog w) A (eval (.BinOp l op r p) env) (EvP s fun h v => Rep h X v d) E s := by
  simp only [ev] at h
  simp only [okE, Bool.and_eq_true] at hok
  cases hl : ev Φ n l ρ with
  | none => rw [hl] at h; cases h
  | some a =>
  cases hr : ev Φ n r ρ with
  | none => rw [hl, hr] at h; cases h
  | some b =>
  rw [hl, hr] at h
  refine wpAny_BinOp (wpAny_mono (hE l ρ a m env X adr A s E hl hok.1 ok st R) (fun u s1 h1 => ?_) fun _ _ e => e)
  obtain ⟨h1, tk1, rfl, e1, r1⟩ := h1
  refine wpAny_mono (hE r ρ b m env X adr A _ E hr hok.2 ok (st.ext e1) R) (fun v s2 h2 => ?_) fun _ _ e => e
  obtain ⟨h2, tk2, rfl, e2, r2⟩ := h2
  exact wpAny_mono (bin_sound h (r1.ext e2) r2 (dom_ext e2 (dom_ext e1 st.dom))) (fun v s3 h3 => EvP.lift (e1.trans e2) (fun _ _ _ x => x) h3) fun _ _ e => e

theorem arm_neg (hE : EvS prog w h₀ Φ k n) {x : Expr} {p : Pos} (h : ev Φ (n + 1) (.UnaryOp .USub x p) ρ = some d) (hok : okE (m + 1) env.scope (.UnaryOp .USub x p) = true) (ok : EnvOk h₀ env) (st : St h₀ env X adr ρ s.heap) (R : Room (k + 1) A) :
    wpAny (model prog w) A (eval (.UnaryOp .USub x p) env) (EvP s fun h v => Rep h X v d) E s := by
  simp only [ev] at h
  simp only [okE] at hok
  split at h
  · rename_i i hx
    cases h
    refine wpAny_UnaryOp (wpAny_mono (hE x ρ _ m env X adr A s E hx hok ok st R) (fun u s1 h1 => ?_) fun _ _ e => e)
    obtain ⟨h1, tk1, rfl, e1, r1⟩ := h1
    obtain ⟨t, rfl⟩ := rep_int r1
    exact PySem.P.neg_int (EvP.lift e1 (P := fun h v => Rep h X v (.int (-i))) (fun _ _ _ x => x) (EvP.here (.int _ _)))
  · cases h

theorem arm_bool (hE : EvS prog w h₀ Φ k n) {op : BoolOp} {a b : Expr} {p : Pos} (h : ev Φ (n + 1) (.BoolOp op [a, b] p) ρ = some d) (hok : okE (m + 1) env.scope (.BoolOp op [a, b] p) = true) (ok : EnvOk h₀ env) (st : St h₀ env X adr ρ s.heap) (R : Room (k + 1) A) :
    wpAny (model prog w) A (eval (.BoolOp op [a, b] p) env) (EvP s fun h v => Rep h X v d) E s := by
  simp only [ev] at h
  simp only [okE, List.all_cons, List.all_nil, Bool.and_true, Bool.and_eq_true] at hok
  cases ha : ev Φ n a ρ with
  | none => rw [ha] at h; cases h
  | some v =>
  rw [ha] at h
  dsimp only at h
  cases ht : truthD v with
  | none => rw [ht] at h; cases h
  | some t =>
  rw [ht] at h
  dsimp only at h
  cases op with
  | And =>
    refine BoolOp_and (wpAny_mono (hE a ρ v m env X adr A s E ha hok.1 ok st R) (fun u s1 h1 => ?_) fun _ _ e => e)
    obtain ⟨h1, tk1, rfl, e1, r1⟩ := h1
    refine wpAny_mono (truth_sound ht r1.b) (fun c s2 h2 => ?_) fun _ _ e => e
    obtain ⟨h2, tk2, rfl, e2, rfl⟩ := h2
    cases c with
    | true =>
      rw [if_pos (by rfl)] at h
      simp only [if_true]
      refine BoolOp_one (wpAny_mono (hE b ρ d m env X adr A _ E h hok.2 ok (st.ext (e1.trans e2)) R) (fun v s3 h3 => EvP.lift (e1.trans e2) (fun _ _ _ x => x) h3) fun _ _ e => e)
    | false =>
      rw [if_neg (by decide)] at h
      cases h
      simp only [Bool.false_eq_true, if_false]
      exact ⟨h2, tk2, rfl, e1.trans e2, r1.ext e2⟩
  | Or =>
    refine BoolOp_or (wpAny_mono (hE a ρ v m env X adr A s E ha hok.1 ok st R) (fun u s1 h1 => ?_) fun _ _ e => e)
    obtain ⟨h1, tk1, rfl, e1, r1⟩ := h1
    refine wpAny_mono (truth_sound ht r1.b) (fun c s2 h2 => ?_) fun _ _ e => e
    obtain ⟨h2, tk2, rfl, e2, rfl⟩ := h2
    cases c with
    | true =>
      rw [if_neg (by decide)] at h
      cases h
      simp only [if_true]
      exact ⟨h2, tk2, rfl, e1.trans e2, r1.ext e2⟩
    | false =>
      rw [if_pos (by rfl)] at h
      simp only [Bool.false_eq_true, if_false]
      refine BoolOp_one (wpAny_mono (hE b ρ d m env X adr A _ E h hok.2 ok (st.ext (e1.trans e2)) R) (fun v s3 h3 => EvP.lift (e1.trans e2) (fun _ _ _ x => x) h3) fun _ _ e => e)

/-- both sides of a comparison -/
theorem cmp_both (hE : EvS prog w h₀ Φ k n) (hB : EvBS prog w h₀ Φ k n) {op : CmpOp} {l r : Expr} {a b : D} {c : Bool} (hl : (if op == .In || op == .NotIn then ev Φ n l ρ else evB Φ n l ρ) = some a) (hr : evB Φ n r ρ = some b) (hc : cmpD op a b = some c)
    (hokl : okE m env.scope l = true) (hokr : okE m env.scope r = true) (ok : EnvOk h₀ env) (st : St h₀ env X adr ρ s.heap) (R : Room (k + 1) A) :
    wpAny (model prog w) A (eval l env) (fun u s₁ => wpAny (model prog w) A (eval r env) (fun v s₂ => wpAny (model prog w) A (compareOp op u v) (EvP s fun h v => Rep h X v (.bool c)) E s₂) E s₁) E s := by
  have fin : ∀ (u : Value) (h1 : Heap) (tk1 : Nat), Ext s.heap h1 → (Rep h1 X u a ∨ (RepB h1 X u a ∧ op ≠ .In ∧ op ≠ .NotIn)) → wpAny (model prog w) A (eval r env) (fun v s₂ => wpAny (model prog w) A (compareOp op u v) (EvP s fun h v => Rep h X v (.bool c)) E s₂) E { s with heap := h1, toks := tk1 } := by
    intro u h1 tk1 e1 r1
    refine wpAny_mono (hB r ρ b m env X adr A _ E hr hokr ok (st.ext e1) R) (fun v s2 h2 => ?_) fun _ _ e => e
    obtain ⟨h2, tk2, rfl, e2, r2⟩ := h2
    have r1' : Rep h2 X u a ∨ (RepB h2 X u a ∧ op ≠ .In ∧ op ≠ .NotIn) := r1.imp (fun x => x.ext e2) fun x => ⟨x.1.ext e2, x.2⟩
    exact wpAny_mono (cmp_sound hc r1' r2 R) (fun v s3 h3 => EvP.lift (e1.trans e2) (fun _ _ _ x => x) h3) fun _ _ e => e
  by_cases ho : (op == .In || op == .NotIn) = true
  · rw [if_pos ho] at hl
    refine wpAny_mono (hE l ρ a m env X adr A s E hl hokl ok st R) (fun u s1 h1 => ?_) fun _ _ e => e
    obtain ⟨h1, tk1, rfl, e1, r1⟩ := h1
    exact fin u h1 tk1 e1 (.inl r1)
  · rw [if_neg ho] at hl
    refine wpAny_mono (hB l ρ a m env X adr A s E hl hokl ok st R) (fun u s1 h1 => ?_) fun _ _ e => e
    obtain ⟨h1, tk1, rfl, e1, r1⟩ := h1
    refine fin u h1 tk1 e1 (.inr ⟨r1, fun q => ho (by rw [q]; rfl), fun q => ho (by rw [q]; rfl)⟩)

theorem arm_cmp (hE : EvS prog w h₀ Φ k n) (hB : EvBS prog w h₀ Φ k n) {l r : Expr} {op : CmpOp} {p : Pos} (h : ev Φ (n + 1) (.Compare l [op] [r] p) ρ = some d) (hok : okE (m + 1) env.scope (.Compare l [op] [r] p) = true) (ok : EnvOk h₀ env) (st : St h₀ env X adr ρ s.heap) (R : Room (k + 1) A) :
    wpAny (model prog w) A (eval (.Compare l [op] [r] p) env) (EvP s fun h v => Rep h X v d) E s := by
  simp only [ev] at h
  simp only [okE, List.all_cons, List.all_nil, Bool.and_true, Bool.and_eq_true] at hok
  split at h
  · rename_i a b hl hr
    obtain ⟨c, hc, rfl⟩ := Option.map_eq_some_iff.mp h
    exact wpAny_Compare1 (cmp_both hE hB hl hr hc hok.1 hok.2 ok st R) (marks_plain (evB_plain hr).2.1)
  · cases h

theorem arm_ife (hE : EvS prog w h₀ Φ k n) (hT : TstS prog w h₀ Φ k n) {t b o : Expr} {p : Pos} (h : ev Φ (n + 1) (.IfExp t b o p) ρ = some d) (hok : okE (m + 1) env.scope (.IfExp t b o p) = true) (ok : EnvOk h₀ env) (st : St h₀ env X adr ρ s.heap) (R : Room (k + 1) A) :
    wpAny (model prog w) A (eval (.IfExp t b o p) env) (EvP s fun h v => Rep h X v d) E s := by
  simp only [ev] at h
  simp only [okE, Bool.and_eq_true] at hok
  cases ht : tst Φ n t ρ with
  | none => rw [ht] at h; cases h
  | some c =>
  rw [ht] at h
  refine PySem.wpAny_IfExp (wpAny_mono (hT t ρ c m env X adr A s E ht hok.1.1 ok st R) (fun c' s1 h1 => ?_) fun _ _ e => e)
  obtain ⟨h1, tk1, rfl, e1, rfl⟩ := h1
  cases c' with
  | true => exact wpAny_mono (hE b ρ d m env X adr A _ E h hok.1.2 ok (st.ext e1) R) (fun v s3 h3 => EvP.lift e1 (fun _ _ _ x => x) h3) fun _ _ e => e
  | false => exact wpAny_mono (hE o ρ d m env X adr A _ E h hok.2 ok (st.ext e1) R) (fun v s3 h3 => EvP.lift e1 (fun _ _ _ x => x) h3) fun _ _ e => e

/-- the parts of a display -/
theorem parts (hE : EvS prog w h₀ Φ k n) {es : List Expr} {ds : List D} {p : Pos} (h : mapO (fun e => ev Φ n e ρ) es = some ds) (hok : (es.all fun v => okE m env.scope v) = true) (ok : EnvOk h₀ env) (st : St h₀ env X adr ρ s.heap) (R : Room (k + 1) A) :
    wpAny (model prog w) A (spliced (backTo p (starEach es env))) (EvL s fun h vs => RepA h X vs ds) E s := by
  refine each_sound es ds s (mapO_length h) (fun e he => ?_) fun i e d h1 h2 h' tk e1 => ?_
  · obtain ⟨b, hb⟩ := mapO_all h e he
    exact (ev_plain hb).1
  · exact hE e ρ d m env X adr A _ E (mapO_at h i e d h1 h2) (List.all_eq_true.mp hok e (List.mem_of_getElem? h1)) ok (st.ext e1) R

/-- a new list -/
def FreshL (s : Shared) (X : Addr → Prop) (ds : List D) (h : Heap) (v : Value) : Prop := ∃ a vs n, v = .ref a ∧ s.heap.get? a = none ∧ h.get? a = some (lobj vs n) ∧ RepA h (fun b => X b ∨ b = a) vs ds
theorem FreshL.rep {X : Addr → Prop} {ds : List D} {h : Heap} {v : Value} (x : FreshL s X ds h v) (hX : ∀ a, X a → ∃ o, s.heap.get? a = some o) : Rep h X v (.lst ds) := by
  obtain ⟨a, vs, n, rfl, h1, h2, h3⟩ := x
  exact .lst (fun q => by obtain ⟨o, ho⟩ := hX _ q; rw [h1] at ho; cases ho) h2 (h3.anti fun _ q => .inl q)

theorem list_fresh (hE : EvS prog w h₀ Φ k n) {es : List Expr} {ds : List D} {p : Pos} (h : mapO (fun e => ev Φ n e ρ) es = some ds) (hok : (es.all fun v => okE m env.scope v) = true) (hl : ds.length ≤ lim) (ok : EnvOk h₀ env) (st : St h₀ env X adr ρ s.heap) (R : Room (k + 1) A) :
    wpAny (model prog w) A (eval (.List es p) env) (EvP s (FreshL s X ds)) E s := by
  refine List_ (wpAny_mono (parts hE h hok ok st R) (fun vs s1 h1 => ?_) fun _ _ e => e)
  obtain ⟨h1, tk1, rfl, e1, r1⟩ := h1
  refine wpAny_newObj_type (EvP.mk (e1.trans (Ext.rfl.push _)) ⟨h1.objs.size, vs, 0, rfl, ?_, Heap.get?_push_size _ rfl, (r1.out fun a q => q.imp id fun q => by rw [q]; exact fresh_not (Nat.le_refl _)).ext (Ext.rfl.push _)⟩) (by show vs.toArray.size ≤ sizeLine; rw [List.size_toArray, r1.length]; exact lim_le hl)
  cases hx : s.heap.get? h1.objs.size with
  | none => rfl
  | some o => exact absurd (Heap.lt_size (e1 _ _ hx)) (Nat.lt_irrefl _)

theorem arm_tuple (hE : EvS prog w h₀ Φ k n) {es : List Expr} {kd : Nat} {ds : List D} {p : Pos} (h : mapO (fun e => ev Φ n e ρ) es = some ds) (hok : (es.all fun v => okE m env.scope v) = true) (hl : ds.length ≤ lim) (ok : EnvOk h₀ env) (st : St h₀ env X adr ρ s.heap) (R : Room (k + 1) A) :
    wpAny (model prog w) A (eval (.Tuple es kd p) env) (EvP s fun h v => Rep h X v (.tup ds)) E s := by
  refine Tuple_ (wpAny_mono (parts hE h hok ok st R) (fun vs s1 h1 => ?_) fun _ _ e => e)
  obtain ⟨h1, tk1, rfl, e1, r1⟩ := h1
  refine wpAny_newObj_type (EvP.mk (e1.trans (Ext.rfl.push _)) (.tup (vs := vs) (n := 0) (fun q => ?_) (Heap.get?_push_size _ rfl) (r1.ext (Ext.rfl.push _)))) (by show vs.toArray.size ≤ sizeLine; rw [List.size_toArray, r1.length]; exact lim_le hl)
  obtain ⟨o, ho⟩ := st.dom _ q
  exact absurd (Heap.lt_size (e1 _ _ ho)) (Nat.lt_irrefl _)
end
end Mine
end

section
set_option Elab.async false
set_option maxRecDepth 100000
open PySem PySem.Calls PyProof.Rows
namespace Mine
section
variable {prog : Program} {w : World} {h₀ : Heap} {Φ : Str → List D → Option D} {k n m : Nat} {env : Env} {X : Addr → Prop} {adr : Str → Addr} {ρ : Ro} {A : Around} {s : Shared} {E : Value → Shared → Prop} {d : D}

theorem arm_idx (hE : EvS prog w h₀ Φ k n) (hB : EvBS prog w h₀ Φ k n) {o i : Expr} {p : Pos} {a x : D} (ho : evB Φ n o ρ = some a) (hi : ev Φ n i ρ = some x) (h : idxD a x = some d) (hok : okE m env.scope o = true) (hok' : okE m env.scope i = true) (ok : EnvOk h₀ env) (st : St h₀ env X adr ρ s.heap) (R : Room (k + 1) A) :
    wpAny (model prog w) A (eval (.Subscript o i p) env) (EvP s fun h v => Rep h X v d) E s := by
  refine Subscript_ (wpAny_mono (hB o ρ a m env X adr A s E ho hok ok st R) (fun u s1 h1 => ?_) fun _ _ e => e)
  obtain ⟨h1, tk1, rfl, e1, r1⟩ := h1
  refine wpAny_mono (hE i ρ x m env X adr A _ E hi hok' ok (st.ext e1) R) (fun v s2 h2 => ?_) fun _ _ e => e
  obtain ⟨h2, tk2, rfl, e2, r2⟩ := h2
  have : ∃ j, x = .int j := by
    unfold idxD at h
    split at h
    · exact ⟨_, rfl⟩
    · exact ⟨_, rfl⟩
    · cases h
  obtain ⟨j, rfl⟩ := this
  obtain ⟨t, rfl⟩ := rep_int r2
  exact wpAny_mono (idx_sound (ev_plain hi).2.2 h (r1.ext e2)) (fun v s3 h3 => EvP.lift (e1.trans e2) (fun _ _ _ x => x) h3) fun _ _ e => e

theorem slice_hi {a k : D} (h : sliceD a none (some k) = some d) : (∃ ds j, a = .lst ds ∧ k = .int j ∧ ds.length ≤ lim ∧ d = .lst ((ds.take (clipI ds.length j)).drop 0)) ∨ ∃ o cs, a = .txt o cs ∧ k = .int 0 ∧ d = .txt o [] := by
  cases a with
  | lst ds =>
    left
    cases k with
    | int j =>
      simp only [sliceD] at h
      split at h
      · rename_i hl
        obtain ⟨p, hp, rfl⟩ := Option.map_eq_some_iff.mp h
        split at hp
        · cases hp; exact ⟨ds, j, rfl, rfl, hl, rfl⟩
        · cases hp
      · cases h
    | _ => simp [sliceD] at h
  | txt o cs =>
    right
    cases k with
    | int j =>
      by_cases hj : j = 0
      · subst hj; simp only [sliceD] at h; cases h; exact ⟨o, cs, rfl, rfl, rfl⟩
      · have : sliceD (.txt o cs) none (some (.int j)) = none := by
          unfold sliceD
          dsimp only
          split
          · rename_i q; cases q; exact absurd rfl hj
          · rfl
        rw [this] at h; cases h
    | _ => simp [sliceD] at h
  | _ => simp [sliceD] at h
theorem slice_lo {a k : D} (h : sliceD a (some k) none = some d) : ∃ ds j, a = .lst ds ∧ k = .int j ∧ ds.length ≤ lim ∧ d = .lst ((ds.take ds.length).drop (clipI ds.length j)) := by
  cases a with
  | lst ds =>
    cases k with
    | int j =>
      simp only [sliceD] at h
      split at h
      · rename_i hl
        obtain ⟨p, hp, rfl⟩ := Option.map_eq_some_iff.mp h
        split at hp
        · cases hp; exact ⟨ds, j, rfl, rfl, hl, rfl⟩
        · cases hp
      · cases h
    | _ => simp [sliceD] at h
  | _ => simp [sliceD] at h

theorem arm_slice_hi {m' : Nat} (hE : EvS prog w h₀ Φ k n) (hB : EvBS prog w h₀ Φ k n) {o u : Expr} {p p' : Pos} {a x : D} (ho : evB Φ n o ρ = some a) (hi : ev Φ n u ρ = some x) (h : sliceD a none (some x) = some d) (hok : okE m env.scope o = true) (hok' : okE m' env.scope u = true) (ok : EnvOk h₀ env) (st : St h₀ env X adr ρ s.heap) (R : Room (k + 1) A) :
    wpAny (model prog w) A (eval (.Subscript o (.Slice none (some u) none p') p) env) (EvP s fun h v => Rep h X v d) E s := by
  refine Subscript_ (wpAny_mono (hB o ρ a m env X adr A s E ho hok ok st R) (fun ov s1 h1 => ?_) fun _ _ e => e)
  obtain ⟨h1, tk1, rfl, e1, r1⟩ := h1
  refine wpAny_Slice (wpAny_pure ?_)
  refine wpAny_mono (hE u ρ x m' env X adr A _ E hi hok' ok (st.ext e1) R) (fun v s2 h2 => wpAny_pure ?_) fun _ _ e => e
  obtain ⟨h2, tk2, rfl, e2, r2⟩ := h2
  have e3 : Ext h2 (h2.push { cls := .type "slice", data := .fields #[.none, v, .none] }) := Ext.rfl.push _
  have r1' := (r1.ext e2).ext e3
  rcases slice_hi h with ⟨ds, j, rfl, rfl, hl, rfl⟩ | ⟨oo, cs, rfl, rfl, rfl⟩
  · obtain ⟨t, rfl⟩ := rep_int r2
    exact wpAny_mono (sliceL_sound (lo := none) (hi := some j) hl r1' (Heap.IsSliceOf.new _ _ _ _) .none (.int _ _) (dom_ext e3 (dom_ext e2 (dom_ext e1 st.dom)))) (fun v s3 h3 => EvP.lift ((e1.trans e2).trans e3) (fun _ _ _ x => x) h3) fun _ _ e => e
  · obtain ⟨t, rfl⟩ := rep_int r2
    exact wpAny_mono (sliceT_sound (show Rep _ X ov (.txt oo cs) from r1') (Heap.get?_push_size _ rfl)) (fun v s3 h3 => EvP.lift ((e1.trans e2).trans e3) (fun _ _ _ x => x) h3) fun _ _ e => e
theorem arm_slice_lo {m' : Nat} (hE : EvS prog w h₀ Φ k n) (hB : EvBS prog w h₀ Φ k n) {o u : Expr} {p p' : Pos} {a x : D} (ho : evB Φ n o ρ = some a) (hi : ev Φ n u ρ = some x) (h : sliceD a (some x) none = some d) (hok : okE m env.scope o = true) (hok' : okE m' env.scope u = true) (ok : EnvOk h₀ env) (st : St h₀ env X adr ρ s.heap) (R : Room (k + 1) A) :
    wpAny (model prog w) A (eval (.Subscript o (.Slice (some u) none none p') p) env) (EvP s fun h v => Rep h X v d) E s := by
  refine Subscript_ (wpAny_mono (hB o ρ a m env X adr A s E ho hok ok st R) (fun ov s1 h1 => ?_) fun _ _ e => e)
  obtain ⟨h1, tk1, rfl, e1, r1⟩ := h1
  refine wpAny_Slice ?_
  refine wpAny_mono (hE u ρ x m' env X adr A _ E hi hok' ok (st.ext e1) R) (fun v s2 h2 => wpAny_pure (wpAny_pure ?_)) fun _ _ e => e
  obtain ⟨h2, tk2, rfl, e2, r2⟩ := h2
  have e3 : Ext h2 (h2.push { cls := .type "slice", data := .fields #[v, .none, .none] }) := Ext.rfl.push _
  have r1' := (r1.ext e2).ext e3
  obtain ⟨ds, j, rfl, rfl, hl, rfl⟩ := slice_lo h
  obtain ⟨t, rfl⟩ := rep_int r2
  exact wpAny_mono (sliceL_sound (lo := some j) (hi := none) hl r1' (Heap.IsSliceOf.new _ _ _ _) (.int _ _) .none (dom_ext e3 (dom_ext e2 (dom_ext e1 st.dom)))) (fun v s3 h3 => EvP.lift ((e1.trans e2).trans e3) (fun _ _ _ x => x) h3) fun _ _ e => e

theorem arm_meth (hE : EvS prog w h₀ Φ k n) (hB : EvBS prog w h₀ Φ k n) {o a : Expr} {name : Str} {ap pos : Pos} {x y : D} (ho : evB Φ n o ρ = some x) (ha : ev Φ n a ρ = some y) (h : methD name x [y] = some d) (hok : okE m env.scope o = true) (hok' : okE m env.scope a = true) (hc : notCall0 o = true) (hl : (ap.endLine == pos.line) = true)
    (ok : EnvOk h₀ env) (st : St h₀ env X adr ρ s.heap) (R : Room (k + 1) A) :
    wpAny (model prog w) A (eval (.Call (.Attribute o name ap) [a] [] pos) env) (EvP s fun h v => Rep h X v d) E s := by
  have he : starEach [a] env = (false, eval a env) :: starEach [] env := star_plain (ev_plain ha).1
  refine wpAny_Call_method_lateS ?_ ?_ hl (wpAny_mono (hB o ρ x m env X adr A s E ho hok ok st R) (fun ov s1 h1 => ?_) fun _ _ e => e)
  · cases o <;> first | rfl | skip
    rename_i f as ks p
    cases as with
    | nil => cases hc
    | cons _ _ => cases f <;> rfl
  · rw [he]; rfl
  · obtain ⟨h1, tk1, rfl, e1, r1⟩ := h1
    obtain ⟨T, id, pa, slot, hty, hT, hd, hcall⟩ := meth_at (prog := prog) (w := w) (A := A) (s := { s with heap := h1, toks := tk1 }) h r1 R
    refine ⟨T, id, pa, slot, hty, hT, hd, callWith_method1 (wpAny_mono (each_sound (X := X) [a] [y] _ rfl (fun e he' => by rw [List.mem_singleton] at he'; rw [he']; exact (ev_plain ha).1) fun i e d' h1' h2' h' tk e2 => ?_) (fun vs s2 h2 => ?_) fun _ _ e => e) he rfl⟩
    · cases i with
      | zero => simp at h1' h2'; subst h1'; subst h2'; exact hE a ρ y m env X adr A _ E ha hok' ok (st.ext (e1.trans e2)) R
      | succ i => simp at h1'
    · obtain ⟨h2, tk2, rfl, e2, r2⟩ := h2
      cases r2 with
      | cons rv rn =>
      cases rn
      exact wpAny_mono (hcall { s with heap := h2, toks := tk2 } _ E (r1.ext e2) rv (dom_ext e2 (dom_ext e1 st.dom))) (fun v s3 h3 => EvP.lift (e1.trans e2) (fun _ _ _ x => x) h3) fun _ _ e => e
end
end Mine
end

section
set_option Elab.async false
set_option maxRecDepth 100000
open PySem PySem.Calls PyProof.Rows
namespace Mine
theorem Glb.get {h₀ : Heap} (g : Glb h₀) {x : String} {v : Value} (h : (x, v) ∈ btab) : GlobOk h₀ (S x) v := g _ h

section
variable {prog : Program} {w : World} {h₀ : Heap} {Φ : Str → List D → Option D} {k n m : Nat} {env : Env} {X : Addr → Prop} {adr : Str → Addr} {ρ : Ro} {A : Around} {s : Shared} {E : Value → Shared → Prop} {d : D}

theorem okG_of {sc : Scope} {x : Str} (h : okG sc x = true) : sc.names.lookup x = some .globalImplicit ∧ (x == ("__debug__" : Str)) = false := by
  unfold okG at h
  rw [Bool.and_eq_true] at h
  exact ⟨by simpa using h.1, by simpa using h.2⟩

theorem glob_at {x : Str} {p : Pos} {v : Value} {Q : Value → Shared → Prop} (st : St h₀ env X adr ρ s.heap) (ok : EnvOk h₀ env) (hk : okG env.scope x = true) (g : GlobOk h₀ x v) (h : Q v s) : wpAny (model prog w) A (eval (.Name x p) env) Q E s :=
  st.glob ok (okG_of hk).1 (okG_of hk).2 g h

theorem arm_isi (hE : EvS prog w h₀ Φ k n) (G : Glb h₀) {a : Expr} {fp tp pos : Pos} {t : Str} {T : String} {x r : D} (ha : ev Φ n a ρ = some x) (hok : okE m env.scope a = true) (hf : okG env.scope (S "isinstance") = true) (ht : okG env.scope t = true) (gt : GlobOk h₀ t (.type T))
    (hc : ∀ (s' : Shared) v, Rep s'.heap X v x → wpAny (model prog w) A (call (.builtin "isinstance") [v, .type T]) (EvP s' fun h v => Rep h X v r) E s')
    (ok : EnvOk h₀ env) (st : St h₀ env X adr ρ s.heap) (R : Room (k + 1) A) :
    wpAny (model prog w) A (eval (.Call (.Name (S "isinstance") fp) [a, .Name t tp] [] pos) env) (EvP s fun h v => Rep h X v r) E s := by
  have he : starEach [a, .Name t tp] env = (false, eval a env) :: starEach [.Name t tp] env := star_plain (ev_plain ha).1
  refine Call_Name rfl (glob_at st ok hf (G.get (v := .builtin "isinstance") (by simp [btab])) ?_)
  refine callWith_builtin1 ?_ he rfl
  rw [he]
  refine spliced_cons (wpAny_mono (hE a ρ x m env X adr A s E ha hok ok st R) (fun u s1 h1 => ?_) fun _ _ e => e)
  obtain ⟨h1, tk1, rfl, e1, r1⟩ := h1
  refine spliced_cons (glob_at (st.ext e1) ok ht gt (spliced_nil ?_))
  exact wpAny_mono (hc _ _ r1) (fun v s3 h3 => EvP.lift e1 (fun _ _ _ x => x) h3) fun _ _ e => e

theorem arm_isc (hE : EvS prog w h₀ Φ k n) (G : Glb h₀) {a : Expr} {fp tp up pos pt : Pos} {kd : Nat} {T : String} (ha : ev Φ n a ρ = some (.typ T)) (hT : T = "str" ∨ T = "bytes") (hok : okE m env.scope a = true) (hf : okG env.scope (S "issubclass") = true) (ht : okG env.scope (S "str") = true) (hu : okG env.scope (S "bytes") = true)
    (ok : EnvOk h₀ env) (st : St h₀ env X adr ρ s.heap) (R : Room (k + 1) A) :
    wpAny (model prog w) A (eval (.Call (.Name (S "issubclass") fp) [a, .Tuple [.Name (S "str") tp, .Name (S "bytes") up] kd pt] [] pos) env) (EvP s fun h v => Rep h X v (.bool true)) E s := by
  have he : starEach [a, .Tuple [.Name (S "str") tp, .Name (S "bytes") up] kd pt] env = (false, eval a env) :: starEach [.Tuple [.Name (S "str") tp, .Name (S "bytes") up] kd pt] env := star_plain (ev_plain ha).1
  refine Call_Name rfl (glob_at st ok hf (G.get (v := .builtin "issubclass") (by simp [btab])) ?_)
  refine callWith_builtin1 ?_ he rfl
  rw [he]
  refine spliced_cons (wpAny_mono (hE a ρ _ m env X adr A s E ha hok ok st R) (fun u s1 h1 => ?_) fun _ _ e => e)
  obtain ⟨h1, tk1, rfl, e1, r1⟩ := h1
  cases r1
  refine spliced_cons (Tuple_ (k := kd) ?_)
  refine spliced_cons (glob_at (st.ext e1) ok ht (G.get (v := .type "str") (by simp [btab])) (spliced_cons (glob_at (st.ext e1) ok hu (G.get (v := .type "bytes") (by simp [btab])) (spliced_nil ?_))))
  refine wpAny_newObj_type (spliced_nil ?_)
  refine wpAny_mono (isc_sound (X := X) (n := 0) hT (Heap.get?_push_size _ rfl)) (fun v s3 h3 => EvP.lift (e1.trans (Ext.rfl.push _)) (fun _ _ _ x => x) h3) fun _ _ e => e

theorem rep_txt_free {h h' : Heap} {X X' : Addr → Prop} {v : Value} {o : Bool} {cs : List Nat} (r : Rep h X v (.txt o cs)) : Rep h' X' v (.txt o cs) := by
  cases r with
  | str c t => exact .str _ _
  | bytes c t hc => exact .bytes _ _ hc
theorem isTxt_of {d : D} (h : isTxt d = true) : ∃ o cs, d = .txt o cs := by cases d <;> first | exact ⟨_, _, rfl⟩ | cases h

theorem arm_map (hE : EvS prog w h₀ Φ k n) (G : Glb h₀) (hΦ : PhiOk prog w h₀ Φ k) {a : Expr} {fp mp gp pos pos' : Pos} {g : Str} {ds out : List D} (ha : ev Φ n a ρ = some (.lst ds)) (hl : 1 ≤ ds.length ∧ ds.length ≤ 64) (htx : ds.all isTxt = true) (ho : mapO (fun d => Φ g [d]) ds = some out) (hto : out.all isTxt = true)
    (hok : okE m env.scope a = true) (hf : okG env.scope (S "tuple") = true) (hm : okG env.scope (S "map") = true) (hg : okG env.scope g = true) (ok : EnvOk h₀ env) (st : St h₀ env X adr ρ s.heap) (R : Room (k + 1) A) :
    wpAny (model prog w) A (eval (.Call (.Name (S "tuple") fp) [.Call (.Name (S "map") mp) [.Name g gp, a] [] pos'] [] pos) env) (EvP s fun h v => Rep h X v (.tup out)) E s := by
  have hlo := mapO_length ho
  obtain ⟨fa, fo, fd, gf, hfo, hfd, hcall⟩ := hΦ g ⟨[ds[0]'hl.1], out[0]'(hlo ▸ hl.1), mapO_at ho 0 _ _ (by simp [hl.1]) (by simp [hlo ▸ hl.1])⟩
  refine Call_Name rfl (glob_at st ok hf (G.get (v := .type "tuple") (by simp [btab])) ?_)
  refine PyProof.Rows.callWith_type1 ?_ rfl rfl
  refine spliced_cons (Call_Name rfl (glob_at st ok hm (G.get (v := .type "map") (by simp [btab])) ?_))
  refine PyProof.Rows.callWith_type1 ?_ rfl (by rw [star_plain (ev_plain ha).1]; rfl)
  refine spliced_cons (glob_at st ok hg gf ?_)
  rw [star_plain (ev_plain ha).1]
  refine spliced_cons (wpAny_mono (hE a ρ _ m env X adr A s E ha hok ok st R) (fun u s1 h1 => ?_) fun _ _ e => e)
  obtain ⟨h1, tk1, rfl, e1, r1⟩ := h1
  refine spliced_nil ?_
  cases r1 with
  | lst hx hlo' hr =>
  rename_i l vs nn
  have hvl := hr.length
  refine wpAny_mono (tuple_map_sound (s := { s with heap := h1, toks := tk1 }) (P := fun i v => ∃ d, out[i]? = some d ∧ isTxt d = true ∧ ∀ h X, Rep h X v d) (Q := EvP s fun h v => Rep h X v (.tup out)) R.handled hlo' (by rw [hvl]; exact lim_le (Nat.le_trans hl.2 (by decide))) ?_ fun h' tk acc e2 hacc => ?_) (fun v s2 h2 => spliced_nil h2) fun _ _ e => e
  · intro i v s' Q' E' hv e2 hQ'
    obtain ⟨di, hdi, rdi⟩ := hr.get' hv
    have hi : i < ds.length := by
      rcases Nat.lt_or_ge i ds.length with h | h
      · exact h
      · rw [List.getElem?_eq_none h] at hdi; cases hdi
    have hoi : out[i]? = some (out[i]'(hlo ▸ hi)) := by simp [hlo ▸ hi]
    have hcl := mapO_at ho i di _ hdi hoi
    obtain ⟨o, cs, rfl⟩ := isTxt_of (List.all_eq_true.mp htx di (List.mem_of_getElem? hdi))
    have hto' := List.all_eq_true.mp hto _ (List.mem_of_getElem? hoi)
    have room : Room k A.in1.in1.in1.in1 := ⟨R.handled, by have := R.depth; show A.depth + k ≤ 900; omega, by have := R.units; show A.units + 1 + 1 + 1 + 1 + 100 * k ≤ 9000; omega⟩
    refine wpAny_mono (hcall [.txt o cs] _ hcl A.in1.in1.in1.in1 s' (fun _ => False) [v] E' ((st.base.trans e1).trans e2) (fun a q => q.elim) (fun a q => q.elim) (.cons (rep_txt_free rdi) .nil) room) (fun y s3 h3 => ?_) fun _ _ e => e
    obtain ⟨h3, tk3, rfl, e3, r3⟩ := h3
    refine hQ' y h3 tk3 ⟨_, hoi, hto', fun h X => ?_⟩ e3
    obtain ⟨o', cs', hoc⟩ := isTxt_of hto'
    rw [hoc] at r3 ⊢
    exact rep_txt_free r3
  · refine EvP.mk (e1.trans (e2.trans (Ext.rfl.push _))) ?_
    have hrep : RepA (h'.push { cls := .type "tuple", data := .seq acc }) X acc.toList out := by
      have hsz : acc.toList.length = out.length := by rw [Array.length_toList, hacc.1, hvl, hlo]
      have key : ∀ (xs : List Value) (ys : List D), xs.length = ys.length → (∀ (i : Nat) v, xs[i]? = some v → ∃ d, ys[i]? = some d ∧ Rep (h'.push { cls := .type "tuple", data := .seq acc }) X v d) → RepA (h'.push { cls := .type "tuple", data := .seq acc }) X xs ys := by
        intro xs
        induction xs with
        | nil => intro ys hl _; cases ys with
          | nil => exact .nil
          | cons _ _ => simp at hl
        | cons x xs ih => intro ys hl h; cases ys with
          | nil => simp at hl
          | cons y ys =>
            obtain ⟨d, h1, h2⟩ := h 0 x rfl
            simp at h1; subst h1
            exact .cons h2 (ih ys (by simpa using hl) fun i v hv => by have := h (i + 1) v (by simpa using hv); simpa using this)
      refine key _ _ hsz fun i v hv => ?_
      obtain ⟨d, h1, _, h2⟩ := hacc.2 i v (by simpa using hv)
      exact ⟨d, h1, h2 _ _⟩
    refine .tup (vs := acc.toList) (n := 0) (fun q => ?_) (by have := Heap.get?_push_size h' (o := { cls := .type "tuple", data := .seq acc }) rfl; simpa using this) hrep
    obtain ⟨o, ho⟩ := st.dom _ q
    exact Nat.lt_irrefl _ (Heap.lt_size (e2 _ _ (e1 _ _ ho)))
end
end Mine
end

section
set_option Elab.async false
set_option maxRecDepth 100000
open PySem PySem.Calls PyProof.Rows
namespace Mine
section
variable {prog : Program} {w : World} {h₀ : Heap} {Φ : Str → List D → Option D} {k n m : Nat} {env : Env} {X : Addr → Prop} {adr : Str → Addr} {ρ : Ro} {A : Around} {s : Shared} {E : Value → Shared → Prop} {d : D}

theorem bval_at {f : Str} (h : builtins1.contains f = true) : f ≠ S "sorted" ∧ ((∃ id, bval f = .builtin id) ∨ ∃ T, bval f = .type T) ∧ ∀ h₀, Glb h₀ → GlobOk h₀ f (bval f) := by
  have h : f ∈ builtins1 := by simpa using h
  simp only [builtins1, List.mem_cons, List.not_mem_nil, or_false] at h
  rcases h with rfl | rfl | rfl | rfl | rfl | rfl
  · exact ⟨by decide, .inl ⟨_, rfl⟩, fun h₀ G => G.get (v := .builtin "len") (by simp [btab])⟩
  · exact ⟨by decide, .inl ⟨_, rfl⟩, fun h₀ G => G.get (v := .builtin "sum") (by simp [btab])⟩
  · exact ⟨by decide, .inr ⟨_, rfl⟩, fun h₀ G => G.get (v := .type "type") (by simp [btab])⟩
  · exact ⟨by decide, .inr ⟨_, rfl⟩, fun h₀ G => G.get (v := .type "list") (by simp [btab])⟩
  · exact ⟨by decide, .inl ⟨_, rfl⟩, fun h₀ G => G.get (v := .builtin "max") (by simp [btab])⟩
  · exact ⟨by decide, .inl ⟨_, rfl⟩, fun h₀ G => G.get (v := .builtin "min") (by simp [btab])⟩

theorem arm_b1 (hB : EvBS prog w h₀ Φ k n) (G : Glb h₀) {f : Str} {a : Expr} {fp pos : Pos} {x : D} (hf : builtins1.contains f = true) (ha : evB Φ n a ρ = some x) (h : callD f [x] = some d) (hok : okE m env.scope a = true) (hg : okG env.scope f = true) (ok : EnvOk h₀ env) (st : St h₀ env X adr ρ s.heap) (R : Room (k + 1) A) :
    wpAny (model prog w) A (eval (.Call (.Name f fp) [a] [] pos) env) (EvP s fun h v => Rep h X v d) E s := by
  obtain ⟨hs, hv, hgl⟩ := bval_at hf
  have he : starEach [a] env = (false, eval a env) :: starEach [] env := star_plain (evB_plain ha).1
  have hcl : cLine = 9900 := rfl
  have hu : A.in1.units < cLine := by have := R.units; show A.units + 1 < cLine; omega
  refine Call_Name rfl (glob_at st ok hg (hgl _ G) ?_)
  have main : wpAny (model prog w) A (spliced (backTo pos (starEach [a] env))) (fun vs s₁ => wpAny (model prog w) A (call (bval f) vs) (EvP s fun h v => Rep h X v d) E s₁) E s := by
    rw [he]
    refine spliced_cons (wpAny_mono (hB a ρ x m env X adr A s E ha hok ok st R) (fun u s1 h1 => spliced_nil ?_) fun _ _ e => e)
    obtain ⟨h1, tk1, rfl, e1, r1⟩ := h1
    exact wpAny_mono (callD_sound R.handled hu (dom_ext e1 st.dom) hs h r1) (fun v s3 h3 => EvP.lift e1 (fun _ _ _ x => x) h3) fun _ _ e => e
  rcases hv with ⟨id, hv⟩ | ⟨T, hv⟩
  · rw [hv] at main ⊢; exact callWith_builtin1 main he rfl
  · rw [hv] at main ⊢; exact PyProof.Rows.callWith_type1 main he rfl

theorem arm_phi (hE : EvS prog w h₀ Φ k n) (hΦ : PhiOk prog w h₀ Φ k) {f : Str} {args : List Expr} {fp pos : Pos} {ds : List D} (ha : mapO (fun e => ev Φ n e ρ) args = some ds) (h : Φ f ds = some d) (hne : args ≠ []) (hok : (args.all fun v => okE m env.scope v) = true) (hg : okG env.scope f = true) (ok : EnvOk h₀ env) (st : St h₀ env X adr ρ s.heap) (R : Room (k + 1) A) :
    wpAny (model prog w) A (eval (.Call (.Name f fp) args [] pos) env) (EvP s fun h v => Rep h X v d) E s := by
  obtain ⟨fa, fo, fd, gf, hfo, hfd, hcall⟩ := hΦ f ⟨ds, d, h⟩
  refine Call_Name rfl (glob_at st ok hg gf ?_)
  cases args with
  | nil => exact absurd rfl hne
  | cons a0 rest =>
  obtain ⟨d0, hd0⟩ := mapO_all ha a0 (.head _)
  have he : starEach (a0 :: rest) env = (false, eval a0 env) :: starEach rest env := star_plain (ev_plain hd0).1
  refine callWith_def hfd ?_ he
  refine wpAny_mono (parts hE ha hok ok st R) (fun vs s1 h1 => ?_) fun _ _ e => e
  obtain ⟨h1, tk1, rfl, e1, r1⟩ := h1
  refine ⟨e1 _ _ (st.base _ _ hfo), ?_⟩
  have room : Room k A := ⟨R.handled, by have := R.depth; omega, by have := R.units; omega⟩
  exact wpAny_mono (hcall ds d h A _ X vs E (st.base.trans e1) (dom_ext e1 st.dom) st.out r1 room) (fun v s3 h3 => EvP.lift e1 (fun _ _ _ x => x) h3) fun _ _ e => e

theorem comp_fresh (hT : TstS prog w h₀ Φ k n) (hS : SrcS prog w h₀ Φ k n) (hC : CompS prog w h₀ Φ k n) {elt : Expr} {gens : List Comprehension} {scope : Scope} {pos : Pos} {ds : List D} (h : comp Φ (n + 1) elt gens (hide scope ρ) = some ds) (hl : ds.length ≤ lim)
    (hok : okE (m + 1) env.scope (.ListComp elt gens scope pos) = true) (ok : EnvOk h₀ env) (st : St h₀ env X adr ρ s.heap) (R : Room (k + 1) A) {use : Option (Value → Sem Unit)} {Q : Value → Shared → Prop} {ps : Pos}
    (hQ : ∀ D C h' tk vs nn m', s.heap.get? D = none → s.heap.get? C = none → D ≠ C → Ext s.heap h' → h'.get? D = some (lobj vs nn) → h'.Ns C m' → RepA h' (fun b => X b ∨ b = D) vs ds → compPost (model prog w) A E use Q (.ref D) C (.ok .next) { s with heap := h', toks := tk }) :
    wpAny (model prog w) A (comprehension (.ListComp elt gens scope pos) scope env ps (newList []) (firstAsync gens) (firstIter gens env) use) Q E s := by
  simp only [okE] at hok
  rw [Bool.and_eq_true] at hok
  obtain ⟨hsc, hok⟩ := hok
  have sok := ScopeOk.of hsc
  cases gens with
  | nil => cases hok
  | cons g rest =>
  dsimp only at hok
  simp only [Bool.and_eq_true] at hok
  obtain ⟨⟨⟨⟨hgi, hgf⟩, hgt⟩, hro⟩, hoe⟩ := hok
  have hasy : firstAsync (g :: rest) = false := by
    have ha := (target_ok hgt).1
    obtain ⟨tg, it, ifs, asy⟩ := g
    show (asy != 0) = false
    dsimp only at ha
    rw [ha]; rfl
  rw [hasy]
  obtain ⟨cl, hclos, hcl1, hcl2⟩ := closure_st sok st
  have hro' : (rest.all fun g => okGen m (relab scope env.scope) g) = true := by
    rw [List.all_eq_true] at hro ⊢
    intro g' hg'
    have := hro g' hg'
    unfold okGen
    simpa using this
  have hfold : ∀ x, foldedSetIterable g.iter env x = pure x := by
    have h2 := h
    obtain ⟨_, x, px, ht, _⟩ := target_ok hgt
    have ha := (target_ok hgt).1
    obtain ⟨tg, it, ifs, asy⟩ := g
    dsimp only at ht ha
    subst ht; subst ha
    simp only [comp] at h2
    split at h2
    · cases h2
    · split at h2
      · rename_i hsrc
        exact fold_plain (src_plain hsrc)
      · cases h2
  have hfi : firstIter (g :: rest) env = eval g.iter env := by obtain ⟨tg, it, ifs, asy⟩ := g; rfl
  rw [hfi]
  refine wpAny_comprehension_free (use := use) rfl hfold hclos sok.kind sok.loc ?_
  exact comp_core hT hS hC (RR := compPost (model prog w) A E use Q) h sok hgi hgf hgt hro' hoe ok st R hl ⟨hcl1, hcl2⟩ hQ

theorem listcomp_fresh (hT : TstS prog w h₀ Φ k n) (hS : SrcS prog w h₀ Φ k n) (hC : CompS prog w h₀ Φ k n) {elt : Expr} {gens : List Comprehension} {scope : Scope} {pos : Pos} {ds : List D} (h : comp Φ (n + 1) elt gens (hide scope ρ) = some ds) (hl : ds.length ≤ lim)
    (hok : okE (m + 1) env.scope (.ListComp elt gens scope pos) = true) (ok : EnvOk h₀ env) (st : St h₀ env X adr ρ s.heap) (R : Room (k + 1) A) :
    wpAny (model prog w) A (eval (.ListComp elt gens scope pos) env) (EvP s (FreshL s X ds)) E s := by
  rw [eval_ListComp]
  refine comp_fresh hT hS hC h hl hok ok st R fun D C h' tk vs nn m' hD hC' hDC e hd hn hr => ?_
  refine ⟨m', hn, fun h'' hs => ?_⟩
  have hc : ∀ o vs n, h'.get? C = some o → o.data = .seq vs n → False := fun o vs n ho hd => seq_not_dict ho hd hn
  refine ⟨h'', tk, rfl, fun b o ho => (hs.2 b (fun q => by rw [q, hC'] at ho; cases ho)).trans (e b o ho), D, vs, nn, rfl, hD, (hs.2 D hDC).trans hd, hr.move (same_keep hs hc _) fun _ p _ => p⟩
end
end Mine
end

section
set_option Elab.async false
set_option maxRecDepth 100000
open PySem PySem.Calls PyProof.Rows
namespace Mine
section
variable {prog : Program} {w : World} {h₀ : Heap} {Φ : Str → List D → Option D} {k n : Nat}

structure All (prog : Program) (w : World) (h₀ : Heap) (Φ : Str → List D → Option D) (k n : Nat) : Prop where
  ev : EvS prog w h₀ Φ k n
  evB : EvBS prog w h₀ Φ k n
  tst : TstS prog w h₀ Φ k n
  src : SrcS prog w h₀ Φ k n
  comp : CompS prog w h₀ Φ k n

theorem all_zero : All prog w h₀ Φ k 0 where
  ev := fun e ρ d m env X adr A s E h => by cases h
  evB := fun e ρ d m env X adr A s E h => by cases h
  tst := fun e ρ d m env X adr A s E h => by cases h
  src := fun e ρ d m env X adr A s E h => by cases h
  comp := fun e gens scope pos depth ρ ds m env X adr A s Dc ws outs h => by cases h

theorem evBS_succ (a : All prog w h₀ Φ k n) : EvBS prog w h₀ Φ k (n + 1) := by
  intro e ρ d m env X adr A s E h hok ok st R
  have gen : ∀ {e : Expr}, Mine.ev Φ n e ρ = some d → okE m env.scope e = true → wpAny (model prog w) A (eval e env) (EvP s fun h v => RepB h X v d) E s := fun h hok =>
    wpAny_mono (a.ev _ ρ d m env X adr A s E h hok ok st R) (fun v s' hp => hp.mono fun _ _ r => r.b) fun _ _ e => e
  cases e with
  | Name x p =>
    cases m with
    | zero => cases hok
    | succ m =>
    simp only [okE, Bool.and_eq_true] at hok
    exact st.nameB ok hok.1 (by simpa using hok.2) h
  | _ => exact gen h hok

theorem isTrue_plain {e : Expr} {env : Env} {whole : Sem Value} (h1 : ∀ x p, e ≠ .UnaryOp .Not x p) (h2 : ∀ o v p, e ≠ .BoolOp o v p) (h3 : ∀ t b o p, e ≠ .IfExp t b o p) (h4 : ∀ l o c p, e ≠ .Compare l o c p) : isTrue e env whole = (do let v ← whole; standAt e.pos; holding [v] (truthy v)) := by
  cases e <;> first | rfl | exact absurd rfl (h2 _ _ _) | exact absurd rfl (h3 _ _ _ _) | exact absurd rfl (h4 _ _ _ _) | skip
  rename_i op x p
  cases op <;> first | rfl | exact absurd rfl (h1 _ _)

theorem tstS_succ (a : All prog w h₀ Φ k n) : TstS prog w h₀ Φ k (n + 1) := by
  intro e ρ b m env X adr A s E h hok ok st R
  cases m with
  | zero => cases hok
  | succ m =>
  have gen : ∀ {e : Expr}, (∀ x p, e ≠ .UnaryOp .Not x p) → (∀ o v p, e ≠ .BoolOp o v p) → (∀ t b o p, e ≠ .IfExp t b o p) → (∀ l o c p, e ≠ .Compare l o c p) → (match Mine.ev Φ n e ρ with | some d => truthD d | Option.none => Option.none) = some b → okE (m + 1) env.scope e = true →
      wpAny (model prog w) A (isTrue e env (eval e env)) (BoP s fun c => c = b) E s := by
    intro e h1 h2 h3 h4 h hok
    cases he : Mine.ev Φ n e ρ with
    | none => rw [he] at h; cases h
    | some d =>
    rw [he] at h
    refine wpAny_isTrue_value (wpAny_mono (a.ev e ρ d _ env X adr A s E he hok ok st R) (fun v s1 h1 => ?_) fun _ _ e => e) (isTrue_plain h1 h2 h3 h4)
    obtain ⟨h1, tk1, rfl, e1, r1⟩ := h1
    exact wpAny_mono (truth_sound h r1.b) (fun c s2 h2 => BoP.lift e1 h2) fun _ _ e => e
  cases e with
  | UnaryOp op x p =>
    cases op with
    | Not =>
      simp only [Mine.tst] at h
      simp only [okE] at hok
      obtain ⟨c, hc, rfl⟩ := Option.map_eq_some_iff.mp h
      refine wpAny_isTrue_Not (wpAny_mono (a.tst x ρ c m env X adr A s E hc hok ok st R) (fun c' s1 h1 => ?_) fun _ _ e => e)
      obtain ⟨h1, tk1, rfl, e1, rfl⟩ := h1
      exact ⟨h1, tk1, rfl, e1, rfl⟩
    | _ => exact gen (fun _ _ q => by cases q) (fun _ _ _ q => by cases q) (fun _ _ _ _ q => by cases q) (fun _ _ _ _ q => by cases q) h hok
  | IfExp t b' o p => cases h
  | BoolOp op vs p =>
    rcases vs with _ | ⟨x, _ | ⟨y, _ | ⟨z, r⟩⟩⟩
    · simp only [Mine.tst] at h; cases n <;> cases h
    · simp only [Mine.tst] at h; cases n <;> cases h
    · simp only [Mine.tst] at h
      simp only [okE, List.all_cons, List.all_nil, Bool.and_true, Bool.and_eq_true] at hok
      cases hx : Mine.tst Φ n x ρ with
      | none => rw [hx] at h; cases h
      | some t =>
      rw [hx] at h
      dsimp only at h
      refine wpAny_isTrue_BoolOp ?_
      cases op with
      | And =>
        refine wpAny_allTrue_And_cons (wpAny_mono (a.tst x ρ t m env X adr A s E hx hok.1 ok st R) (fun c s1 h1 => ?_) fun _ _ e => e)
        obtain ⟨h1, tk1, rfl, e1, rfl⟩ := h1
        cases c with
        | true =>
          rw [if_pos (by rfl)] at h
          simp only [if_true]
          refine wpAny_allTrue_And_cons (wpAny_mono (a.tst y ρ b m env X adr A _ E h hok.2 ok (st.ext e1) R) (fun c s2 h2 => ?_) fun _ _ e => e)
          obtain ⟨h2, tk2, rfl, e2, rfl⟩ := h2
          cases c with
          | true => simp only [if_true]; exact wpAny_allTrue_And_nil ⟨h2, tk2, rfl, e1.trans e2, rfl⟩
          | false => simp only [Bool.false_eq_true, if_false]; exact ⟨h2, tk2, rfl, e1.trans e2, rfl⟩
        | false =>
          rw [if_neg (by decide)] at h
          cases h
          simp only [Bool.false_eq_true, if_false]
          exact ⟨h1, tk1, rfl, e1, rfl⟩
      | Or =>
        refine wpAny_allTrue_Or_cons (wpAny_mono (a.tst x ρ t m env X adr A s E hx hok.1 ok st R) (fun c s1 h1 => ?_) fun _ _ e => e)
        obtain ⟨h1, tk1, rfl, e1, rfl⟩ := h1
        cases c with
        | false =>
          rw [if_pos (by rfl)] at h
          simp only [Bool.false_eq_true, if_false]
          refine wpAny_allTrue_Or_cons (wpAny_mono (a.tst y ρ b m env X adr A _ E h hok.2 ok (st.ext e1) R) (fun c s2 h2 => ?_) fun _ _ e => e)
          obtain ⟨h2, tk2, rfl, e2, rfl⟩ := h2
          cases c with
          | false => simp only [Bool.false_eq_true, if_false]; exact wpAny_allTrue_Or_nil ⟨h2, tk2, rfl, e1.trans e2, rfl⟩
          | true => simp only [if_true]; exact ⟨h2, tk2, rfl, e1.trans e2, rfl⟩
        | true =>
          rw [if_neg (by decide)] at h
          cases h
          simp only [if_true]
          exact ⟨h1, tk1, rfl, e1, rfl⟩
    · simp only [Mine.tst] at h; cases n <;> cases h
  | Compare l ops rs p =>
    rcases ops with _ | ⟨op, _ | ⟨op', ops⟩⟩
    · simp only [Mine.tst] at h; cases n <;> cases h
    · rcases rs with _ | ⟨r, _ | ⟨r', rs⟩⟩
      · simp only [Mine.tst] at h; cases n <;> cases h
      · simp only [Mine.tst] at h
        simp only [okE, List.all_cons, List.all_nil, Bool.and_true, Bool.and_eq_true] at hok
        split at h
        · rename_i x y hl hr
          refine wpAny_isTrue_Compare1 ?_ (marks_plain (evB_plain hr).2.1)
          refine wpAny_mono (cmp_both a.ev a.evB hl hr h hok.1 hok.2 ok st R) (fun u s1 h1 => wpAny_mono h1 (fun v s2 h2 => wpAny_mono h2 (fun c s3 h3 => ?_) fun _ _ e => e) fun _ _ e => e) fun _ _ e => e
          obtain ⟨h3, tk3, rfl, e3, r3⟩ := h3
          obtain rfl := r3.bool'
          exact wpAny_truthy_bool ⟨h3, tk3, rfl, e3, rfl⟩
        · cases h
      · simp only [Mine.tst] at h; cases n <;> cases h
    · simp only [Mine.tst] at h; cases n <;> cases h
  | _ => exact gen (fun _ _ q => by cases q) (fun _ _ _ q => by cases q) (fun _ _ _ _ q => by cases q) (fun _ _ _ _ q => by cases q) h hok
end
end Mine
end

section
set_option Elab.async false
set_option maxRecDepth 100000
open PySem PySem.Calls PyProof.Rows
namespace Mine
section
variable {prog : Program} {w : World} {h₀ : Heap} {Φ : Str → List D → Option D} {k n : Nat}

theorem iter_rep {A : Around} {s : Shared} {E : Value → Shared → Prop} {X Z : Addr → Prop} {v : Value} {d : D} {ds : List D} (hd : d = .lst ds ∨ d = .tup ds) (r : Rep s.heap X v d) : wpAny (model prog w) A (pyIter v) (SrcP prog w s X Z ds) E s := by
  rcases hd with rfl | rfl
  · cases r with
    | lst hx ho hr => exact iterL_sound Z ho hr (.inl hx)
  · refine wpAny_mono (iterT_sound r) (fun it s2 h2 => ?_) fun _ _ e => e
    obtain ⟨I, fp, wr, P, Sx, h', tk', e1, e2, x⟩ := h2
    exact ⟨I, fp, wr, P, Sx, h', tk', e1, e2, x.ext, x.walks, x.start, x.lt, x.alive, x.fresh, fun b hb => (x.fps b hb).imp id fun q => ⟨q.1, q.2.imp id False.elim⟩, x.nonseq, x.items⟩

/-- iterate over a list or a tuple that an expression gives -/
theorem src_gen {e : Expr} {ρ : Ro} {d : D} {ds : List D} {m : Nat} {env : Env} {X : Addr → Prop} {adr : Str → Addr} {A : Around} {s : Shared} {E : Value → Shared → Prop} (a : EvS prog w h₀ Φ k n) (h : evB Φ (n + 1) e ρ = some d) (hd : d = .lst ds ∨ d = .tup ds) (hok : okE m env.scope e = true) (ok : EnvOk h₀ env) (st : St h₀ env X adr ρ s.heap) (R : Room (k + 1) A) :
    wpAny (model prog w) A (eval e env) (fun x s₁ => wpAny (model prog w) A (pyIter x) (SrcP prog w s X (ownZ env adr e ρ) ds) E s₁) E s := by
  have gen : ∀ {e : Expr}, Mine.ev Φ n e ρ = some d → okE m env.scope e = true → wpAny (model prog w) A (eval e env) (fun x s₁ => wpAny (model prog w) A (pyIter x) (SrcP prog w s X (ownZ env adr e ρ) ds) E s₁) E s := fun h hok => by
    refine wpAny_mono (a _ ρ d m env X adr A s E h hok ok st R) (fun v s1 h1 => ?_) fun _ _ e => e
    obtain ⟨h1, tk1, rfl, e1, r1⟩ := h1
    exact wpAny_mono (iter_rep hd r1) (fun it s2 h2 => SrcP.up e1 h2) fun _ _ e => e
  cases e with
  | Name x p =>
    cases m with
    | zero => cases hok
    | succ m =>
    simp only [okE, Bool.and_eq_true] at hok
    refine wpAny_Name (st.load ok hok.1 (fun v _ hv _ => ?_) ⟨d, h⟩) (by simpa using hok.2)
    cases hr : ρ.get x with
    | unset => rw [show evB Φ (n + 1) (.Name x p) ρ = (ρ.get x).loose from rfl, hr] at h; cases h
    | frz d' =>
      rw [show evB Φ (n + 1) (.Name x p) ρ = (ρ.get x).loose from rfl, hr] at h
      cases h
      rw [hr] at hv
      obtain ⟨u, e, r⟩ := hv
      cases e
      exact iter_rep hd r
    | own es =>
      rw [show evB Φ (n + 1) (.Name x p) ρ = (ρ.get x).loose from rfl, hr] at h
      cases h
      rw [hr] at hv
      obtain ⟨e, hX, vs, nn, ho, r⟩ := hv
      cases e
      rcases hd with hd | hd
      · cases hd
        refine iterL_sound _ ho r (.inr ⟨?_, x, _, hok.1, hr, rfl⟩)
        unfold ownName; dsimp only; rw [hr]
      · cases hd
  | _ => exact gen h hok

theorem srcS_succ (a : All prog w h₀ Φ k n) (a' : EvS prog w h₀ Φ k (n - 1)) (G : Glb h₀) : SrcS prog w h₀ Φ k (n + 1) := by
  intro e ρ ds m env X adr A s E h hok ok st R
  cases m with
  | zero => cases hok
  | succ m =>
  cases n with
  | zero =>
    exfalso
    cases e <;> first | (cases h; done) | skip
    rename_i f args kw p
    cases f <;> first | (cases h; done) | skip
    rename_i x px
    rcases args with _ | ⟨y, _ | ⟨z, _ | ⟨u, r⟩⟩⟩ <;> cases kw <;> first | (cases h; done) | skip
    · simp only [Mine.src] at h
      split at h
      · cases h
      · split at h <;> cases h
    · simp only [Mine.src] at h
      split at h <;> cases h
  | succ n =>
  have gen : ∀ {e : Expr}, pickOS (Mine.evB Φ (n + 1) e ρ) = some ds → okE (m + 1) env.scope e = true →
      wpAny (model prog w) A (eval e env) (fun x s₁ => wpAny (model prog w) A (pyIter x) (SrcP prog w s X (ownZ env adr e ρ) ds) E s₁) E s := fun {e} h hok => by
    cases he : Mine.evB Φ (n + 1) e ρ with
    | none => rw [he] at h; cases h
    | some d =>
      rw [he] at h
      cases d <;> cases h
      · exact src_gen a' he (.inr rfl) hok ok st R
      · exact src_gen a' he (.inl rfl) hok ok st R
  have genL : ∀ {e : Expr}, pickOL (Mine.evB Φ (n + 1) e ρ) = some ds → okE (m + 1) env.scope e = true →
      wpAny (model prog w) A (eval e env) (fun x s₁ => wpAny (model prog w) A (pyIter x) (SrcP prog w s X (ownZ env adr e ρ) ds) E s₁) E s := fun {e} h hok => by
    cases he : Mine.evB Φ (n + 1) e ρ with
    | none => rw [he] at h; cases h
    | some d =>
      rw [he] at h
      cases d <;> cases h
      exact src_gen a' he (.inl rfl) hok ok st R
  cases e with
  | Call f args kw p =>
    cases f with
    | Name x px =>
      cases kw with
      | cons _ _ => exact gen (by simpa only [Mine.src] using h) hok
      | nil =>
      rcases args with _ | ⟨y, _ | ⟨z, _ | ⟨u, r⟩⟩⟩
      · exact gen (by simpa only [Mine.src] using h) hok
      · simp only [Mine.src] at h
        split at h
        · rename_i hx
          subst hx
          split at h
          · rename_i j hj
            split at h
            · rename_i hb
              cases h
              simp only [Bool.and_eq_true, decide_eq_true_eq] at hb
              have hne : S "range" ≠ S "isinstance" ∧ S "range" ≠ S "issubclass" ∧ S "range" ≠ S "tuple" := by decide
              simp only [okE, hne.1, hne.2.1, hne.2.2, if_false, Bool.and_eq_true, List.all_cons, List.all_nil, Bool.and_true] at hok
              refine Call_Name rfl (glob_at st ok hok.1 (G.get (v := .type "range") (by simp [btab])) ?_)
              have he : starEach [y] env = (false, eval y env) :: starEach [] env := star_plain (ev_plain hj).1
              refine PyProof.Rows.callWith_type1 ?_ he rfl
              rw [he]
              refine spliced_cons (wpAny_mono (a.ev y ρ _ m env X adr A s E hj hok.2.2 ok st R) (fun u s1 h1 => spliced_nil ?_) fun _ _ e => e)
              obtain ⟨h1, tk1, rfl, e1, r1⟩ := h1
              obtain ⟨t, rfl⟩ := rep_int r1
              refine call_range_1 ?_
              refine wpAny_mono (iterR_sound (IsRange.new _ _ _ _ _ _ _) (by decide) (by decide) (by omega) (by omega) _) (fun it s2 h2 => SrcP.up (e1.trans (Ext.rfl.push _)) h2) fun _ _ e => e
            · cases h
          · cases h
        · split at h
          · cases h
          · exact genL h hok
      · simp only [Mine.src] at h
        split at h
        · rename_i hx
          subst hx
          split at h
          · rename_i j l hj hl
            split at h
            · rename_i hb
              cases h
              simp only [Bool.and_eq_true, decide_eq_true_eq] at hb
              have hne : S "range" ≠ S "isinstance" ∧ S "range" ≠ S "issubclass" ∧ S "range" ≠ S "tuple" := by decide
              simp only [okE, hne.1, hne.2.1, hne.2.2, if_false, Bool.and_eq_true, List.all_cons, List.all_nil, Bool.and_true] at hok
              refine Call_Name rfl (glob_at st ok hok.1 (G.get (v := .type "range") (by simp [btab])) ?_)
              have he : starEach [y, z] env = (false, eval y env) :: starEach [z] env := star_plain (ev_plain hj).1
              have he2 : starEach [z] env = (false, eval z env) :: starEach [] env := star_plain (ev_plain hl).1
              refine PyProof.Rows.callWith_type1 ?_ he (by rw [he2]; rfl)
              rw [he, he2]
              refine spliced_cons (wpAny_mono (a.ev y ρ _ m env X adr A s E hj hok.2.2.1 ok st R) (fun u s1 h1 => ?_) fun _ _ e => e)
              obtain ⟨h1, tk1, rfl, e1, r1⟩ := h1
              obtain ⟨t, rfl⟩ := rep_int r1
              refine spliced_cons (wpAny_mono (a.ev z ρ _ m env X adr A _ E hl hok.2.2.2 ok (st.ext e1) R) (fun u s1 h1 => spliced_nil ?_) fun _ _ e => e)
              obtain ⟨h2, tk2, rfl, e2, r2⟩ := h1
              obtain ⟨t', rfl⟩ := rep_int r2
              refine call_range_2 ?_
              refine wpAny_mono (iterR_sound (IsRange.new _ _ _ _ _ _ _) (by omega) (by omega) (by omega) (by omega) _) (fun it s2 h2 => SrcP.up ((e1.trans e2).trans (Ext.rfl.push _)) h2) fun _ _ e => e
            · cases h
          · cases h
        · exact genL h hok
      · exact gen (by simpa only [Mine.src] using h) hok
    | _ => exact gen (by simpa only [Mine.src] using h) hok
  | _ => exact gen (by simpa only [Mine.src] using h) hok
end
end Mine
end

section
set_option Elab.async false
set_option maxRecDepth 100000
open PySem PySem.Calls PyProof.Rows
namespace Mine
section
variable {prog : Program} {w : World} {h₀ : Heap} {Φ : Str → List D → Option D} {k n : Nat}

theorem nameIs_of {e : Expr} {x : String} (h : nameIs e x = true) : ∃ p, e = .Name (S x) p := by
  unfold nameIs at h
  split at h
  · rename_i y p
    have : y = S x := by simpa using h
    exact ⟨p, by rw [this]⟩
  · cases h

theorem evS_succ (a : All prog w h₀ Φ k n) (a' : ∀ n', n = n' + 1 → All prog w h₀ Φ k n') (G : Glb h₀) (hΦ : PhiOk prog w h₀ Φ k) : EvS prog w h₀ Φ k (n + 1) := by
  intro e ρ d m env X adr A s E h hok ok st R
  cases m with
  | zero => cases hok
  | succ m =>
  cases e with
  | Constant c kd p => exact const_sound h
  | Name x p =>
    simp only [okE, Bool.and_eq_true] at hok
    exact st.name ok hok.1 (by simpa using hok.2) h
  | BinOp l op r p => exact arm_bin a.ev h hok ok st R
  | UnaryOp op x p =>
    cases op with
    | USub => exact arm_neg a.ev h hok ok st R
    | _ => cases h
  | BoolOp op vs p =>
    rcases vs with _ | ⟨x, _ | ⟨y, _ | ⟨z, r⟩⟩⟩
    · cases h
    · cases h
    · exact arm_bool a.ev h hok ok st R
    · cases h
  | Compare l ops rs p =>
    rcases ops with _ | ⟨op, _ | ⟨op', ops⟩⟩
    · cases h
    · rcases rs with _ | ⟨r, _ | ⟨r', rs⟩⟩
      · cases h
      · exact arm_cmp a.ev a.evB h hok ok st R
      · cases h
    · cases h
  | IfExp t b o p => exact arm_ife a.ev a.tst h hok ok st R
  | List es p =>
    simp only [Mine.ev] at h
    obtain ⟨ds, hds, rfl⟩ := Option.map_eq_some_iff.mp h
    simp only [okE, Bool.and_eq_true, decide_eq_true_eq] at hok
    exact wpAny_mono (list_fresh a.ev hds hok.2 (by rw [← mapO_length hds]; exact Nat.le_trans hok.1 (by decide)) ok st R) (fun v s1 h1 => h1.mono fun _ _ x => x.rep st.dom) fun _ _ e => e
  | Tuple es kd p =>
    simp only [Mine.ev] at h
    obtain ⟨ds, hds, rfl⟩ := Option.map_eq_some_iff.mp h
    simp only [okE, Bool.and_eq_true, decide_eq_true_eq] at hok
    exact arm_tuple a.ev hds hok.2 (by rw [← mapO_length hds]; exact Nat.le_trans hok.1 (by decide)) ok st R
  | ListComp elt gens scope pos =>
    simp only [Mine.ev] at h
    split at h
    · rename_i ds hds
      split at h
      · rename_i hl
        cases h
        cases n with
        | zero => cases hds
        | succ n =>
          have b := a' n rfl
          exact wpAny_mono (listcomp_fresh b.tst b.src b.comp hds hl hok ok st R) (fun v s1 h1 => h1.mono fun _ _ x => x.rep st.dom) fun _ _ e => e
      · cases h
    · cases h
  | Subscript o i p =>
    have plain : ∀ {i : Expr}, idxO (Mine.evB Φ n o ρ) (Mine.ev Φ n i ρ) = some d → okE (m + 1) env.scope (.Subscript o i p) = true → wpAny (model prog w) A (eval (.Subscript o i p) env) (EvP s fun h v => Rep h X v d) E s := fun {i} h hok => by
      simp only [okE, Bool.and_eq_true] at hok
      cases ho : Mine.evB Φ n o ρ with
      | none => rw [ho] at h; cases h
      | some x =>
      cases hi : Mine.ev Φ n i ρ with
      | none => rw [ho, hi] at h; cases h
      | some y =>
      rw [ho, hi] at h
      exact arm_idx a.ev a.evB ho hi h hok.1 hok.2 ok st R
    cases i with
    | Slice lo hi stp p' =>
      cases stp with
      | some e =>
        simp only [okE, Bool.and_eq_true] at hok
        cases m with
        | zero => cases hok.1
        | succ m => simp only [okE, Bool.and_eq_true] at hok; cases hok.2.2
      | none =>
        simp only [Mine.ev] at h
        simp only [okE, Bool.and_eq_true] at hok
        obtain ⟨hok1, hok2⟩ := hok
        cases ho : Mine.evB Φ n o ρ with
        | none => rw [ho] at h; cases h
        | some x =>
        rw [ho] at h
        dsimp only at h
        cases m with
        | zero => cases hok1
        | succ m =>
        rcases lo with _ | lo <;> rcases hi with _ | hi
        · cases h
        · simp only [okE, Bool.and_eq_true] at hok2
          obtain ⟨y, hy, h⟩ := Option.bind_eq_some_iff.mp h
          exact arm_slice_hi a.ev a.evB ho hy h hok1 hok2.1.2 ok st R
        · simp only [okE, Bool.and_eq_true] at hok2
          obtain ⟨y, hy, h⟩ := Option.bind_eq_some_iff.mp h
          exact arm_slice_lo a.ev a.evB ho hy h hok1 hok2.1.1 ok st R
        · cases h
    | _ => exact plain (by simpa only [Mine.ev] using h) hok
  | Call f args kw p =>
    cases kw with
    | cons _ _ => cases f <;> (try cases h) <;> (rcases args with _ | ⟨_, _ | ⟨_, _⟩⟩ <;> cases h)
    | nil =>
    cases f with
    | Attribute o name ap =>
      rcases args with _ | ⟨x, _ | ⟨y, r⟩⟩
      · cases h
      · simp only [Mine.ev] at h
        simp only [okE, Bool.and_eq_true, List.all_cons, List.all_nil, Bool.and_true] at hok
        split at h
        · rename_i u v ho hx
          exact arm_meth a.ev a.evB ho hx h hok.1.2 hok.2 hok.1.1.2 hok.1.1.1 ok st R
        · cases h
      · cases h
    | Name f fp =>
      simp only [Mine.ev] at h
      simp only [okE, Bool.and_eq_true] at hok
      obtain ⟨hg, hok⟩ := hok
      split at h
      · rename_i hf
        subst hf
        rw [if_pos rfl] at hok
        rcases args with _ | ⟨x, _ | ⟨t, _ | ⟨y, r⟩⟩⟩
        · cases h
        · cases h
        · dsimp only at h
          cases t with
          | Name t tp =>
            simp only [Bool.and_eq_true] at hok
            split at h
            · rename_i o cs hx
              split at h
              · rename_i ht
                cases h
                obtain ⟨_, ht⟩ := nameIs_of ht
                cases ht
                exact arm_isi a.ev G hx hok.1 hg hok.2 (G.get (v := .type "bytes") (by simp [btab])) (fun s' v r => isB_sound r) ok st R
              · cases h
            · rename_i i hx
              split at h
              · rename_i ht
                cases h
                obtain ⟨_, ht⟩ := nameIs_of ht
                cases ht
                exact arm_isi a.ev G hx hok.1 hg hok.2 (G.get (v := .type "tuple") (by simp [btab])) (fun s' v r => isTi_sound r) ok st R
              · cases h
            · rename_i ds hx
              split at h
              · rename_i ht
                cases h
                obtain ⟨_, ht⟩ := nameIs_of ht
                cases ht
                exact arm_isi a.ev G hx hok.1 hg hok.2 (G.get (v := .type "tuple") (by simp [btab])) (fun s' v r => isTt_sound r) ok st R
              · cases h
            · cases h
          | _ => cases hok
        · cases h
      · rename_i hf1
        rw [if_neg hf1] at hok
        split at h
        · rename_i hf
          subst hf
          rw [if_pos rfl] at hok
          split at h
          · rename_i x t u kd pt
            cases t with
            | Name t tp =>
              cases u with
              | Name u up =>
                dsimp only at hok
                simp only [Bool.and_eq_true] at hok
                split at h
                · rename_i T hx
                  split at h
                  · rename_i hc
                    cases h
                    simp only [Bool.and_eq_true, Bool.or_eq_true, beq_iff_eq] at hc
                    obtain ⟨⟨h1, h2⟩, h3⟩ := hc
                    obtain ⟨_, h1⟩ := nameIs_of h1
                    obtain ⟨_, h2⟩ := nameIs_of h2
                    cases h1; cases h2
                    exact arm_isc a.ev G hx h3 hok.1.1 hg hok.1.2 hok.2 ok st R
                  · cases h
                · cases h
              | _ => cases hok
            | _ => cases hok
          · cases h
        · rename_i hf2
          rw [if_neg hf2] at hok
          split at h
          · rename_i hf
            subst hf
            rw [if_pos rfl] at hok
            split at h
            · rename_i mm pm g pg x pc
              split at h
              · rename_i hm
                subst hm
                dsimp only at hok
                simp only [Bool.and_eq_true] at hok
                split at h
                · rename_i ds hx
                  split at h
                  · rename_i hc
                    split at h
                    · rename_i out ho
                      split at h
                      · rename_i hto
                        cases h
                        exact arm_map a.ev G hΦ hx ⟨hc.1, hc.2.1⟩ hc.2.2 ho hto hok.2 hg hok.1.1 hok.1.2 ok st R
                      · cases h
                    · cases h
                  · cases h
                · cases h
              · cases h
            · cases h
          · rename_i hf3
            rw [if_neg hf3] at hok
            simp only [Bool.and_eq_true] at hok
            split at h
            · rename_i hb
              rcases args with _ | ⟨x, _ | ⟨y, r⟩⟩
              · cases h
              · dsimp only at h
                split at h
                · rename_i u hx
                  simp only [List.all_cons, List.all_nil, Bool.and_true] at hok
                  exact arm_b1 a.evB G hb hx h hok.2 hg ok st R
                · cases h
              · cases h
            · split at h
              · rename_i ds hds
                exact arm_phi a.ev hΦ hds h (fun q => by rw [q] at hok; cases hok.1) hok.2 hg ok st R
              · cases h
    | _ => cases h
  | _ => cases h

theorem all_ok (G : Glb h₀) (hΦ : PhiOk prog w h₀ Φ k) : ∀ n, All prog w h₀ Φ k n ∧ ∀ n', n = n' + 1 → All prog w h₀ Φ k n'
  | 0 => ⟨all_zero, fun _ h => by cases h⟩
  | n + 1 => by
    obtain ⟨a, a'⟩ := all_ok G hΦ n
    have aev : EvS prog w h₀ Φ k (n - 1) := by
      cases n with
      | zero => exact a.ev
      | succ n => exact (a' n rfl).ev
    exact ⟨⟨evS_succ a a' G hΦ, evBS_succ a, tstS_succ a, srcS_succ a aev G, compS_succ a.ev a.tst a.src a.comp⟩, fun n' h => by cases h; exact a⟩
end
end Mine
end

section
set_option Elab.async false
set_option maxRecDepth 100000
open PySem PySem.Calls PyProof.Rows
namespace Mine

/-- the lists that the frame's names own -/
def Ow (env : Env) (adr : Str → Addr) (ρ : Ro) (b : Addr) : Prop := ∃ x ds, vk (env.kindOf x) = true ∧ ρ.get x = .own ds ∧ adr x = b
def Xo (X₀ : Addr → Prop) (env : Env) (adr : Str → Addr) (ρ : Ro) (a : Addr) : Prop := X₀ a ∨ Ow env adr ρ a

/-- the state of a frame -/
structure Fs (h₀ : Heap) (X₀ : Addr → Prop) (env : Env) (adr : Str → Addr) (ρ : Ro) (h : Heap) : Prop where
  st : St h₀ env (Xo X₀ env adr ρ) adr ρ h
  inj : ∀ x y ds es, vk (env.kindOf x) = true → vk (env.kindOf y) = true → ρ.get x = .own ds → ρ.get y = .own es → adr x = adr y → x = y
  off : ∀ x ds, vk (env.kindOf x) = true → ρ.get x = .own ds → ¬ X₀ (adr x)

/-- what statements leave as it was -/
structure Stp (env : Env) (adr : Str → Addr) (ρ : Ro) (h : Heap) (adr' : Str → Addr) (ρ' : Ro) (h' : Heap) : Prop where
  keep : ∀ b o, h.get? b = some o → b ≠ env.locals → (∀ y, env.kindOf y = some .cell → env.cells.lookup y ≠ some b) → ¬ Ow env adr ρ b → h'.get? b = some o
  own : ∀ b, Ow env adr' ρ' b → Ow env adr ρ b ∨ h.get? b = none

section
variable {h₀ : Heap} {X₀ : Addr → Prop} {env : Env} {adr adr' adr'' : Str → Addr} {ρ ρ' ρ'' : Ro} {h h' h'' : Heap}

theorem vk_or {k : Option NameKind} (h : vk k = true) : k = some .local ∨ k = some .cell := by
  cases k with
  | none => cases h
  | some k => cases k <;> first | exact .inl rfl | exact .inr rfl | cases h

theorem Stp.refl : Stp env adr ρ h adr ρ h := ⟨fun _ _ e _ _ _ => e, fun _ q => .inl q⟩
theorem Stp.ext (e : Ext h h') : Stp env adr ρ h adr ρ h' := ⟨fun _ _ q _ _ _ => e _ _ q, fun _ q => .inl q⟩
theorem Stp.trans {X : Addr → Prop} (x : Stp env adr ρ h adr' ρ' h') (st : St h₀ env X adr' ρ' h') (y : Stp env adr' ρ' h' adr'' ρ'' h'') : Stp env adr ρ h adr'' ρ'' h'' := by
  refine ⟨fun b o e n1 n2 n3 => y.keep b o (x.keep b o e n1 n2 n3) n1 n2 fun q => ?_, fun b q => ?_⟩
  · rcases x.own b q with q | q
    · exact n3 q
    · rw [q] at e; cases e
  · rcases y.own b q with q | q
    · exact x.own b q
    · cases e : h.get? b with
      | none => exact .inr rfl
      | some o =>
        left
        refine Classical.byContradiction fun n3 => ?_
        have := x.keep b o e (fun n1 => by
          obtain ⟨m, ⟨o', _, _, ho, _⟩, _⟩ := st.ns
          rw [← n1, q] at ho; cases ho) (fun y hy n2 => by
          obtain ⟨c, o', h1, ⟨oc, h2, _⟩, _⟩ := st.cel y hy
          rw [n2] at h1; cases h1
          rw [q] at h2; cases h2) n3
        rw [q] at this; cases this

theorem Fs.ext (f : Fs h₀ X₀ env adr ρ h) (e : Ext h h') : Fs h₀ X₀ env adr ρ h' := ⟨f.st.ext e, f.inj, f.off⟩

theorem Ro.get_set {ρ : Ro} {x y : Str} {a : AV} : (ρ.set x a).get y = if x = y then a else ρ.get y := by
  induction ρ with
  | nil =>
    by_cases h : x = y
    · simp [Ro.set, Ro.get, h]
    · simp [Ro.set, Ro.get, h]
  | cons p r ih =>
    obtain ⟨z, b⟩ := p
    by_cases hz : z = x
    · subst hz
      have e : Ro.set ((z, b) :: r) z a = (z, a) :: r := by simp [Ro.set]
      rw [e, Ro.get_cons, Ro.get_cons]
      by_cases h : z = y <;> simp [h]
    · have e : Ro.set ((z, b) :: r) x a = (z, b) :: Ro.set r x a := by simp [Ro.set, hz]
      rw [e, Ro.get_cons, Ro.get_cons, ih]
      by_cases h : z = y
      · subst h; simp [Ne.symm hz]
      · simp [h]

theorem Ow.set_frz {x : Str} {d : D} {b : Addr} (h : Ow env adr (ρ.set x (.frz d)) b) : Ow env adr ρ b := by
  obtain ⟨y, ds, h1, h2, h3⟩ := h
  rw [Ro.get_set] at h2
  split at h2
  · cases h2
  · exact ⟨y, ds, h1, h2, h3⟩

/-- fewer owned lists, the same values -/
theorem Fs.sub (st : St h₀ env (Xo X₀ env adr ρ) adr ρ' h) (f : Fs h₀ X₀ env adr ρ h') (hs : ∀ x ds, ρ'.get x = .own ds → ρ.get x = .own ds) : Fs h₀ X₀ env adr ρ' h := by
  have hsub : ∀ b, Ow env adr ρ' b → Ow env adr ρ b := fun b ⟨y, ds, h1, h2, h3⟩ => ⟨y, ds, h1, hs _ _ h2, h3⟩
  refine ⟨?_, fun x y ds es h1 h2 h3 h4 => f.inj x y ds es h1 h2 (hs _ _ h3) (hs _ _ h4), fun x ds h1 h2 => f.off x ds h1 (hs _ _ h2)⟩
  have hx : ∀ a, Xo X₀ env adr ρ' a → Xo X₀ env adr ρ a := fun a q => q.imp id (hsub a)
  refine ⟨st.base, fun b hb => st.dom b (hx b hb), fun b hb => st.out b (hx b hb), ?_, fun x hx' => ?_⟩
  · obtain ⟨m, hm, hv⟩ := st.ns
    exact ⟨m, hm, fun x hx' => (hv x hx').move Keep.rfl (fun b hb _ q => hb (hx b q)) fun ds q => ⟨.inr ⟨x, ds, by rw [hx']; rfl, q, rfl⟩, fun o ho => ho⟩⟩
  · obtain ⟨c, o, h1, h2, h3⟩ := st.cel x hx'
    exact ⟨c, o, h1, h2, h3.move Keep.rfl (fun b hb _ q => hb (hx b q)) fun ds q => ⟨.inr ⟨x, ds, by rw [hx']; rfl, q, rfl⟩, fun o ho => ho⟩⟩

/-- an owned list is no longer changed -/
theorem Fs.freeze {x : Str} (f : Fs h₀ X₀ env adr ρ h) : Fs h₀ X₀ env adr (freezeX x ρ) h := by
  unfold freezeX
  split
  · rename_i ds hx
    have hs : ∀ y es, (ρ.set x (.frz (.lst ds))).get y = .own es → y ≠ x ∧ ρ.get y = .own es := fun y es e => by
      rw [Ro.get_set] at e
      split at e
      · cases e
      · rename_i q; exact ⟨Ne.symm q, e⟩
    have hsub : ∀ b, Ow env adr (ρ.set x (.frz (.lst ds))) b → Ow env adr ρ b := fun b q => q.set_frz
    have hX : ∀ a, Xo X₀ env adr (ρ.set x (.frz (.lst ds))) a → Xo X₀ env adr ρ a := fun a q => q.imp id (hsub a)
    have val : ∀ y o, vk (env.kindOf y) = true → ValOf h (Xo X₀ env adr ρ) adr y (ρ.get y) o → ValOf h (Xo X₀ env adr (ρ.set x (.frz (.lst ds)))) adr y ((ρ.set x (.frz (.lst ds))).get y) o := by
      intro y o hk v
      rw [Ro.get_set]
      by_cases q : x = y
      · subst q
        rw [if_pos rfl]
        rw [hx] at v
        obtain ⟨e, _, vs, n, ho, r⟩ := v
        refine ⟨_, e, .lst (fun q => ?_) ho (r.anti hX)⟩
        rcases q with q | ⟨z, es, h1, h2, h3⟩
        · exact f.off x ds hk hx q
        · obtain ⟨n1, n2⟩ := hs z es h2
          exact n1 (f.inj z x es ds h1 hk n2 hx h3)
      · rw [if_neg q]
        exact v.move Keep.rfl (fun b hb _ q => hb (hX b q)) fun es e => ⟨.inr ⟨y, es, hk, by rw [Ro.get_set, if_neg q]; exact e, rfl⟩, fun o ho => ho⟩
    refine ⟨⟨f.st.base, fun b hb => f.st.dom b (hX b hb), fun b hb => f.st.out b (hX b hb), ?_, fun y hy => ?_⟩, fun y z es fs h1 h2 h3 h4 => f.inj y z es fs h1 h2 (hs _ _ h3).2 (hs _ _ h4).2, fun y es h1 h2 => f.off y es h1 (hs _ _ h2).2⟩
    · obtain ⟨m, hm, hv⟩ := f.st.ns
      exact ⟨m, hm, fun y hy => val y _ (by rw [hy]; rfl) (hv y hy)⟩
    · obtain ⟨c, o, h1, h2, h3⟩ := f.st.cel y hy
      exact ⟨c, o, h1, h2, val y _ (by rw [hy]; rfl) h3⟩
  · exact f
theorem freeze_own {x : Str} {b : Addr} (h : Ow env adr (freezeX x ρ) b) : Ow env adr ρ b := by
  unfold freezeX at h
  split at h
  · exact h.set_frz
  · exact h
theorem Stp.freeze {x : Str} : Stp env adr ρ h adr (freezeX x ρ) h := ⟨fun _ _ e _ _ _ => e, fun _ q => .inl (freeze_own q)⟩
theorem Fs.freezes (f : Fs h₀ X₀ env adr ρ h) : ∀ (l : List Str), Fs h₀ X₀ env adr (l.foldl (fun r x => freezeX x r) ρ) h ∧ Stp env adr ρ h adr (l.foldl (fun r x => freezeX x r) ρ) h := by
  intro l
  induction l generalizing ρ with
  | nil => exact ⟨f, Stp.refl⟩
  | cons x l ih =>
    obtain ⟨g, s⟩ := ih f.freeze
    exact ⟨g, Stp.freeze.trans f.freeze.st s⟩

variable {M : Model} {A : Around} {E : Value → Shared → Prop} {s : Shared}
/-- storing what is not changed -/
theorem Fs.store {x : Str} {v : Value} {d : D} {Q : Unit → Shared → Prop} (f : Fs h₀ X₀ env adr ρ s.heap) (ok : EnvOk h₀ env) (hk : vk (env.kindOf x) = true) (r : Rep s.heap (Xo X₀ env adr ρ) v d)
    (h : ∀ h' tk, Fs h₀ X₀ env adr (ρ.set x (.frz d)) h' → Stp env adr ρ s.heap adr (ρ.set x (.frz d)) h' → Stored env x s.heap h' → Q () { s with heap := h', toks := tk }) : wpAny M A (storeName env x v) Q E s := by
  refine f.st.store (d := d) (ρ' := ρ.set x (.frz d)) ok hk (by rw [Ro.get_set, if_pos rfl]) (fun y hy => by rw [Ro.get_set, if_neg (Ne.symm hy)]) r fun h' tk st' r' sto => ?_
  refine h h' tk (Fs.sub st' f fun y es e => ?_) ⟨fun b o e n1 n2 n3 => ?_, fun b q => .inl q.set_frz⟩ sto
  · rw [Ro.get_set] at e
    split at e
    · cases e
    · exact e
  · obtain ⟨c, hc, hl, hs⟩ := sto
    refine (hs.2 b fun q => ?_).trans e
    rcases vk_or hk with hl' | hl'
    · exact n1 (q.trans (hl hl'))
    · rcases hc with hc | hc
      · exact n1 (q.trans hc)
      · exact n2 x hl' (q ▸ hc)
end
end Mine
end

section
set_option Elab.async false
set_option maxRecDepth 100000
open PySem PySem.Calls PyProof.Rows
namespace Mine
section
variable {h₀ : Heap} {X X₀ : Addr → Prop} {env : Env} {adr adr' adr'' : Str → Addr} {ρ ρ' ρ'' : Ro} {h h' h'' : Heap}
variable {M : Model} {A : Around} {E : Value → Shared → Prop} {s : Shared}

theorem St.readr (st : St h₀ env X adr ρ h) (ha : ∀ x ds, ρ.get x = .own ds → adr' x = adr x) : St h₀ env X adr' ρ h := by
  have val : ∀ {x o}, ValOf h X adr x (ρ.get x) o → ValOf h X adr' x (ρ.get x) o := fun {x o} v => by
    cases hx : ρ.get x with
    | unset => trivial
    | frz d => rw [hx] at v; exact v
    | own ds => rw [hx] at v; show _ ∧ _; rw [ha x ds hx]; exact v
  refine ⟨st.base, st.dom, st.out, ?_, fun x hx => ?_⟩
  · obtain ⟨m, hm, hv⟩ := st.ns; exact ⟨m, hm, fun x hx => val (hv x hx)⟩
  · obtain ⟨c, o, h1, h2, h3⟩ := st.cel x hx; exact ⟨c, o, h1, h2, val h3⟩

theorem St.storeV {x : Str} {v : Value} {Q : Unit → Shared → Prop} (st : St h₀ env X adr ρ s.heap) (ok : EnvOk h₀ env) (hk : vk (env.kindOf x) = true) (hv' : ValOf s.heap X adr x (ρ'.get x) (some v)) (hg' : ∀ y, y ≠ x → ρ'.get y = ρ.get y)
    (h : ∀ h' tk, St h₀ env X adr ρ' h' → Stored env x s.heap h' → Q () { s with heap := h', toks := tk }) : wpAny M A (storeName env x v) Q E s := by
  have kindF : (env.scope.kind == .class || (env.scope.kind == .module && env.locals != env.globals)) = false := by rw [ok.kind]; rfl
  obtain ⟨m, hm, hv⟩ := st.ns
  have dom' : ∀ {c : Addr} {h' : Heap}, (∃ o, h'.get? c = some o) → Heap.SameBut c s.heap h' → ∀ b, X b → ∃ o, h'.get? b = some o := fun {c h'} ⟨o, ho⟩ hs b hb => by
    by_cases q : b = c
    · exact ⟨o, q ▸ ho⟩
    · obtain ⟨o, ho⟩ := st.dom b hb; exact ⟨o, (hs.2 b q).trans ho⟩
  rcases vk_or hk with hkx | hkx
  · refine wpAny_storeName_local hkx hm (fun h' hn hs => ?_) kindF
    have hc : ∀ o vs n, s.heap.get? env.locals = some o → o.data = .seq vs n → False := fun o vs n ho hd => seq_not_dict ho hd hm
    refine h h' _ ⟨fun b o e => (hs.2 b (fun q => by rw [q, ok.locF] at e; cases e)).trans (st.base b o e), dom' (by obtain ⟨o, _, _, ho, _⟩ := hn; exact ⟨o, ho⟩) hs, st.out, ⟨_, hn, fun y hy => ?_⟩, fun y hy => ?_⟩ ⟨env.locals, .inl rfl, fun _ => rfl, hs⟩
    · by_cases e : y = x
      · subst e; simp only [if_true]; exact hv'.other hs hc
      · rw [hg' y e]; simp only [e, if_false]; exact (hv y hy).other hs hc
    · obtain ⟨c, o, h1, h2, h3⟩ := st.cel y hy
      have e : y ≠ x := fun e => by subst e; rw [hkx] at hy; cases hy
      exact ⟨c, o, h1, h2.sameBut hs (fun q => dict_not_cell (q ▸ hm) h2), by rw [hg' y e]; exact h3.other hs hc⟩
  · obtain ⟨c, o, h1, h2, h3⟩ := st.cel x hkx
    have hc : ∀ o vs n, s.heap.get? c = some o → o.data = .seq vs n → False := fun o vs n ho hd => seq_not_cell ho hd h2
    refine wpAny_storeName_cell ok.kind hkx h1 h2 fun h' hn hs => ?_
    refine h h' s.toks ⟨fun b o e => (hs.2 b (fun q => by rw [q, ok.celF x c h1] at e; cases e)).trans (st.base b o e), dom' (by obtain ⟨o, ho, _⟩ := hn; exact ⟨o, ho⟩) hs, st.out, ⟨m, hm.sameBut hs (fun q => dict_not_cell (q ▸ hm) h2), fun y hy => ?_⟩, fun y hy => ?_⟩ ⟨c, .inr h1, fun q => (nomatch hkx.symm.trans q), hs⟩
    · have e : y ≠ x := fun e => by subst e; rw [hkx] at hy; cases hy
      rw [hg' y e]; exact (hv y hy).other hs hc
    · by_cases e : y = x
      · subst e; exact ⟨c, some v, h1, hn, hv'.other hs hc⟩
      · obtain ⟨c', o', k1, k2, k3⟩ := st.cel y hy
        have ne : c' ≠ c := fun q => e (ok.inj y x c (q ▸ k1) h1)
        exact ⟨c', o', k1, k2.sameBut hs ne, by rw [hg' y e]; exact k3.other hs hc⟩

theorem Stored.keep {x : Str} (sto : Stored env x h h') (hk : vk (env.kindOf x) = true) : ∀ b o, h.get? b = some o → b ≠ env.locals → (∀ y, env.kindOf y = some .cell → env.cells.lookup y ≠ some b) → h'.get? b = some o := fun b o e n1 n2 => by
  obtain ⟨c, hc, hl, hs⟩ := sto
  refine (hs.2 b fun q => ?_).trans e
  rcases vk_or hk with hl' | hl'
  · exact n1 (q.trans (hl hl'))
  · rcases hc with hc | hc
    · exact n1 (q.trans hc)
    · exact n2 x hl' (q ▸ hc)

theorem St.shrink' {X' : Addr → Prop} (st : St h₀ env X adr ρ h) (hx : ∀ a, X' a → X a) (hown : ∀ x ds, vk (env.kindOf x) = true → ρ.get x = .own ds → X' (adr x)) : St h₀ env X' adr ρ h := by
  refine ⟨st.base, fun b hb => st.dom b (hx b hb), fun b hb => st.out b (hx b hb), ?_, fun x hx' => ?_⟩
  · obtain ⟨m, hm, hv⟩ := st.ns
    exact ⟨m, hm, fun x hx' => (hv x hx').move Keep.rfl (fun b hb _ q => hb (hx b q)) fun ds q => ⟨hown x ds (by rw [hx']; rfl) q, fun o ho => ho⟩⟩
  · obtain ⟨c, o, h1, h2, h3⟩ := st.cel x hx'
    exact ⟨c, o, h1, h2, h3.move Keep.rfl (fun b hb _ q => hb (hx b q)) fun ds q => ⟨hown x ds (by rw [hx']; rfl) q, fun o ho => ho⟩⟩
theorem Ro.get_set_ne {x y : Str} {a : AV} (h : y ≠ x) : (ρ.set x a).get y = ρ.get y := by rw [Ro.get_set, if_neg (Ne.symm h)]
theorem Ro.get_set_eq {x : Str} {a : AV} : (ρ.set x a).get x = a := by rw [Ro.get_set, if_pos rfl]

/-- storing a new list that the name owns -/
theorem Fs.storeOwn {x : Str} {v : Value} {ds : List D} {h1 : Heap} {tk1 : Nat} {Q : Unit → Shared → Prop} (f : Fs h₀ X₀ env adr ρ s.heap) (ok : EnvOk h₀ env) (hX₀ : ∀ a, X₀ a → ∃ o, s.heap.get? a = some o) (hk : vk (env.kindOf x) = true) (e : Ext s.heap h1) (r : FreshL s (Xo X₀ env adr ρ) ds h1 v)
    (h : ∀ h' tk adr', Fs h₀ X₀ env adr' (ρ.set x (.own ds)) h' → Stp env adr ρ s.heap adr' (ρ.set x (.own ds)) h' → Stored env x h1 h' → Q () { s with heap := h', toks := tk }) : wpAny M A (storeName env x v) Q E { s with heap := h1, toks := tk1 } := by
  obtain ⟨a, vs, n, rfl, hn, ha, hr⟩ := r
  have hne : ∀ y es, vk (env.kindOf y) = true → ρ.get y = .own es → adr y ≠ a := fun y es hy e q => by
    obtain ⟨o, ho⟩ := f.st.dom (adr y) (.inr ⟨y, es, hy, e, rfl⟩)
    rw [q, hn] at ho; cases ho
  let adr' : Str → Addr := fun y => if y = x then a else adr y
  have adrx : adr' x = a := if_pos rfl
  have adrn : ∀ y, y ≠ x → adr' y = adr y := fun y hy => if_neg hy
  have hgx : (ρ.set x .unset).get x = .unset := Ro.get_set_eq
  have st1 := f.st.grow hn e ⟨_, ha⟩
  have st2 : St h₀ env (fun b => Xo X₀ env adr ρ b ∨ b = a) adr' (ρ.set x .unset) h1 := (st1.forget (ρ' := ρ.set x .unset) fun y => by
    by_cases q : y = x
    · subst q; exact .inl hgx
    · exact .inr (Ro.get_set_ne q)).readr fun y es hy => adrn y fun q => by rw [q, hgx] at hy; cases hy
  refine St.storeV (s := { s with heap := h1, toks := tk1 }) (ρ' := ρ.set x (.own ds)) st2 ok hk ?_ (fun y hy => by rw [Ro.get_set_ne hy, Ro.get_set_ne hy]) fun h' tk st3 sto => ?_
  · rw [Ro.get_set_eq]
    exact ⟨by rw [adrx], .inr adrx, vs, n, by rw [adrx]; exact ha, hr⟩
  · have ows : ∀ b, Ow env adr' (ρ.set x (.own ds)) b → Ow env adr ρ b ∨ b = a := fun b ⟨y, es, h1, h2, h3⟩ => by
      by_cases q : y = x
      · subst q; exact .inr (h3.symm.trans adrx)
      · rw [Ro.get_set_ne q] at h2
        exact .inl ⟨y, es, h1, h2, (adrn y q).symm.trans h3⟩
    have hX : ∀ b, Xo X₀ env adr' (ρ.set x (.own ds)) b → Xo X₀ env adr ρ b ∨ b = a := fun b q => q.elim (fun q => .inl (.inl q)) fun q => (ows b q).imp .inr id
    refine h h' tk adr' ⟨st3.shrink' hX fun y es hy e => .inr ⟨y, es, hy, e, rfl⟩, fun y z es fs h1 h2 h3 h4 h5 => ?_, fun y es h1 h2 q => ?_⟩ ⟨fun b o eb n1 n2 n3 => sto.keep hk b o (e _ _ eb) n1 n2, fun b q => (ows b q).imp id fun q => by rw [q]; exact hn⟩ sto
    · by_cases q : y = x
      · by_cases q' : z = x
        · rw [q, q']
        · rw [Ro.get_set_ne q'] at h4
          subst q
          rw [adrx, adrn z q'] at h5
          exact absurd h5.symm (hne z fs h2 h4)
      · rw [Ro.get_set_ne q] at h3
        by_cases q' : z = x
        · subst q'
          rw [adrx, adrn y q] at h5
          exact absurd h5 (hne y es h1 h3)
        · rw [Ro.get_set_ne q'] at h4
          rw [adrn y q, adrn z q'] at h5
          exact f.inj y z es fs h1 h2 h3 h4 h5
    · by_cases q' : y = x
      · subst q'
        rw [adrx] at q
        obtain ⟨o, ho⟩ := hX₀ _ q
        rw [hn] at ho; cases ho
      · rw [Ro.get_set_ne q'] at h2
        rw [adrn y q'] at q
        exact f.off y es h1 h2 q
end
end Mine
end

section
set_option Elab.async false
set_option maxRecDepth 100000
open PySem PySem.Calls PyProof.Rows
namespace Mine

def FlwP (h : Heap) (X : Addr → Prop) : Flw → Flow → Prop
  | .next, .next => True
  | .brk, .brk => True
  | .ret d, .ret v => Rep h X v d
  | _, _ => False
/-- what a statement leaves -/
def ExP (h₀ : Heap) (X₀ : Addr → Prop) (env : Env) (adr : Str → Addr) (ρ : Ro) (s : Shared) (r : Flw × Ro) : Flow → Shared → Prop := fun f s' =>
  ∃ h' tk adr', s' = { s with heap := h', toks := tk } ∧ Fs h₀ X₀ env adr' r.2 h' ∧ Stp env adr ρ s.heap adr' r.2 h' ∧ FlwP h' (Xo X₀ env adr' r.2) r.1 f

section
variable {h₀ : Heap} {X X₀ : Addr → Prop} {env : Env} {adr adr' adr'' : Str → Addr} {ρ ρ' ρ'' : Ro} {h h' h'' : Heap}
variable {M : Model} {A : Around} {E : Value → Shared → Prop} {s : Shared}

theorem ExP.after {r : Flw × Ro} {f : Flow} {s' : Shared} {h1 : Heap} {tk1 : Nat} (fs : Fs h₀ X₀ env adr' ρ' h1) (stp : Stp env adr ρ s.heap adr' ρ' h1) (x : ExP h₀ X₀ env adr' ρ' { s with heap := h1, toks := tk1 } r f s') : ExP h₀ X₀ env adr ρ s r f s' := by
  obtain ⟨h', tk, a'', rfl, f', p, q⟩ := x
  exact ⟨h', tk, a'', rfl, f', stp.trans fs.st p, q⟩

theorem Fs.dom0 (f : Fs h₀ X₀ env adr ρ h) : ∀ a, X₀ a → ∃ o, h.get? a = some o := fun a q => f.st.dom a (.inl q)

/-- a place that is no part of the frame is changed -/
theorem Fs.other {c : Addr} (f : Fs h₀ X₀ env adr ρ h) (hs : Heap.SameBut c h h') (hc : ∀ o vs n, h.get? c = some o → o.data = .seq vs n → False) (hc0 : h₀.get? c = none) (hcX : ¬ Xo X₀ env adr ρ c) (hL : env.locals ≠ c) (hcel : ∀ y, env.kindOf y = some .cell → env.cells.lookup y ≠ some c) : Fs h₀ X₀ env adr ρ h' := by
  refine ⟨⟨fun b o e => (hs.2 b (fun q => by rw [q, hc0] at e; cases e)).trans (f.st.base b o e), fun b hb => ?_, f.st.out, ?_, fun x hx => ?_⟩, f.inj, f.off⟩
  · obtain ⟨o, ho⟩ := f.st.dom b hb
    exact ⟨o, (hs.2 b fun q => hcX (q ▸ hb)).trans ho⟩
  · obtain ⟨m, hm, hv⟩ := f.st.ns
    exact ⟨m, hm.sameBut hs hL, fun x hx => (hv x hx).other hs hc⟩
  · obtain ⟨c', o, h1, h2, h3⟩ := f.st.cel x hx
    exact ⟨c', o, h1, h2.sameBut hs (fun q => hcel x hx (q ▸ h1)), h3.other hs hc⟩

/-- the list that a name owns is changed -/
theorem Fs.setOwn {x : Str} {ds ds' : List D} {vs' : List Value} {n' : Nat} (f : Fs h₀ X₀ env adr ρ h) (hk : vk (env.kindOf x) = true) (hx : ρ.get x = .own ds) (hs : Heap.SameBut (adr x) h h') (hn : h'.get? (adr x) = some (lobj vs' n')) (hr : RepA h (Xo X₀ env adr ρ) vs' ds') :
    Fs h₀ X₀ env adr (ρ.set x (.own ds')) h' ∧ Stp env adr ρ h adr (ρ.set x (.own ds')) h' := by
  have ow : ∀ b, Ow env adr (ρ.set x (.own ds')) b ↔ Ow env adr ρ b := fun b => by
    constructor
    · rintro ⟨y, es, h1, h2, h3⟩
      by_cases q : y = x
      · subst q; exact ⟨y, ds, hk, hx, h3⟩
      · rw [Ro.get_set_ne q] at h2; exact ⟨y, es, h1, h2, h3⟩
    · rintro ⟨y, es, h1, h2, h3⟩
      by_cases q : y = x
      · subst q; exact ⟨y, ds', hk, Ro.get_set_eq, h3⟩
      · exact ⟨y, es, h1, by rw [Ro.get_set_ne q]; exact h2, h3⟩
  have xo : ∀ b, Xo X₀ env adr (ρ.set x (.own ds')) b ↔ Xo X₀ env adr ρ b := fun b => or_congr Iff.rfl (ow b)
  have hX : Xo X₀ env adr ρ (adr x) := .inr ⟨x, ds, hk, hx, rfl⟩
  have keep : Keep (Xo X₀ env adr ρ) h h' := fun b o hb _ e => (hs.2 b fun q => hb (q ▸ hX)).trans e
  have hsub : ∀ a, ¬ Xo X₀ env adr ρ a → (∃ o, h.get? a = some o) → ¬ Xo X₀ env adr (ρ.set x (.own ds')) a := fun a p _ q => p ((xo a).mp q)
  have own : ∀ y es, (ρ.set x (.own ds')).get y = .own es → ∃ es', ρ.get y = .own es' := fun y es e => by
    by_cases q : y = x
    · subst q; exact ⟨ds, hx⟩
    · rw [Ro.get_set_ne q] at e; exact ⟨es, e⟩
  obtain ⟨m, hm, hv⟩ := f.st.ns
  have hob : ∃ o vs n, h.get? (adr x) = some o ∧ o.data = .seq vs n := by
    rcases vk_or hk with hk' | hk'
    · have := hv x hk'; rw [hx] at this; obtain ⟨_, _, vs, n, ho, _⟩ := this; exact ⟨_, _, _, ho, rfl⟩
    · obtain ⟨c, o, _, _, h3⟩ := f.st.cel x hk'; rw [hx] at h3; obtain ⟨_, _, vs, n, ho, _⟩ := h3; exact ⟨_, _, _, ho, rfl⟩
  obtain ⟨ob, vb, nb, hob, hod⟩ := hob
  have val : ∀ y o, vk (env.kindOf y) = true → ValOf h (Xo X₀ env adr ρ) adr y (ρ.get y) o → ValOf h' (Xo X₀ env adr (ρ.set x (.own ds'))) adr y ((ρ.set x (.own ds')).get y) o := by
    intro y o hky v
    by_cases q : y = x
    · subst q
      rw [Ro.get_set_eq]
      rw [hx] at v
      exact ⟨v.1, (xo _).mpr v.2.1, vs', n', hn, hr.move keep hsub⟩
    · rw [Ro.get_set_ne q]
      refine v.move keep hsub fun es e => ⟨.inr ⟨y, es, hky, by rw [Ro.get_set_ne q]; exact e, rfl⟩, fun o' ho => (hs.2 _ fun z => q (f.inj y x es ds hky hk e hx z)).trans ho⟩
  refine ⟨⟨⟨fun b o e => (hs.2 b (fun q => by rw [q, f.st.out _ hX] at e; cases e)).trans (f.st.base b o e), fun b hb => ?_, fun b hb => f.st.out b ((xo b).mp hb), ⟨m, hm.sameBut hs (fun q => seq_not_dict (q ▸ hob) hod hm), fun y hy => val y _ (by rw [hy]; rfl) (hv y hy)⟩, fun y hy => ?_⟩,
    fun y z es fs h1 h2 h3 h4 h5 => ?_, fun y es h1 h2 => ?_⟩, ⟨fun b o e n1 n2 n3 => (hs.2 b fun q => n3 ⟨x, ds, hk, hx, q.symm⟩).trans e, fun b q => .inl ((ow b).mp q)⟩⟩
  · by_cases q : b = adr x
    · exact ⟨_, q ▸ hn⟩
    · obtain ⟨o, ho⟩ := f.st.dom b ((xo b).mp hb); exact ⟨o, (hs.2 b q).trans ho⟩
  · obtain ⟨c, o, h1, h2, h3⟩ := f.st.cel y hy
    exact ⟨c, o, h1, h2.sameBut hs (fun q => seq_not_cell (q ▸ hob) hod h2), val y _ (by rw [hy]; rfl) h3⟩
  · obtain ⟨e1, h3⟩ := own y es h3
    obtain ⟨e2, h4⟩ := own z fs h4
    exact f.inj y z e1 e2 h1 h2 h3 h4 h5
  · obtain ⟨e1, h2⟩ := own y es h2
    exact f.off y e1 h1 h2

/-- the list that a name owns -/
theorem Fs.owned {x : Str} {ds : List D} (f : Fs h₀ X₀ env adr ρ h) (hk : vk (env.kindOf x) = true) (hx : ρ.get x = .own ds) : ∃ vs n, h.get? (adr x) = some (lobj vs n) ∧ RepA h (Xo X₀ env adr ρ) vs ds := by
  obtain ⟨m, hm, hv⟩ := f.st.ns
  rcases vk_or hk with hk' | hk'
  · have := hv x hk'; rw [hx] at this; exact this.2.2
  · obtain ⟨c, o, _, _, h3⟩ := f.st.cel x hk'; rw [hx] at h3; exact h3.2.2
theorem Fs.nameOwn {x : Str} {p : Pos} {ds : List D} {Q : Value → Shared → Prop} (f : Fs h₀ X₀ env adr ρ s.heap) (ok : EnvOk h₀ env) (hk : vk (env.kindOf x) = true) (hd : (x == ("__debug__" : Str)) = false) (hx : ρ.get x = .own ds) (h : Q (.ref (adr x)) s) : wpAny M A (eval (.Name x p) env) Q E s := by
  refine wpAny_Name (f.st.load ok hk (fun v _ hv _ => ?_) ⟨.lst ds, by rw [hx]; rfl⟩) hd
  rw [hx] at hv
  obtain ⟨e, _⟩ := hv
  cases e
  exact h
end
end Mine
end

section
set_option Elab.async false
set_option maxRecDepth 100000
open PySem PySem.Calls PyProof.Rows
namespace Mine

def valOk : Expr → Bool
  | .IfExp _ _ _ _ => true
  | .Subscript _ _ _ => true
  | _ => false

def okS : Nat → Scope → Stmt → Bool
  | 0, _, _ => false
  | n + 1, sc, st => match st with
    | .Assign [.Name x _] e _ => vk (sc.names.lookup x) && (match sortedArg e with
      | some y => okG sc (S "sorted") && sc.names.lookup x == some .local && sc.names.lookup y == some .local && !(y == ("__debug__" : Str))
      | none => okE n sc e)
    | .Assign [.Tuple [.Name x _] _ _] (.SetComp elt gens inner p) _ => vk (sc.names.lookup x) && okE n sc (.SetComp elt gens inner p)
    | .Assign [.Tuple ts _ _] e _ => (ts.all fun t => match t with | .Name x _ => vk (sc.names.lookup x) | _ => false) && okE n sc e && valOk e
    | .Assign [.Subscript (.Name x _) i _] e _ => vk (sc.names.lookup x) && !(x == ("__debug__" : Str)) && okE n sc i && okE n sc e && (match e with | .Constant _ _ _ => true | .BinOp _ _ _ _ => true | .Name _ _ => true | _ => false)
    | .AugAssign (.Name x _) _ e _ => vk (sc.names.lookup x) && okE n sc e
    | .AugAssign (.Subscript (.Name x _) i _) _ e _ => vk (sc.names.lookup x) && !(x == ("__debug__" : Str)) && okE n sc i && okE n sc e
    | .Expr (.Call (.Attribute (.Name x _) _ ap) [e] [] p) _ => vk (sc.names.lookup x) && !(x == ("__debug__" : Str)) && okE n sc e && ap.endLine == p.line
    | .If t b o _ => okE n sc t && (b.all fun s => okS n sc s) && (o.all fun s => okS n sc s)
    | .For (.Name x _) it body [] _ => vk (sc.names.lookup x) && okE n sc it && body.all fun s => okS n sc s
    | .For (.Tuple [.Name i _, .Name c _] _ _) (.Call (.Name f _) [e] [] _) body [] _ => vk (sc.names.lookup i) && vk (sc.names.lookup c) && okG sc f && okE n sc e && body.all fun s => okS n sc s
    | .While t body [] _ => okE n sc t && body.all fun s => okS n sc s
    | .Return (some e) _ => okE n sc e
    | .Break _ => true
    | .Raise _ _ _ => true
    | .Try body (_ :: _) [] [] _ => body.all fun s => okS n sc s
    | _ => false

section
variable {prog : Program} {w : World} {h₀ : Heap} {Φ : Str → List D → Option D} {ow : Str → Bool} {fz : Nat → List Str} {k n m : Nat} {X₀ : Addr → Prop} {env : Env} {adr : Str → Addr} {ρ : Ro} {A : Around} {s : Shared} {E : Value → Shared → Prop}

theorem mapSeq_obj (vs : List Value) (nn j : Nat) (v : Value) : ∃ n', Obj.mapSeq (·.setIfInBounds j v) (lobj vs nn) = lobj (vs.set j v) n' := by
  refine ⟨nn, ?_⟩
  simp [Obj.mapSeq, lobj]

theorem setItem_own {l : Addr} {vs : List Value} {nn : Nat} {k : Int} {t : Tok} {v : Value} {Q : Unit → Shared → Prop} (ho : s.heap.get? l = some (lobj vs nn)) (h0 : 0 ≤ k) (hfit : k < 2 ^ 63) (hj : k < vs.length)
    (hQ : ∀ h' n', Heap.SameBut l s.heap h' → h'.get? l = some (lobj (vs.set k.toNat v) n') → Q () { s with heap := h' }) : wpAny (model prog w) A (setItem (.ref l) (.int k t) v) Q E s := by
  have hl := lobj_isList ho
  unfold setItem
  try with_reducible refine wpAny_holding ?_
  first | refine wpAny_bind (wpAny_pure ?_) | skip
  refine wpAny_bind (wpAny_sequenceKey hl.typeIs (by decide) ?_)
  refine wpAny_bind (wpAny_callSpecial?_slot (name := Str.ofString "__setitem__") hl.typeIs slot_list_setitem (wpAny_call_entry slot_list_setitem hl.typeIs entry_list_setitem ?_ (args_list_setitem _ _ _)))
  show wpAny _ _ (Builtin.List.listSubscript? (.int k t) >>= _) _ _ s
  refine wpAny_bind (wpAny_listSubscript_int (fitsIndex_of h0 hfit) ?_)
  clear hfit
  obtain ⟨j, rfl⟩ := Int.eq_ofNat_of_zero_le h0
  have hj : j < vs.length := by omega
  have hx : vs.toArray[j]? = some vs[j] := by simp [hj]
  show wpAny _ _ ((seqItemAt l j >>= fun r => pure (r.map (j, ·))) >>= _) _ _ s
  refine wpAny_bind (wpAny_bind (wpAny_seqItemAt ho rfl (wpAny_pure ?_)))
  rw [hx]
  show wpAny _ _ (setSeqItemAt l j v >>= _) _ _ s
  refine wpAny_bind (wpAny_setSeqItemAt ho rfl ?_)
  obtain ⟨n', hfin⟩ := mapSeq_obj vs nn j v
  have hself := Heap.get?_update_self (Obj.mapSeq (·.setIfInBounds j v)) ho rfl
  rw [hfin] at hself
  first
    | exact wpAny_bind (wpAny_pure (wpAny_pure ⟨.none, rfl, wpAny_pure (hQ _ n' (Heap.SameBut.update ..) hself)⟩))
    | exact wpAny_pure ⟨.none, rfl, wpAny_pure (hQ _ n' (Heap.SameBut.update ..) hself)⟩

theorem aug_sound {X : Addr → Prop} {op : Operator} {a b d : D} {u v : Value} (h : augD op a b = some d) (ra : Rep s.heap X u a) (rb : Rep s.heap X v b) : wpAny (model prog w) A (inplaceOp op u v) (EvP s fun h v => Rep h X v d) E s := by
  unfold augD at h
  split at h
  · obtain ⟨t, rfl⟩ := rep_int ra
    obtain ⟨t', rfl⟩ := rep_int rb
    cases h
    exact AutoIntOps.iadd_0 (retI rfl)
  · obtain ⟨t, rfl⟩ := rep_int ra
    obtain ⟨t', rfl⟩ := rep_int rb
    simp only [binD] at h
    split at h
    · rename_i hc
      cases h
      simp only [small, Bool.and_eq_true, decide_eq_true_eq] at hc
      refine AutoIntOps.imul_0 (retI rfl) (IntMulOk.of_left (intBits_le_iff.mpr (by omega)))
    · cases h
  · exact (addT_sound h ra rb).2
  · cases h
end
end Mine
end

section
set_option Elab.async false
set_option maxRecDepth 100000
open PySem PySem.Calls PyProof.Rows
namespace Mine
section
variable (prog : Program) (w : World) (h₀ : Heap) (Φ : Str → List D → Option D) (ow : Str → Bool) (fz : Nat → List Str) (k n : Nat)
def ExS : Prop := ∀ (st : Stmt) (ρ : Ro) (r : Flw × Ro) (m : Nat) (env : Env) (X₀ : Addr → Prop) (adr : Str → Addr) (A : Around) (s : Shared), exS Φ ow fz n st ρ = some r → okS m env.scope st = true → EnvOk h₀ env → Fs h₀ X₀ env adr ρ s.heap → Room (k + 1) A →
  wpAny (model prog w) A (exec st env) (ExP h₀ X₀ env adr ρ s r) (fun _ _ => False) s
def ExsS : Prop := ∀ (ss : List Stmt) (ρ : Ro) (r : Flw × Ro) (m : Nat) (env : Env) (X₀ : Addr → Prop) (adr : Str → Addr) (A : Around) (s : Shared), exs Φ ow fz n ss ρ = some r → (ss.all fun s => okS m env.scope s) = true → EnvOk h₀ env → Fs h₀ X₀ env adr ρ s.heap → Room (k + 1) A →
  wpAny (model prog w) A (execs ss env) (ExP h₀ X₀ env adr ρ s r) (fun _ _ => False) s
end

theorem storeNew_cases {ow : Str → Bool} {x : Str} {e : Expr} {d : D} {ρ : Ro} : storeNew ow x e d ρ = ρ.set x (.frz d) ∨ ∃ ds, d = .lst ds ∧ storeNew ow x e d ρ = ρ.set x (.own ds) ∧
    ((∃ es p, e = .List es p) ∨ (∃ l r p, e = .BinOp l .Mult r p ∧ ds.all (fun d => match d with | .int _ => true | .none => true | _ => false) = true) ∨ ∃ elt gens sc p, e = .ListComp elt gens sc p) := by
  unfold storeNew
  split
  · split
    · exact .inr ⟨_, rfl, rfl, .inl ⟨_, _, rfl⟩⟩
    · exact .inl rfl
  · split
    · rename_i h
      rw [Bool.and_eq_true] at h
      exact .inr ⟨_, rfl, rfl, .inr (.inl ⟨_, _, _, rfl, h.2⟩)⟩
    · exact .inl rfl
  · split
    · exact .inr ⟨_, rfl, rfl, .inr (.inr ⟨_, _, _, _, rfl⟩)⟩
    · exact .inl rfl
  · exact .inl rfl

def isComp : Expr → Bool
  | .ListComp _ _ _ _ => true
  | .SetComp _ _ _ _ => true
  | .DictComp _ _ _ _ _ => true
  | _ => false
theorem swaps_plain {e : Expr} (h : isComp e = false) (t : Option Expr) (l : Nat) (env : Env) : swapsWith e t l env = pure false := by
  cases e <;> first | rfl | cases h

section
variable {M : Model} {h₀ : Heap} {k n m : Nat} {X₀ : Addr → Prop} {env : Env} {adr : Str → Addr} {ρ : Ro} {A : Around} {s : Shared} {E : Value → Shared → Prop}
theorem store_fin {x : Str} {v : Value} {d : D} {h1 : Heap} {tk1 : Nat} (f : Fs h₀ X₀ env adr ρ s.heap) (ok : EnvOk h₀ env) (hk : vk (env.kindOf x) = true) (e : Ext s.heap h1) (r : Rep h1 (Xo X₀ env adr ρ) v d) :
    wpAny M A (storeName env x v) (fun _ s' => ExP h₀ X₀ env adr ρ s (.next, ρ.set x (.frz d)) .next s') E { s with heap := h1, toks := tk1 } :=
  Fs.store (s := { s with heap := h1, toks := tk1 }) (f.ext e) ok hk r fun h' tk f' st' _ => ⟨h', tk, adr, rfl, f', (Stp.ext e).trans (f.ext e).st st', trivial⟩
theorem storeOwn_fin {x : Str} {v : Value} {ds : List D} {h1 : Heap} {tk1 : Nat} (f : Fs h₀ X₀ env adr ρ s.heap) (ok : EnvOk h₀ env) (hk : vk (env.kindOf x) = true) (e : Ext s.heap h1) (r : FreshL s (Xo X₀ env adr ρ) ds h1 v) :
    wpAny M A (storeName env x v) (fun _ s' => ExP h₀ X₀ env adr ρ s (.next, ρ.set x (.own ds)) .next s') E { s with heap := h1, toks := tk1 } :=
  f.storeOwn ok f.dom0 hk e r fun h' tk adr' f' st' _ => ⟨h', tk, adr', rfl, f', st', trivial⟩
end

theorem atoms_rep {h : Heap} {X X' : Addr → Prop} {vs : List Value} {ds : List D} (ha : ds.all (fun d => match d with | .int _ => true | .none => true | _ => false) = true) (r : RepA h X vs ds) : RepA h X' vs ds := by
  induction vs generalizing ds with
  | nil => cases r; exact .nil
  | cons v vs ih =>
    cases r with
    | cons r rs =>
      rw [List.all_cons, Bool.and_eq_true] at ha
      refine .cons ?_ (ih ha.2 rs)
      cases r <;> first | exact .none | exact .int _ _ | (cases ha.1)

section
variable {prog : Program} {w : World} {h₀ : Heap} {Φ : Str → List D → Option D} {ow : Str → Bool} {fz : Nat → List Str} {k n m : Nat} {X X₀ : Addr → Prop} {env : Env} {adr : Str → Addr} {ρ : Ro} {A : Around} {s : Shared} {E : Value → Shared → Prop}

/-- a list that is a product -/
theorem mult_fresh (a : All prog w h₀ Φ k n) {l r : Expr} {p : Pos} {ds : List D} (h : ev Φ (n + 1) (.BinOp l .Mult r p) ρ = some (.lst ds)) (ha : ds.all (fun d => match d with | .int _ => true | .none => true | _ => false) = true) (hok : okE (m + 1) env.scope (.BinOp l .Mult r p) = true) (ok : EnvOk h₀ env) (st : St h₀ env X adr ρ s.heap) (R : Room (k + 1) A) :
    wpAny (model prog w) A (eval (.BinOp l .Mult r p) env) (EvP s (FreshL s X ds)) E s := by
  simp only [ev] at h
  simp only [okE, Bool.and_eq_true] at hok
  cases hl : ev Φ n l ρ with
  | none => rw [hl] at h; cases h
  | some x =>
  cases hr : ev Φ n r ρ with
  | none => rw [hl, hr] at h; cases h
  | some y =>
  rw [hl, hr] at h
  refine wpAny_BinOp (wpAny_mono (a.ev l ρ x m env X adr A s E hl hok.1 ok st R) (fun u s1 h1 => ?_) fun _ _ e => e)
  obtain ⟨h1, tk1, rfl, e1, r1⟩ := h1
  refine wpAny_mono (a.ev r ρ y m env X adr A _ E hr hok.2 ok (st.ext e1) R) (fun v s2 h2 => ?_) fun _ _ e => e
  obtain ⟨h2, tk2, rfl, e2, r2⟩ := h2
  rcases binD_cases h with ⟨i, j, rfl, rfl⟩ | ⟨q, _⟩ | ⟨q, _⟩ | ⟨_, z, j, rfl, rfl, h0, hlm, hd⟩
  · exfalso
    simp only [binD] at h
    split at h <;> cases h
  · cases q
  · cases q
  · cases hd
    obtain ⟨t, rfl⟩ := rep_int r2
    refine wpAny_mono (mulL_sound h0 hlm (r1.ext e2).b) (fun v s3 h3 => EvP.lift (e1.trans e2) (P := NewL h2 X (List.replicate j.toNat z)) (fun h v _ x => ?_) h3) fun _ _ e => e
    obtain ⟨vs, nn, rfl, hg, hrr⟩ := x
    refine ⟨_, vs, nn, rfl, ?_, hg, atoms_rep ha hrr⟩
    cases q : s.heap.get? h2.objs.size with
    | none => rfl
    | some o => exact absurd (Heap.lt_size ((e1.trans e2) _ _ q)) (Nat.lt_irrefl _)

theorem comp_out {C : Addr} {hp : Heap} (f : Fs h₀ X₀ env adr ρ hp) (hC : hp.get? C = none) : h₀.get? C = none ∧ ¬ Xo X₀ env adr ρ C ∧ env.locals ≠ C ∧ ∀ y, env.kindOf y = some .cell → env.cells.lookup y ≠ some C := by
  have := f.st.offFresh (wr := [C]) (fun b hb => by rw [List.mem_singleton] at hb; rw [hb]; exact hC) C (by simp)
  exact ⟨this.1, this.2.1, fun q => this.2.2.1 q.symm, this.2.2.2⟩

/-- an assignment to a name -/
theorem arm_assign (hall : ∀ n, All prog w h₀ Φ k n) {x : Str} {px pos : Pos} {e : Expr} {d : D} (hs : sortedArg e = none) (h : ev Φ n e ρ = some d) (hk : vk (env.kindOf x) = true) (hok : okE m env.scope e = true) (ok : EnvOk h₀ env) (f : Fs h₀ X₀ env adr ρ s.heap) (R : Room (k + 1) A) :
    wpAny (model prog w) A (exec (.Assign [.Name x px] e pos) env) (ExP h₀ X₀ env adr ρ s (.next, storeNew ow x e d ρ)) (fun _ _ => False) s := by
  have plain : isComp e = false → storeNew ow x e d ρ = ρ.set x (.frz d) → wpAny (model prog w) A (exec (.Assign [.Name x px] e pos) env) (ExP h₀ X₀ env adr ρ s (.next, storeNew ow x e d ρ)) (fun _ _ => False) s := fun hc hq => by
    rw [hq]
    refine wpAny_Assign_Name (wpAny_mono ((hall n).ev e ρ d m env _ adr A s _ h hok ok f.st R) (fun v s1 h1 => ?_) fun _ _ e => e) (swaps_plain hc _ _ _)
    obtain ⟨h1, tk1, rfl, e1, r1⟩ := h1
    exact store_fin f ok hk e1 r1
  cases hcomp : isComp e with
  | false =>
    rcases storeNew_cases (ow := ow) (x := x) (e := e) (d := d) (ρ := ρ) with hq | ⟨ds, rfl, hq, hcase⟩
    · exact plain hcomp hq
    · rw [hq]
      refine wpAny_Assign_Name ?_ (swaps_plain hcomp _ _ _)
      have fresh : wpAny (model prog w) A (eval e env) (EvP s (FreshL s (Xo X₀ env adr ρ) ds)) (fun _ _ => False) s := by
        cases m with
        | zero => cases hok
        | succ m =>
        cases n with
        | zero => cases h
        | succ n =>
        rcases hcase with ⟨es, p, rfl⟩ | ⟨l, r, p, rfl, ha⟩ | ⟨elt, gens, sc, p, rfl⟩
        · simp only [ev] at h
          obtain ⟨ds', hds, hd⟩ := Option.map_eq_some_iff.mp h
          cases hd
          simp only [okE, Bool.and_eq_true, decide_eq_true_eq] at hok
          exact list_fresh (hall n).ev hds hok.2 (by rw [← mapO_length hds]; exact Nat.le_trans hok.1 (by decide)) ok f.st R
        · exact mult_fresh (hall n) h ha hok ok f.st R
        · cases hcomp
      refine wpAny_mono fresh (fun v s1 h1 => ?_) fun _ _ e => e
      obtain ⟨h1, tk1, rfl, e1, r1⟩ := h1
      exact storeOwn_fin f ok hk e1 r1
  | true =>
    cases e <;> first | (cases hcomp; done) | skip
    case SetComp => cases n <;> cases h
    case DictComp => cases n <;> cases h
    rename_i elt gens sc p
    cases m with
    | zero => cases hok
    | succ m =>
    cases n with
    | zero => cases h
    | succ n =>
    simp only [ev] at h
    cases n with
    | zero => cases h
    | succ n =>
    split at h
    · rename_i ds hds
      split at h
      · rename_i hl
        cases h
        -- both stores
        have fin : ∀ (v : Value) (h1 : Heap) (tk1 : Nat) (Q : Unit → Shared → Prop), Ext s.heap h1 → FreshL s (Xo X₀ env adr ρ) ds h1 v →
            (∀ h' tk adr', Fs h₀ X₀ env adr' (storeNew ow x (.ListComp elt gens sc p) (.lst ds) ρ) h' → Stp env adr ρ s.heap adr' (storeNew ow x (.ListComp elt gens sc p) (.lst ds) ρ) h' → Stored env x h1 h' → Q () { s with heap := h', toks := tk }) →
            wpAny (model prog w) A (storeName env x v) Q (fun _ _ => False) { s with heap := h1, toks := tk1 } := by
          intro v h1 tk1 Q e1 r1 hQ
          rcases storeNew_cases (ow := ow) (x := x) (e := .ListComp elt gens sc p) (d := .lst ds) (ρ := ρ) with hq | ⟨ds', hd, hq, _⟩
          · rw [hq] at hQ
            exact Fs.store (s := { s with heap := h1, toks := tk1 }) (f.ext e1) ok hk (r1.rep f.st.dom) fun h' tk f' st' sto => hQ h' tk adr f' ((Stp.ext e1).trans (f.ext e1).st st') sto
          · cases hd
            rw [hq] at hQ
            exact f.storeOwn ok f.dom0 hk e1 r1 hQ
        obtain ⟨sb, hsb⟩ : ∃ b, swapsWith (.ListComp elt gens sc p) (some (.Name x px)) pos.line env = pure b := ⟨_, rfl⟩
        cases sb with
        | false =>
          refine wpAny_Assign_Name (wpAny_mono (listcomp_fresh (hall n).tst (hall n).src (hall n).comp hds hl hok ok f.st R) (fun v s1 h1 => ?_) fun _ _ e => e) hsb
          obtain ⟨h1, tk1, rfl, e1, r1⟩ := h1
          exact fin v h1 tk1 _ e1 r1 fun h' tk adr' f' st' _ => ⟨h', tk, adr', rfl, f', st', trivial⟩
        | true =>
          rw [exec_Assign_Name_used _ _ _ _ hsb]
          refine wpAny_bind (wpAny_standAt (wpAny_bind ?_))
          show wpAny _ A (do let _ ← comprehension (.ListComp elt gens sc p) sc env _ (newList []) (firstAsync gens) (firstIter gens env) (some (assign (.Name x px) env))) _ _ s
          refine wpAny_bind (wpAny_mono (comp_fresh (hall n).tst (hall n).src (hall n).comp (use := some (assign (.Name x px) env)) (Q := fun _ s' => ExP h₀ X₀ env adr ρ s (.next, storeNew ow x (.ListComp elt gens sc p) (.lst ds) ρ) .next s') hds hl hok ok f.st R fun D C h' tk vs nn m' hD hC hDC e1 hd hn hr => ?_) (fun _ s' hq => wpAny_pure (wpAny_pure hq)) fun _ _ e => e)
          show wpAny _ A (assign (.Name x px) env (.ref D)) _ _ _
          refine wpAny_assign_Name (fin (.ref D) h' tk _ e1 ⟨D, vs, nn, rfl, hD, hd, hr⟩ fun h2 tk2 adr' f' st' sto => ?_)
          obtain ⟨c1, c2, c3, c4⟩ := comp_out f hC
          have hn2 : h2.Ns C m' := hn.at' fun o e => sto.keep hk C o e (Ne.symm c3) c4
          refine ⟨m', hn2, fun h3 hs3 => ⟨h3, tk2, adr', rfl, f'.other hs3 (fun o vs n ho hd => seq_not_dict ho hd hn2) c1 (fun q => ?_) c3 c4, ⟨fun b o e n1 n2 n3 => (hs3.2 b fun q => by rw [q, hC] at e; cases e).trans (st'.keep b o e n1 n2 n3), st'.own⟩, trivial⟩⟩
          rcases q with q | ⟨y, es, h1, h2', h3'⟩
          · exact c2 (.inl q)
          · obtain ⟨vs', n', ho, _⟩ := f'.owned h1 h2'
            exact seq_not_dict (h3' ▸ ho) rfl hn2
      · cases h
    · cases h
end
end Mine
end

section
set_option Elab.async false
set_option maxRecDepth 100000
open PySem PySem.Calls PyProof.Rows
namespace Mine
section
variable {prog : Program} {w : World} {h₀ : Heap} {Φ : Str → List D → Option D} {ow : Str → Bool} {fz : Nat → List Str} {k n m : Nat} {X X₀ : Addr → Prop} {env : Env} {adr : Str → Addr} {ρ : Ro} {A : Around} {s : Shared} {E : Value → Shared → Prop}

theorem lim63 {n : Nat} {k : Int} (hl : n ≤ lim) (hk : k < n) : k < 2 ^ 63 := by unfold lim at hl; omega

theorem arm_setitem (hall : ∀ n, All prog w h₀ Φ k n) {x : Str} {px pt pos : Pos} {i e : Expr} {v : D} {j : Int} {ds : List D} (he : ev Φ n e ρ = some v) (hi : ev Φ n i ρ = some (.int j)) (hx : ρ.get x = .own ds) (hj : 0 ≤ j ∧ j.toNat < ds.length ∧ ds.length ≤ lim)
    (hk : vk (env.kindOf x) = true) (hd : (x == ("__debug__" : Str)) = false) (hoki : okE m env.scope i = true) (hoke : okE m env.scope e = true) (hc : isComp e = false) (ok : EnvOk h₀ env) (f : Fs h₀ X₀ env adr ρ s.heap) (R : Room (k + 1) A) :
    wpAny (model prog w) A (exec (.Assign [.Subscript (.Name x px) i pt] e pos) env) (ExP h₀ X₀ env adr ρ s (.next, ρ.set x (.own (ds.set j.toNat v)))) (fun _ _ => False) s := by
  refine wpAny_Assign_Subscript (wpAny_mono ((hall n).ev e ρ v m env _ adr A s _ he hoke ok f.st R) (fun u s1 h1 => ?_) fun _ _ e => e) (swaps_plain hc _ _ _)
  obtain ⟨h1, tk1, rfl, e1, r1⟩ := h1
  have f1 := f.ext e1
  refine Fs.nameOwn (s := { s with heap := h1, toks := tk1 }) f1 ok hk hd hx ?_
  refine wpAny_mono ((hall n).ev i ρ _ m env _ adr A _ _ hi hoki ok f1.st R) (fun iv s2 h2 => ?_) fun _ _ e => e
  obtain ⟨h2, tk2, rfl, e2, r2⟩ := h2
  have f2 := f1.ext e2
  obtain ⟨t, rfl⟩ := rep_int r2
  obtain ⟨vs, nn, ho, hr⟩ := f2.owned hk hx
  have hl := hr.length
  refine setItem_own (s := { s with heap := h2, toks := tk2 }) ho hj.1 (lim63 hj.2.2 (by omega)) (by omega) fun h3 n3 hs3 hg3 => ?_
  obtain ⟨f3, st3⟩ := f2.setOwn hk hx hs3 hg3 (hr.set j.toNat (r1.ext e2))
  exact ⟨h3, tk2, adr, rfl, f3, (Stp.ext (e1.trans e2)).trans f2.st st3, trivial⟩

theorem arm_augname (hall : ∀ n, All prog w h₀ Φ k n) {x : Str} {px pos : Pos} {op : Operator} {e : Expr} {a b d : D} (ha : (ρ.get x).strict = some a) (he : ev Φ n e ρ = some b) (h : augD op a b = some d) (hk : vk (env.kindOf x) = true) (hok : okE m env.scope e = true) (ok : EnvOk h₀ env) (f : Fs h₀ X₀ env adr ρ s.heap) (R : Room (k + 1) A) :
    wpAny (model prog w) A (exec (.AugAssign (.Name x px) op e pos) env) (ExP h₀ X₀ env adr ρ s (.next, ρ.set x (.frz d))) (fun _ _ => False) s := by
  refine wpAny_AugAssign_Name (f.st.load ok hk (fun v _ hv _ => ?_) ?_)
  · cases hr : ρ.get x with
    | unset => rw [hr] at ha; cases ha
    | own ds => rw [hr] at ha; cases ha
    | frz d' =>
      rw [hr] at ha hv
      cases ha
      obtain ⟨u, e', r0⟩ := hv
      cases e'
      refine wpAny_mono ((hall n).ev e ρ b m env _ adr A s _ he hok ok f.st R) (fun u s1 h1 => ?_) fun _ _ e => e
      obtain ⟨h1, tk1, rfl, e1, r1⟩ := h1
      refine wpAny_mono (aug_sound (s := { s with heap := h1, toks := tk1 }) h (r0.ext e1) r1) (fun z s2 h2 => ?_) fun _ _ e => e
      obtain ⟨h2, tk2, rfl, e2, r2⟩ := h2
      exact store_fin f ok hk (e1.trans e2) r2
  · cases hr : ρ.get x with
    | frz d' => exact ⟨_, rfl⟩
    | unset => rw [hr] at ha; cases ha
    | own ds => rw [hr] at ha; cases ha

theorem augStore_plain {i : Expr} (hs : ∀ l u st p, i ≠ .Slice l u st p) (ov iv new : Value) : augStore i ov iv new = (do holding [new, ov, iv] (setItem ov iv new); release [new, ov, iv] []; pure .next) := by
  cases i <;> first | rfl | exact absurd rfl (hs _ _ _ _)

theorem arm_augitem (hall : ∀ n, All prog w h₀ Φ k n) {x : Str} {px pt pos : Pos} {op : Operator} {i e : Expr} {b d : D} {j c : Int} {ds : List D} (hi : ev Φ n i ρ = some (.int j)) (he : ev Φ n e ρ = some b) (hx : ρ.get x = .own ds) (hj : 0 ≤ j ∧ ds.length ≤ lim) (hg : ds[j.toNat]? = some (.int c)) (h : augD op (.int c) b = some d)
    (hk : vk (env.kindOf x) = true) (hd : (x == ("__debug__" : Str)) = false) (hoki : okE m env.scope i = true) (hoke : okE m env.scope e = true) (ok : EnvOk h₀ env) (f : Fs h₀ X₀ env adr ρ s.heap) (R : Room (k + 1) A) :
    wpAny (model prog w) A (exec (.AugAssign (.Subscript (.Name x px) i pt) op e pos) env) (ExP h₀ X₀ env adr ρ s (.next, ρ.set x (.own (ds.set j.toNat d)))) (fun _ _ => False) s := by
  have hjl : j.toNat < ds.length := by
    rcases Nat.lt_or_ge j.toNat ds.length with q | q
    · exact q
    · rw [List.getElem?_eq_none q] at hg; cases hg
  refine wpAny_AugAssign_Subscript_any (f.nameOwn ok hk hd hx ?_) (fun ov iv new => augStore_plain (ev_plain hi).2.2 ov iv new)
  refine wpAny_mono ((hall n).ev i ρ _ m env _ adr A s _ hi hoki ok f.st R) (fun iv s1 h1 => ?_) fun _ _ e => e
  obtain ⟨h1, tk1, rfl, e1, r1⟩ := h1
  have f1 := f.ext e1
  obtain ⟨t, rfl⟩ := rep_int r1
  obtain ⟨vs, nn, ho, hr⟩ := f1.owned hk hx
  have hidx : idxD (.lst ds) (.int j) = some (.int c) := by
    simp only [idxD, hj.2, if_true, natIdx, hj.1, hjl, Option.bind_some]
    exact hg
  refine wpAny_mono (item_sound (s := { s with heap := h1, toks := tk1 }) (X := Xo X₀ env adr ρ) hidx ⟨_, vs, nn, rfl, ho, hr⟩).1 (fun old s2 h2 => ?_) fun _ _ e => e
  obtain ⟨h2, tk2, rfl, e2, r2⟩ := h2
  have f2 := f1.ext e2
  refine wpAny_mono ((hall n).ev e ρ b m env _ adr A _ _ he hoke ok f2.st R) (fun v s3 h3 => ?_) fun _ _ e => e
  obtain ⟨h3, tk3, rfl, e3, r3⟩ := h3
  refine wpAny_mono (aug_sound (s := { s with heap := h3, toks := tk3 }) h (r2.ext e3) r3) (fun z s4 h4 => ?_) fun _ _ e => e
  obtain ⟨h4, tk4, rfl, e4, r4⟩ := h4
  have f4 := (f2.ext e3).ext e4
  obtain ⟨vs4, n4, ho4, hr4⟩ := f4.owned hk hx
  have hl4 := hr4.length
  refine setItem_own (s := { s with heap := h4, toks := tk4 }) ho4 hj.1 (lim63 hj.2 (by omega)) (by omega) fun h5 n5 hs5 hg5 => ?_
  obtain ⟨f5, st5⟩ := f4.setOwn hk hx hs5 hg5 (hr4.set j.toNat r4)
  exact ⟨h5, tk4, adr, rfl, f5, (Stp.ext (((e1.trans e2).trans e3).trans e4)).trans f4.st st5, trivial⟩

theorem arm_append (hall : ∀ n, All prog w h₀ Φ k n) {x : Str} {px ap p pos : Pos} {e : Expr} {v : D} {ds : List D} (he : ev Φ n e ρ = some v) (hx : ρ.get x = .own ds) (hl : ds.length ≤ lim) (hk : vk (env.kindOf x) = true) (hd : (x == ("__debug__" : Str)) = false) (hok : okE m env.scope e = true) (hline : (ap.endLine == p.line) = true) (ok : EnvOk h₀ env) (f : Fs h₀ X₀ env adr ρ s.heap) (R : Room (k + 1) A) :
    wpAny (model prog w) A (exec (.Expr (.Call (.Attribute (.Name x px) (S "append") ap) [e] [] p) pos) env) (ExP h₀ X₀ env adr ρ s (.next, ρ.set x (.own (ds ++ [v])))) (fun _ _ => False) s := by
  have hi : interactive env = false := by unfold interactive; rw [ok.kind]; rfl
  have he' : starEach [e] env = (false, eval e env) :: starEach [] env := star_plain (ev_plain he).1
  refine wpAny_Expr_any (wpAny_Call_method_lateS rfl (by rw [he']; rfl) hline (f.nameOwn ok hk hd hx ?_)) hi rfl
  obtain ⟨vs, nn, ho, hr⟩ := f.owned hk hx
  refine ⟨"list", _, F.plainAttrs_list, slot_list_append, type_list_append, ⟨_, ho, rfl⟩, (fun a q => by cases q; exact ⟨_, ho, rfl⟩), callWith_method1 ?_ he' rfl⟩
  rw [he']
  refine spliced_cons (wpAny_mono ((hall n).ev e ρ v m env _ adr A s _ he hok ok f.st R) (fun u s1 h1 => spliced_nil ?_) fun _ _ e => e)
  obtain ⟨h1, tk1, rfl, e1, r1⟩ := h1
  have f1 := f.ext e1
  obtain ⟨vs1, n1, ho1, hr1⟩ := f1.owned hk hx
  refine wpAny_list_append_plain (s := { s with heap := h1, toks := tk1 }) (items := vs1.toArray) ⟨n1, ho1⟩ (fun h2 hp hs => ?_) (by rw [List.size_toArray, hr1.length]; exact lim_le hl)
  obtain ⟨n2, hp⟩ := hp
  have hp' : h2.get? (adr x) = some (lobj (vs1 ++ [u]) n2) := by rw [hp]; simp
  obtain ⟨f2, st2⟩ := f1.setOwn hk hx hs hp' (hr1.append (.one r1))
  exact ⟨h2, tk1, adr, rfl, f2, (Stp.ext e1).trans f1.st st2, trivial⟩

theorem arm_return (hall : ∀ n, All prog w h₀ Φ k n) {pos : Pos} {e : Expr} {d : D} (he : ev Φ n e ρ = some d) (hok : okE m env.scope e = true) (ok : EnvOk h₀ env) (f : Fs h₀ X₀ env adr ρ s.heap) (R : Room (k + 1) A) :
    wpAny (model prog w) A (exec (.Return (some e) pos) env) (ExP h₀ X₀ env adr ρ s (.ret d, ρ)) (fun _ _ => False) s := by
  refine wpAny_Return_some (wpAny_mono ((hall n).ev e ρ d m env _ adr A s _ he hok ok f.st R) (fun v s1 h1 => ?_) fun _ _ e => e)
  obtain ⟨h1, tk1, rfl, e1, r1⟩ := h1
  exact ⟨h1, tk1, adr, rfl, f.ext e1, Stp.ext e1, r1⟩
end
end Mine
end

section
set_option Elab.async false
set_option maxRecDepth 100000
open PySem PySem.Calls PyProof.Rows
namespace Mine

theorem Fs.stepKeep {h₀ : Heap} {X₀ : Addr → Prop} {env : Env} {adr adr' : Str → Addr} {ρ ρ' : Ro} {h h' : Heap} (f : Fs h₀ X₀ env adr ρ h) (st : Stp env adr ρ h adr' ρ' h') : Keep (Xo X₀ env adr ρ) h h' := fun b o hb ⟨vs, n, e⟩ ho => by
  obtain ⟨m, hm, _⟩ := f.st.ns
  refine st.keep b o ho (fun q => seq_not_dict (q ▸ ho) e hm) (fun y hy q => ?_) fun q => hb (.inr q)
  obtain ⟨c, o', h1, h2, _⟩ := f.st.cel y hy
  rw [q] at h1; cases h1
  exact seq_not_cell ho e h2
theorem Rep.step {h₀ : Heap} {X₀ : Addr → Prop} {env : Env} {adr adr' : Str → Addr} {ρ ρ' : Ro} {h h' : Heap} {v : Value} {d : D} (r : Rep h (Xo X₀ env adr ρ) v d) (f : Fs h₀ X₀ env adr ρ h) (st : Stp env adr ρ h adr' ρ' h') : Rep h' (Xo X₀ env adr' ρ') v d :=
  r.move (f.stepKeep st) fun b hb ⟨o, ho⟩ q => q.elim (fun q => hb (.inl q)) fun q => (st.own b q).elim (fun q => hb (.inr q)) fun q => by rw [q] at ho; cases ho

section
variable {prog : Program} {w : World} {h₀ : Heap} {Φ : Str → List D → Option D} {ow : Str → Bool} {fz : Nat → List Str} {k n m : Nat} {X X₀ : Addr → Prop} {env : Env} {adr : Str → Addr} {ρ : Ro} {A : Around} {s : Shared} {E : Value → Shared → Prop}

theorem exsS_succ (hS : ExS prog w h₀ Φ ow fz k n) (hs : ExsS prog w h₀ Φ ow fz k n) : ExsS prog w h₀ Φ ow fz k (n + 1) := by
  intro ss ρ r m env X₀ adr A s h hok ok f R
  cases ss with
  | nil =>
    simp only [exs] at h
    cases h
    exact wpAny_execs_nil ⟨s.heap, s.toks, adr, rfl, f, Stp.refl, trivial⟩
  | cons st rest =>
    rw [List.all_cons, Bool.and_eq_true] at hok
    simp only [exs] at h
    cases h1 : exS Φ ow fz n st ρ with
    | none => rw [h1] at h; cases h
    | some p =>
    obtain ⟨fl, ρ1⟩ := p
    rw [h1] at h
    refine wpAny_execs_cons (wpAny_mono (hS st ρ _ m env X₀ adr A s h1 hok.1 ok f R) (fun g s1 x => ?_) fun _ _ e => e)
    obtain ⟨h1', tk1, adr1, rfl, f1, st1, fp⟩ := x
    cases fl with
    | next =>
      cases g <;> first | (cases fp; done) | skip
      exact wpAny_mono (hs rest ρ1 r m env X₀ adr1 A _ h hok.2 ok f1 R) (fun _ _ x => ExP.after f1 st1 x) fun _ _ e => e
    | brk =>
      cases g <;> first | (cases fp; done) | skip
      cases h
      exact ⟨h1', tk1, adr1, rfl, f1, st1, trivial⟩
    | ret d =>
      cases g <;> first | (cases fp; done) | skip
      cases h
      exact ⟨h1', tk1, adr1, rfl, f1, st1, fp⟩

theorem arm_if (hall : ∀ n, All prog w h₀ Φ k n) (hs : ExsS prog w h₀ Φ ow fz k n) {t : Expr} {b o : List Stmt} {pos : Pos} {c : Bool} {r : Flw × Ro} (ht : tst Φ n t ρ = some c) (h : exs Φ ow fz n (if c then b else o) ρ = some r) (hok : okE m env.scope t = true) (hb : (b.all fun s => okS m env.scope s) = true) (ho : (o.all fun s => okS m env.scope s) = true) (ok : EnvOk h₀ env) (f : Fs h₀ X₀ env adr ρ s.heap) (R : Room (k + 1) A) :
    wpAny (model prog w) A (exec (.If t b o pos) env) (ExP h₀ X₀ env adr ρ s r) (fun _ _ => False) s := by
  refine wpAny_If (wpAny_mono ((hall n).tst t ρ c m env _ adr A s _ ht hok ok f.st R) (fun c' s1 h1 => ?_) fun _ _ e => e)
  obtain ⟨h1, tk1, rfl, e1, rfl⟩ := h1
  cases c' with
  | true => exact wpAny_mono (hs b ρ r m env X₀ adr A _ h hb ok (f.ext e1) R) (fun _ _ x => ExP.after (f.ext e1) (Stp.ext e1) x) fun _ _ e => e
  | false => exact wpAny_mono (hs o ρ r m env X₀ adr A _ h ho ok (f.ext e1) R) (fun _ _ x => ExP.after (f.ext e1) (Stp.ext e1) x) fun _ _ e => e

theorem arm_try (hs : ExsS prog w h₀ Φ ow fz k n) {b : List Stmt} {hd : ExceptHandler} {hds : List ExceptHandler} {pos : Pos} {r : Flw × Ro} (h : exs Φ ow fz n b ρ = some r) (hb : (b.all fun s => okS m env.scope s) = true) (ok : EnvOk h₀ env) (f : Fs h₀ X₀ env adr ρ s.heap) (R : Room (k + 1) A) :
    wpAny (model prog w) A (exec (.Try b (hd :: hds) [] [] pos) env) (ExP h₀ X₀ env adr ρ s r) (fun _ _ => False) s := by
  refine wpAny_Try_except (wpAny_mono (hs b ρ r m env X₀ adr A s h hb ok f R) (fun g s1 x => ?_) fun _ _ e => e.elim)
  cases g with
  | next => exact wpAny_execs_nil x
  | _ => exact x

/-- a loop's end -/
def endOf : Flw → Flw
  | .brk => .next
  | f => f

theorem arm_while (hall : ∀ n, All prog w h₀ Φ k n) (hs : ExsS prog w h₀ Φ ow fz k n) {t : Expr} {b : List Stmt} {pos : Pos} {kk : Nat} {r : Flw × Ro} (h : whileT (fun r => tst Φ n t r) (fun r => exs Φ ow fz n b r) kk ρ = some r) (hok : okE m env.scope t = true) (hb : (b.all fun s => okS m env.scope s) = true) (ok : EnvOk h₀ env) (f : Fs h₀ X₀ env adr ρ s.heap) (R : Room (k + 1) A) :
    wpAny (model prog w) A (exec (.While t b [] pos) env) (ExP h₀ X₀ env adr ρ s r) (fun _ _ => False) s := by
  refine PySem.wpAny_While (codeAny_mono (codeAny_whileLoop (R := fun res s' => ∃ g, res = .ok g ∧ ExP h₀ X₀ env adr ρ s r g s') (fun kk s' => ∃ h' tk adr' ρ', s' = { s with heap := h', toks := tk } ∧ Fs h₀ X₀ env adr' ρ' h' ∧ Stp env adr ρ s.heap adr' ρ' h' ∧ whileT (fun r => tst Φ n t r) (fun r => exs Φ ow fz n b r) kk ρ' = some r) ?_ kk ⟨s.heap, s.toks, adr, ρ, rfl, f, Stp.refl, h⟩) fun res s' hr => ?_)
  · rintro kk s' ⟨h', tk, adr', ρ', rfl, f', st', hw⟩
    cases kk with
    | zero => cases hw
    | succ kk =>
    simp only [whileT] at hw
    cases ht : tst Φ n t ρ' with
    | none => rw [ht] at hw; cases hw
    | some c =>
    rw [ht] at hw
    refine wpAny_mono ((hall n).tst t ρ' c m env _ adr' A _ _ ht hok ok f'.st R) (fun c' s1 h1 => ?_) fun _ _ e => e
    obtain ⟨h1, tk1, rfl, e1, rfl⟩ := h1
    have f1 := f'.ext e1
    have st1 := st'.trans f'.st (Stp.ext e1)
    cases c' with
    | false =>
      dsimp only at hw
      cases hw
      simp only [Bool.false_eq_true, if_false]
      exact wpAny_execs_nil ⟨_, rfl, h1, tk1, adr', rfl, f1, st1, trivial⟩
    | true =>
      dsimp only at hw
      simp only [if_true]
      cases hbd : exs Φ ow fz n b ρ' with
      | none => rw [hbd] at hw; cases hw
      | some p =>
      obtain ⟨fl, ρ2⟩ := p
      rw [hbd] at hw
      refine wpAny_mono (hs b ρ' _ m env X₀ adr' A { s with heap := h1, toks := tk1 } hbd hb ok f1 R) (fun g s2 x => ?_) fun _ _ e => e.elim
      obtain ⟨h2, tk2, adr2, rfl, f2, st2, fp⟩ := x
      have st3 := st1.trans f1.st st2
      cases fl with
      | next =>
        cases g <;> first | (cases fp; done) | skip
        exact ⟨kk, Nat.lt_succ_self _, h2, tk2, adr2, ρ2, rfl, f2, st3, hw⟩
      | brk =>
        cases g <;> first | (cases fp; done) | skip
        cases hw
        exact ⟨_, rfl, h2, tk2, adr2, rfl, f2, st3, trivial⟩
      | ret d =>
        cases g <;> first | (cases fp; done) | skip
        cases hw
        exact ⟨_, rfl, h2, tk2, adr2, rfl, f2, st3, fp⟩
  · obtain ⟨g, rfl, x⟩ := hr
    exact x

theorem arm_for (hall : ∀ n, All prog w h₀ Φ k n) (hs : ExsS prog w h₀ Φ ow fz k n) {x : Str} {px pos : Pos} {it : Expr} {b : List Stmt} {items : List D} {r : Flw × Ro} (hon : ownName it ρ = false) (hsrc : src Φ n it ρ = some items) (h : forT (fun d r => some (r.set x (.frz d))) (fun r => exs Φ ow fz n b r) items ρ = some r)
    (hk : vk (env.kindOf x) = true) (hok : okE m env.scope it = true) (hb : (b.all fun s => okS m env.scope s) = true) (ok : EnvOk h₀ env) (f : Fs h₀ X₀ env adr ρ s.heap) (R : Room (k + 1) A) :
    wpAny (model prog w) A (exec (.For (.Name x px) it b [] pos) env) (ExP h₀ X₀ env adr ρ s r) (fun _ _ => False) s := by
  refine wpAny_For (wpAny_mono ((hall n).src it ρ items m env _ adr A s _ hsrc hok ok f.st R) (fun xv s1 h1 => wpAny_mono h1 (fun itv s2 h2 => ?_) fun _ _ e => e) fun _ _ e => e) (fold_plain (src_plain hsrc))
  obtain ⟨I, fp, wr, P, Sx, h2, tk2, rfl, rfl, W⟩ := h2
  have W' := W.walks A R.handled
  obtain ⟨m₀, hm₀, _⟩ := f.st.ns
  -- the places of the iterator are no part of the frame
  have fpOut : ∀ b ∈ fp, b ≠ env.locals ∧ (∀ y, env.kindOf y = some .cell → env.cells.lookup y ≠ some b) ∧ ¬ Xo X₀ env adr ρ b := fun b hb => by
    rcases W.fps b hb with hn | ⟨⟨o, vs, nn, ho, hd⟩, hX | ⟨q, _⟩⟩
    · obtain ⟨_, h2, h3, h4⟩ := f.st.offFresh (wr := [b]) (fun c hc => by rw [List.mem_singleton] at hc; rw [hc]; exact hn) b (by simp)
      exact ⟨h3, h4, h2⟩
    · refine ⟨fun q => seq_not_dict (q ▸ ho) hd hm₀, fun y hy q => ?_, hX⟩
      obtain ⟨c, o', h1, h2, _⟩ := f.st.cel y hy
      rw [q] at h1; cases h1
      exact seq_not_cell ho hd h2
    · rw [hon] at q; cases q
  have f1 := f.ext W.ext
  have hwr : ∀ b ∈ wr, h₀.get? b = none := fun b hb => (f.st.offFresh W.fresh b hb).1
  refine codeAny_mono (codeAny_forLoop (R := fun res s' => ∃ g, res = .ok g ∧ ExP h₀ X₀ env adr ρ s r g s') (fun q s' => ∃ i h' tk adr' ρ', q = items.length - i ∧ i ≤ items.length ∧ s' = { s with heap := h', toks := tk } ∧ Sx i h' ∧ Fs h₀ X₀ env adr' ρ' h' ∧
    (∀ b o, h2.get? b = some o → b ≠ env.locals → (∀ y, env.kindOf y = some .cell → env.cells.lookup y ≠ some b) → ¬ Ow env adr ρ b → b ∉ wr → h'.get? b = some o) ∧ (∀ b, Ow env adr' ρ' b → Ow env adr ρ b ∨ h2.get? b = none) ∧
    forT (fun d r => some (r.set x (.frz d))) (fun r => exs Φ ow fz n b r) (items.drop i) ρ' = some r) ?_ items.length ⟨0, h2, tk2, adr, ρ, rfl, Nat.zero_le _, rfl, W.start, f1, fun _ _ e _ _ _ _ => e, fun _ q => .inl q, by simpa using h⟩) fun res s' hr => ?_
  · rintro q s' ⟨i, h', tk, adr', ρ', rfl, hi, rfl, sx, f', kp, ownp, hf⟩
    have notOw : ∀ b ∈ fp, ¬ Xo X₀ env adr' ρ' b := fun b hb q => by
      rcases q with q | q
      · exact (fpOut b hb).2.2 (.inl q)
      · rcases ownp b q with q | q
        · exact (fpOut b hb).2.2 (.inr q)
        · obtain ⟨o, ho⟩ := W.here b hb; rw [ho] at q; cases q
    have off : WrOff h₀ env (Xo X₀ env adr' ρ') wr := fun b hb => ⟨hwr b hb, notOw b (W'.sub b hb), (fpOut b (W'.sub b hb)).1, (fpOut b (W'.sub b hb)).2.1⟩
    have stp : ∀ {h3 : Heap} {adr3 : Str → Addr} {ρ3 : Ro}, (∀ b o, h2.get? b = some o → b ≠ env.locals → (∀ y, env.kindOf y = some .cell → env.cells.lookup y ≠ some b) → ¬ Ow env adr ρ b → b ∉ wr → h3.get? b = some o) → (∀ b, Ow env adr3 ρ3 b → Ow env adr ρ b ∨ h2.get? b = none) → Stp env adr ρ s.heap adr3 ρ3 h3 :=
      fun {h3 adr3 ρ3} kp ownp => ⟨fun b o e n1 n2 n3 => kp b o (W.ext _ _ e) n1 n2 n3 (fun q => by rw [W.fresh b q] at e; exact nomatch e), fun b q => (ownp b q).imp id (fun q => by
        match e : s.heap.get? b with
        | none => rfl
        | some o => rw [W.ext _ _ e] at q; exact nomatch q)⟩
    by_cases hlt : i < items.length
    · refine W'.item i _ _ _ hlt sx fun v h3 tk3 hPv sx3 hk3 => ?_
      dsimp only at sx3 hk3
      obtain ⟨d, hd, rd⟩ := W.items i v hPv
      have hdrop : items.drop i = d :: items.drop (i + 1) := by
        rw [List.drop_eq_getElem_cons hlt]
        have : items[i] = d := by simpa [hlt] using hd
        rw [this]
      rw [hdrop] at hf
      simp only [forT] at hf
      have f3 : Fs h₀ X₀ env adr' ρ' h3 := ⟨f'.st.iter off (W.nonseq i _ sx) hk3, f'.inj, f'.off⟩
      have kp3 : ∀ b o, h2.get? b = some o → b ≠ env.locals → (∀ y, env.kindOf y = some .cell → env.cells.lookup y ≠ some b) → ¬ Ow env adr ρ b → b ∉ wr → h3.get? b = some o := fun b o e n1 n2 n3 n4 => hk3 b o n4 (kp b o e n1 n2 n3 n4)
      have rv : Rep h3 (Xo X₀ env adr' ρ') v d := rd.move (fun b o hb ⟨vs, nn, e⟩ ho => by
        obtain ⟨m1, hm1, _⟩ := f1.st.ns
        refine kp3 b o ho (fun q => seq_not_dict (q ▸ ho) e hm1) (fun y hy q => ?_) (fun q => hb (.inr q)) fun q => W.nonseq 0 _ W.start b q o vs nn ho e
        obtain ⟨c, o', h1, h2', _⟩ := f1.st.cel y hy
        rw [q] at h1; cases h1
        exact seq_not_cell ho e h2') fun b hb ⟨o, ho⟩ q => q.elim (fun q => hb (.inl q)) fun q => (ownp b q).elim (fun q => hb (.inr q)) fun q => by rw [q] at ho; cases ho
      refine wpAny_assign_Name (Fs.store (s := { s with heap := h3, toks := tk3 }) f3 ok hk rv fun h4 tk4 f4 st4 sto4 => ?_)
      cases hbd : exs Φ ow fz n b (ρ'.set x (.frz d)) with
      | none => rw [hbd] at hf; cases hf
      | some p =>
      obtain ⟨fl, ρ5⟩ := p
      rw [hbd] at hf
      refine wpAny_mono (hs b _ _ m env X₀ adr' A { s with heap := h4, toks := tk4 } hbd hb ok f4 R) (fun g s5 y => ?_) fun _ _ e => e.elim
      obtain ⟨h5, tk5, adr5, rfl, f5, st5, flp⟩ := y
      have st35 := st4.trans f4.st st5
      have kp5 : ∀ b o, h2.get? b = some o → b ≠ env.locals → (∀ y, env.kindOf y = some .cell → env.cells.lookup y ≠ some b) → ¬ Ow env adr ρ b → b ∉ wr → h5.get? b = some o := fun b o e n1 n2 n3 n4 => st35.keep b o (kp3 b o e n1 n2 n3 n4) n1 n2 fun q => (ownp b q).elim n3 fun q => by rw [q] at e; cases e
      have own5 : ∀ b, Ow env adr5 ρ5 b → Ow env adr ρ b ∨ h2.get? b = none := fun b q => by
        rcases st35.own b q with q | q
        · exact ownp b q
        · cases e : h2.get? b with
          | none => exact .inr rfl
          | some o =>
            left
            refine Classical.byContradiction fun n3 => ?_
            by_cases hbw : b ∈ wr
            · obtain ⟨o', ho'⟩ := W.alive _ _ sx3 b (W'.sub b hbw)
              rw [q] at ho'; cases ho'
            · have := kp3 b o e (fun n1 => by
                obtain ⟨m1, ⟨o', _, _, ho, _⟩, _⟩ := f3.st.ns
                rw [← n1, q] at ho; cases ho) (fun y hy n2 => by
                obtain ⟨c, o', h1, ⟨oc, h2', _⟩, _⟩ := f3.st.cel y hy
                rw [n2] at h1; cases h1
                rw [q] at h2'; cases h2') n3 hbw
              rw [q] at this; cases this
      have fp5 : ∀ b ∈ fp, ∀ o, h3.get? b = some o → h5.get? b = some o := fun b hb o e => st35.keep b o e (fpOut b hb).1 (fpOut b hb).2.1 fun q => notOw b hb (.inr q)
      have sx5 : Sx (i + 1) h5 := W'.frame _ _ _ sx3 fp5
      cases fl with
      | next =>
        cases g <;> first | (cases flp; done) | skip
        exact ⟨items.length - (i + 1), by omega, i + 1, h5, tk5, adr5, ρ5, rfl, hlt, rfl, sx5, f5, kp5, own5, hf⟩
      | brk =>
        cases g <;> first | (cases flp; done) | skip
        cases hf
        exact ⟨_, rfl, h5, tk5, adr5, rfl, f5, stp kp5 own5, trivial⟩
      | ret d =>
        cases g <;> first | (cases flp; done) | skip
        cases hf
        exact ⟨_, rfl, h5, tk5, adr5, rfl, f5, stp kp5 own5, flp⟩
    · have : i = items.length := by omega
      subst this
      rw [List.drop_length] at hf
      simp only [forT] at hf
      cases hf
      refine W'.done _ _ _ sx fun h3 tk3 hk3 => ?_
      exact wpAny_execs_nil ⟨_, rfl, h3, tk3, adr', rfl, ⟨f'.st.iter off (W.nonseq _ _ sx) hk3, f'.inj, f'.off⟩, stp (fun b o e n1 n2 n3 n4 => hk3 b o n4 (kp b o e n1 n2 n3 n4)) ownp, trivial⟩
  · obtain ⟨g, rfl, x⟩ := hr
    exact x
end
end Mine
end

section
set_option Elab.async false
set_option maxRecDepth 100000
open PySem PySem.Calls PyProof.Rows
namespace Mine
section
variable {prog : Program} {w : World} {h₀ : Heap} {Φ : Str → List D → Option D} {ow : Str → Bool} {fz : Nat → List Str} {k n m : Nat} {X X₀ : Addr → Prop} {env : Env} {adr : Str → Addr} {ρ : Ro} {A : Around} {s : Shared} {E : Value → Shared → Prop}

theorem assigns_sound (ok : EnvOk h₀ env) : ∀ (ts : List Expr) (ds : List D) (vs : List Value) (ρ ρ' : Ro) (s : Shared), storeAll ts ds ρ = some ρ' → (ts.all fun t => match t with | .Name x _ => vk (env.kindOf x) | _ => false) = true → RepA s.heap (Xo X₀ env adr ρ) vs ds → Fs h₀ X₀ env adr ρ s.heap →
    wpAny (model prog w) A (assignInOrder ((assignEach ts env).map (·.2)) vs) (fun _ s' => ∃ h' tk, s' = { s with heap := h', toks := tk } ∧ Fs h₀ X₀ env adr ρ' h' ∧ Stp env adr ρ s.heap adr ρ' h') E s
  | [], [], vs, ρ, ρ', s, h, _, r, f => by
    cases h
    cases r
    exact wpAny_pure ⟨s.heap, s.toks, rfl, f, Stp.refl⟩
  | [], _ :: _, _, _, _, _, h, _, _, _ => by cases h
  | t :: ts, ds, vs, ρ, ρ', s, h, hk, r, f => by
    cases t <;> first | (cases h; done) | skip
    rename_i x px
    cases ds with
    | nil => cases h
    | cons d ds =>
    cases r with
    | cons rv rs =>
    rename_i v vs
    simp only [storeAll] at h
    rw [List.all_cons, Bool.and_eq_true] at hk
    show wpAny _ A (do holding vs (assign (.Name x px) env v); assignInOrder ((assignEach ts env).map (·.2)) vs) _ _ _
    refine wpAny_bind (wpAny_holding (wpAny_assign_Name (f.store ok hk.1 rv fun h1 tk1 f1 st1 sto1 => ?_)))
    have rs1 : RepA h1 (Xo X₀ env adr (ρ.set x (.frz d))) vs ds := rs.move (f.stepKeep st1) fun b hb ⟨o, ho⟩ q => q.elim (fun q => hb (.inl q)) fun q => (st1.own b q).elim (fun q => hb (.inr q)) fun q => by rw [q] at ho; cases ho
    refine wpAny_mono (assigns_sound ok ts ds vs _ ρ' { s with heap := h1, toks := tk1 } h hk.2 rs1 f1) (fun _ s2 h2 => ?_) fun _ _ e => e
    obtain ⟨h2, tk2, rfl, f2, st2⟩ := h2
    exact ⟨h2, tk2, rfl, f2, st1.trans f1.st st2⟩

theorem each_names : ∀ {ts : List Expr} {env : Env}, (ts.all fun t => match t with | .Name x _ => vk (env.kindOf x) | _ => false) = true → (assignEach ts env).length = ts.length ∧ (assignEach ts env).findIdx? (·.1) = none
  | [], env, _ => ⟨rfl, rfl⟩
  | t :: ts, env, h => by
    rw [List.all_cons, Bool.and_eq_true] at h
    obtain ⟨h1, h2⟩ := each_names h.2
    cases t <;> first | (cases h.1; done) | skip
    rename_i x px
    have e : assignEach (.Name x px :: ts) env = (false, assign (.Name x px) env) :: assignEach ts env := rfl
    rw [e]
    refine ⟨by rw [List.length_cons, h1, List.length_cons], ?_⟩
    rw [List.findIdx?_cons]
    simp [h2]

theorem storeAll_len : ∀ {ts : List Expr} {ds : List D} {ρ ρ' : Ro}, storeAll ts ds ρ = some ρ' → ts.length = ds.length
  | [], [], _, _, _ => rfl
  | [], _ :: _, _, _, h => by cases h
  | t :: ts, ds, ρ, ρ', h => by
    cases t <;> first | (cases h; done) | skip
    cases ds with
    | nil => cases h
    | cons d ds =>
      simp only [storeAll] at h
      rw [List.length_cons, List.length_cons, storeAll_len h]

theorem arm_tupassign (hall : ∀ n, All prog w h₀ Φ k n) {ts : List Expr} {kd : Nat} {pt pos : Pos} {e : Expr} {ds : List D} {ρ' : Ro} (he : ev Φ n e ρ = some (.tup ds)) (h : storeAll ts ds ρ = some ρ') (hts : (ts.all fun t => match t with | .Name x _ => vk (env.kindOf x) | _ => false) = true) (hok : okE m env.scope e = true) (hv : valOk e = true)
    (ok : EnvOk h₀ env) (f : Fs h₀ X₀ env adr ρ s.heap) (R : Room (k + 1) A) :
    wpAny (model prog w) A (exec (.Assign [.Tuple ts kd pt] e pos) env) (ExP h₀ X₀ env adr ρ s (.next, ρ')) (fun _ _ => False) s := by
  refine PyProof.Rows.Assign_Tuple (wpAny_mono ((hall n).ev e ρ _ m env _ adr A s _ he hok ok f.st R) (fun v s1 h1 => ?_) fun _ _ e => e) ?_ ?_
  · obtain ⟨h1, tk1, rfl, e1, r1⟩ := h1
    cases r1 with
    | tup hx ho hr =>
    rename_i a vs nn
    obtain ⟨l1, l2⟩ := each_names hts
    have hlen := hr.length
    refine wpAny_assign_Tuple (s := { s with heap := h1, toks := tk1 }) R.handled (items := vs.toArray) ⟨_, ho, rfl, _, rfl⟩ (by rw [l1, storeAll_len h, List.size_toArray, hlen]) l2 fun h2 hx2 => ?_
    have e2 : Ext h1 h2 := fun b o q => hx2 b o (Nat.ne_of_lt (Heap.lt_size q)) q
    have f2 := (f.ext e1).ext e2
    refine wpAny_mono (assigns_sound ok ts ds vs ρ ρ' { s with heap := h2, toks := tk1 } h hts (hr.ext e2) f2) (fun _ s3 h3 => ?_) fun _ _ e => e
    obtain ⟨h3, tk3, rfl, f3, st3⟩ := h3
    exact ⟨h3, tk3, adr, rfl, f3, (Stp.ext (e1.trans e2)).trans f2.st st3, trivial⟩
  · cases e <;> first | rfl | cases hv
  · cases e <;> first | rfl | cases hv

def zipped (ds : List D) : List D := ds.zipIdx.map fun p => .tup [.int p.2, p.1]
theorem zipped_at {ds : List D} {i : Nat} {d : D} (h : ds[i]? = some d) : (zipped ds).drop i = .tup [.int i, d] :: (zipped ds).drop (i + 1) := by
  have hl : i < ds.length := by
    rcases Nat.lt_or_ge i ds.length with q | q
    · exact q
    · rw [List.getElem?_eq_none q] at h; cases h
  have hz : i < (zipped ds).length := by simp [zipped, hl]
  rw [List.drop_eq_getElem_cons hz]
  congr 1
  have hd : ds[i] = d := by simpa [hl] using h
  simp [zipped, hd]

theorem arm_enum (hall : ∀ n, All prog w h₀ Φ k n) (hall' : ExsS prog w h₀ Φ ow fz k n) (G : Glb h₀) {xi xv : Str} {pi pv pt pf pc pos : Pos} {kd : Nat} {e : Expr} {b : List Stmt} {ds : List D} {r : Flw × Ro} (he : ev Φ n e ρ = some (.lst ds)) (hl : ds.length ≤ lim)
    (h : forT (fun d r => match d with | .tup [a, b] => some ((r.set xi (.frz a)).set xv (.frz b)) | _ => Option.none) (fun r => exs Φ ow fz n b r) (zipped ds) ρ = some r)
    (hki : vk (env.kindOf xi) = true) (hkv : vk (env.kindOf xv) = true) (hg : okG env.scope (S "enumerate") = true) (hok : okE m env.scope e = true) (hb : (b.all fun s => okS m env.scope s) = true) (ok : EnvOk h₀ env) (f : Fs h₀ X₀ env adr ρ s.heap) (R : Room (k + 1) A) :
    wpAny (model prog w) A (exec (.For (.Tuple [.Name xi pi, .Name xv pv] kd pt) (.Call (.Name (S "enumerate") pf) [e] [] pc) b [] pos) env) (ExP h₀ X₀ env adr ρ s r) (fun _ _ => False) s := by
  have hstar : starEach [e] env = (false, eval e env) :: starEach [] env := star_plain (ev_plain he).1
  refine wpAny_For (Call_Name rfl (glob_at f.st ok hg (G.get (v := .type "enumerate") (by simp [btab])) (PyProof.Rows.callWith_type1 ?_ hstar rfl))) (fun _ => rfl)
  rw [hstar]
  refine spliced_cons (wpAny_mono ((hall n).ev e ρ _ m env _ adr A s _ he hok ok f.st R) (fun u s1 h1 => spliced_nil ?_) fun _ _ e => e)
  obtain ⟨h1, tk1, rfl, e1, r1⟩ := h1
  cases r1 with
  | lst hxl hol hrl =>
  rename_i l vs nn
  have f1 := f.ext e1
  have hlen := hrl.length
  refine call_enumerate_list (s := { s with heap := h1, toks := tk1 }) (lobj_isList hol) fun h2 he2 hit2 hz2 e2 => ?_
  dsimp only at he2 hit2 hz2 e2
  generalize hEo : h1.objs.size + 1 = eo at he2
  generalize hIt : h1.objs.size = it at he2 hit2
  have hIt' : it < eo := by rw [← hEo, hIt]; exact Nat.lt_succ_self _
  have hei : eo ≠ it := Nat.ne_of_gt hIt'
  refine wpAny_pyIter_enum he2 ?_
  have fr : ∀ b, it ≤ b → h1.get? b = none := fun b hb => fresh_not (by rw [hIt]; exact hb)
  have f2 := f1.ext e2
  have e12 : Ext s.heap h2 := e1.trans e2
  obtain ⟨m₁, hm₁, _⟩ := f1.st.ns
  have sfresh : ∀ b, it ≤ b → s.heap.get? b = none := fun b hb => by
    cases q : s.heap.get? b with
    | none => rfl
    | some o => have := fr b hb; rw [e1 _ _ q] at this; cases this
  have out1 : ∀ b, it ≤ b → b ≠ env.locals ∧ (∀ y, env.kindOf y = some .cell → env.cells.lookup y ≠ some b) ∧ ¬ Xo X₀ env adr ρ b ∧ h₀.get? b = none := fun b hb => by
    obtain ⟨h1', h2', h3', h4'⟩ := f1.st.offFresh (wr := [b]) (fun c hc => by rw [List.mem_singleton] at hc; rw [hc]; exact fr b hb) b (by simp)
    exact ⟨h3', h4', h2', h1'⟩
  have outl : l ≠ env.locals ∧ (∀ y, env.kindOf y = some .cell → env.cells.lookup y ≠ some l) := by
    refine ⟨fun q => seq_not_dict (q ▸ hol) rfl hm₁, fun y hy q => ?_⟩
    obtain ⟨c, o', h1', h2', _⟩ := f1.st.cel y hy
    rw [q] at h1'; cases h1'
    exact seq_not_cell hol rfl h2'
  have hle : l ≠ eo := fun q => by rw [q, fr eo (Nat.le_of_lt hIt')] at hol; cases hol
  have hli : l ≠ it := fun q => by rw [q, fr it (Nat.le_refl _)] at hol; cases hol
  obtain ⟨oit, hoit, _⟩ := id hit2
  refine codeAny_mono (codeAny_forLoop_any (R := fun res s' => ∃ g, res = .ok g ∧ ExP h₀ X₀ env adr ρ s r g s') (fun q s' => ∃ i h' tk adr' ρ' old, q = ds.length - i ∧ i ≤ ds.length ∧ s' = { s with heap := h', toks := tk } ∧ IsEnum h' eo it ((i : Nat) : Int) old ∧ h'.IsListIter it l i ∧ h'.get? l = some (lobj vs nn) ∧ Fs h₀ X₀ env adr' ρ' h' ∧
    (∀ b o, h2.get? b = some o → b ≠ env.locals → (∀ y, env.kindOf y = some .cell → env.cells.lookup y ≠ some b) → ¬ Ow env adr ρ b → b ≠ eo → b ≠ it → h'.get? b = some o) ∧ (∀ b, Ow env adr' ρ' b → Ow env adr ρ b ∨ h2.get? b = none) ∧
    forT (fun d r => match d with | .tup [a, b] => some ((r.set xi (.frz a)).set xv (.frz b)) | _ => Option.none) (fun r => exs Φ ow fz n b r) ((zipped ds).drop i) ρ' = some r) ?_ ds.length ⟨0, h2, tk1, adr, ρ, .none, rfl, Nat.zero_le _, rfl, he2, hit2, e2 _ _ hol, f2, fun _ _ e _ _ _ _ _ => e, fun _ q => .inl q, by simpa using h⟩) fun res s' hr => ?_
  · rintro q s' ⟨i, h', tk, adr', ρ', old, rfl, hi, rfl, heo', hit', hol', f', kp, ownp, hf⟩
    have notOw : ∀ b, (∃ o, h2.get? b = some o) → ¬ Xo X₀ env adr ρ b → ¬ Xo X₀ env adr' ρ' b := fun b ⟨o, ho⟩ hn q => by
      rcases q with q | q
      · exact hn (.inl q)
      · rcases ownp b q with q | q
        · exact hn (.inr q)
        · rw [ho] at q; cases q
    have nX_e := notOw eo ⟨_, he2⟩ (out1 eo (Nat.le_of_lt hIt')).2.2.1
    have nX_i := notOw it ⟨_, hoit⟩ (out1 it (Nat.le_refl _)).2.2.1
    have nX_l := notOw l ⟨_, e2 _ _ hol⟩ hxl
    have stp : ∀ {h3 : Heap} {adr3 : Str → Addr} {ρ3 : Ro}, (∀ b o, h2.get? b = some o → b ≠ env.locals → (∀ y, env.kindOf y = some .cell → env.cells.lookup y ≠ some b) → ¬ Ow env adr ρ b → b ≠ eo → b ≠ it → h3.get? b = some o) → (∀ b, Ow env adr3 ρ3 b → Ow env adr ρ b ∨ h2.get? b = none) → Stp env adr ρ s.heap adr3 ρ3 h3 :=
      fun {h3 adr3 ρ3} kp ownp => ⟨fun b o e n1 n2 n3 => kp b o (e12 _ _ e) n1 n2 n3 (fun q => by rw [q, sfresh eo (Nat.le_of_lt hIt')] at e; exact nomatch e) (fun q => by rw [q, sfresh it (Nat.le_refl _)] at e; exact nomatch e), fun b q => (ownp b q).imp id (fun q => by
        match e : s.heap.get? b with
        | none => rfl
        | some o => rw [e12 _ _ e] at q; exact nomatch q)⟩
    -- a change at the two iterators alone
    have moveIt : ∀ {h3 : Heap}, (∀ b o, b ≠ eo → b ≠ it → h'.get? b = some o → h3.get? b = some o) → Fs h₀ X₀ env adr' ρ' h3 := fun {h3} hk3 => by
      refine ⟨f'.st.iter (wr := [eo, it]) (fun b hb => ?_) (fun b hb o vs' n' ho hd => ?_) (fun b o hb e => ?_), f'.inj, f'.off⟩
      · rw [List.mem_cons, List.mem_singleton] at hb
        rcases hb with rfl | rfl
        · exact ⟨(out1 _ (Nat.le_of_lt hIt')).2.2.2, nX_e, (out1 _ (Nat.le_of_lt hIt')).1, (out1 _ (Nat.le_of_lt hIt')).2.1⟩
        · exact ⟨(out1 _ (Nat.le_refl _)).2.2.2, nX_i, (out1 _ (Nat.le_refl _)).1, (out1 _ (Nat.le_refl _)).2.1⟩
      · rw [List.mem_cons, List.mem_singleton] at hb
        rcases hb with rfl | rfl
        · rw [show h'.get? b = some _ from heo'] at ho; cases ho; cases hd
        · obtain ⟨o', q1, _, q3⟩ := hit'; rw [q1] at ho; cases ho; rw [q3] at hd; cases hd
      · rw [List.mem_cons, List.mem_singleton, not_or] at hb
        exact hk3 b o hb.1 hb.2 e
    by_cases hlt : i < ds.length
    · have hv : vs.toArray[i]? = some vs[i] := by simp [hlen, hlt]
      obtain ⟨d, hd, rd⟩ := hrl.get' (k := i) (v := vs[i]) (by simp [hlen, hlt])
      rw [zipped_at hd] at hf
      simp only [forT] at hf
      refine wpAny_pyNext_enum_item (s := { s with heap := h', toks := tk }) heo' hit' (lobj_isList hol') hv hei fun h3 heo3 hit3 ht3 hz3 hk3 => ?_
      dsimp only at heo3 ht3 hz3 hk3
      have f3 := moveIt hk3
      refine wpAny_letOwnedTupleGo_enum (s := { s with heap := h3, toks := tk + 1 }) heo3 fun h4 he4 hs4 => ?_
      replace hs4 : Heap.SameBut eo h3 h4 := hs4
      have hsz : h'.objs.size ≠ eo := fun q => by rw [← q] at heo'; exact Nat.lt_irrefl _ (Heap.lt_size heo')
      have hk4 : ∀ b o, b ≠ eo → b ≠ it → h'.get? b = some o → h4.get? b = some o := fun b o q1 q2 e => (hs4.2 b q1).trans (hk3 b o q1 q2 e)
      have f4 := moveIt hk4
      have ht4 : h4.IsTuple h'.objs.size #[.int i tk, vs[i]] := ⟨_, (hs4.2 _ hsz).trans ht3, rfl, _, rfl⟩
      have hit4 : h4.IsListIter it l (i + 1) := hit3.extBut hs4.extBut (Ne.symm hei)
      refine wpAny_assign_Tuple (s := { s with heap := h4, toks := tk + 1 }) R.handled ht4 rfl rfl fun h5 hx5 => ?_
      replace hx5 : Heap.ExtBut h4.objs.size h4 h5 := hx5
      have e45 : Ext h4 h5 := fun b o q => hx5 b o (Nat.ne_of_lt (Heap.lt_size q)) q
      have f5 := f4.ext e45
      have kp5 : ∀ b o, h2.get? b = some o → b ≠ env.locals → (∀ y, env.kindOf y = some .cell → env.cells.lookup y ≠ some b) → ¬ Ow env adr ρ b → b ≠ eo → b ≠ it → h5.get? b = some o := fun b o e n1 n2 n3 n4 n5 => e45 _ _ (hk4 b o n4 n5 (kp b o e n1 n2 n3 n4 n5))
      have rv : Rep h5 (Xo X₀ env adr' ρ') vs[i] d := (rd.ext e2).move (fun b o hb ⟨vs', nn', e⟩ ho => by
        obtain ⟨m1, hm1, _⟩ := f2.st.ns
        refine kp5 b o ho (fun q => seq_not_dict (q ▸ ho) e hm1) (fun y hy q => ?_) (fun q => hb (.inr q)) (fun q => ?_) fun q => ?_
        · obtain ⟨c, o', h1', h2', _⟩ := f2.st.cel y hy
          rw [q] at h1'; cases h1'
          exact seq_not_cell ho e h2'
        · rw [q, show h2.get? eo = some _ from he2] at ho; cases ho; cases e
        · obtain ⟨o', q1, _, q3⟩ := hit2; rw [q, q1] at ho; cases ho; rw [q3] at e; cases e) fun b hb hbe => notOw b hbe hb
      have asg := assigns_sound (prog := prog) (w := w) (A := A) (E := notedBy (model prog w) A env fun e s' => ∃ g, Except.error e = Except.ok g ∧ ExP h₀ X₀ env adr ρ s r g s') ok [.Name xi pi, .Name xv pv] [.int i, d] [.int i tk, vs[i]] ρ' ((ρ'.set xi (.frz (.int i))).set xv (.frz d)) { s with heap := h5, toks := tk + 1 } rfl (by simp [hki, hkv]) (.cons (.int _ _) (.cons rv .nil)) f5
      refine wpAny_mono asg (fun _ s6 x6 => ?_) fun _ _ e => e
      obtain ⟨h6, tk6, rfl, f6, st6⟩ := x6
      cases hbd : exs Φ ow fz n b ((ρ'.set xi (.frz (.int i))).set xv (.frz d)) with
      | none => rw [hbd] at hf; cases hf
      | some p =>
      obtain ⟨fl, ρ7⟩ := p
      rw [hbd] at hf
      refine wpAny_mono (hall' b _ _ m env X₀ adr' A { s with heap := h6, toks := tk6 } hbd hb ok f6 R) (fun g s7 y => ?_) fun _ _ e => e.elim
      obtain ⟨h7, tk7, adr7, rfl, f7, st7, flp⟩ := y
      have st57 := st6.trans f6.st st7
      have kp7 : ∀ b o, h2.get? b = some o → b ≠ env.locals → (∀ y, env.kindOf y = some .cell → env.cells.lookup y ≠ some b) → ¬ Ow env adr ρ b → b ≠ eo → b ≠ it → h7.get? b = some o := fun b o e n1 n2 n3 n4 n5 => st57.keep b o (kp5 b o e n1 n2 n3 n4 n5) n1 n2 fun q => (ownp b q).elim n3 fun q => by rw [q] at e; cases e
      have own7 : ∀ b, Ow env adr7 ρ7 b → Ow env adr ρ b ∨ h2.get? b = none := fun b q => by
        rcases st57.own b q with q | q
        · exact ownp b q
        · cases e : h2.get? b with
          | none => exact .inr rfl
          | some o =>
            left
            refine Classical.byContradiction fun n3 => ?_
            by_cases n4 : b = eo
            · rw [n4, e45 _ _ he4] at q; cases q
            by_cases n5 : b = it
            · obtain ⟨o', q1, _⟩ := hit4
              rw [n5, e45 _ _ q1] at q; cases q
            have := kp5 b o e (fun n1 => by
              obtain ⟨m1, ⟨o', _, _, ho, _⟩, _⟩ := f5.st.ns
              rw [← n1, q] at ho; cases ho) (fun y hy n2 => by
              obtain ⟨c, o', h1', ⟨oc, h2', _⟩, _⟩ := f5.st.cel y hy
              rw [n2] at h1'; cases h1'
              rw [q] at h2'; cases h2') n3 n4 n5
            rw [q] at this; cases this
      have fin : ∀ b, (∃ o, h2.get? b = some o) → ¬ Xo X₀ env adr ρ b → b ≠ env.locals → (∀ y, env.kindOf y = some .cell → env.cells.lookup y ≠ some b) → ∀ o, h5.get? b = some o → h7.get? b = some o := fun b hbe hx n1 n2 o e => st57.keep b o e n1 n2 fun q => notOw b hbe hx (.inr q)
      cases fl with
      | next =>
        cases g <;> first | (cases flp; done) | skip
        refine ⟨ds.length - (i + 1), by omega, i + 1, h7, tk7, adr7, ρ7, vs[i], rfl, hlt, rfl, ?_, ?_, ?_, f7, kp7, own7, hf⟩
        · have : ((i + 1 : Nat) : Int) = (i : Int) + 1 := by push_cast; rfl
          rw [this]
          exact fin eo ⟨_, he2⟩ (out1 eo (Nat.le_of_lt hIt')).2.2.1 (out1 eo (Nat.le_of_lt hIt')).1 (out1 eo (Nat.le_of_lt hIt')).2.1 _ (e45 _ _ he4)
        · exact hit4.at fun o q => fin it ⟨_, hoit⟩ (out1 it (Nat.le_refl _)).2.2.1 (out1 it (Nat.le_refl _)).1 (out1 it (Nat.le_refl _)).2.1 _ (e45 _ _ q)
        · exact fin l ⟨_, e2 _ _ hol⟩ hxl outl.1 outl.2 _ (e45 _ _ (hk4 _ _ hle hli hol'))
      | brk =>
        cases g <;> first | (cases flp; done) | skip
        cases hf
        exact ⟨_, rfl, h7, tk7, adr7, rfl, f7, stp kp7 own7, trivial⟩
      | ret dd =>
        cases g <;> first | (cases flp; done) | skip
        cases hf
        exact ⟨_, rfl, h7, tk7, adr7, rfl, f7, stp kp7 own7, flp⟩
    · have : i = ds.length := by omega
      subst this
      have hzl : (zipped ds).drop ds.length = [] := by simp [zipped]
      rw [hzl] at hf
      simp only [forT] at hf
      cases hf
      refine wpAny_pyNext_enum_end (s := { s with heap := h', toks := tk }) R.handled heo' hit' (lobj_isList hol') (by simp [hlen]) fun h3 hk3 => ?_
      have hk3' : ∀ b o, b ≠ eo → b ≠ it → h'.get? b = some o → h3.get? b = some o := fun b o _ q2 e => hk3 b o q2 e
      exact wpAny_execs_nil ⟨_, rfl, h3, tk, adr', rfl, moveIt hk3', stp (fun b o e n1 n2 n3 n4 n5 => hk3' b o n4 n5 (kp b o e n1 n2 n3 n4 n5)) ownp, trivial⟩
  · obtain ⟨g, rfl, x⟩ := hr
    exact x
end
end Mine
end

section
set_option Elab.async false
set_option maxRecDepth 100000
open PySem PySem.Calls PyProof.Rows
namespace Mine
section
variable (prog : Program) (w : World) (h₀ : Heap) (Φ : Str → List D → Option D) (k : Nat)
/-- «x, = {..}» -/
def SetArm : Prop := ∀ (n m : Nat) (X₀ : Addr → Prop) (env : Env) (adr : Str → Addr) (ρ : Ro) (A : Around) (s : Shared) (x : Str) (px pt p pos : Pos) (kd : Nat) (elt : Expr) (gens : List Comprehension) (sc : Scope) (ds : List D) (b : Bool),
  comp Φ n elt gens (hide sc ρ) = some ds → ds.length ≤ 16 → allBool ds = some b → vk (env.kindOf x) = true → okE m env.scope (.SetComp elt gens sc p) = true → EnvOk h₀ env → Fs h₀ X₀ env adr ρ s.heap → Room (k + 1) A →
  wpAny (model prog w) A (exec (.Assign [.Tuple [.Name x px] kd pt] (.SetComp elt gens sc p) pos) env) (ExP h₀ X₀ env adr ρ s (.next, ρ.set x (.frz (.bool b)))) (fun _ _ => False) s
/-- «x = sorted(y)» -/
def SortArm : Prop := ∀ (X₀ : Addr → Prop) (env : Env) (adr : Str → Addr) (ρ : Ro) (A : Around) (s : Shared) (x y : Str) (px pf py p pos : Pos) (ds : List D) (ks : List (Int × Int)),
  (ρ.get y).strict = some (.lst ds) → keysOf ds = some ks → 2 ≤ ds.length ∧ ds.length < 64 ∧ (ks.map (·.2)).Nodup → env.kindOf x = some .local → env.kindOf y = some .local → (y == ("__debug__" : Str)) = false → okG env.scope (S "sorted") = true → EnvOk h₀ env → Fs h₀ X₀ env adr ρ s.heap → Room (k + 1) A →
  wpAny (model prog w) A (exec (.Assign [.Name x px] (.Call (.Name (S "sorted") pf) [.Name y py] [] p) pos) env) (ExP h₀ X₀ env adr ρ s (.next, ρ.set x (.frz (.lst (sortD ds))))) (fun _ _ => False) s
end

section
variable {prog : Program} {w : World} {h₀ : Heap} {Φ : Str → List D → Option D} {ow : Str → Bool} {fz : Nat → List Str} {k n m : Nat} {X X₀ : Addr → Prop} {env : Env} {adr : Str → Addr} {ρ : Ro} {A : Around} {s : Shared} {E : Value → Shared → Prop}

theorem sortedArg_of {e : Expr} {y : Str} (h : sortedArg e = some y) : ∃ pf py p, e = .Call (.Name (S "sorted") pf) [.Name y py] [] p := by
  unfold sortedArg at h
  split at h
  · rename_i f pf y' py p
    split at h
    · rename_i hf
      cases h
      exact ⟨pf, py, p, by rw [hf]⟩
    · cases h
  · cases h

theorem exS_succ (hall : ∀ n, All prog w h₀ Φ k n) (G : Glb h₀) (hset : SetArm prog w h₀ Φ k) (hsort : SortArm prog w h₀ k) (hs : ExsS prog w h₀ Φ ow fz k n) : ExS prog w h₀ Φ ow fz k (n + 1) := by
  intro st ρ₀ r m env X₀ adr A s h hok ok f₀ R
  obtain ⟨f, stp₀⟩ := f₀.freezes (fz st.pos.line)
  simp only [exS] at h
  generalize hρ : (fz st.pos.line).foldl (fun r x => freezeX x r) ρ₀ = ρ at h f stp₀
  cases m with
  | zero => cases hok
  | succ m =>
  suffices hw : wpAny (model prog w) A (exec st env) (ExP h₀ X₀ env adr ρ s r) (fun _ _ => False) s from
    wpAny_mono hw (fun g s' x => by
      obtain ⟨h', tk, a'', e, f', p, q⟩ := x
      exact ⟨h', tk, a'', e, f', stp₀.trans f.st p, q⟩) fun _ _ e => e
  clear hρ stp₀ f₀
  cases st with
  | Assign ts e pos =>
    rcases ts with _ | ⟨t, _ | ⟨t', tr⟩⟩
    · cases h
    · cases t with
      | Name x px =>
        dsimp only at h
        simp only [okS, Bool.and_eq_true] at hok
        cases hsa : sortedArg e with
        | none =>
          rw [hsa] at h hok
          dsimp only at h hok
          cases he : Mine.ev Φ n e ρ with
          | none => rw [he] at h; cases h
          | some d =>
          rw [he] at h
          cases h
          exact arm_assign hall hsa he hok.1 hok.2 ok f R
        | some y =>
          rw [hsa] at h hok
          dsimp only at h hok
          simp only [Bool.and_eq_true] at hok
          obtain ⟨pf, py, p, rfl⟩ := sortedArg_of hsa
          split at h
          · rename_i ds hy
            split at h
            · rename_i ks hks
              split at h
              · rename_i hc
                cases h
                exact hsort X₀ env adr ρ A s x y px pf py p pos ds ks hy hks hc (show env.scope.names.lookup x = some .local by simpa using hok.2.1.1.2) (show env.scope.names.lookup y = some .local by simpa using hok.2.1.2) (by simpa using hok.2.2) hok.2.1.1.1 ok f R
              · cases h
            · cases h
          · cases h
      | Tuple ts kd pt =>
        by_cases hsc : ∃ x px elt gens sc p, ts = [.Name x px] ∧ e = .SetComp elt gens sc p
        · obtain ⟨x, px, elt, gens, sc, p, rfl, rfl⟩ := hsc
          dsimp only at h
          simp only [okS, Bool.and_eq_true] at hok
          split at h
          · rename_i ds hds
            split at h
            · rename_i hl
              obtain ⟨b, hb, rfl⟩ := Option.map_eq_some_iff.mp h
              exact hset n m X₀ env adr ρ A s x px pt p pos kd elt gens sc ds b hds hl hb hok.1 hok.2 ok f R
            · cases h
          · cases h
        · have e1 : (match Mine.ev Φ n e ρ with
              | some (.tup ds) => if 2 ≤ ds.length then (storeAll ts ds ρ).map fun r => (Flw.next, r) else Option.none
              | _ => Option.none) = some r := by
            rcases ts with _ | ⟨t1, _ | ⟨t2, tr⟩⟩
            · exact h
            · cases t1 <;> first | exact h | skip
              cases e <;> first | exact h | exact absurd ⟨_, _, _, _, _, _, rfl, rfl⟩ hsc
            · cases t1 <;> exact h
          have e2 : (ts.all fun t => match t with | .Name x _ => vk (env.scope.names.lookup x) | _ => false) = true ∧ okE m env.scope e = true ∧ valOk e = true := by
            rcases ts with _ | ⟨t1, _ | ⟨t2, tr⟩⟩
            · simp only [okS, Bool.and_eq_true] at hok; exact ⟨hok.1.1, hok.1.2, hok.2⟩
            · cases t1 <;> first | (simp only [okS, Bool.and_eq_true] at hok; exact ⟨hok.1.1, hok.1.2, hok.2⟩) | skip
              cases e <;> first | (simp only [okS, Bool.and_eq_true] at hok; exact ⟨hok.1.1, hok.1.2, hok.2⟩) | exact absurd ⟨_, _, _, _, _, _, rfl, rfl⟩ hsc
            · cases t1 <;> (simp only [okS, Bool.and_eq_true] at hok; exact ⟨hok.1.1, hok.1.2, hok.2⟩)
          cases he : Mine.ev Φ n e ρ with
          | none => rw [he] at e1; cases e1
          | some d =>
          rw [he] at e1
          cases d <;> first | (cases e1; done) | skip
          rename_i ds
          dsimp only at e1
          split at e1
          · obtain ⟨ρ', hρ', rfl⟩ := Option.map_eq_some_iff.mp e1
            exact arm_tupassign hall he hρ' e2.1 e2.2.1 e2.2.2 ok f R
          · cases e1
      | Subscript o i pt =>
        cases o with
        | Name x px =>
          dsimp only at h
          simp only [okS, Bool.and_eq_true] at hok
          split at h
          · rename_i v j ds he hi hx
            split at h
            · rename_i hj
              cases h
              refine arm_setitem hall he hi hx hj hok.1.1.1.1 (by simpa using hok.1.1.1.2) hok.1.1.2 hok.1.2 ?_ ok f R
              have h5 := hok.2
              cases e <;> first | rfl | cases h5
            · cases h
          · cases h
        | _ => cases h
      | _ => cases h
    · exfalso
      have : ∀ a, Stmt.Assign (t :: t' :: tr) e pos ≠ Stmt.Assign [a] e pos := fun a q => by injection q with q; injection q with _ q; cases q
      split at h <;> first | (cases h; done) | (rename_i heq; injection heq with heq; injection heq with _ heq; cases heq) | (rename_i heq; cases heq)
  | AugAssign t op e pos =>
    cases t with
    | Name x px =>
      dsimp only at h
      simp only [okS, Bool.and_eq_true] at hok
      cases ha : (ρ.get x).strict with
      | none => rw [ha] at h; cases h
      | some a =>
      cases he : Mine.ev Φ n e ρ with
      | none => rw [ha, he] at h; cases h
      | some b =>
      rw [ha, he] at h
      obtain ⟨d, hd, rfl⟩ := Option.map_eq_some_iff.mp h
      exact arm_augname hall ha he hd hok.1 hok.2 ok f R
    | Subscript o i pt =>
      cases o with
      | Name x px =>
        dsimp only at h
        simp only [okS, Bool.and_eq_true] at hok
        split at h
        · rename_i j b ds hi he hx
          split at h
          · rename_i hj
            split at h
            · rename_i c hg
              obtain ⟨d, hd, rfl⟩ := Option.map_eq_some_iff.mp h
              exact arm_augitem hall hi he hx hj hg hd hok.1.1.1 (by simpa using hok.1.1.2) hok.1.2 hok.2 ok f R
            · cases h
          · cases h
        · cases h
      | _ => cases h
    | _ => cases h
  | Expr e pos =>
    cases e with
    | Call fn args kw p =>
      cases fn with
      | Attribute o mth ap =>
        cases o with
        | Name x px =>
          rcases args with _ | ⟨e, _ | ⟨e', r'⟩⟩
          · cases h
          · cases kw with
            | cons _ _ => cases h
            | nil =>
            dsimp only at h
            simp only [okS, Bool.and_eq_true] at hok
            split at h
            · rename_i hm
              subst hm
              split at h
              · rename_i v ds he hx
                split at h
                · rename_i hl
                  cases h
                  exact arm_append hall he hx hl hok.1.1.1 (by simpa using hok.1.1.2) hok.1.2 hok.2 ok f R
                · cases h
              · cases h
            · cases h
          · cases h
        | _ => rcases args with _ | ⟨e, _ | ⟨e', r'⟩⟩ <;> cases h
      | _ => cases h
    | _ => cases h
  | If t b o pos =>
    dsimp only at h
    simp only [okS, Bool.and_eq_true] at hok
    cases ht : Mine.tst Φ n t ρ with
    | none => rw [ht] at h; cases h
    | some c =>
    rw [ht] at h
    refine arm_if (b := b) (o := o) hall hs ht ?_ hok.1.1 hok.1.2 hok.2 ok f R
    cases c <;> exact h
  | For t it b el pos =>
    cases t with
    | Name x px =>
      cases el with
      | cons _ _ => cases h
      | nil =>
      dsimp only at h
      simp only [okS, Bool.and_eq_true] at hok
      split at h
      · cases h
      · rename_i hon
        split at h
        · rename_i items hsrc
          exact arm_for hall hs (by simpa using hon) hsrc h hok.1.1 hok.1.2 hok.2 ok f R
        · cases h
    | Tuple ts kd pt =>
      rcases ts with _ | ⟨t1, _ | ⟨t2, _ | ⟨t3, tr⟩⟩⟩
      · cases h
      · cases t1 <;> cases h
      · cases t1 with
        | Name xi pi =>
          cases t2 with
          | Name xv pv =>
            cases it with
            | Call fn args kw pc =>
              cases fn with
              | Name g pf =>
                rcases args with _ | ⟨e, _ | ⟨e', r'⟩⟩
                · cases h
                · cases kw with
                  | cons _ _ => cases h
                  | nil =>
                  cases el with
                  | cons _ _ => cases h
                  | nil =>
                  dsimp only at h
                  simp only [okS, Bool.and_eq_true] at hok
                  split at h
                  · rename_i hg
                    subst hg
                    split at h
                    · rename_i ds he
                      split at h
                      · rename_i hl
                        exact arm_enum hall hs G he hl h hok.1.1.1.1 hok.1.1.1.2 hok.1.1.2 hok.1.2 hok.2 ok f R
                      · cases h
                    · cases h
                  · cases h
                · cases h
              | _ => cases h
            | _ => cases h
          | _ => cases h
        | _ => cases h
      · cases t1 <;> (try cases h) <;> cases t2 <;> cases h
    | _ => cases h
  | While t b el pos =>
    cases el with
    | cons _ _ => cases h
    | nil =>
    simp only [okS, Bool.and_eq_true] at hok
    exact arm_while hall hs h hok.1 hok.2 ok f R
  | Return e pos =>
    cases e with
    | none => cases h
    | some e =>
      simp only [okS] at hok
      obtain ⟨d, hd, rfl⟩ := Option.map_eq_some_iff.mp h
      exact arm_return hall hd hok ok f R
  | Break pos =>
    cases h
    exact PySem.wpAny_Break ⟨s.heap, s.toks, adr, rfl, f, Stp.refl, trivial⟩
  | Try b hd el fin pos =>
    rcases el with _ | ⟨_, _⟩ <;> rcases fin with _ | ⟨_, _⟩
    · cases hd with
      | nil => cases hok
      | cons h1 hr =>
        simp only [okS] at hok
        exact arm_try hs h hok ok f R
    · cases h
    · cases h
    · cases h
  | _ => cases h
end
end Mine
end

section
set_option Elab.async false
set_option maxRecDepth 100000
open PySem PySem.Calls PyProof.Rows
namespace Mine
section
variable {prog : Program} {w : World} {h₀ : Heap} {Φ : Str → List D → Option D} {ow : Str → Bool} {fz : Nat → List Str} {k : Nat}
theorem st_ok (G : Glb h₀) (hΦ : PhiOk prog w h₀ Φ k) (hset : SetArm prog w h₀ Φ k) (hsort : SortArm prog w h₀ k) : ∀ n, ExS prog w h₀ Φ ow fz k n ∧ ExsS prog w h₀ Φ ow fz k n
  | 0 => ⟨fun st ρ r m env X₀ adr A s h => (nomatch h), fun ss ρ r m env X₀ adr A s h => (nomatch h)⟩
  | n + 1 => by
    obtain ⟨a, b⟩ := st_ok G hΦ hset hsort n
    have hall := fun n => (all_ok (w := w) (prog := prog) G hΦ n).1
    exact ⟨exS_succ hall G hset hsort b, exsS_succ a b⟩
end
end Mine
end

section
set_option Elab.async false
set_option maxRecDepth 100000
open PySem PySem.Calls PyProof.Rows PySem.SeqAt
open AutoSeq1 (wpAny_loadPart')
namespace Mine
def isB (b : Bool) : Value → Bool
  | .bool c => b == c
  | _ => false
theorem isB_of {b : Bool} {v : Value} (h : isB b v = true) : v = .bool b := by
  cases v <;> first | (cases h; done) | skip
  rename_i c
  have : b = c := by simpa [isB] using h
  rw [this]
section
variable {prog : Program} {w : World} {A : Around} {E : Value → Shared → Prop} {s : Shared}
theorem pyHash_bool {b : Bool} {Q : Int → Shared → Prop} (h : Q (if b then 1 else 0) { s with toks := s.toks + 1 }) : wpAny (model prog w) A (pyHash (.bool b)) Q E s := by
  unfold pyHash
  show wpAny _ _ (pyHashByItsType (.bool b)) Q E s
  unfold pyHashByItsType
  have hT : s.TypeIs (.bool b) "bool" := rfl
  have hv : [Value.bool b].any Value.onHeap = false := rfl
  refine wpAny_bind ?_
  rw [cRoomFor, if_neg (by rw [hv]; exact Bool.false_ne_true)]; refine wpAny_pure ?_
  refine wpAny_bind (wpAny_specialOf hT F.slot_bool_hash.lookup ?_)
  show wpAny _ _ (if (some (Value.builtin "int.__hash__") == some Value.none) = true then _ else _) Q E s
  rw [if_neg (by rw [beq_builtin_none]; exact Bool.false_ne_true)]
  refine wpAny_bind (wpAny_specialOf hT F.slot_bool_hash.lookup ?_)
  show wpAny _ _ (callSpecialIfBoundUnlessNone? (.bool b) "__hash__" _ >>= _) Q E s
  refine wpAny_bind (wpAny_callSpecialIfBoundUnlessNone?_slot hT F.slot_bool_hash (wpAny_call_entry F.slot_bool_hash hT entry_int_hash ?_ (args_int_hash _)))
  obtain ⟨hp, g, d, tk, os⟩ := s
  cases b
  · wp_walk
    refine ⟨.int 0 tk, by kernel_rfl, ?_⟩
    show wpAny _ _ (if (decide (-(2 : Int) ^ 63 ≤ 0) && decide ((0 : Int) < 2 ^ 63)) = true then _ else _) Q E _
    rw [if_pos (by decide)]
    exact wpAny_pure h
  · wp_walk
    refine ⟨.int 1 tk, by kernel_rfl, ?_⟩
    show wpAny _ _ (if (decide (-(2 : Int) ^ 63 ≤ 1) && decide ((1 : Int) < 2 ^ 63)) = true then _ else _) Q E _
    rw [if_pos (by decide)]
    exact wpAny_pure h
end
def boolKind (prog : Program) (w : World) : PySem.KeyKind prog w Bool :=
  ⟨isB, fun b => if b then 1 else 0, fun v a b h1 h2 => (by have e1 := isB_of h1; have e2 := isB_of h2; rw [e1] at e2; injection e2), fun k v h => (by rw [isB_of h]; rfl), fun hv h => (by rw [isB_of hv]; exact pyHash_bool h),
    fun {A E s a b u v Q} hu hv h => (by
      rw [isB_of hu, isB_of hv]
      have := EqAt.bool_bool (A := A) (s := s) a b
      have e : (a == b) = decide (a = b) := by cases a <;> cases b <;> rfl
      rw [e] at this
      exact this prog w E Q h), fun k x t v h => by cases h⟩
end Mine
end

section
set_option Elab.async false
set_option maxRecDepth 100000
open PySem PySem.Calls PyProof.Rows PySem.SeqAt
open AutoSeq1 (wpAny_loadPart')
namespace Mine
abbrev set0 (led : Bool) : Obj := { cls := .type "set", dict := none, data := .set #[] 0 (.fresh 0 0 led) }
abbrev hB (b : Bool) : Int := if b then 1 else 0
abbrev pB (b : Bool) : Nat := if b then 1 else 0
abbrev tab1 (b led : Bool) : SetTable := { mask := 7, place := #[pB b], dummies := #[], finger := 0, led, moves := 0, plain := true }
abbrev set1 (b led : Bool) (ep : Nat) : Obj := { cls := .type "set", dict := none, data := .set #[(hB b, .bool b)] ep (tab1 b led) }
theorem lay0 (b led : Bool) : layNew (.fresh 0 0 led) #[] (hB b) (.bool b) = (#[(hB b, .bool b)], tab1 b led, false, false) := by
  cases b <;> cases led <;> kernel_rfl
section
variable {prog : Program} {w : World} {A : Around} {E : Value → Shared → Prop} {s : Shared}

theorem setState_at {M : Model} {a : Addr} {o : Obj} {es : Array (Int × Value)} {n : Nat} {t : SetTable} {Q : Array (Int × Value) × Nat × SetTable → Shared → Prop} (ho : s.heap.get? a = some o) (hd : o.data = .set es n t) (hf : (t.place.size != es.size || decide (t.fill > t.mask)) = false) (h : Q (es, n, t) s) :
    wpAny M A (setState a) Q E s := by
  unfold setState
  refine wpAny_bind (wpAny_load ho ?_)
  rw [hd]
  dsimp only
  first
    | (rw [if_neg (by simpa using hf)]; exact wpAny_pure h)
    | (refine wif_f ?_ (wpAny_pure h); exact hf)

theorem add_first {D : Addr} {b led : Bool} {Q : Value → Shared → Prop} (ho : s.heap.get? D = some (set0 led))
    (h : ∀ h' ep, Heap.SameBut D s.heap h' → h'.get? D = some (set1 b led ep) → Q .none { s with heap := h', toks := s.toks + 1 }) : wpAny (model prog w) A (call (.builtin "set.add") [.ref D, .bool b]) Q E s := by
  refine wpAny_call_entry F.slot_set_add ⟨_, ho, rfl⟩ F.entry_set_add ?_ (F.args_set_add_2 _ _)
  unfold Builtin.«set.add» Builtin.Frozenset.oneOther
  simp only [List.isEmpty_nil, bind_assoc]
  unfold Builtin.Frozenset.addrOf setAdd
  refine wpAny_bind (wpAny_pure ?_)
  try dsimp only
  refine wpAny_bind (wpAny_pure ?_)
  try dsimp only
  refine wpAny_bind ?_
  refine wpAny_holding ?_
  refine wpAny_bind (pyHash_bool ?_)
  unfold setAddHashed
  refine wpAny_holding ?_
  rw [show (100000 : Nat) = 99999 + 1 from rfl, setAddHashedIn]
  refine wpAny_bind (setState_at (s := { s with toks := s.toks + 1 }) ho rfl (by cases led <;> rfl) ?_)
  dsimp only
  refine wif_t (by simp [byScan, Value.scannable, scanBound]) ?_
  refine wpAny_bind ?_
  unfold setAddByScan
  refine wpAny_bind (wpAny_rule ?_)
  refine wpAny_bind (m := setScan D (.bool b) (hB b) true #[]) (wpAny_pure (a := ScanMet.absent) ?_)
  dsimp only
  rw [show (layNew (SetTable.fresh 0 0 led) #[] (if b = true then 1 else 0) (Value.bool b)) = _ from lay0 b led]
  dsimp only
  refine wpAny_bind (wpAny_pure ?_)
  simp only [if_true]
  refine wpAny_bind (m := hashByValue 8 (.bool b)) (wpAny_pure (a := true) ?_)
  simp only [if_true]
  refine wpAny_bind ?_
  unfold storeSet
  refine wpAny_bind (wpAny_load (s := { s with toks := s.toks + 1 }) ho ?_)
  dsimp only
  rw [if_neg (by show ¬ (1 > sizeLine); rw [sizeLine_eq]; omega)]
  refine wpAny_update (s := { s with toks := s.toks + 1 }) ho ?_
  have hself := Heap.get?_update_self (Obj.putSet #[(hB b, .bool b)] (tab1 b led)) ho rfl
  have htf : (!false && (tab1 b led).tooFull) = false := by cases b <;> cases led <;> kernel_rfl
  rw [htf]
  simp only [Bool.false_eq_true, if_false]
  refine wpAny_pure (wpAny_pure ?_)
  exact wpAny_pure ⟨_, rfl, h _ _ (Heap.SameBut.update ..) hself⟩

theorem add_again {D : Addr} {b led : Bool} {ep : Nat} {Q : Value → Shared → Prop} (ho : s.heap.get? D = some (set1 b led ep)) (h : Q .none { s with toks := s.toks + 1 }) : wpAny (model prog w) A (call (.builtin "set.add") [.ref D, .bool b]) Q E s := by
  refine wpAny_call_entry F.slot_set_add ⟨_, ho, rfl⟩ F.entry_set_add ?_ (F.args_set_add_2 _ _)
  unfold Builtin.«set.add» Builtin.Frozenset.oneOther
  simp only [List.isEmpty_nil, bind_assoc]
  unfold Builtin.Frozenset.addrOf setAdd
  refine wpAny_bind (wpAny_pure ?_)
  try dsimp only
  refine wpAny_bind (wpAny_pure ?_)
  try dsimp only
  refine wpAny_bind ?_
  refine wpAny_holding ?_
  refine wpAny_bind (pyHash_bool ?_)
  unfold setAddHashed
  refine wpAny_holding ?_
  rw [show (100000 : Nat) = 99999 + 1 from rfl, setAddHashedIn]
  have hfit : ((tab1 b led).place.size != (#[(hB b, Value.bool b)] : Array (Int × Value)).size || decide ((tab1 b led).fill > (tab1 b led).mask)) = false := by cases b <;> cases led <;> kernel_rfl
  refine wpAny_bind (setState_at (s := { s with toks := s.toks + 1 }) ho rfl hfit ?_)
  dsimp only
  refine wif_t (by simp [byScan, Value.scannable, scanBound]) ?_
  refine wpAny_bind ?_
  unfold setAddByScan
  refine wpAny_bind (wpAny_rule ?_)
  refine wpAny_bind (m := setScan D (.bool b) (hB b) true #[(hB b, .bool b)]) ?_
  show wpAny _ _ (setScanFrom D (.bool b) (hB b) true [(hB b, .bool b)] 0) _ _ _
  unfold setScanFrom
  refine wif_t (by simp) ?_
  refine wpAny_bind ?_
  unfold setEpoch
  refine wpAny_bind (setState_at (s := { s with toks := s.toks + 1 }) ho rfl hfit (wpAny_pure ?_))
  refine wpAny_bind (EqAt.bool_bool (A := A.in1) (s := { s with toks := s.toks + 1 }) b b prog w _ _ ?_)
  have e : (b == b) = true := by simp
  rw [e]
  refine wif_t rfl (wpAny_pure ?_)
  dsimp only
  refine wpAny_pure (wpAny_pure ?_)
  exact wpAny_pure ⟨_, rfl, h⟩
end
end Mine
end

section
set_option Elab.async false
set_option maxRecDepth 100000
open PySem PySem.Calls PyProof.Rows PySem.SeqAt
open AutoSeq1 (wpAny_loadPart')
namespace Mine
namespace SetF
theorem entry_iter : entryFor table "set.__iter__" = some Builtin.«frozenset.__iter__» :=
  entryFor_alias (id' := "frozenset.__iter__") (by kernel_rfl) (by first | rfl | decide +kernel) (by decide +kernel) (by kernel_rfl)
theorem owner : Manifest.owners.lookup (String.ofList ['r', 'o', 't', 'a', 'r', 'e', 't', 'i', '_', 't', 'e', 's'].reverse) = some Manifest.sig_set_iterator := by kernel_rfl
theorem slot_next : Slot "set_iterator" "__next__" "set_iterator.__next__" :=
  .of (owner := "set_iterator") (n := "__next__") (by rw [typeLookup_type, builtinLookup_eq_fast]; kernel_rfl) (by decide +kernel) (by decide +kernel) (by decide +kernel)
    (by first | exact .inl (by decide +kernel) | exact .inr (by decide +kernel)) (by rw [isSubtype_type]; kernel_rfl)
theorem entry_next : entryFor table "set_iterator.__next__" = some Builtin.«set_iterator.__next__» := entryFor_of_tree (by kernel_rfl)
theorem args_next (a : Value) : argsOk "set_iterator.__next__" ⟨[a], []⟩ := by
  unfold argsOk; rw [signature?_of (id := "set_iterator.__next__") (n := ['_', '_', 't', 'x', 'e', 'n', '_', '_']) (o := ['r', 'o', 't', 'a', 'r', 'e', 't', 'i', '_', 't', 'e', 's']) (by kernel_rfl) owner]; kernel_rfl
end SetF

def byText (w : World) : Bool := w.params.followText "set-order"
abbrev sitObj (D : Addr) (first i : Int) (ep : Nat) : Obj := { cls := .type "set_iterator", data := .fields #[rawInt first, rawInt i, .ref D, rawInt 1, rawInt ep] }
section
variable {prog : Program} {w : World} {A : Around} {E : Value → Shared → Prop} {s : Shared}
theorem setsByText_wp {Q : Bool → Shared → Prop} (h : Q (byText w) s) : wpAny (model prog w) A setsByText Q E s := by
  unfold setsByText
  exact wpAny_bind (wpAny_askSetting (wpAny_pure h))
theorem fit1 (b led : Bool) : ((tab1 b led).place.size != (#[(hB b, Value.bool b)] : Array (Int × Value)).size || decide ((tab1 b led).fill > (tab1 b led).mask)) = false := by cases b <;> cases led <;> kernel_rfl

theorem iter_set1 {D : Addr} {b led : Bool} {ep : Nat} {Q : Value → Shared → Prop} (ho : s.heap.get? D = some (set1 b led ep)) (h : Q (.ref s.heap.objs.size) { s with heap := s.heap.push (sitObj D 0 0 ep) }) :
    wpAny (model prog w) A (pyIter (.ref D)) Q E s := by
  have hT : s.TypeIs (.ref D) "set" := ⟨_, ho, rfl⟩
  refine wpAny_pyIter_slot hT F.slot_set_iter (wpAny_call_entry F.slot_set_iter hT SetF.entry_iter ?_ (F.args_set_iter_1 _))
  unfold Builtin.«frozenset.__iter__» Builtin.Frozenset.slot0 slotArgs
  simp only [List.isEmpty_nil, Bool.not_true, Bool.false_eq_true, ↓reduceIte, bind_assoc, List.length_nil, bne_self_eq_false]
  unfold Builtin.Frozenset.addrOf Builtin.Frozenset.sizeOf setEntries
  refine wpAny_bind (wpAny_pure ?_)
  try dsimp only
  refine wpAny_bind (wpAny_pure ?_)
  refine wpAny_bind (wpAny_bind (wpAny_bind (setState_at ho rfl (fit1 b led) (wpAny_pure (wpAny_pure ?_)))))
  unfold setDrawn
  refine wpAny_bind (wpAny_bind (setState_at ho rfl (fit1 b led) ?_))
  dsimp only
  refine wpAny_bind (setsByText_wp (wpAny_pure ?_))
  refine wif_f (by cases byText w <;> cases b <;> cases led <;> rfl) ?_
  refine wpAny_bind (wpAny_pure ?_)
  unfold setEpoch
  refine wpAny_bind (wpAny_bind (setState_at ho rfl (fit1 b led) (wpAny_pure ?_)))
  exact wpAny_bind (wpAny_newObj_type (wpAny_pure ⟨_, rfl, "set_iterator", _, ⟨_, Heap.get?_push_size _ rfl, rfl⟩, SetF.slot_next.lookup, h⟩))

theorem pick_one {α : Type} (next : Nat → Nat) (x : α) : pickOrder next #[x] = #[x] := by
  simp [pickOrder, pickOrder.go, Nat.mod_one]

theorem setNext0 {D : Addr} {b : Bool} {ep : Nat} {Q : Option (Value × Nat) → Shared → Prop} (ho : s.heap.get? D = some (set1 b (!byText w) ep)) (h : ∀ sl : Nat, (byText w = false → (sl : Int) = pB b + 1) → Q (some (.bool b, sl)) s) : wpAny (model prog w) A (setNext D 0 0 ep) Q E s := by
  unfold setNext
  refine wpAny_bind (setState_at ho rfl (fit1 b _) ?_)
  try dsimp only
  refine wpAny_bind (setsByText_wp ?_)
  cases hbt : byText w with
  | true =>
    simp only [if_true]
    rw [if_neg (by simp)]
    refine wpAny_bind ?_
    unfold setWalk
    refine wpAny_bind (setState_at ho rfl (fit1 b _) ?_)
    try dsimp only
    refine wpAny_bind (setsByText_wp ?_)
    rw [hbt]
    simp only [if_true]
    refine wpAny_bind (wpAny_askSetting (wpAny_pure ?_))
    rw [pick_one]
    exact wpAny_pure (h 0 fun q => by rw [hbt] at q; cases q)
  | false =>
    simp only [Bool.false_eq_true, if_false]
    cases b
    · refine wif_f (by rfl) ?_
      refine wpAny_bind (wpAny_of_eq (a := ()) (by rfl) ?_)
      exact wpAny_pure (h 1 fun _ => rfl)
    · refine wif_f (by rfl) ?_
      refine wpAny_bind (wpAny_of_eq (a := ()) (by rfl) ?_)
      exact wpAny_pure (h 2 fun _ => rfl)

/-- the set's one element -/
theorem next_set1 {D I : Addr} {b : Bool} {ep : Nat} {Q : Option Value → Shared → Prop} (ho : s.heap.get? D = some (set1 b (!byText w) ep)) (hi : s.heap.get? I = some (sitObj D 0 0 ep)) (hne : D ≠ I)
    (h : ∀ h' (sl : Nat), Heap.SameBut I s.heap h' → h'.get? I = some (sitObj D sl 1 ep) → (byText w = false → (sl : Int) = pB b + 1) → Q (some (.bool b)) { s with heap := h' }) : wpAny (model prog w) A (pyNext (.ref I)) Q E s := by
  have hT : s.TypeIs (.ref I) "set_iterator" := ⟨_, hi, rfl⟩
  unfold pyNext
  refine wpAny_bind (wpAny_attempt (wpAny_callSpecial?_slot (name := Str.ofString "__next__") hT SetF.slot_next (wpAny_call_entry SetF.slot_next hT SetF.entry_next ?_ (SetF.args_next _))))
  unfold Builtin.«set_iterator.__next__» slotArgs
  simp only [List.isEmpty_nil, Bool.not_true, Bool.false_eq_true, ↓reduceIte, bind_assoc, List.length_nil, bne_self_eq_false]
  refine wpAny_bind (wpAny_pure ?_)
  try dsimp only
  refine wpAny_bind (wpAny_fieldsOf hi rfl ?_)
  try dsimp only
  unfold setEntries
  refine wpAny_bind (wpAny_bind (setState_at ho rfl (fit1 b _) (wpAny_pure ?_)))
  refine wif_f (by rfl) ?_
  try dsimp only
  refine wpAny_bind (m := setNext D 0 0 ep) (setNext0 ho fun sl hsl => ?_)
  try dsimp only
  refine wpAny_bind (wpAny_setField_rec hi (by simp) fun h1 hi1 hs1 => ?_)
  refine wpAny_bind (wpAny_setField_rec (s := { s with heap := h1 }) hi1 (by simp) fun h2 hi2 hs2 => ?_)
  refine wpAny_pure ⟨_, rfl, wpAny_pure (h h2 sl (hs1.trans hs2) (by simpa [rawInt, sitObj] using hi2) hsl)⟩

theorem setNext1 {D : Addr} {b : Bool} {ep sl : Nat} {Q : Option (Value × Nat) → Shared → Prop} (ho : s.heap.get? D = some (set1 b (!byText w) ep)) (hsl : byText w = false → (sl : Int) = pB b + 1) (h : Q none s) : wpAny (model prog w) A (setNext D sl 1 ep) Q E s := by
  unfold setNext
  refine wpAny_bind (setState_at ho rfl (fit1 b _) ?_)
  try dsimp only
  refine wpAny_bind (setsByText_wp ?_)
  cases hbt : byText w with
  | true =>
    simp only [if_true]
    rw [if_neg (by simp)]
    refine wpAny_bind ?_
    unfold setWalk
    refine wpAny_bind (setState_at ho rfl (fit1 b _) ?_)
    try dsimp only
    refine wpAny_bind (setsByText_wp ?_)
    rw [hbt]
    simp only [if_true]
    refine wpAny_bind (wpAny_askSetting (wpAny_pure ?_))
    rw [pick_one]
    exact wpAny_pure h
  | false =>
    simp only [Bool.false_eq_true, if_false]
    have hs : sl = pB b + 1 := by have := hsl hbt; omega
    subst hs
    cases b
    · refine wif_f (by rfl) ?_
      refine wpAny_bind (wpAny_of_eq (a := ()) (by rfl) ?_)
      exact wpAny_pure h
    · refine wif_f (by rfl) ?_
      refine wpAny_bind (wpAny_of_eq (a := ()) (by rfl) ?_)
      exact wpAny_pure h

theorem end_set1 {D I : Addr} {b : Bool} {ep sl : Nat} {Q : Option Value → Shared → Prop} (hh : A.handled = none) (ho : s.heap.get? D = some (set1 b (!byText w) ep)) (hi : s.heap.get? I = some (sitObj D sl 1 ep)) (hsl : byText w = false → (sl : Int) = pB b + 1)
    (h : ∀ h', Heap.ExtBut I s.heap h' → Q none { s with heap := h' }) : wpAny (model prog w) A (pyNext (.ref I)) Q E s := by
  have hT : s.TypeIs (.ref I) "set_iterator" := ⟨_, hi, rfl⟩
  unfold pyNext
  refine wpAny_bind (wpAny_attempt (wpAny_callSpecial?_slot (name := Str.ofString "__next__") hT SetF.slot_next (wpAny_call_entry SetF.slot_next hT SetF.entry_next ?_ (SetF.args_next _))))
  unfold Builtin.«set_iterator.__next__» slotArgs
  simp only [List.isEmpty_nil, Bool.not_true, Bool.false_eq_true, ↓reduceIte, bind_assoc, List.length_nil, bne_self_eq_false]
  refine wpAny_bind (wpAny_pure ?_)
  try dsimp only
  refine wpAny_bind (wpAny_fieldsOf hi rfl ?_)
  try dsimp only
  unfold setEntries
  refine wpAny_bind (wpAny_bind (setState_at ho rfl (fit1 b _) (wpAny_pure ?_)))
  refine wif_f (by rfl) ?_
  try dsimp only
  refine wpAny_bind (m := setNext D sl 1 ep) (setNext1 ho hsl ?_)
  try dsimp only
  refine wpAny_bind (wpAny_setField_rec hi (by simp) fun h1 hi1 hs1 => ?_)
  show wpAny _ _ (newExc (.type "StopIteration") [] >>= _) _ _ _
  refine wpAny_bind ?_
  simp only [newExc, newTuple]
  refine wpAny_bind (wpAny_newObj_type ?_ (by size_fits))
  refine wpAny_bind (m := firstArgMember _ _) (wpAny_of_eq (a := Value.none) (by first | rfl | (simp only [firstArgMember]; rfl)) ?_)
  refine wpAny_newObj_type ?_ (by size_fits)
  simp only [raiseNew]
  refine wpAny_bind (wpAny_handled ?_)
  first | rw [show A.in1.handled = none from hh] | rw [hh]
  refine wpAny_bind (wpAny_pure (wpAny_throw ?_))
  refine wpAny_bind (wpAny_isInstance (T := "StopIteration") (b := true) ⟨_, Heap.get?_push_size _ rfl, rfl⟩ isSubtype_stop ?_)
  exact wpAny_pure (h _ ((hs1.extBut.push _).push _))
end
end Mine
end

section
set_option Elab.async false
set_option maxRecDepth 100000
open PySem PySem.Calls PyProof.Rows
namespace Mine
theorem compTurn_set (elt : Expr) (x : Str) (px : Pos) (iter : Expr) (ifs : List Expr) (scope : Scope) (pos : Pos) (it acc : Value) (env : Env) :
    compTurn (.SetComp elt [⟨.Name x px, iter, ifs, 0⟩] scope pos) 0 it acc env = (do
      standAt iter.pos
      match ← pyNext it with
      | none => pure (.done .next)
      | some v =>
        assign (.Name x px) env v
        let ok ← forIn ifs true fun c r => if r = true then do let ok ← isTrue c env (eval c env); pure (ForInStep.yield ok) else pure (ForInStep.yield r)
        if ok then do
          (do let v ← eval elt env; standAt elt.pos; let _ ← call (.builtin "set.add") [acc, v])
          again (.compLoop (.SetComp elt [⟨.Name x px, iter, ifs, 0⟩] scope pos) 0 it acc env)
        else again (.compLoop (.SetComp elt [⟨.Name x px, iter, ifs, 0⟩] scope pos) 0 it acc env)) := by rfl

section
variable {prog : Program} {w : World} {A : Around} {E : Value → Shared → Prop} {s : Shared} {R : Result → Shared → Prop}
theorem setLoop_at {elt : Expr} {x : Str} {px : Pos} {iter : Expr} {ifs : List Expr} {scope : Scope} {pos : Pos} {it acc : Value} {env : Env} (I : Nat → Shared → Prop)
    (turn : ∀ n s, I n s → wpAny (model prog w) A (pyNext it) (fun r s₁ => match r with
      | none => R (.ok .next) s₁
      | some v => wpAny (model prog w) A (assign (.Name x px) env v) (fun _ s₂ =>
          wpAny (model prog w) A (forIn ifs true fun c r => if r = true then do let ok ← isTrue c env (eval c env); pure (ForInStep.yield ok) else pure (ForInStep.yield r)) (fun ok s₃ =>
            if ok = true then wpAny (model prog w) A (eval elt env) (fun v s₄ => wpAny (model prog w) A (call (.builtin "set.add") [acc, v]) (fun _ s₅ => ∃ m, m < n ∧ I m s₅) (fun _ _ => False) s₄) (fun _ _ => False) s₃
            else ∃ m, m < n ∧ I m s₃) (fun _ _ => False) s₂) (fun _ _ => False) s₁) (fun _ _ => False) s)
    (n : Nat) (h : I n s) :
    codeAny (model prog w) A (.compLoop (.SetComp elt [⟨.Name x px, iter, ifs, 0⟩] scope pos) 0 it acc env) R s := by
  refine codeAny_loop rfl I (fun n s hI => ?_) n h
  show wpAny _ A ((compTurn (.SetComp elt [⟨.Name x px, iter, ifs, 0⟩] scope pos) 0 it acc env).onRaise (fun x => do noteFrame x env; theTreesLotGoes x)) _ _ s
  refine wpAny_noted ?_
  rw [compTurn_set]
  refine wpAny_bind (wpAny_standAt (wpAny_bind (wpAny_mono (turn n s hI) (fun r s₁ h₁ => ?_) fun _ _ h' => h'.elim)))
  cases r with
  | none => exact wpAny_pure h₁
  | some v =>
    refine wpAny_bind (wpAny_mono h₁ (fun _ s₂ h₂ => wpAny_bind (wpAny_mono h₂ (fun ok s₃ h₃ => ?_) fun _ _ h' => h'.elim)) fun _ _ h' => h'.elim)
    cases ok with
    | false => exact wpAny_pure ⟨rfl, h₃⟩
    | true => exact wpAny_bind (wpAny_bind (wpAny_mono h₃ (fun v s₄ h₄ => wpAny_bind (wpAny_standAt (wpAny_bind (wpAny_mono h₄ (fun _ s₅ h₅ => wpAny_pure (wpAny_pure ⟨rfl, h₅⟩)) fun _ _ h' => h'.elim)))) fun _ _ h' => h'.elim))

theorem setStart_at {elt : Expr} {g : Comprehension} {scope : Scope} {pos : Pos} {it acc : Value} {env : Env} (ha : g.is_async = 0)
    (h : codeAny (model prog w) A (.compLoop (.SetComp elt [g] scope pos) 0 it acc env) R s)
    (hs : ∀ Q : Value → Shared → Prop, Q it s → wpAny (model prog w) A (pyIter it) Q (fun _ _ => False) s) :
    codeAny (model prog w) A (.compStart (.SetComp elt [g] scope pos) 0 it acc env) R s := by
  refine codeAny_of_tree ?_
  show wpAny _ _ ((compStart (.SetComp elt [g] scope pos) 0 it acc env).onRaise (fun x => do noteFrame x env; standAt theWindowsPlace)) _ _ s
  refine wpAny_notedAt ?_
  unfold compStart
  have hc : clausesOf (.SetComp elt [g] scope pos) = [g] := rfl
  rw [hc, show ([g] : List Comprehension)[0]? = some g from rfl]
  have e : (Option.elim (some g) false fun x => x.is_async != 0) = false := by show (g.is_async != 0) = false; rw [ha]; rfl
  rw [e]
  simp only [Bool.false_eq_true, if_false]
  show wpAny _ _ (ask >>= _) _ _ s
  refine wpAny_bind (wpAny_askSetting (wpAny_ite ?_))
  split
  · first
      | exact wpAny_bind (wpAny_pure (wpAny_pure (And.intro rfl h)))
      | exact wpAny_pure (And.intro rfl h)
  · refine wpAny_bind (wpAny_rule ?_)
    refine wpAny_bind (wpAny_standAt ?_)
    refine wpAny_bind (wpAny_mono (hs (fun it' s' => it' = it ∧ s' = s) ⟨rfl, rfl⟩) (fun it' s' h' => ?_) fun _ _ x => x.elim)
    obtain ⟨rfl, rfl⟩ := h'
    exact wpAny_pure (And.intro rfl h)

theorem newSet_wp {Q : Value → Shared → Prop} (h : Q (.ref s.heap.objs.size) { s with heap := s.heap.push (set0 (!byText w)) }) : wpAny (model prog w) A (newSet (.type "set")) Q E s := by
  unfold newSet
  refine wpAny_bind (setsByText_wp ?_)
  exact wpAny_newObj_type h
end

theorem allBool_all : ∀ {ds : List D} {b : Bool}, allBool ds = some b → ds ≠ [] ∧ ∀ d ∈ ds, d = .bool b
  | [], b, h => by cases h
  | [.bool c], b, h => by cases h; exact ⟨by simp, fun d hd => by simpa using hd⟩
  | .bool c :: d :: r, b, h => by
    simp only [allBool] at h
    split at h
    · rename_i e he
      split at h
      · rename_i hc
        cases h
        subst hc
        obtain ⟨_, h2⟩ := allBool_all he
        exact ⟨by simp, fun x hx => (List.mem_cons.mp hx).elim id (h2 x)⟩
      · cases h
    · cases h
  | .none :: r, b, h => by cases r <;> cases h
  | .int _ :: r, b, h => by cases r <;> cases h
  | .txt _ _ :: r, b, h => by cases r <;> cases h
  | .tup _ :: r, b, h => by cases r <;> cases h
  | .lst _ :: r, b, h => by cases r <;> cases h
  | .typ _ :: r, b, h => by cases r <;> cases h

/-- the set so far -/
def SetSt (led b : Bool) (done : List D) (o : Option Obj) : Prop := (done = [] ∧ o = some (set0 led)) ∨ (done ≠ [] ∧ ∃ ep, o = some (set1 b led ep))
end Mine
end

section
set_option Elab.async false
set_option maxRecDepth 100000
open PySem PySem.Calls PyProof.Rows
namespace Mine
section
variable {prog : Program} {w : World} {h₀ : Heap} {Φ : Str → List D → Option D} {k : Nat} {A : Around}

theorem set_loop {n m : Nat} (hE : EvS prog w h₀ Φ k n) (hT : TstS prog w h₀ Φ k (n + 1)) {elt : Expr} {scope : Scope} {pos : Pos} {x : Str} {px : Pos} {iter : Expr} {ifs : List Expr} {ρ : Ro} {items ds : List D} {b : Bool}
    {env : Env} {X : Addr → Prop} {adr : Str → Addr} {s : Shared} {Dc I : Addr} {fp wr : List Addr} {P : Nat → Value → Prop} {Sx : Nat → Heap → Prop}
    (hx : (ρ.get x).none = true) (ht : turns (fun ρ' => oneTest (fun c => tst Φ (n + 1) c ρ') ifs) (fun ρ' => comp Φ (n + 1) elt [] ρ') x ρ items = some ds) (hall : ∀ d ∈ ds, d = .bool b)
    (hok : okE m env.scope elt = true) (hokI : (ifs.all fun v => okE m env.scope v) = true) (hkx : env.kindOf x = some .local) (ok : EnvOk h₀ env) (R : Room (k + 1) A)
    (st : St h₀ env X adr ρ s.heap) (hDs : s.heap.get? Dc = some (set0 (!byText w))) (hD0 : h₀.get? Dc = none) (hDX : ¬ X Dc) (hDL : Dc ≠ env.locals) (hDc : ∀ y, env.kindOf y = some .cell → env.cells.lookup y ≠ some Dc)
    (W : Walks prog w A I fp wr items.length P Sx) (st0 : Sx 0 s.heap) (ns : ∀ i h, Sx i h → ∀ b ∈ wr, ∀ o vs n, h.get? b = some o → o.data = .seq vs n → False) (off : WrOff h₀ env X wr) (hD : Dc ∉ fp) (hCf : env.locals ∉ fp)
    (hP : ∀ i v, P i v → ∃ d, items[i]? = some d ∧ Rep s.heap X v d) :
    codeAny (model prog w) A (.compLoop (.SetComp elt [⟨.Name x px, iter, ifs, 0⟩] scope pos) 0 (.ref I) (.ref Dc) env) (fun r s' => r = .ok .next ∧ ∃ h' tk m', s' = { s with heap := h', toks := tk } ∧ (∀ b o, b ≠ Dc → b ≠ env.locals → b ∉ wr → s.heap.get? b = some o → h'.get? b = some o) ∧ h'.Ns env.locals m' ∧ SetSt (!byText w) b ds (h'.get? Dc)) s := by
  refine setLoop_at (fun r s' => ∃ i h' tk done rem, r = items.length - i ∧ i ≤ items.length ∧ s' = { s with heap := h', toks := tk } ∧ Sx i h' ∧ (∀ b o, b ≠ Dc → b ≠ env.locals → b ∉ wr → s.heap.get? b = some o → h'.get? b = some o) ∧
    St h₀ env X adr ρ h' ∧ SetSt (!byText w) b done (h'.get? Dc) ∧ turns (fun ρ' => oneTest (fun c => tst Φ (n + 1) c ρ') ifs) (fun ρ' => comp Φ (n + 1) elt [] ρ') x ρ (items.drop i) = some rem ∧ ds = done ++ rem)
    ?turn items.length ⟨0, s.heap, s.toks, [], ds, rfl, Nat.zero_le _, rfl, st0, fun b o _ _ _ e => e, st, .inl ⟨rfl, hDs⟩, by simpa using ht, by simp⟩
  rintro r s' ⟨i, h', tk, done, rem, rfl, hi, rfl, sx, hk, st', hset, htr, hds⟩
  have hsub := W.sub
  have dwr : Dc ∉ wr := fun q => hD (hsub _ q)
  obtain ⟨m₀, hm₀, _⟩ := st.ns
  by_cases hlt : i < items.length
  · refine W.item i _ _ _ hlt sx fun v h1 tk1 hPv sx1 hk1 => ?_
    dsimp only at hk1 sx1
    obtain ⟨d, hd, rd⟩ := hP i v hPv
    have hdrop : items.drop i = d :: items.drop (i + 1) := by
      rw [List.drop_eq_getElem_cons hlt]
      have : items[i] = d := by simpa [hlt] using hd
      rw [this]
    rw [hdrop] at htr
    have kb : ∀ b o, b ≠ Dc → b ≠ env.locals → b ∉ wr → s.heap.get? b = some o → h1.get? b = some o := fun b o q1 q2 q3 e => hk1 b o q3 (hk b o q1 q2 q3 e)
    have setD : ∀ {h1 h2 : Heap} {dn : List D}, (∀ o, h1.get? Dc = some o → h2.get? Dc = some o) → SetSt (!byText w) b dn (h1.get? Dc) → SetSt (!byText w) b dn (h2.get? Dc) := fun {h1 h2 dn} hk x => by
      rcases x with ⟨e1, e2⟩ | ⟨e1, ep, e2⟩
      · exact .inl ⟨e1, hk _ e2⟩
      · exact .inr ⟨e1, ep, hk _ e2⟩
    have notseq : ∀ o vs n, s.heap.get? Dc = some o → o.data = .seq vs n → False := fun o vs n ho hd => by rw [hDs] at ho; cases ho; cases hd
    have rv : Rep h1 X v d := rd.move (fun b o hb ⟨vs, n, e⟩ ho => kb b o (fun q => notseq o vs n (q ▸ ho) e) (fun q => seq_not_dict (q ▸ ho) e hm₀) (fun q => ns 0 _ st0 b q o vs n ho e) ho) fun _ p _ => p
    have st1 := st'.iter off (ns _ _ sx) hk1
    have set1' := setD (hk1 Dc · dwr) hset
    have hρx := AV.none_iff hx
    refine wpAny_assign_Name (st1.store (s := { s with heap := h1, toks := tk1 }) (d := d) (ρ' := (x, .frz d) :: ρ) ok (by rw [hkx]; rfl) (by simp [Ro.get_cons]) (fun y hy => by simp [Ro.get_cons, Ne.symm hy]) rv fun h2 tk2 st2 rv2 sto => ?_)
    obtain ⟨c, _, ec, hs⟩ := sto
    have := ec hkx
    subst this
    have ka : ∀ b o, b ≠ env.locals → h1.get? b = some o → h2.get? b = some o := fun b o q e => (hs.2 b q).trans e
    have set2 := setD (ka Dc · hDL) set1'
    simp only [turns] at htr
    cases htest : oneTest (fun c => tst Φ (n + 1) c ((x, .frz d) :: ρ)) ifs with
    | none => rw [htest] at htr; cases htr
    | some bt =>
      rw [htest] at htr
      refine wpAny_mono (tests_sound hT htest hokI ok st2 R) (fun bb s3 h3 => ?_) fun _ _ f => f
      obtain ⟨h3, tk3, rfl, e3, rfl⟩ := h3
      have st3 := st2.ext e3
      have set3 := setD (e3 Dc ·) set2
      have frame : ∀ {h5 : Heap}, (∀ b o, b ≠ Dc → h3.get? b = some o → h5.get? b = some o) → Sx (i + 1) h5 := fun {h5} mv => W.frame _ _ _ sx1 fun b hb o e => mv b o (fun q => hD (q ▸ hb)) (e3 _ _ (ka b o (fun q => hCf (q ▸ hb)) e))
      have back : ∀ {h5 : Heap}, (∀ b o, b ≠ Dc → h3.get? b = some o → h5.get? b = some o) → ∀ b o, b ≠ Dc → b ≠ env.locals → b ∉ wr → s.heap.get? b = some o → h5.get? b = some o := fun {h5} mv b o q1 q2 q3 e => mv b o q1 (e3 _ _ (ka b o q2 (kb b o q1 q2 q3 e)))
      have frg : ∀ y, ρ.get y = .unset ∨ ρ.get y = Ro.get ((x, .frz d) :: ρ) y := fun y => by
        by_cases q : x = y
        · exact .inl (q ▸ hρx)
        · exact .inr (by simp [Ro.get_cons, q])
      cases bb with
      | false =>
        simp only [Bool.false_eq_true, if_false]
        exact ⟨items.length - (i + 1), by omega, i + 1, h3, tk3, done, rem, rfl, hlt, rfl, frame fun b o _ e => e, back fun b o _ e => e, st3.forget frg, set3, htr, hds⟩
      | true =>
        simp only [if_true]
        dsimp only at htr
        cases hev : Mine.ev Φ n elt ((x, .frz d) :: ρ) with
        | none => rw [show comp Φ (n + 1) elt [] ((x, .frz d) :: ρ) = (Mine.ev Φ n elt ((x, .frz d) :: ρ)).map ([·]) from rfl, hev] at htr; cases htr
        | some dv =>
          rw [show comp Φ (n + 1) elt [] ((x, .frz d) :: ρ) = (Mine.ev Φ n elt ((x, .frz d) :: ρ)).map ([·]) from rfl, hev] at htr
          obtain ⟨rem', hr', rfl⟩ := Option.map_eq_some_iff.mp htr
          have hdv : dv = .bool b := hall dv (by rw [hds]; simp)
          subst hdv
          refine wpAny_mono (hE elt _ _ m env X adr A _ _ hev hok ok st3 R) (fun v s4 h4 => ?_) fun _ _ f => f
          obtain ⟨h4, tk4, rfl, e4, r4⟩ := h4
          obtain rfl := r4.bool'
          have st4 := st3.ext e4
          have set4 := setD (e4 Dc ·) set3
          have fin : ∀ (h5 : Heap) (tk5 : Nat), Heap.SameBut Dc h4 h5 → SetSt (!byText w) b (done ++ [.bool b]) (h5.get? Dc) → (∃ o, h5.get? Dc = some o) → ∃ m_1, m_1 < items.length - i ∧ ∃ i h' tk done rem, m_1 = items.length - i ∧ i ≤ items.length ∧ ({ s with heap := h5, toks := tk5 } : Shared) = { s with heap := h', toks := tk } ∧ Sx i h' ∧ (∀ b o, b ≠ Dc → b ≠ env.locals → b ∉ wr → s.heap.get? b = some o → h'.get? b = some o) ∧
              St h₀ env X adr ρ h' ∧ SetSt (!byText w) b done (h'.get? Dc) ∧ turns (fun ρ' => oneTest (fun c => tst Φ (n + 1) c ρ') ifs) (fun ρ' => comp Φ (n + 1) elt [] ρ') x ρ (items.drop i) = some rem ∧ ds = done ++ rem := fun h5 tk5 hs5 hset5 hex => by
            have mv : ∀ b o, b ≠ Dc → h3.get? b = some o → h5.get? b = some o := fun b o q e => (hs5.2 b q).trans (e4 _ _ e)
            have st5 : St h₀ env X adr ((x, .frz d) :: ρ) h5 := st4.iter (wr := [Dc]) (fun c hc => by rw [List.mem_singleton] at hc; subst hc; exact ⟨hD0, hDX, hDL, hDc⟩) (fun c hc o vs nn ho hd => by
              rw [List.mem_singleton] at hc; subst hc
              rcases set4 with ⟨_, e⟩ | ⟨_, ep, e⟩ <;> (rw [e] at ho; cases ho; cases hd)) fun c o hc e => (hs5.2 c (by simpa using hc)).trans e
            exact ⟨items.length - (i + 1), by omega, i + 1, h5, tk5, done ++ [.bool b], rem', rfl, hlt, rfl, frame mv, back mv, st5.forget frg, hset5, hr', by rw [hds]; simp⟩
          rcases set4 with ⟨hdn, e⟩ | ⟨hdn, ep, e⟩
          · refine add_first (s := { s with heap := h4, toks := tk4 }) e fun h5 ep hs5 h5D => fin h5 _ hs5 (.inr ⟨by simp, ep, h5D⟩) ⟨_, h5D⟩
          · refine add_again (s := { s with heap := h4, toks := tk4 }) e (fin h4 _ (.refl ..) (.inr ⟨by simp, ep, e⟩) ⟨_, e⟩)
  · have : i = items.length := by omega
    subst this
    rw [List.drop_length] at htr
    simp only [turns] at htr
    cases htr
    refine W.done _ _ _ sx fun h1 tk1 hk1 => ?_
    have st1 := st'.iter off (ns _ _ sx) hk1
    obtain ⟨m1, hm1, _⟩ := st1.ns
    refine ⟨rfl, h1, tk1, m1, rfl, fun b o q1 q2 q3 e => hk1 b o q3 (hk b o q1 q2 q3 e), hm1, ?_⟩
    rw [hds, List.append_nil]
    rcases hset with ⟨e1, e2⟩ | ⟨e1, ep, e2⟩
    · exact .inl ⟨e1, hk1 _ _ dwr e2⟩
    · exact .inr ⟨e1, ep, hk1 _ _ dwr e2⟩
end
end Mine
end

section
set_option Elab.async false
set_option maxRecDepth 100000
open PySem PySem.Calls PyProof.Rows
namespace Mine
section
variable {prog : Program} {w : World} {h₀ : Heap} {Φ : Str → List D → Option D} {k : Nat} {A : Around}
/-- a set of one bool -/
def SetOne (w : World) (s : Shared) (b : Bool) (h : Heap) (v : Value) : Prop := ∃ D ep, v = .ref D ∧ s.heap.get? D = none ∧ h.get? D = some (set1 b (!byText w) ep)

theorem setcomp_sound (hall : ∀ n, All prog w h₀ Φ k n) {n m : Nat} {elt : Expr} {gens : List Comprehension} {scope : Scope} {pos : Pos} {ρ : Ro} {ds : List D} {b : Bool} {env : Env} {X : Addr → Prop} {adr : Str → Addr} {s : Shared} {E : Value → Shared → Prop}
    (h : comp Φ n elt gens (hide scope ρ) = some ds) (hb : allBool ds = some b) (hok : okE m env.scope (.SetComp elt gens scope pos) = true) (ok : EnvOk h₀ env) (st : St h₀ env X adr ρ s.heap) (R : Room (k + 1) A) :
    wpAny (model prog w) A (eval (.SetComp elt gens scope pos) env) (EvP s (SetOne w s b)) E s := by
  cases m with
  | zero => cases hok
  | succ m =>
  simp only [okE] at hok
  rw [Bool.and_eq_true] at hok
  obtain ⟨hsc, hok⟩ := hok
  have sok := ScopeOk.of hsc
  rcases gens with _ | ⟨g, _ | ⟨g', gr⟩⟩
  · cases hok
  · dsimp only at hok
    simp only [Bool.and_eq_true] at hok
    obtain ⟨⟨⟨hgi, hgf⟩, hgt⟩, hoe⟩ := hok
    obtain ⟨ha, x, px, ht, hkx⟩ := target_ok hgt
    obtain ⟨tg, iter, ifs, asy⟩ := g
    dsimp only at ha ht hgi hgf
    subst ha; subst ht
    obtain ⟨hne, hdall⟩ := allBool_all hb
    cases n with
    | zero => cases h
    | succ n =>
    cases n with
    | zero =>
      exfalso
      simp only [comp] at h
      split at h
      · cases h
      · split at h
        · rename_i hsrc; cases hsrc
        · cases h
    | succ n =>
    simp only [comp] at h
    split at h
    · cases h
    rename_i hx
    have hx' : ((hide scope ρ).get x).none = true := by simpa using hx
    cases hsrc : src Φ (n + 1) iter (hide scope ρ) with
    | none => rw [hsrc] at h; cases h
    | some items =>
    rw [hsrc] at h
    dsimp only at h
    have stH : St h₀ env X adr (hide scope ρ) s.heap := st.forget fun x => hide_or x
    obtain ⟨cl, hclos, hcl1, hcl2⟩ := closure_st sok st
    rw [arm_eval_SetComp]
    have hasy : firstAsync [(⟨.Name x px, iter, ifs, 0⟩ : Comprehension)] = false := rfl
    rw [hasy]
    refine wpAny_comprehension_free (use := none) rfl (fold_plain (src_plain hsrc)) hclos sok.kind sok.loc ?_
    show wpAny _ _ (eval iter env) _ _ _
    refine wpAny_mono ((hall (n + 1)).src iter _ items m env X adr A s _ hsrc hgi ok stH R) (fun xv s1 h1 => ?_) fun _ _ f => f
    refine wpAny_mono h1 (fun it s2 h2 => ?_) fun _ _ f => f
    obtain ⟨I, fp, wr, P, Sx, h2, tk2, rfl, rfl, W⟩ := h2
    refine newSet_wp (wpAny_newFunctionEnv sok.cell (by intro y hy; simp at hy) (fun h₁ hns₁ hsb₁ => ?_) sok.kind)
    dsimp only at hns₁ hsb₁ ⊢
    generalize hH2 : h2.push (set0 (!byText w)) = H2 at hns₁ hsb₁ ⊢
    have hCs : H2.objs.size = h2.objs.size + 1 := by rw [← hH2, Heap.size_push]
    have nn : ∀ b, h2.get? b = none → s.heap.get? b = none := fun b hb => by
      cases hx : s.heap.get? b with
      | none => rfl
      | some o => rw [W.ext _ _ hx] at hb; cases hb
    have hDn : h2.get? h2.objs.size = none := fresh_not (Nat.le_refl _)
    have hCn : h2.get? H2.objs.size = none := fresh_not (by rw [hCs]; exact Nat.le_succ _)
    have hDC : h2.objs.size ≠ H2.objs.size := by rw [hCs]; exact Nat.ne_of_lt (Nat.lt_succ_self _)
    have old : Ext h2 h₁ := fun b o e => hsb₁.extBut b o (fun q => by rw [q, hCn] at e; cases e) (Heap.get?_push_of_some _ (hH2 ▸ Heap.get?_push_of_some _ e))
    have hacc : h₁.get? h2.objs.size = some (set0 (!byText w)) := hsb₁.extBut _ _ hDC (Heap.get?_push_of_some _ (hH2 ▸ Heap.get?_push_size _ rfl))
    have hDf : h2.objs.size ∉ fp := fun q => Nat.lt_irrefl _ (W.lt _ q)
    have hCf : H2.objs.size ∉ fp := fun q => by have := W.lt _ q; rw [hCs] at this; exact Nat.lt_irrefl _ (Nat.lt_of_succ_lt this)
    have h0n : ∀ b, h2.get? b = none → h₀.get? b = none := fun b hb => by
      cases hx : h₀.get? b with
      | none => rfl
      | some o => rw [W.ext _ _ (st.base _ _ hx)] at hb; cases hb
    have st1 : St h₀ env X adr ρ h₁ := (st.ext W.ext).ext old
    have stC := st_comp (cl := cl) (C := H2.objs.size) sok st1 hcl2 hns₁
    have okC := envOk_comp (cl := cl) (C := H2.objs.size) sok ok hcl1 (h0n _ hCn)
    have outD := (st.ext W.ext).offFresh (wr := [h2.objs.size]) (fun c hc => by rw [List.mem_singleton] at hc; rw [hc]; exact hDn) h2.objs.size (by simp)
    have off : WrOff h₀ (compEnvC scope cl H2.objs.size env) X wr := fun b hb => by
      have o1 := st.offFresh W.fresh b hb
      have hbf : b ∈ fp := (W.walks A R.handled).sub b hb
      refine ⟨o1.1, o1.2.1, fun q => hCf ((show b = H2.objs.size from q) ▸ hbf), fun y hy q => ?_⟩
      have hm : (y, NameKind.free) ∈ scope.names := relab_cell sok hy
      have := hcl2 _ hm rfl
      exact o1.2.2.2 y (sok.free _ hm rfl).1 (this.symm.trans q)
    have W' := W.walks A R.handled
    have st0 : Sx 0 h₁ := W'.frame _ _ _ W.start fun b _ o e => old _ _ e
    have items' : ∀ i v, P i v → ∃ d, items[i]? = some d ∧ Rep h₁ X v d := fun i v hv => by
      obtain ⟨d, h1, h2'⟩ := W.items i v hv
      exact ⟨d, h1, h2'.ext old⟩
    have lp := set_loop (prog := prog) (w := w) (A := A) (n := n) (m := m) (s := { s with heap := h₁, toks := tk2 + ([] : List (Str × Value)).length }) (env := compEnvC scope cl H2.objs.size env) (scope := scope) (pos := pos) (iter := iter) (px := px) (Dc := h2.objs.size)
      (hall n).ev (hall (n + 1)).tst hx' h hdall hoe hgf hkx okC R stC hacc (h0n _ hDn) outD.2.1 hDC (fun y hy q => by
        have hm : (y, NameKind.free) ∈ scope.names := relab_cell sok hy
        have := hcl2 _ hm rfl
        exact outD.2.2.2 y (sok.free _ hm rfl).1 (this.symm.trans q)) W' st0 W.nonseq off hDf hCf items'
    refine codeAny_mono (setStart_at rfl lp fun Q q => W'.self 0 _ _ _ st0 q) fun r s' hr => ?_
    obtain ⟨rfl, h', tk, m', rfl, hk, hm', hset⟩ := hr
    rcases hset with ⟨e1, _⟩ | ⟨_, ep, e2⟩
    · exact absurd e1 hne
    · refine ⟨m', hm', fun h'' hs => ⟨h'', tk, rfl, fun b o e => ?_, h2.objs.size, ep, rfl, nn _ hDn, ?_⟩⟩
      · refine (hs.2 b fun q => ?_).trans (hk b o (fun q => ?_) (fun q => ?_) (fun q => ?_) (old _ _ (W.ext _ _ e)))
        · rw [show b = H2.objs.size from q, nn _ hCn] at e; cases e
        · rw [q, nn _ hDn] at e; cases e
        · rw [show b = H2.objs.size from q, nn _ hCn] at e; cases e
        · rw [W.fresh b q] at e; cases e
      · exact (hs.2 _ hDC).trans e2
  · cases hok

theorem set_arm (G : Glb h₀) (hΦ : PhiOk prog w h₀ Φ k) : SetArm prog w h₀ Φ k := by
  intro n m X₀ env adr ρ A s x px pt p pos kd elt gens sc ds b h hl hb hk hok ok f R
  have hall := fun n => (all_ok (w := w) (prog := prog) G hΦ n).1
  refine PyProof.Rows.Assign_Tuple (wpAny_mono (setcomp_sound hall h hb hok ok f.st R) (fun v s1 h1 => ?_) fun _ _ e => e) rfl rfl
  obtain ⟨h1, tk1, rfl, e1, D, ep, rfl, hDn, hD⟩ := h1
  rw [arm_assign_Tuple]
  refine wpAny_bind (wpAny_standAt ?_)
  unfold unpack
  refine wpAny_bind (wpAny_holding ?_)
  show wpAny _ _ (unpackItems (.ref D) 1 none) _ _ _
  unfold unpackItems
  refine wpAny_bind ?_
  unfold notIterableAtAll
  refine wpAny_bind (wpAny_specialOf (s := { s with heap := h1, toks := tk1 }) (T := "set") ⟨_, hD, rfl⟩ F.slot_set_iter.lookup (wpAny_pure ?_))
  simp only [Bool.false_eq_true, if_false]
  refine wpAny_bind (wpAny_holding (iter_set1 (s := { s with heap := h1, toks := tk1 }) hD ?_))
  have hI : (h1.push (sitObj D 0 0 ep)).get? h1.objs.size = some (sitObj D 0 0 ep) := Heap.get?_push_size _ rfl
  have hD2 : (h1.push (sitObj D 0 0 ep)).get? D = some (set1 b (!byText w) ep) := Heap.get?_push_of_some _ hD
  have hDI : D ≠ h1.objs.size := Nat.ne_of_lt (Heap.lt_size hD)
  refine wpAny_bind (wpAny_holding ?_)
  show wpAny _ _ (draw (.ref h1.objs.size) 1) _ _ _
  show wpAny _ _ (pyNext (.ref h1.objs.size) >>= _) _ _ _
  refine wpAny_bind (next_set1 (s := { s with heap := h1.push (sitObj D 0 0 ep), toks := tk1 }) hD2 hI hDI fun h3 sl hs3 hI3 hsl => ?_)
  have hD3 : h3.get? D = some (set1 b (!byText w) ep) := (hs3.2 D hDI).trans hD2
  refine wpAny_bind (wpAny_holding (wpAny_pure (wpAny_pure ?_)))
  rw [if_neg (by simp)]
  refine wpAny_bind (wpAny_holding (end_set1 (s := { s with heap := h3, toks := tk1 }) R.handled hD3 hI3 hsl fun h4 hs4 => ?_))
  simp only [Option.isSome_none, Bool.false_eq_true, if_false]
  refine wpAny_pure ?_
  have fr : ∀ o, ¬ (h1.get? h1.objs.size = some o) := fun o e => Nat.lt_irrefl _ (Heap.lt_size e)
  have e4 : Ext s.heap h4 := fun b o e => by
    have q : b ≠ h1.objs.size := fun q => fr o (q ▸ e1 _ _ e)
    exact hs4 b o q ((hs3.2 b q).trans (Heap.get?_push_of_some _ (e1 _ _ e)))
  have f4 := f.ext e4
  refine wpAny_mono (assigns_sound (prog := prog) (w := w) (A := A) (E := fun _ _ => False) ok [.Name x px] [.bool b] [.bool b] ρ (ρ.set x (.frz (.bool b))) { s with heap := h4, toks := tk1 } rfl (by simp [hk]) (.cons (.bool b) .nil) f4) (fun _ s5 h5 => ?_) fun _ _ e => e
  obtain ⟨h5, tk5, rfl, f5, st5⟩ := h5
  exact ⟨h5, tk5, adr, rfl, f5, (Stp.ext e4).trans f4.st st5, trivial⟩
end
end Mine
end

section
set_option Elab.async false
set_option maxRecDepth 100000
open PySem PySem.Calls PyProof.Rows PySem.W
namespace Mine
section
variable {n : Nat} {lt : Nat → Nat → Bool}

/-- a decision tree, its questions answered by an order -/
def Ans (n : Nat) (lt : Nat → Nat → Bool) {α : Type} : KasT α → (α → Prop) → Prop
  | .ret a, Q => Q a
  | .ask i j k, Q => i < n ∧ j < n ∧ i ≠ j ∧ Ans n lt (k (lt i j)) Q

theorem Ans.mono {α : Type} {Q Q' : α → Prop} (hq : ∀ a, Q a → Q' a) : ∀ {t : KasT α}, Ans n lt t Q → Ans n lt t Q'
  | .ret a, h => hq a h
  | .ask _ _ _, h => ⟨h.1, h.2.1, h.2.2.1, Ans.mono hq h.2.2.2⟩
theorem Ans.bind {α β : Type} {f : α → KasT β} {Q : β → Prop} : ∀ {t : KasT α}, Ans n lt t (fun a => Ans n lt (f a) Q) → Ans n lt (t.bind f) Q
  | .ret _, h => h
  | .ask _ _ _, h => ⟨h.1, h.2.1, h.2.2.1, Ans.bind h.2.2.2⟩

structure Gp (n : Nat) (p : Array Nat) : Prop where
  perm : p.Perm (List.range n).toArray

theorem Gp.size {p : Array Nat} (g : Gp n p) : p.size = n := by simpa using g.perm.size_eq
theorem Gp.lts {p : Array Nat} (g : Gp n p) {i : Nat} (h : i < n) : p.getD i 0 < n := by
  have hi : i < p.size := by rw [g.size]; exact h
  have e : p.getD i 0 = p[i] := by simp [Array.getD, hi]
  rw [e]
  have : p[i] ∈ (List.range n).toArray := g.perm.mem_iff.mp (Array.getElem_mem hi)
  simpa using this
theorem Gp.inj {p : Array Nat} (g : Gp n p) {i j : Nat} (hi : i < n) (hj : j < n) (e : p.getD i 0 = p.getD j 0) : i = j := by
  have hi' : i < p.size := by rw [g.size]; exact hi
  have hj' : j < p.size := by rw [g.size]; exact hj
  have ei : p.getD i 0 = p.toList[i] := by simp [Array.getD, hi']
  have ej : p.getD j 0 = p.toList[j] := by simp [Array.getD, hj']
  rw [ei, ej] at e
  have nd : p.toList.Nodup := (g.perm.toList.nodup_iff).mpr (by simpa using List.nodup_range)
  exact (List.getElem_inj nd).mp e
theorem Gp.ne {p : Array Nat} (g : Gp n p) {i j : Nat} (hi : i < n) (hj : j < n) (h : i ≠ j) : p.getD i 0 ≠ p.getD j 0 := fun e => h (g.inj hi hj e)

def Up (lt : Nat → Nat → Bool) (p : Array Nat) (m : Nat) : Prop := ∀ i j, i < j → j < m → lt (p.getD i 0) (p.getD j 0) = true
def Dn (lt : Nat → Nat → Bool) (p : Array Nat) (m : Nat) : Prop := ∀ i j, i < j → j < m → lt (p.getD j 0) (p.getD i 0) = true

structure Ord (n : Nat) (lt : Nat → Nat → Bool) : Prop where
  trans : ∀ i j k, lt i j = true → lt j k = true → lt i k = true
  tot : ∀ i j, i < n → j < n → i ≠ j → lt i j = !lt j i

theorem Up.snoc {p : Array Nat} {m : Nat} (O : Ord n lt) (h : Up lt p m) (hm : 1 ≤ m) (h' : lt (p.getD (m - 1) 0) (p.getD m 0) = true) : Up lt p (m + 1) := fun i j hij hj => by
  by_cases e : j = m
  · subst e
    by_cases e' : i = j - 1
    · rw [e']; exact h'
    · exact O.trans _ _ _ (h i (j - 1) (by omega) (by omega)) h'
  · exact h i j hij (by omega)
theorem Dn.snoc {p : Array Nat} {m : Nat} (O : Ord n lt) (h : Dn lt p m) (hm : 1 ≤ m) (h' : lt (p.getD m 0) (p.getD (m - 1) 0) = true) : Dn lt p (m + 1) := fun i j hij hj => by
  by_cases e : j = m
  · subst e
    by_cases e' : i = j - 1
    · rw [e']; exact h'
    · exact O.trans _ _ _ h' (h i (j - 1) (by omega) (by omega))
  · exact h i j hij (by omega)

theorem asc_ans (O : Ord n lt) {p : Array Nat} (g : Gp n p) : ∀ (f m : Nat), 1 ≤ m → m + f ≤ n → Up lt p m →
    Ans n lt (kas_asc p f m) fun r => m ≤ r ∧ r ≤ m + f ∧ Up lt p r ∧ (r < m + f → lt (p.getD r 0) (p.getD (r - 1) 0) = true)
  | 0, m, _, _, u => ⟨Nat.le_refl _, Nat.le_refl _, u, fun h => absurd h (by omega)⟩
  | f + 1, m, h1, h2, u => by
    refine ⟨g.lts (by omega), g.lts (by omega), g.ne (by omega) (by omega) (by omega), ?_⟩
    cases hc : lt (p.getD m 0) (p.getD (m - 1) 0) with
    | true =>
      dsimp only
      rw [if_pos rfl]
      exact ⟨Nat.le_refl _, by omega, u, fun _ => hc⟩
    | false =>
      dsimp only
      rw [if_neg (by simp)]
      have h' : lt (p.getD (m - 1) 0) (p.getD m 0) = true := by
        rw [O.tot _ _ (g.lts (by omega)) (g.lts (by omega)) (g.ne (by omega) (by omega) (by omega)), hc]; rfl
      exact (asc_ans O g f (m + 1) (by omega) (by omega) (u.snoc O h1 h')).mono fun r h => ⟨by omega, by omega, h.2.2.1, fun q => h.2.2.2 (by omega)⟩

theorem desc_ans (O : Ord n lt) {p : Array Nat} (g : Gp n p) : ∀ (f m : Nat), 1 ≤ m → m + f ≤ n → Dn lt p m →
    Ans n lt (kas_desc f p m 0) fun r => r.1 = p ∧ m ≤ r.2.1 ∧ r.2.1 ≤ m + f ∧ Dn lt p r.2.1 ∧ r.2.2 = 0
  | 0, m, _, _, u => ⟨rfl, Nat.le_refl _, Nat.le_refl _, u, rfl⟩
  | f + 1, m, h1, h2, u => by
    have a1 := g.lts (i := m) (by omega)
    have a2 := g.lts (i := m - 1) (by omega)
    have a3 := g.ne (i := m) (j := m - 1) (by omega) (by omega) (by omega)
    refine ⟨a1, a2, a3, ?_⟩
    cases hc : lt (p.getD m 0) (p.getD (m - 1) 0) with
    | true =>
      dsimp only
      rw [if_pos rfl, if_neg (by omega)]
      exact (desc_ans O g f (m + 1) (by omega) (by omega) (u.snoc O h1 hc)).mono fun r h => ⟨h.1, by omega, by omega, h.2.2.2⟩
    | false =>
      dsimp only
      rw [if_neg (by simp)]
      refine ⟨a2, a1, a3.symm, ?_⟩
      rw [O.tot _ _ a2 a1 a3.symm, hc]
      dsimp only
      rw [if_pos (by rfl)]
      exact ⟨rfl, Nat.le_refl _, show m ≤ m + (f + 1) by omega, u, rfl⟩

theorem getD_eq {p q : Array Nat} {i j : Nat} (h : p[i]? = q[j]?) : p.getD i 0 = q.getD j 0 := by
  rw [Array.getD_eq_getD_getElem?, Array.getD_eq_getD_getElem?, h]
theorem rev_gp {p : Array Nat} (g : Gp n p) (i j : Nat) : Gp n (kas_rev p i j) := ⟨(mirror_perm p i j _).trans g.perm⟩
theorem rev_up {p : Array Nat} (g : Gp n p) {m : Nat} (hm : m ≤ n) (u : Dn lt p m) : Up lt (kas_rev p 0 m) m := fun i j hij hj => by
  have e : ∀ k, k < m → (kas_rev p 0 m).getD k 0 = p.getD (m - 1 - k) 0 := fun k hk => getD_eq (by
    unfold kas_rev
    rw [getElem?_mirror_all (by rw [g.size]; exact hm) k]
    simp only [Nat.zero_le, true_and]
    rw [if_pos hk]
    congr 1
    omega)
  rw [e i (by omega), e j hj]
  exact u _ _ (by omega) (by omega)

theorem tail3_ans (O : Ord n lt) {p : Array Nat} (g : Gp n p) {m : Nat} (h1 : 1 ≤ m) (hm : m ≤ n) (u : Dn lt p m) : Ans n lt (kas_tail3 m n p) fun r => Gp n r.2 ∧ r.1 ≤ n ∧ 1 ≤ r.1 ∧ Up lt r.2 r.1 :=
  Ans.bind ((asc_ans O (rev_gp g 0 m) (n - m) m h1 (by omega) (rev_up g hm u)).mono fun r h => ⟨rev_gp g 0 m, by omega, by omega, h.2.2.1⟩)
theorem descPart_ans (O : Ord n lt) {p : Array Nat} (g : Gp n p) {m : Nat} (hm : m + 1 ≤ n) (u : Dn lt p (m + 1)) : Ans n lt (kas_descPart m n p) fun r => Gp n r.2 ∧ r.1 ≤ n ∧ 1 ≤ r.1 ∧ Up lt r.2 r.1 :=
  Ans.bind ((desc_ans O g (n - (m + 1)) (m + 1) (by omega) (by omega) u).mono fun r h => by
    obtain ⟨p', m', q⟩ := r
    obtain ⟨rfl, h2, h3, h4, h5⟩ := h
    dsimp only at h2 h3 h4 h5 ⊢
    subst h5
    rw [if_neg (by omega)]
    exact tail3_ans O g (by omega) (by omega) h4)
theorem range_gp : Gp n (List.toArray (List.range n)) := ⟨Array.Perm.refl _⟩
theorem count_ans (O : Ord n lt) {p : Array Nat} (g : Gp n p) (h1 : 1 ≤ n) : Ans n lt (kas_count n p) fun r => Gp n r.2 ∧ r.1 ≤ n ∧ 1 ≤ r.1 ∧ Up lt r.2 r.1 :=
  Ans.bind ((asc_ans O g (n - 1) 1 (Nat.le_refl _) (by omega) fun i j a b => by omega).mono fun m h => by
    obtain ⟨h2, h3, h4, h5⟩ := h
    by_cases e : m = n
    · subst e
      rw [if_pos (by simp)]
      exact ⟨g, Nat.le_refl _, h1, h4⟩
    · rw [if_neg (by simpa using e)]
      have h5 := h5 (by omega)
      by_cases e2 : m > 1
      · rw [if_pos e2]
        refine ⟨g.lts (by omega), g.lts (by omega), g.ne (by omega) (by omega) (by omega), ?_⟩
        rw [h4 0 (m - 1) (by omega) (by omega)]
        dsimp only
        rw [if_pos rfl]
        exact ⟨g, by omega, by omega, h4⟩
      · rw [if_neg e2]
        have em : m = 1 := by omega
        subst em
        exact descPart_ans O g (by omega) (Dn.snoc O (fun i j a b => by omega) (Nat.le_refl _) h5))

theorem place_ans (O : Ord n lt) {p : Array Nat} (g : Gp n p) {k : Nat} (hk : k < n) (u : Up lt p k) : ∀ (f l r : Nat), r - l ≤ f → l ≤ r → r ≤ k → (∀ i, i < l → lt (p.getD i 0) (p.getD k 0) = true) → (∀ i, r ≤ i → i < k → lt (p.getD k 0) (p.getD i 0) = true) →
    Ans n lt (kas_place p k f l r) fun x => x ≤ k ∧ (∀ i, i < x → lt (p.getD i 0) (p.getD k 0) = true) ∧ ∀ i, x ≤ i → i < k → lt (p.getD k 0) (p.getD i 0) = true
  | 0, l, r, h1, h2, h3, h4, h5 => ⟨by omega, h4, fun i a b => h5 i (by omega) b⟩
  | f + 1, l, r, h1, h2, h3, h4, h5 => by
    unfold kas_place
    by_cases e : l ≥ r
    · rw [if_pos e]
      exact ⟨by omega, h4, fun i a b => h5 i (by omega) b⟩
    · rw [if_neg e]
      have hm : (l + r) / 2 < k := by omega
      refine ⟨g.lts hk, g.lts (by omega), g.ne hk (by omega) (by omega), ?_⟩
      cases hc : lt (p.getD k 0) (p.getD ((l + r) / 2) 0) with
      | true =>
        dsimp only
        rw [if_pos rfl]
        refine place_ans O g hk u f l _ (by omega) (by omega) (by omega) h4 fun i a b => ?_
        by_cases e : i = (l + r) / 2
        · rw [e]; exact hc
        · exact O.trans _ _ _ hc (u _ _ (by omega) b)
      | false =>
        dsimp only
        rw [if_neg (by simp)]
        have hc' : lt (p.getD ((l + r) / 2) 0) (p.getD k 0) = true := by
          rw [O.tot _ _ (g.lts (by omega)) (g.lts hk) (g.ne (by omega) hk (by omega)), hc]; rfl
        refine place_ans O g hk u f _ r (by omega) (by omega) (by omega) (fun i a => ?_) h5
        by_cases e : i = (l + r) / 2
        · rw [e]; exact hc'
        · exact O.trans _ _ _ (u _ _ (by omega) (by omega)) hc'

theorem bub_gp {p : Array Nat} (g : Gp n p) (k d : Nat) : Gp n (bubble p k d) := ⟨(bubble_perm p k d).trans g.perm⟩
theorem bub_up {p : Array Nat} (g : Gp n p) {k x : Nat} (hk : k < n) (hx : x ≤ k) (u : Up lt p k) (h1 : ∀ i, i < x → lt (p.getD i 0) (p.getD k 0) = true) (h2 : ∀ i, x ≤ i → i < k → lt (p.getD k 0) (p.getD i 0) = true) : Up lt (bubble p k (k - x)) (k + 1) := fun i j hij hj => by
  have e : ∀ t, (bubble p k (k - x)).getD t 0 = p.getD (if t = x then k else if x < t ∧ t ≤ k then t - 1 else t) 0 := fun t => getD_eq (by
    rw [getElem?_bubble (by rw [g.size]; exact hk) _ (by omega) t]
    rw [show k - (k - x) = x by omega]
    repeat' split
    all_goals rfl)
  rw [e i, e j]
  by_cases c1 : i = x
  · rw [if_pos c1, if_neg (by omega), if_pos (by omega)]
    exact h2 _ (by omega) (by omega)
  · rw [if_neg c1]
    by_cases c2 : j = x
    · rw [if_pos c2, if_neg (by omega)]
      exact h1 _ (by omega)
    · rw [if_neg c2]
      by_cases c3 : x < i ∧ i ≤ k
      · rw [if_pos c3, if_pos (by omega)]
        exact u _ _ (by omega) (by omega)
      · rw [if_neg c3]
        by_cases c4 : x < j ∧ j ≤ k
        · rw [if_pos c4]
          exact u _ _ (by omega) (by omega)
        · rw [if_neg c4]
          exact u _ _ hij (by omega)

theorem bin_ans (O : Ord n lt) : ∀ (f : Nat) {p : Array Nat} (_ : Gp n p) (k : Nat), k + f = n → Up lt p k → Ans n lt (kas_bin f p k) fun q => Gp n q ∧ Up lt q n
  | 0, p, g, k, h, u => ⟨g, by have e : k = n := by omega
                               exact e ▸ u⟩
  | f + 1, p, g, k, h, u => Ans.bind ((place_ans O g (by omega) u k 0 k (by omega) (by omega) (Nat.le_refl _) (fun i a => by omega) fun i a b => by omega).mono fun x hx =>
      bin_ans O f (bub_gp g k _) (k + 1) (by omega) (bub_up g (by omega) hx.1 u hx.2.1 hx.2.2))

theorem sort_ans (O : Ord n lt) (h1 : 1 ≤ n) : Ans n lt (kas_sort n) fun q => Gp n q ∧ Up lt q n :=
  Ans.bind ((count_ans O range_gp h1).mono fun r h => by
    obtain ⟨g, a, b, u⟩ := h
    by_cases e : r.1 < n
    · rw [if_pos e]
      have em : max r.1 1 = r.1 := by omega
      rw [em]
      exact bin_ans O _ g _ (by omega) u
    · rw [if_neg e]
      have em : r.1 = n := by omega
      exact ⟨g, em ▸ u⟩)
end
end Mine
end

section
set_option Elab.async false
set_option maxRecDepth 100000
open PySem PySem.Calls PyProof.Rows PySem.W
namespace Mine

def ltKey (a b : Int × Int) : Bool := decide (a.1 < b.1) || (decide (a.1 = b.1) && decide (a.2 < b.2))
theorem ltKey_iff {a b : Int × Int} : ltKey a b = true ↔ a.1 < b.1 ∨ (a.1 = b.1 ∧ a.2 < b.2) := by simp [ltKey]
theorem leKey_iff {a b : D} : leKey a b = true ↔ (keyOf a).1 < (keyOf b).1 ∨ ((keyOf a).1 = (keyOf b).1 ∧ (keyOf a).2 ≤ (keyOf b).2) := by simp [leKey]

/-- rows compared by their places -/
def ltIx (ds : List D) (i j : Nat) : Bool := ltKey (keyOf (ds.getD i D.none)) (keyOf (ds.getD j D.none))

theorem keysOf_map : ∀ {ds : List D} {ks : List (Int × Int)}, keysOf ds = some ks → ds.map keyOf = ks
  | [], ks, h => by cases h; rfl
  | d :: r, ks, h => by
    unfold keysOf at h
    split at h
    · rename_i e; cases e
    · rename_i w k tl r' e
      cases e
      obtain ⟨ks', h', rfl⟩ := Option.map_eq_some_iff.mp h
      rw [List.map_cons, keysOf_map h']
      rfl
    · cases h

theorem key_ne {ds : List D} {ks : List (Int × Int)} (h : keysOf ds = some ks) (nd : (ks.map (·.2)).Nodup) {i j : Nat} (hi : i < ds.length) (hj : j < ds.length) (hn : i ≠ j) : (keyOf (ds.getD i D.none)).2 ≠ (keyOf (ds.getD j D.none)).2 := fun q => by
  have e2 : (ks.map (·.2)) = ds.map fun d => (keyOf d).2 := by rw [← keysOf_map h, List.map_map]; rfl
  rw [e2] at nd
  have hi' : i < (ds.map fun d => (keyOf d).2).length := by simpa using hi
  have hj' : j < (ds.map fun d => (keyOf d).2).length := by simpa using hj
  refine hn ((List.getElem_inj (h₀ := hi') (h₁ := hj') nd).mp ?_)
  simp only [List.getElem_map]
  rw [List.getD_eq_getElem?_getD, List.getD_eq_getElem?_getD, List.getElem?_eq_getElem hi, List.getElem?_eq_getElem hj] at q
  exact q
theorem ltIx_ord {ds : List D} {ks : List (Int × Int)} (h : keysOf ds = some ks) (nd : (ks.map (·.2)).Nodup) : Ord ds.length (ltIx ds) := by
  refine ⟨fun i j k h1 h2 => ?_, fun i j hi hj hn => ?_⟩
  · unfold ltIx at *
    rw [ltKey_iff] at *
    omega
  · have hne := key_ne h nd hi hj hn
    unfold ltIx
    apply Bool.eq_iff_iff.mpr
    rw [Bool.not_eq_true', ← Bool.not_eq_true, ltKey_iff, ltKey_iff]
    omega

theorem insD_perm (d : D) : ∀ l : List D, (insD d l).Perm (d :: l)
  | [] => .refl _
  | e :: r => by
    unfold insD
    split
    · exact .refl _
    · exact ((insD_perm d r).cons e).trans (.swap d e r)
theorem sortD_perm : ∀ l : List D, (sortD l).Perm l
  | [] => .refl _
  | d :: r => (insD_perm d (sortD r)).trans ((sortD_perm r).cons d)
theorem insD_sorted (d : D) : ∀ {l : List D}, l.Pairwise (fun a b => leKey a b = true) → (insD d l).Pairwise (fun a b => leKey a b = true)
  | [], _ => by simp [insD]
  | e :: r, h => by
    have h' := List.pairwise_cons.mp h
    unfold insD
    split
    · rename_i hde
      refine List.pairwise_cons.mpr ⟨fun x hx => ?_, h⟩
      rcases List.mem_cons.mp hx with rfl | hx
      · exact hde
      · have := h'.1 x hx
        rw [leKey_iff] at *
        omega
    · rename_i hde
      refine List.pairwise_cons.mpr ⟨fun x hx => ?_, insD_sorted d h'.2⟩
      rcases List.mem_cons.mp ((insD_perm d r).mem_iff.mp hx) with rfl | hx
      · rw [leKey_iff] at *
        omega
      · exact h'.1 x hx
theorem sortD_sorted : ∀ l : List D, (sortD l).Pairwise (fun a b => leKey a b = true)
  | [] => .nil
  | d :: r => insD_sorted d (sortD_sorted r)

theorem sorted_same : ∀ {a b : List D}, a.Perm b → a.Pairwise (fun a b => leKey a b = true) → b.Pairwise (fun a b => leKey a b = true) → (∀ x ∈ a, ∀ y ∈ a, leKey x y = true → leKey y x = true → x = y) → a = b
  | [], b, hp, _, _, _ => (List.nil_perm.mp hp).symm ▸ rfl
  | x :: a, [], hp, _, _, _ => by have := hp.length_eq; cases this
  | x :: a, y :: b, hp, ha, hb, hq => by
    have ha' := List.pairwise_cons.mp ha
    have hb' := List.pairwise_cons.mp hb
    have e : x = y := by
      by_cases e : x = y
      · exact e
      · have h1 : x ∈ b := by
          rcases List.mem_cons.mp (hp.mem_iff.mp (.head _)) with h | h
          · exact absurd h e
          · exact h
        have h2 : y ∈ a := by
          rcases List.mem_cons.mp (hp.mem_iff.mpr (.head _)) with h | h
          · exact absurd h.symm e
          · exact h
        exact hq x (.head _) y (.tail _ h2) (ha'.1 y h2) (hb'.1 x h1)
    subst e
    rw [sorted_same (List.Perm.cons_inv hp) ha'.2 hb'.2 fun u hu v hv => hq u (.tail _ hu) v (.tail _ hv)]

theorem range_map (ds : List D) : (List.range ds.length).map (fun i => ds.getD i D.none) = ds := by
  apply List.ext_getElem
  · simp
  · intro i h1 h2
    simp [h2]

theorem sort_out {ds : List D} {ks : List (Int × Int)} (h : keysOf ds = some ks) (nd : (ks.map (·.2)).Nodup) {p : Array Nat} (g : Gp ds.length p) (u : Up (ltIx ds) p ds.length) : p.toList.map (fun i => ds.getD i D.none) = sortD ds := by
  have hp : (p.toList.map fun i => ds.getD i D.none).Perm ds := by
    have := (g.perm.toList.map fun i => ds.getD i D.none)
    rw [show (List.range ds.length).toArray.toList = List.range ds.length by simp, range_map] at this
    exact this
  have e2 : (ks.map (·.2)) = ds.map fun d => (keyOf d).2 := by rw [← keysOf_map h, List.map_map]; rfl
  rw [e2] at nd
  refine sorted_same (hp.trans (sortD_perm ds).symm) ?_ (sortD_sorted ds) fun x hx y hy h1 h2 => ?_
  · rw [List.pairwise_map]
    rw [List.pairwise_iff_getElem]
    intro i j hi hj hij
    have hi' : i < p.size := by simpa using hi
    have hj' : j < p.size := by simpa using hj
    have := u i j hij (by rw [← g.size]; exact hj')
    have ei : p.getD i 0 = p.toList[i] := by simp [Array.getD, hi']
    have ej : p.getD j 0 = p.toList[j] := by simp [Array.getD, hj']
    rw [ei, ej] at this
    unfold ltIx at this
    rw [ltKey_iff] at this
    rw [leKey_iff]
    omega
  · have hx := hp.mem_iff.mp hx
    have hy := hp.mem_iff.mp hy
    rw [leKey_iff] at h1 h2
    have hk : (keyOf x).2 = (keyOf y).2 := by omega
    obtain ⟨i, hi, rfl⟩ := List.mem_iff_getElem.mp hx
    obtain ⟨j, hj, rfl⟩ := List.mem_iff_getElem.mp hy
    have hi' : i < (ds.map fun d => (keyOf d).2).length := by simpa using hi
    have hj' : j < (ds.map fun d => (keyOf d).2).length := by simpa using hj
    have : i = j := (List.getElem_inj (h₀ := hi') (h₁ := hj') nd).mp (by simpa using hk)
    subst this
    rfl
end Mine
end

section
set_option Elab.async false
set_option maxRecDepth 100000
open PySem PySem.Calls PyProof.Rows PySem.W
namespace Mine
section
variable {prog : Program} {w : World} {A : Around} {E : Value → Shared → Prop} {s : Shared} {h : Heap} {X : Addr → Prop}

/-- a row with its first two numbers -/
def RowK (h : Heap) (v : Value) (k : Int × Int) : Prop := ∃ a t1 t2 rest n, v = .ref a ∧ h.get? a = some (tobj (.int k.1 t1 :: .int k.2 t2 :: rest) n)

theorem row_lt {x y : Value} {kx ky : Int × Int} {Q : Bool → Shared → Prop} (hx : RowK s.heap x kx) (hy : RowK s.heap y ky) (hne : kx.2 ≠ ky.2) (h : Q (ltKey kx ky) s) : wpAny (model prog w) A (keyLt' (tuples' true) x y) Q E s := by
  obtain ⟨a, t1, t2, rest, n, rfl, ha⟩ := hx
  obtain ⟨b, u1, u2, rest', n', rfl, hb⟩ := hy
  refine kat_lt ha rfl hb rfl ?_
  show KatLex prog w A true _ Q ((.int kx.1 t1, .int ky.1 u1) :: (.int kx.2 t2, .int ky.2 u2) :: _) 0 s
  refine kat_cons (wpAny_eqBool_int ?_)
  by_cases e : kx.1 = ky.1
  · rw [show (kx.1 == ky.1) = true by simpa using e]
    refine kat_yes (kat_cons (wpAny_eqBool_int ?_))
    rw [show (kx.2 == ky.2) = false by simpa using hne]
    refine kat_no (kat_one _ _ (wpAny_lt_int ?_))
    show Q (decide (kx.2 < ky.2)) s
    have : ltKey kx ky = decide (kx.2 < ky.2) := by unfold ltKey; simp [e]
    rw [← this]
    exact h
  · rw [show (kx.1 == ky.1) = false by simpa using e]
    refine kat_no (oneLt_int ?_)
    have : ltKey kx ky = decide (kx.1 < ky.1) := by unfold ltKey; simp [e]
    rw [← this]
    exact h

theorem ans_wp {n : Nat} {lt : Nat → Nat → Bool} {α : Type} {Q : α → Prop} {Q' : α → Shared → Prop} {cmp : Nat → Nat → (Bool → Shared → Prop) → Shared → Prop} (hc : ∀ i j, i < n → j < n → i ≠ j → ∀ C : Bool → Shared → Prop, C (lt i j) s → cmp i j C s) (hq : ∀ a, Q a → Q' a s) :
    ∀ {t : KasT α}, Ans n lt t Q → t.kasWp cmp Q' s
  | .ret a, h => hq a h
  | .ask i j _, h => hc i j h.1 h.2.1 h.2.2.1 _ (ans_wp hc hq h.2.2.2)

theorem rep_row {v : Value} {wk : Int × Int} {tl : List D} (r : Rep h X v (.tup (.int wk.1 :: .int wk.2 :: tl))) : RowK h v wk := by
  cases r with
  | tup ha ho hr =>
    cases hr with
    | cons h1 hr =>
      cases h1
      cases hr with
      | cons h2 hr =>
        cases h2
        exact ⟨_, _, _, _, _, rfl, ho⟩

theorem repA_rows : ∀ {vs : List Value} {ds : List D} {ks : List (Int × Int)}, RepA h X vs ds → keysOf ds = some ks → ∀ i, i < ds.length → RowK h (vs.getD i .none) (keyOf (ds.getD i D.none))
  | _, [], _, _, _ => fun i hi => absurd hi (Nat.not_lt_zero _)
  | _, d :: r, ks, .cons h1 h2, h => fun i hi => by
    unfold keysOf at h
    split at h
    · rename_i e; cases e
    · rename_i a k tl r' e
      cases e
      obtain ⟨ks', h', rfl⟩ := Option.map_eq_some_iff.mp h
      cases i with
      | zero => exact rep_row (wk := (a, k)) h1
      | succ i => exact repA_rows h2 h' i (by simpa using hi)
    · cases h

theorem repA_get : ∀ {vs : List Value} {ds : List D}, RepA h X vs ds → ∀ i, i < ds.length → Rep h X (vs.getD i .none) (ds.getD i D.none)
  | _, [], _ => fun i hi => absurd hi (Nat.not_lt_zero _)
  | _, d :: r, .cons h1 h2 => fun i hi => by
    cases i with
    | zero => exact h1
    | succ i => exact repA_get h2 i (by simpa using hi)
theorem repA_pick {vs : List Value} {ds : List D} (r : RepA h X vs ds) : ∀ (l : List Nat), (∀ i ∈ l, i < ds.length) → RepA h X (l.map fun i => vs.getD i .none) (l.map fun i => ds.getD i D.none)
  | [], _ => .nil
  | i :: l, hl => .cons (repA_get r i (hl i (.head _))) (repA_pick r l fun j hj => hl j (.tail _ hj))

theorem rows_tups : ∀ {vs : List Value} {ds : List D} {ks : List (Int × Int)}, RepA h X vs ds → keysOf ds = some ks → ∃ fs, KatTups h vs fs ∧ fs.length = ds.length ∧ ∀ v ∈ fs, ∃ i t, v = .int i t
  | _, [], _, .nil, _ => ⟨[], trivial, rfl, fun _ q => nomatch q⟩
  | _, d :: r, ks, .cons h1 h2, h => by
    unfold keysOf at h
    split at h
    · rename_i e; cases e
    · rename_i a k tl r' e
      cases e
      obtain ⟨ks', h', rfl⟩ := Option.map_eq_some_iff.mp h
      obtain ⟨fs, t, hl, hi⟩ := rows_tups h2 h'
      obtain ⟨a', t1, t2, rest, n, rfl, ha⟩ := rep_row (wk := (a, k)) h1
      exact ⟨.int a t1 :: fs, KatTups.cons ha rfl rfl rfl t, by simp [hl], fun v hv => (List.mem_cons.mp hv).elim (fun e => ⟨_, _, e⟩) (hi v)⟩
    · cases h

def allBut (h : Heap) (L : Addr) : List (Addr × Obj) := (List.range h.objs.size).filterMap fun b => if b = L then none else (h.get? b).map fun o => (b, o)
theorem mem_allBut {h : Heap} {L : Addr} {p : Addr × Obj} : p ∈ allBut h L ↔ p.1 ≠ L ∧ h.get? p.1 = some p.2 := by
  unfold allBut
  rw [List.mem_filterMap]
  constructor
  · rintro ⟨b, hb, e⟩
    by_cases q : b = L
    · rw [if_pos q] at e; cases e
    · rw [if_neg q] at e
      obtain ⟨o, ho, rfl⟩ := Option.map_eq_some_iff.mp e
      exact ⟨q, ho⟩
  · rintro ⟨q, ho⟩
    exact ⟨p.1, List.mem_range.mpr (Heap.lt_size ho), by rw [if_neg q, ho]; rfl⟩
def nilHeap : Heap := {}
theorem nil_get (a : Addr) : nilHeap.get? a = none := Heap.get?_none_of_le (Nat.zero_le _)

theorem sorted_call {L l : Addr} {m : Str → Option Value} {vs : List Value} {nn : Nat} {ds : List D} {ks : List (Int × Int)} (hn : s.heap.Ns L m) (hl : s.heap.get? l = some (lobj vs nn)) (r : RepA s.heap X vs ds) (hk : keysOf ds = some ks) (nd : (ks.map (·.2)).Nodup) (h2 : 2 ≤ ds.length) (h64 : ds.length < 64) :
    wpAny (model prog w) A (call (.builtin "sorted") [.ref l]) (fun v s' => ∃ h' a us c, v = .ref a ∧ s' = { s with heap := h' } ∧ h'.Ns L m ∧ (∀ b o, b ≠ L → s.heap.get? b = some o → h'.get? b = some o) ∧ s.heap.get? a = none ∧ h'.get? a = some (lobj us c) ∧ RepA s.heap X us (sortD ds)) E s := by
  have hlen : vs.length = ds.length := r.length
  have F : Fr nilHeap L s.heap m := ⟨hn, fun b o e => (nomatch (nil_get b).symm.trans e), Nat.zero_le _⟩
  have N : News nilHeap L s.heap (allBut s.heap L) := fun p hp => ⟨(mem_allBut.mp hp).2, (mem_allBut.mp hp).1, nil_get _⟩
  refine kat_sorted (vs := vs) F N ⟨_, hl, rfl, _, rfl⟩ (by omega) (by omega) fun D' e1 h' F' N' hlt => ?_
  have keep : ∀ b o, b ≠ L → s.heap.get? b = some o → h'.get? b = some o := fun b o q e => (N' (b, o) (.tail _ (mem_allBut.mpr ⟨q, e⟩))).1
  have hD : s.heap.get? D' = none := by
    cases e : s.heap.get? D' with
    | none => rfl
    | some o => exact absurd (hlt (D', o) (mem_allBut.mpr ⟨(N' _ (.head _)).2.1, e⟩)) (Nat.lt_irrefl _)
  have kp : Keep X s.heap h' := fun b o _ ⟨vs, n, e⟩ ho => keep b o (fun q => seq_not_dict (q ▸ ho) e hn) ho
  have r' : RepA h' X vs ds := r.move kp fun _ q _ => q
  obtain ⟨fs, ht, hfl, hfi⟩ := rows_tups r' hk
  refine kat_kind (T := .type "int") (s := { s with heap := h' }) ht (by omega) (fun v hv => ?_) (by decide) ?_
  · obtain ⟨i, t, rfl⟩ := hfi v hv
    exact Looks.now
  · rw [show (Value.type "int" != Value.type "tuple") = true by decide, hlen]
    refine ans_wp (fun i j hi hj hn C hC => ?_) (fun p hp => ?_) (sort_ans (ltIx_ord hk nd) (by omega))
    · refine row_lt (repA_rows r' hk i hi) (repA_rows r' hk j hj) (key_ne hk nd hi hj hn) hC
    · refine KasFin.intro F' N' (.head fun p hp => ?_) fun h'' c F'' N'' => ⟨h'', D', _, c, rfl, rfl, F''.ns, fun b o q e => (N'' (b, o) (.tail _ (mem_allBut.mpr ⟨q, e⟩))).1, hD, (N'' _ (.head _)).1, ?_⟩
      · exact Nat.ne_of_lt (hlt p hp)
      · rw [← sort_out hk nd hp.1 hp.2]
        refine repA_pick r _ fun i hi => ?_
        have := hp.1.perm.mem_iff.mp (by simpa using hi)
        simpa using this
end
end Mine
end

section
set_option Elab.async false
set_option maxRecDepth 100000
open PySem PySem.Calls PyProof.Rows PySem.W
namespace Mine
section
variable {prog : Program} {w : World} {h₀ h h' : Heap} {Φ : Str → List D → Option D} {k : Nat} {env : Env} {X X₀ : Addr → Prop} {adr : Str → Addr} {ρ : Ro} {A : Around} {s : Shared} {E : Value → Shared → Prop}

/-- a heap where all but the frame's own dictionary stands -/
structure ButL (env : Env) (h h' : Heap) : Prop where
  ns : ∀ m, h.Ns env.locals m → h'.Ns env.locals m
  keep : ∀ b o, b ≠ env.locals → h.get? b = some o → h'.get? b = some o

theorem St.butL (st : St h₀ env X adr ρ h) (ok : EnvOk h₀ env) (bl : ButL env h h') : St h₀ env X adr ρ h' := by
  obtain ⟨m, hm, hv⟩ := st.ns
  have ns : ∀ b o vs n, h.get? b = some o → o.data = .seq vs n → b ≠ env.locals := fun b o vs n ho hd q => seq_not_dict (q ▸ ho) hd hm
  have kp : Keep X h h' := fun b o _ ⟨vs, n, e⟩ ho => bl.keep b o (ns b o vs n ho e) ho
  have val : ∀ {x o}, ValOf h X adr x (ρ.get x) o → ValOf h' X adr x (ρ.get x) o := fun {x o} v => by
    cases hx : ρ.get x with
    | unset => trivial
    | frz d => rw [hx] at v; obtain ⟨u, e, r⟩ := v; exact ⟨u, e, r.move kp fun _ p _ => p⟩
    | own ds =>
      rw [hx] at v
      obtain ⟨e, hX, vs, n, ho, r⟩ := v
      exact ⟨e, hX, vs, n, bl.keep _ _ (ns _ _ _ _ ho rfl) ho, r.move kp fun _ p _ => p⟩
  refine ⟨fun b o e => bl.keep b o (fun q => by rw [q, ok.locF] at e; cases e) (st.base b o e), fun a ha => ?_, st.out, ⟨m, bl.ns m hm, fun x hx => val (hv x hx)⟩, fun x hx => ?_⟩
  · obtain ⟨o, ho⟩ := st.dom a ha
    by_cases q : a = env.locals
    · obtain ⟨o', _, _, h1, _⟩ := bl.ns m hm
      exact ⟨o', q ▸ h1⟩
    · exact ⟨o, bl.keep a o q ho⟩
  · obtain ⟨c, o, h1, ⟨oc, h2, h3⟩, h4⟩ := st.cel x hx
    exact ⟨c, o, h1, ⟨oc, bl.keep c oc (fun q => dict_not_cell (q ▸ hm) ⟨oc, h2, h3⟩) h2, h3⟩, val h4⟩
theorem Fs.butL (f : Fs h₀ X₀ env adr ρ h) (ok : EnvOk h₀ env) (bl : ButL env h h') : Fs h₀ X₀ env adr ρ h' := ⟨f.st.butL ok bl, f.inj, f.off⟩
theorem Stp.butL (bl : ButL env h h') : Stp env adr ρ h adr ρ h' := ⟨fun b o e n1 _ _ => bl.keep b o n1 e, fun _ q => .inl q⟩

/-- what a call of sorted leaves -/
def SortP (env : Env) (X : Addr → Prop) (s : Shared) (ds : List D) (v : Value) (s' : Shared) : Prop :=
  ∃ h1 a us c tk, v = .ref a ∧ s' = { s with heap := h1, toks := tk } ∧ ButL env s.heap h1 ∧ s.heap.get? a = none ∧ h1.get? a = some (lobj us c) ∧ RepA h1 X us ds

theorem sort_arm (G : Glb h₀) : SortArm prog w h₀ k := by
  intro X₀ env adr ρ A s x y px pf py p pos ds ks hy hks hc hx hyk hdb hg ok f R
  have main : wpAny (model prog w) A (eval (.Call (.Name (S "sorted") pf) [.Name y py] [] p) env) (SortP env (Xo X₀ env adr ρ) s (sortD ds)) (fun _ _ => False) s := by
    have he : starEach [Expr.Name y py] env = (false, eval (.Name y py) env) :: starEach [] env := star_plain (fun v p q => by cases q)
    refine Call_Name rfl (glob_at f.st ok hg (G.get (v := .builtin "sorted") (by simp [btab])) ?_)
    refine callWith_builtin1 ?_ he rfl
    rw [he]
    refine spliced_cons (wpAny_mono (f.st.name ok (by rw [hyk]; rfl) hdb hy) (fun u s1 h1 => spliced_nil ?_) fun _ _ e => e)
    obtain ⟨h1, tk1, rfl, e1, r1⟩ := h1
    have f1 := f.ext e1
    cases r1 with
    | lst ha ho hr =>
      obtain ⟨m, hm, _⟩ := f1.st.ns
      refine wpAny_mono (sorted_call (s := { s with heap := h1, toks := tk1 }) hm ho hr ‹keysOf ds = some ks› hc.2.2 hc.1 hc.2.1) (fun v s2 h2 => ?_) fun _ _ e => e
      obtain ⟨h2, a, us, c, rfl, rfl, hn2, kp, hn, ha2, hr2⟩ := h2
      refine ⟨h2, a, us, c, tk1, rfl, rfl, ⟨fun m' hm' => ?_, fun b o q e => kp b o q (e1 b o e)⟩, ?_, ha2, ?_⟩
      · obtain ⟨o, es, ep, q1, q2, q3, q4⟩ := hm'
        obtain ⟨o', es', ep', q1', q2', q3', q4'⟩ := hm
        have := e1 _ _ q1
        rw [q1'] at this; cases this
        rw [q2] at q2'; cases q2'
        have em : m' = m := funext fun x => (q4 x).symm.trans (q4' x)
        exact em ▸ hn2
      · cases e : s.heap.get? a with
        | none => rfl
        | some o => rw [show h1.get? a = some o from e1 _ _ e] at hn; cases hn
      · exact hr2.move (fun b o _ ⟨vs, n, e⟩ ho => kp b o (fun q => seq_not_dict (q ▸ ho) e hm) ho) fun _ q _ => q
  refine wpAny_Assign_Name (wpAny_mono main (fun v s1 h1 => ?_) fun _ _ e => e) (swaps_plain rfl _ _ _)
  obtain ⟨h1, a, us, c, tk1, rfl, rfl, bl, hn, ha, hr⟩ := h1
  have f1 := f.butL ok bl
  refine Fs.store (s := { s with heap := h1, toks := tk1 }) f1 ok (by rw [hx]; rfl) (.lst (fun q => ?_) ha hr) fun h' tk f' st' _ => ⟨h', tk, adr, rfl, f', (Stp.butL bl).trans f1.st st', trivial⟩
  obtain ⟨o, ho⟩ := f.st.dom a q
  rw [hn] at ho; cases ho
end
end Mine
end

section
set_option Elab.async false
set_option maxRecDepth 100000
open PySem PySem.Calls PyProof.Rows
namespace Mine
section
variable {h : Heap} {X : Addr → Prop} {kf : Str → Option NameKind}

/-- the store that a call begins with -/
def roOf : List Str → List D → Ro
  | p :: ps, d :: ds => (p, .frz d) :: roOf ps ds
  | _, _ => []
/-- names with their values -/
def bindsOf : List Str → List Value → List (Str × Value)
  | p :: ps, v :: vs => (p, v) :: bindsOf ps vs
  | _, _ => []

theorem bindL_not {x : Str} : ∀ {ps : List Str} {vs : List Value} {m : Str → Option Value}, x ∉ ps → bindL kf (bindsOf ps vs) m x = m x
  | [], vs, m, _ => by cases vs <;> rfl
  | p :: ps, [], m, _ => rfl
  | p :: ps, v :: vs, m, hx => by
    unfold bindsOf bindL
    rw [bindL_not fun q => hx (.tail _ q)]
    split
    · exact if_neg fun q => hx (by rw [q]; exact .head _)
    · rfl
theorem bindC_not {x : Str} : ∀ {ps : List Str} {vs : List Value} {m : Str → Option Value}, x ∉ ps → bindC kf (bindsOf ps vs) m x = m x
  | [], vs, m, _ => by cases vs <;> rfl
  | p :: ps, [], m, _ => rfl
  | p :: ps, v :: vs, m, hx => by
    unfold bindsOf bindC
    rw [bindC_not fun q => hx (.tail _ q)]
    split
    · rfl
    · exact if_neg fun q => hx (by rw [q]; exact .head _)

theorem bindL_val {adr : Str → Addr} {x : Str} (hx : kf x = some .local) : ∀ {ps : List Str} {vs : List Value} {ds : List D} {m : Str → Option Value}, ps.Nodup → RepA h X vs ds → ValOf h X adr x ((roOf ps ds).get x) (bindL kf (bindsOf ps vs) m x)
  | [], vs, ds, m, _, _ => by cases ds <;> trivial
  | p :: ps, [], _, m, _, .nil => trivial
  | p :: ps, v :: vs, d :: ds, m, nd, .cons h1 h2 => by
    have nd' := List.nodup_cons.mp nd
    unfold bindsOf bindL roOf
    by_cases q : p = x
    · subst q
      rw [if_pos hx, bindL_not nd'.1]
      simp only [Ro.get, if_true]
      exact ⟨v, rfl, h1⟩
    · rw [show Ro.get ((p, AV.frz d) :: roOf ps ds) x = (roOf ps ds).get x by simp [Ro.get_cons, q]]
      exact bindL_val hx nd'.2 h2
theorem bindC_val {adr : Str → Addr} {x : Str} (hx : kf x = some .cell) : ∀ {ps : List Str} {vs : List Value} {ds : List D} {m : Str → Option Value}, ps.Nodup → RepA h X vs ds → ValOf h X adr x ((roOf ps ds).get x) (bindC kf (bindsOf ps vs) m x)
  | [], vs, ds, m, _, _ => by cases ds <;> trivial
  | p :: ps, [], _, m, _, .nil => trivial
  | p :: ps, v :: vs, d :: ds, m, nd, .cons h1 h2 => by
    have nd' := List.nodup_cons.mp nd
    unfold bindsOf bindC roOf
    by_cases q : p = x
    · subst q
      rw [if_neg (by rw [hx]; simp), bindC_not nd'.1]
      simp only [Ro.get, if_true]
      exact ⟨v, rfl, h1⟩
    · rw [show Ro.get ((p, AV.frz d) :: roOf ps ds) x = (roOf ps ds).get x by simp [Ro.get_cons, q]]
      exact bindC_val hx nd'.2 h2

theorem roOf_own {x : Str} {es : List D} : ∀ {ps : List Str} {ds : List D}, (roOf ps ds).get x ≠ .own es
  | [], ds => by cases ds <;> exact fun q => nomatch q
  | p :: ps, [] => fun q => nomatch q
  | p :: ps, d :: ds => by
    unfold roOf
    by_cases q : p = x
    · subst q; simp [Ro.get_cons]
    · simp only [Ro.get_cons, q, if_false]
      exact roOf_own

theorem lookup_inC {x : Str} {c : Addr} : ∀ {l : List (Str × Addr)}, l.lookup x = some c → (x, c) ∈ l
  | (y, d) :: l, hl => by
    rw [List.lookup_cons] at hl
    split at hl
    · rename_i e
      cases hl
      rw [eq_of_beq e]
      exact .head _
    · exact .tail _ (lookup_inC hl)
theorem apart_inj {x y : Str} {c : Addr} {l : List (Str × Addr)} (ap : l.Pairwise fun x y => x.2 ≠ y.2) (h1 : l.lookup x = some c) (h2 : l.lookup y = some c) : x = y := by
  have m1 := lookup_inC h1
  have m2 := lookup_inC h2
  clear h1 h2
  induction ap with
  | nil => cases m1
  | cons ha _ ih =>
    rcases List.mem_cons.mp m1 with q1 | q1
    · rcases List.mem_cons.mp m2 with q2 | q2
      · rw [← q2] at q1; cases q1; rfl
      · exact absurd (by rw [← q1]) (ha _ q2)
    · rcases List.mem_cons.mp m2 with q2 | q2
      · exact absurd (by rw [← q2]) (ha _ q1)
      · exact ih q1 q2
end
end Mine
end

section
set_option Elab.async false
set_option maxRecDepth 100000
open PySem PySem.Calls PyProof.Rows PySem.W
namespace Mine
section
variable {prog : Program} {w : World} {h₀ : Heap} {Φ : Str → List D → Option D} {ow : Str → Bool} {fz : Nat → List Str} {k m : Nat} {env : Env} {X₀ : Addr → Prop} {A : Around}

/-- a body that ends early: what follows does not matter -/
theorem exs_pre (hS : ∀ n, ExS prog w h₀ Φ ow fz k n) (post : List Stmt) : ∀ (n : Nat) (pre : List Stmt) (ρ : Ro) (r : Flw × Ro) (adr : Str → Addr) (s : Shared), exs Φ ow fz n pre ρ = some r → r.1 ≠ .next → (pre.all fun s => okS m env.scope s) = true → EnvOk h₀ env → Fs h₀ X₀ env adr ρ s.heap → Room (k + 1) A →
    wpAny (model prog w) A (execs (pre ++ post) env) (ExP h₀ X₀ env adr ρ s r) (fun _ _ => False) s
  | 0, pre, ρ, r, adr, s, h, _, _, _, _, _ => (nomatch h)
  | n + 1, [], ρ, r, adr, s, h, hr, _, _, _, _ => by
    simp only [exs] at h
    cases h
    exact absurd rfl hr
  | n + 1, st :: rest, ρ, r, adr, s, h, hr, hok, ok, f, R => by
    rw [List.all_cons, Bool.and_eq_true] at hok
    simp only [exs] at h
    cases h1 : exS Φ ow fz n st ρ with
    | none => rw [h1] at h; cases h
    | some p =>
    obtain ⟨fl, ρ1⟩ := p
    rw [h1] at h
    refine wpAny_execs_cons (wpAny_mono (hS n st ρ _ m env X₀ adr A s h1 hok.1 ok f R) (fun g s1 x => ?_) fun _ _ e => e)
    obtain ⟨h1', tk1, adr1, rfl, f1, st1, fp⟩ := x
    cases fl with
    | next =>
      cases g <;> first | (cases fp; done) | skip
      exact wpAny_mono (exs_pre hS post n rest ρ1 r adr1 _ h hr hok.2 ok f1 R) (fun _ _ x => ExP.after f1 st1 x) fun _ _ e => e
    | brk =>
      cases g <;> first | (cases fp; done) | skip
      cases h
      exact ⟨h1', tk1, adr1, rfl, f1, st1, trivial⟩
    | ret d =>
      cases g <;> first | (cases fp; done) | skip
      cases h
      exact ⟨h1', tk1, adr1, rfl, f1, st1, fp⟩
end
end Mine
end

section
set_option Elab.async false
set_option maxRecDepth 100000
open PySem PySem.Calls PyProof.Rows
namespace Mine

theorem cells_acc {x : Str} : ∀ {l : List (Str × NameKind)} {n : Nat} {acc : List (Str × Addr)}, (acc.lookup x).isSome = true → ((cellsFrom n l acc).lookup x).isSome = true
  | [], _, _, h => h
  | (y, k) :: l, n, acc, h => by
    unfold cellsFrom
    split
    · refine cells_acc ?_
      rw [List.lookup_cons]
      split
      · rfl
      · exact h
    · exact cells_acc h
theorem cells_has {x : Str} : ∀ {l : List (Str × NameKind)} {n : Nat} {acc : List (Str × Addr)}, l.lookup x = some .cell → ((cellsFrom n l acc).lookup x).isSome = true
  | (y, k) :: l, n, acc, h => by
    rw [List.lookup_cons] at h
    unfold cellsFrom
    split at h
    · rename_i e
      cases h
      rw [if_pos (by rfl)]
      refine cells_acc ?_
      rw [List.lookup_cons, e]
      rfl
    · split
      · exact cells_has h
      · exact cells_has h

section
variable {prog : Program} {w : World} {h₀ : Heap} {Φ : Str → List D → Option D} {ow : Str → Bool} {fz : Nat → List Str} {k n m : Nat} {X : Addr → Prop} {A : Around} {s : Shared} {E : Value → Shared → Prop}

/-- a call of a function whose arguments bind at once -/
theorem fun_call (G : Glb h₀) (hΦ : PhiOk prog w h₀ Φ k) {a : Addr} {o : Obj} {fd : FuncData} {body post : List Stmt} {ps : List Str} {vals : List Value} {ds : List D} {d : D} {ρ' : Ro}
    (ho : h₀.get? a = some o) (hdata : o.data = .func fd) (hlim : h₀.NoLimit) (hcd : h₀.CodeRec fd.code fd.qualname) (hbody : fd.body = .stmts (body ++ post)) (hclo : fd.closure = []) (hgl : fd.globals = mainGlobals) (hbl : fd.builtins = builtinsNs)
    (hco : fd.scope.isCoroutine = false) (hgen : fd.scope.isGenerator = false) (hk : fd.scope.kind = .function)
    (hps : ∀ x ∈ ps, vk (fd.scope.names.lookup x) = true) (hnd : ps.Nodup)
    (hrun : exs Φ ow fz n body (roOf ps ds) = some (.ret d, ρ')) (hok : (body.all fun s => okS m fd.scope s) = true)
    (e0 : Ext h₀ s.heap) (dom : ∀ a, X a → ∃ o, s.heap.get? a = some o) (out : ∀ a, X a → h₀.get? a = none) (R : Room (k + 2) A)
    (hbind : wpAny (model prog w) A.in1 (bindArgs fd ⟨vals, []⟩) (fun binds s' => ∃ h' tk us, s' = { s with heap := h', toks := tk } ∧ Ext s.heap h' ∧ binds = bindsOf ps us ∧ RepA h' X us ds) (fun _ _ => False) s) :
    wpAny (model prog w) A (call (.ref a) vals) (EvP s fun h v => Rep h X v d) E s := by
  refine wpAny_call (codeAny_call_function (body := body ++ post) (by have := R.depth; show A.depth < 1000; omega) (e0 _ _ ho) hdata hco hgen hbody (hcd.keeps e0) ?_)
  refine wpAny_mono hbind (fun binds s1 h1 => ?_) fun _ _ x => x.elim
  obtain ⟨h1, tk1, us, rfl, e1, rfl, r1⟩ := h1
  rw [hclo]
  refine wpAny_newFunctionEnv_cells (s := { s with heap := h1, toks := tk1 }) hk (fun x hx => ?_) fun env he s' ic => ?_
  · have : x.1 ∈ ps := by
      clear hrun hnd hps r1 hbind
      induction ps generalizing us with
      | nil => cases us <;> cases hx
      | cons p ps ih =>
        cases us with
        | nil => cases hx
        | cons u us =>
          rcases List.mem_cons.mp hx with rfl | hx
          · exact .head _
          · exact .tail _ (ih us hx)
    rcases vk_or (hps _ this) with q | q
    · exact .inl q
    · exact .inr ⟨q, cells_has q⟩
  · have hsc : env.scope = fd.scope := by rw [he]; rfl
    have hkd : env.kindOf = fun x => fd.scope.names.lookup x := by rw [he]; rfl
    obtain ⟨h2, tk2, rfl, e2⟩ := ic.done
    have lim2 : h2.NoLimit := hlim.keeps (fun b o q => e2 b o (e1 b o (e0 b o q)))
    refine ⟨lim2, codeAny_func ?_⟩
    have ok : EnvOk h₀ env := {
      kind := by rw [hsc]; exact hk
      glob := by rw [he]; exact hgl
      blt := by rw [he]; exact hbl
      inj := fun x y c h1 h2 => apart_inj ic.apart h1 h2
      locF := by
        cases q : h₀.get? env.locals with
        | none => rfl
        | some o' => exact absurd (Heap.lt_size (e1 _ _ (e0 _ _ q))) (Nat.not_lt.mpr ic.toInCall.fresh)
      celF := fun x c hc => by
        cases q : h₀.get? c with
        | none => rfl
        | some o' => exact absurd (Heap.lt_size (e1 _ _ (e0 _ _ q))) (Nat.not_lt.mpr (Nat.le_trans ic.toInCall.fresh (Nat.le_of_lt (ic.above x c (lookup_mem hc))))) }
    have r2 := r1.ext e2
    have f : Fs h₀ X env (fun _ => 0) (roOf ps ds) h2 := {
      st := {
        base := fun b o q => e2 b o (e1 b o (e0 b o q))
        dom := fun b hb => by
          rcases hb with hb | ⟨x, es, _, q, _⟩
          · obtain ⟨o', q⟩ := dom b hb; exact ⟨o', e2 _ _ (e1 _ _ q)⟩
          · exact absurd q roOf_own
        out := fun b hb => by
          rcases hb with hb | ⟨x, es, _, q, _⟩
          · exact out b hb
          · exact absurd q roOf_own
        ns := ⟨_, ic.toInCall.ns, fun x hx => bindL_val hx hnd (r2.anti fun b q => q.elim id fun ⟨_, _, _, q, _⟩ => absurd q roOf_own)⟩
        cel := fun x hx => by
          have hs : (env.cells.lookup x).isSome = true := by rw [he]; exact cells_has (by rw [hkd] at hx; exact hx)
          obtain ⟨c, hc⟩ := Option.isSome_iff_exists.mp hs
          exact ⟨c, _, hc, ic.cell x c hc, bindC_val hx hnd (r2.anti fun b q => q.elim id fun ⟨_, _, _, q, _⟩ => absurd q roOf_own)⟩ }
      inj := fun x y es _ _ _ q => absurd q roOf_own
      off := fun x es _ q => absurd q roOf_own }
    refine wpAny_mono (exs_pre (fun n => (st_ok (ow := ow) (fz := fz) G hΦ (set_arm G hΦ) (sort_arm G) n).1) post n body _ _ _ _ hrun (fun q => nomatch q) (by rw [hsc]; exact hok) ok f (R.deeper env)) (fun g s3 x => ?_) fun _ _ x => x.elim
    obtain ⟨h3, tk3, adr3, rfl, f3, st3, fp⟩ := x
    cases g <;> first | (cases fp; done) | skip
    rename_i v
    refine ⟨h3, tk3, rfl, fun b o' q => ?_, Rep.anti fp fun b hb => .inl hb⟩
    exact st3.keep b o' (e2 _ _ (e1 _ _ q)) (fun q' => absurd (Heap.lt_size (e1 _ _ q)) (Nat.not_lt.mpr (q' ▸ ic.toInCall.fresh))) (fun y _ hc => absurd (Heap.lt_size (e1 _ _ q)) (Nat.not_lt.mpr (Nat.le_trans ic.toInCall.fresh (Nat.le_of_lt (ic.above y b (lookup_mem hc)))))) fun ⟨x, es, _, q, _⟩ => absurd q roOf_own
end
end Mine
end

section
set_option Elab.async false
set_option maxRecDepth 100000
open PySem PySem.Calls PyProof.Rows
namespace Mine
section
variable {prog : Program} {w : World} {M : Model} {X : Addr → Prop} {A : Around} {s : Shared} {E : Value → Shared → Prop}

/-- binding one name and the rest as a tuple -/
theorem bind_rest {fd : FuncData} {a p : Str} {va : Arg} {v : Value} {vs : List Value} {d : D} {ds : List D} (h1 : fd.params.posonlyargs = []) (h2 : fd.params.args.map (·.arg) = [a]) (h3 : fd.params.kwonlyargs = []) (h4 : fd.params.vararg = some va) (h5 : fd.params.kwarg = none) (h6 : fd.defaults = .none) (hp : va.arg = p)
    (hv : Rep s.heap X v d) (hvs : RepA s.heap X vs ds) (hdom : ∀ a, X a → ∃ o, s.heap.get? a = some o) (hl : vs.length ≤ sizeLine) :
    wpAny M A (bindArgs fd ⟨v :: vs, []⟩) (fun binds s' => ∃ h' tk us, s' = { s with heap := h', toks := tk } ∧ Ext s.heap h' ∧ binds = bindsOf [a, p] us ∧ RepA h' X us [d, .tup ds]) E s := by
  unfold bindArgs
  simp only [h1, h2, h3, h4, h5, h6, List.map_nil, List.nil_append]
  rw [List.forIn_nil]
  refine wpAny_bind (wpAny_pure ?_)
  refine wpAny_bind (m := seqItems? .none) (wpAny_pure ?_)
  simp
  subst hp
  rw [map_eq_pure_bind]
  refine wpAny_bind (wpAny_newTuple (wpAny_pure ⟨_, ⟨s.toks, rfl⟩, fun b o q => Heap.get?_push_of_some _ q, [v, .ref s.heap.objs.size], rfl, ?_⟩) hl)
  have e : Ext s.heap (s.heap.push (tobj vs 0)) := fun b o q => Heap.get?_push_of_some _ q
  refine .cons (hv.ext e) (.cons (.tup (fun q => ?_) (Heap.get?_push_size _ rfl) (hvs.ext e)) .nil)
  obtain ⟨o, ho⟩ := hdom _ q
  exact Nat.lt_irrefl _ (Heap.lt_size ho)
end
end Mine
end

section
set_option Elab.async false
set_option maxRecDepth 100000
open PySem PySem.Calls PyProof.Rows
namespace Mine
section
variable {M : Model} {X : Addr → Prop} {A : Around} {s : Shared} {E : Value → Shared → Prop}

theorem bind_one {fd : FuncData} {a : Str} {vs : List Value} {d : D} (h1 : fd.params.posonlyargs = []) (h2 : fd.params.args.map (·.arg) = [a]) (h3 : fd.params.kwonlyargs = []) (h4 : fd.params.vararg = none) (h5 : fd.params.kwarg = none) (h6 : fd.defaults = .none)
    (hv : RepA s.heap X vs [d]) :
    wpAny M A (bindArgs fd ⟨vs, []⟩) (fun binds s' => ∃ h' tk us, s' = { s with heap := h', toks := tk } ∧ Ext s.heap h' ∧ binds = bindsOf [a] us ∧ RepA h' X us [d]) E s := by
  cases hv with
  | cons hv h =>
  cases h
  rename_i v
  unfold bindArgs
  simp only [h1, h2, h3, h4, h5, h6, List.map_nil, List.nil_append]
  rw [List.forIn_nil]
  refine wpAny_bind (wpAny_pure ?_)
  refine wpAny_bind (m := seqItems? .none) (wpAny_pure ?_)
  simp
  exact wpAny_pure ⟨s.heap, ⟨s.toks, rfl⟩, Ext.rfl, [v], rfl, .cons hv .nil⟩

theorem bind_two {fd : FuncData} {a b : Str} {vs : List Value} {d e : D} (h1 : fd.params.posonlyargs = []) (h2 : fd.params.args.map (·.arg) = [a, b]) (h3 : fd.params.kwonlyargs = []) (h4 : fd.params.vararg = none) (h5 : fd.params.kwarg = none) (h6 : fd.defaults = .none) (hab : (b == a) = false)
    (hv : RepA s.heap X vs [d, e]) :
    wpAny M A (bindArgs fd ⟨vs, []⟩) (fun binds s' => ∃ h' tk us, s' = { s with heap := h', toks := tk } ∧ Ext s.heap h' ∧ binds = bindsOf [a, b] us ∧ RepA h' X us [d, e]) E s := by
  cases hv with
  | cons hv h =>
  cases h with
  | cons hu h =>
  cases h
  rename_i v u
  unfold bindArgs
  simp only [h1, h2, h3, h4, h5, h6, List.map_nil, List.nil_append]
  rw [List.forIn_nil]
  refine wpAny_bind (wpAny_pure ?_)
  refine wpAny_bind (m := seqItems? .none) (wpAny_pure ?_)
  simp [List.lookup_cons, hab]
  exact wpAny_pure ⟨s.heap, ⟨s.toks, rfl⟩, Ext.rfl, [v, u], rfl, .cons hv (.cons hu .nil)⟩
end
end Mine
end

section
set_option Elab.async false
set_option maxRecDepth 100000
open PySem PySem.Calls PyProof.Rows PySem.W
namespace Mine
section
variable {K : Frag} {h₀ : Heap} {p : Program} {loose : List Str} {mg mb : Str → Option Value} {x : Str} {v : Value}

theorem globOk_global (X : K.In h₀) (T : TopRead p loose mg mb h₀) (e : nsIn K mainGlobals x = some (some v)) : GlobOk h₀ x v := by
  intro M A E Q s env hg hb ext h
  exact loadGlobal_global (env := env) (mg := mg) (by rw [hg]; exact T.g.keeps ext) (mg_of X T.g e) h
theorem globOk_builtin (X : K.In h₀) (T : TopRead p loose mg mb h₀) (e : nsIn K mainGlobals x = some none) (hv : bootBuiltins x = some v) (hn : x ≠ "__name__") : GlobOk h₀ x v := by
  intro M A E Q s env hg hb ext h
  exact loadGlobal_builtin (env := env) (mg := mg) (mb := mb) (by rw [hg]; exact T.g.keeps ext) (mg_none_of X T.g e) (by rw [hb]; exact T.b.keeps ext) ((T.builtins x hn).trans hv) h
end
end Mine
end

section
set_option Elab.async false
set_option maxRecDepth 100000
open PySem PySem.Calls PyProof.Rows PySem.W
namespace Mine
section
variable {prog : Program} {w : World} {h₀ : Heap} {Φ : Str → List D → Option D} {ow : Str → Bool} {fz : Nat → List Str} {k n m : Nat}

theorem Room.less {A : Around} {i : Nat} (R : Room (k + i) A) : Room k A := ⟨R.handled, by have := R.depth; omega, by have := R.units; omega⟩

/-- a function of the program, as it lies in a heap -/
structure FnHere (h₀ : Heap) (f : Str) (a : Addr) (fd : FuncData) (body : List Stmt) : Prop where
  glob : GlobOk h₀ f (.ref a)
  obj : ∃ o, h₀.get? a = some o ∧ o.data = .func fd
  rec_ : h₀.CodeRec fd.code fd.qualname
  body : fd.body = .stmts body
  clo : fd.closure = []
  gl : fd.globals = mainGlobals
  bl : fd.builtins = builtinsNs
  co : fd.scope.isCoroutine = false
  gen : fd.scope.isGenerator = false
  kind : fd.scope.kind = .function

theorem fnHere_K {K : Frag} (X : K.In h₀) {f : Str} {a : Addr} {oc : Value} {od : Option Addr} {fd : FuncData} {osl : Array (Option Value)} {body : List Stmt} (hg : GlobOk h₀ f (.ref a)) (ho : K.lookup a = some ⟨oc, od, .func fd, osl⟩) (hcd : codeIn K fd.code fd.qualname = true)
    (h1 : fd.body = .stmts body) (h2 : fd.closure = []) (h3 : fd.globals = mainGlobals) (h4 : fd.builtins = builtinsNs) (h5 : fd.scope.isCoroutine = false) (h6 : fd.scope.isGenerator = false) (h7 : fd.scope.kind = .function) : FnHere h₀ f a fd body :=
  ⟨hg, ⟨_, X _ _ ho, rfl⟩, codeRec_of X hcd, h1, h2, h3, h4, h5, h6, h7⟩

/-- one more function on a table -/
theorem phi_more (G : Glb h₀) (hΦ : PhiOk prog w h₀ Φ k) (hlim : h₀.NoLimit) {f : Str} {Ψ : List D → Option D} {a : Addr} {fd : FuncData} {body post : List Stmt} {ps : List Str} (F : FnHere h₀ f a fd (body ++ post))
    (hps : (ps.all fun x => vk (fd.scope.names.lookup x)) = true) (hnd : ps.Nodup) (hok : (body.all fun s => okS m fd.scope s) = true)
    (bound : List D → List D)
    (hbind : ∀ (ds : List D) (d : D), Ψ ds = some d → ∀ (A : Around) (X : Addr → Prop) (s : Shared) (vs : List Value), (∀ a, X a → ∃ o, s.heap.get? a = some o) → RepA s.heap X vs ds →
      wpAny (model prog w) A (bindArgs fd ⟨vs, []⟩) (fun binds s' => ∃ h' tk us, s' = { s with heap := h', toks := tk } ∧ Ext s.heap h' ∧ binds = bindsOf ps us ∧ RepA h' X us (bound ds)) (fun _ _ => False) s)
    (hrun : ∀ ds d, Ψ ds = some d → ∃ ρ', exs Φ ow fz n body (roOf ps (bound ds)) = some (.ret d, ρ')) :
    PhiOk prog w h₀ (fun g ds => if g = f then Ψ ds else Φ g ds) (k + 2) := by
  intro g hg
  by_cases e : g = f
  · subst e
    obtain ⟨o, ho, hd⟩ := F.obj
    refine ⟨a, o, fd, F.glob, ho, hd, fun ds d h A s X vs E e0 dom out r R => ?_⟩
    simp only [if_true] at h
    obtain ⟨ρ', hr⟩ := hrun ds d h
    exact fun_call G hΦ ho hd hlim F.rec_ F.body F.clo F.gl F.bl F.co F.gen F.kind (fun x hx => List.all_eq_true.mp hps x hx) hnd hr hok e0 dom out R (hbind ds d h _ X s vs dom r)
  · simp only [e, if_false] at hg
    obtain ⟨a', o, fd', h1, h2, h3, h4⟩ := hΦ g hg
    refine ⟨a', o, fd', h1, h2, h3, fun ds d h A s X vs E e0 dom out r R => ?_⟩
    simp only [e, if_false] at h
    exact h4 ds d h A s X vs E e0 dom out r R.less
theorem phi_none : PhiOk prog w h₀ (fun _ _ => none) k := fun _ ⟨_, _, h⟩ => nomatch h
end
end Mine
end

section
set_option Elab.async false
set_option maxRecDepth 100000
open PySem PySem.Calls PyProof.Rows PySem.W
namespace Mine
section
variable {K : Frag} {h₀ : Heap} {p : Program} {loose : List Str} {mg mb : Str → Option Value}
def fdAt (K : Frag) (a : Addr) : FuncData := match K.lookup a with
  | some ⟨_, _, .func fd, _⟩ => fd
  | _ => default
def isFnAt (K : Frag) (a : Addr) : Bool := match K.lookup a with
  | some ⟨_, _, .func _, _⟩ => true
  | _ => false
theorem fdAt_eq {a : Addr} (h : isFnAt K a = true) : ∃ oc od osl, K.lookup a = some ⟨oc, od, .func (fdAt K a), osl⟩ := by
  unfold isFnAt at h
  unfold fdAt
  split at h
  · rename_i oc od fd osl e
    exact ⟨oc, od, osl, by rw [e]⟩
  · cases h
/-- a function of the program, as the written part holds it -/
structure FnChk (K : Frag) (f : Str) (a : Addr) (ps : List Str) (body : List Stmt) : Prop where
  ns : nsIn K mainGlobals f = some (some (.ref a))
  fn : isFnAt K a = true
  code : codeIn K (fdAt K a).code (fdAt K a).qualname = true
  body : (fdAt K a).body = .stmts body
  clo : (fdAt K a).closure = []
  gl : (fdAt K a).globals = mainGlobals
  bl : (fdAt K a).builtins = builtinsNs
  co : (fdAt K a).scope.isCoroutine = false
  gen : (fdAt K a).scope.isGenerator = false
  kind : (fdAt K a).scope.kind = .function
  vars : (ps.all fun x => vk ((fdAt K a).scope.names.lookup x)) = true
theorem FnChk.here {f : Str} {a : Addr} {ps : List Str} {body : List Stmt} (c : FnChk K f a ps body) (X : K.In h₀) (T : TopRead p loose mg mb h₀) : FnHere h₀ f a (fdAt K a) body := by
  obtain ⟨oc, od, osl, e⟩ := fdAt_eq c.fn
  exact fnHere_K X (globOk_global X T c.ns) e c.code c.body c.clo c.gl c.bl c.co c.gen c.kind
/-- its parameters: no more than these -/
structure ParChk (fd : FuncData) (ps : List Str) (va : Option Str) : Prop where
  pos : fd.params.posonlyargs = []
  args : fd.params.args.map (·.arg) = ps
  kwo : fd.params.kwonlyargs = []
  var : fd.params.vararg.map (·.arg) = va
  kw : fd.params.kwarg = none
  dfl : fd.defaults = .none

theorem btab_boot : ∀ q ∈ btab, bootBuiltins (S q.1) = some q.2 ∧ S q.1 ≠ "__name__" := by
  intro q hq
  simp only [btab, List.mem_cons, List.not_mem_nil, or_false] at hq
  rcases hq with rfl | rfl | rfl | rfl | rfl | rfl | rfl | rfl | rfl | rfl | rfl | rfl | rfl | rfl | rfl <;> exact ⟨by kernel_rfl, by decide +kernel⟩
def absentIn (K : Frag) (x : Str) : Bool := match nsIn K mainGlobals x with
  | some none => true
  | _ => false
theorem glb_of (X : K.In h₀) (T : TopRead p loose mg mb h₀) (e : (btab.all fun q => absentIn K (S q.1)) = true) : Glb h₀ := by
  intro q hq
  have h := List.all_eq_true.mp e q hq
  have h' : nsIn K mainGlobals (S q.1) = some none := by
    unfold absentIn at h
    split at h
    · assumption
    · cases h
  obtain ⟨h1, h2⟩ := btab_boot q hq
  exact globOk_builtin X T h' h1 h2

theorem rep_of_well {P : Params} {h : Heap} {v : Value} {ns : List Int} (w : Well P h v (ofPy (.list (ns.map .int)))) : Rep h (fun _ => False) v (.lst (ns.map .int)) := by
  have e : ofPy (.list (ns.map .int)) = .list (ns.map .int) := by
    show WData.list (ofPys _) = _
    rw [ofPys_eq, List.map_map]; rfl
  rw [e] at w
  cases w with
  | list ho hw =>
    rename_i vs
    refine .lst (fun q => q) ho ?_
    clear ho e
    induction ns generalizing vs with
    | nil => cases hw; exact .nil
    | cons n ns ih =>
      cases hw with
      | cons h1 h2 =>
        cases h1
        exact .cons (.int _ _) (ih h2)
theorem good_true {c : ClaimW} {cl : Str → Option Addr} {mean : ExcName → Option Value} {args : List WData} {s₁ : Shared} (hg : s₁.gens = #[]) (hn : ∀ cls, c.raises args cls = false) (hp : c.post args (.bool true) args = true) {v : Value} {s' : Shared}
    (h : EvP s₁ (fun h v => Rep h (fun _ => False) v (.bool true)) v s') : GoodWG c cl mean args s₁ (.ok (.ret v)) s' := by
  obtain ⟨h', tk, rfl, e, r⟩ := h
  cases r
  exact GoodW.toG ⟨.inl ⟨_, _, [], rfl, hn, .bool true, hp, fun _ => ⟨.nil, fun _ h => nomatch h⟩⟩, e, rfl, hg⟩
end
end Mine
end

section
set_option Elab.async false
set_option maxRecDepth 10000
open PySem
namespace MineE
open Mine

theorem ofString_inj {a b : String} : (Str.ofString a = Str.ofString b) = (a = b) := by
  apply propext
  constructor
  · intro h
    rw [Str.ofString_eq_toList, Str.ofString_eq_toList] at h
    have h1 : a.toList.map Char.toNat = b.toList.map Char.toNat := by
      have := congrArg (fun s => s.cps.toList) h
      simpa using this
    have h2 : a.toList = b.toList := List.map_inj_right (fun x y hxy => Char.toNat_inj.mp hxy) |>.mp h1
    exact String.toList_inj.mp h2
  · rintro rfl; rfl

section
variable {Φ : Str → List D → Option D} {ow : Str → Bool} {fz : Nat → List Str} {n : Nat} {ρ : Ro}

theorem ro_cons {p : Str × AV} {x : Str} : Ro.get (p :: ρ) x = if p.1 = x then p.2 else ρ.get x := (rfl)
theorem ro_set {x y : Str} {a : AV} : (ρ.set x a).get y = if x = y then a else ρ.get y := by
  induction ρ with
  | nil => rfl
  | cons p r ih =>
    unfold Ro.set
    by_cases q : p.1 = x
    · rw [if_pos q, ro_cons, ro_cons]
      show (if x = y then a else _) = _
      split
      · rfl
      · rw [if_neg]; rw [q]; assumption
    · rw [if_neg q, ro_cons, ro_cons, ih]
      by_cases q' : p.1 = y
      · rw [if_pos q', if_neg]; rw [if_pos q']; 
        intro e; exact q (q'.trans e.symm)
      · rw [if_neg q', if_neg q']

def op2 (f : D → D → Option D) : Option D → Option D → Option D
  | some a, some b => f a b
  | _, _ => none

def op2b (f : D → D → Option Bool) : Option D → Option D → Option Bool
  | some a, some b => f a b
  | _, _ => none
theorem op2_some {f : D → D → Option D} {a b : D} : op2 f (some a) (some b) = f a b := (rfl)
theorem op2b_some {f : D → D → Option Bool} {a b : D} : op2b f (some a) (some b) = f a b := (rfl)
def neg1 : Option D → Option D
  | some (.int i) => some (.int (-i))
  | _ => none
theorem neg1_int {i : Int} : neg1 (some (.int i)) = some (.int (-i)) := (rfl)
def iteE (t : Option Bool) (a b : Option D) : Option D := match t with
  | some true => a
  | some false => b
  | none => none
theorem iteE_t {a b : Option D} : iteE (some true) a b = a := (rfl)
theorem iteE_f {a b : Option D} : iteE (some false) a b = b := (rfl)
def boolE (op : BoolOp) (a b : Option D) : Option D := match a with
  | some v => (match truthD v with
    | some t => if (op == .And) == t then b else some v
    | none => none)
  | none => none
def boolT (op : BoolOp) (a b : Option Bool) : Option Bool := match a with
  | some t => if (op == .And) == t then b else some t
  | none => none
theorem boolT_andt {b : Option Bool} : boolT .And (some true) b = b := (rfl)
theorem boolT_andf {b : Option Bool} : boolT .And (some false) b = some false := (rfl)
theorem boolT_ort {b : Option Bool} : boolT .Or (some true) b = some true := (rfl)
theorem boolT_orf {b : Option Bool} : boolT .Or (some false) b = b := (rfl)
theorem boolT_and {a b : Bool} : boolT .And (some a) (some b) = some (a && b) := by cases a <;> rfl
theorem boolT_or {a b : Bool} : boolT .Or (some a) (some b) = some (a || b) := by cases a <;> rfl
def truthO : Option D → Option Bool
  | some d => truthD d
  | none => none
theorem truthO_some {d : D} : truthO (some d) = truthD d := (rfl)
def cons2 : Option D → Option (List D) → Option (List D)
  | some a, some l => some (a :: l)
  | _, _ => none
theorem cons2_some {a : D} {l : List D} : cons2 (some a) (some l) = some (a :: l) := (rfl)
theorem mapO_nil {α β : Type} {f : α → Option β} : mapO f [] = some [] := (rfl)
theorem mapO_cons {f : Expr → Option D} {a : Expr} {r : List Expr} : mapO f (a :: r) = cons2 (f a) (mapO f r) := by
  rw [mapO]
  cases f a with
  | none => rfl
  | some b => cases mapO f r <;> rfl
def meth2 (name : Str) : Option D → Option D → Option D
  | some x, some y => methD name x [y]
  | _, _ => none
theorem meth2_some {name : Str} {x y : D} : meth2 name (some x) (some y) = methD name x [y] := (rfl)
def call1 (f : Str) : Option D → Option D
  | some x => callD f [x]
  | none => none
theorem call1_some {f : Str} {x : D} : call1 f (some x) = callD f [x] := (rfl)
def callΦ (Φ : Str → List D → Option D) (f : Str) : Option (List D) → Option D
  | some ds => Φ f ds
  | none => none
theorem callΦ_some {f : Str} {x : List D} : callΦ Φ f (some x) = Φ f x := (rfl)
def slc (lo hi : Option D) (hl hh : Bool) : Option D → Option D
  | some a => (match hl, hh with
    | false, true => hi.bind fun k => sliceD a none (some k)
    | true, false => lo.bind fun k => sliceD a (some k) none
    | _, _ => none)
  | none => none
theorem slc_hi {a k : D} {lo : Option D} : slc lo (some k) false true (some a) = sliceD a none (some k) := (rfl)
theorem slc_lo {a k : D} {hi : Option D} : slc (some k) hi true false (some a) = sliceD a (some k) none := (rfl)
theorem idxO_some {a k : D} : idxO (some a) (some k) = idxD a k := (rfl)

theorem ev_const {c k p} : ev Φ (n+1) (.Constant c k p) ρ = constD c := (rfl)
theorem ev_name {x p} : ev Φ (n+1) (.Name x p) ρ = (ρ.get x).strict := (rfl)
theorem ev_bin {l op r p} : ev Φ (n+1) (.BinOp l op r p) ρ = op2 (binD op) (ev Φ n l ρ) (ev Φ n r ρ) := by
  simp only [ev]; rfl
theorem ev_usub {x p} : ev Φ (n+1) (.UnaryOp .USub x p) ρ = neg1 (ev Φ n x ρ) := by simp only [ev]; rfl
theorem ev_boolop {op a b p} : ev Φ (n+1) (.BoolOp op [a, b] p) ρ = boolE op (ev Φ n a ρ) (ev Φ n b ρ) := by simp only [ev]; rfl
theorem ev_eq {l r p} : ev Φ (n+1) (.Compare l [.Eq] [r] p) ρ = (op2b (cmpD .Eq) (evB Φ n l ρ) (evB Φ n r ρ)).map .bool := by simp only [ev]; show _ = Option.map _ (op2b _ _ _); cases evB Φ n l ρ <;> cases evB Φ n r ρ <;> rfl
theorem ev_ne {l r p} : ev Φ (n+1) (.Compare l [.NotEq] [r] p) ρ = (op2b (cmpD .NotEq) (evB Φ n l ρ) (evB Φ n r ρ)).map .bool := by simp only [ev]; show _ = Option.map _ (op2b _ _ _); cases evB Φ n l ρ <;> cases evB Φ n r ρ <;> rfl
theorem ev_lt {l r p} : ev Φ (n+1) (.Compare l [.Lt] [r] p) ρ = (op2b (cmpD .Lt) (evB Φ n l ρ) (evB Φ n r ρ)).map .bool := by simp only [ev]; show _ = Option.map _ (op2b _ _ _); cases evB Φ n l ρ <;> cases evB Φ n r ρ <;> rfl
theorem ev_gt {l r p} : ev Φ (n+1) (.Compare l [.Gt] [r] p) ρ = (op2b (cmpD .Gt) (evB Φ n l ρ) (evB Φ n r ρ)).map .bool := by simp only [ev]; show _ = Option.map _ (op2b _ _ _); cases evB Φ n l ρ <;> cases evB Φ n r ρ <;> rfl
theorem ev_ifexp {t b o p} : ev Φ (n+1) (.IfExp t b o p) ρ = iteE (tst Φ n t ρ) (ev Φ n b ρ) (ev Φ n o ρ) := by simp only [ev]; rfl
theorem ev_list {es p} : ev Φ (n+1) (.List es p) ρ = (mapO (fun e => ev Φ n e ρ) es).map .lst := by simp only [ev]
theorem ev_tuple {es k p} : ev Φ (n+1) (.Tuple es k p) ρ = (mapO (fun e => ev Φ n e ρ) es).map .tup := by simp only [ev]
theorem ev_slhi {o h p q} : ev Φ (n+1) (.Subscript o (.Slice none (some h) none p) q) ρ = slc none (ev Φ n h ρ) false true (evB Φ n o ρ) := by simp only [ev]; rfl
theorem ev_sllo {o h p q} : ev Φ (n+1) (.Subscript o (.Slice (some h) none none p) q) ρ = slc (ev Φ n h ρ) none true false (evB Φ n o ρ) := by simp only [ev]; rfl
def notSlice : Expr → Bool
  | .Slice _ _ _ _ => false
  | _ => true
theorem ev_sub {o i q} (h : notSlice i = true) : ev Φ (n+1) (.Subscript o i q) ρ = idxO (evB Φ n o ρ) (ev Φ n i ρ) := by
  cases i <;> first | (simp only [ev]; done) | cases h
theorem ev_meth {o name q a p} : ev Φ (n+1) (.Call (.Attribute o name q) [a] [] p) ρ = meth2 name (evB Φ n o ρ) (ev Φ n a ρ) := by simp only [ev]; rfl
def plainF (f : Str) : Bool := !(f == S "isinstance") && !(f == S "issubclass") && !(f == S "tuple")
theorem ev_call1 {f a q p} (h : plainF f = true) (hb : builtins1.contains f = true) : ev Φ (n+1) (.Call (.Name f q) [a] [] p) ρ = call1 f (evB Φ n a ρ) := by
  simp only [plainF, Bool.and_eq_true, Bool.not_eq_true', beq_eq_false_iff_ne] at h
  simp only [ev, h.1.1, h.1.2, h.2, hb, if_true, if_false]; rfl
theorem ev_callΦ {f args q p} (h : plainF f = true) (hb : builtins1.contains f = false) : ev Φ (n+1) (.Call (.Name f q) args [] p) ρ = callΦ Φ f (mapO (fun e => ev Φ n e ρ) args) := by
  simp only [plainF, Bool.and_eq_true, Bool.not_eq_true', beq_eq_false_iff_ne] at h
  have e : ∀ x, ev Φ (n+1) (.Call (.Name f q) x [] p) ρ = if f = S "isinstance" then ev Φ (n+1) (.Call (.Name f q) x [] p) ρ else if f = S "issubclass" then ev Φ (n+1) (.Call (.Name f q) x [] p) ρ else if f = S "tuple" then ev Φ (n+1) (.Call (.Name f q) x [] p) ρ else ev Φ (n+1) (.Call (.Name f q) x [] p) ρ := fun x => by simp only [ite_self]
  simp only [ev, h.1.1, h.1.2, h.2, hb, if_false]
  show (if false = true then _ else _) = _
  rw [if_neg (by decide)]
  rfl
def lstO : Option (List D) → Option D
  | some ds => if ds.length ≤ lim then some (.lst ds) else none
  | none => none
theorem lstO_some {ds : List D} (h : ds.length ≤ lim) : lstO (some ds) = some (.lst ds) := if_pos h
theorem ev_comp {elt gens sc p} : ev Φ (n+1) (.ListComp elt gens sc p) ρ = lstO (comp Φ n elt gens (hide sc ρ)) := by simp only [ev]; rfl
theorem evB_name {x p} : evB Φ (n+1) (.Name x p) ρ = (ρ.get x).loose := (rfl)
def notName : Expr → Bool
  | .Name _ _ => false
  | _ => true
theorem evB_other {e} (h : notName e = true) : evB Φ (n+1) e ρ = ev Φ n e ρ := by
  cases e <;> first | (cases h; done) | rfl
theorem tst_not {x p} : tst Φ (n+1) (.UnaryOp .Not x p) ρ = (tst Φ n x ρ).map (!·) := by simp only [tst]
theorem tst_bool {op a b p} : tst Φ (n+1) (.BoolOp op [a, b] p) ρ = boolT op (tst Φ n a ρ) (tst Φ n b ρ) := by simp only [tst]; rfl
theorem tst_eq {l r p} : tst Φ (n+1) (.Compare l [.Eq] [r] p) ρ = op2b (cmpD .Eq) (evB Φ n l ρ) (evB Φ n r ρ) := by simp only [tst]; rfl
theorem tst_ne {l r p} : tst Φ (n+1) (.Compare l [.NotEq] [r] p) ρ = op2b (cmpD .NotEq) (evB Φ n l ρ) (evB Φ n r ρ) := by simp only [tst]; rfl
theorem tst_lt {l r p} : tst Φ (n+1) (.Compare l [.Lt] [r] p) ρ = op2b (cmpD .Lt) (evB Φ n l ρ) (evB Φ n r ρ) := by simp only [tst]; rfl
theorem tst_gt {l r p} : tst Φ (n+1) (.Compare l [.Gt] [r] p) ρ = op2b (cmpD .Gt) (evB Φ n l ρ) (evB Φ n r ρ) := by simp only [tst]; rfl
theorem tst_is {l r p} : tst Φ (n+1) (.Compare l [.Is] [r] p) ρ = op2b (cmpD .Is) (evB Φ n l ρ) (evB Φ n r ρ) := by simp only [tst]; rfl
theorem tst_in {l r p} : tst Φ (n+1) (.Compare l [.In] [r] p) ρ = op2b (cmpD .In) (ev Φ n l ρ) (evB Φ n r ρ) := by simp only [tst]; rfl
theorem tst_notin {l r p} : tst Φ (n+1) (.Compare l [.NotIn] [r] p) ρ = op2b (cmpD .NotIn) (ev Φ n l ρ) (evB Φ n r ρ) := by simp only [tst]; rfl
theorem tst_name {x p} : tst Φ (n+1) (.Name x p) ρ = truthO (ev Φ n (.Name x p) ρ) := by simp only [tst]; rfl
theorem tst_call {f args kw p} : tst Φ (n+1) (.Call f args kw p) ρ = truthO (ev Φ n (.Call f args kw p) ρ) := by simp only [tst]; rfl
end
end MineE
end

section
set_option Elab.async false
set_option maxRecDepth 10000
open PySem
namespace MineE
open Mine
section
variable {Φ : Str → List D → Option D} {ow : Str → Bool} {fz : Nat → List Str} {n : Nat} {ρ : Ro}

def rng (a b : Option D) : Option (List D) := match a, b with
  | some (.int j), some (.int k) => if decide (0 ≤ j) && decide (j ≤ 4096) && decide (0 ≤ k) && decide (k ≤ 4096) then some (rangeD j k) else none
  | _, _ => none
theorem rng_some {j k : Int} (h1 : 0 ≤ j) (h2 : j ≤ 4096) (h3 : 0 ≤ k) (h4 : k ≤ 4096) : rng (some (.int j)) (some (.int k)) = some (rangeD j k) := by simp [rng, h1, h2, h3, h4]
theorem src_range1 {q a p} : src Φ (n+1) (.Call (.Name (Str.ofString "range") q) [a] [] p) ρ = rng (some (.int 0)) (ev Φ n a ρ) := by
  simp only [src]
  rw [if_pos (show Str.ofString "range" = S "range" from rfl)]
  cases ev Φ n a ρ with
  | none => rfl
  | some d => cases d <;> first | rfl | (simp only [rng]; simp)
theorem src_range2 {q a b p} : src Φ (n+1) (.Call (.Name (Str.ofString "range") q) [a, b] [] p) ρ = rng (ev Φ n a ρ) (ev Φ n b ρ) := by
  simp only [src]
  rw [if_pos (show Str.ofString "range" = S "range" from rfl)]
  rfl
theorem src_name {x p} : src Φ (n+1) (.Name x p) ρ = pickOS (evB Φ n (.Name x p) ρ) := by simp only [src]
theorem src_sub {o i p} : src Φ (n+1) (.Subscript o i p) ρ = pickOS (evB Φ n (.Subscript o i p) ρ) := by simp only [src]
theorem src_meth {o m q a p} : src Φ (n+1) (.Call (.Attribute o m q) [a] [] p) ρ = pickOS (evB Φ n (.Call (.Attribute o m q) [a] [] p) ρ) := by simp only [src]

def hideL : List (Str × NameKind) → Str → Bool
  | [], _ => false
  | (x, .local) :: r, y => if x = y then true else hideL r y
  | (_, _) :: r, y => hideL r y
theorem hide_get {sc : Scope} {y : Str} : (hide sc ρ).get y = if hideL sc.names y = true then .unset else ρ.get y := by
  unfold hide
  induction sc.names with
  | nil => rfl
  | cons p r ih =>
    obtain ⟨x, k⟩ := p
    cases k
    case «local» =>
      rw [List.filter_cons, if_pos (by rfl), List.map_cons, List.cons_append, ro_cons, ih]
      simp only [hideL]
      split <;> rfl
    all_goals (rw [List.filter_cons, if_neg (fun q => nomatch q), ih]; rfl)
theorem hideL_nil {y} : hideL [] y = false := (rfl)
theorem hideL_local {x y r} : hideL ((x, .local) :: r) y = if x = y then true else hideL r y := (rfl)
theorem hideL_free {x y r} : hideL ((x, .free) :: r) y = hideL r y := (rfl)
theorem hideL_cell {x y r} : hideL ((x, .cell) :: r) y = hideL r y := (rfl)
theorem hideL_glob {x y r} : hideL ((x, .globalImplicit) :: r) y = hideL r y := (rfl)
theorem none_unset : AV.none .unset = true := (rfl)
theorem comp_nil {elt} : comp Φ (n+1) elt [] ρ = (ev Φ n elt ρ).map ([·]) := by simp only [comp]
theorem comp_cons {elt x p it ifs rest} (hx : (ρ.get x).none = true) {ds : List D} (hs : src Φ n it ρ = some ds) : comp Φ (n+1) elt (⟨.Name x p, it, ifs, 0⟩ :: rest) ρ = turns (fun ρ' => oneTest (fun c => tst Φ n c ρ') ifs) (fun ρ' => comp Φ n elt rest ρ') x ρ ds := by
  simp only [comp, hx, hs]
  rfl
theorem turns_ok {t : Ro → Option Bool} {r : Ro → Option (List D)} {x : Str} (g : D → List D) : ∀ {ds : List D}, (∀ d ∈ ds, (t ((x, .frz d) :: ρ) = some false ∧ g d = []) ∨ (t ((x, .frz d) :: ρ) = some true ∧ r ((x, .frz d) :: ρ) = some (g d))) → turns t r x ρ ds = some (ds.flatMap g)
  | [], _ => rfl
  | d :: ds, h => by
    have ih := turns_ok g (ds := ds) fun e he => h e (.tail _ he)
    unfold turns
    rcases h d (.head _) with ⟨h1, h2⟩ | ⟨h1, h2⟩
    · rw [h1, List.flatMap_cons, h2]; exact ih
    · rw [h1, h2, ih]; rfl
/-- a comprehension over one generator -/
theorem comp1 {elt x p it ifs} (f : D → Bool) (g : D → D) {ds : List D} (hx : (ρ.get x).none = true) (hs : src Φ (n+1) it ρ = some ds)
    (h : ∀ d ∈ ds, oneTest (fun c => tst Φ (n+1) c ((x, .frz d) :: ρ)) ifs = some (f d) ∧ (f d = true → ev Φ n elt ((x, .frz d) :: ρ) = some (g d))) :
    comp Φ (n+2) elt [⟨.Name x p, it, ifs, 0⟩] ρ = some ((ds.filter f).map g) := by
  rw [comp_cons hx hs, turns_ok (fun d => if f d then [g d] else [])]
  · have e : ds.flatMap (fun d => if f d then [g d] else []) = (ds.filter f).map g := by
      clear hs h
      induction ds with
      | nil => rfl
      | cons d ds ih =>
        rw [List.flatMap_cons, ih, List.filter_cons]
        cases f d <;> rfl
    rw [e]
  · intro d hd
    obtain ⟨h1, h2⟩ := h d hd
    cases hf : f d with
    | false => exact .inl ⟨by rw [h1, hf], rfl⟩
    | true =>
      refine .inr ⟨by rw [h1, hf], ?_⟩
      rw [comp_nil, h2 hf]
      rfl
theorem ev_comp1 {elt x p it ifs sc q} (ρ' : Ro) (f : D → Bool) (g : D → D) {ds : List D} (hh : hide sc ρ = ρ') (hx : (ρ'.get x).none = true) (hs : src Φ (n+1) it ρ' = some ds)
    (hl : ds.length ≤ lim)
    (h : ∀ d ∈ ds, oneTest (fun c => tst Φ (n+1) c ((x, .frz d) :: ρ')) ifs = some (f d) ∧ (f d = true → ev Φ n elt ((x, .frz d) :: ρ') = some (g d))) :
    ev Φ (n+3) (.ListComp elt [⟨.Name x p, it, ifs, 0⟩] sc q) ρ = some (.lst ((ds.filter f).map g)) := by
  rw [ev_comp, hh, comp1 f g hx hs h]
  refine lstO_some ?_
  rw [List.length_map]
  exact Nat.le_trans (List.length_filter_le _ _) hl
/-- the same without a test -/
theorem ev_compM {elt x p it sc q} (ρ' : Ro) (g : D → D) {ds : List D} (hh : hide sc ρ = ρ') (hx : (ρ'.get x).none = true) (hs : src Φ (n+1) it ρ' = some ds)
    (hl : ds.length ≤ lim)
    (h : ∀ d ∈ ds, ev Φ n elt ((x, .frz d) :: ρ') = some (g d)) :
    ev Φ (n+3) (.ListComp elt [⟨.Name x p, it, [], 0⟩] sc q) ρ = some (.lst (ds.map g)) := by
  rw [ev_comp1 ρ' (fun _ => true) g hh hx hs hl fun d hd => ⟨rfl, fun _ => h d hd⟩]
  rw [List.filter_eq_self.mpr fun _ _ => rfl]

-- statements
theorem exs_nil : exs Φ ow fz (n+1) [] ρ = some (.next, ρ) := by simp only [exs]
theorem exs_step {s r ρ1 R} (h1 : exS Φ ow fz n s ρ = some (.next, ρ1)) (h2 : exs Φ ow fz n r ρ1 = R) : exs Φ ow fz (n+1) (s :: r) ρ = R := by
  simp only [exs, h1, h2]
theorem exs_ret {s r ρ1 d} (h1 : exS Φ ow fz n s ρ = some (.ret d, ρ1)) : exs Φ ow fz (n+1) (s :: r) ρ = some (.ret d, ρ1) := by
  simp only [exs, h1]
theorem exs_brk {s r ρ1} (h1 : exS Φ ow fz n s ρ = some (.brk, ρ1)) : exs Φ ow fz (n+1) (s :: r) ρ = some (.brk, ρ1) := by
  simp only [exs, h1]

theorem exS_assign {x q e p d} (hz : fz p.line = []) (hs : sortedArg e = none) (he : ev Φ n e ρ = some d) : exS Φ ow fz (n+1) (.Assign [.Name x q] e p) ρ = some (.next, storeNew ow x e d ρ) := by
  simp only [exS, Stmt.pos, hz, hs, he, List.foldl]
theorem exS_sorted {x y q e p ds ks} (hz : fz p.line = []) (hs : sortedArg e = some y) (hy : ρ.get y = .frz (.lst ds)) (hk : keysOf ds = some ks) (h1 : 2 ≤ ds.length) (h2 : ds.length < 64) (h3 : (ks.map (·.2)).Nodup) : exS Φ ow fz (n+1) (.Assign [.Name x q] e p) ρ = some (.next, ρ.set x (.frz (.lst (sortD ds)))) := by
  simp only [exS, Stmt.pos, hz, hs, hy, AV.strict, hk, List.foldl]
  rw [if_pos ⟨h1, h2, h3⟩]
theorem exS_tuple {ts k q e p ds ρ1} (hz : fz p.line = []) (hn : ∀ a b c d, e ≠ .SetComp a b c d) (he : ev Φ n e ρ = some (.tup ds)) (hl : 2 ≤ ds.length) (hs : storeAll ts ds ρ = some ρ1) : exS Φ ow fz (n+1) (.Assign [.Tuple ts k q] e p) ρ = some (.next, ρ1) := by
  cases e <;> first | exact absurd rfl (hn _ _ _ _) | (simp only [exS, Stmt.pos, hz, he, List.foldl, hl, hs, if_true]; rfl)
theorem exS_setcomp {x q k q' elt gens sc p p' ds b} (hz : fz p'.line = []) (hc : comp Φ n elt gens (hide sc ρ) = some ds) (hl : ds.length ≤ 16) (hb : allBool ds = some b) : exS Φ ow fz (n+1) (.Assign [.Tuple [.Name x q] k q'] (.SetComp elt gens sc p) p') ρ = some (.next, ρ.set x (.frz (.bool b))) := by
  simp only [exS, Stmt.pos, hz, hc, hl, hb, if_true, List.foldl]; rfl
theorem exS_setitem {x q i q' e p v k ds} (hz : fz p.line = []) (he : ev Φ n e ρ = some v) (hi : ev Φ n i ρ = some (.int k)) (hx : ρ.get x = .own ds) (h0 : 0 ≤ k) (h1 : k.toNat < ds.length) (h2 : ds.length ≤ lim) : exS Φ ow fz (n+1) (.Assign [.Subscript (.Name x q) i q'] e p) ρ = some (.next, ρ.set x (.own (ds.set k.toNat v))) := by
  simp only [exS, Stmt.pos, hz, he, hi, hx, List.foldl]; rw [if_pos ⟨h0, h1, h2⟩]
theorem exS_aug {x q op e p a b d} (hz : fz p.line = []) (hx : ρ.get x = .frz a) (he : ev Φ n e ρ = some b) (hd : augD op a b = some d) : exS Φ ow fz (n+1) (.AugAssign (.Name x q) op e p) ρ = some (.next, ρ.set x (.frz d)) := by
  simp only [exS, Stmt.pos, hz, hx, he, AV.strict, hd, List.foldl]; rfl
theorem exS_augitem {x q i q' op e p k b a d ds} (hz : fz p.line = []) (hi : ev Φ n i ρ = some (.int k)) (he : ev Φ n e ρ = some b) (hx : ρ.get x = .own ds) (h0 : 0 ≤ k) (h2 : ds.length ≤ lim) (ha : ds[k.toNat]? = some (.int a)) (hd : augD op (.int a) b = some d) : exS Φ ow fz (n+1) (.AugAssign (.Subscript (.Name x q) i q') op e p) ρ = some (.next, ρ.set x (.own (ds.set k.toNat d))) := by
  simp only [exS, Stmt.pos, hz, he, hi, hx, List.foldl]; rw [if_pos ⟨h0, h2⟩]; simp only [ha, hd]; rfl
theorem exS_append {x q q' e p p' v ds} (hz : fz p'.line = []) (he : ev Φ n e ρ = some v) (hx : ρ.get x = .own ds) (h2 : ds.length ≤ lim) : exS Φ ow fz (n+1) (.Expr (.Call (.Attribute (.Name x q) (Str.ofString "append") q') [e] [] p) p') ρ = some (.next, ρ.set x (.own (ds ++ [v]))) := by
  simp only [exS, Stmt.pos, hz, he, hx, List.foldl]
  rw [if_pos (show Str.ofString "append" = S "append" from rfl), if_pos h2]
theorem exS_if_t {t b o p R} (hz : fz p.line = []) (ht : tst Φ n t ρ = some true) (h : exs Φ ow fz n b ρ = R) : exS Φ ow fz (n+1) (.If t b o p) ρ = R := by
  simp only [exS, Stmt.pos, hz, ht, List.foldl, h]
theorem exS_if_f {t b o p R} (hz : fz p.line = []) (ht : tst Φ n t ρ = some false) (h : exs Φ ow fz n o ρ = R) : exS Φ ow fz (n+1) (.If t b o p) ρ = R := by
  simp only [exS, Stmt.pos, hz, ht, List.foldl, h]
theorem exS_for {x q it body p ds R} (hz : fz p.line = []) (ho : ownName it ρ = false) (hs : src Φ n it ρ = some ds) (h : forT (fun d r => some (r.set x (.frz d))) (fun r => exs Φ ow fz n body r) ds ρ = R) : exS Φ ow fz (n+1) (.For (.Name x q) it body [] p) ρ = R := by
  simp only [exS, Stmt.pos, hz, List.foldl, ho, hs, h]; rfl
theorem exS_forE {i q c q' k q'' q3 e q4 body p ds R} (hz : fz p.line = []) (he : ev Φ n e ρ = some (.lst ds)) (hl : ds.length ≤ lim) (h : forT (fun d r => match d with
            | .tup [a, b] => some ((r.set i (.frz a)).set c (.frz b))
            | _ => none) (fun r => exs Φ ow fz n body r) (ds.zipIdx.map fun p => .tup [.int p.2, p.1]) ρ = R) : exS Φ ow fz (n+1) (.For (.Tuple [.Name i q, .Name c q'] k q'') (.Call (.Name (Str.ofString "enumerate") q3) [e] [] q4) body [] p) ρ = R := by
  simp only [exS, Stmt.pos, hz, List.foldl]
  rw [if_pos (show Str.ofString "enumerate" = S "enumerate" from rfl)]
  simp only [he, hl, if_true]
  exact h
theorem exS_while {t body p R} (hz : fz p.line = []) (h : whileT (fun r => tst Φ n t r) (fun r => exs Φ ow fz n body r) n ρ = R) : exS Φ ow fz (n+1) (.While t body [] p) ρ = R := by
  simp only [exS, Stmt.pos, hz, List.foldl, h]
theorem exS_ret {e p d} (hz : fz p.line = []) (he : ev Φ n e ρ = some d) : exS Φ ow fz (n+1) (.Return (some e) p) ρ = some (.ret d, ρ) := by
  simp only [exS, Stmt.pos, hz, List.foldl, he]; rfl
theorem exS_retF {e p d x ds} (hz : fz p.line = [x]) (hx : ρ.get x = .own ds) (he : ev Φ n e (ρ.set x (.frz (.lst ds))) = some d) : exS Φ ow fz (n+1) (.Return (some e) p) ρ = some (.ret d, ρ.set x (.frz (.lst ds))) := by
  simp only [exS, Stmt.pos, hz, List.foldl, freezeX, hx, he]; rfl
theorem exS_break {p} (hz : fz p.line = []) : exS Φ ow fz (n+1) (.Break p) ρ = some (.brk, ρ) := by
  simp only [exS, Stmt.pos, hz, List.foldl]
theorem exS_try {body h p R} (hz : fz p.line = []) (hb : exs Φ ow fz n body ρ = R) : exS Φ ow fz (n+1) (.Try body h [] [] p) ρ = R := by
  simp only [exS, Stmt.pos, hz, List.foldl, hb]

/-- a for without an early end -/
theorem forT_inv {asg : D → Ro → Option Ro} {body : Ro → Option (Flw × Ro)} (P : Nat → Ro → Prop) : ∀ {ds : List D} {k : Nat} {ρ : Ro}, P k ρ → (∀ j d ρ, ds[j]? = some d → P (k + j) ρ → ∃ ρ1 ρ2, asg d ρ = some ρ1 ∧ body ρ1 = some (.next, ρ2) ∧ P (k + j + 1) ρ2) → ∃ ρ', forT asg body ds ρ = some (.next, ρ') ∧ P (k + ds.length) ρ'
  | [], k, ρ, h0, _ => ⟨ρ, rfl, h0⟩
  | d :: ds, k, ρ, h0, hs => by
    obtain ⟨ρ1, ρ2, h1, h2, h3⟩ := hs 0 d ρ rfl h0
    obtain ⟨ρ', h4, h5⟩ := forT_inv P (ds := ds) (k := k + 1) h3 fun j e σ he hp => by
      have := hs (j + 1) e σ he (by rw [show k + (j + 1) = k + 1 + j by omega]; exact hp)
      rwa [show k + (j + 1) + 1 = k + 1 + j + 1 by omega] at this
    refine ⟨ρ', ?_, by rw [List.length_cons, show k + (ds.length + 1) = k + 1 + ds.length by omega]; exact h5⟩
    unfold forT
    rw [h1]; dsimp only
    rw [h2]; exact h4
/-- the same, from zero -/
theorem forT_inv0 {asg : D → Ro → Option Ro} {body : Ro → Option (Flw × Ro)} (P : Nat → Ro → Prop) {ds : List D} {ρ : Ro} (h0 : P 0 ρ) (hs : ∀ j d ρ, ds[j]? = some d → P j ρ → ∃ ρ1 ρ2, asg d ρ = some ρ1 ∧ body ρ1 = some (.next, ρ2) ∧ P (j + 1) ρ2) : ∃ ρ', forT asg body ds ρ = some (.next, ρ') ∧ P ds.length ρ' := by
  obtain ⟨ρ', h1, h2⟩ := forT_inv P (k := 0) h0 (fun j d ρ hd hp => by rw [Nat.zero_add] at hp ⊢; exact hs j d ρ hd hp)
  exact ⟨ρ', h1, by rwa [Nat.zero_add] at h2⟩
/-- a while, with a measure below the fuel -/
theorem whileT_inv {test : Ro → Option Bool} {body : Ro → Option (Flw × Ro)} (P : Nat → Ro → Prop) : ∀ {m k : Nat} {ρ : Ro}, m < k → P m ρ → (∀ m ρ, P m ρ → (test ρ = some false) ∨ (test ρ = some true ∧ ∃ m' ρ2, m' < m ∧ body ρ = some (.next, ρ2) ∧ P m' ρ2)) → ∃ m' ρ', whileT test body k ρ = some (.next, ρ') ∧ P m' ρ' ∧ test ρ' = some false
  | m, 0, ρ, h, _, _ => absurd h (Nat.not_lt_zero _)
  | m, k + 1, ρ, h, hp, hs => by
    rcases hs m ρ hp with q | ⟨q, m', ρ2, hm, hb, hp'⟩
    · exact ⟨m, ρ, by unfold whileT; rw [q], hp, q⟩
    · obtain ⟨m'', ρ', h1, h2, h3⟩ := whileT_inv P (m := m') (k := k) (ρ := ρ2) (by omega) hp' hs
      refine ⟨m'', ρ', ?_, h2, h3⟩
      unfold whileT
      rw [q]; dsimp only
      rw [hb]; exact h1

/-- a run that ends so -/
def Post (Q : Flw → Ro → Prop) (x : Option (Flw × Ro)) : Prop := ∃ f ρ, x = some (f, ρ) ∧ Q f ρ
def Nxt (R : Ro → Prop) : Flw → Ro → Prop := fun f ρ => f = .next ∧ R ρ
theorem post_nil {Q : Flw → Ro → Prop} (h : Q .next ρ) : Post Q (exs Φ ow fz (n+1) [] ρ) := ⟨_, _, exs_nil, h⟩
theorem post_step {Q : Flw → Ro → Prop} {s r ρ1} (h1 : exS Φ ow fz n s ρ = some (.next, ρ1)) (h2 : Post Q (exs Φ ow fz n r ρ1)) : Post Q (exs Φ ow fz (n+1) (s :: r) ρ) := by
  rw [exs_step h1 rfl]; exact h2
theorem post_ret {Q : Flw → Ro → Prop} {s r ρ1 d} (h1 : exS Φ ow fz n s ρ = some (.ret d, ρ1)) (h2 : Q (.ret d) ρ1) : Post Q (exs Φ ow fz (n+1) (s :: r) ρ) := ⟨_, _, exs_ret h1, h2⟩
theorem post_seq {Q : Flw → Ro → Prop} (R : Ro → Prop) {s r} (h : Post (Nxt R) (exS Φ ow fz n s ρ)) (h2 : ∀ ρ1, R ρ1 → Post Q (exs Φ ow fz n r ρ1)) : Post Q (exs Φ ow fz (n+1) (s :: r) ρ) := by
  obtain ⟨f, ρ1, h1, rfl, hr⟩ := h
  exact post_step h1 (h2 _ hr)
/-- what ends early, or goes on -/
theorem post_cons {Q : Flw → Ro → Prop} {s r} (h : Post (fun f ρ1 => match f with
    | .next => Post Q (exs Φ ow fz n r ρ1)
    | f => Q f ρ1) (exS Φ ow fz n s ρ)) : Post Q (exs Φ ow fz (n+1) (s :: r) ρ) := by
  obtain ⟨f, ρ1, h1, hr⟩ := h
  cases f with
  | next => exact post_step h1 hr
  | brk => exact ⟨_, _, exs_brk h1, hr⟩
  | ret d => exact ⟨_, _, exs_ret h1, hr⟩
theorem post_mono {Q Q' : Flw → Ro → Prop} {x} (h : Post Q x) (hq : ∀ f ρ, Q f ρ → Q' f ρ) : Post Q' x := by
  obtain ⟨f, ρ, h1, h2⟩ := h
  exact ⟨f, ρ, h1, hq _ _ h2⟩
theorem post_if {Q : Flw → Ro → Prop} {t b o p} {c : Bool} (hz : fz p.line = []) (ht : tst Φ n t ρ = some c) (h1 : c = true → Post Q (exs Φ ow fz n b ρ)) (h2 : c = false → Post Q (exs Φ ow fz n o ρ)) : Post Q (exS Φ ow fz (n+1) (.If t b o p) ρ) := by
  cases c with
  | true => rw [exS_if_t hz ht rfl]; exact h1 rfl
  | false => rw [exS_if_f hz ht rfl]; exact h2 rfl
theorem post_for {x q it body p} (P : Nat → Ro → Prop) (N : Nat) {ds : List D} (hN : ds.length = N) (hz : fz p.line = []) (ho : ownName it ρ = false) (hs : src Φ n it ρ = some ds) (h0 : P 0 ρ)
    (hb : ∀ j d ρ, ds[j]? = some d → P j ρ → Post (Nxt (P (j+1))) (exs Φ ow fz n body (ρ.set x (.frz d)))) : Post (Nxt (P N)) (exS Φ ow fz (n+1) (.For (.Name x q) it body [] p) ρ) := by
  obtain ⟨ρ', h1, h2⟩ := forT_inv0 (asg := fun d r => some (r.set x (.frz d))) (body := fun r => exs Φ ow fz n body r) P h0 fun j d ρ hd hp => by
    obtain ⟨f, ρ2, e1, rfl, e2⟩ := hb j d ρ hd hp
    exact ⟨_, ρ2, rfl, e1, e2⟩
  exact ⟨_, ρ', exS_for hz ho hs h1, rfl, hN ▸ h2⟩
/-- a for that may return -/
theorem forT_may {asg : D → Ro → Option Ro} {body : Ro → Option (Flw × Ro)} {Q : D → Prop} (P : Nat → Ro → Prop) : ∀ {ds : List D} {k : Nat} {ρ : Ro}, P k ρ → (∀ j d ρ, ds[j]? = some d → P (k + j) ρ → ∃ ρ1, asg d ρ = some ρ1 ∧ Post (fun f ρ2 => (f = .next ∧ P (k + j + 1) ρ2) ∨ (∃ v, f = .ret v ∧ Q v)) (body ρ1)) → Post (fun f ρ' => (f = .next ∧ P (k + ds.length) ρ') ∨ (∃ v, f = .ret v ∧ Q v)) (forT asg body ds ρ)
  | [], k, ρ, h0, _ => ⟨_, ρ, rfl, .inl ⟨rfl, h0⟩⟩
  | d :: ds, k, ρ, h0, hs => by
    obtain ⟨ρ1, h1, f, ρ2, h2, h3⟩ := hs 0 d ρ rfl h0
    rcases h3 with ⟨rfl, h3⟩ | ⟨v, rfl, hv⟩
    · have := forT_may (asg := asg) (body := body) (Q := Q) P (ds := ds) (k := k + 1) h3 fun j e σ he hp => by
        have := hs (j + 1) e σ he (by rw [show k + (j + 1) = k + 1 + j by omega]; exact hp)
        rwa [show k + (j + 1) + 1 = k + 1 + j + 1 by omega] at this
      unfold forT
      rw [h1]; dsimp only
      rw [h2]; dsimp only
      rw [List.length_cons, show k + (ds.length + 1) = k + 1 + ds.length by omega]; exact this
    · unfold forT
      rw [h1]; dsimp only
      rw [h2]
      exact ⟨_, _, rfl, .inr ⟨v, rfl, hv⟩⟩
theorem post_forE {i q c q' k q'' q3 e q4 body p} {ds : List D} (hz : fz p.line = []) (he : ev Φ n e ρ = some (.lst ds)) (hl : ds.length ≤ lim)
    {Q : Flw → Ro → Prop} (h : Post Q (forT (fun d r => match d with
            | .tup [a, b] => some ((r.set i (.frz a)).set c (.frz b))
            | _ => none) (fun r => exs Φ ow fz n body r) (ds.zipIdx.map fun p => .tup [.int p.2, p.1]) ρ)) : Post Q (exS Φ ow fz (n+1) (.For (.Tuple [.Name i q, .Name c q'] k q'') (.Call (.Name (Str.ofString "enumerate") q3) [e] [] q4) body [] p) ρ) := by
  obtain ⟨f, ρ', h1, h2⟩ := h
  exact ⟨f, ρ', exS_forE hz he hl h1, h2⟩
theorem post_while {t body p} (P : Nat → Ro → Prop) (m : Nat) (hm : m < n) (hz : fz p.line = []) (h0 : P m ρ)
    (hb : ∀ m ρ, P m ρ → tst Φ n t ρ = some false ∨ (tst Φ n t ρ = some true ∧ Post (Nxt fun ρ2 => ∃ m', m' < m ∧ P m' ρ2) (exs Φ ow fz n body ρ))) : Post (Nxt fun ρ' => ∃ m', P m' ρ' ∧ tst Φ n t ρ' = some false) (exS Φ ow fz (n+1) (.While t body [] p) ρ) := by
  obtain ⟨m', ρ', h1, h2, h3⟩ := whileT_inv (test := fun r => tst Φ n t r) (body := fun r => exs Φ ow fz n body r) P hm h0 fun m ρ hp => by
    rcases hb m ρ hp with q | ⟨q, f, ρ2, e1, rfl, m', hm', e2⟩
    · exact .inl q
    · exact .inr ⟨q, m', ρ2, hm', e1, e2⟩
  exact ⟨_, ρ', exS_while hz h1, rfl, m', h2, h3⟩
theorem post_try {Q : Flw → Ro → Prop} {body h p} (hz : fz p.line = []) (hb : Post Q (exs Φ ow fz n body ρ)) : Post Q (exS Φ ow fz (n+1) (.Try body h [] [] p) ρ) := by
  rw [exS_try hz rfl]; exact hb
theorem exS_frz {x q e p} (d : D) (hz : fz p.line = []) (hs : sortedArg e = none) (he : ev Φ n e ρ = some d) (hst : storeNew ow x e d ρ = ρ.set x (.frz d)) : exS Φ ow fz (n+1) (.Assign [.Name x q] e p) ρ = some (.next, ρ.set x (.frz d)) := by
  rw [exS_assign hz hs he, hst]
theorem exS_own {x q e p} (ds : List D) (hz : fz p.line = []) (hs : sortedArg e = none) (he : ev Φ n e ρ = some (.lst ds)) (hst : storeNew ow x e (.lst ds) ρ = ρ.set x (.own ds)) : exS Φ ow fz (n+1) (.Assign [.Name x q] e p) ρ = some (.next, ρ.set x (.own ds)) := by
  rw [exS_assign hz hs he, hst]

theorem ev_len {a q p} : ev Φ (n+1) (.Call (.Name (Str.ofString "len") q) [a] [] p) ρ = call1 (S "len") (evB Φ n a ρ) := ev_call1 (by decide +kernel) (by decide +kernel)
theorem ev_sum {a q p} : ev Φ (n+1) (.Call (.Name (Str.ofString "sum") q) [a] [] p) ρ = call1 (S "sum") (evB Φ n a ρ) := ev_call1 (by decide +kernel) (by decide +kernel)
theorem ev_type {a q p} : ev Φ (n+1) (.Call (.Name (Str.ofString "type") q) [a] [] p) ρ = call1 (S "type") (evB Φ n a ρ) := ev_call1 (by decide +kernel) (by decide +kernel)
theorem ev_lst {a q p} : ev Φ (n+1) (.Call (.Name (Str.ofString "list") q) [a] [] p) ρ = call1 (S "list") (evB Φ n a ρ) := ev_call1 (by decide +kernel) (by decide +kernel)
theorem ev_max {a q p} : ev Φ (n+1) (.Call (.Name (Str.ofString "max") q) [a] [] p) ρ = call1 (S "max") (evB Φ n a ρ) := ev_call1 (by decide +kernel) (by decide +kernel)
theorem ev_min {a q p} : ev Φ (n+1) (.Call (.Name (Str.ofString "min") q) [a] [] p) ρ = call1 (S "min") (evB Φ n a ρ) := ev_call1 (by decide +kernel) (by decide +kernel)
theorem ev_fspath {args q p} : ev Φ (n+1) (.Call (.Name (Str.ofString "fspath") q) args [] p) ρ = callΦ Φ (Str.ofString "fspath") (mapO (fun e => ev Φ n e ρ) args) := ev_callΦ (by decide +kernel) (by decide +kernel)
theorem ev_getsep {args q p} : ev Φ (n+1) (.Call (.Name (Str.ofString "_get_sep") q) args [] p) ρ = callΦ Φ (Str.ofString "_get_sep") (mapO (fun e => ev Φ n e ρ) args) := ev_callΦ (by decide +kernel) (by decide +kernel)
theorem ev_join {args q p} : ev Φ (n+1) (.Call (.Name (Str.ofString "join") q) args [] p) ρ = callΦ Φ (Str.ofString "join") (mapO (fun e => ev Φ n e ρ) args) := ev_callΦ (by decide +kernel) (by decide +kernel)
theorem ev_commonpath {args q p} : ev Φ (n+1) (.Call (.Name (Str.ofString "commonpath") q) args [] p) ρ = callΦ Φ (Str.ofString "commonpath") (mapO (fun e => ev Φ n e ρ) args) := ev_callΦ (by decide +kernel) (by decide +kernel)
theorem ev_orders {args q p} : ev Φ (n+1) (.Call (.Name (Str.ofString "_law_orders") q) args [] p) ρ = callΦ Φ (Str.ofString "_law_orders") (mapO (fun e => ev Φ n e ρ) args) := ev_callΦ (by decide +kernel) (by decide +kernel)
theorem ev_merge {args q p} : ev Φ (n+1) (.Call (.Name (Str.ofString "_law_merge") q) args [] p) ρ = callΦ Φ (Str.ofString "_law_merge") (mapO (fun e => ev Φ n e ρ) args) := ev_callΦ (by decide +kernel) (by decide +kernel)
theorem ev_least {args q p} : ev Φ (n+1) (.Call (.Name (Str.ofString "_law_least") q) args [] p) ρ = callΦ Φ (Str.ofString "_law_least") (mapO (fun e => ev Φ n e ρ) args) := ev_callΦ (by decide +kernel) (by decide +kernel)
theorem nameIs_self {s : String} {q : Pos} : nameIs (.Name (Str.ofString s) q) s = true := by simp [nameIs, S]
/-- isinstance against bytes or tuple -/
theorem ev_isbytes {a q q' p o cs} (h : ev Φ n a ρ = some (.txt o cs)) : ev Φ (n+1) (.Call (.Name (Str.ofString "isinstance") q) [a, .Name (Str.ofString "bytes") q'] [] p) ρ = some (.bool o) := by
  simp only [ev, h, show Str.ofString "isinstance" = S "isinstance" from rfl, if_true]
  rw [if_pos nameIs_self]
theorem ev_istup_tup {a q q' p ds} (h : ev Φ n a ρ = some (.tup ds)) : ev Φ (n+1) (.Call (.Name (Str.ofString "isinstance") q) [a, .Name (Str.ofString "tuple") q'] [] p) ρ = some (.bool true) := by
  simp only [ev, h, show Str.ofString "isinstance" = S "isinstance" from rfl, if_true]
  rw [if_pos nameIs_self]
theorem ev_istup_int {a q q' p i} (h : ev Φ n a ρ = some (.int i)) : ev Φ (n+1) (.Call (.Name (Str.ofString "isinstance") q) [a, .Name (Str.ofString "tuple") q'] [] p) ρ = some (.bool false) := by
  simp only [ev, h, show Str.ofString "isinstance" = S "isinstance" from rfl, if_true]
  rw [if_pos nameIs_self]
theorem ev_issub {a q q1 q2 q3 k p s} (h : ev Φ n a ρ = some (.typ s)) (hs : (s == "str" || s == "bytes") = true) : ev Φ (n+1) (.Call (.Name (Str.ofString "issubclass") q) [a, .Tuple [.Name (Str.ofString "str") q1, .Name (Str.ofString "bytes") q2] k q3] [] p) ρ = some (.bool true) := by
  have n1 : ¬ S "issubclass" = S "isinstance" := by decide +kernel
  simp only [ev, h, show Str.ofString "issubclass" = S "issubclass" from rfl, if_true, if_neg n1]
  rw [if_pos]
  simp only [Bool.and_eq_true]
  exact ⟨⟨nameIs_self, nameIs_self⟩, hs⟩
theorem ev_tupmap {a g q q1 q2 p p' ds out} (h : ev Φ n a ρ = some (.lst ds)) (h1 : 1 ≤ ds.length) (h2 : ds.length ≤ 64) (h3 : ds.all isTxt = true) (hg : mapO (fun d => Φ g [d]) ds = some out) (ho : out.all isTxt = true) : ev Φ (n+1) (.Call (.Name (Str.ofString "tuple") q) [.Call (.Name (Str.ofString "map") q1) [.Name g q2, a] [] p'] [] p) ρ = some (.tup out) := by
  have n1 : ¬ S "tuple" = S "isinstance" := by decide +kernel
  have n2 : ¬ S "tuple" = S "issubclass" := by decide +kernel
  simp only [ev, h, show Str.ofString "tuple" = S "tuple" from rfl, show Str.ofString "map" = S "map" from rfl, if_true, if_neg n1, if_neg n2, h1, h2, h3, hg, ho, true_and]
theorem evB_bin {a b c d} : evB Φ (n+1) (.BinOp a b c d) ρ = ev Φ n (.BinOp a b c d) ρ := (rfl)
theorem evB_const {a b c} : evB Φ (n+1) (.Constant a b c) ρ = ev Φ n (.Constant a b c) ρ := (rfl)
theorem evB_sub {a b c} : evB Φ (n+1) (.Subscript a b c) ρ = ev Φ n (.Subscript a b c) ρ := (rfl)
theorem evB_call {a b c d} : evB Φ (n+1) (.Call a b c d) ρ = ev Φ n (.Call a b c d) ρ := (rfl)
theorem evB_list {a b} : evB Φ (n+1) (.List a b) ρ = ev Φ n (.List a b) ρ := (rfl)
theorem evB_tuple {a b c} : evB Φ (n+1) (.Tuple a b c) ρ = ev Φ n (.Tuple a b c) ρ := (rfl)
theorem evB_comp {a b c d} : evB Φ (n+1) (.ListComp a b c d) ρ = ev Φ n (.ListComp a b c d) ρ := (rfl)
theorem evB_ifexp {a b c d} : evB Φ (n+1) (.IfExp a b c d) ρ = ev Φ n (.IfExp a b c d) ρ := (rfl)
theorem evB_cmp {a b c d} : evB Φ (n+1) (.Compare a b c d) ρ = ev Φ n (.Compare a b c d) ρ := (rfl)
theorem evB_usub {a b c} : evB Φ (n+1) (.UnaryOp a b c) ρ = ev Φ n (.UnaryOp a b c) ρ := (rfl)
theorem ev_subName {o a b q} : ev Φ (n+1) (.Subscript o (.Name a b) q) ρ = idxO (evB Φ n o ρ) (ev Φ n (.Name a b) ρ) := ev_sub rfl
theorem ev_subBin {o a b c d q} : ev Φ (n+1) (.Subscript o (.BinOp a b c d) q) ρ = idxO (evB Φ n o ρ) (ev Φ n (.BinOp a b c d) ρ) := ev_sub rfl
theorem ev_subConst {o a b c q} : ev Φ (n+1) (.Subscript o (.Constant a b c) q) ρ = idxO (evB Φ n o ρ) (ev Φ n (.Constant a b c) ρ) := ev_sub rfl
theorem ev_subUn {o a b c q} : ev Φ (n+1) (.Subscript o (.UnaryOp a b c) q) ρ = idxO (evB Φ n o ρ) (ev Φ n (.UnaryOp a b c) ρ) := ev_sub rfl
theorem ev_subSub {o a b c q} : ev Φ (n+1) (.Subscript o (.Subscript a b c) q) ρ = idxO (evB Φ n o ρ) (ev Φ n (.Subscript a b c) ρ) := ev_sub (by rfl)
theorem exS_frzF {x q e p y ds} (d : D) (hz : fz p.line = [y]) (hy : ρ.get y = .own ds) (hs : sortedArg e = none) (he : ev Φ n e (ρ.set y (.frz (.lst ds))) = some d) (hst : storeNew ow x e d (ρ.set y (.frz (.lst ds))) = (ρ.set y (.frz (.lst ds))).set x (.frz d)) : exS Φ ow fz (n+1) (.Assign [.Name x q] e p) ρ = some (.next, (ρ.set y (.frz (.lst ds))).set x (.frz d)) := by
  simp only [exS, Stmt.pos, hz, hs, List.foldl, freezeX, hy, he, hst]
end
end MineE
end

section
set_option Elab.async false
set_option maxRecDepth 10000
set_option linter.unusedVariables false
open PySem
namespace MineE
open Mine
abbrev pw : Program := PySem.Challenge.pw_dh5004_02
def bodyAt (p : Program) (i : Nat) : List Stmt := match p.main.body[i]? with
  | some (.FunctionDef _ _ b _ _ _ _ _ _ _) => b
  | _ => []
theorem constInt {i : Int} : constD (.int i) = some (.int i) := (rfl)
theorem shr_nat {m k : Nat} (h : k < 64) : binD .RShift (.int (m:Nat)) (.int (k:Nat)) = some (.int ((m / 2^k : Nat) : Int)) := by
  have : powLim (k : Int) = true := by simp [powLim]; omega
  simp [binD, this]
theorem and_nat {m k : Nat} : binD .BitAnd (.int (m:Nat)) (.int (k:Nat)) = some (.int ((m &&& k : Nat) : Int)) := by
  simp [binD]
theorem and_one {m : Nat} : binD .BitAnd (.int (m:Nat)) (.int 1) = some (.int ((m &&& 1 : Nat) : Int)) := by
  simp [binD]
theorem pow_nat {k : Nat} (h : k < 64) : binD .Pow (.int 2) (.int (k:Nat)) = some (.int ((2^k : Nat) : Int)) := by
  have : powLim (k : Int) = true := by simp [powLim]; omega
  simp [binD, this]
theorem sub_nat {a b : Nat} (h : b ≤ a) : binD .Sub (.int (a:Nat)) (.int (b:Nat)) = some (.int ((a - b : Nat) : Int)) := by
  simp only [binD]; rw [Int.ofNat_sub h]
theorem add_nat {a b : Nat} : binD .Add (.int (a:Nat)) (.int (b:Nat)) = some (.int ((a + b : Nat) : Int)) := by
  simp only [binD]; rw [Int.natCast_add]
theorem aug_nat {a b : Nat} : augD .Add (.int (a:Nat)) (.int (b:Nat)) = some (.int ((a + b : Nat) : Int)) := by
  simp only [augD, add_nat]
theorem augmul_nat {a b : Nat} (ha : a < 2^63) (hb : b < 2^63) : augD .Mult (.int (a:Nat)) (.int (b:Nat)) = some (.int ((a * b : Nat) : Int)) := by
  have : small a = true := by simp [small]; omega
  have : small b = true := by simp [small]; omega
  simp [augD, binD, *]
theorem eq_nat {n a b : Nat} : eqD n (.int (a:Nat)) (.int (b:Nat)) = some (decide (a = b)) := by
  rw [eqD]; simp only [Int.ofNat_inj]
theorem eq_one {n a : Nat} : eqD n (.int (a:Nat)) (.int 1) = some (decide (a = 1)) := eq_nat (b := 1)
theorem cmp_eq {a b : D} : cmpD .Eq a b = eqD 5 a b := (rfl)
theorem idx_lst {ds : List D} {k : Nat} {d : D} (hl : ds.length ≤ lim) (h : ds[k]? = some d) : idxD (.lst ds) (.int (k:Nat)) = some d := by
  have hk : k < ds.length := (List.getElem?_eq_some_iff.mp h).1
  simp only [idxD, hl, if_true, natIdx, Int.toNat_natCast, hk, Int.natCast_nonneg]
  exact h
theorem mul_rep {x : D} {k : Nat} (h : k ≤ lim) : binD .Mult (.lst [x]) (.int (k:Nat)) = some (.lst (List.replicate k x)) := by
  simp [binD]; omega
theorem range_at {a b : Int} {j : Nat} {d : D} (h : (rangeD a b)[j]? = some d) : d = .int (a + (j : Int)) ∧ (j : Int) < b - a := by
  simp only [rangeD, List.getElem?_map, Option.map_eq_some_iff, List.getElem?_eq_some_iff, List.getElem_range, List.length_range] at h
  obtain ⟨x, ⟨h1, rfl⟩, rfl⟩ := h
  exact ⟨rfl, by omega⟩
theorem range_len {a b : Int} : (rangeD a b).length = (b - a).toNat := by simp [rangeD]
theorem pickOS_lst {ds : List D} : pickOS (some (.lst ds)) = some ds := (rfl)
theorem pickOS_tup {ds : List D} : pickOS (some (.tup ds)) = some ds := (rfl)
theorem constStr {s : String} (h : (Str.ofString s).cps.size ≤ lim) : constD (.str (Str.ofString s)) = some (.txt false (Str.ofString s).cps.toList) := if_pos h
theorem cS_ : constD (.str (Str.ofString "")) = some (.txt false []) := by rw [constStr (by decide +kernel)]; congr 1
theorem cSslash : constD (.str (Str.ofString "/")) = some (.txt false [47]) := by rw [constStr (by decide +kernel)]; congr 1
theorem cSdot : constD (.str (Str.ofString ".")) = some (.txt false [46]) := by rw [constStr (by decide +kernel)]; congr 1
theorem cSsd : constD (.str (Str.ofString "/.")) = some (.txt false [47, 46]) := by rw [constStr (by decide +kernel)]; congr 1
theorem cSa : constD (.str (Str.ofString "a")) = some (.txt false [97]) := by rw [constStr (by decide +kernel)]; congr 1
theorem cSb : constD (.str (Str.ofString "b")) = some (.txt false [98]) := by rw [constStr (by decide +kernel)]; congr 1
theorem cSc : constD (.str (Str.ofString "c")) = some (.txt false [99]) := by rw [constStr (by decide +kernel)]; congr 1
theorem cSab : constD (.str (Str.ofString "ab")) = some (.txt false [97, 98]) := by rw [constStr (by decide +kernel)]; congr 1
theorem cSam : constD (.str (Str.ofString "a-")) = some (.txt false [97, 45]) := by rw [constStr (by decide +kernel)]; congr 1
theorem cSadb : constD (.str (Str.ofString "a.b")) = some (.txt false [97, 46, 98]) := by rw [constStr (by decide +kernel)]; congr 1
theorem cSlat : constD (.str (Str.ofString "latin-1")) = some (.txt false (S "latin-1").cps.toList) := constStr (by decide +kernel)
theorem cBslash : constD (.bytes [47]) = some (.txt true [47]) := (rfl)
theorem cBdot : constD (.bytes [46]) = some (.txt true [46]) := (rfl)
theorem cBa : constD (.bytes [97]) = some (.txt true [97]) := (rfl)
theorem cBb : constD (.bytes [98]) = some (.txt true [98]) := (rfl)
theorem cNone : constD .none = some .none := (rfl)
theorem cBool {b : Bool} : constD (.bool b) = some (.bool b) := (rfl)
theorem m_starts {o : Bool} {x y : List Nat} (h : x.length ≤ lim) (h' : y.length ≤ lim) : methD (Str.ofString "startswith") (.txt o x) [.txt o y] = some (.bool (y.isPrefixOf x)) := by
  simp [methD, S, ofString_inj, h, h']
theorem m_ends {o : Bool} {x y : List Nat} (h : x.length ≤ lim) (h' : y.length ≤ lim) : methD (Str.ofString "endswith") (.txt o x) [.txt o y] = some (.bool (y.isSuffixOf x)) := by
  simp [methD, S, ofString_inj, h, h']
theorem m_split {o : Bool} {x : List Nat} {c : Nat} (h : x.length ≤ lim) : methD (Str.ofString "split") (.txt o x) [.txt o [c]] = some (.lst ((splitC c x).map (.txt o))) := by
  simp [methD, S, ofString_inj, h]
theorem m_encode {x : List Nat} (h : x.length ≤ lim) (h' : x.all (· < 128) = true) : methD (Str.ofString "encode") (.txt false x) [.txt false (S "latin-1").cps.toList] = some (.txt true x) := by
  simp [methD, S, ofString_inj, h, h']
theorem textsOf_txts {o : Bool} {xs : List (List Nat)} : textsOf o (xs.map (.txt o)) = some xs := by
  induction xs with
  | nil => rfl
  | cons x xs ih => simp [textsOf, ih]
theorem m_join {o : Bool} {x : List Nat} {xs : List (List Nat)} (h1 : xs.length ≤ 64) (h2 : x.length ≤ 16) (h3 : xs.all (·.length ≤ 1024) = true) : methD (Str.ofString "join") (.txt o x) [.lst (xs.map (.txt o))] = some (.txt o (joinC x xs)) := by
  simp [methD, S, ofString_inj, textsOf_txts, h1, h2]
  simpa using h3
theorem addT {o : Bool} {x y : List Nat} (h : x.length + y.length ≤ lim) : binD .Add (.txt o x) (.txt o y) = some (.txt o (x ++ y)) := by
  simp [binD, h]
theorem addL {x y : List D} (h : x.length + y.length ≤ lim) : binD .Add (.lst x) (.lst y) = some (.lst (x ++ y)) := by
  simp [binD, h]
theorem augT {o : Bool} {x y : List Nat} (h : x.length + y.length ≤ lim) : augD .Add (.txt o x) (.txt o y) = some (.txt o (x ++ y)) := by
  simp [augD, binD, h]
theorem truth_txt {o : Bool} {x : List Nat} (h : x.length ≤ lim) : truthD (.txt o x) = some (!x.isEmpty) := if_pos h
theorem truth_tup {x : List D} (h : x.length ≤ lim) : truthD (.tup x) = some (!x.isEmpty) := if_pos h
theorem truth_bool {b : Bool} : truthD (.bool b) = some b := (rfl)
theorem len_lst {ds : List D} (h : ds.length ≤ lim) : callD (S "len") [.lst ds] = some (.int (ds.length : Nat)) := by
  simp [callD, h]
theorem type_txt {o : Bool} {x : List Nat} : callD (S "type") [.txt o x] = some (.typ (if o then "bytes" else "str")) := by
  simp [callD, S, ofString_inj]
theorem sum_lst {ds : List D} {l : List Int} (h : ds.length ≤ lim) (hl : intsOf ds = some l) : callD (S "sum") [.lst ds] = some (.int l.sum) := by
  simp [callD, S, ofString_inj, h, hl]
theorem list_lst {ds : List D} (h : ds.length ≤ lim) : callD (S "list") [.lst ds] = some (.lst ds) := by
  simp [callD, S, ofString_inj, h]
theorem eq_txt {n : Nat} {o : Bool} {x y : List Nat} : eqD n (.txt o x) (.txt o y) = some (decide (x = y)) := by
  rw [eqD]; simp
theorem eq_bool {n : Nat} {x y : Bool} : eqD n (.bool x) (.bool y) = some (decide (x = y)) := by
  rw [eqD]
theorem eq_txts {n : Nat} {o : Bool} {x y : List (List Nat)} : eqD (n+1) (.lst (x.map (.txt o))) (.lst (y.map (.txt o))) = some (decide (x = y)) := by
  rw [eqD, List.length_map, List.length_map]
  by_cases h : x.length = y.length
  · rw [if_pos h]
    induction x generalizing y with
    | nil => cases y with
      | nil => simp [eqDs]
      | cons b y => simp at h
    | cons a x ih => cases y with
      | nil => simp at h
      | cons b y =>
        simp only [List.map_cons, eqDs, eq_txt, ih (y := y) (by simpa using h)]
        simp
  · rw [if_neg h]
    have : x ≠ y := fun q => h (by rw [q])
    simp [this]
theorem cmp_ne {a b : D} : cmpD .NotEq a b = (eqD 5 a b).map (!·) := (rfl)
theorem cmp_lt {i j : Int} : cmpD .Lt (.int i) (.int j) = some (decide (i < j)) := (rfl)
theorem cmp_gt {i j : Int} : cmpD .Gt (.int i) (.int j) = some (decide (i > j)) := (rfl)
theorem mod_ok {i j : Int} (h1 : 0 < j) (h2 : j < 1073741824) : binD .Mod (.int i) (.int j) = some (.int (i.fmod j)) := by
  simp [binD, h1, h2]
theorem fdiv_ok {i j : Int} (h1 : 0 < j) (h2 : j < 1073741824) : binD .FloorDiv (.int i) (.int j) = some (.int (i.fdiv j)) := by
  simp [binD, h1, h2]
theorem idx_tup {ds : List D} {k : Nat} {d : D} (hl : ds.length ≤ lim) (h : ds[k]? = some d) : idxD (.tup ds) (.int (k:Nat)) = some d := by
  have hk : k < ds.length := (List.getElem?_eq_some_iff.mp h).1
  simp only [idxD, hl, if_true, natIdx, Int.toNat_natCast, hk, Int.natCast_nonneg]
  exact h
theorem slice_hi {ds : List D} {k : Nat} (hl : ds.length ≤ lim) (hk : k < 2^63) : sliceD (.lst ds) none (some (.int (k : Nat))) = some (.lst (ds.take k)) := by
  have : small (k : Int) = true := by simp [small]; omega
  simp only [sliceD, hl, if_true, this]
  simp [clipI]
theorem eq_int {n : Nat} {i j : Int} : eqD n (.int i) (.int j) = some (decide (i = j)) := by rw [eqD]
theorem eq_nilL {n : Nat} {ds : List D} : eqD (n+1) (.lst ds) (.lst []) = some (decide (ds = [])) := by
  rw [eqD]
  cases ds with
  | nil => simp [eqDs]
  | cons d ds => simp
theorem eq_plus {n : Nat} {o : Bool} {x y : List (List Nat)} : eqD (n+1) (.lst (x.map (.txt o))) (.lst (y.map (.txt o))) = some (decide (x = y)) := eq_txts
theorem mem_rows {x : List (List Nat)} {o : Bool} : ∀ {l : List (List (List Nat))}, memD (.lst (x.map (.txt o))) (l.map fun r => .lst (r.map (.txt o))) = some (decide (x ∈ l))
  | [] => by simp [memD]
  | r :: l => by
    rw [List.map_cons, memD, eq_plus, mem_rows]
    simp only [List.mem_cons, Option.some.injEq]
    by_cases q : r = x
    · subst q; simp
    · have : ¬ x = r := fun e => q e.symm
      simp [q, this]
theorem intsOf_map : ∀ {l : List Int}, intsOf (l.map .int) = some l
  | [] => rfl
  | i :: l => by simp [intsOf, intsOf_map]
theorem fmod_nat {i : Int} {k : Nat} (h : 0 < k) : ∃ r : Nat, r < k ∧ i.fmod k = (r : Int) := by
  have h1 := Int.fmod_nonneg_of_pos i (b := k) (by omega)
  have h2 := Int.fmod_lt_of_pos i (b := k) (by omega)
  exact ⟨(i.fmod k).toNat, by omega, by omega⟩
theorem sub_int {i j : Int} : binD .Sub (.int i) (.int j) = some (.int (i - j)) := (rfl)
theorem slice_lo2 {ds : List D} (hl : ds.length ≤ lim) (hk : 2 ≤ ds.length) : sliceD (.lst ds) (some (.int 2)) none = some (.lst (ds.drop 2)) := by
  have : small 2 = true := by decide
  simp only [sliceD, hl, if_true, this]
  have e : clipI ds.length 2 = 2 := by simp [clipI]; omega
  simp [e]
theorem sliceTo {ds : List D} {k : Nat} (hl : ds.length ≤ lim) (hk : k < 2^63) (hd : k ≤ ds.length) : sliceD (.lst ds) none (some (.int (k : Nat))) = some (.lst (ds.take k)) := slice_hi hl hk
theorem slice_init {ds : List D} (hl : ds.length ≤ lim) (h : 1 ≤ ds.length) : sliceD (.lst ds) none (some (.int (-1))) = some (.lst ds.dropLast) := by
  have : small (-1) = true := by decide
  simp only [sliceD, hl, if_true, this]
  have e : clipI ds.length (-1) = ds.length - 1 := by simp [clipI]; omega
  simp [e, List.dropLast_eq_take]
theorem idx_last {ds : List D} {x : D} (h : ds.length + 1 ≤ lim) : idxD (.lst (ds ++ [x])) (.int (-1)) = some x := by
  have e : (ds ++ [x]).length = ds.length + 1 := by simp
  simp only [idxD, e, h, if_true, natIdx]
  rw [if_neg (by omega), if_pos (by omega)]
  rw [show ((-1 : Int) + ((ds.length + 1 : Nat) : Int)).toNat = ds.length by omega]
  simp
theorem mem_txts {o : Bool} {x : List Nat} : ∀ {l : List (List Nat)}, memD (.txt o x) (l.map (.txt o)) = some (decide (x ∈ l))
  | [] => by simp [memD]
  | r :: l => by
    rw [List.map_cons, memD, eq_txt, mem_txts]
    simp only [List.mem_cons, Option.some.injEq]
    by_cases q : r = x
    · subst q; simp
    · have : ¬ x = r := fun e => q e.symm
      simp [q, this]
theorem idxOf_txts {o : Bool} {x : List Nat} : ∀ {l : List (List Nat)} {i s : Nat}, l[i]? = some x → (∀ j < i, l[j]? ≠ some x) → idxOfD (.txt o x) (l.map (.txt o)) s = some (s + i)
  | [], i, s, h, _ => by simp at h
  | r :: l, 0, s, h, _ => by
    simp at h
    subst h
    simp [idxOfD, eq_txt]
  | r :: l, i + 1, s, h, hn => by
    have h0 : r ≠ x := fun q => hn 0 (by omega) (by simp [q])
    rw [List.map_cons, idxOfD, eq_txt, decide_eq_false h0]
    dsimp only
    rw [idxOf_txts (i := i) (by simpa using h) fun j hj => by have := hn (j + 1) (by omega); simpa using this]
    congr 1; omega
theorem mul_nat {a b : Nat} (ha : a < 2^63) (hb : b < 2^63) : binD .Mult (.int (a:Nat)) (.int (b:Nat)) = some (.int ((a * b : Nat) : Int)) := by
  have : small a = true := by simp [small]; omega
  have : small b = true := by simp [small]; omega
  simp [binD, *]
theorem slice_take {ds : List D} {k : Nat} (hl : ds.length ≤ lim) (hk : k < 2^63) : sliceD (.lst ds) none (some (.int (k : Nat))) = some (.lst (ds.take k)) := slice_hi hl hk
end MineE
end

section
set_option Elab.async false
set_option maxRecDepth 10000
set_option linter.unusedVariables false
open PySem
namespace MineE
open Mine

/-- the names of a path -/
def cmps (p : List Nat → Bool) (x : List Nat) : List (List Nat) := (splitC 47 x).filter p
theorem splitC_ne {c : Nat} : ∀ {x : List Nat}, splitC c x ≠ []
  | [] => by simp [splitC]
  | y :: x => by
    unfold splitC
    split
    · simp
    · split <;> simp
theorem splitC_cons {c y : Nat} {a : List Nat} : splitC c (y :: a) = if y = c then [] :: splitC c a else match splitC c a with
    | [] => [[y]]
    | p :: ps => (y :: p) :: ps := rfl
theorem splitC_app {c : Nat} {b : List Nat} : ∀ {a : List Nat}, splitC c (a ++ c :: b) = splitC c a ++ splitC c b
  | [] => by simp [splitC]
  | y :: a => by
    have ih := splitC_app (c := c) (b := b) (a := a)
    rw [List.cons_append, splitC_cons, splitC_cons, ih]
    by_cases q : y = c
    · rw [if_pos q, if_pos q]; rfl
    · rw [if_neg q, if_neg q]
      cases h : splitC c a with
      | nil => exact absurd h splitC_ne
      | cons p ps => rfl
theorem splitC_len {c : Nat} : ∀ {x : List Nat}, (splitC c x).length ≤ x.length + 1
  | [] => by simp [splitC]
  | y :: x => by
    have ih := splitC_len (c := c) (x := x)
    rw [splitC_cons]
    split
    · simp; exact ih
    · split
      · simp
      · rename_i h; rw [h] at ih; simp at ih ⊢; omega
theorem splitC_mem {c : Nat} : ∀ {x : List Nat} {p : List Nat}, p ∈ splitC c x → p.length ≤ x.length
  | [], p, h => by simp [splitC] at h; simp [h]
  | y :: x, p, h => by
    have ih := fun q => splitC_mem (c := c) (x := x) (p := q)
    rw [splitC_cons] at h
    split at h
    · rcases List.mem_cons.mp h with rfl | h
      · simp
      · have := ih p h; simp; omega
    · split at h
      · simp at h; simp [h]
      · rename_i q ps e
        rw [e] at ih
        rcases List.mem_cons.mp h with rfl | h
        · have := ih q (.head _); simp; omega
        · have := ih p (.tail _ h); simp; omega
theorem splitC_plain {c : Nat} : ∀ {a : List Nat}, c ∉ a → splitC c a = [a]
  | [], _ => rfl
  | y :: a, h => by
    have h1 : ¬ y = c := fun q => h (by rw [q]; exact .head _)
    unfold splitC
    rw [if_neg h1, splitC_plain fun q => h (.tail _ q)]
theorem cmps_app {p : List Nat → Bool} {a b : List Nat} : cmps p (a ++ 47 :: b) = cmps p a ++ cmps p b := by
  unfold cmps; rw [splitC_app, List.filter_append]
theorem cmps_nil {p : List Nat → Bool} (hp : p [] = false) : cmps p [] = [] := by
  simp [cmps, splitC, hp]
theorem cmps_one {p : List Nat → Bool} {b : List Nat} (hb : 47 ∉ b) (hp : p b = true) : cmps p b = [b] := by
  simp [cmps, splitC_plain hb, hp]
theorem cmps_joinC {p : List Nat → Bool} (h0 : p [] = false) : ∀ {l : List (List Nat)}, (∀ b ∈ l, 47 ∉ b ∧ p b = true) → cmps p (joinC [47] l) = l
  | [], _ => cmps_nil h0
  | [b], h => cmps_one (h b (.head _)).1 (h b (.head _)).2
  | b :: c :: l, h => by
    have ih := cmps_joinC h0 (l := c :: l) fun x hx => h x (.tail _ hx)
    show cmps p (b ++ [47] ++ joinC [47] (c :: l)) = _
    rw [List.append_assoc]
    show cmps p (b ++ 47 :: joinC [47] (c :: l)) = _
    rw [cmps_app, ih, cmps_one (h b (.head _)).1 (h b (.head _)).2]
    rfl
theorem joinC_len {m : Nat} : ∀ {x : List (List Nat)}, (∀ c ∈ x, c.length ≤ m) → (joinC [47] x).length ≤ x.length * (m + 1)
  | [], _ => by simp [joinC]
  | [b], h => by have := h b (.head _); simp [joinC]; omega
  | b :: c :: l, h => by
    have ih := joinC_len (x := c :: l) fun x hx => h x (.tail _ hx)
    have := h b (.head _)
    show (b ++ [47] ++ joinC [47] (c :: l)).length ≤ _
    simp only [List.length_append, List.length_cons, List.length_nil, Nat.add_mul] at ih ⊢
    omega
/-- the same with a slash ahead -/
theorem cmps_top {p : List Nat → Bool} (h0 : p [] = false) {x : List Nat} (r : Bool) : cmps p ((if r then [47] else []) ++ x) = cmps p x := by
  cases r with
  | false => rfl
  | true =>
    show cmps p ([] ++ 47 :: x) = _
    rw [cmps_app, cmps_nil h0]; rfl

/-- join -/
def joinP (a b : List Nat) : List Nat := if [47].isPrefixOf b || a.isEmpty then b else if [47].isSuffixOf a then a ++ b else a ++ (47 :: b)
theorem cmps_joinP {p : List Nat → Bool} (h0 : p [] = false) {a b : List Nat} (hb : 47 ∉ b) (hp : p b = true) : cmps p (joinP a b) = cmps p a ++ [b] := by
  unfold joinP
  have h1 : [47].isPrefixOf b = false := by
    cases b with
    | nil => rfl
    | cons x b =>
      simp only [List.isPrefixOf, Bool.and_true, beq_eq_false_iff_ne]
      exact fun q => hb (by rw [← q]; exact .head _)
  rw [h1, Bool.false_or]
  split
  · rename_i e
    rw [List.isEmpty_iff.mp e, cmps_nil h0, cmps_one hb hp]; rfl
  · split
    · rename_i e
      obtain ⟨a', rfl⟩ := List.isSuffixOf_iff_suffix.mp e
      rw [List.append_assoc]
      show cmps p (a' ++ 47 :: b) = cmps p (a' ++ 47 :: []) ++ [b]
      rw [cmps_app, cmps_app, cmps_nil h0, cmps_one hb hp, List.append_nil]
    · rw [cmps_app, cmps_one hb hp]
theorem joinP_len {a b : List Nat} : (joinP a b).length ≤ a.length + b.length + 1 := by
  unfold joinP
  split
  · omega
  · split <;> simp <;> omega
/-- does it open with a slash? -/
theorem joinP_abs {a b : List Nat} (hb : 47 ∉ b) (hn : b ≠ []) : [47].isPrefixOf (joinP a b) = [47].isPrefixOf a := by
  have h1 : [47].isPrefixOf b = false := by
    cases b with
    | nil => rfl
    | cons x b =>
      simp only [List.isPrefixOf, Bool.and_true, beq_eq_false_iff_ne]
      exact fun q => hb (by rw [← q]; exact .head _)
  unfold joinP
  rw [h1, Bool.false_or]
  cases a with
  | nil => simp [h1]
  | cons x a =>
    simp only [List.isEmpty_cons, Bool.false_eq_true, if_false]
    split <;> simp [List.isPrefixOf]
theorem joinP_ne {a b : List Nat} (hn : b ≠ []) : joinP a b ≠ [] := by
  unfold joinP
  split
  · exact hn
  · split <;> simp [hn]
theorem joinP_mem {a b : List Nat} {c : Nat} (h : c ∈ joinP a b) : c ∈ a ∨ c ∈ b ∨ c = 47 := by
  unfold joinP at h
  split at h
  · exact .inr (.inl h)
  · split at h
    · simp at h; rcases h with h | h <;> simp [h]
    · simp at h; rcases h with h | h | h <;> simp [h]

/-- the first rows of names that two have in common -/
def lcp : List (List Nat) → List (List Nat) → List (List Nat)
  | x :: xs, y :: ys => if x = y then x :: lcp xs ys else []
  | _, _ => []
theorem lcp_comm : ∀ {x y : List (List Nat)}, lcp x y = lcp y x
  | [], [] => rfl
  | [], _ :: _ => rfl
  | _ :: _, [] => rfl
  | a :: x, b :: y => by
    unfold lcp
    by_cases q : a = b
    · subst q; rw [if_pos rfl, if_pos rfl, lcp_comm]
    · rw [if_neg q, if_neg (Ne.symm q)]
theorem lcp_self : ∀ {x : List (List Nat)}, lcp x x = x
  | [] => rfl
  | a :: x => by unfold lcp; rw [if_pos rfl, lcp_self]
theorem lcp_sub : ∀ {x y : List (List Nat)}, ∀ c ∈ lcp x y, c ∈ x
  | [], _, c, h => by unfold lcp at h; exact h
  | _ :: _, [], c, h => by unfold lcp at h; cases h
  | a :: x, b :: y, c, h => by
    unfold lcp at h
    split at h
    · rcases List.mem_cons.mp h with rfl | h
      · exact .head _
      · exact .tail _ (lcp_sub _ h)
    · cases h
theorem lcp_len : ∀ {x y : List (List Nat)}, (lcp x y).length ≤ x.length
  | [], _ => by unfold lcp; simp
  | _ :: _, [] => by unfold lcp; simp
  | a :: x, b :: y => by
    unfold lcp
    split
    · simp; exact lcp_len
    · simp
theorem lcp_eq_right : ∀ {x y : List (List Nat)}, lcp x y = y ↔ y <+: x
  | [], [] => by simp [lcp]
  | [], _ :: _ => by simp [lcp]
  | _ :: _, [] => by simp [lcp]
  | a :: x, b :: y => by
    unfold lcp
    by_cases q : a = b
    · subst q
      rw [if_pos rfl, List.cons_prefix_cons]
      simp [lcp_eq_right]
    · rw [if_neg q, List.cons_prefix_cons]
      simp [Ne.symm q]
/-- they part at j -/
theorem lcp_part : ∀ {x y : List (List Nat)} {j : Nat} {c d : List Nat}, x.take j = y.take j → x[j]? = some c → y[j]? = some d → c ≠ d → lcp x y = x.take j
  | [], _, j, _, _, _, h, _, _ => by simp at h
  | _ :: _, [], j, _, _, _, _, h, _ => by simp at h
  | a :: x, b :: y, 0, c, d, _, h1, h2, h => by
    simp at h1 h2
    subst h1; subst h2
    unfold lcp; rw [if_neg h]; rfl
  | a :: x, b :: y, j + 1, c, d, e, h1, h2, h => by
    simp only [List.take_succ_cons, List.cons.injEq] at e
    simp only [List.getElem?_cons_succ] at h1 h2
    unfold lcp
    rw [if_pos e.1, lcp_part e.2 h1 h2 h]; rfl
theorem lcp_pre {x y : List (List Nat)} (h : x <+: y) : lcp x y = x := by rw [lcp_comm]; exact lcp_eq_right.mpr h

/-- one row of names before another, as Python orders lists -/
def ltL : List (List Nat) → List (List Nat) → Bool
  | [], [] => false
  | [], _ :: _ => true
  | _ :: _, [] => false
  | x :: xs, y :: ys => if x = y then ltL xs ys else decide (x < y)
def txts (o : Bool) (l : List (List Nat)) : List D := l.map (.txt o)
theorem ltTs_txts {o : Bool} : ∀ {x y : List (List Nat)}, ltTs o (txts o x) (txts o y) = some (ltL x y)
  | [], [] => by simp [txts, ltTs, ltL]
  | [], y :: ys => by
    have := ltTs_txts (o := o) (x := []) (y := ys)
    simp only [txts, List.map_cons, List.map_nil, ltTs, if_true] at this ⊢
    rw [this]; rfl
  | x :: xs, [] => by
    have := ltTs_txts (o := o) (x := xs) (y := [])
    simp only [txts, List.map_cons, List.map_nil, ltTs, if_true] at this ⊢
    rw [this]; rfl
  | x :: xs, y :: ys => by
    have := ltTs_txts (o := o) (x := xs) (y := ys)
    simp only [txts, List.map_cons, ltTs, if_true, and_self] at this ⊢
    rw [this]
    simp only [ltL]
theorem kindT_txts {o : Bool} {x y a b : List (List Nat)} (h : (x ≠ [] ∨ y ≠ []) ∨ (a = [] ∧ b = [])) : ltTs (kindT (txts o x) (txts o y)) (txts o a) (txts o b) = some (ltL a b) := by
  rcases h with h | ⟨rfl, rfl⟩
  · have : kindT (txts o x) (txts o y) = o := by
      cases x with
      | cons => rfl
      | nil => cases y with
        | cons => rfl
        | nil => simp at h
    rw [this, ltTs_txts]
  · exact ltTs_txts (x := []) (y := [])
theorem ltL_total : ∀ {x y : List (List Nat)}, ltL x y = false → ltL y x = false → x = y
  | [], [], _, _ => rfl
  | [], _ :: _, h, _ => by cases h
  | _ :: _, [], _, h => by cases h
  | a :: x, b :: y, h1, h2 => by
    unfold ltL at h1 h2
    by_cases q : a = b
    · subst q
      rw [if_pos rfl] at h1 h2
      rw [ltL_total h1 h2]
    · rw [if_neg q] at h1
      rw [if_neg (Ne.symm q)] at h2
      simp only [decide_eq_false_iff_not, List.not_lt] at h1 h2
      exact absurd (List.le_antisymm h2 h1) q
theorem ltL_pre : ∀ {x y : List (List Nat)}, x <+: y → x ≠ y → ltL x y = true
  | [], [], _, h => absurd rfl h
  | [], _ :: _, _, _ => rfl
  | _ :: _, [], h, _ => by simp at h
  | a :: x, b :: y, h, hn => by
    obtain ⟨rfl, h'⟩ := List.cons_prefix_cons.mp h
    unfold ltL
    rw [if_pos rfl]
    exact ltL_pre h' fun q => hn (by rw [q])
theorem ltL_asymm : ∀ {x y : List (List Nat)}, ltL x y = true → ltL y x = false
  | [], [], h => by cases h
  | [], _ :: _, _ => rfl
  | _ :: _, [], h => by cases h
  | a :: x, b :: y, h => by
    unfold ltL at h ⊢
    by_cases q : a = b
    · subst q
      rw [if_pos rfl] at h ⊢
      exact ltL_asymm h
    · rw [if_neg q] at h
      rw [if_neg (Ne.symm q)]
      simp only [decide_eq_true_eq, decide_eq_false_iff_not] at h ⊢
      exact fun q' => List.lt_asymm h q'
def minL (x y : List (List Nat)) : List (List Nat) := if ltL y x then y else x
def maxL (x y : List (List Nat)) : List (List Nat) := if ltL x y then y else x
theorem minmax {x y : List (List Nat)} : (minL x y = x ∧ maxL x y = y) ∨ (minL x y = y ∧ maxL x y = x) := by
  unfold minL maxL
  cases h1 : ltL y x with
  | true => exact .inr ⟨by simp, by rw [ltL_asymm h1]; rfl⟩
  | false =>
    cases h2 : ltL x y with
    | true => exact .inl ⟨by simp, by simp⟩
    | false => exact .inl ⟨by simp, by simp; exact ltL_total h2 h1⟩
theorem lcp_minmax {x y : List (List Nat)} : lcp (minL x y) (maxL x y) = lcp x y := by
  rcases minmax (x := x) (y := y) with ⟨h1, h2⟩ | ⟨h1, h2⟩
  · rw [h1, h2]
  · rw [h1, h2, lcp_comm]
/-- the greater is no front of the lesser -/
theorem max_not_pre {x y : List (List Nat)} (h : maxL x y <+: minL x y) : maxL x y = minL x y := by
  refine Classical.byContradiction fun hn => ?_
  have := ltL_pre h hn
  unfold minL maxL at this hn
  cases h1 : ltL y x with
  | true =>
    rw [h1, ltL_asymm h1] at this
    simp at this
    rw [ltL_asymm h1] at this; cases this
  | false =>
    rw [h1] at this hn
    cases h2 : ltL x y with
    | true => rw [h2] at this; simp at this; rw [h1] at this; cases this
    | false => rw [h2] at hn; simp at hn
end MineE
end

section
set_option Elab.async false
set_option maxRecDepth 10000
set_option linter.unusedVariables false
open PySem
namespace MineE
open Mine
section
variable (le : Nat → Nat → Bool)
/-- how many of l lie at or below j -/
def hk (l : List Nat) (j : Nat) : Nat := (l.filter fun i => le i j).length
def PP (l : List Nat) : Rat := (l.map fun j => (hk le l j : Rat)).prod
def del (l : List Nat) (k : Nat) : List Nat := l.filter fun i => !decide (i = k)
/-- none of l lies below k -/
def leaf (l : List Nat) (k : Nat) : Bool := l.all fun i => decide (i = k) || !le i k
def GG (l : List Nat) : Rat := ((l.filter fun k => leaf le l k).map fun k => 1 / PP le (del l k)).sum
structure Ord (ms : Nat → Nat) (l : List Nat) : Prop where
  nd : l.Nodup
  refl : ∀ i ∈ l, le i i = true
  meas : ∀ i ∈ l, ∀ j ∈ l, le i j = true → i ≠ j → ms j < ms i
  trans : ∀ i ∈ l, ∀ j ∈ l, ∀ k ∈ l, le i j = true → le j k = true → le i k = true
  chain : ∀ i ∈ l, ∀ j ∈ l, ∀ k ∈ l, le i j = true → le i k = true → le j k = true ∨ le k j = true
end
section
variable {le : Nat → Nat → Bool} {ms : Nat → Nat} {l : List Nat}
theorem Ord.filter (o : Ord le ms l) (p : Nat → Bool) : Ord le ms (l.filter p) where
  nd := o.nd.filter _
  refl := fun i hi => o.refl i (List.mem_filter.mp hi).1
  meas := fun i hi j hj => o.meas i (List.mem_filter.mp hi).1 j (List.mem_filter.mp hj).1
  trans := fun i hi j hj k hk => o.trans i (List.mem_filter.mp hi).1 j (List.mem_filter.mp hj).1 k (List.mem_filter.mp hk).1
  chain := fun i hi j hj k hk => o.chain i (List.mem_filter.mp hi).1 j (List.mem_filter.mp hj).1 k (List.mem_filter.mp hk).1
theorem Ord.del (o : Ord le ms l) (k : Nat) : Ord le ms (del l k) := o.filter _
theorem mem_del {l : List Nat} {k i : Nat} : i ∈ del l k ↔ i ∈ l ∧ i ≠ k := by simp [del]
theorem hk_pos (o : Ord le ms l) {j : Nat} (h : j ∈ l) : hk le l j ≠ 0 := by
  have : j ∈ l.filter fun i => le i j := List.mem_filter.mpr ⟨h, o.refl j h⟩
  intro q
  rw [List.length_eq_zero_iff.mp q] at this
  cases this
theorem prod_ne {f : Nat → Rat} : ∀ {l : List Nat}, (∀ x ∈ l, f x ≠ 0) → (l.map f).prod ≠ 0
  | [], _ => by simp
  | x :: l, h => by
    rw [List.map_cons, List.prod_cons]
    have h1 := h x (.head _)
    have h2 := prod_ne (l := l) fun y hy => h y (.tail _ hy)
    grind
theorem PP_ne (o : Ord le ms l) : PP le l ≠ 0 := prod_ne fun x hx => by
  have := hk_pos o hx
  intro q
  have q : ((hk le l x : Nat) : Rat) = ((0 : Nat) : Rat) := q
  exact this (Rat.natCast_inj.mp q)
theorem prod_split {f : Nat → Rat} (p : Nat → Bool) : ∀ {l : List Nat}, (l.map f).prod = ((l.filter p).map f).prod * ((l.filter fun x => !p x).map f).prod
  | [] => by simp
  | x :: l => by
    have ih := prod_split (f := f) p (l := l)
    rw [List.map_cons, List.prod_cons, ih, List.filter_cons, List.filter_cons]
    cases p x <;> simp [Rat.mul_assoc] <;> grind
theorem sum_split {f : Nat → Rat} (p : Nat → Bool) : ∀ {l : List Nat}, (l.map f).sum = ((l.filter p).map f).sum + ((l.filter fun x => !p x).map f).sum
  | [] => by simp <;> grind
  | x :: l => by
    have ih := sum_split (f := f) p (l := l)
    rw [List.map_cons, List.sum_cons, ih, List.filter_cons, List.filter_cons]
    cases p x <;> simp <;> grind
theorem len_split (p : Nat → Bool) : ∀ {l : List Nat}, l.length = (l.filter p).length + (l.filter fun x => !p x).length
  | [] => by simp
  | x :: l => by
    have ih := len_split p (l := l)
    rw [List.length_cons, List.filter_cons, List.filter_cons]
    cases p x <;> simp <;> omega
theorem filter_one {r : Nat} : ∀ {l : List Nat}, l.Nodup → r ∈ l → l.filter (fun x => !!decide (x = r)) = [r]
  | x :: l, nd, h => by
    have nd' := List.nodup_cons.mp nd
    rw [List.filter_cons]
    by_cases q : x = r
    · subst q
      simp only [decide_true, Bool.not_true, Bool.not_false, if_true]
      rw [List.filter_eq_nil_iff.mpr]
      intro a ha
      simp only [Bool.not_not, decide_eq_true_eq]
      exact fun e => nd'.1 (e ▸ ha)
    · rw [if_neg (by simpa using q)]
      exact filter_one nd'.2 ((List.mem_cons.mp h).resolve_left (Ne.symm q))
theorem prod_del {f : Nat → Rat} {r : Nat} (nd : l.Nodup) (h : r ∈ l) : (l.map f).prod = f r * ((del l r).map f).prod := by
  rw [prod_split (fun x => !decide (x = r)), filter_one nd h]
  simp only [List.map_cons, List.map_nil, List.prod_cons, List.prod_nil]
  unfold del
  grind
theorem len_del {r : Nat} (nd : l.Nodup) (h : r ∈ l) : l.length = (del l r).length + 1 := by
  rw [len_split (fun x => !decide (x = r)) (l := l), filter_one nd h]; rfl
theorem del_comm {k r : Nat} : del (del l k) r = del (del l r) k := by
  unfold del
  rw [List.filter_filter, List.filter_filter]
  exact List.filter_congr fun x _ => Bool.and_comm _ _
theorem map_prod_congr {f g : Nat → Rat} : ∀ {l : List Nat}, (∀ x ∈ l, f x = g x) → (l.map f).prod = (l.map g).prod := fun h => by
  rw [List.map_congr_left h]

/-- a tree with one root -/
theorem PP_root (o : Ord le ms l) {r : Nat} (hr : r ∈ l) (ht : ∀ i ∈ l, le i r = true) : PP le l = l.length * PP le (del l r) := by
  unfold PP
  rw [prod_del o.nd hr]
  have h1 : hk le l r = l.length := by
    unfold hk; rw [List.filter_eq_self.mpr ht]
  rw [h1]
  congr 1
  refine map_prod_congr fun j hj => ?_
  obtain ⟨hj1, hj2⟩ := mem_del.mp hj
  congr 1
  unfold hk del
  rw [List.filter_filter]
  congr 1
  refine List.filter_congr fun i hi => ?_
  by_cases q : i = r
  · subst q
    have : le i j = false := by
      cases e : le i j with
      | false => rfl
      | true =>
        have h1 := o.meas i hi j hj1 e (Ne.symm hj2)
        have h2 := o.meas j hj1 i hi (ht j hj1) hj2
        omega
    simp [this]
  · simp [q]
/-- parts that do not touch -/
theorem PP_part {p : Nat → Bool} (hs : ∀ i ∈ l, ∀ j ∈ l, p i = true → p j = false → le i j = false ∧ le j i = false) : PP le l = PP le (l.filter p) * PP le (l.filter fun x => !p x) := by
  unfold PP
  rw [prod_split p]
  congr 1
  · refine map_prod_congr fun j hj => ?_
    obtain ⟨h1, h2⟩ := List.mem_filter.mp hj
    congr 1
    unfold hk
    rw [List.filter_filter]
    congr 1
    refine List.filter_congr fun i hi => ?_
    cases e : p i with
    | true => simp
    | false => simp [(hs j h1 i hi h2 e).2]
  · refine map_prod_congr fun j hj => ?_
    obtain ⟨h1, h2⟩ := List.mem_filter.mp hj
    simp at h2
    congr 1
    unfold hk
    rw [List.filter_filter]
    congr 1
    refine List.filter_congr fun i hi => ?_
    cases e : p i with
    | false => simp
    | true => simp [(hs i hi j h1 e h2).1]

theorem min_ex {f : Nat → Nat} : ∀ {l : List Nat}, l ≠ [] → ∃ r ∈ l, ∀ j ∈ l, f r ≤ f j
  | [x], _ => ⟨x, .head _, fun j hj => by simp at hj; rw [hj]; exact Nat.le_refl _⟩
  | x :: y :: l, _ => by
    obtain ⟨r, hr, h⟩ := min_ex (f := f) (l := y :: l) (by simp)
    rcases Nat.le_total (f x) (f r) with q | q
    · refine ⟨x, .head _, fun j hj => ?_⟩
      rcases List.mem_cons.mp hj with rfl | hj
      · exact Nat.le_refl _
      · exact Nat.le_trans q (h j hj)
    · refine ⟨r, .tail _ hr, fun j hj => ?_⟩
      rcases List.mem_cons.mp hj with rfl | hj
      · exact q
      · exact h j hj
theorem map_sum_congr {f g : Nat → Rat} : ∀ {l : List Nat}, (∀ x ∈ l, f x = g x) → (l.map f).sum = (l.map g).sum := fun h => by
  rw [List.map_congr_left h]
theorem sum_mul {f : Nat → Rat} {c : Rat} : ∀ {l : List Nat}, (l.map fun x => c * f x).sum = c * (l.map f).sum
  | [] => by simp
  | x :: l => by
    have ih := sum_mul (f := f) (c := c) (l := l)
    simp only [List.map_cons, List.sum_cons, ih]
    grind

theorem leaf_iff {k : Nat} : leaf le l k = true ↔ ∀ i ∈ l, i ≠ k → le i k = false := by
  unfold leaf
  simp only [List.all_eq_true, Bool.or_eq_true, decide_eq_true_eq, Bool.not_eq_true']
  exact ⟨fun h i hi hn => (h i hi).resolve_left hn, fun h i hi => by
    by_cases q : i = k
    · exact .inl q
    · exact .inr (h i hi q)⟩
theorem bool_ext {a b : Bool} (h : a = true ↔ b = true) : a = b := by
  cases a <;> cases b <;> simp at h ⊢

/-- the law of the last ones -/
theorem GG_eq : ∀ (n : Nat) {l : List Nat}, l.length ≤ n → Ord le ms l → GG le l = (l.length : Rat) / PP le l
  | 0, l, hn, o => by
    have : l = [] := List.length_eq_zero_iff.mp (by omega)
    subst this
    simp [GG, PP] <;> grind
  | n + 1, l, hn, o => by
    by_cases hl : l = []
    · subst hl; simp [GG, PP] <;> grind
    obtain ⟨r, hr, hmin⟩ := min_ex (f := ms) hl
    have hroot : ∀ j ∈ l, le r j = true → j = r := fun j hj e => Classical.byContradiction fun q => by
      have := o.meas r hr j hj e (Ne.symm q)
      have := hmin j hj
      omega
    by_cases hU : ∀ i ∈ l, le i r = true
    · -- one root
      have hP := PP_root o hr hU
      have hlen := len_del o.nd hr
      have hne := PP_ne (o.del r)
      by_cases hl' : del l r = []
      · have : l = [r] := by
          rw [hl'] at hlen
          obtain ⟨x, rfl⟩ := List.length_eq_one_iff.mp hlen
          simp at hr; rw [hr]
        subst this
        have hlf : leaf le [r] r = true := leaf_iff.mpr fun i hi hn => absurd (List.mem_singleton.mp hi) hn
        rw [hP, hl']
        unfold GG
        rw [List.filter_cons, if_pos hlf]
        simp only [List.filter_nil, List.map_cons, List.map_nil, List.sum_cons, List.sum_nil, hl', List.length_cons, List.length_nil, PP, List.prod_nil]
        grind
      · have ih := GG_eq n (l := del l r) (by omega) (o.del r)
        have hlf : (l.filter fun k => leaf le l k) = (del l r).filter fun k => leaf le (del l r) k := by
          show _ = (l.filter fun i => !decide (i = r)).filter _
          rw [List.filter_filter]
          refine List.filter_congr fun k hk => bool_ext ?_
          rw [Bool.and_eq_true, leaf_iff, leaf_iff]
          simp only [Bool.not_eq_true', decide_eq_false_iff_not]
          constructor
          · intro h
            refine ⟨fun i hi hn => h i (mem_del.mp hi).1 hn, fun e => ?_⟩
            subst e
            obtain ⟨x, hx⟩ := List.exists_mem_of_ne_nil _ hl'
            obtain ⟨x1, x2⟩ := mem_del.mp hx
            have := h x x1 x2
            rw [hU x x1] at this; cases this
          · rintro ⟨h, hkr⟩ i hi hn
            by_cases q : i = r
            · subst q
              cases e : le i k with
              | false => rfl
              | true => exact absurd (hroot k hk e) hkr
            · exact h i (mem_del.mpr ⟨hi, q⟩) hn
        have hd : (del l r).length ≠ 0 := fun q => hl' (List.length_eq_zero_iff.mp q)
        have hdq : (((del l r).length : Nat) : Rat) ≠ 0 := fun q => hd (Rat.natCast_inj.mp (q : _ = ((0 : Nat) : Rat)))
        have hGG : GG le l = (1 / ((del l r).length : Rat)) * GG le (del l r) := by
          unfold GG
          rw [hlf, ← sum_mul]
          refine map_sum_congr fun k hk => ?_
          have hk' := (List.mem_filter.mp hk).1
          obtain ⟨hk1, hk2⟩ := mem_del.mp hk'
          have h1 := PP_root (o.del k) (r := r) (mem_del.mpr ⟨hr, Ne.symm hk2⟩) fun i hi => hU i (mem_del.mp hi).1
          rw [del_comm] at h1
          have h2 : (del l k).length = (del l r).length := by
            have := len_del o.nd hk1; omega
          rw [h1, h2]
          have := PP_ne ((o.del r).del k)
          grind
        rw [hGG, ih, hP]
        have hl0 : l.length ≠ 0 := by omega
        have hlq : ((l.length : Nat) : Rat) ≠ 0 := fun q => hl0 (Rat.natCast_inj.mp (q : _ = ((0 : Nat) : Rat)))
        grind
    · -- two parts
      have hs : ∀ i ∈ l, ∀ j ∈ l, (fun i => le i r) i = true → (fun i => le i r) j = false → le i j = false ∧ le j i = false := by
        intro i hi j hj h1 h2
        dsimp only at h1 h2
        constructor
        · cases e : le i j with
          | false => rfl
          | true =>
            rcases o.chain i hi j hj r hr e h1 with q | q
            · rw [q] at h2; cases h2
            · rw [hroot j hj q, o.refl r hr] at h2; cases h2
        · cases e : le j i with
          | false => rfl
          | true => rw [o.trans j hj i hi r hr e h1] at h2; cases h2
      generalize hp : (fun i => le i r) = p at hs
      have hpr : p r = true := by rw [← hp]; exact o.refl r hr
      have hex : ∃ u ∈ l, p u = false := Classical.byContradiction fun q => hU fun i hi => by
        cases e : le i r with
        | true => rfl
        | false => exact absurd ⟨i, hi, by rw [← hp]; exact e⟩ q
      clear hU hroot hmin hp
      have hlen := len_split p (l := l)
      have hT : 0 < (l.filter p).length := List.length_pos_of_mem (List.mem_filter.mpr ⟨hr, hpr⟩)
      obtain ⟨u, hu, hpu⟩ := hex
      have hUl : 0 < (l.filter fun x => !p x).length := List.length_pos_of_mem (List.mem_filter.mpr ⟨hu, by rw [hpu]; rfl⟩)
      have two : ∀ a b c : Nat, c = a + b → 0 < a → 0 < b → c ≤ n + 1 → a ≤ n ∧ b ≤ n := fun a b c h1 h2 h3 h4 => by omega
      obtain ⟨t1, t2⟩ := two _ _ _ hlen hT hUl hn
      have ihT := GG_eq n (l := l.filter p) t1 (o.filter _)
      have ihU := GG_eq n (l := l.filter fun x => !p x) t2 (o.filter _)
      have nT := PP_ne (o.filter p)
      have nU := PP_ne (o.filter fun x => !p x)
      have hPl := PP_part (le := le) hs
      have hdel : ∀ k, PP le (del l k) = PP le (del (l.filter p) k) * PP le (del (l.filter fun x => !p x) k) := fun k => by
        rw [PP_part (p := p) fun i hi j hj => hs i (mem_del.mp hi).1 j (mem_del.mp hj).1]
        unfold del
        simp only [List.filter_filter, Bool.and_comm]
      have hdn : ∀ (q : Nat → Bool) k, q k = false → del (l.filter q) k = l.filter q := fun q k hk => by
        unfold del
        refine List.filter_eq_self.mpr fun x hx => ?_
        simp only [Bool.not_eq_true', decide_eq_false_iff_not]
        rintro rfl
        rw [(List.mem_filter.mp hx).2] at hk; cases hk
      have g1 : ((l.filter fun k => leaf le l k).filter p) = (l.filter p).filter fun k => leaf le (l.filter p) k := by
        rw [List.filter_filter, List.filter_filter]
        refine List.filter_congr fun k hk => bool_ext ?_
        rw [Bool.and_eq_true, Bool.and_eq_true, leaf_iff, leaf_iff]
        constructor
        · rintro ⟨h1, h2⟩
          exact ⟨fun i hi hn => h2 i (List.mem_filter.mp hi).1 hn, h1⟩
        · rintro ⟨h1, h2⟩
          refine ⟨h2, fun i hi hn => ?_⟩
          cases e : p i with
          | true => exact h1 i (List.mem_filter.mpr ⟨hi, e⟩) hn
          | false => exact (hs k hk i hi h2 e).2
      have g2 : ((l.filter fun k => leaf le l k).filter fun x => !p x) = (l.filter fun x => !p x).filter fun k => leaf le (l.filter fun x => !p x) k := by
        rw [List.filter_filter, List.filter_filter]
        refine List.filter_congr fun k hk => bool_ext ?_
        rw [Bool.and_eq_true, Bool.and_eq_true, leaf_iff, leaf_iff]
        simp only [Bool.not_eq_true']
        constructor
        · rintro ⟨h1, h2⟩
          exact ⟨fun i hi hn => h2 i (List.mem_filter.mp hi).1 hn, h1⟩
        · rintro ⟨h1, h2⟩
          refine ⟨h2, fun i hi hn => ?_⟩
          cases e : p i with
          | false => exact h1 i (List.mem_filter.mpr ⟨hi, by rw [e]; rfl⟩) hn
          | true => exact (hs i hi k hk e h2).1
      have hG : GG le l = (1 / PP le (l.filter fun x => !p x)) * GG le (l.filter p) + (1 / PP le (l.filter p)) * GG le (l.filter fun x => !p x) := by
        unfold GG
        rw [sum_split p (l := l.filter fun k => leaf le l k), g1, g2, ← sum_mul, ← sum_mul]
        congr 1
        · refine map_sum_congr fun k hk => ?_
          obtain ⟨hk1, hk2⟩ := List.mem_filter.mp (List.mem_filter.mp hk).1
          rw [hdel k, hdn (fun x => !p x) k (by rw [hk2]; rfl)]
          have := PP_ne ((o.filter p).del k)
          grind
        · refine map_sum_congr fun k hk => ?_
          obtain ⟨hk1, hk2⟩ := List.mem_filter.mp (List.mem_filter.mp hk).1
          rw [hdel k, hdn p k (by simpa using hk2)]
          have := PP_ne ((o.filter fun x => !p x).del k)
          grind
      rw [hG, ihT, ihU, hPl, hlen]
      rw [Rat.natCast_add]
      grind
end
end MineE
end

section
set_option Elab.async false
set_option maxRecDepth 10000
set_option linter.unusedVariables false
open PySem
namespace MineE
open Mine
/-- may k be the last of the set m? -/
def lastOk (ab : List Nat) (m k : Nat) : Bool := decide (m / 2^k &&& 1 = 1) && decide ((ab.getD k 0) &&& m = ab.getD k 0)
theorem lastOk_le {ab : List Nat} {m k : Nat} (h : lastOk ab m k = true) : 2^k ≤ m := by
  simp only [lastOk, Bool.and_eq_true, decide_eq_true_eq] at h
  have : m / 2^k ≠ 0 := fun e => by rw [e] at h; simp at h
  rcases Nat.lt_or_ge m (2^k) with q | q
  · exact absurd (Nat.div_eq_of_lt q) this
  · exact q
/-- in how many orders the set m can be made -/
def wayN (ab : List Nat) (m : Nat) : Nat := if hm : m = 0 then 1 else ((List.range ab.length).map fun k => if h : lastOk ab m k = true then wayN ab (m - 2^k) else 0).sum
termination_by m
decreasing_by
  have := Nat.pos_of_ne_zero hm
  have := Nat.two_pow_pos k
  have := lastOk_le h
  omega
theorem wayN_zero {ab : List Nat} : wayN ab 0 = 1 := by rw [wayN]; rfl
/-- the sum's first terms -/
def wayP (ab : List Nat) (m j : Nat) : Nat := ((List.range j).map fun k => if lastOk ab m k then wayN ab (m - 2^k) else 0).sum
theorem wayP_succ {ab : List Nat} {m j : Nat} : wayP ab m (j+1) = wayP ab m j + if lastOk ab m j then wayN ab (m - 2^j) else 0 := by
  unfold wayP; rw [List.range_succ, List.map_append, List.sum_append]; simp
theorem wayN_pos {ab : List Nat} {m : Nat} (h : m ≠ 0) : wayN ab m = wayP ab m ab.length := by
  rw [wayN, dif_neg h]; rfl

def wayT (ab : List Nat) (m p : Nat) : List D := (List.range (2^ab.length)).map fun i => .int ((if i < m then wayN ab i else if i = m then p else 0 : Nat) : Int)
theorem wayT_len {ab m p} : (wayT ab m p).length = 2^ab.length := by simp [wayT]
theorem wayT_get {ab m p i} (h : i < 2^ab.length) : (wayT ab m p)[i]? = some (.int ((if i < m then wayN ab i else if i = m then p else 0 : Nat) : Int)) := by
  simp [wayT, h]
theorem wayT_set {ab m p q} (h : m < 2^ab.length) : (wayT ab m p).set m (.int (q : Nat)) = wayT ab m q := by
  apply List.ext_getElem?
  intro i
  rw [List.getElem?_set, wayT_len]
  by_cases hi : i < 2^ab.length
  · rw [wayT_get hi, wayT_get hi]
    by_cases e : m = i
    · subst e; simp [h]
    · simp only [e, if_false, if_neg (Ne.symm e)]
  · rw [List.getElem?_eq_none (by rw [wayT_len]; omega), List.getElem?_eq_none (by rw [wayT_len]; omega)]
    split
    · rename_i e; exact absurd h (by omega)
    · rfl
theorem wayT_next {ab m} (h : m ≠ 0) : wayT ab m (wayP ab m ab.length) = wayT ab (m+1) 0 := by
  apply List.map_congr_left
  intro i _
  rw [← wayN_pos h]
  congr 2
  by_cases e : i < m
  · rw [if_pos e, if_pos (by omega)]
  · rw [if_neg e]
    by_cases q : i = m
    · rw [if_pos q, if_pos (by omega), q]
    · rw [if_neg q, if_neg (by omega)]; split <;> rfl


theorem bit_div {m k : Nat} : (m / 2^k &&& 1 = 1) ↔ m.testBit k = true := by
  rw [Nat.testBit, Nat.shiftRight_eq_div_pow, Nat.and_comm]
  rw [Nat.one_and_eq_mod_two]
  have := Nat.mod_two_eq_zero_or_one (m / 2^k)
  rcases this with h | h <;> simp [h]
theorem sub_bit : ∀ {k m : Nat}, m.testBit k = true → ∀ j, (m - 2^k).testBit j = (m.testBit j && !decide (j = k))
  | 0, m, h, j => by
    rw [Nat.testBit_zero] at h
    simp only [decide_eq_true_eq] at h
    cases j with
    | zero =>
      rw [Nat.testBit_zero, Nat.testBit_zero]
      have : (m - 2^0) % 2 = 0 := by simp; omega
      simp [this]
    | succ j =>
      rw [Nat.testBit_succ, Nat.testBit_succ]
      have : (m - 2^0) / 2 = m / 2 := by simp; omega
      rw [this]; simp
  | k + 1, m, h, j => by
    rw [Nat.testBit_succ] at h
    have ih := sub_bit (k := k) (m := m / 2) h
    have hp : 2^(k+1) = 2 * 2^k := by rw [Nat.pow_succ]; omega
    cases j with
    | zero =>
      rw [Nat.testBit_zero, Nat.testBit_zero]
      have hle : 2^k ≤ m / 2 := Nat.ge_two_pow_of_testBit h
      have : (m - 2^(k+1)) % 2 = m % 2 := by omega
      rw [this]; simp
    | succ j =>
      rw [Nat.testBit_succ, Nat.testBit_succ]
      have : (m - 2^(k+1)) / 2 = m / 2 - 2^k := by omega
      rw [this, ih j]
      congr 2
      simp

/-- a set's members -/
def mem (n m : Nat) : List Nat := (List.range n).filter fun k => m.testBit k
theorem mem_mem {n m k : Nat} : k ∈ mem n m ↔ k < n ∧ m.testBit k = true := by simp [mem]
theorem mem_sub {n m k : Nat} (h : m.testBit k = true) : mem n (m - 2^k) = del (mem n m) k := by
  unfold mem del
  rw [List.filter_filter]
  refine List.filter_congr fun j _ => ?_
  rw [sub_bit h, Bool.and_comm]
def fct : Nat → Nat
  | 0 => 1
  | n + 1 => (n + 1) * fct n

theorem fct_pos : ∀ {n : Nat}, 0 < fct n
  | 0 => by decide
  | n + 1 => Nat.mul_pos (by omega) fct_pos
theorem fct_mono : ∀ {n m : Nat}, n ≤ m → fct n ≤ fct m
  | n, 0, h => by rw [Nat.le_zero.mp h]; exact Nat.le_refl _
  | n, m + 1, h => by
    rcases Nat.lt_or_ge n (m + 1) with q | q
    · exact Nat.le_trans (fct_mono (by omega)) (Nat.le_mul_of_pos_left _ (by omega))
    · rw [show n = m + 1 by omega]; exact Nat.le_refl _
theorem fct_le {n : Nat} (h : n ≤ 8) : fct n ≤ 40320 := fct_mono h
/-- a list of masks says who lies above whom -/
structure Masks (le : Nat → Nat → Bool) (ab : List Nat) : Prop where
  bit : ∀ k j, k < ab.length → (ab.getD k 0).testBit j = (decide (j < ab.length) && !decide (j = k) && le k j)

theorem sum_ite {f : Nat → Nat} {p : Nat → Bool} : ∀ {l : List Nat}, ((l.map fun k => if p k then f k else 0).sum : Nat) = ((l.filter p).map f).sum
  | [] => rfl
  | x :: l => by
    rw [List.map_cons, List.sum_cons, sum_ite, List.filter_cons]
    cases p x <;> simp
theorem sum_cast {f : Nat → Nat} : ∀ {l : List Nat}, (((l.map f).sum : Nat) : Rat) = (l.map fun x => (f x : Rat)).sum
  | [] => by simp
  | x :: l => by simp only [List.map_cons, List.sum_cons, Rat.natCast_add, sum_cast]

section
variable {le : Nat → Nat → Bool} {ms : Nat → Nat} {ab : List Nat}
theorem lastOk_iff (M : Masks le ab) {m k : Nat} (hk : k < ab.length) : lastOk ab m k = true ↔ m.testBit k = true ∧ ∀ j < ab.length, j ≠ k → le k j = true → m.testBit j = true := by
  unfold lastOk
  rw [Bool.and_eq_true, decide_eq_true_eq, decide_eq_true_eq, bit_div]
  refine and_congr_right fun _ => ?_
  constructor
  · intro h j hj hn hl
    have : (ab.getD k 0 &&& m).testBit j = true := by rw [h, M.bit k j hk]; simp [hj, hn, hl]
    rw [Nat.testBit_and, Bool.and_eq_true] at this
    exact this.2
  · intro h
    apply Nat.eq_of_testBit_eq
    intro j
    rw [Nat.testBit_and, M.bit k j hk]
    by_cases h1 : j < ab.length <;> by_cases h2 : j = k <;> cases h3 : le k j <;> simp [h1, h2]
    exact h j h1 h2 h3

def closed (le : Nat → Nat → Bool) (n m : Nat) : Prop := ∀ k ∈ mem n m, ∀ j < n, le k j = true → j ∈ mem n m

theorem way_hook (M : Masks le ab) (o : Ord le ms (List.range ab.length)) : ∀ (N m : Nat), m ≤ N → m < 2^ab.length →
    (closed le ab.length m → (wayN ab m : Rat) = (fct (mem ab.length m).length : Rat) / PP le (mem ab.length m)) ∧ (¬ closed le ab.length m → wayN ab m = 0)
  | N, m, hN, hm => by
    by_cases h0 : m = 0
    · subst h0
      have e : mem ab.length 0 = [] := by simp [mem]
      refine ⟨fun _ => ?_, fun h => absurd (fun k hk => ?_) h⟩
      · rw [e, wayN_zero]; simp [PP, fct] <;> grind
      · rw [e] at hk; cases hk
    · cases N with
      | zero => omega
      | succ N =>
      have step : ∀ k, k < ab.length → lastOk ab m k = true → _ := fun k hk hl => way_hook M o N (m - 2^k) (by have := lastOk_le hl; have := Nat.two_pow_pos k; omega) (Nat.lt_of_le_of_lt (Nat.sub_le _ _) hm)
      constructor
      · intro hc
        have hl : ∀ k, k < ab.length → lastOk ab m k = m.testBit k := fun k hk => bool_ext (by
          rw [lastOk_iff M hk]
          refine ⟨fun h => h.1, fun h => ⟨h, fun j hj _ hle => (mem_mem.mp (hc k (mem_mem.mpr ⟨hk, h⟩) j hj hle)).2⟩⟩)
        have ol : Ord le ms (mem ab.length m) := o.filter _
        have e1 : wayN ab m = ((mem ab.length m).map fun k => wayN ab (m - 2^k)).sum := by
          rw [wayN_pos h0]
          show ((List.range ab.length).map fun k => if lastOk ab m k then wayN ab (m - 2^k) else 0).sum = _
          rw [sum_ite]
          congr 2
          exact List.filter_congr fun k hk => hl k (List.mem_range.mp hk)
        have hne : (mem ab.length m).length ≠ 0 := by
          intro q
          apply h0
          apply Nat.eq_of_testBit_eq
          intro j
          rw [Nat.zero_testBit]
          cases e : m.testBit j with
          | false => rfl
          | true =>
            have : j < ab.length := by
              rcases Nat.lt_or_ge j ab.length with q' | q'
              · exact q'
              · have := Nat.ge_two_pow_of_testBit e
                have := Nat.pow_le_pow_right (n := 2) (by omega) q'
                omega
            have := List.length_pos_of_mem (mem_mem.mpr ⟨this, e⟩)
            omega
        obtain ⟨c, hcn⟩ : ∃ c, (mem ab.length m).length = c + 1 := ⟨(mem ab.length m).length - 1, by omega⟩
        have e2 : ∀ k ∈ mem ab.length m, ((wayN ab (m - 2^k) : Nat) : Rat) = (if leaf le (mem ab.length m) k = true then (fct c : Rat) * (1 / PP le (del (mem ab.length m) k)) else 0) := by
          intro k hk
          obtain ⟨hk1, hk2⟩ := mem_mem.mp hk
          obtain ⟨s1, s2⟩ := step k hk1 (by rw [hl k hk1]; exact hk2)
          rw [mem_sub hk2] at s1
          have hdl : (del (mem ab.length m) k).length = c := by
            have := len_del ol.nd hk; omega
          have hcl : closed le ab.length (m - 2^k) ↔ leaf le (mem ab.length m) k = true := by
            unfold closed
            rw [mem_sub hk2, leaf_iff]
            constructor
            · intro h i hi hn
              cases e : le i k with
              | false => rfl
              | true => exact absurd (h i (mem_del.mpr ⟨hi, hn⟩) k hk1 e) fun q => (mem_del.mp q).2 rfl
            · intro h i hi j hj hle
              obtain ⟨hi1, hi2⟩ := mem_del.mp hi
              refine mem_del.mpr ⟨hc i hi1 j hj hle, fun q => ?_⟩
              subst q
              rw [h i hi1 hi2] at hle; cases hle
          by_cases q : leaf le (mem ab.length m) k = true
          · rw [if_pos q, s1 (hcl.mpr q), hdl]
            grind
          · rw [if_neg q, s2 fun w => q (hcl.mp w)]; rfl
        rw [e1, sum_cast, List.map_congr_left e2]
        have e3 : ((mem ab.length m).map fun k => (if leaf le (mem ab.length m) k = true then (fct c : Rat) * (1 / PP le (del (mem ab.length m) k)) else 0)).sum = (fct c : Rat) * GG le (mem ab.length m) := by
          unfold GG
          generalize mem ab.length m = L
          rw [sum_split (fun k => leaf le L k)]
          have a1 : ((L.filter fun k => leaf le L k).map fun k => (if leaf le L k = true then (fct c : Rat) * (1 / PP le (del L k)) else 0)) = ((L.filter fun k => leaf le L k).map fun k => (fct c : Rat) * (1 / PP le (del L k))) :=
            List.map_congr_left fun k hk => if_pos (List.mem_filter.mp hk).2
          have a2 : ((L.filter fun k => !leaf le L k).map fun k => (if leaf le L k = true then (fct c : Rat) * (1 / PP le (del L k)) else 0)) = ((L.filter fun k => !leaf le L k).map fun k => (0 : Rat) * 1) :=
            List.map_congr_left fun k hk => by
              have := (List.mem_filter.mp hk).2
              rw [if_neg (by simpa using this)]; grind
          rw [a1, a2, sum_mul, sum_mul]
          grind
        rw [e3, GG_eq _ (Nat.le_refl _) ol, hcn]
        have := PP_ne ol
        show _ = (((c + 1) * fct c : Nat) : Rat) / _
        rw [Rat.natCast_mul]
        grind
      · intro hc
        rw [wayN_pos h0]
        have : ∃ k0 ∈ mem ab.length m, ∃ j0, j0 < ab.length ∧ le k0 j0 = true ∧ j0 ∉ mem ab.length m := by
          refine Classical.byContradiction fun q => hc fun k hk j hj hle => Classical.byContradiction fun q' => q ⟨k, hk, j, hj, hle, q'⟩
        obtain ⟨k0, hk0, j0, hj0, hle, hj⟩ := this
        have : ∀ k ∈ List.range ab.length, (if lastOk ab m k then wayN ab (m - 2^k) else 0) = (fun _ => 0) k := by
          intro k hk
          have hk := List.mem_range.mp hk
          cases e : lastOk ab m k with
          | false => rfl
          | true =>
            rw [if_pos rfl]
            obtain ⟨l1, l2⟩ := (lastOk_iff M hk).mp e
            refine (step k hk e).2 fun w => ?_
            unfold closed at w
            rw [mem_sub l1] at w
            have hkk : k0 ≠ k := fun q => by
              subst q
              by_cases q : j0 = k0
              · subst q; exact hj hk0
              · exact hj (mem_mem.mpr ⟨hj0, l2 j0 hj0 q hle⟩)
            exact hj (mem_del.mp (w k0 (mem_del.mpr ⟨hk0, hkk⟩) j0 hj0 hle)).1
        show ((List.range ab.length).map _).sum = 0
        rw [List.map_congr_left this]
        clear this step
        generalize List.range ab.length = L
        induction L with
        | nil => rfl
        | cons x L ih => rw [List.map_cons, List.sum_cons, ih]

/-- the orders, times how many lie below each, are n factorial -/
theorem hook_law (M : Masks le ab) (o : Ord le ms (List.range ab.length)) : wayN ab (2^ab.length - 1) * ((List.range ab.length).map fun j => hk le (List.range ab.length) j).prod = fct ab.length := by
  have hp := Nat.two_pow_pos ab.length
  have e : mem ab.length (2^ab.length - 1) = List.range ab.length := by
    unfold mem
    refine List.filter_eq_self.mpr fun k hk => ?_
    rw [Nat.testBit_two_pow_sub_one]
    simpa using hk
  obtain ⟨h1, _⟩ := way_hook M o _ (2^ab.length - 1) (Nat.le_refl _) (by omega)
  have h2 := h1 fun k hk j hj _ => by rw [e]; exact List.mem_range.mpr hj
  rw [e, List.length_range] at h2
  have hne := PP_ne o
  have hPP : ((((List.range ab.length).map fun j => hk le (List.range ab.length) j).prod : Nat) : Rat) = PP le (List.range ab.length) := by
    unfold PP
    generalize hk le (List.range ab.length) = f
    generalize List.range ab.length = L
    induction L with
    | nil => rfl
    | cons x L ih => simp only [List.map_cons, List.prod_cons, Rat.natCast_mul, ih]
  refine Rat.natCast_inj.mp ?_
  rw [Rat.natCast_mul, h2, hPP]
  grind
end
end MineE
end

section
set_option Elab.async false
set_option maxRecDepth 10000
set_option linter.unusedVariables false
open PySem
namespace MineE
open Mine
/-- the names that commonpath keeps -/
def pc (c : List Nat) : Bool := !c.isEmpty && !decide (c = [46])
theorem pc_nil : pc [] = false := rfl
abbrev Place := List (List Nat) × List Nat
def plD (o : Bool) (p : Place) : D := .tup [.lst (txts false p.1), .txt o p.2]
structure okN (c : List Nat) : Prop where
  sl : 47 ∉ c
  pc : pc c = true
  len : c.length ≤ 3
  ne : c ≠ []
  asc : ∀ x ∈ c, x < 128
structure PlOk (r : Bool) (pl : List Place) : Prop where
  len1 : 1 ≤ pl.length
  len9 : pl.length ≤ 9
  zero : pl[0]? = some ([], if r then [47] else [])
  cm : ∀ p ∈ pl, cmps pc p.2 = p.1
  ab : ∀ p ∈ pl, [47].isPrefixOf p.2 = r
  asc : ∀ p ∈ pl, ∀ c ∈ p.2, c < 128
  tl : ∀ p ∈ pl, p.2.length ≤ 6 * pl.length
  rl : ∀ p ∈ pl, p.1.length ≤ pl.length
  nm : ∀ p ∈ pl, ∀ c ∈ p.1, okN c
  nd : (pl.map (·.1)).Nodup
theorem plOk_start {r : Bool} : PlOk r [([], if r then [47] else [])] where
  len1 := by simp
  len9 := by simp
  zero := rfl
  cm := by intro p hp; rw [List.mem_singleton.mp hp]; cases r <;> decide
  ab := by intro p hp; rw [List.mem_singleton.mp hp]; cases r <;> decide
  asc := by intro p hp; rw [List.mem_singleton.mp hp]; cases r <;> simp
  tl := by intro p hp; rw [List.mem_singleton.mp hp]; cases r <;> simp
  rl := by intro p hp; rw [List.mem_singleton.mp hp]; simp
  nm := by intro p hp; rw [List.mem_singleton.mp hp]; simp
  nd := by simp
theorem pre_app {x y : List Nat} (h : x ≠ []) : [47].isPrefixOf (x ++ y) = [47].isPrefixOf x := by
  cases x with
  | nil => exact absurd rfl h
  | cons a x => simp [List.isPrefixOf]
def noises : List (List Nat) := [[], [47], [47, 46]]
theorem plOk_more {r : Bool} {pl : List Place} {row : List (List Nat)} {text name noise : List Nat} (P : PlOk r pl) (hl : pl.length < 9) (hm : (row, text) ∈ pl) (hn : okN name) (hz : noise ∈ noises) (hnew : row ++ [name] ∉ pl.map (·.1)) :
    PlOk r (pl ++ [(row ++ [name], joinP text name ++ noise)]) := by
  have hj := joinP_ne (a := text) hn.ne
  have hnl : noise.length ≤ 2 := by
    simp [noises] at hz; rcases hz with rfl | rfl | rfl <;> simp
  have hna : ∀ c ∈ noise, c < 128 := by
    simp [noises] at hz; rcases hz with rfl | rfl | rfl <;> simp
  have h1 : cmps pc (joinP text name ++ noise) = row ++ [name] := by
    have e : cmps pc (joinP text name) = row ++ [name] := by
      rw [cmps_joinP pc_nil hn.sl hn.pc, P.cm _ hm]
    simp [noises] at hz
    rcases hz with rfl | rfl | rfl
    · rw [List.append_nil, e]
    · rw [cmps_app, cmps_nil pc_nil, List.append_nil, e]
    · rw [cmps_app, e, show cmps pc [46] = [] by decide, List.append_nil]
  exact {
    len1 := by simp
    len9 := by simp; omega
    zero := by rw [List.getElem?_append_left (by have := P.len1; omega)]; exact P.zero
    cm := fun p hp => by
      rcases List.mem_append.mp hp with h | h
      · exact P.cm p h
      · rw [List.mem_singleton.mp h]; exact h1
    ab := fun p hp => by
      rcases List.mem_append.mp hp with h | h
      · exact P.ab p h
      · rw [List.mem_singleton.mp h]
        show [47].isPrefixOf (joinP text name ++ noise) = r
        rw [pre_app hj, joinP_abs hn.sl hn.ne]; exact P.ab _ hm
    asc := fun p hp => by
      rcases List.mem_append.mp hp with h | h
      · exact P.asc p h
      · rw [List.mem_singleton.mp h]
        intro c hc
        rcases List.mem_append.mp hc with h | h
        · rcases joinP_mem h with h | h | h
          · exact P.asc _ hm c h
          · exact hn.asc c h
          · omega
        · exact hna c h
    tl := fun p hp => by
      rw [List.length_append, List.length_singleton]
      rcases List.mem_append.mp hp with h | h
      · have := P.tl p h; omega
      · rw [List.mem_singleton.mp h]
        have := P.tl _ hm
        have := joinP_len (a := text) (b := name)
        have := hn.len
        simp only [List.length_append] at *
        omega
    rl := fun p hp => by
      rw [List.length_append, List.length_singleton]
      rcases List.mem_append.mp hp with h | h
      · have := P.rl p h; omega
      · rw [List.mem_singleton.mp h]
        have := P.rl _ hm
        simp only [List.length_append, List.length_singleton] at *
        omega
    nm := fun p hp => by
      rcases List.mem_append.mp hp with h | h
      · exact P.nm p h
      · rw [List.mem_singleton.mp h]
        intro c hc
        rcases List.mem_append.mp hc with h | h
        · exact P.nm _ hm c h
        · rw [List.mem_singleton.mp h]; exact hn
    nd := by
      rw [List.map_append, List.nodup_append]
      refine ⟨P.nd, by simp, fun a ha b hb => ?_⟩
      simp at hb
      subst hb
      exact fun q => hnew (q ▸ ha) }

/-- the listed folders -/
structure LsOk (r : Bool) (L : List Place) : Prop where
  len8 : L.length ≤ 8
  cm : ∀ p ∈ L, cmps pc p.2 = p.1
  ab : ∀ p ∈ L, [47].isPrefixOf p.2 = r
  asc : ∀ p ∈ L, ∀ c ∈ p.2, c < 128
  tl : ∀ p ∈ L, p.2.length ≤ 54
  rl : ∀ p ∈ L, p.1.length ≤ 9
  nm : ∀ p ∈ L, ∀ c ∈ p.1, okN c
  nd : (L.map (·.1)).Nodup
theorem lsOk_of {r : Bool} {pl L : List Place} (P : PlOk r pl) (h : L.Sublist pl.tail) : LsOk r L := by
  have hs : ∀ p ∈ L, p ∈ pl := fun p hp => List.mem_of_mem_tail (h.subset hp)
  have h9 := P.len9
  exact {
    len8 := by have := h.length_le; simp at this; omega
    cm := fun p hp => P.cm p (hs p hp)
    ab := fun p hp => P.ab p (hs p hp)
    asc := fun p hp => P.asc p (hs p hp)
    tl := fun p hp => by have := P.tl p (hs p hp); omega
    rl := fun p hp => by have := P.rl p (hs p hp); omega
    nm := fun p hp => P.nm p (hs p hp)
    nd := P.nd.sublist ((h.trans (List.tail_sublist _)).map _) }

/-- does j lie at or above i? -/
def leL (L : List Place) (i j : Nat) : Bool := decide ((L.getD j default).1 <+: (L.getD i default).1)
theorem ord_leL {r : Bool} {L : List Place} (P : LsOk r L) : Ord (leL L) (fun i => (L.getD i default).1.length) (List.range L.length) where
  nd := List.nodup_range
  refl := fun i _ => by simp [leL]
  meas := fun i hi j hj h hn => by
    simp only [leL, decide_eq_true_eq] at h
    rcases Nat.lt_or_ge (L.getD j default).1.length (L.getD i default).1.length with q | q
    · exact q
    · exfalso
      have e := h.eq_of_length_le q
      have hi := List.mem_range.mp hi
      have hj := List.mem_range.mp hj
      have hnd := P.nd
      rw [List.Nodup, List.pairwise_iff_getElem] at hnd
      simp only [List.getD_eq_getElem?_getD, List.getElem?_eq_getElem hi, List.getElem?_eq_getElem hj, Option.getD_some] at e
      rcases Nat.lt_or_gt_of_ne hn with q | q
      · refine hnd i j (by simpa using hi) (by simpa using hj) q ?_
        rw [List.getElem_map, List.getElem_map, e]
      · refine hnd j i (by simpa using hj) (by simpa using hi) q ?_
        rw [List.getElem_map, List.getElem_map, e]
  trans := fun i _ j _ k _ h1 h2 => by
    simp only [leL, decide_eq_true_eq] at h1 h2 ⊢
    exact h2.trans h1
  chain := fun i _ j _ k _ h1 h2 => by
    simp only [leL, decide_eq_true_eq] at h1 h2 ⊢
    exact (List.prefix_or_prefix_of_prefix h1 h2).symm

/-- what commonpath says of two listed folders -/
theorem told_eq {r : Bool} {L : List Place} (P : LsOk r L) {p q : Place} (hp : p ∈ L) (hq : q ∈ L) :
    ((if r then [47] else []) ++ joinC [47] (lcp (cmps pc p.2) (cmps pc q.2)) = (if r then [47] else []) ++ joinC [47] q.1) ↔ q.1 <+: p.1 := by
  rw [P.cm p hp, P.cm q hq, ← lcp_eq_right]
  constructor
  · intro h
    have h := List.append_cancel_left h
    have := congrArg (cmps pc) h
    rw [cmps_joinC pc_nil (fun b hb => ⟨(P.nm p hp b (lcp_sub b hb)).sl, (P.nm p hp b (lcp_sub b hb)).pc⟩), cmps_joinC pc_nil (fun b hb => ⟨(P.nm q hq b hb).sl, (P.nm q hq b hb).pc⟩)] at this
    exact this
  · intro h; rw [h]

/-- masks, term by term -/
def abv (le : Nat → Nat → Bool) (i J : Nat) : Nat := ((List.range J).map fun j => if le i j && !decide (i = j) then 2^j else 0).sum
def blw (le : Nat → Nat → Bool) (j I : Nat) : Nat := ((List.range I).map fun i => if le i j then 1 else 0).sum
theorem abv_succ {le i J} : abv le i (J+1) = abv le i J + if le i J && !decide (i = J) then 2^J else 0 := by
  unfold abv; rw [List.range_succ, List.map_append, List.sum_append]; simp
theorem blw_succ {le j I} : blw le j (I+1) = blw le j I + if le I j then 1 else 0 := by
  unfold blw; rw [List.range_succ, List.map_append, List.sum_append]; simp
theorem abv_lt {le i} : ∀ {J}, abv le i J < 2^J
  | 0 => by simp [abv]
  | J + 1 => by
    have := abv_lt (le := le) (i := i) (J := J)
    rw [abv_succ, Nat.pow_succ]
    split <;> omega
theorem blw_le {le j} : ∀ {I}, blw le j I ≤ I
  | 0 => by simp [blw]
  | I + 1 => by
    have := blw_le (le := le) (j := j) (I := I)
    rw [blw_succ]
    split <;> omega
theorem abv_bit {le i} : ∀ {J j}, (abv le i J).testBit j = (decide (j < J) && !decide (j = i) && le i j)
  | 0, j => by simp [abv]
  | J + 1, j => by
    have ih := abv_bit (le := le) (i := i) (J := J) (j := j)
    rw [abv_succ]
    have hlt := abv_lt (le := le) (i := i) (J := J)
    by_cases h : (le i J && !decide (i = J)) = true
    · rw [if_pos h]
      rw [Bool.and_eq_true] at h
      rw [Nat.add_comm]
      rcases Nat.lt_trichotomy j J with q | q | q
      · rw [Nat.testBit_two_pow_add_gt q, ih]
        simp [q, show j < J + 1 by omega]
      · subst q
        rw [Nat.testBit_two_pow_add_eq, ih]
        have := h.2
        simp at this
        simp [h.1, Ne.symm this]
      · rw [Nat.testBit_lt_two_pow]
        · simp [show ¬ j < J + 1 by omega]
        · have := Nat.pow_le_pow_right (n := 2) (by omega) (show J + 1 ≤ j by omega)
          rw [Nat.pow_succ] at this
          omega
    · rw [if_neg h, Nat.add_zero, ih]
      rcases Nat.lt_trichotomy j J with q | q | q
      · simp [q, show j < J + 1 by omega]
      · subst q
        simp only [Nat.lt_irrefl, decide_false, Bool.false_and]
        cases e : le i j
        · simp
        · rw [e] at h
          simp at h
          simp [h]
      · simp [show ¬ j < J + 1 by omega, show ¬ j < J by omega]
theorem masks_abv {le : Nat → Nat → Bool} {n : Nat} : Masks le ((List.range n).map fun i => abv le i n) where
  bit := fun k j hk => by
    simp only [List.length_map, List.length_range] at hk ⊢
    rw [show ((List.range n).map fun i => abv le i n).getD k 0 = abv le k n by simp [hk], abv_bit]
theorem blw_hk {le : Nat → Nat → Bool} {n j : Nat} : blw le j n = hk le (List.range n) j := by
  unfold blw hk
  generalize List.range n = l
  induction l with
  | nil => rfl
  | cons x l ih => rw [List.map_cons, List.sum_cons, ih, List.filter_cons]; split <;> simp <;> omega
theorem joinC_mem {c : Nat} : ∀ {l : List (List Nat)}, c ∈ joinC [47] l → c = 47 ∨ ∃ x ∈ l, c ∈ x
  | [], h => by simp [joinC] at h
  | [b], h => .inr ⟨b, .head _, h⟩
  | b :: d :: l, h => by
    rw [show joinC [47] (b :: d :: l) = b ++ [47] ++ joinC [47] (d :: l) from rfl, List.append_assoc, List.mem_append] at h
    rcases h with h | h
    · exact .inr ⟨b, .head _, h⟩
    · rcases List.mem_cons.mp h with h | h
      · exact .inl h
      · rcases joinC_mem h with h | ⟨x, h1, h2⟩
        · exact .inl h
        · exact .inr ⟨x, .tail _ h1, h2⟩
/-- a list of n ints -/
def tab (n : Nat) (u : Nat → Nat) : List D := (List.range n).map fun t => D.int (u t : Nat)
theorem tab_len {n u} : (tab n u).length = n := by simp [tab]
theorem tab_get {n u t} (h : t < n) : (tab n u)[t]? = some (.int (u t : Nat)) := by simp [tab, h]
theorem tab_congr {n u v} (h : ∀ t < n, u t = v t) : tab n u = tab n v := List.map_congr_left fun t ht => by rw [h t (List.mem_range.mp ht)]
theorem tab_set {n u k v} (h : k < n) : (tab n u).set k (.int (v : Nat)) = tab n fun t => if t = k then v else u t := by
  apply List.ext_getElem?
  intro i
  rw [List.getElem?_set, tab_len]
  by_cases hi : i < n
  · rw [tab_get hi, tab_get hi]
    by_cases e : k = i
    · subst e; simp [h]
    · simp only [e, if_false, if_neg (Ne.symm e)]
  · have e : ¬ k = i := by omega
    rw [if_neg e, List.getElem?_eq_none (by rw [tab_len]; omega), List.getElem?_eq_none (by rw [tab_len]; omega)]
theorem tab_zero {n} : List.replicate n (.int 0) = tab n fun _ => 0 := by
  apply List.ext_getElem?
  intro i
  rw [List.getElem?_replicate]
  by_cases hi : i < n
  · rw [tab_get hi, if_pos hi]; rfl
  · rw [if_neg hi, List.getElem?_eq_none (by rw [tab_len]; omega)]
theorem tab_map {n u} : tab n u = ((List.range n).map u).map fun (a : Nat) => .int a := by simp [tab]
def uA (le : Nat → Nat → Bool) (n i j t : Nat) : Nat := if t < i then abv le t n else if t = i then abv le i j else 0
def uB (le : Nat → Nat → Bool) (i j t : Nat) : Nat := blw le t (if t < j then i + 1 else i)
theorem uA_zero {le n} : tab n (uA le n 0 0) = tab n fun _ => 0 := tab_congr fun t _ => by
  unfold uA; rw [if_neg (by omega)]; split <;> simp [abv]
theorem uB_zero {le n} : tab n (uB le 0 0) = tab n fun _ => 0 := tab_congr fun t _ => by
  unfold uB; rw [if_neg (by omega)]; simp [blw]
theorem uA_next {le n i} : tab n (uA le n i n) = tab n (uA le n (i+1) 0) := tab_congr fun t _ => by
  unfold uA
  by_cases h : t < i
  · rw [if_pos h, if_pos (by omega)]
  · rw [if_neg h]
    by_cases q : t = i
    · rw [if_pos q, if_pos (by omega), q]
    · rw [if_neg q, if_neg (by omega)]; split <;> simp [abv]
theorem uB_next {le n i} : tab n (uB le i n) = tab n (uB le (i+1) 0) := tab_congr fun t ht => by
  unfold uB; rw [if_pos ht, if_neg (by omega)]
theorem uA_all {le n} : tab n (uA le n n 0) = tab n fun t => abv le t n := tab_congr fun t ht => by
  unfold uA; rw [if_pos ht]
theorem uB_all {le n} : tab n (uB le n 0) = tab n fun t => blw le t n := tab_congr fun t ht => by
  unfold uB; rw [if_neg (by omega)]
theorem uA_set {le n i j} (h : i < n) : (tab n (uA le n i j)).set i (.int (abv le i (j+1) : Nat)) = tab n (uA le n i (j+1)) := by
  rw [tab_set h]
  refine tab_congr fun t _ => ?_
  unfold uA
  by_cases q : t = i
  · subst q; simp
  · rw [if_neg q, if_neg q, if_neg q]
theorem uB_set {le n i j} (h : j < n) : (tab n (uB le i j)).set j (.int (blw le j (i+1) : Nat)) = tab n (uB le i (j+1)) := by
  rw [tab_set h]
  refine tab_congr fun t _ => ?_
  unfold uB
  by_cases q : t = j
  · subst q; rw [if_pos rfl, if_pos (by omega)]
  · rw [if_neg q]
    by_cases w : t < j
    · rw [if_pos w, if_pos (by omega)]
    · rw [if_neg w, if_neg (by omega)]
theorem uA_skip {le n i j} (h : le i j = false) : tab n (uA le n i (j+1)) = tab n (uA le n i j) := tab_congr fun t _ => by
  unfold uA; rw [abv_succ, h]; rfl
theorem uB_skip {le n i j} (h : le i j = false) : tab n (uB le i (j+1)) = tab n (uB le i j) := tab_congr fun t _ => by
  unfold uB
  by_cases q : t = j
  · subst q; rw [if_pos (by omega), if_neg (by omega), blw_succ, h]; rfl
  · by_cases w : t < j
    · rw [if_pos w, if_pos (by omega)]
    · rw [if_neg w, if_neg (by omega)]
theorem uA_here {le n i j} : uA le n i j i = abv le i j := by unfold uA; simp
theorem uB_here {le i j} : uB le i j j = blw le j i := by unfold uB; simp
def JoinOk (Φ : Str → List D → Option D) : Prop := ∀ (o : Bool) (a b : List Nat), a.length ≤ 1000 → b.length ≤ 1000 → Φ (Str.ofString "join") [.txt o a, .txt o b] = some (.txt o (joinP a b))
def ComOk (Φ : Str → List D → Option D) : Prop := ∀ (o ab : Bool) (x y : List Nat), x.length ≤ 1000 → y.length ≤ 1000 → (cmps pc x).length ≤ 60 → (cmps pc y).length ≤ 60 → (∀ c ∈ cmps pc x, c.length ≤ 1000) → [47].isPrefixOf x = ab → [47].isPrefixOf y = ab →
  Φ (Str.ofString "commonpath") [.lst [.txt o x, .txt o y]] = some (.txt o ((if ab then [47] else []) ++ joinC [47] (lcp (cmps pc x) (cmps pc y))))
end MineE
end

section
set_option Elab.async false
set_option maxRecDepth 10000
set_option linter.unusedVariables false
open PySem
namespace MineE
open Mine
local macro_rules | `(tactic| walk_at "ev") => `(tactic| simp only [ofString_inj, String.reduceEq, ro_cons, ro_set, hide_get, hideL_nil, hideL_local, hideL_free, hideL_cell, hideL_glob, none_unset, Bool.false_eq_true, if_true, if_false, reduceIte, AV.strict, AV.loose, ev_const, ev_name, ev_bin, ev_usub, ev_ifexp, ev_list, ev_tuple, ev_slhi, ev_sllo, ev_subName, ev_subBin, ev_subConst, ev_subUn, ev_subSub, ev_meth, evB_name, evB_bin, evB_const, evB_sub, evB_call, evB_list, evB_tuple, evB_comp, evB_ifexp, evB_cmp, evB_usub, ev_len, ev_sum, ev_type, ev_lst, ev_max, ev_min, ev_fspath, ev_getsep, ev_join, ev_commonpath, ev_orders, ev_merge, ev_least, tst_not, tst_bool, tst_eq, tst_ne, tst_lt, tst_gt, tst_is, tst_in, tst_notin, tst_name, tst_call, ev_eq, ev_ne, ev_lt, ev_gt, src_range1, src_range2, src_name, constInt, mapO_cons, mapO_nil, cons2_some, op2_some, op2b_some, neg1_int, iteE_t, iteE_f, truthO_some, meth2_some, call1_some, callΦ_some, slc_hi, slc_lo, idxO_some, cmp_eq, cmp_ne, cmp_lt, cmp_gt, pickOS_lst, pickOS_tup, cS_, cSslash, cSdot, cSsd, cSa, cSb, cSc, cSab, cSam, cSadb, cSlat, cBslash, cBdot, cBa, cBb, cNone, cBool, type_txt, truth_bool, eq_bool, eq_txt, boolT_and, boolT_or, oneTest, Option.map_some, and_nat, and_one, add_nat, eq_nat, eq_one, *])
section
variable {Φ : Str → List D → Option D} {ow : Str → Bool} {fz : Nat → List Str} {ρ : Ro}

theorem fspath_run {o : Bool} {x : List Nat} (hz : ∀ l, fz l = []) (hp : ρ.get (Str.ofString "path") = .frz (.txt o x)) :
    Post (fun f _ => f = .ret (.txt o x)) (exs Φ ow fz 60 ((bodyAt pw 9).take 2) ρ) := by
  refine post_step (exS_frz (.typ (if o then "bytes" else "str")) (hz _) rfl ?_ rfl) ?_
  · walk_at "ev"
  refine post_cons (post_if (c := true) (hz _) ?_ (fun _ => ?_) (fun h => nomatch h))
  · rw [tst_call, ev_issub (s := if o then "bytes" else "str")]
    · rfl
    · walk_at "ev"
    · cases o <;> decide
  · refine post_ret (exS_ret (hz _) (d := .txt o x) ?_) rfl
    walk_at "ev"

theorem getsep_run {o : Bool} {x : List Nat} (hz : ∀ l, fz l = []) (hp : ρ.get (Str.ofString "path") = .frz (.txt o x)) :
    Post (fun f _ => f = .ret (.txt o [47])) (exs Φ ow fz 60 (bodyAt pw 13) ρ) := by
  refine post_cons (post_if (c := o) (hz _) ?_ (fun h => ?_) (fun h => ?_))
  · rw [tst_call, ev_isbytes (o := o) (cs := x)]
    · rfl
    · walk_at "ev"
  · subst h
    refine post_ret (exS_ret (hz _) (d := .txt true [47]) ?_) rfl
    walk_at "ev"
  · subst h
    refine post_ret (exS_ret (hz _) (d := .txt false [47]) ?_) rfl
    walk_at "ev"

theorem join_run {o : Bool} {a b : List Nat} (hz : ∀ l, fz l = []) (hfs : ∀ o x, Φ (Str.ofString "fspath") [.txt o x] = some (.txt o x)) (hgs : ∀ o x, Φ (Str.ofString "_get_sep") [.txt o x] = some (.txt o [47]))
    (la : a.length ≤ 1000) (lb : b.length ≤ 1000) (ha : ρ.get (Str.ofString "a") = .frz (.txt o a)) (hp : ρ.get (Str.ofString "p") = .frz (.tup [.txt o b])) :
    Post (fun f _ => f = .ret (.txt o (joinP a b))) (exs Φ ow fz 60 (bodyAt pw 14) ρ) := by
  have hlim : lim = 1048576 := rfl
  refine post_step (exS_frz (.txt o a) (hz _) rfl ?_ rfl) ?_
  · walk_at "ev"
  refine post_step (exS_frz (.txt o [47]) (hz _) rfl ?_ rfl) ?_
  · walk_at "ev"
  refine post_step (exS_frz (.txt o a) (hz _) rfl ?_ rfl) ?_
  · walk_at "ev"
  refine post_seq (fun ρ => ρ.get (Str.ofString "path") = .frz (.txt o (joinP a b))) (post_try (hz _) ?_) ?_
  · refine post_seq (fun ρ => ρ.get (Str.ofString "path") = .frz (.txt o (joinP a b))) (post_mono (post_for (fun j ρ => ρ.get (Str.ofString "sep") = .frz (.txt o [47]) ∧ ρ.get (Str.ofString "path") = .frz (.txt o (if j = 0 then a else joinP a b))) 1 (ds := [.txt o b]) rfl (hz _) ?_ ?_ ?_ ?_) ?_) ?_
    · simp only [ownName]; walk_at "ev"
    · walk_at "ev"
    · walk_at "ev"
      exact ⟨trivial, trivial⟩
    · intro j d ρ hd ⟨hs, hpa⟩
      have hj : j = 0 := by
        cases j with
        | zero => rfl
        | succ j => simp at hd
      subst hj
      simp at hd
      subst hd
      simp only [if_true] at hpa
      refine post_step (exS_frz (.txt o b) (hz _) rfl ?_ rfl) ?_
      · walk_at "ev"
      have h1 := m_starts (o := o) (x := b) (y := [47]) (by omega) (by simp [hlim])
      have h2 := truth_txt (o := o) (x := a) (by omega)
      have h3 := m_ends (o := o) (x := a) (y := [47]) (by omega) (by simp [hlim])
      refine post_cons (post_if (c := [47].isPrefixOf b || a.isEmpty) (hz _) ?_ (fun hc => ?_) (fun hc => ?_))
      · walk_at "ev"
        cases [47].isPrefixOf b <;> cases a.isEmpty <;> rfl
      · refine post_step (exS_frz (.txt o b) (hz _) rfl ?_ rfl) (post_nil (post_nil ⟨rfl, ?_⟩))
        · walk_at "ev"
        · walk_at "ev"
          simp [joinP, hc]
      · refine post_cons (post_if (c := [47].isSuffixOf a) (hz _) ?_ (fun hd => ?_) (fun hd => ?_))
        · walk_at "ev"
        · refine post_step (exS_aug (hz _) (a := .txt o a) (b := .txt o b) (d := .txt o (a ++ b)) ?_ ?_ ?_) (post_nil (post_nil (post_nil ⟨rfl, ?_⟩)))
          · walk_at "ev"
          · walk_at "ev"
          · exact augT (by omega)
          · walk_at "ev"
            simp [joinP, hc, hd]
        · refine post_step (exS_aug (hz _) (a := .txt o a) (b := .txt o (47 :: b)) (d := .txt o (a ++ (47 :: b))) ?_ ?_ ?_) (post_nil (post_nil (post_nil ⟨rfl, ?_⟩)))
          · walk_at "ev"
          · walk_at "ev"
            rw [addT (by simp; omega)]; rfl
          · exact augT (by simp; omega)
          · walk_at "ev"
            simp [joinP, hc, hd]
    · rintro f ρ ⟨rfl, h1, h2⟩
      exact ⟨rfl, h2⟩
    · intro ρ1 h1
      exact post_nil ⟨rfl, h1⟩
  · intro ρ1 h1
    refine post_ret (exS_ret (hz _) (d := .txt o (joinP a b)) ?_) rfl
    walk_at "ev"
end
end MineE
end

section
set_option Elab.async false
set_option maxRecDepth 10000
set_option linter.unusedVariables false
open PySem
namespace MineE
open Mine
local macro_rules | `(tactic| walk_at "ev") => `(tactic| simp only [ofString_inj, String.reduceEq, ro_cons, ro_set, hide_get, hideL_nil, hideL_local, hideL_free, hideL_cell, hideL_glob, none_unset, Bool.false_eq_true, if_true, if_false, reduceIte, AV.strict, AV.loose, ev_const, ev_name, ev_bin, ev_usub, ev_ifexp, ev_list, ev_tuple, ev_slhi, ev_sllo, ev_subName, ev_subBin, ev_subConst, ev_subUn, ev_subSub, ev_meth, evB_name, evB_bin, evB_const, evB_sub, evB_call, evB_list, evB_tuple, evB_comp, evB_ifexp, evB_cmp, evB_usub, ev_len, ev_sum, ev_type, ev_lst, ev_max, ev_min, ev_fspath, ev_getsep, ev_join, ev_commonpath, ev_orders, ev_merge, ev_least, tst_not, tst_bool, tst_eq, tst_ne, tst_lt, tst_gt, tst_is, tst_in, tst_notin, tst_name, tst_call, ev_eq, ev_ne, ev_lt, ev_gt, src_range1, src_range2, src_name, constInt, mapO_cons, mapO_nil, cons2_some, op2_some, op2b_some, neg1_int, iteE_t, iteE_f, truthO_some, meth2_some, call1_some, callΦ_some, slc_hi, slc_lo, idxO_some, cmp_eq, cmp_ne, cmp_lt, cmp_gt, pickOS_lst, pickOS_tup, cS_, cSslash, cSdot, cSsd, cSa, cSb, cSc, cSab, cSam, cSadb, cSlat, cBslash, cBdot, cBa, cBb, cNone, cBool, type_txt, truth_bool, eq_bool, eq_txt, boolT_and, boolT_or, oneTest, Option.map_some, and_nat, and_one, add_nat, eq_nat, eq_one, *])
section
variable {Φ : Str → List D → Option D} {ow : Str → Bool} {fz : Nat → List Str} {ρ : Ro}

/-- a for that may break -/
theorem forT_brk {asg : D → Ro → Option Ro} {body : Ro → Option (Flw × Ro)} (P : Nat → Ro → Prop) (Q : Ro → Prop) : ∀ {ds : List D} {k : Nat} {ρ : Ro}, P k ρ → (∀ j d ρ, ds[j]? = some d → P (k + j) ρ → ∃ ρ1, asg d ρ = some ρ1 ∧ Post (fun f ρ2 => (f = .next ∧ P (k + j + 1) ρ2) ∨ (f = .brk ∧ Q ρ2)) (body ρ1)) → Post (Nxt fun ρ' => P (k + ds.length) ρ' ∨ Q ρ') (forT asg body ds ρ)
  | [], k, ρ, h0, _ => ⟨_, ρ, rfl, rfl, .inl h0⟩
  | d :: ds, k, ρ, h0, hs => by
    obtain ⟨ρ1, h1, f, ρ2, h2, h3⟩ := hs 0 d ρ rfl h0
    rcases h3 with ⟨rfl, h3⟩ | ⟨rfl, hv⟩
    · have := forT_brk (asg := asg) (body := body) P Q (ds := ds) (k := k + 1) h3 fun j e σ he hp => by
        have := hs (j + 1) e σ he (by rw [show k + (j + 1) = k + 1 + j by omega]; exact hp)
        rwa [show k + (j + 1) + 1 = k + 1 + j + 1 by omega] at this
      unfold forT
      rw [h1]; dsimp only
      rw [h2]; dsimp only
      rw [List.length_cons, show k + (ds.length + 1) = k + 1 + ds.length by omega]; exact this
    · unfold forT
      rw [h1]; dsimp only
      rw [h2]
      exact ⟨_, _, rfl, rfl, .inr hv⟩

theorem commonpath_run {o ab : Bool} {x y : List Nat} (hz : ∀ l, fz l = []) (how : ∀ x, ow x = false) (hfs : ∀ o x, Φ (Str.ofString "fspath") [.txt o x] = some (.txt o x))
    (lx : x.length ≤ 1000) (ly : y.length ≤ 1000) (cx : (cmps pc x).length ≤ 60) (cy : (cmps pc y).length ≤ 60) (mx : ∀ c ∈ cmps pc x, c.length ≤ 1000)
    (ax : [47].isPrefixOf x = ab) (ay : [47].isPrefixOf y = ab)
    (hp : ρ.get (Str.ofString "paths") = .frz (.lst [.txt o x, .txt o y])) :
    Post (fun f _ => f = .ret (.txt o ((if ab then [47] else []) ++ joinC [47] (lcp (cmps pc x) (cmps pc y))))) (exs Φ ow fz 60 (bodyAt pw 15) ρ) := by
  have hlim : lim = 1048576 := rfl
  refine post_step (exS_frz (.tup [.txt o x, .txt o y]) (hz _) rfl ?_ rfl) ?_
  · refine ev_tupmap (ds := [.txt o x, .txt o y]) ?_ (by simp) (by simp) rfl ?_ rfl
    · walk_at "ev"
    · simp only [mapO, hfs]; rfl
  refine post_cons (post_if (c := false) (hz _) ?_ (fun h => nomatch h) (fun _ => ?_))
  · walk_at "ev"
    rw [truth_tup (by simp [hlim])]; rfl
  refine post_nil ?_
  refine post_seq (fun ρ => ρ.get (Str.ofString "paths") = .frz (.tup [.txt o x, .txt o y]) ∧ ρ.get (Str.ofString "sep") = .frz (.txt o [47]) ∧ ρ.get (Str.ofString "curdir") = .frz (.txt o [46])) (post_if (c := o) (hz _) ?_ (fun h => ?_) (fun h => ?_)) ?_
  · rw [tst_call, ev_isbytes (o := o) (cs := x)]
    · rfl
    · walk_at "ev"
      exact idx_tup (k := 0) (by simp [hlim]) rfl
  · subst h
    refine post_step (exS_frz (.txt true [47]) (hz _) rfl ?_ rfl) (post_step (exS_frz (.txt true [46]) (hz _) rfl ?_ rfl) (post_nil ⟨rfl, ?_⟩)) <;> walk_at "ev"
    exact ⟨trivial, trivial, trivial⟩
  · subst h
    refine post_step (exS_frz (.txt false [47]) (hz _) rfl ?_ rfl) (post_step (exS_frz (.txt false [46]) (hz _) rfl ?_ rfl) (post_nil ⟨rfl, ?_⟩)) <;> walk_at "ev"
    exact ⟨trivial, trivial, trivial⟩
  clear hp
  intro ρ ⟨hp, hs, hc⟩
  refine post_cons (post_try (hz _) ?_)
  have s1 := m_split (o := o) (x := x) (c := 47) (by omega)
  have s2 := m_split (o := o) (x := y) (c := 47) (by omega)
  refine post_step (exS_frz (.lst [.lst ((splitC 47 x).map (.txt o)), .lst ((splitC 47 y).map (.txt o))]) (hz _) rfl ?_ (by simp only [storeNew, how]; rfl)) ?_
  · refine ev_compM _ (fun d => match d with
      | .txt o x => .lst ((splitC 47 x).map (.txt o))
      | d => d) (ds := [.txt o x, .txt o y]) rfl ?_ ?_ (by simp [hlim]) ?_
    · walk_at "ev"
    · walk_at "ev"
    · intro d hd
      simp only [List.mem_cons, List.not_mem_nil, or_false] at hd
      rcases hd with rfl | rfl <;> walk_at "ev"
  refine post_seq (fun ρ => ρ.get (Str.ofString "isabs") = .frz (.bool ab) ∧ ρ.get (Str.ofString "split_paths") = .frz (.lst [.lst ((splitC 47 x).map (.txt o)), .lst ((splitC 47 y).map (.txt o))]) ∧ ρ.get (Str.ofString "sep") = .frz (.txt o [47]) ∧ ρ.get (Str.ofString "curdir") = .frz (.txt o [46])) (post_try (hz _) ?_) ?_
  · have h1 := m_starts (o := o) (x := x) (y := [47]) (by omega) (by simp [hlim])
    have h2 := m_starts (o := o) (x := y) (y := [47]) (by omega) (by simp [hlim])
    refine post_step (exS_setcomp (ds := [.bool ab, .bool ab]) (b := ab) (hz _) ?_ (by simp) ?_) (post_nil ⟨rfl, ?_⟩)
    · rw [comp1 (fun _ => true) (fun d => match d with
      | .txt o x => .bool ([47].isPrefixOf x)
      | d => d) (ds := [.txt o x, .txt o y])]
      · show some [D.bool ([47].isPrefixOf x), D.bool ([47].isPrefixOf y)] = _
        rw [ax, ay]
      · walk_at "ev"
      · walk_at "ev"
      · intro d hd
        refine ⟨rfl, fun _ => ?_⟩
        simp only [List.mem_cons, List.not_mem_nil, or_false] at hd
        rcases hd with rfl | rfl <;> walk_at "ev"
    · simp [allBool]
    · walk_at "ev"
      exact ⟨trivial, trivial, trivial, trivial⟩
  clear hp hs hc
  intro ρ ⟨hi, hsp, hs, hc⟩
  have ls1 := splitC_len (c := 47) (x := x)
  have ls2 := splitC_len (c := 47) (x := y)
  have lz : ∀ z : List Nat, z.length ≤ 1000 → (splitC 47 z).length ≤ 1001 ∧ ∀ c ∈ splitC 47 z, c.length ≤ 1000 := fun z hz => ⟨by have := splitC_len (c := 47) (x := z); omega, fun c h => by have := splitC_mem h; omega⟩
  refine post_step (exS_frz (.lst [.lst ((cmps pc x).map (.txt o)), .lst ((cmps pc y).map (.txt o))]) (hz _) rfl ?_ (by simp only [storeNew, how]; rfl)) ?_
  · rw [ev_compM _ (fun d => match d with
      | .lst l => .lst (l.filter fun d => match d with
        | .txt _ c => pc c
        | _ => false)
      | d => d) (ds := [.lst ((splitC 47 x).map (.txt o)), .lst ((splitC 47 y).map (.txt o))]) rfl ?_ ?_ (by simp [hlim]) ?_]
    · simp only [List.map_cons, List.map_nil, List.filter_map]; rfl
    · walk_at "ev"
    · walk_at "ev"
    · intro d hd
      have : ∃ z : List Nat, z.length ≤ 1000 ∧ d = .lst ((splitC 47 z).map (.txt o)) := by
        simp only [List.mem_cons, List.not_mem_nil, or_false] at hd
        rcases hd with rfl | rfl
        · exact ⟨x, lx, rfl⟩
        · exact ⟨y, ly, rfl⟩
      obtain ⟨z, lzz, rfl⟩ := this
      obtain ⟨z1, z2⟩ := lz z lzz
      rw [ev_comp1 _ (fun d => match d with
        | .txt _ c => pc c
        | _ => false) (fun d => d) (ds := (splitC 47 z).map (.txt o)) rfl ?_ ?_ (by rw [List.length_map]; omega) ?_]
      · simp only [List.map_id']
      · walk_at "ev"
      · walk_at "ev"
      · intro d hd
        obtain ⟨c, hc, rfl⟩ := List.mem_map.mp hd
        have := z2 c hc
        have ht := truth_txt (o := o) (x := c) (by omega)
        refine ⟨?_, fun _ => ?_⟩
        · walk_at "ev"; rfl
        · walk_at "ev"
  have kmin : callD (S "min") [.lst [.lst (txts o (cmps pc x)), .lst (txts o (cmps pc y))]] = some (.lst (txts o (minL (cmps pc x) (cmps pc y)))) := by
    have : ltTs (kindT (txts o (cmps pc x)) (txts o (cmps pc y))) (txts o (cmps pc y)) (txts o (cmps pc x)) = some (ltL (cmps pc y) (cmps pc x)) := kindT_txts (by
      by_cases e1 : cmps pc x = [] <;> by_cases e2 : cmps pc y = [] <;> simp [e1, e2])
    simp only [callD, S, ofString_inj, String.reduceEq, if_true, if_false, this, Option.bind_some, minL]
    split <;> rfl
  have kmax : callD (S "max") [.lst [.lst (txts o (cmps pc x)), .lst (txts o (cmps pc y))]] = some (.lst (txts o (maxL (cmps pc x) (cmps pc y)))) := by
    have : ltTs (kindT (txts o (cmps pc x)) (txts o (cmps pc y))) (txts o (cmps pc x)) (txts o (cmps pc y)) = some (ltL (cmps pc x) (cmps pc y)) := kindT_txts (by
      by_cases e1 : cmps pc x = [] <;> by_cases e2 : cmps pc y = [] <;> simp [e1, e2])
    simp only [callD, S, ofString_inj, String.reduceEq, if_true, if_false, this, Option.bind_some, maxL]
    split <;> rfl
  rw [← lcp_minmax]
  have hmm := max_not_pre (x := cmps pc x) (y := cmps pc y)
  have l1 : (minL (cmps pc x) (cmps pc y)).length ≤ 60 := by
    rcases minmax (x := cmps pc x) (y := cmps pc y) with ⟨h1, h2⟩ | ⟨h1, h2⟩ <;> rw [h1] <;> assumption
  have l2 : (maxL (cmps pc x) (cmps pc y)).length ≤ 60 := by
    rcases minmax (x := cmps pc x) (y := cmps pc y) with ⟨h1, h2⟩ | ⟨h1, h2⟩ <;> rw [h2] <;> assumption
  have l3 : ∀ c ∈ lcp (minL (cmps pc x) (cmps pc y)) (maxL (cmps pc x) (cmps pc y)), c.length ≤ 1000 := by
    rw [lcp_minmax]; exact fun c h => mx c (lcp_sub c h)
  change _ → _ at hmm
  generalize minL (cmps pc x) (cmps pc y) = u at *
  generalize maxL (cmps pc x) (cmps pc y) = v at *
  refine post_step (exS_frz (.lst (txts o u)) (hz _) rfl ?_ (by simp only [storeNew])) ?_
  · walk_at "ev"; exact kmin
  refine post_step (exS_frz (.lst (txts o v)) (hz _) rfl ?_ (by simp only [storeNew])) ?_
  · walk_at "ev"; exact kmax
  refine post_step (exS_frz (.lst (txts o u)) (hz _) rfl ?_ (by simp only [storeNew])) ?_
  · walk_at "ev"
  refine post_seq (fun ρ => ρ.get (Str.ofString "common") = .frz (.lst (txts o (lcp u v))) ∧ ρ.get (Str.ofString "isabs") = .frz (.bool ab) ∧ ρ.get (Str.ofString "sep") = .frz (.txt o [47])) (post_forE (ds := txts o u) (hz _) ?_ (by simp [txts]; omega) ?_) ?_
  · walk_at "ev"
  · refine post_mono (forT_brk (fun j ρ => u.take j = v.take j ∧ j ≤ u.length ∧ ρ.get (Str.ofString "common") = .frz (.lst (txts o u)) ∧ ρ.get (Str.ofString "s1") = .frz (.lst (txts o u)) ∧ ρ.get (Str.ofString "s2") = .frz (.lst (txts o v)) ∧ ρ.get (Str.ofString "isabs") = .frz (.bool ab) ∧ ρ.get (Str.ofString "sep") = .frz (.txt o [47])) (fun ρ => ρ.get (Str.ofString "common") = .frz (.lst (txts o (lcp u v))) ∧ ρ.get (Str.ofString "isabs") = .frz (.bool ab) ∧ ρ.get (Str.ofString "sep") = .frz (.txt o [47])) (k := 0) ?_ ?_) ?_
    · walk_at "ev"
      exact ⟨rfl, Nat.zero_le _, trivial, trivial, trivial, trivial, trivial⟩
    · intro j d ρ hd ⟨e1, e2, hco, h1, h2, hi, hs⟩
      rw [Nat.zero_add] at e1 e2 ⊢
      simp only [txts, List.getElem?_map, List.getElem?_zipIdx, Option.map_map, Option.map_eq_some_iff] at hd
      obtain ⟨c, hcj, rfl⟩ := hd
      have hj : j < u.length := (List.getElem?_eq_some_iff.mp hcj).1
      simp only [Function.comp, Nat.zero_add]
      refine ⟨_, rfl, ?_⟩
      have hjv : j < v.length := by
        rcases Nat.lt_or_ge j v.length with q | q
        · exact q
        · exfalso
          have : v <+: u := by
            rw [List.take_of_length_le q] at e1
            rw [← e1]; exact List.take_prefix _ _
          have := congrArg List.length (hmm this)
          omega
      have hv : (txts o v)[j]? = some (.txt o v[j]) := by simp [txts, hjv]
      have hiv := idx_lst (by simp [txts]; omega) hv
      refine post_cons (post_if (c := !decide (c = v[j])) (hz _) ?_ (fun hc => ?_) (fun hc => ?_))
      · walk_at "ev"
      · simp at hc
        have hsl := slice_hi (ds := txts o u) (k := j) (by simp [txts]; omega) (by omega)
        refine post_step (exS_frz (.lst (txts o (u.take j))) (hz _) rfl ?_ (by simp only [storeNew])) ?_
        · walk_at "ev"
          rw [← e1]; simp only [txts, List.map_take]
        refine ⟨_, _, exs_brk (exS_break (hz _)), .inr ⟨rfl, ?_⟩⟩
        walk_at "ev"
        rw [lcp_part e1 hcj (by simp [hjv]) hc]
        exact ⟨by rw [e1], trivial, trivial⟩
      · simp at hc
        refine post_nil (post_nil (.inl ⟨rfl, ?_⟩))
        walk_at "ev"
        refine ⟨?_, hj, trivial, trivial, trivial, trivial, trivial⟩
        rw [List.take_add_one, List.take_add_one, e1, hcj, hc]; simp [hjv]
    · rintro f ρ ⟨rfl, h⟩
      refine ⟨rfl, ?_⟩
      rcases h with ⟨e1, _, hco, _, _, hi, hs⟩ | h
      · refine ⟨?_, hi, hs⟩
        simp only [txts, Nat.zero_add, List.length_map, List.length_zipIdx, List.take_length] at e1
        rw [hco, lcp_pre]
        rw [e1]; exact List.take_prefix _ _
      · exact h
  · intro ρ ⟨hco, hi, hs⟩
    have ll : (lcp u v).length ≤ 60 := Nat.le_trans lcp_len l1
    refine post_step (exS_frz (.txt o (if ab then [47] else [])) (hz _) rfl ?_ rfl) ?_
    · walk_at "ev"
      cases ab
      · rfl
      · rfl
    · have hj := m_join (o := o) (x := [47]) (xs := lcp u v) (by omega) (by simp) (by rw [List.all_eq_true]; intro c hc; have := l3 c hc; simp; omega)
      have hjl := joinC_len (x := lcp u v) (m := 1000) l3
      refine post_ret (exS_ret (hz _) (d := .txt o ((if ab then [47] else []) ++ joinC [47] (lcp u v))) ?_) rfl
      walk_at "ev"
      change methD (Str.ofString "join") (.txt o [47]) [.lst (txts o (lcp u v))] = _ at hj
      rw [hj, op2_some, addT]
      have : (lcp u v).length * 1001 ≤ 60 * 1001 := Nat.mul_le_mul_right _ ll
      cases ab <;> simp <;> omega
end
end MineE
end

section
set_option Elab.async false
set_option maxRecDepth 100000
open PySem PySem.Calls PyProof.Rows PySem.W
namespace MineE
open Mine
section
variable {prog : Program} {w : World} {h₀ : Heap} {K : Frag} {p : Program} {loose : List Str} {mg mb : Str → Option Value}
def psiFs : List D → Option D
  | [.txt o x] => some (.txt o x)
  | _ => none
def psiSep : List D → Option D
  | [.txt o _] => some (.txt o [47])
  | _ => none
def psiJoin : List D → Option D
  | [.txt o a, .txt q b] => if o = q ∧ a.length ≤ 1000 ∧ b.length ≤ 1000 then some (.txt o (joinP a b)) else none
  | _ => none
def psiCom : List D → Option D
  | [.lst [.txt o x, .txt q y]] => if o = q ∧ x.length ≤ 1000 ∧ y.length ≤ 1000 ∧ (cmps pc x).length ≤ 60 ∧ (cmps pc y).length ≤ 60 ∧ (∀ c ∈ cmps pc x, c.length ≤ 1000) ∧ [47].isPrefixOf x = [47].isPrefixOf y then
      some (.txt o ((if [47].isPrefixOf y then [47] else []) ++ joinC [47] (lcp (cmps pc x) (cmps pc y)))) else none
  | _ => none
abbrev more (Φ : Str → List D → Option D) (f : Str) (Ψ : List D → Option D) : Str → List D → Option D := fun g ds => if g = f then Ψ ds else Φ g ds
def phiPath : Str → List D → Option D := more (more (more (more (fun _ _ => none) (Str.ofString "fspath") psiFs) (Str.ofString "_get_sep") psiSep) (Str.ofString "join") psiJoin) (Str.ofString "commonpath") psiCom
theorem roOf_get {x : Str} {y : Str} {d : D} {ps : List Str} {ds : List D} : (roOf (x :: ps) (d :: ds)).get y = if x = y then .frz d else (roOf ps ds).get y := rfl

/-- what the written part holds of the path functions -/
structure PathChk (K : Frag) : Prop where
  bt : (btab.all fun q => absentIn K (S q.1)) = true
  fs : FnChk K (Str.ofString "fspath") 94 [Str.ofString "path"] ((bodyAt pw 9).take 2 ++ (bodyAt pw 9).drop 2)
  fsP : ParChk (fdAt K 94) [Str.ofString "path"] none
  fsO : (((bodyAt pw 9).take 2).all fun s => okS 60 (fdAt K 94).scope s) = true
  sep : FnChk K (Str.ofString "_get_sep") 108 [Str.ofString "path"] (bodyAt pw 13 ++ [])
  sepP : ParChk (fdAt K 108) [Str.ofString "path"] none
  sepO : ((bodyAt pw 13).all fun s => okS 60 (fdAt K 108).scope s) = true
  jn : FnChk K (Str.ofString "join") 115 [Str.ofString "a", Str.ofString "p"] (bodyAt pw 14 ++ [])
  jnP : ParChk (fdAt K 115) [Str.ofString "a"] (some (Str.ofString "p"))
  jnO : ((bodyAt pw 14).all fun s => okS 60 (fdAt K 115).scope s) = true
  cm : FnChk K (Str.ofString "commonpath") 120 [Str.ofString "paths"] (bodyAt pw 15 ++ [])
  cmP : ParChk (fdAt K 120) [Str.ofString "paths"] none
  cmO : ((bodyAt pw 15).all fun s => okS 60 (fdAt K 120).scope s) = true

theorem map_none {va : Option Arg} (h : va.map (·.arg) = none) : va = none := by
  cases va <;> first | rfl | cases h
theorem bind_one' {M : Model} {A : Around} {X : Addr → Prop} {s : Shared} {E : Value → Shared → Prop} {fd : FuncData} {a : Str} {vs : List Value} {d : D} (c : ParChk fd [a] none) (hv : RepA s.heap X vs [d]) :
    wpAny M A (bindArgs fd ⟨vs, []⟩) (fun binds s' => ∃ h' tk us, s' = { s with heap := h', toks := tk } ∧ Ext s.heap h' ∧ binds = bindsOf [a] us ∧ RepA h' X us [d]) E s :=
  bind_one c.pos c.args c.kwo (map_none c.var) c.kw c.dfl hv
theorem phi_path (X : K.In h₀) (T : TopRead p loose mg mb h₀) (C : PathChk K) : PhiOk prog w h₀ phiPath 8 := by
  have G := glb_of X T C.bt
  have lim := T.nolimit
  unfold phiPath
  have P0 : PhiOk prog w h₀ (fun _ _ => none) 0 := phi_none
  have P1 := phi_more (ow := fun _ => false) (fz := fun _ => []) (n := 60) (m := 60) (Ψ := psiFs) G P0 lim (C.fs.here X T) C.fs.vars (by simp) C.fsO id
    (fun ds d h A X s vs dom r => by
      unfold psiFs at h
      split at h
      · exact bind_one' C.fsP r
      · cases h)
    (fun ds d h => by
      unfold psiFs at h
      split at h
      · rename_i o x
        cases h
        obtain ⟨f, ρ', h1, rfl⟩ := fspath_run (o := o) (x := x) (Φ := fun _ _ => none) (ow := fun _ => false) (fz := fun _ => []) (ρ := roOf [Str.ofString "path"] [.txt o x]) (fun _ => rfl) (by rw [roOf_get, if_pos rfl])
        exact ⟨ρ', h1⟩
      · cases h)
  have P2 := phi_more (ow := fun _ => false) (fz := fun _ => []) (n := 60) (m := 60) (Ψ := psiSep) G P1 lim (C.sep.here X T) C.sep.vars (by simp) C.sepO id
    (fun ds d h A X s vs dom r => by
      unfold psiSep at h
      split at h
      · exact bind_one' C.sepP r
      · cases h)
    (fun ds d h => by
      unfold psiSep at h
      split at h
      · rename_i o x
        cases h
        obtain ⟨f, ρ', h1, rfl⟩ := getsep_run (o := o) (x := x) (Φ := more (fun _ _ => none) (Str.ofString "fspath") psiFs) (ow := fun _ => false) (fz := fun _ => []) (ρ := roOf [Str.ofString "path"] [.txt o x]) (fun _ => rfl) (by rw [roOf_get, if_pos rfl])
        exact ⟨ρ', h1⟩
      · cases h)
  have P3 := phi_more (ow := fun _ => false) (fz := fun _ => []) (n := 60) (m := 60) (Ψ := psiJoin) G P2 lim (C.jn.here X T) C.jn.vars (by simp [ofString_inj]) C.jnO (fun ds => match ds with
      | d :: r => [d, .tup r]
      | [] => [])
    (fun ds d h A X s vs dom r => by
      unfold psiJoin at h
      split at h
      · cases r with
        | cons r1 r2 =>
          have hl := r2.length
          obtain ⟨va, hva, hp⟩ := Option.map_eq_some_iff.mp C.jnP.var
          exact bind_rest C.jnP.pos C.jnP.args C.jnP.kwo hva C.jnP.kw C.jnP.dfl hp r1 r2 dom (by rw [hl]; show 1 ≤ sizeLine; decide)
      · cases h)
    (fun ds d h => by
      unfold psiJoin at h
      split at h
      · split at h
        · rename_i o a q b hc
          obtain ⟨rfl, ha, hb⟩ := hc
          cases h
          obtain ⟨f, ρ', h1, rfl⟩ := join_run (Φ := more (more (fun _ _ => none) (Str.ofString "fspath") psiFs) (Str.ofString "_get_sep") psiSep) (ow := fun _ => false) (fz := fun _ => []) (o := o) (a := a) (b := b) (ρ := roOf [Str.ofString "a", Str.ofString "p"] [.txt o a, .tup [.txt o b]]) (fun _ => rfl) (fun o x => by simp [more, ofString_inj, psiFs]) (fun o x => by simp [more, ofString_inj, psiSep]) ha hb (by rw [roOf_get, if_pos rfl]) (by rw [roOf_get, if_neg (by simp [ofString_inj]), roOf_get, if_pos rfl])
          exact ⟨ρ', h1⟩
        · cases h
      · cases h)
  exact phi_more (ow := fun _ => false) (fz := fun _ => []) (n := 60) (m := 60) (Ψ := psiCom) G P3 lim (C.cm.here X T) C.cm.vars (by simp) C.cmO id
    (fun ds d h A X s vs dom r => by
      unfold psiCom at h
      split at h
      · exact bind_one' C.cmP r
      · cases h)
    (fun ds d h => by
      unfold psiCom at h
      split at h
      · split at h
        · rename_i o x q y hc
          obtain ⟨rfl, h1, h2, h3, h4, h5, h6⟩ := hc
          cases h
          obtain ⟨f, ρ', e1, rfl⟩ := commonpath_run (Φ := more (more (more (fun _ _ => none) (Str.ofString "fspath") psiFs) (Str.ofString "_get_sep") psiSep) (Str.ofString "join") psiJoin) (ow := fun _ => false) (fz := fun _ => []) (o := o) (x := x) (y := y) (ρ := roOf [Str.ofString "paths"] [.lst [.txt o x, .txt o y]]) (fun _ => rfl) (fun _ => rfl) (fun o x => by simp [more, ofString_inj, psiFs]) h1 h2 h3 h4 h5 h6 rfl (by rw [roOf_get, if_pos rfl])
          exact ⟨ρ', e1⟩
        · cases h
      · cases h)
end
end MineE
end

section
set_option Elab.async false
set_option maxRecDepth 10000
set_option linter.unusedVariables false
open PySem
namespace MineE
open Mine
/-- a tree of places -/
inductive T where
  | leaf (k : Nat)
  | node (a b : T)
  deriving Inhabited
def T.toD : T → D
  | .leaf k => .int (k : Nat)
  | .node a b => .tup [a.toD, b.toD]
def T.keys : T → List Nat
  | .leaf k => [k]
  | .node a b => a.keys ++ b.keys
def wt (w : Nat → Nat) : T → Nat
  | .leaf k => w k
  | .node a b => wt w a + wt w b
def cost (w : Nat → Nat) : T → Nat
  | .leaf _ => 0
  | .node a b => cost w a + cost w b + (wt w a + wt w b)
def deps : T → Nat → List Nat
  | .leaf _, d => [d]
  | .node a b, d => deps a (d+1) ++ deps b (d+1)
def dot : List Nat → List Nat → Nat
  | x :: xs, y :: ys => x * y + dot xs ys
  | _, _ => 0
theorem dot_app : ∀ {a b c d : List Nat}, a.length = c.length → dot (a ++ b) (c ++ d) = dot a c + dot b d
  | [], b, [], d, _ => by simp [dot]
  | x :: a, b, y :: c, d, h => by
    simp only [List.cons_append, dot]
    rw [dot_app (by simpa using h)]; omega
  | [], _, _ :: _, _, h => by simp at h
  | _ :: _, _, [], _, h => by simp at h
theorem deps_len : ∀ {t : T} {d : Nat}, (deps t d).length = t.keys.length
  | .leaf _, d => rfl
  | .node a b, d => by simp only [deps, T.keys, List.length_append, deps_len]
theorem cost_dot {w : Nat → Nat} : ∀ {t : T} {d : Nat}, dot (t.keys.map w) (deps t d) = cost w t + d * wt w t
  | .leaf k, d => by simp [T.keys, deps, dot, cost, wt, Nat.mul_comm]
  | .node a b, d => by
    simp only [T.keys, deps, List.map_append]
    rw [dot_app (by rw [List.length_map, deps_len]), cost_dot, cost_dot]
    simp only [cost, wt, Nat.add_mul, Nat.mul_add]
    omega
theorem deps_ge : ∀ {t : T} {d x : Nat}, x ∈ deps t d → d ≤ x
  | .leaf _, d, x, h => by simp [deps] at h; omega
  | .node a b, d, x, h => by
    rcases List.mem_append.mp h with h | h <;> (have := deps_ge h; omega)
theorem deps_ne : ∀ {t : T} {d : Nat}, deps t d ≠ []
  | .leaf _, d => by simp [deps]
  | .node a b, d => by simp [deps, deps_ne]
/-- a tree's depths meet Kraft's sum just -/
theorem deps_kraft {M : Nat} : ∀ {t : T} {d : Nat}, (∀ x ∈ deps t d, x ≤ M) → ((deps t d).map fun x => 2^(M - x)).sum = 2^(M - d)
  | .leaf _, d, h => by simp [deps]
  | .node a b, d, h => by
    have h1 := deps_kraft (M := M) (t := a) (d := d + 1) fun x hx => h x (List.mem_append_left _ hx)
    have h2 := deps_kraft (M := M) (t := b) (d := d + 1) fun x hx => h x (List.mem_append_right _ hx)
    obtain ⟨x, hx⟩ := List.exists_mem_of_ne_nil _ (deps_ne (t := a) (d := d + 1))
    have h3 := deps_ge hx
    have h4 := h x (List.mem_append_left _ hx)
    simp only [deps, List.map_append, List.sum_append, h1, h2]
    rw [show M - d = M - (d + 1) + 1 by omega, Nat.pow_succ]; omega

def Kraft (Ls : List Nat) : Prop := ∃ M, (∀ l ∈ Ls, l ≤ M) ∧ (Ls.map fun l => 2^(M - l)).sum ≤ 2^M
theorem Kraft.perm {a b : List Nat} (k : Kraft a) (p : a.Perm b) : Kraft b := by
  obtain ⟨M, h1, h2⟩ := k
  exact ⟨M, fun l hl => h1 l (p.mem_iff.mpr hl), by rw [← (p.map _).sum_nat]; exact h2⟩
theorem max_ex : ∀ (l : List Nat), ∃ M, ∀ x ∈ l, x ≤ M
  | [] => ⟨0, fun _ h => nomatch h⟩
  | a :: l => by
    obtain ⟨M, h⟩ := max_ex l
    refine ⟨max a M, fun x hx => ?_⟩
    rcases List.mem_cons.mp hx with rfl | hx
    · omega
    · have := h x hx; omega
theorem kraft_deps {t : T} : Kraft (deps t 0) := by
  obtain ⟨M, h⟩ := max_ex (deps t 0)
  exact ⟨M, h, by rw [deps_kraft h]; exact Nat.le_refl _⟩

/-- insertion into a falling list -/
def ins (l : Nat) : List Nat → List Nat
  | [] => [l]
  | m :: ms => if m ≤ l then l :: m :: ms else m :: ins l ms
def srt : List Nat → List Nat
  | [] => []
  | l :: ls => ins l (srt ls)
theorem ins_perm {l : Nat} : ∀ {ms : List Nat}, (ins l ms).Perm (l :: ms)
  | [] => List.Perm.refl _
  | m :: ms => by
    unfold ins
    split
    · exact List.Perm.refl _
    · exact (List.Perm.cons m ins_perm).trans (List.Perm.swap l m ms)
theorem srt_perm : ∀ {ls : List Nat}, (srt ls).Perm ls
  | [] => List.Perm.refl _
  | l :: ls => ins_perm.trans (List.Perm.cons l srt_perm)
theorem ins_sorted {l : Nat} : ∀ {ms : List Nat}, ms.Pairwise (fun a b => b ≤ a) → (ins l ms).Pairwise fun a b => b ≤ a
  | [], _ => by simp [ins]
  | m :: ms, h => by
    have h' := List.pairwise_cons.mp h
    unfold ins
    split
    · rename_i q
      refine List.pairwise_cons.mpr ⟨fun x hx => ?_, h⟩
      rcases List.mem_cons.mp hx with rfl | hx
      · exact q
      · exact Nat.le_trans (h'.1 x hx) q
    · refine List.pairwise_cons.mpr ⟨fun x hx => ?_, ins_sorted h'.2⟩
      rcases List.mem_cons.mp (ins_perm.mem_iff.mp hx) with rfl | hx
      · omega
      · exact h'.1 x hx
theorem srt_sorted : ∀ {ls : List Nat}, (srt ls).Pairwise fun a b => b ≤ a
  | [] => .nil
  | l :: ls => ins_sorted srt_sorted
theorem dot_ins {l : Nat} : ∀ {w : Nat} {W ms : List Nat}, (w :: W).Pairwise (fun a b => a ≤ b) → W.length = ms.length → dot (w :: W) (ins l ms) ≤ dot (w :: W) (l :: ms)
  | w, [], [], _, _ => Nat.le_refl _
  | w, v :: W, m :: ms, h, hl => by
    have h' := List.pairwise_cons.mp h
    have hwv := h'.1 v (.head _)
    unfold ins
    split
    · exact Nat.le_refl _
    · have ih := dot_ins (l := l) (w := v) (W := W) (ms := ms) h'.2 (by simpa using hl)
      show w * m + dot (v :: W) (ins l ms) ≤ w * l + (v * m + dot W ms)
      refine Nat.le_trans (Nat.add_le_add_left ih _) ?_
      show w * m + (v * l + dot W ms) ≤ w * l + (v * m + dot W ms)
      obtain ⟨d, rfl⟩ := Nat.exists_eq_add_of_le hwv
      obtain ⟨e, rfl⟩ := Nat.exists_eq_add_of_le (show l ≤ m by omega)
      simp only [Nat.add_mul, Nat.mul_add]
      omega
  | w, [], _ :: _, _, h => by simp at h
  | w, _ :: _, [], _, h => by simp at h
theorem dot_srt : ∀ {W ls : List Nat}, W.Pairwise (fun a b => a ≤ b) → W.length = ls.length → dot W (srt ls) ≤ dot W ls
  | [], [], _, _ => Nat.le_refl _
  | w :: W, l :: ls, h, hl => by
    have h' := List.pairwise_cons.mp h
    have ih := dot_srt (W := W) (ls := ls) h'.2 (by simpa using hl)
    refine Nat.le_trans (dot_ins (W := W) (ms := srt ls) h ?_) ?_
    · rw [srt_perm.length_eq]; simpa using hl
    · show w * l + dot W (srt ls) ≤ w * l + dot W ls
      omega
  | [], _ :: _, _, h => by simp at h
  | _ :: _, [], _, h => by simp at h
theorem dot_perm {W W' : List Nat} (p : W.Perm W') : ∀ {Ls : List Nat}, W.length = Ls.length → ∃ Ls', Ls'.Perm Ls ∧ dot W' Ls' = dot W Ls := by
  induction p with
  | nil => exact fun {Ls} _ => ⟨Ls, .refl _, rfl⟩
  | cons x _ ih =>
    intro Ls h
    cases Ls with
    | nil => simp at h
    | cons l Ls =>
      obtain ⟨Ls', h1, h2⟩ := ih (Ls := Ls) (by simpa using h)
      exact ⟨l :: Ls', h1.cons _, by simp [dot, h2]⟩
  | swap x y l =>
    intro Ls h
    match Ls, h with
    | a :: b :: Ls, h => exact ⟨b :: a :: Ls, .swap _ _ _, by simp [dot]; omega⟩
    | [], h => simp at h
    | [_], h => simp at h
  | trans p _ ih1 ih2 =>
    intro Ls h
    obtain ⟨L1, h1, h2⟩ := ih1 h
    obtain ⟨L2, h3, h4⟩ := ih2 (Ls := L1) (by rw [← p.length_eq, h, h1.length_eq])
    exact ⟨L2, h3.trans h1, h4.trans h2⟩

/-- a row of the forest: weight, number, tree -/
abbrev HR := Nat × Nat × T
def costs (w : Nat → Nat) (F : List HR) : Nat := (F.map fun r => cost w r.2.2).sum
/-- what is asked of the last tree, seen from a forest -/
def GoodT (w : Nat → Nat) (F : List HR) (t : T) : Prop := ∀ Ls : List Nat, F.length = Ls.length → Kraft Ls → cost w t ≤ costs w F + dot (F.map (·.1)) Ls
theorem goodT_perm {w : Nat → Nat} {F F' : List HR} {t : T} (p : F.Perm F') (h : GoodT w F' t) : GoodT w F t := by
  intro Ls hl hk
  obtain ⟨Ls', h1, h2⟩ := dot_perm (p.map (·.1)) (Ls := Ls) (by simpa using hl)
  have := h Ls' (by rw [← p.length_eq, hl, h1.length_eq]) (hk.perm h1.symm)
  rw [h2] at this
  have e : costs w F' = costs w F := ((p.map _).sum_nat).symm
  omega
theorem kraft_merge {l0 l1 : Nat} {L : List Nat} (hs : (l0 :: l1 :: L).Pairwise fun a b => b ≤ a) (hk : Kraft (l0 :: l1 :: L)) : 1 ≤ l1 ∧ Kraft (L ++ [l1 - 1]) := by
  obtain ⟨M, h1, h2⟩ := hk
  have p0 := List.pairwise_cons.mp hs
  have p1 := List.pairwise_cons.mp p0.2
  have hM := h1 l0 (.head _)
  have h01 := p0.1 l1 (.head _)
  have hsc : ∀ (l : List Nat), (∀ x ∈ l, x ≤ l1) → (l.map fun x => 2^(M - x)).sum = 2^(M - l1) * (l.map fun x => 2^(l1 - x)).sum := by
    intro l hl
    induction l with
    | nil => simp
    | cons x l ih =>
      simp only [List.map_cons, List.sum_cons]
      rw [ih fun y hy => hl y (.tail _ hy), Nat.mul_add, ← Nat.pow_add]
      have := hl x (.head _)
      rw [show M - l1 + (l1 - x) = M - x by omega]
  have hS := hsc (l1 :: L) fun x hx => by
    rcases List.mem_cons.mp hx with rfl | hx
    · exact Nat.le_refl _
    · exact p1.1 x hx
  simp only [List.map_cons, List.sum_cons] at h2 hS
  have hpos : 0 < 2^(M - l0) := Nat.two_pow_pos _
  have hMl : 2^M = 2^(M - l1) * 2^l1 := by rw [← Nat.pow_add]; congr 1; omega
  have hlt : 2^(l1 - l1) + (L.map fun x => 2^(l1 - x)).sum < 2^l1 := by
    refine Nat.lt_of_mul_lt_mul_left (a := 2^(M - l1)) ?_
    rw [← hS, ← hMl]; omega
  rw [Nat.sub_self, Nat.pow_zero] at hlt
  have hl1 : 1 ≤ l1 := by
    rcases Nat.eq_zero_or_pos l1 with q | q
    · rw [q] at hlt; simp at hlt
    · exact q
  refine ⟨hl1, l1, fun x hx => ?_, ?_⟩
  · rcases List.mem_append.mp hx with hx | hx
    · exact p1.1 x hx
    · rw [List.mem_singleton.mp hx]; omega
  · rw [List.map_append, List.sum_append]
    simp only [List.map_cons, List.map_nil, List.sum_cons, List.sum_nil]
    rw [show l1 - (l1 - 1) = 1 by omega]
    omega
/-- one step of the merging -/
theorem goodT_step {w : Nat → Nat} {a b : HR} {R : List HR} {s : Nat} {t : T} (hw : ∀ r ∈ a :: b :: R, r.1 = wt w r.2.2) (hs : (a :: b :: R).Pairwise fun x y => x.1 ≤ y.1) (h : GoodT w (R ++ [(a.1 + b.1, s, .node a.2.2 b.2.2)]) t) : GoodT w (a :: b :: R) t := by
  intro Ls hl hk
  have hle := dot_srt (W := (a :: b :: R).map (·.1)) (ls := Ls) (List.pairwise_map.mpr hs) (by simpa using hl)
  refine Nat.le_trans ?_ (Nat.add_le_add_left hle _)
  have hk' := hk.perm (srt_perm (ls := Ls)).symm
  have hl' : (srt Ls).length = (a :: b :: R).length := by rw [srt_perm.length_eq, hl]
  have hss := srt_sorted (ls := Ls)
  generalize srt Ls = M at *
  match M, hl' with
  | l0 :: l1 :: L, hl' =>
    have hlen : R.length = L.length := by simp at hl'; omega
    obtain ⟨h1, hk1⟩ := kraft_merge hss hk'
    have := h (L ++ [l1 - 1]) (by simp [hlen]) hk1
    refine Nat.le_trans this ?_
    simp only [costs, List.map_append, List.map_cons, List.map_nil, List.sum_append, List.sum_cons, List.sum_nil, cost, ← hw a (.head _), ← hw b (.tail _ (.head _))]
    rw [dot_app (by simpa using hlen)]
    simp only [dot]
    have h01 : l1 ≤ l0 := (List.pairwise_cons.mp hss).1 l1 (.head _)
    obtain ⟨c, rfl⟩ := Nat.exists_eq_add_of_le h1
    obtain ⟨d, rfl⟩ := Nat.exists_eq_add_of_le h01
    rw [show 1 + c - 1 = c by omega]
    simp only [Nat.add_mul, Nat.mul_add, Nat.mul_one]
    have := Nat.zero_le (a.1 * d)
    omega
theorem goodT_one {w : Nat → Nat} {r : HR} : GoodT w [r] r.2.2 := by
  intro Ls hl hk
  simp [costs]
end MineE
end

section
set_option Elab.async false
set_option maxRecDepth 10000
set_option linter.unusedVariables false
open PySem
namespace MineE
open Mine
def rowD (r : HR) : D := .tup [.int (r.1 : Nat), .int (r.2.1 : Nat), r.2.2.toD]
def leR (a b : HR) : Bool := decide (a.1 < b.1) || (decide (a.1 = b.1) && decide (a.2.1 ≤ b.2.1))
def insR (d : HR) : List HR → List HR
  | [] => [d]
  | e :: r => if leR d e then d :: e :: r else e :: insR d r
def sortR : List HR → List HR
  | [] => []
  | d :: r => insR d (sortR r)
theorem leKey_row {a b : HR} : leKey (rowD a) (rowD b) = leR a b := by
  simp only [leKey, rowD, keyOf, leR, Int.ofNat_lt, Int.ofNat_inj, Int.ofNat_le]
theorem insD_row {a : HR} : ∀ {l : List HR}, insD (rowD a) (l.map rowD) = (insR a l).map rowD
  | [] => rfl
  | b :: l => by
    rw [List.map_cons, insD, insR, leKey_row, insD_row]
    split <;> rfl
theorem sortD_row : ∀ {l : List HR}, sortD (l.map rowD) = (sortR l).map rowD
  | [] => rfl
  | a :: l => by rw [List.map_cons, sortD, sortD_row, insD_row]; rfl
theorem insR_perm {d : HR} : ∀ {l : List HR}, (insR d l).Perm (d :: l)
  | [] => .refl _
  | e :: l => by
    unfold insR
    split
    · exact .refl _
    · exact (insR_perm.cons e).trans (.swap _ _ _)
theorem sortR_perm : ∀ {l : List HR}, (sortR l).Perm l
  | [] => .refl _
  | d :: l => insR_perm.trans (sortR_perm.cons d)
theorem insR_sorted {d : HR} : ∀ {l : List HR}, l.Pairwise (fun a b => a.1 ≤ b.1) → (insR d l).Pairwise fun a b => a.1 ≤ b.1
  | [], _ => by simp [insR]
  | e :: l, h => by
    have h' := List.pairwise_cons.mp h
    unfold insR
    split
    · rename_i q
      simp only [leR, Bool.or_eq_true, Bool.and_eq_true, decide_eq_true_eq] at q
      refine List.pairwise_cons.mpr ⟨fun x hx => ?_, h⟩
      rcases List.mem_cons.mp hx with rfl | hx
      · omega
      · have := h'.1 x hx; omega
    · rename_i q
      simp only [leR, Bool.or_eq_true, Bool.and_eq_true, decide_eq_true_eq] at q
      refine List.pairwise_cons.mpr ⟨fun x hx => ?_, insR_sorted h'.2⟩
      rcases List.mem_cons.mp (insR_perm.mem_iff.mp hx) with rfl | hx
      · omega
      · exact h'.1 x hx
theorem sortR_sorted : ∀ {l : List HR}, (sortR l).Pairwise fun a b => a.1 ≤ b.1
  | [] => .nil
  | d :: l => insR_sorted sortR_sorted
theorem keysOf_row : ∀ {l : List HR}, keysOf (l.map rowD) = some (l.map fun r => ((r.1 : Int), (r.2.1 : Int)))
  | [] => rfl
  | a :: l => by
    rw [List.map_cons, List.map_cons]
    show Option.map _ (keysOf (l.map rowD)) = _
    rw [keysOf_row]; rfl

/-- the state of the merging -/
structure MergeI (n : Nat) (w : Nat → Nat) (F0 F : List HR) (m : Nat) : Prop where
  pos : 1 ≤ F.length
  len : F.length ≤ n
  ser : ∀ r ∈ F, r.2.1 < m
  nd : (F.map (·.2.1)).Nodup
  wt : ∀ r ∈ F, r.1 = wt w r.2.2
  keys : (F.flatMap fun r => r.2.2.keys).Perm (List.range n)
  good : ∀ t, GoodT w F t → GoodT w F0 t
theorem MergeI.sorted {n w F0 F m} (I : MergeI n w F0 F m) : MergeI n w F0 (sortR F) m where
  pos := by rw [sortR_perm.length_eq]; exact I.pos
  len := by rw [sortR_perm.length_eq]; exact I.len
  ser := fun r hr => I.ser r (sortR_perm.mem_iff.mp hr)
  nd := ((sortR_perm.map _).nodup_iff).mpr I.nd
  wt := fun r hr => I.wt r (sortR_perm.mem_iff.mp hr)
  keys := (sortR_perm.flatMap_right _).trans I.keys
  good := fun t h => I.good t (goodT_perm sortR_perm.symm h)
theorem MergeI.step {n w F0 a b R m} (I : MergeI n w F0 (a :: b :: R) m) (hs : (a :: b :: R).Pairwise fun x y => x.1 ≤ y.1) : MergeI n w F0 (R ++ [(a.1 + b.1, m, .node a.2.2 b.2.2)]) (m + 1) where
  pos := by simp
  len := by have := I.len; simp at this ⊢; omega
  ser := fun r hr => by
    rcases List.mem_append.mp hr with hr | hr
    · have := I.ser r (.tail _ (.tail _ hr)); omega
    · rw [List.mem_singleton.mp hr]; exact Nat.lt_succ_self m
  nd := by
    have h := I.nd
    simp only [List.map_cons, List.nodup_cons] at h
    rw [List.map_append, List.nodup_append]
    refine ⟨h.2.2, by simp, fun x hx y hy => ?_⟩
    simp at hy
    subst hy
    obtain ⟨r, hr, rfl⟩ := List.mem_map.mp hx
    have := I.ser r (.tail _ (.tail _ hr))
    omega
  wt := fun r hr => by
    rcases List.mem_append.mp hr with hr | hr
    · exact I.wt r (.tail _ (.tail _ hr))
    · rw [List.mem_singleton.mp hr]
      show a.1 + b.1 = _
      rw [I.wt a (.head _), I.wt b (.tail _ (.head _))]; rfl
  keys := by
    have h := I.keys
    simp only [List.flatMap_cons] at h
    rw [List.flatMap_append]
    simp only [List.flatMap_cons, List.flatMap_nil, List.append_nil, T.keys]
    refine List.Perm.trans ?_ h
    refine List.perm_append_comm.trans ?_
    rw [List.append_assoc]
  good := fun t h => I.good t (goodT_step I.wt hs h)
def start (ws : List Nat) : List HR := (List.range ws.length).map fun k => (ws.getD k 0, k, .leaf k)
theorem mergeI_start {ws : List Nat} (h : 1 ≤ ws.length) : MergeI ws.length (fun k => ws.getD k 0) (start ws) (start ws) ws.length where
  pos := by simp [start]; exact h
  len := by simp [start]
  ser := fun r hr => by
    obtain ⟨k, hk, rfl⟩ := List.mem_map.mp hr
    exact List.mem_range.mp hk
  nd := by
    simp only [start, List.map_map]
    show ((List.range ws.length).map fun k => k).Nodup
    rw [List.map_id']; exact List.nodup_range
  wt := fun r hr => by
    obtain ⟨k, hk, rfl⟩ := List.mem_map.mp hr
    rfl
  keys := by
    have : (start ws).flatMap (fun r => r.2.2.keys) = List.range ws.length := by
      unfold start
      generalize List.range ws.length = l
      induction l with
      | nil => rfl
      | cons x l ih => rw [List.map_cons, List.flatMap_cons, ih]; rfl
    rw [this]
  good := fun t h => h
/-- what the tree of the merging is -/
structure HuffOk (ws : List Nat) (t : T) : Prop where
  keys : t.keys.Perm (List.range ws.length)
  best : ∀ Ls : List Nat, ws.length = Ls.length → Kraft Ls → cost (fun k => ws.getD k 0) t ≤ dot ws Ls
theorem huffOk_of {ws : List Nat} {r : HR} {m : Nat} (I : MergeI ws.length (fun k => ws.getD k 0) (start ws) [r] m) : HuffOk ws r.2.2 where
  keys := by have := I.keys; simpa using this
  best := fun Ls hl hk => by
    have h := I.good _ goodT_one Ls (by simp [start]; exact hl) hk
    have e1 : costs (fun k => ws.getD k 0) (start ws) = 0 := by
      unfold costs start
      rw [List.map_map]
      generalize List.range ws.length = l
      induction l with
      | nil => rfl
      | cons x l ih => rw [List.map_cons, List.sum_cons, ih]; rfl
    have e2 : (start ws).map (·.1) = ws := by
      unfold start
      rw [List.map_map]
      apply List.ext_getElem?
      intro i
      by_cases hi : i < ws.length
      · simp [hi]
      · rw [List.getElem?_eq_none (by simp; omega), List.getElem?_eq_none (by omega)]
    rw [e1, e2, Nat.zero_add] at h
    exact h
end MineE
end

section
set_option Elab.async false
set_option maxRecDepth 10000
set_option linter.unusedVariables false
open PySem
namespace MineE
open Mine
theorem and_div2 {a b : Nat} : (a &&& b) / 2 = a / 2 &&& b / 2 := by
  apply Nat.eq_of_testBit_eq
  intro i
  rw [← Nat.testBit_succ, Nat.testBit_and, Nat.testBit_and, Nat.testBit_succ, Nat.testBit_succ]
theorem and_mod2 {a b : Nat} : (a &&& b) % 2 = a % 2 * (b % 2) := by
  have h : (a &&& b).testBit 0 = (a.testBit 0 && b.testBit 0) := Nat.testBit_and ..
  simp only [Nat.testBit_zero] at h
  have h : (a &&& b) % 2 = 1 ↔ a % 2 = 1 ∧ b % 2 = 1 := by
    rw [← decide_eq_true_iff (p := (a &&& b) % 2 = 1), h, Bool.and_eq_true, decide_eq_true_iff, decide_eq_true_iff]
  generalize a &&& b = c at *
  rcases Nat.mod_two_eq_zero_or_one a with ha | ha <;> rcases Nat.mod_two_eq_zero_or_one b with hb | hb <;> rw [ha, hb] at h ⊢ <;> omega
/-- one set within another -/
def Sub (q m : Nat) : Prop := q &&& m = q
theorem Sub.half {q m : Nat} (h : Sub q m) : Sub (q / 2) (m / 2) := by
  unfold Sub at *; rw [← and_div2, h]
theorem Sub.low {q m : Nat} (h : Sub q m) : q % 2 ≤ m % 2 := by
  unfold Sub at h
  have := and_mod2 (a := q) (b := m)
  rw [h] at this
  rcases Nat.mod_two_eq_zero_or_one q with hq | hq <;> rcases Nat.mod_two_eq_zero_or_one m with hm | hm <;> rw [hq, hm] at this ⊢ <;> omega
theorem Sub.le {q m : Nat} (h : Sub q m) : q ≤ m := by
  unfold Sub at h; rw [← h]; exact Nat.and_le_right
theorem sub_iff {q m : Nat} : Sub q m ↔ ∀ j, q.testBit j = true → m.testBit j = true := by
  unfold Sub
  constructor
  · intro h j hj
    rw [← h, Nat.testBit_and, Bool.and_eq_true] at hj
    exact hj.2
  · intro h
    apply Nat.eq_of_testBit_eq
    intro j
    rw [Nat.testBit_and]
    cases e : q.testBit j with
    | false => rfl
    | true => rw [h j e]; rfl
theorem sub_bits : ∀ {j q m : Nat}, Sub q m → (m - q).testBit j = (m.testBit j && !q.testBit j)
  | 0, q, m, h => by
    have h1 := h.low
    have h2 := h.half.le
    simp only [Nat.testBit_zero]
    rcases Nat.mod_two_eq_zero_or_one q with hq | hq <;> rcases Nat.mod_two_eq_zero_or_one m with hm | hm
    · rw [hq, hm, show (m - q) % 2 = 0 by omega]; rfl
    · rw [hq, hm, show (m - q) % 2 = 1 by omega]; rfl
    · omega
    · rw [hq, hm, show (m - q) % 2 = 0 by omega]; rfl
  | j + 1, q, m, h => by
    have h1 := h.low
    have h2 := h.half.le
    rw [Nat.testBit_succ, Nat.testBit_succ, Nat.testBit_succ, ← sub_bits h.half]
    congr 1
    omega
/-- the next set within m, going down -/
theorem next_sub : ∀ (p : Nat) {q m : Nat}, Sub p m → Sub q m → q < p → q ≤ (p - 1 &&& m)
  | 0, q, m, _, _, h => absurd h (Nat.not_lt_zero _)
  | p + 1, q, m, hp, hq, h => by
    have hd := and_div2 (a := p) (b := m)
    have hm := and_mod2 (a := p) (b := m)
    rw [Nat.add_sub_cancel]
    rcases Nat.mod_two_eq_zero_or_one p with e | e
    · -- p + 1 is odd
      have h1 : Sub (p / 2) (m / 2) := by
        have := hp.half
        rwa [show (p + 1) / 2 = p / 2 by omega] at this
      unfold Sub at h1
      rw [h1] at hd
      rw [e, Nat.zero_mul] at hm
      omega
    · have h1 := hp.half
      have ih := next_sub ((p + 1) / 2) h1 hq.half
      rw [show (p + 1) / 2 - 1 = p / 2 by omega, ← hd] at ih
      rw [e, Nat.one_mul] at hm
      have h2 := hq.low
      have h3 : q / 2 < (p + 1) / 2 := by omega
      have := ih h3
      omega
termination_by p => p
decreasing_by omega
theorem and_sub {a m : Nat} : Sub (a &&& m) m := by
  unfold Sub; rw [Nat.and_assoc, Nat.and_self]

/-- a list's mask -/
def maskOf : List Nat → Nat
  | [] => 0
  | k :: l => 2^k ||| maskOf l
theorem maskOf_bit {j : Nat} : ∀ {l : List Nat}, (maskOf l).testBit j = decide (j ∈ l)
  | [] => by simp [maskOf]
  | k :: l => by
    rw [maskOf, Nat.testBit_or, maskOf_bit, Nat.testBit_two_pow]
    by_cases h1 : k = j
    · subst h1; simp
    · have : ¬ j = k := fun e => h1 e.symm
      simp [h1, this]

/-- a half with the lowest place -/
structure Half (low m q : Nat) : Prop where
  sub : Sub q m
  lt : q < m
  ne : q ≠ 0
  low : q &&& low ≠ 0
def lowOf (n m : Nat) : Nat := 2^((mem n m).headD 0)
def wsum (ws : List Nat) (m : Nat) : Nat := ((mem ws.length m).map fun k => ws.getD k 0).sum
structure BestAt (ws : List Nat) (B : Nat → Nat) (m : Nat) : Prop where
  small : (mem ws.length m).length ≤ 1 → B m = 0
  big : 2 ≤ (mem ws.length m).length → ∃ v, B m = wsum ws m + v ∧ (∃ q, Half (lowOf ws.length m) m q ∧ B q + B (m - q) = v) ∧ ∀ q, Half (lowOf ws.length m) m q → v ≤ B q + B (m - q)
theorem BestAt.congr {ws : List Nat} {B B' : Nat → Nat} {m : Nat} (b : BestAt ws B m) (h : ∀ i ≤ m, B i = B' i) : BestAt ws B' m where
  small := fun q => by rw [← h m (Nat.le_refl _)]; exact b.small q
  big := fun q => by
    obtain ⟨v, h1, ⟨q, h2, h3⟩, h4⟩ := b.big q
    refine ⟨v, by rw [← h m (Nat.le_refl _)]; exact h1, ⟨q, h2, by rw [← h q h2.sub.le, ← h (m - q) (Nat.sub_le _ _)]; exact h3⟩, fun q h2 => ?_⟩
    rw [← h q h2.sub.le, ← h (m - q) (Nat.sub_le _ _)]; exact h4 q h2
def BestOk (ws : List Nat) (B : Nat → Nat) : Prop := ∀ m, m < 2^ws.length → BestAt ws B m

theorem mem_nodup {n m : Nat} : (mem n m).Nodup := List.nodup_range.filter _
theorem mem_pos {n m : Nat} (h : m < 2^n) (h0 : m ≠ 0) : mem n m ≠ [] := by
  intro q
  apply h0
  apply Nat.eq_of_testBit_eq
  intro j
  rw [Nat.zero_testBit]
  cases e : m.testBit j with
  | false => rfl
  | true =>
    have : j < n := by
      rcases Nat.lt_or_ge j n with q' | q'
      · exact q'
      · have := Nat.ge_two_pow_of_testBit e
        have := Nat.pow_le_pow_right (n := 2) (by omega) q'
        omega
    have := mem_mem.mpr ⟨this, e⟩
    rw [q] at this; cases this
theorem keys_ne : ∀ {t : T}, t.keys ≠ []
  | .leaf k => by simp [T.keys]
  | .node a b => by simp [T.keys, keys_ne]
theorem wt_keys {w : Nat → Nat} : ∀ {t : T}, wt w t = (t.keys.map w).sum
  | .leaf k => by simp [T.keys, wt]
  | .node a b => by simp only [T.keys, wt, List.map_append, List.sum_append, wt_keys]
theorem low_mem {n m : Nat} (h : mem n m ≠ []) : (mem n m).headD 0 ∈ mem n m := by
  cases e : mem n m with
  | nil => exact absurd e h
  | cons a l => exact .head _
theorem and_low {q k : Nat} : (q &&& 2^k ≠ 0) ↔ q.testBit k = true := by
  constructor
  · intro h
    cases e : q.testBit k with
    | true => rfl
    | false =>
      exfalso
      apply h
      apply Nat.eq_of_testBit_eq
      intro j
      rw [Nat.testBit_and, Nat.zero_testBit, Nat.testBit_two_pow]
      by_cases q' : k = j
      · subst q'; rw [e]; rfl
      · simp [q']
  · intro h q'
    have := Nat.testBit_and q (2^k) k
    rw [q', h, Nat.testBit_two_pow] at this
    simp at this
/-- no tree is cheaper -/
theorem best_le {ws : List Nat} {B : Nat → Nat} (hB : BestOk ws B) : ∀ {t : T} {m : Nat}, m < 2^ws.length → t.keys.Perm (mem ws.length m) → B m ≤ cost (fun k => ws.getD k 0) t
  | .leaf k, m, hm, hp => by
    rw [(hB m hm).small (by rw [← hp.length_eq]; simp [T.keys])]
    exact Nat.zero_le _
  | .node a b, m, hm, hp => by
    have hnd : (a.keys ++ b.keys).Nodup := hp.nodup_iff.mpr mem_nodup
    rw [List.nodup_append] at hnd
    have la := List.length_pos_iff.mpr (keys_ne (t := a))
    have lb := List.length_pos_iff.mpr (keys_ne (t := b))
    have hlen := hp.length_eq
    simp only [T.keys, List.length_append] at hlen
    obtain ⟨v, h1, _, h3⟩ := (hB m hm).big (by omega)
    have hmem : ∀ j, m.testBit j = true ↔ j ∈ a.keys ∨ j ∈ b.keys := fun j => by
      have h4 := hp.mem_iff (a := j)
      simp only [T.keys, List.mem_append] at h4
      rw [h4, mem_mem]
      refine ⟨fun e => ⟨?_, e⟩, fun e => e.2⟩
      rcases Nat.lt_or_ge j ws.length with q' | q'
      · exact q'
      · have := Nat.ge_two_pow_of_testBit e
        have := Nat.pow_le_pow_right (n := 2) (by omega) q'
        omega
    have key : ∀ (x y : T), (∀ j, m.testBit j = true ↔ j ∈ x.keys ∨ j ∈ y.keys) → (∀ j ∈ x.keys, j ∉ y.keys) → x.keys.Nodup → y.keys.Nodup → (mem ws.length m).headD 0 ∈ x.keys → (∀ {m'}, m' < 2^ws.length → x.keys.Perm (mem ws.length m') → B m' ≤ cost (fun k => ws.getD k 0) x) → (∀ {m'}, m' < 2^ws.length → y.keys.Perm (mem ws.length m') → B m' ≤ cost (fun k => ws.getD k 0) y) →
        v ≤ cost (fun k => ws.getD k 0) x + cost (fun k => ws.getD k 0) y := by
      intro x y hxy hdis nx ny hlow ihx ihy
      have hsub : Sub (maskOf x.keys) m := sub_iff.mpr fun j hj => by
        rw [maskOf_bit, decide_eq_true_eq] at hj
        exact (hxy j).mpr (.inl hj)
      have hb : ∀ j, (m - maskOf x.keys).testBit j = decide (j ∈ y.keys) := fun j => by
        rw [sub_bits hsub, maskOf_bit]
        by_cases jx : j ∈ x.keys
        · simp [jx, hdis j jx]
        · by_cases jy : j ∈ y.keys
          · simp [jx, jy, (hxy j).mpr (.inr jy)]
          · have : m.testBit j = false := by
              cases e : m.testBit j with
              | false => rfl
              | true => rcases (hxy j).mp e with q | q <;> contradiction
            simp [jx, jy, this]
      have hlt : ∀ j, m.testBit j = true → j < ws.length := fun j e => by
        rcases Nat.lt_or_ge j ws.length with q' | q'
        · exact q'
        · have := Nat.ge_two_pow_of_testBit e
          have := Nat.pow_le_pow_right (n := 2) (by omega) q'
          omega
      have px : x.keys.Perm (mem ws.length (maskOf x.keys)) := (List.perm_ext_iff_of_nodup nx mem_nodup).mpr fun j => by
        rw [mem_mem, maskOf_bit, decide_eq_true_eq]
        exact ⟨fun h => ⟨hlt j ((hxy j).mpr (.inl h)), h⟩, fun h => h.2⟩
      have py : y.keys.Perm (mem ws.length (m - maskOf x.keys)) := (List.perm_ext_iff_of_nodup ny mem_nodup).mpr fun j => by
        rw [mem_mem, hb, decide_eq_true_eq]
        exact ⟨fun h => ⟨hlt j ((hxy j).mpr (.inr h)), h⟩, fun h => h.2⟩
      have hle := hsub.le
      have hne : maskOf x.keys ≠ 0 := fun q => by
        have := maskOf_bit (j := (mem ws.length m).headD 0) (l := x.keys)
        rw [q, Nat.zero_testBit, decide_eq_true hlow] at this
        cases this
      have hlt' : maskOf x.keys < m := by
        rcases Nat.lt_or_ge (maskOf x.keys) m with q | q
        · exact q
        · exfalso
          obtain ⟨j, hj⟩ := List.exists_mem_of_ne_nil _ (keys_ne (t := y))
          have := hb j
          rw [show m - maskOf x.keys = 0 by omega, Nat.zero_testBit] at this
          simp [hj] at this
      have hh : Half (lowOf ws.length m) m (maskOf x.keys) := ⟨hsub, hlt', hne, and_low.mpr (by rw [maskOf_bit]; simpa using hlow)⟩
      have := h3 _ hh
      have i1 := ihx (m' := maskOf x.keys) (by omega) px
      have i2 := ihy (m' := m - maskOf x.keys) (by omega) py
      omega
    have hw : wsum ws m = wt (fun k => ws.getD k 0) a + wt (fun k => ws.getD k 0) b := by
      unfold wsum
      rw [← (hp.map _).sum_nat, wt_keys, wt_keys]
      simp only [T.keys, List.map_append, List.sum_append]
    have hm0 : mem ws.length m ≠ [] := fun q => by rw [q] at hlen; simp only [List.length_nil] at hlen; omega
    have hl := low_mem hm0
    rw [← hp.mem_iff] at hl
    rw [h1, hw]
    show _ ≤ cost _ a + cost _ b + _
    rcases List.mem_append.mp hl with hl | hl
    · have := key a b hmem (fun j h1 h2 => hnd.2.2 j h1 j h2 rfl) hnd.1 hnd.2.1 hl (fun h1 h2 => best_le hB h1 h2) (fun h1 h2 => best_le hB h1 h2)
      omega
    · have := key b a (fun j => (hmem j).trans or_comm) (fun j h1 h2 => hnd.2.2 j h2 j h1 rfl) hnd.2.1 hnd.1 hl (fun h1 h2 => best_le hB h1 h2) (fun h1 h2 => best_le hB h1 h2)
      omega
/-- one tree is as cheap -/
theorem best_ex {ws : List Nat} {B : Nat → Nat} (hB : BestOk ws B) : ∀ (N : Nat) {m : Nat}, m ≤ N → m < 2^ws.length → m ≠ 0 → ∃ t : T, t.keys.Perm (mem ws.length m) ∧ cost (fun k => ws.getD k 0) t = B m
  | 0, m, hN, hm, h0 => absurd (Nat.le_zero.mp hN) h0
  | N + 1, m, hN, hm, h0 => by
    have hp := List.length_pos_iff.mpr (mem_pos hm h0)
    by_cases h1 : (mem ws.length m).length ≤ 1
    · obtain ⟨k, hk⟩ := List.length_eq_one_iff.mp (show (mem ws.length m).length = 1 by omega)
      exact ⟨.leaf k, by rw [hk]; exact .refl _, ((hB m hm).small h1).symm⟩
    · obtain ⟨v, e1, ⟨q, hq, e2⟩, _⟩ := (hB m hm).big (by omega)
      have hlt := hq.lt
      have hne := hq.ne
      obtain ⟨t1, p1, c1⟩ := best_ex hB N (m := q) (by omega) (by omega) hne
      obtain ⟨t2, p2, c2⟩ := best_ex hB N (m := m - q) (by omega) (by omega) (by omega)
      have hmem : (mem ws.length q ++ mem ws.length (m - q)).Perm (mem ws.length m) := by
        have hs := sub_iff.mp hq.sub
        have f1 : mem ws.length q = (mem ws.length m).filter fun j => q.testBit j := by
          unfold mem
          rw [List.filter_filter]
          refine List.filter_congr fun j _ => ?_
          cases e : q.testBit j with
          | false => rfl
          | true => rw [hs j e]; rfl
        have f2 : mem ws.length (m - q) = (mem ws.length m).filter fun j => !q.testBit j := by
          unfold mem
          rw [List.filter_filter]
          refine List.filter_congr fun j _ => ?_
          rw [sub_bits hq.sub, Bool.and_comm]
        rw [f1, f2]
        exact List.filter_append_perm _ _
      refine ⟨.node t1 t2, (p1.append p2).trans hmem, ?_⟩
      have hw : wsum ws m = wt (fun k => ws.getD k 0) t1 + wt (fun k => ws.getD k 0) t2 := by
        unfold wsum
        rw [← (hmem.map _).sum_nat, List.map_append, List.sum_append, wt_keys, wt_keys, (p1.map _).sum_nat, (p2.map _).sum_nat]
      show cost _ t1 + cost _ t2 + (wt _ t1 + wt _ t2) = _
      rw [c1, c2, ← hw, e1, ← e2]; omega
theorem mem_full {n : Nat} : mem n (2^n - 1) = List.range n := by
  unfold mem
  refine List.filter_eq_self.mpr fun k hk => ?_
  rw [Nat.testBit_two_pow_sub_one]
  simpa using hk
theorem ws_range {ws : List Nat} : (List.range ws.length).map (fun k => ws.getD k 0) = ws := by
  apply List.ext_getElem?
  intro i
  by_cases hi : i < ws.length
  · simp [hi]
  · rw [List.getElem?_eq_none (by simp; omega), List.getElem?_eq_none (by omega)]
/-- the merged tree is the cheapest -/
theorem huff_best {ws : List Nat} {B : Nat → Nat} {t : T} (h1 : 1 ≤ ws.length) (hB : BestOk ws B) (H : HuffOk ws t) : cost (fun k => ws.getD k 0) t = B (2^ws.length - 1) := by
  have hp := Nat.two_pow_pos ws.length
  have h2 : 2^1 ≤ 2^ws.length := Nat.pow_le_pow_right (by omega) h1
  refine Nat.le_antisymm ?_ (best_le hB (by omega) (by rw [mem_full]; exact H.keys))
  obtain ⟨t', p, c⟩ := best_ex hB _ (m := 2^ws.length - 1) (Nat.le_refl _) (by omega) (by omega)
  rw [mem_full] at p
  rw [← c]
  have pw := p.map (fun k => ws.getD k 0)
  rw [ws_range] at pw
  obtain ⟨Ls, p1, e1⟩ := dot_perm pw (Ls := deps t' 0) (by rw [List.length_map, deps_len])
  have := H.best Ls (by rw [p1.length_eq, deps_len, p.length_eq, List.length_range]) (kraft_deps.perm p1.symm)
  rw [e1, cost_dot] at this
  omega
end MineE
end

section
set_option Elab.async false
set_option maxRecDepth 10000
set_option linter.unusedVariables false
open PySem
namespace MineE
open Mine
abbrev LV := Nat × List Nat × List (List Nat)
/-- the places of a tree: key, text, row of names -/
def lvs : T → List Nat → List (List Nat) → List LV
  | .leaf k, h, r => [(k, h, r)]
  | .node a b, h, r => lvs a (joinP h [97]) (r ++ [[97]]) ++ lvs b (joinP h [98]) (r ++ [[98]])
theorem lvs_keys : ∀ {t : T} {h : List Nat} {r : List (List Nat)}, (lvs t h r).map (·.1) = t.keys
  | .leaf k, h, r => rfl
  | .node a b, h, r => by simp only [lvs, T.keys, List.map_append, lvs_keys]
theorem lvs_deps : ∀ {t : T} {h : List Nat} {r : List (List Nat)}, (lvs t h r).map (·.2.2.length) = deps t r.length
  | .leaf k, h, r => rfl
  | .node a b, h, r => by simp only [lvs, deps, List.map_append, lvs_deps, List.length_append, List.length_cons, List.length_nil, Nat.zero_add]
theorem lvs_ext : ∀ {t : T} {h : List Nat} {r : List (List Nat)} {e : LV}, e ∈ lvs t h r → r <+: e.2.2
  | .leaf k, h, r, e, he => by simp [lvs] at he; rw [he]; exact List.prefix_refl _
  | .node a b, h, r, e, he => by
    rcases List.mem_append.mp he with he | he
    · exact (List.prefix_append _ _).trans (lvs_ext he)
    · exact (List.prefix_append _ _).trans (lvs_ext he)
/-- no row is the front of another -/
theorem lvs_free : ∀ {t : T} {h : List Nat} {r : List (List Nat)}, (lvs t h r).Pairwise fun x y => ¬ x.2.2 <+: y.2.2 ∧ ¬ y.2.2 <+: x.2.2
  | .leaf k, h, r => by simp [lvs]
  | .node a b, h, r => by
    unfold lvs
    rw [List.pairwise_append]
    refine ⟨lvs_free, lvs_free, fun x hx y hy => ?_⟩
    obtain ⟨u, hu⟩ := lvs_ext hx
    obtain ⟨v, hv⟩ := lvs_ext hy
    rw [← hu, ← hv]
    constructor <;> intro q
    · rw [List.append_assoc, List.append_assoc, List.prefix_append_right_inj] at q
      have := (List.cons_prefix_cons.mp q).1
      simp at this
    · rw [List.append_assoc, List.append_assoc, List.prefix_append_right_inj] at q
      have := (List.cons_prefix_cons.mp q).1
      simp at this
def ab (c : List Nat) : Prop := c = [97] ∨ c = [98]
theorem joinC_snoc {x : List Nat} : ∀ {r : List (List Nat)}, r ≠ [] → joinC [47] (r ++ [x]) = joinC [47] r ++ 47 :: x
  | [b], _ => by simp [joinC]
  | b :: c :: r, _ => by
    have ih := joinC_snoc (x := x) (r := c :: r) (by simp)
    rw [List.cons_append] at ih
    show b ++ [47] ++ joinC [47] (c :: (r ++ [x])) = b ++ [47] ++ joinC [47] (c :: r) ++ 47 :: x
    rw [ih]; simp
theorem joinC_last {r : List (List Nat)} : r ≠ [] → (∀ c ∈ r, ab c) → joinC [47] r ≠ [] ∧ [47].isSuffixOf (joinC [47] r) = false := by
  intro h0 hc
  obtain ⟨x, r', rfl⟩ : ∃ x r', r = r' ++ [x] := ⟨r.getLast h0, r.dropLast, (List.dropLast_concat_getLast h0).symm⟩
  have hx := hc x (by simp)
  have key : ∀ s : List Nat, s ++ x ≠ [] ∧ [47].isSuffixOf (s ++ x) = false := by
    intro s
    rcases hx with rfl | rfl
    · refine ⟨by simp, ?_⟩
      cases e : [47].isSuffixOf (s ++ [97]) with
      | false => rfl
      | true =>
        obtain ⟨u, hu⟩ := List.isSuffixOf_iff_suffix.mp e
        have := congrArg List.getLast? hu
        simp at this
    · refine ⟨by simp, ?_⟩
      cases e : [47].isSuffixOf (s ++ [98]) with
      | false => rfl
      | true =>
        obtain ⟨u, hu⟩ := List.isSuffixOf_iff_suffix.mp e
        have := congrArg List.getLast? hu
        simp at this
  by_cases q : r' = []
  · subst q
    exact key []
  · rw [joinC_snoc q]
    have := key (joinC [47] r' ++ [47])
    simpa using this
/-- going down by one name -/
theorem join_step {rt : Bool} {r : List (List Nat)} {x : List Nat} (hr : ∀ c ∈ r, ab c) (hx : ab x) : joinP ((if rt then [47] else []) ++ joinC [47] r) x = (if rt then [47] else []) ++ joinC [47] (r ++ [x]) := by
  have h1 : [47].isPrefixOf x = false := by rcases hx with rfl | rfl <;> rfl
  by_cases q : r = []
  · subst q
    cases rt <;> rcases hx with rfl | rfl <;> decide
  · obtain ⟨h2, h3⟩ := joinC_last q hr
    have h4 : ((if rt then [47] else []) ++ joinC [47] r).isEmpty = false := by
      cases e : joinC [47] r with
      | nil => exact absurd e h2
      | cons => cases rt <;> rfl
    have h5 : [47].isSuffixOf ((if rt then [47] else []) ++ joinC [47] r) = false := by
      cases e : [47].isSuffixOf ((if rt then [47] else []) ++ joinC [47] r) with
      | false => rfl
      | true =>
        exfalso
        obtain ⟨u, hu⟩ := List.isSuffixOf_iff_suffix.mp e
        have h6 : [47].isSuffixOf (joinC [47] r) = true := by
          rw [List.isSuffixOf_iff_suffix]
          have h7 : [47] <:+ (if rt then [47] else []) ++ joinC [47] r := ⟨u, hu⟩
          exact List.suffix_of_suffix_length_le h7 (List.suffix_append _ _) (by have := List.length_pos_iff.mpr h2; simp only [List.length_cons, List.length_nil]; omega)
        rw [h3] at h6; cases h6
    unfold joinP
    rw [h1, h4, h5, joinC_snoc q]
    simp
theorem lvs_path {rt : Bool} : ∀ {t : T} {r : List (List Nat)}, (∀ c ∈ r, ab c) → ∀ e ∈ lvs t ((if rt then [47] else []) ++ joinC [47] r) r, e.2.1 = (if rt then [47] else []) ++ joinC [47] e.2.2 ∧ ∀ c ∈ e.2.2, ab c
  | .leaf k, r, hr, e, he => by simp only [lvs, List.mem_singleton] at he; rw [he]; exact ⟨rfl, hr⟩
  | .node a b, r, hr, e, he => by
    have ha : ∀ c ∈ r ++ [[97]], ab c := fun c hc => by
      rcases List.mem_append.mp hc with h | h
      · exact hr c h
      · exact .inl (List.mem_singleton.mp h)
    have hb : ∀ c ∈ r ++ [[98]], ab c := fun c hc => by
      rcases List.mem_append.mp hc with h | h
      · exact hr c h
      · exact .inr (List.mem_singleton.mp h)
    unfold lvs at he
    rw [join_step hr (.inl rfl), join_step hr (.inr rfl)] at he
    rcases List.mem_append.mp he with he | he
    · exact lvs_path ha e he
    · exact lvs_path hb e he
theorem deps_lt : ∀ {t : T} {d x : Nat}, x ∈ deps t d → x + 1 ≤ d + t.keys.length
  | .leaf _, d, x, h => by simp [deps, T.keys] at h ⊢; omega
  | .node a b, d, x, h => by
    have la := List.length_pos_iff.mpr (keys_ne (t := a))
    have lb := List.length_pos_iff.mpr (keys_ne (t := b))
    simp only [T.keys, List.length_append]
    rcases List.mem_append.mp h with h | h <;> (have := deps_lt h; omega)

/-- what is known of the places and their rows -/
structure Fam (rt : Bool) (ws : List Nat) (H : Nat → List Nat) (R : Nat → List (List Nat)) : Prop where
  txt : ∀ k < ws.length, H k = (if rt then [47] else []) ++ joinC [47] (R k)
  nm : ∀ k < ws.length, ∀ c ∈ R k, ab c
  ne : ∀ k < ws.length, R k ≠ []
  len : ∀ k < ws.length, (R k).length < ws.length
  free : ∀ j < ws.length, ∀ k < ws.length, j ≠ k → ¬ R j <+: R k
  kraft : ∀ M, (∀ k < ws.length, (R k).length ≤ M) → ((List.range ws.length).map fun k => 2^(M - (R k).length)).sum = 2^M
  best : ∃ t, HuffOk ws t ∧ ((List.range ws.length).map fun k => ws.getD k 0 * (R k).length).sum = cost (fun k => ws.getD k 0) t

def look (l : List LV) (k : Nat) : Option (List Nat × List (List Nat)) := match l with
  | [] => none
  | e :: l => if e.1 = k then some e.2 else look l k
theorem look_mem {k : Nat} : ∀ {l : List LV}, (∃ e ∈ l, e.1 = k) → ∃ v, look l k = some v ∧ (k, v) ∈ l
  | [], ⟨_, h, _⟩ => nomatch h
  | e :: l, ⟨e', he, hk⟩ => by
    unfold look
    by_cases q : e.1 = k
    · rw [if_pos q]
      exact ⟨_, rfl, by rw [← q]; exact .head _⟩
    · rw [if_neg q]
      rcases List.mem_cons.mp he with rfl | he
      · exact absurd hk q
      · obtain ⟨v, h1, h2⟩ := look_mem ⟨e', he, hk⟩
        exact ⟨v, h1, .tail _ h2⟩
theorem sum_dot {w f : Nat → Nat} : ∀ {l : List Nat}, (l.map fun k => w k * f k).sum = dot (l.map w) (l.map f)
  | [] => rfl
  | x :: l => by simp only [List.map_cons, List.sum_cons, dot, sum_dot]
theorem fam_of {rt : Bool} {ws : List Nat} {t : T} {done : List LV} (h2 : 2 ≤ ws.length) (HO : HuffOk ws t) (hp : done.Perm (lvs t (if rt then [47] else []) [])) :
    ∃ H R, Fam rt ws H R ∧ ∀ k < ws.length, look done k = some (H k, R k) := by
  let H : Nat → List Nat := fun k => ((look done k).getD default).1
  let R : Nat → List (List Nat) := fun k => ((look done k).getD default).2
  have hkeys : (done.map (·.1)).Perm (List.range ws.length) := ((hp.map _).trans (by rw [lvs_keys]; exact HO.keys))
  have hnd : (done.map (·.1)).Nodup := hkeys.nodup_iff.mpr List.nodup_range
  have hlook : ∀ k < ws.length, look done k = some (H k, R k) ∧ (k, H k, R k) ∈ done := fun k hk => by
    have : k ∈ done.map (·.1) := hkeys.mem_iff.mpr (List.mem_range.mpr hk)
    obtain ⟨e, he, hek⟩ := List.mem_map.mp this
    obtain ⟨v, h1, h2⟩ := look_mem ⟨e, he, hek⟩
    have e1 : H k = v.1 := by show ((look done k).getD default).1 = _; rw [h1]; rfl
    have e2 : R k = v.2 := by show ((look done k).getD default).2 = _; rw [h1]; rfl
    rw [e1, e2]
    exact ⟨h1, h2⟩
  have huniq : ∀ e ∈ done, R e.1 = e.2.2 := fun e he => by
    have hk : e.1 < ws.length := List.mem_range.mp (hkeys.mem_iff.mp (List.mem_map.mpr ⟨e, he, rfl⟩))
    have h1 := (hlook e.1 hk).2
    have : (e.1, H e.1, R e.1) = e := by
      clear hkeys hp hlook
      induction done with
      | nil => cases he
      | cons x l ih =>
        rw [List.map_cons, List.nodup_cons] at hnd
        rcases List.mem_cons.mp he with q | q <;> rcases List.mem_cons.mp h1 with q' | q'
        · rw [q', q]
        · exact absurd (List.mem_map.mpr ⟨_, q', by rw [q]⟩) hnd.1
        · exact absurd (List.mem_map.mpr ⟨_, q, by rw [← q']⟩) hnd.1
        · clear ih
          generalize H e.1 = a at *
          generalize R e.1 = b at *
          have hn := hnd.2
          clear hnd h1 he
          induction l with
          | nil => cases q
          | cons y l ih =>
            rw [List.map_cons, List.nodup_cons] at hn
            rcases List.mem_cons.mp q with w | w <;> rcases List.mem_cons.mp q' with w' | w'
            · rw [w', w]
            · exact absurd (List.mem_map.mpr ⟨_, w', by rw [w]⟩) hn.1
            · exact absurd (List.mem_map.mpr ⟨_, w, by rw [← w']⟩) hn.1
            · exact ih w w' hn.2
    exact congrArg (fun e : LV => e.2.2) this
  have hpath : ∀ k < ws.length, H k = (if rt then [47] else []) ++ joinC [47] (R k) ∧ ∀ c ∈ R k, ab c := fun k hk => by
    have h1 := hp.mem_iff.mp (hlook k hk).2
    have h2 := lvs_path (rt := rt) (t := t) (r := []) (fun c hc => nomatch hc)
    rw [show joinC [47] [] = [] from rfl, List.append_nil] at h2
    exact h2 _ h1
  have hlens : ((List.range ws.length).map fun k => (R k).length).Perm (deps t 0) := by
    have h1 : (done.map fun e => e.2.2.length).Perm (deps t 0) := by
      have := hp.map fun e : LV => e.2.2.length
      rwa [lvs_deps] at this
    have h3 : (done.map fun e => e.2.2.length) = (done.map (·.1)).map fun k => (R k).length := by
      rw [List.map_map]
      exact List.map_congr_left fun e he => by show _ = (R e.1).length; rw [huniq e he]
    rw [h3] at h1
    exact (hkeys.map _).symm.trans h1
  have hfree : done.Pairwise fun x y => ¬ x.2.2 <+: y.2.2 ∧ ¬ y.2.2 <+: x.2.2 := (hp.pairwise_iff fun h => ⟨h.2, h.1⟩).mpr lvs_free
  have hkl : t.keys.length = ws.length := by rw [HO.keys.length_eq, List.length_range]
  have hlen : ∀ k < ws.length, (R k).length < ws.length := fun k hk => by
    have h1 : (R k).length ∈ deps t 0 := hlens.mem_iff.mp (List.mem_map.mpr ⟨k, List.mem_range.mpr hk, rfl⟩)
    have := deps_lt h1
    omega
  have hff : ∀ j < ws.length, ∀ k < ws.length, j ≠ k → ¬ R j <+: R k := fun j hj k hk hn => by
    have h1 := (hlook j hj).2
    have h3 := (hlook k hk).2
    have : ∀ {l : List LV}, l.Pairwise (fun x y => ¬ x.2.2 <+: y.2.2 ∧ ¬ y.2.2 <+: x.2.2) → ∀ x ∈ l, ∀ y ∈ l, x ≠ y → ¬ x.2.2 <+: y.2.2 := by
      intro l hl
      induction hl with
      | nil => intro x hx; cases hx
      | cons ha _ ih =>
        intro x hx y hy hxy
        rcases List.mem_cons.mp hx with rfl | hx' <;> rcases List.mem_cons.mp hy with rfl | hy'
        · exact absurd rfl hxy
        · exact (ha y hy').1
        · exact (ha x hx').2
        · exact ih x hx' y hy' hxy
    exact this hfree _ h1 _ h3 (fun q => hn (congrArg (fun e : LV => e.1) q))
  refine ⟨H, R, ⟨fun k hk => (hpath k hk).1, fun k hk => (hpath k hk).2, fun k hk q => ?_, hlen, hff, fun M hM => ?_, t, HO, ?_⟩, fun k hk => (hlook k hk).1⟩
  · obtain ⟨j, hj, hn⟩ : ∃ j, j < ws.length ∧ k ≠ j := by
      by_cases e : k = 0
      · exact ⟨1, by omega, by omega⟩
      · exact ⟨0, by omega, e⟩
    exact hff k hk j hj hn (by rw [q]; exact List.nil_prefix)
  · have h1 := deps_kraft (M := M) (t := t) (d := 0) fun x hx => by
      obtain ⟨k, hk, rfl⟩ := List.mem_map.mp (hlens.mem_iff.mpr hx)
      exact hM k (List.mem_range.mp hk)
    rw [Nat.sub_zero] at h1
    rw [← h1, ← (hlens.map _).sum_nat, List.map_map]; rfl
  · rw [sum_dot]
    have c0 := cost_dot (w := fun k => ws.getD k 0) (t := t) (d := 0)
    rw [Nat.zero_mul, Nat.add_zero] at c0
    rw [← c0, ← lvs_keys (h := if rt then [47] else []) (r := []), show deps t 0 = (lvs t (if rt then [47] else []) []).map (·.2.2.length) from (lvs_deps (t := t) (h := if rt then [47] else []) (r := [])).symm, List.map_map]
    have e1 : (done.map fun e : LV => ws.getD e.1 0 * e.2.2.length).sum = ((List.range ws.length).map fun k => ws.getD k 0 * (R k).length).sum := by
      rw [← (hkeys.map fun k => ws.getD k 0 * (R k).length).sum_nat, List.map_map]
      congr 1
      exact List.map_congr_left fun e he => by show _ = ws.getD e.1 0 * (R e.1).length; rw [huniq e he]
    rw [← sum_dot, ← e1, (hp.map _).sum_nat]
    generalize lvs t (if rt then [47] else []) [] = L
    induction L with
    | nil => rfl
    | cons x L ih => simp only [List.map_cons, List.sum_cons, dot, ih]; rfl
end MineE
end

section
set_option Elab.async false
set_option maxRecDepth 10000
set_option linter.unusedVariables false
open PySem
namespace MineE
open Mine
def pe (c : List Nat) : Bool := !c.isEmpty
theorem ab_ok {c : List Nat} (h : ab c) : 47 ∉ c ∧ pc c = true ∧ pe c = true ∧ c.length = 1 := by
  rcases h with rfl | rfl <;> decide
theorem sum_delN {f : Nat → Nat} {r : Nat} : ∀ {l : List Nat}, l.Nodup → r ∈ l → (l.map f).sum = f r + ((del l r).map f).sum
  | x :: l, nd, h => by
    have nd' := List.nodup_cons.mp nd
    unfold del
    rw [List.map_cons, List.sum_cons, List.filter_cons]
    by_cases q : x = r
    · subst q
      have : l.filter (fun i => !decide (i = x)) = l := List.filter_eq_self.mpr fun y hy => by
        simp only [Bool.not_eq_true', decide_eq_false_iff_not]
        exact fun e => nd'.1 (e ▸ hy)
      simp only [decide_true, Bool.not_true, Bool.false_eq_true, if_false, this]
    · have hr := (List.mem_cons.mp h).resolve_left (Ne.symm q)
      have ih := sum_delN (f := f) nd'.2 hr
      unfold del at ih
      simp only [q, decide_false, Bool.not_false, if_true, List.map_cons, List.sum_cons, ih]
      omega
theorem sum_two {f g : Nat → Nat} {n i j : Nat} (hi : i < n) (hj : j < n) (hij : i ≠ j) (h : ∀ k, k ≠ i → k ≠ j → f k = g k) : ∃ c, ((List.range n).map f).sum = f i + f j + c ∧ ((List.range n).map g).sum = g i + g j + c := by
  have h1 : j ∈ del (List.range n) i := mem_del.mpr ⟨List.mem_range.mpr hj, Ne.symm hij⟩
  have nd : (del (List.range n) i).Nodup := List.nodup_range.filter _
  refine ⟨((del (del (List.range n) i) j).map f).sum, ?_, ?_⟩
  · rw [sum_delN List.nodup_range (List.mem_range.mpr hi), sum_delN nd h1]; omega
  · rw [sum_delN List.nodup_range (List.mem_range.mpr hi), sum_delN nd h1]
    have : (del (del (List.range n) i) j).map f = (del (del (List.range n) i) j).map g := List.map_congr_left fun k hk => by
      obtain ⟨h2, h3⟩ := mem_del.mp hk
      exact h k (mem_del.mp h2).2 h3
    rw [this]; omega
section
variable {rt : Bool} {ws : List Nat} {H : Nat → List Nat} {R : Nat → List (List Nat)}
theorem Fam.cmpE (F : Fam rt ws H R) {k : Nat} (hk : k < ws.length) : cmps pe (H k) = R k := by
  rw [F.txt k hk, cmps_top rfl, cmps_joinC rfl fun b hb => ⟨(ab_ok (F.nm k hk b hb)).1, (ab_ok (F.nm k hk b hb)).2.2.1⟩]
theorem Fam.cmpC (F : Fam rt ws H R) {k : Nat} (hk : k < ws.length) : cmps pc (H k) = R k := by
  rw [F.txt k hk, cmps_top rfl, cmps_joinC rfl fun b hb => ⟨(ab_ok (F.nm k hk b hb)).1, (ab_ok (F.nm k hk b hb)).2.1⟩]
theorem text_len {r : List (List Nat)} (hr : ∀ c ∈ r, ab c) : ((if rt then [47] else []) ++ joinC [47] r).length ≤ 2 * r.length + 1 := by
  have := joinC_len (x := r) (m := 1) fun c hc => by rw [(ab_ok (hr c hc)).2.2.2]; exact Nat.le_refl _
  cases rt <;> simp <;> omega
theorem Fam.hlen (F : Fam rt ws H R) {k : Nat} (hk : k < ws.length) : (H k).length ≤ 2 * (R k).length + 1 := by
  rw [F.txt k hk]; exact text_len (F.nm k hk)
theorem Fam.abs (F : Fam rt ws H R) {k : Nat} (hk : k < ws.length) : [47].isPrefixOf (H k) = rt := by
  rw [F.txt k hk]
  cases rt with
  | true => rfl
  | false =>
    have h1 := F.ne k hk
    have h2 := F.nm k hk
    cases e : R k with
    | nil => exact absurd e h1
    | cons x r =>
      rw [e] at h2
      have hx := h2 x (.head _)
      cases r with
      | nil => rcases hx with rfl | rfl <;> rfl
      | cons y r => rcases hx with rfl | rfl <;> rfl
theorem Fam.inj (F : Fam rt ws H R) {j k : Nat} (hj : j < ws.length) (hk : k < ws.length) (h : H j = H k) : j = k := by
  refine Classical.byContradiction fun q => F.free j hj k hk q ?_
  rw [← F.cmpC hj, ← F.cmpC hk, h]; exact List.prefix_refl _
theorem lcp_left {x y : List (List Nat)} : lcp x y <+: x := by
  induction x generalizing y with
  | nil => unfold lcp; exact List.nil_prefix
  | cons a x ih =>
    cases y with
    | nil => unfold lcp; exact List.nil_prefix
    | cons b y =>
      unfold lcp
      split
      · exact List.cons_prefix_cons.mpr ⟨rfl, ih⟩
      · exact List.nil_prefix
/-- commonpath of two places is neither -/
theorem Fam.common (F : Fam rt ws H R) {j k : Nat} (hj : j < ws.length) (hk : k < ws.length) (h : k ≠ j) : (if rt then [47] else []) ++ joinC [47] (lcp (cmps pc (H k)) (cmps pc (H j))) ∉ [H k, H j] := by
  rw [F.cmpC hk, F.cmpC hj]
  have hc : cmps pc ((if rt then [47] else []) ++ joinC [47] (lcp (R k) (R j))) = lcp (R k) (R j) := by
    rw [cmps_top rfl, cmps_joinC rfl fun b hb => ⟨(ab_ok (F.nm k hk b (lcp_sub b hb))).1, (ab_ok (F.nm k hk b (lcp_sub b hb))).2.1⟩]
  intro hm
  simp only [List.mem_cons, List.not_mem_nil, or_false] at hm
  rcases hm with e | e
  · rw [e, F.cmpC hk] at hc
    refine F.free k hk j hj h ?_
    rw [hc, lcp_comm]; exact lcp_left
  · rw [e, F.cmpC hj] at hc
    refine F.free j hj k hk (Ne.symm h) ?_
    rw [hc]; exact lcp_left
/-- a lighter one lies no higher -/
theorem Fam.swap (F : Fam rt ws H R) {i j : Nat} (hi : i < ws.length) (hj : j < ws.length) (hw : ws.getD i 0 < ws.getD j 0) : ¬ (R i).length < (R j).length := by
  intro hl
  have hij : i ≠ j := fun q => by rw [q] at hw; omega
  obtain ⟨t, HO, hc⟩ := F.best
  let f' : Nat → Nat := fun k => if k = i then (R j).length else if k = j then (R i).length else (R k).length
  have fi : f' i = (R j).length := by show (if i = i then _ else _) = _; rw [if_pos rfl]
  have fj : f' j = (R i).length := by show (if j = i then _ else if j = j then _ else _) = _; rw [if_neg (Ne.symm hij), if_pos rfl]
  have fk : ∀ k, k ≠ i → k ≠ j → f' k = (R k).length := fun k h1 h2 => by show (if k = i then _ else if k = j then _ else _) = _; rw [if_neg h1, if_neg h2]
  have hM : ∀ k < ws.length, (R k).length ≤ ws.length := fun k hk => Nat.le_of_lt (F.len k hk)
  have hkr := F.kraft ws.length hM
  obtain ⟨c, e1, e2⟩ := sum_two (f := fun k => 2^(ws.length - f' k)) (g := fun k => 2^(ws.length - (R k).length)) hi hj hij fun k h1 h2 => by show 2^(ws.length - f' k) = _; rw [fk k h1 h2]
  obtain ⟨d, e3, e4⟩ := sum_two (f := fun k => ws.getD k 0 * f' k) (g := fun k => ws.getD k 0 * (R k).length) hi hj hij fun k h1 h2 => by show ws.getD k 0 * f' k = _; rw [fk k h1 h2]
  have hK : Kraft ((List.range ws.length).map f') := by
    refine ⟨ws.length, fun l hl' => ?_, ?_⟩
    · obtain ⟨k, hk, rfl⟩ := List.mem_map.mp hl'
      have hk := List.mem_range.mp hk
      by_cases h1 : k = i
      · rw [h1, fi]; exact hM j hj
      · by_cases h2 : k = j
        · rw [h2, fj]; exact hM i hi
        · rw [fk k h1 h2]; exact hM k hk
    · rw [List.map_map]
      show ((List.range ws.length).map fun k => 2^(ws.length - f' k)).sum ≤ _
      rw [e1, fi, fj]
      rw [hkr] at e2
      omega
  have hb := HO.best ((List.range ws.length).map f') (by simp) hK
  have hd : dot ws ((List.range ws.length).map f') = ((List.range ws.length).map fun k => ws.getD k 0 * f' k).sum := by
    rw [sum_dot, ws_range]
  rw [hd, e3, ← hc, e4, fi, fj] at hb
  generalize ws.getD i 0 = a at *
  generalize ws.getD j 0 = b at *
  generalize (R i).length = x at *
  generalize (R j).length = y at *
  obtain ⟨u, rfl⟩ := Nat.exists_eq_add_of_lt hw
  obtain ⟨v, rfl⟩ := Nat.exists_eq_add_of_lt hl
  simp only [Nat.add_mul, Nat.mul_add, Nat.one_mul, Nat.mul_one] at hb
  omega
end
end MineE
end

section
set_option Elab.async false
set_option maxRecDepth 10000
set_option linter.unusedVariables false
open PySem
namespace MineE
open Mine
local macro_rules | `(tactic| walk_at "ev") => `(tactic| simp only [ofString_inj, String.reduceEq, ro_cons, ro_set, hide_get, hideL_nil, hideL_local, hideL_free, hideL_cell, hideL_glob, none_unset, Bool.false_eq_true, if_true, if_false, reduceIte, AV.strict, AV.loose, ev_const, ev_name, ev_bin, ev_usub, ev_ifexp, ev_list, ev_tuple, ev_slhi, ev_sllo, ev_subName, ev_subBin, ev_subConst, ev_subUn, ev_subSub, ev_meth, evB_name, evB_bin, evB_const, evB_sub, evB_call, evB_list, evB_tuple, evB_comp, evB_ifexp, evB_cmp, evB_usub, ev_len, ev_sum, ev_type, ev_lst, ev_max, ev_min, ev_fspath, ev_getsep, ev_join, ev_commonpath, ev_orders, ev_merge, ev_least, tst_not, tst_bool, tst_eq, tst_ne, tst_lt, tst_gt, tst_is, tst_in, tst_notin, tst_name, tst_call, ev_eq, ev_ne, ev_lt, ev_gt, src_range1, src_range2, src_name, constInt, mapO_cons, mapO_nil, cons2_some, op2_some, op2b_some, neg1_int, iteE_t, iteE_f, truthO_some, meth2_some, call1_some, callΦ_some, slc_hi, slc_lo, idxO_some, cmp_eq, cmp_ne, cmp_lt, cmp_gt, pickOS_lst, pickOS_tup, cS_, cSslash, cSdot, cSsd, cSa, cSb, cSc, cSab, cSam, cSadb, cSlat, cBslash, cBdot, cBa, cBb, cNone, cBool, type_txt, truth_bool, eq_bool, eq_txt, boolT_and, boolT_or, oneTest, Option.map_some, and_nat, and_one, add_nat, eq_nat, eq_one, *])
section
variable {Φ : Str → List D → Option D} {ow : Str → Bool} {fz : Nat → List Str} {ρ : Ro}
theorem idx_row0 {r : HR} : idxD (rowD r) (.int 0) = some (.int (r.1 : Nat)) := by
  simp [rowD, idxD, natIdx, lim]
theorem idx_row2 {r : HR} : idxD (rowD r) (.int 2) = some r.2.2.toD := by
  simp [rowD, idxD, natIdx, lim]
def natsD (l : List Nat) : List D := l.map fun (a : Nat) => .int a

theorem merge_run {ws : List Nat} (hz : ∀ l, fz l = []) (how : ∀ x, ow x = false) (h1 : 1 ≤ ws.length) (h6 : ws.length ≤ 6) (hw : ρ.get (Str.ofString "weights") = .frz (.lst (natsD ws))) :
    Post (fun f _ => ∃ t, HuffOk ws t ∧ f = .ret t.toD) (exs Φ ow fz 60 (bodyAt pw 17) ρ) := by
  have hlim : lim = 1048576 := rfl
  have hlen := len_lst (ds := natsD ws) (by simp [natsD]; omega)
  rw [show (natsD ws).length = ws.length by simp [natsD]] at hlen
  refine post_step (exS_frz (.lst ((start ws).map rowD)) (hz _) rfl ?_ (by simp only [storeNew, how]; rfl)) ?_
  · rw [ev_compM _ (fun d => match d with
      | .int k => rowD (ws.getD k.toNat 0, k.toNat, .leaf k.toNat)
      | d => d) (ds := rangeD 0 (ws.length : Nat)) rfl ?_ ?_ (by rw [range_len]; omega) ?_]
    · congr 2
      unfold rangeD start
      rw [List.map_map, List.map_map, show ((ws.length : Int) - 0).toNat = ws.length by omega]
      refine List.map_congr_left fun k _ => ?_
      show rowD (ws.getD (0 + (k : Int)).toNat 0, (0 + (k : Int)).toNat, .leaf (0 + (k : Int)).toNat) = _
      rw [show (0 + (k : Int)).toNat = k by omega]; rfl
    · walk_at "ev"
    · walk_at "ev"
      rw [rng_some (by omega) (by omega) (by omega) (by omega)]
    · intro d hd
      obtain ⟨j, hj⟩ := List.mem_iff_getElem?.mp hd
      obtain ⟨rfl, hj⟩ := range_at hj
      have hj : j < ws.length := by omega
      have e : (0 : Int) + (j : Int) = ((j : Nat) : Int) := by omega
      rw [e]
      have hk : (natsD ws)[j]? = some (.int (ws.getD j 0 : Nat)) := by simp [natsD, hj]
      have hix := idx_lst (by simp [natsD]; omega) hk
      clear e
      walk_at "ev"
      rfl
  refine post_step (exS_frz (.int (ws.length : Nat)) (hz _) rfl ?_ rfl) ?_
  · walk_at "ev"
  refine post_seq _ (post_while (fun k ρ => ∃ F m, MergeI ws.length (fun k => ws.getD k 0) (start ws) F m ∧ F.length = k ∧ ρ.get (Str.ofString "trees") = .frz (.lst (F.map rowD)) ∧ ρ.get (Str.ofString "made") = .frz (.int (m : Nat))) ws.length (by omega) (hz _) ?_ ?_) ?_
  · refine ⟨_, _, mergeI_start h1, by simp [start], ?_⟩
    walk_at "ev"
    exact ⟨trivial, trivial⟩
  · rintro k ρ ⟨F, m, I, rfl, hF, hm⟩
    have il := I.len
    have hl := len_lst (ds := F.map rowD) (by rw [List.length_map]; omega)
    rw [List.length_map] at hl
    by_cases h2 : F.length < 2
    · left
      walk_at "ev"
      rw [decide_eq_false (by omega)]
    · right
      refine ⟨?_, ?_⟩
      · walk_at "ev"
        rw [decide_eq_true (by omega)]
      refine post_step (exS_sorted (ds := F.map rowD) (hz _) rfl ?_ keysOf_row (by rw [List.length_map]; omega) (by rw [List.length_map]; omega) ?_) ?_
      · walk_at "ev"
      · rw [List.map_map]
        have := I.nd
        rw [show (fun (r : Int × Int) => r.2) ∘ (fun (r : HR) => ((r.1 : Int), (r.2.1 : Int))) = (fun (k : Nat) => (k : Int)) ∘ (fun (r : HR) => r.2.1) from rfl, ← List.map_map]
        refine List.Pairwise.map _ ?_ this
        intro a b hab q
        exact hab (Int.ofNat_inj.mp q)
      rw [sortD_row]
      have I' := I.sorted
      have hs := sortR_sorted (l := F)
      have hls := sortR_perm.length_eq (l₁ := sortR F) (l₂ := F)
      generalize sortR F = S at *
      match S, hls with
      | a :: b :: R, hls =>
        have hl1 : R.length + 2 = F.length := by simpa using hls
        have hd2 := slice_lo2 (ds := (a :: b :: R).map rowD) (by simp; omega) (by simp)
        have i0 := idx_lst (ds := (a :: b :: R).map rowD) (k := 0) (d := rowD a) (by simp; omega) rfl
        have i1 := idx_lst (ds := (a :: b :: R).map rowD) (k := 1) (d := rowD b) (by simp; omega) rfl
        have a0 := idx_row0 (r := a)
        have b0 := idx_row0 (r := b)
        have a2 := idx_row2 (r := a)
        have b2 := idx_row2 (r := b)
        change idxD _ (.int 0) = _ at i0
        change idxD _ (.int 1) = _ at i1
        have hadd := addL (x := R.map rowD) (y := [rowD (a.1 + b.1, m, T.node a.2.2 b.2.2)]) (by simp; omega)
        refine post_step (exS_frz (.lst ((R ++ [(a.1 + b.1, m, T.node a.2.2 b.2.2)]).map rowD)) (hz _) rfl ?_ (by simp only [storeNew])) ?_
        · walk_at "ev"
          rw [List.map_append]
          exact hadd
        refine post_step (exS_aug (hz _) (a := .int (m : Nat)) (b := .int (1 : Nat)) (d := .int (m + 1 : Nat)) ?_ ?_ aug_nat) ?_
        · walk_at "ev"
        · walk_at "ev"
          rfl
        refine post_nil ⟨rfl, (R ++ [(a.1 + b.1, m, T.node a.2.2 b.2.2)]).length, ?_, _, _, I'.step hs, rfl, ?_⟩
        · simp; omega
        · walk_at "ev"
          exact ⟨trivial, trivial⟩
      | [], hls => simp at hls; omega
      | [_], hls => simp at hls; omega
  · rintro ρ ⟨k, ⟨F, m, I, rfl, hF, hm⟩, ht⟩
    have il := I.len
    have ip := I.pos
    have hl := len_lst (ds := F.map rowD) (by rw [List.length_map]; omega)
    rw [List.length_map] at hl
    have hF1 : F.length = 1 := by
      revert ht
      walk_at "ev"
      intro q
      have := Option.some.inj q
      simp only [decide_eq_false_iff_not] at this
      omega
    obtain ⟨r, rfl⟩ := List.length_eq_one_iff.mp hF1
    have i0 := idx_lst (ds := [r].map rowD) (k := 0) (d := rowD r) (by simp [hlim]) rfl
    change idxD _ (.int 0) = _ at i0
    have a2 := idx_row2 (r := r)
    clear ht
    refine post_ret (exS_ret (hz _) (d := r.2.2.toD) ?_) ⟨_, huffOk_of I, rfl⟩
    walk_at "ev"
end
end MineE
end

section
set_option Elab.async false
set_option maxRecDepth 10000
set_option linter.unusedVariables false
open PySem
namespace MineE
open Mine
local macro_rules | `(tactic| walk_at "ev") => `(tactic| simp only [ofString_inj, String.reduceEq, ro_cons, ro_set, hide_get, hideL_nil, hideL_local, hideL_free, hideL_cell, hideL_glob, none_unset, Bool.false_eq_true, if_true, if_false, reduceIte, AV.strict, AV.loose, ev_const, ev_name, ev_bin, ev_usub, ev_ifexp, ev_list, ev_tuple, ev_slhi, ev_sllo, ev_subName, ev_subBin, ev_subConst, ev_subUn, ev_subSub, ev_meth, evB_name, evB_bin, evB_const, evB_sub, evB_call, evB_list, evB_tuple, evB_comp, evB_ifexp, evB_cmp, evB_usub, ev_len, ev_sum, ev_type, ev_lst, ev_max, ev_min, ev_fspath, ev_getsep, ev_join, ev_commonpath, ev_orders, ev_merge, ev_least, tst_not, tst_bool, tst_eq, tst_ne, tst_lt, tst_gt, tst_is, tst_in, tst_notin, tst_name, tst_call, ev_eq, ev_ne, ev_lt, ev_gt, src_range1, src_range2, src_name, constInt, mapO_cons, mapO_nil, cons2_some, op2_some, op2b_some, neg1_int, iteE_t, iteE_f, truthO_some, meth2_some, call1_some, callΦ_some, slc_hi, slc_lo, idxO_some, cmp_eq, cmp_ne, cmp_lt, cmp_gt, pickOS_lst, pickOS_tup, cS_, cSslash, cSdot, cSsd, cSa, cSb, cSc, cSab, cSam, cSadb, cSlat, cBslash, cBdot, cBa, cBb, cNone, cBool, type_txt, truth_bool, eq_bool, eq_txt, boolT_and, boolT_or, oneTest, Option.map_some, and_nat, and_one, add_nat, eq_nat, eq_one, *])
section
variable {Φ : Str → List D → Option D} {ow : Str → Bool} {fz : Nat → List Str} {ρ : Ro}
def optD : Option Nat → D
  | none => .none
  | some v => .int (v : Nat)
theorem intsOf_nats : ∀ {l : List Nat}, intsOf (natsD l) = some (l.map fun (a : Nat) => (a : Int))
  | [] => rfl
  | a :: l => by
    show Option.map _ (intsOf (natsD l)) = _
    rw [intsOf_nats]; rfl
theorem sum_natCast : ∀ {l : List Nat}, (l.map fun (a : Nat) => (a : Int)).sum = ((l.sum : Nat) : Int)
  | [] => rfl
  | a :: l => by rw [List.map_cons, List.sum_cons, List.sum_cons, sum_natCast]; omega
theorem sum_nats {l : List Nat} (h : l.length ≤ lim) : callD (S "sum") [.lst (natsD l)] = some (.int (l.sum : Nat)) := by
  rw [sum_lst (by simpa [natsD] using h) intsOf_nats, sum_natCast]
theorem is_none {c : Option Nat} : cmpD .Is (optD c) .none = some c.isNone := by cases c <;> rfl
/-- what the inner while knows -/
def CI (low m : Nat) (f : Nat → Nat) (c : Option Nat) (p : Nat) : Prop := match c with
  | none => ∀ q, Half low m q → q ≤ p
  | some v => (∃ q, Half low m q ∧ p < q ∧ f q = v) ∧ ∀ q, Half low m q → p < q → v ≤ f q

def nxt (c : Option Nat) (x : Nat) : Nat := match c with
  | none => x
  | some v => if x < v then x else v
theorem CI.inn {low m p : Nat} {f : Nat → Nat} {c : Option Nat} (h : CI low m f c p) (hp : Half low m p) : CI low m f (some (nxt c (f p))) (p - 1 &&& m) := by
  have hlt : p - 1 &&& m < p := by
    have := Nat.and_le_left (n := p - 1) (m := m)
    have := hp.ne; omega
  have hq : ∀ q, Half low m q → p - 1 &&& m < q → q = p ∨ p < q := fun q hq h => by
    rcases Nat.lt_trichotomy q p with w | w | w
    · have := next_sub p hp.sub hq.sub w; omega
    · exact .inl w
    · exact .inr w
  cases c with
  | none =>
    refine ⟨⟨p, hp, hlt, rfl⟩, fun q h1 h2 => ?_⟩
    rcases hq q h1 h2 with rfl | w
    · exact Nat.le_refl _
    · have := h q h1; omega
  | some v =>
    obtain ⟨⟨q0, a1, a2, a3⟩, h2⟩ := h
    show (∃ q, Half low m q ∧ p - 1 &&& m < q ∧ f q = if f p < v then f p else v) ∧ ∀ q, Half low m q → p - 1 &&& m < q → (if f p < v then f p else v) ≤ f q
    by_cases w : f p < v
    · rw [if_pos w]
      refine ⟨⟨p, hp, hlt, rfl⟩, fun q b1 b2 => ?_⟩
      rcases hq q b1 b2 with rfl | w'
      · exact Nat.le_refl _
      · have := h2 q b1 w'; omega
    · rw [if_neg w]
      refine ⟨⟨q0, a1, by omega, a3⟩, fun q b1 b2 => ?_⟩
      rcases hq q b1 b2 with rfl | w'
      · omega
      · exact h2 q b1 w'
theorem CI.out {low m p : Nat} {f : Nat → Nat} {c : Option Nat} (h : CI low m f c p) (hs : Sub p m) (hp0 : p ≠ 0) (hp : ¬ Half low m p) : CI low m f c (p - 1 &&& m) := by
  have hlt : p - 1 &&& m < p := by
    have := Nat.and_le_left (n := p - 1) (m := m)
    omega
  have hq : ∀ q, Half low m q → q ≤ p → q ≤ (p - 1 &&& m) := fun q hq h => by
    rcases Nat.lt_or_eq_of_le h with w | w
    · exact next_sub p hs hq.sub w
    · exact absurd (w ▸ hq) hp
  cases c with
  | none => exact fun q h1 => hq q h1 (h q h1)
  | some v =>
    obtain ⟨⟨q0, a1, a2, a3⟩, h2⟩ := h
    refine ⟨⟨q0, a1, by omega, a3⟩, fun q b1 b2 => ?_⟩
    rcases Nat.lt_or_ge p q with w | w
    · exact h2 q b1 w
    · have := hq q b1 w; omega
theorem is_nn : cmpD .Is .none .none = some true := (rfl)
theorem is_in {i : Int} : cmpD .Is (.int i) .none = some false := (rfl)

theorem least_run {ws : List Nat} (hz : ∀ l, fz l = []) (how : ∀ x, ow x = decide (x = Str.ofString "best")) (h1 : 1 ≤ ws.length) (h6 : ws.length ≤ 6) (hw : ρ.get (Str.ofString "weights") = .frz (.lst (natsD ws))) :
    Post (fun f _ => ∃ B, BestOk ws B ∧ f = .ret (.int (B (2^ws.length - 1) : Nat))) (exs Φ ow fz 200 (bodyAt pw 18) ρ) := by
  have hlim : lim = 1048576 := rfl
  have hp : 2^ws.length ≤ 2^6 := Nat.pow_le_pow_right (by omega) h6
  have hpp : 2^1 ≤ 2^ws.length := Nat.pow_le_pow_right (by omega) h1
  have hlen := len_lst (ds := natsD ws) (by simp [natsD]; omega)
  rw [show (natsD ws).length = ws.length by simp [natsD]] at hlen
  have hpn := pow_nat (k := ws.length) (by omega)
  refine post_step (exS_frz (.int (ws.length : Nat)) (hz _) rfl ?_ rfl) ?_
  · walk_at "ev"
  have hrep := mul_rep (x := .int 0) (k := 2^ws.length) (by omega)
  rw [tab_zero] at hrep
  refine post_step (exS_own (tab (2^ws.length) fun _ => 0) (hz _) rfl ?_ ?_) ?_
  · walk_at "ev"
  · simp only [storeNew, how, decide_true, Bool.true_and]
    rw [if_pos]
    simp [tab]
  refine post_seq _ (post_for (fun j ρ => ∃ B : Nat → Nat, (∀ m, m < j + 1 → BestAt ws B m) ∧ ρ.get (Str.ofString "best") = .own (tab (2^ws.length) fun i => if i < j + 1 then B i else 0) ∧ ρ.get (Str.ofString "n") = .frz (.int (ws.length : Nat)) ∧ ρ.get (Str.ofString "weights") = .frz (.lst (natsD ws))) (2^ws.length - 1) (ds := rangeD 1 (2^ws.length : Nat)) (by rw [range_len]; omega) (hz _) rfl ?_ ?_ ?_) ?_
  · walk_at "ev"
    rw [rng_some (by omega) (by omega) (by omega) (by omega)]
  · refine ⟨fun _ => 0, fun m hm => ?_, ?_⟩
    · have : m = 0 := by omega
      subst this
      refine ⟨fun _ => rfl, fun h => ?_⟩
      rw [show mem ws.length 0 = [] by simp [mem]] at h
      simp at h
    · walk_at "ev"
      refine ⟨?_, trivial, trivial⟩
      congr 1
      exact tab_congr fun t _ => by simp
  · rintro j d ρ hd ⟨B, hB, hb, hn, hw⟩
    obtain ⟨rfl, hj⟩ := range_at hd
    have hj : j + 1 < 2^ws.length := by omega
    rw [show (1 : Int) + (j : Int) = ((j + 1 : Nat) : Int) by omega]
    clear hd
    generalize hmk : j + 1 = m at *
    have hm0 : m ≠ 0 := by omega
    have hmem := mem_pos hj hm0
    have hml : (mem ws.length m).length ≤ 6 := by
      have : (mem ws.length m).length ≤ (List.range ws.length).length := List.length_filter_le _ _
      rw [List.length_range] at this; omega
    have hmlt : ∀ k ∈ mem ws.length m, k < ws.length := fun k hk => (mem_mem.mp hk).1
    refine post_step (exS_frz (.lst (natsD (mem ws.length m))) (hz _) rfl ?_ (by simp only [storeNew, how]; rfl)) ?_
    · rw [ev_comp1 _ (fun d => match d with
        | .int k => m.testBit k.toNat
        | _ => false) (fun d => d) (ds := rangeD 0 (ws.length : Nat)) rfl ?_ ?_ (by rw [range_len]; omega) ?_]
      · congr 2
        unfold rangeD natsD mem
        rw [List.filter_map, List.map_map, show ((ws.length : Int) - 0).toNat = ws.length by omega]
        have e : ((fun d => match d with
          | D.int k => m.testBit k.toNat
          | _ => false) ∘ fun (k : Nat) => D.int (0 + (k : Int))) = fun k => m.testBit k := by
          funext k
          show m.testBit (0 + (k : Int)).toNat = _
          rw [show (0 + (k : Int)).toNat = k by omega]
        rw [e]
        refine List.map_congr_left fun k _ => ?_
        show D.int (0 + (k : Int)) = _
        rw [show (0 + (k : Int)) = (k : Int) by omega]
      · walk_at "ev"
      · walk_at "ev"
        rw [rng_some (by omega) (by omega) (by omega) (by omega)]
      · intro d hd
        obtain ⟨i, hi⟩ := List.mem_iff_getElem?.mp hd
        obtain ⟨rfl, hi⟩ := range_at hi
        have hi : i < ws.length := by omega
        rw [show (0 : Int) + (i : Int) = ((i : Nat) : Int) by omega]
        have hs := shr_nat (m := m) (k := i) (by omega)
        refine ⟨?_, fun _ => ?_⟩
        · walk_at "ev"
          rw [Int.toNat_natCast]
          congr 1
          exact bool_ext (by rw [decide_eq_true_eq, bit_div])
        · walk_at "ev"
    have hlm := len_lst (ds := natsD (mem ws.length m)) (by simp [natsD]; omega)
    rw [show (natsD (mem ws.length m)).length = (mem ws.length m).length by simp [natsD]] at hlm
    refine post_cons (post_if (c := decide (((mem ws.length m).length : Int) > 1)) (hz _) ?_ (fun hc => ?_) (fun hc => ?_))
    · walk_at "ev"
    · simp only [decide_eq_true_eq] at hc
      have hlow0 : (natsD (mem ws.length m))[0]? = some (.int ((mem ws.length m).headD 0 : Nat)) := by
        cases e : mem ws.length m with
        | nil => exact absurd e hmem
        | cons a l => rfl
      have hi0 := idx_lst (by simp [natsD]; omega) hlow0
      change idxD _ (.int 0) = _ at hi0
      have hlk := hmlt _ (low_mem hmem)
      have hpl := pow_nat (k := (mem ws.length m).headD 0) (by omega)
      refine post_step (exS_frz (.int (lowOf ws.length m : Nat)) (hz _) rfl ?_ rfl) ?_
      · walk_at "ev"
        rfl
      have hsub1 := sub_nat (a := m) (b := 1) (by omega)
      change binD .Sub (.int (m : Nat)) (.int 1) = _ at hsub1
      refine post_step (exS_frz (.int ((m - 1 &&& m : Nat))) (hz _) rfl ?_ rfl) ?_
      · walk_at "ev"
      refine post_step (exS_frz .none (hz _) rfl ?_ rfl) ?_
      · walk_at "ev"
      clear hsub1 hpl hi0 hlow0
      have hlowHalf : Half (lowOf ws.length m) m (lowOf ws.length m) := by
        have hb := (mem_mem.mp (low_mem hmem)).2
        have hsb : Sub (lowOf ws.length m) m := sub_iff.mpr fun i hi => by
          unfold lowOf at hi
          rw [Nat.testBit_two_pow, decide_eq_true_eq] at hi
          rw [← hi]; exact hb
        refine ⟨hsb, ?_, ?_, ?_⟩
        · rcases Nat.lt_or_ge (lowOf ws.length m) m with q | q
          · exact q
          · exfalso
            have e : m = 2^((mem ws.length m).headD 0) := Nat.le_antisymm q hsb.le
            have h2 : ∀ k ∈ mem ws.length m, k = (mem ws.length m).headD 0 := fun k hk => by
              have := (mem_mem.mp hk).2
              generalize (mem ws.length m).headD 0 = x at *
              rw [e, Nat.testBit_two_pow, decide_eq_true_eq] at this
              exact this.symm
            have hnd := mem_nodup (n := ws.length) (m := m)
            generalize mem ws.length m = L at *
            match L, hc with
            | a :: b :: L, _ =>
              have e1 := h2 b (.tail _ (.head _))
              simp at e1
              simp [e1] at hnd
            | [], hc => simp at hc
            | [_], hc => simp at hc
        · exact Nat.ne_of_gt (Nat.two_pow_pos _)
        · rw [Nat.and_self]; exact Nat.ne_of_gt (Nat.two_pow_pos _)
      refine post_seq _ (post_while (fun p ρ => ∃ c, Sub p m ∧ p < m ∧ CI (lowOf ws.length m) m (fun q => B q + B (m - q)) c p ∧ ρ.get (Str.ofString "part") = .frz (.int (p : Nat)) ∧ ρ.get (Str.ofString "cheapest") = .frz (optD c) ∧ ρ.get (Str.ofString "mask") = .frz (.int (m : Nat)) ∧ ρ.get (Str.ofString "lowest") = .frz (.int (lowOf ws.length m : Nat)) ∧
        ρ.get (Str.ofString "members") = .frz (.lst (natsD (mem ws.length m))) ∧ ρ.get (Str.ofString "best") = .own (tab (2^ws.length) fun i => if i < m then B i else 0) ∧ ρ.get (Str.ofString "n") = .frz (.int (ws.length : Nat)) ∧ ρ.get (Str.ofString "weights") = .frz (.lst (natsD ws))) (m - 1 &&& m) ?_ (hz _) ?_ ?_) ?_
      · have := Nat.and_le_right (n := m - 1) (m := m); omega
      · refine ⟨none, and_sub, ?_, fun q hq => next_sub m (Nat.and_self m) hq.sub hq.lt, ?_⟩
        · have := Nat.and_le_left (n := m - 1) (m := m); omega
        · walk_at "ev"
          exact ⟨trivial, rfl, trivial, trivial, trivial, trivial, trivial, trivial⟩
      · clear hb hn hw
        rintro p ρ ⟨c, hs, hlt, hci, hpt, hch, hmk', hlo, hme, hb, hn, hw⟩
        by_cases hp0 : p = 0
        · left
          subst hp0
          walk_at "ev"
          rfl
        · right
          refine ⟨?_, ?_⟩
          · walk_at "ev"
            rw [eq_int]
            simp [hp0]
          have hfp : ∀ i, i < m → (tab (2^ws.length) fun i => if i < m then B i else 0)[i]? = some (.int (B i : Nat)) := fun i hi => by
            rw [tab_get (by omega), if_pos hi]
          have hi1 := idx_lst (by rw [tab_len]; omega) (hfp p hlt)
          have hi2 := idx_lst (by rw [tab_len]; omega) (hfp (m - p) (by omega))
          have hsb := sub_nat (a := m) (b := p) hs.le
          have hsb1 := sub_nat (a := p) (b := 1) (by omega)
          change binD .Sub (.int (p : Nat)) (.int 1) = _ at hsb1
          have hle1 := Nat.and_le_left (n := p - 1) (m := m)
          refine post_seq (fun ρ => ∃ c', CI (lowOf ws.length m) m (fun q => B q + B (m - q)) c' (p - 1 &&& m) ∧ ρ.get (Str.ofString "part") = .frz (.int (p : Nat)) ∧ ρ.get (Str.ofString "cheapest") = .frz (optD c') ∧ ρ.get (Str.ofString "mask") = .frz (.int (m : Nat)) ∧ ρ.get (Str.ofString "lowest") = .frz (.int (lowOf ws.length m : Nat)) ∧
            ρ.get (Str.ofString "members") = .frz (.lst (natsD (mem ws.length m))) ∧ ρ.get (Str.ofString "best") = .own (tab (2^ws.length) fun i => if i < m then B i else 0) ∧ ρ.get (Str.ofString "n") = .frz (.int (ws.length : Nat)) ∧ ρ.get (Str.ofString "weights") = .frz (.lst (natsD ws))) (post_if (c := !decide ((p &&& lowOf ws.length m) = 0)) (hz _) ?_ (fun hc => ?_) (fun hc => ?_)) ?_
          · walk_at "ev"
            rw [eq_int]
            simp
          · simp at hc
            have hH : Half (lowOf ws.length m) m p := ⟨hs, hlt, hp0, hc⟩
            refine post_step (exS_frz (.int ((B p + B (m - p) : Nat))) (hz _) rfl ?_ rfl) ?_
            · walk_at "ev"
            refine post_step (exS_frz (.int (nxt c (B p + B (m - p)) : Nat)) (hz _) rfl ?_ rfl) (post_nil ⟨rfl, some (nxt c (B p + B (m - p))), hci.inn hH, ?_⟩)
            · cases c with
              | none =>
                simp only [optD] at hch
                walk_at "ev"
                rw [is_nn, boolT_ort, iteE_t]; rfl
              | some v =>
                simp only [optD] at hch
                walk_at "ev"
                rw [is_in, boolT_orf]
                by_cases w : B p + B (m - p) < v
                · rw [decide_eq_true (Int.ofNat_lt.mpr w), iteE_t, nxt, if_pos w]
                · rw [decide_eq_false (fun q => w (Int.ofNat_lt.mp q)), iteE_f, nxt, if_neg w]
            · walk_at "ev"
              exact ⟨trivial, rfl, trivial, trivial, trivial, trivial, trivial, trivial⟩
          · simp at hc
            exact post_nil ⟨rfl, c, hci.out hs hp0 fun h => h.low hc, hpt, hch, hmk', hlo, hme, hb, hn, hw⟩
          · clear hpt hch hmk' hlo hme hb hn hw hci
            rintro ρ ⟨c', hci, hpt, hch, hmk', hlo, hme, hb, hn, hw⟩
            refine post_step (exS_frz (.int ((p - 1 &&& m : Nat))) (hz _) rfl ?_ rfl) (post_nil ⟨rfl, (p - 1 &&& m), by omega, c', and_sub, by omega, hci, ?_⟩)
            · walk_at "ev"
            · walk_at "ev"
              exact ⟨trivial, trivial, trivial, trivial, trivial, trivial, trivial, trivial⟩
      · clear hb hn hw
        rintro ρ ⟨p, ⟨c, hs, hlt, hci, hpt, hch, hmk', hlo, hme, hb, hn, hw⟩, ht⟩
        have hp0 : p = 0 := by
          revert ht
          walk_at "ev"
          rw [eq_int]
          intro q
          have := Option.some.inj q
          simp at this
          exact this
        subst hp0
        clear ht
        cases c with
        | none => exact absurd (hci _ hlowHalf) (by have := hlowHalf.ne; omega)
        | some v =>
        obtain ⟨⟨q0, a1, a2, a3⟩, h2⟩ := hci
        simp only [optD] at hch
        have hsm := sum_nats (l := (mem ws.length m).map fun k => ws.getD k 0) (by rw [List.length_map]; omega)
        refine post_step (exS_setitem (ds := tab (2^ws.length) fun i => if i < m then B i else 0) (k := (m : Nat)) (v := .int ((wsum ws m + v : Nat))) (hz _) ?_ ?_ ?_ (by omega) (by rw [tab_len, Int.toNat_natCast]; exact hj) (by rw [tab_len]; omega)) ?_
        · walk_at "ev"
          rw [ev_compM _ (fun d => match d with
            | .int k => .int (ws.getD k.toNat 0 : Nat)
            | d => d) (ds := natsD (mem ws.length m)) rfl ?_ ?_ (by simp [natsD]; omega) ?_]
          · have e : (natsD (mem ws.length m)).map (fun d => match d with
              | .int k => .int (ws.getD k.toNat 0 : Nat)
              | d => d) = natsD ((mem ws.length m).map fun k => ws.getD k 0) := by
              unfold natsD
              rw [List.map_map, List.map_map]; rfl
            rw [e, call1_some, hsm, is_in, iteE_f, op2_some, add_nat]; rfl
          · walk_at "ev"
          · walk_at "ev"
          · intro d hd
            obtain ⟨k, hk, rfl⟩ := List.mem_map.mp hd
            have hkl := hmlt k hk
            have hkw : (natsD ws)[k]? = some (.int (ws.getD k 0 : Nat)) := by simp [natsD, hkl]
            have hix := idx_lst (by simp [natsD]; omega) hkw
            walk_at "ev"
            rfl
        · walk_at "ev"
        · walk_at "ev"
        · refine post_nil (post_nil ⟨rfl, fun i => if i = m then wsum ws m + v else B i, fun i hi => ?_, ?_⟩)
          · by_cases e : i = m
            · subst e
              refine ⟨fun h => ?_, fun _ => ⟨v, by simp, ⟨q0, a1, ?_⟩, fun q hq => ?_⟩⟩
              · omega
              · have := a1.lt
                simp only [show ¬ q0 = i by omega, show ¬ i - q0 = i by have := a1.ne; omega, if_false]
                exact a3
              · have := hq.lt
                have := hq.ne
                simp only [show ¬ q = i by omega, show ¬ i - q = i by omega, if_false]
                exact h2 q hq (by omega)
            · refine (hB i (by omega)).congr fun k hk => ?_
              rw [if_neg (by omega)]
          · walk_at "ev"
            refine ⟨?_, trivial, trivial⟩
            congr 1
            rw [Int.toNat_natCast, tab_set hj]
            refine tab_congr fun t _ => ?_
            by_cases e : t = m
            · rw [if_pos e, if_pos (by omega), if_pos e]
            · rw [if_neg e, if_neg e]
              by_cases w : t < m
              · rw [if_pos w, if_pos (by omega)]
              · rw [if_neg w, if_neg (by omega)]
    · simp only [decide_eq_false_iff_not] at hc
      refine post_nil (post_nil ⟨rfl, fun i => if i = m then 0 else B i, fun i hi => ?_, ?_⟩)
      · by_cases e : i = m
        · subst e
          exact ⟨fun _ => by simp, fun h => by omega⟩
        · refine (hB i (by omega)).congr fun k hk => ?_
          rw [if_neg (by omega)]
      · walk_at "ev"
        refine ⟨?_, trivial, trivial⟩
        congr 1
        refine tab_congr fun t _ => ?_
        by_cases e : t = m
        · rw [if_neg (by omega), if_pos (by omega), if_pos e]
        · rw [if_neg e]
          by_cases w : t < m
          · rw [if_pos w, if_pos (by omega)]
          · rw [if_neg w, if_neg (by omega)]
  · rintro ρ ⟨B, hB, hb, hn, hw⟩
    rw [Nat.sub_add_cancel (by omega)] at hb
    have hsb := sub_nat (a := 2^ws.length) (b := 1) (by omega)
    change binD .Sub (.int ((2^ws.length : Nat) : Int)) (.int 1) = _ at hsb
    have hix := idx_lst (k := 2^ws.length - 1) (by rw [tab_len]; omega) (tab_get (n := 2^ws.length) (u := fun i => if i < 2^ws.length then B i else 0) (by omega))
    rw [if_pos (by omega)] at hix
    refine post_ret (exS_ret (hz _) (d := .int (B (2^ws.length - 1) : Nat)) ?_) ⟨B, fun m hm => hB m (by omega), rfl⟩
    walk_at "ev"
end
end MineE
end

section
set_option Elab.async false
set_option maxRecDepth 10000
set_option linter.unusedVariables false
open PySem
namespace MineE
open Mine
local macro_rules | `(tactic| walk_at "ev") => `(tactic| simp only [ofString_inj, String.reduceEq, ro_cons, ro_set, hide_get, hideL_nil, hideL_local, hideL_free, hideL_cell, hideL_glob, none_unset, Bool.false_eq_true, if_true, if_false, reduceIte, AV.strict, AV.loose, ev_const, ev_name, ev_bin, ev_usub, ev_ifexp, ev_list, ev_tuple, ev_slhi, ev_sllo, ev_subName, ev_subBin, ev_subConst, ev_subUn, ev_subSub, ev_meth, evB_name, evB_bin, evB_const, evB_sub, evB_call, evB_list, evB_tuple, evB_comp, evB_ifexp, evB_cmp, evB_usub, ev_len, ev_sum, ev_type, ev_lst, ev_max, ev_min, ev_fspath, ev_getsep, ev_join, ev_commonpath, ev_orders, ev_merge, ev_least, tst_not, tst_bool, tst_eq, tst_ne, tst_lt, tst_gt, tst_is, tst_in, tst_notin, tst_name, tst_call, ev_eq, ev_ne, ev_lt, ev_gt, src_range1, src_range2, src_name, constInt, mapO_cons, mapO_nil, cons2_some, op2_some, op2b_some, neg1_int, iteE_t, iteE_f, truthO_some, meth2_some, call1_some, callΦ_some, slc_hi, slc_lo, idxO_some, cmp_eq, cmp_ne, cmp_lt, cmp_gt, pickOS_lst, pickOS_tup, cS_, cSslash, cSdot, cSsd, cSa, cSb, cSc, cSab, cSam, cSadb, cSlat, cBslash, cBdot, cBa, cBb, cNone, cBool, type_txt, truth_bool, eq_bool, eq_txt, boolT_and, boolT_or, oneTest, Option.map_some, and_nat, and_one, add_nat, eq_nat, eq_one, *])
section
variable {Φ : Str → List D → Option D} {ρ : Ro}
def fz2 (l : Nat) : List Str := if l = 153 then [Str.ofString "weights"] else []
def ow2 (x : Str) : Bool := decide (x = Str.ofString "weights") || decide (x = Str.ofString "places") || decide (x = Str.ofString "rows") || decide (x = Str.ofString "read")
def numbers2 (ns : List Int) : List Int := if ns = [] then [5, 2, 1, 3] else ns
def ws0 (nn : List Int) : List Nat := (nn.take 6).map fun x => (1 + x.fmod 9).toNat
def wsOf (nn : List Int) : List Nat := if (ws0 nn).length = 1 then ws0 nn ++ [1] else ws0 nn
theorem ws0_le {nn : List Int} : ∀ w ∈ ws0 nn, w ≤ 9 := fun w hw => by
  obtain ⟨x, _, rfl⟩ := List.mem_map.mp hw
  have := Int.fmod_lt_of_pos x (b := 9) (by omega)
  omega
theorem wsOf_le {nn : List Int} : ∀ w ∈ wsOf nn, w ≤ 9 := fun w hw => by
  unfold wsOf at hw
  split at hw
  · rcases List.mem_append.mp hw with h | h
    · exact ws0_le w h
    · simp at h; omega
  · exact ws0_le w hw
theorem wsOf_len {nn : List Int} (h : 0 < nn.length) : 2 ≤ (wsOf nn).length ∧ (wsOf nn).length ≤ 6 := by
  have : (ws0 nn).length = min 6 nn.length := by simp [ws0]
  unfold wsOf
  split
  · simp; omega
  · omega
def MergeOk (Φ : Str → List D → Option D) : Prop := ∀ ws : List Nat, 1 ≤ ws.length → ws.length ≤ 6 → ∃ t, HuffOk ws t ∧ Φ (Str.ofString "_law_merge") [.lst (natsD ws)] = some t.toD
def LeastOk (Φ : Str → List D → Option D) : Prop := ∀ ws : List Nat, 1 ≤ ws.length → ws.length ≤ 6 → ∃ B, BestOk ws B ∧ Φ (Str.ofString "_law_least") [.lst (natsD ws)] = some (.int (B (2^ws.length - 1) : Nat))
abbrev topS (rt : Bool) : List Nat := if rt then [47] else []
structure Ctx (rt o : Bool) (nn : List Int) (ρ : Ro) : Prop where
  n : ρ.get (Str.ofString "numbers") = .frz (.lst (nn.map .int))
  w : ρ.get (Str.ofString "weights") = .frz (.lst (natsD (wsOf nn)))
  c : ρ.get (Str.ofString "count") = .frz (.int ((wsOf nn).length : Nat))
  h : ρ.get (Str.ofString "home") = .frz (.txt o (topS rt))
  f : ρ.get (Str.ofString "first") = .frz (.txt o [97])
  s : ρ.get (Str.ofString "second") = .frz (.txt o [98])
  l : ρ.get (Str.ofString "slash") = .frz (.txt o [47])
def stD (o : Bool) (e : T × List Nat × List (List Nat)) : D := .tup [e.1.toD, .txt o e.2.1, .lst (txts o e.2.2)]
theorem mul_none {k : Nat} (h : k ≤ lim) : binD .Mult (.lst [.none]) (.int (k:Nat)) = some (.lst (List.replicate k .none)) := mul_rep h

theorem law2_A (hm : MergeOk Φ) {ns : List Int} (hl : ns.length ≤ 63) {Q : Flw → Ro → Prop} (hs : ρ.get (Str.ofString "script") = .frz (.lst (ns.map .int)))
    (hB : ∀ (ρ : Ro) (rt o : Bool) (t : T), Ctx rt o (numbers2 ns) ρ → HuffOk (wsOf (numbers2 ns)) t → ρ.get (Str.ofString "places") = .own (List.replicate (wsOf (numbers2 ns)).length .none) → ρ.get (Str.ofString "rows") = .own (List.replicate (wsOf (numbers2 ns)).length .none) → ρ.get (Str.ofString "waiting") = .frz (.lst ([(t, topS rt, [])].map (stD o))) → Post Q (exs Φ ow2 fz2 188 ((bodyAt pw 19).drop 12) ρ)) :
    Post Q (exs Φ ow2 fz2 200 (bodyAt pw 19) ρ) := by
  have hlim : lim = 1048576 := rfl
  have hN : 0 < (numbers2 ns).length ∧ (numbers2 ns).length ≤ 63 := by
    unfold numbers2
    split
    · simp
    · rename_i h; exact ⟨List.length_pos_iff.mpr h, hl⟩
  refine post_step (exS_frz (.lst ((numbers2 ns).map .int)) rfl rfl ?_ rfl) ?_
  · have h1 := eq_nilL (n := 4) (ds := ns.map D.int)
    have h2 := list_lst (ds := ns.map D.int) (by rw [List.length_map]; omega)
    by_cases h : ns = []
    · subst h
      walk_at "ev"
      rfl
    · walk_at "ev"
      have : (!decide (ns.map D.int = [])) = true := by simp [h]
      rw [this]
      walk_at "ev"
      unfold numbers2
      rw [if_neg h]
  have hsum := sum_lst (ds := (numbers2 ns).map D.int) (by rw [List.length_map]; omega) intsOf_map
  generalize numbers2 ns = nn at *
  have hwl := wsOf_len hN.1
  have h0l : (ws0 nn).length = min 6 nn.length := by simp [ws0]
  have hsl := slice_hi (ds := nn.map D.int) (k := 6) (by rw [List.length_map]; omega) (by omega)
  change sliceD _ none (some (.int 6)) = _ at hsl
  refine post_step (exS_own (natsD (ws0 nn)) rfl rfl ?_ ?_) ?_
  · rw [ev_compM _ (fun d => match d with
      | .int x => .int ((1 + x.fmod 9).toNat : Nat)
      | d => d) (ds := (nn.map D.int).take 6) rfl ?_ ?_ (by simp; omega) ?_]
    · rw [← List.map_take, List.map_map]
      unfold ws0 natsD
      rw [List.map_map]; rfl
    · walk_at "ev"
    · rw [src_sub]
      walk_at "ev"
    · intro d hd
      obtain ⟨x, _, rfl⟩ := List.mem_map.mp (List.mem_of_mem_take hd)
      walk_at "ev"
      rw [mod_ok (by omega) (by omega), op2_some]
      show some (D.int (1 + x.fmod 9)) = some (.int ((1 + x.fmod 9).toNat : Nat))
      have := Int.fmod_nonneg_of_pos x (b := 9) (by omega)
      rw [Int.toNat_of_nonneg (by omega)]
  · simp only [storeNew, show ow2 (Str.ofString "weights") = true from by decide +kernel, Bool.true_and]
    rw [if_pos]
    simp [natsD]
  have hln := len_lst (ds := natsD (ws0 nn)) (by simp [natsD]; omega)
  rw [show (natsD (ws0 nn)).length = (ws0 nn).length by simp [natsD]] at hln
  refine post_seq (fun ρ => ρ.get (Str.ofString "weights") = .own (natsD (wsOf nn)) ∧ ρ.get (Str.ofString "numbers") = .frz (.lst (nn.map .int))) (post_if (c := decide ((ws0 nn).length = 1)) rfl ?_ (fun hc => ?_) (fun hc => ?_)) ?_
  · walk_at "ev"
  · simp at hc
    refine post_step (exS_append (v := .int 1) (ds := natsD (ws0 nn)) rfl ?_ ?_ (by simp [natsD]; omega)) (post_nil ⟨rfl, ?_⟩)
    · walk_at "ev"
    · walk_at "ev"
    · walk_at "ev"
      refine ⟨?_, trivial⟩
      unfold wsOf
      rw [if_pos hc]
      simp [natsD]
  · simp at hc
    refine post_nil ⟨rfl, ?_⟩
    walk_at "ev"
    refine ⟨?_, trivial⟩
    unfold wsOf
    rw [if_neg hc]
  clear hs
  rintro ρ ⟨hw, hn⟩
  have hln2 := len_lst (ds := natsD (wsOf nn)) (by simp [natsD]; omega)
  rw [show (natsD (wsOf nn)).length = (wsOf nn).length by simp [natsD]] at hln2
  refine post_step (exS_frz (.int ((wsOf nn).length : Nat)) rfl rfl ?_ rfl) ?_
  · walk_at "ev"
  refine post_step (exS_frz (.bool (decide ((nn.sum.fdiv 2).fmod 2 = 1))) rfl rfl ?_ rfl) ?_
  · walk_at "ev"
    rw [fdiv_ok (by omega) (by omega), op2_some, mod_ok (by omega) (by omega), op2b_some, cmp_eq, eq_int]; rfl
  generalize decide ((nn.sum.fdiv 2).fmod 2 = 1) = o
  refine post_step (exS_frz (.txt false (topS (decide (nn.sum.fmod 2 = 0)))) rfl rfl ?_ rfl) ?_
  · walk_at "ev"
    rw [mod_ok (by omega) (by omega), op2b_some, cmp_eq, eq_int]
    by_cases h : nn.sum.fmod 2 = 0 <;> simp [h, iteE_t, iteE_f]
  generalize decide (nn.sum.fmod 2 = 0) = rt
  have he := m_encode (x := topS rt) (by cases rt <;> simp [hlim, topS]) (by cases rt <;> simp [topS])
  refine post_step (exS_frz (.txt o (topS rt)) rfl rfl ?_ rfl) ?_
  · cases o <;> walk_at "ev"
  refine post_step (exS_tuple (ds := [.txt o [97], .txt o [98]]) rfl (fun _ _ _ _ => by intro q; cases q) ?_ (by simp) rfl) ?_
  · cases o <;> (walk_at "ev")
  refine post_step (exS_frz (.txt o [47]) rfl rfl ?_ rfl) ?_
  · cases o <;> (walk_at "ev")
  have hrep := mul_none (k := (wsOf nn).length) (by omega)
  refine post_step (exS_own (List.replicate (wsOf nn).length .none) rfl rfl ?_ ?_) ?_
  · walk_at "ev"
  · simp only [storeNew, show ow2 (Str.ofString "places") = true from by decide +kernel, Bool.true_and]
    rw [if_pos]
    simp
  refine post_step (exS_own (List.replicate (wsOf nn).length .none) rfl rfl ?_ ?_) ?_
  · walk_at "ev"
  · simp only [storeNew, show ow2 (Str.ofString "rows") = true from by decide +kernel, Bool.true_and]
    rw [if_pos]
    simp
  obtain ⟨t, HO, ht⟩ := hm (wsOf nn) (by omega) hwl.2
  refine post_step (exS_frzF (y := Str.ofString "weights") (ds := natsD (wsOf nn)) (.lst ([(t, topS rt, [])].map (stD o))) rfl ?_ rfl ?_ rfl) ?_
  · walk_at "ev"
  · walk_at "ev"
    rfl
  refine hB _ rt o t ⟨?_, ?_, ?_, ?_, ?_, ?_, ?_⟩ HO ?_ ?_ ?_ <;> walk_at "ev"
end
end MineE
end

section
set_option Elab.async false
set_option maxRecDepth 10000
set_option linter.unusedVariables false
open PySem
namespace MineE
open Mine
local macro_rules | `(tactic| walk_at "ev") => `(tactic| simp only [ofString_inj, String.reduceEq, ro_cons, ro_set, hide_get, hideL_nil, hideL_local, hideL_free, hideL_cell, hideL_glob, none_unset, Bool.false_eq_true, if_true, if_false, reduceIte, AV.strict, AV.loose, ev_const, ev_name, ev_bin, ev_usub, ev_ifexp, ev_list, ev_tuple, ev_slhi, ev_sllo, ev_subName, ev_subBin, ev_subConst, ev_subUn, ev_subSub, ev_meth, evB_name, evB_bin, evB_const, evB_sub, evB_call, evB_list, evB_tuple, evB_comp, evB_ifexp, evB_cmp, evB_usub, ev_len, ev_sum, ev_type, ev_lst, ev_max, ev_min, ev_fspath, ev_getsep, ev_join, ev_commonpath, ev_orders, ev_merge, ev_least, tst_not, tst_bool, tst_eq, tst_ne, tst_lt, tst_gt, tst_is, tst_in, tst_notin, tst_name, tst_call, ev_eq, ev_ne, ev_lt, ev_gt, src_range1, src_range2, src_name, constInt, mapO_cons, mapO_nil, cons2_some, op2_some, op2b_some, neg1_int, iteE_t, iteE_f, truthO_some, meth2_some, call1_some, callΦ_some, slc_hi, slc_lo, idxO_some, cmp_eq, cmp_ne, cmp_lt, cmp_gt, pickOS_lst, pickOS_tup, cS_, cSslash, cSdot, cSsd, cSa, cSb, cSc, cSab, cSam, cSadb, cSlat, cBslash, cBdot, cBa, cBb, cNone, cBool, type_txt, truth_bool, eq_bool, eq_txt, boolT_and, boolT_or, oneTest, Option.map_some, and_nat, and_one, add_nat, eq_nat, eq_one, *])
section
variable {Φ : Str → List D → Option D} {ρ : Ro}
def T.size : T → Nat
  | .leaf _ => 1
  | .node a b => a.size + b.size + 1
theorem T.size_pos : ∀ {t : T}, 1 ≤ t.size
  | .leaf _ => Nat.le_refl _
  | .node a b => by simp [T.size]
theorem T.size_keys : ∀ {t : T}, t.size + 1 = 2 * t.keys.length
  | .leaf _ => rfl
  | .node a b => by
    have := T.size_keys (t := a)
    have := T.size_keys (t := b)
    simp only [T.size, T.keys, List.length_append]
    omega
abbrev SI := T × List Nat × List (List Nat)
def flat (st : List SI) : List LV := st.flatMap fun e => lvs e.1 e.2.1 e.2.2
def plOf (o : Bool) (done : List LV) (k : Nat) : D := match look done k with
  | some v => .txt o v.1
  | none => .none
def rwOf (o : Bool) (done : List LV) (k : Nat) : D := match look done k with
  | some v => .lst (txts o v.2)
  | none => .none
theorem look_set {β : Type} {n k : Nat} {f g : Nat → β} {v : β} (hk : k < n) (h1 : g k = v) (h2 : ∀ j, j ≠ k → g j = f j) : ((List.range n).map f).set k v = (List.range n).map g := by
  apply List.ext_getElem?
  intro i
  rw [List.getElem?_set, List.length_map, List.length_range]
  by_cases hi : i < n
  · simp only [List.getElem?_map, List.getElem?_range hi, Option.map_some]
    by_cases e : k = i
    · subst e; simp [hk, h1]
    · rw [if_neg e, h2 i (Ne.symm e)]
  · rw [if_neg (by omega), List.getElem?_eq_none (by simp; omega), List.getElem?_eq_none (by simp; omega)]
theorem plOf_set {o : Bool} {done : List LV} {n k : Nat} {h : List Nat} {r : List (List Nat)} (hk : k < n) : ((List.range n).map (plOf o done)).set k (.txt o h) = (List.range n).map (plOf o ((k, h, r) :: done)) :=
  look_set hk (by simp [plOf, look]) fun j hj => by
    have : ¬ k = j := fun q => hj q.symm
    simp [plOf, look, this]
theorem rwOf_set {o : Bool} {done : List LV} {n k : Nat} {h : List Nat} {r : List (List Nat)} (hk : k < n) : ((List.range n).map (rwOf o done)).set k (.lst (txts o r)) = (List.range n).map (rwOf o ((k, h, r) :: done)) :=
  look_set hk (by simp [rwOf, look]) fun j hj => by
    have : ¬ k = j := fun q => hj q.symm
    simp [rwOf, look, this]
theorem rep_none {n : Nat} {f : Nat → D} (h : ∀ k, f k = .none) : List.replicate n .none = (List.range n).map f := by
  apply List.ext_getElem?
  intro i
  by_cases hi : i < n
  · simp [hi, h]
  · rw [List.getElem?_eq_none (by simp; omega), List.getElem?_eq_none (by simp; omega)]

/-- the state of the walk down the tree -/
structure WalkI (rt : Bool) (n : Nat) (E : List LV) (st : List SI) (done : List LV) : Prop where
  perm : (done ++ flat st).Perm E
  keys : ∀ e ∈ E, e.1 < n
  len : st.length ≤ 40
  row : ∀ e ∈ st, e.2.1.length ≤ 2 * e.2.2.length + 1 ∧ e.2.2.length + e.1.keys.length ≤ n
theorem law2_B (hj : JoinOk Φ) {rt o : Bool} {nn : List Int} {t : T} (hN : 0 < nn.length) (HO : HuffOk (wsOf nn) t) (C : Ctx rt o nn ρ) {Q : Flw → Ro → Prop} (h1 : ρ.get (Str.ofString "places") = .own (List.replicate (wsOf nn).length .none)) (h2 : ρ.get (Str.ofString "rows") = .own (List.replicate (wsOf nn).length .none)) (h3 : ρ.get (Str.ofString "waiting") = .frz (.lst ([(t, topS rt, [])].map (stD o))))
    (hB : ∀ (ρ : Ro) (H : Nat → List Nat) (R : Nat → List (List Nat)), Ctx rt o nn ρ → Fam rt (wsOf nn) H R → ρ.get (Str.ofString "places") = .own ((List.range (wsOf nn).length).map fun k => .txt o (H k)) → ρ.get (Str.ofString "rows") = .own ((List.range (wsOf nn).length).map fun k => .lst (txts o (R k))) → Post Q (exs Φ ow2 fz2 187 ((bodyAt pw 19).drop 13) ρ)) :
    Post Q (exs Φ ow2 fz2 188 ((bodyAt pw 19).drop 12) ρ) := by
  have hlim : lim = 1048576 := rfl
  have hwl := wsOf_len hN
  have hkl : t.keys.length = (wsOf nn).length := by rw [HO.keys.length_eq, List.length_range]
  have hsz := T.size_keys (t := t)
  generalize hn : (wsOf nn).length = n at *
  refine post_seq _ (post_while (fun m ρ => ∃ st done, WalkI rt n (lvs t (topS rt) []) st done ∧ (st.map fun e => e.1.size).sum = m ∧ m + st.length ≤ 40 ∧ Ctx rt o nn ρ ∧ ρ.get (Str.ofString "places") = .own ((List.range n).map (plOf o done)) ∧ ρ.get (Str.ofString "rows") = .own ((List.range n).map (rwOf o done)) ∧ ρ.get (Str.ofString "waiting") = .frz (.lst (st.map (stD o)))) t.size (by omega) rfl ?_ ?_) ?_
  · refine ⟨[(t, topS rt, [])], [], ⟨by simp [flat], fun e he => ?_, by simp, fun e he => ?_⟩, by simp, by simp; omega, C, ?_, ?_, h3⟩
    · have : e.1 ∈ t.keys := by rw [← lvs_keys (t := t) (h := topS rt) (r := [])]; exact List.mem_map.mpr ⟨e, he, rfl⟩
      have := List.mem_range.mp (HO.keys.mem_iff.mp this)
      omega
    · rw [List.mem_singleton.mp he]
      refine ⟨by cases rt <;> simp [topS], by simp; omega⟩
    · rw [h1, rep_none (f := plOf o []) fun k => rfl]
    · rw [h2, rep_none (f := rwOf o []) fun k => rfl]
  · clear h1 h2 h3 C
    rintro m ρ ⟨st, done, I, hm, hm2, C, h1, h2, h3⟩
    have il := I.len
    have hnil := eq_nilL (n := 4) (ds := st.map (stD o))
    by_cases hst : st = []
    · left
      subst hst
      walk_at "ev"
      rfl
    · right
      have hst' : ¬ st.map (stD o) = [] := by simpa using hst
      refine ⟨?_, ?_⟩
      · walk_at "ev"
        simp [hst]
      obtain ⟨st', ⟨u, h, r⟩, rfl⟩ : ∃ st' e, st = st' ++ [e] := ⟨st.dropLast, st.getLast hst, (List.dropLast_concat_getLast hst).symm⟩
      clear hst hst' hnil
      rw [List.map_append] at h3
      have hlast := idx_last (ds := st'.map (stD o)) (x := stD o (u, h, r)) (by simp at il ⊢; omega)
      have hinit := slice_init (ds := st'.map (stD o) ++ [stD o (u, h, r)]) (by simp at il ⊢; omega) (by simp)
      rw [List.dropLast_concat] at hinit
      change ρ.get _ = .frz (.lst (st'.map (stD o) ++ [stD o (u, h, r)])) at h3
      obtain ⟨c1, c2, c3, c4, c5, c6, c7⟩ := C
      refine post_step (exS_tuple (ds := [u.toD, .txt o h, .lst (txts o r)]) rfl (fun _ _ _ _ => by intro q; cases q) ?_ (by simp) rfl) ?_
      · walk_at "ev"
        rfl
      refine post_step (exS_frz (.lst (st'.map (stD o))) rfl rfl ?_ rfl) ?_
      · walk_at "ev"
      obtain ⟨hhl, hrl⟩ := I.row (u, h, r) (by simp)
      dsimp only at hhl hrl
      have hrw : ∀ e ∈ st', e.2.1.length ≤ 2 * e.2.2.length + 1 ∧ e.2.2.length + e.1.keys.length ≤ n := fun e he => I.row e (List.mem_append_left _ he)
      have hpm := I.perm
      simp only [flat, List.flatMap_append, List.flatMap_cons, List.flatMap_nil, List.append_nil] at hpm
      simp only [List.map_append, List.sum_append, List.map_cons, List.map_nil, List.sum_cons, List.sum_nil, List.length_append, List.length_cons, List.length_nil] at hm hm2 il
      clear hlast hinit h3
      cases u with
      | leaf k =>
        have hk : k < n := I.keys (k, h, r) (hpm.mem_iff.mp (by simp [lvs]))
        refine post_cons (post_if (c := true) rfl ?_ (fun _ => ?_) (fun q => nomatch q))
        · rw [tst_not, tst_call, ev_istup_int (i := (k : Nat))]
          · rfl
          · walk_at "ev"
            rfl
        · refine post_step (exS_setitem (ds := (List.range n).map (plOf o done)) (k := (k : Nat)) (v := .txt o h) rfl ?_ ?_ ?_ (by omega) (by simpa using hk) (by simp; omega)) ?_
          · walk_at "ev"
          · walk_at "ev"
            rfl
          · walk_at "ev"
          refine post_step (exS_setitem (ds := (List.range n).map (rwOf o done)) (k := (k : Nat)) (v := .lst (txts o r)) rfl ?_ ?_ ?_ (by omega) (by simpa using hk) (by simp; omega)) ?_
          · walk_at "ev"
          · walk_at "ev"
            rfl
          · walk_at "ev"
          refine post_nil (post_nil ⟨rfl, m - 1, ?_, st', (k, h, r) :: done, ⟨?_, I.keys, by omega, hrw⟩, ?_, ?_, ⟨?_, ?_, ?_, ?_, ?_, ?_, ?_⟩, ?_, ?_, ?_⟩)
          · simp [T.size] at hm; omega
          · refine List.Perm.trans ?_ hpm
            simp only [lvs, flat]
            rw [List.cons_append, ← List.append_assoc]
            exact (List.perm_append_singleton _ _).symm
          · simp [T.size] at hm; omega
          · simp [T.size] at hm; omega
          all_goals walk_at "ev"
          · rw [Int.toNat_natCast, plOf_set hk]
          · rw [Int.toNat_natCast, rwOf_set hk]
      | node a b =>
        have ka := List.length_pos_iff.mpr (keys_ne (t := a))
        have kb := List.length_pos_iff.mpr (keys_ne (t := b))
        simp only [T.keys, List.length_append] at hrl
        refine post_cons (post_if (c := false) rfl ?_ (fun q => nomatch q) (fun _ => ?_))
        · rw [tst_not, tst_call, ev_istup_tup (ds := [a.toD, b.toD])]
          · rfl
          · walk_at "ev"
            rfl
        · have t1 : idxD (T.node a b).toD (.int 1) = some b.toD := idx_tup (ds := [a.toD, b.toD]) (k := 1) (by simp [hlim]) rfl
          have t0 : idxD (T.node a b).toD (.int 0) = some a.toD := idx_tup (ds := [a.toD, b.toD]) (k := 0) (by simp [hlim]) rfl
          have j1 := hj o h [98] (by omega) (by simp)
          have j0 := hj o h [97] (by omega) (by simp)
          have a1 := addL (x := txts o r) (y := [.txt o [98]]) (by simp [txts]; omega)
          have a0 := addL (x := txts o r) (y := [.txt o [97]]) (by simp [txts]; omega)
          rw [show txts o r ++ [D.txt o [98]] = txts o (r ++ [[98]]) by simp [txts]] at a1
          rw [show txts o r ++ [D.txt o [97]] = txts o (r ++ [[97]]) by simp [txts]] at a0
          have ad := addL (x := st'.map (stD o)) (y := [stD o (b, joinP h [98], r ++ [[98]]), stD o (a, joinP h [97], r ++ [[97]])]) (by simp; omega)
          have e2 : st'.map (stD o) ++ [stD o (b, joinP h [98], r ++ [[98]]), stD o (a, joinP h [97], r ++ [[97]])] = (st' ++ [(b, joinP h [98], r ++ [[98]]), (a, joinP h [97], r ++ [[97]])]).map (stD o) := by simp
          rw [e2] at ad
          refine post_step (exS_frz (.lst ((st' ++ [(b, joinP h [98], r ++ [[98]]), (a, joinP h [97], r ++ [[97]])]).map (stD o))) rfl rfl ?_ rfl) ?_
          · walk_at "ev"
            exact ad
          clear e2 ad a1 a0 j1 j0 t1 t0
          simp only [T.size] at hm
          have l1 := joinP_len (a := h) (b := [98])
          have l0 := joinP_len (a := h) (b := [97])
          simp only [List.length_cons, List.length_nil] at l1 l0
          refine post_nil (post_nil ⟨rfl, m - 1, by omega, st' ++ [(b, joinP h [98], r ++ [[98]]), (a, joinP h [97], r ++ [[97]])], done, ⟨?_, I.keys, by have := T.size_pos (t := a); have := T.size_pos (t := b); simp; omega, fun e he => ?_⟩, ?_, ?_, ⟨?_, ?_, ?_, ?_, ?_, ?_, ?_⟩, ?_, ?_, ?_⟩)
          · refine List.Perm.trans ?_ hpm
            simp only [flat, List.flatMap_append, List.flatMap_cons, List.flatMap_nil, List.append_nil, lvs]
            exact ((List.perm_append_comm).append_left _).append_left _
          · rcases List.mem_append.mp he with he | he
            · exact hrw e he
            · simp only [List.mem_cons, List.not_mem_nil, or_false] at he
              rcases he with rfl | rfl <;> (simp only [List.length_append, List.length_cons, List.length_nil]; omega)
          · simp only [List.map_append, List.sum_append, List.map_cons, List.map_nil, List.sum_cons, List.sum_nil]; omega
          · simp only [List.length_append, List.length_cons, List.length_nil]; omega
          all_goals walk_at "ev"
  · clear h1 h2 h3 C
    rintro ρ ⟨m, ⟨st, done, I, hm, hm2, C, h1, h2, h3⟩, ht⟩
    have hnil := eq_nilL (n := 4) (ds := st.map (stD o))
    have hst : st = [] := by
      revert ht
      walk_at "ev"
      intro q
      have := Option.some.inj q
      simpa using this
    subst hst
    have hp := I.perm
    simp only [flat, List.flatMap_nil, List.append_nil] at hp
    obtain ⟨H, R, F, hlook⟩ := fam_of (rt := rt) (by omega) HO hp
    refine hB ρ H R C F ?_ ?_
    · rw [h1]
      congr 1
      refine List.map_congr_left fun k hk => ?_
      rw [hn] at hlook
      rw [plOf, hlook k (List.mem_range.mp hk)]
    · rw [h2]
      congr 1
      refine List.map_congr_left fun k hk => ?_
      rw [hn] at hlook
      rw [rwOf, hlook k (List.mem_range.mp hk)]
end
end MineE
end

section
set_option Elab.async false
set_option maxRecDepth 10000
set_option linter.unusedVariables false
open PySem
namespace MineE
open Mine
local macro_rules | `(tactic| walk_at "ev") => `(tactic| simp only [ofString_inj, String.reduceEq, ro_cons, ro_set, hide_get, hideL_nil, hideL_local, hideL_free, hideL_cell, hideL_glob, none_unset, Bool.false_eq_true, if_true, if_false, reduceIte, AV.strict, AV.loose, ev_const, ev_name, ev_bin, ev_usub, ev_ifexp, ev_list, ev_tuple, ev_slhi, ev_sllo, ev_subName, ev_subBin, ev_subConst, ev_subUn, ev_subSub, ev_meth, evB_name, evB_bin, evB_const, evB_sub, evB_call, evB_list, evB_tuple, evB_comp, evB_ifexp, evB_cmp, evB_usub, ev_len, ev_sum, ev_type, ev_lst, ev_max, ev_min, ev_fspath, ev_getsep, ev_join, ev_commonpath, ev_orders, ev_merge, ev_least, tst_not, tst_bool, tst_eq, tst_ne, tst_lt, tst_gt, tst_is, tst_in, tst_notin, tst_name, tst_call, ev_eq, ev_ne, ev_lt, ev_gt, src_range1, src_range2, src_name, constInt, mapO_cons, mapO_nil, cons2_some, op2_some, op2b_some, neg1_int, iteE_t, iteE_f, truthO_some, meth2_some, call1_some, callΦ_some, slc_hi, slc_lo, idxO_some, cmp_eq, cmp_ne, cmp_lt, cmp_gt, pickOS_lst, pickOS_tup, cS_, cSslash, cSdot, cSsd, cSa, cSb, cSc, cSab, cSam, cSadb, cSlat, cBslash, cBdot, cBa, cBb, cNone, cBool, type_txt, truth_bool, eq_bool, eq_txt, boolT_and, boolT_or, oneTest, Option.map_some, and_nat, and_one, add_nat, eq_nat, eq_one, *])
section
variable {Φ : Str → List D → Option D} {ρ : Ro}
theorem eqT {n : Nat} {o : Bool} {x y : List (List Nat)} : eqD (n+1) (.lst (txts o x)) (.lst (txts o y)) = some (decide (x = y)) := eq_txts
theorem cmp_inT {a : D} {ys : List D} : cmpD .In a (.tup ys) = memD a ys := (rfl)
theorem cmp_inL {a : D} {ys : List D} : cmpD .In a (.lst ys) = memD a ys := (rfl)
def plL (o : Bool) (n : Nat) (H : Nat → List Nat) : List D := (List.range n).map fun k => .txt o (H k)
def rwL (o : Bool) (n : Nat) (R : Nat → List (List Nat)) : List D := (List.range n).map fun k => .lst (txts o (R k))
theorem plL_at {o n H k} (hn : n ≤ 6) (h : k < n) : idxD (.lst (plL o n H)) (.int (k : Nat)) = some (.txt o (H k)) :=
  idx_lst (by simp [plL, lim]; omega) (by simp [plL, h])
theorem rwL_at {o n R k} (hn : n ≤ 6) (h : k < n) : idxD (.lst (rwL o n R)) (.int (k : Nat)) = some (.lst (txts o (R k))) :=
  idx_lst (by simp [rwL, lim]; omega) (by simp [rwL, h])
theorem ws_at {ws : List Nat} {k : Nat} (hn : ws.length ≤ 6) (h : k < ws.length) : idxD (.lst (natsD ws)) (.int (k : Nat)) = some (.int (ws.getD k 0 : Nat)) :=
  idx_lst (by simp [natsD, lim]; omega) (by simp [natsD, h])
structure PR (o : Bool) (n : Nat) (H : Nat → List Nat) (R : Nat → List (List Nat)) (ρ : Ro) : Prop where
  p : ρ.get (Str.ofString "places") = .own (plL o n H)
  r : ρ.get (Str.ofString "rows") = .own (rwL o n R)

theorem law2_C (hc : ComOk Φ) {rt o : Bool} {nn : List Int} {H : Nat → List Nat} {R : Nat → List (List Nat)} (hN : 0 < nn.length) (F : Fam rt (wsOf nn) H R) (C : Ctx rt o nn ρ) (P : PR o (wsOf nn).length H R ρ) {Q : Flw → Ro → Prop}
    (hB : ∀ ρ : Ro, Ctx rt o nn ρ → PR o (wsOf nn).length H R ρ → Post Q (exs Φ ow2 fz2 186 ((bodyAt pw 19).drop 14) ρ)) :
    Post Q (exs Φ ow2 fz2 187 ((bodyAt pw 19).drop 13) ρ) := by
  have hlim : lim = 1048576 := rfl
  have hwl := wsOf_len hN
  refine post_seq _ (post_for (fun k ρ => Ctx rt o nn ρ ∧ PR o (wsOf nn).length H R ρ) (wsOf nn).length (ds := rangeD 0 ((wsOf nn).length : Nat)) (by rw [range_len]; omega) rfl rfl ?_ ⟨C, P⟩ ?_) ?_
  · obtain ⟨c1, c2, c3, c4, c5, c6, c7⟩ := C
    walk_at "ev"
    rw [rng_some (by omega) (by omega) (by omega) (by omega)]
  · clear C P hB
    rintro k d ρ hd ⟨C, P⟩
    obtain ⟨rfl, hk⟩ := range_at hd
    have hk : k < (wsOf nn).length := by omega
    rw [show (0 : Int) + (k : Int) = ((k : Nat) : Int) by omega]
    clear hd
    obtain ⟨c1, c2, c3, c4, c5, c6, c7⟩ := C
    obtain ⟨p1, p2⟩ := P
    have hlk := F.len k hk
    have hHk := F.hlen hk
    have hxk := plL_at (o := o) (H := H) hwl.2 hk
    have hrk := rwL_at (o := o) (R := R) hwl.2 hk
    have hspl := m_split (o := o) (x := H k) (c := 47) (by omega)
    have hsl := splitC_len (c := 47) (x := H k)
    refine post_cons (post_if (c := false) rfl ?_ (fun q => nomatch q) (fun _ => ?_))
    · walk_at "ev"
      rw [ev_comp1 _ (fun d => match d with
        | .txt _ c => pe c
        | _ => false) (fun d => d) (ds := (splitC 47 (H k)).map (.txt o)) rfl ?_ ?_ (by rw [List.length_map]; omega) ?_]
      · rw [List.map_id', List.filter_map]
        have e : (splitC 47 (H k)).filter ((fun d => match d with
          | D.txt _ c => pe c
          | _ => false) ∘ D.txt o) = R k := F.cmpE hk
        rw [e, op2b_some, cmp_ne]
        show Option.map _ (eqD 5 (.lst (txts o (R k))) (.lst (txts o (R k)))) = _
        rw [eqT]; simp
      · walk_at "ev"
      · rw [src_meth]
        walk_at "ev"
      · intro d hd
        obtain ⟨c, hc, rfl⟩ := List.mem_map.mp hd
        have := splitC_mem hc
        have ht := truth_txt (o := o) (x := c) (by omega)
        refine ⟨?_, fun _ => ?_⟩
        · walk_at "ev"
          rfl
        · walk_at "ev"
    · refine post_nil ?_
      refine post_seq _ (post_for (fun j ρ => Ctx rt o nn ρ ∧ PR o (wsOf nn).length H R ρ ∧ ρ.get (Str.ofString "k") = .frz (.int (k : Nat))) k (ds := rangeD 0 (k : Nat)) (by rw [range_len]; omega) rfl rfl ?_ ?_ ?_) ?_
      · walk_at "ev"
        rw [rng_some (by omega) (by omega) (by omega) (by omega)]
      · refine ⟨⟨?_, ?_, ?_, ?_, ?_, ?_, ?_⟩, ⟨?_, ?_⟩, ?_⟩ <;> walk_at "ev"
      · clear c1 c2 c3 c4 c5 c6 c7 p1 p2 hspl hsl
        rintro j d ρ hd ⟨⟨c1, c2, c3, c4, c5, c6, c7⟩, ⟨p1, p2⟩, hkk⟩
        obtain ⟨rfl, hj⟩ := range_at hd
        have hj : j < k := by omega
        have hjn : j < (wsOf nn).length := by omega
        rw [show (0 : Int) + (j : Int) = ((j : Nat) : Int) by omega]
        clear hd
        have hlj := F.len j hjn
        have hHj := F.hlen hjn
        have hxj := plL_at (o := o) (H := H) hwl.2 hjn
        have hcom := hc o rt (H k) (H j) (by omega) (by omega) (by rw [F.cmpC hk]; omega) (by rw [F.cmpC hjn]; omega) (by rw [F.cmpC hk]; intro c hcc; rw [(ab_ok (F.nm k hk c hcc)).2.2.2]; omega) (F.abs hk) (F.abs hjn)
        have hnm := F.common hjn hk (by omega)
        generalize (if rt then [47] else []) ++ joinC [47] (lcp (cmps pc (H k)) (cmps pc (H j))) = X at hcom hnm
        have hmem := mem_txts (o := o) (x := X) (l := [H k, H j])
        rw [decide_eq_false hnm] at hmem
        refine post_cons (post_if (c := false) rfl ?_ (fun q => nomatch q) (fun _ => ?_))
        · clear hnm
          walk_at "ev"
          rw [cmp_inT]
          exact hmem
        · refine post_nil (post_nil ⟨rfl, ⟨?_, ?_, ?_, ?_, ?_, ?_, ?_⟩, ⟨?_, ?_⟩, ?_⟩) <;> walk_at "ev"
      · rintro ρ ⟨C, P, _⟩
        exact post_nil ⟨rfl, C, P⟩
  · rintro ρ ⟨C, P⟩
    exact hB ρ C P
end
end MineE
end

section
set_option Elab.async false
set_option maxRecDepth 10000
set_option linter.unusedVariables false
open PySem
namespace MineE
open Mine
local macro_rules | `(tactic| walk_at "ev") => `(tactic| simp only [ofString_inj, String.reduceEq, ro_cons, ro_set, hide_get, hideL_nil, hideL_local, hideL_free, hideL_cell, hideL_glob, none_unset, Bool.false_eq_true, if_true, if_false, reduceIte, AV.strict, AV.loose, ev_const, ev_name, ev_bin, ev_usub, ev_ifexp, ev_list, ev_tuple, ev_slhi, ev_sllo, ev_subName, ev_subBin, ev_subConst, ev_subUn, ev_subSub, ev_meth, evB_name, evB_bin, evB_const, evB_sub, evB_call, evB_list, evB_tuple, evB_comp, evB_ifexp, evB_cmp, evB_usub, ev_len, ev_sum, ev_type, ev_lst, ev_max, ev_min, ev_fspath, ev_getsep, ev_join, ev_commonpath, ev_orders, ev_merge, ev_least, tst_not, tst_bool, tst_eq, tst_ne, tst_lt, tst_gt, tst_is, tst_in, tst_notin, tst_name, tst_call, ev_eq, ev_ne, ev_lt, ev_gt, src_range1, src_range2, src_name, constInt, mapO_cons, mapO_nil, cons2_some, op2_some, op2b_some, neg1_int, iteE_t, iteE_f, truthO_some, meth2_some, call1_some, callΦ_some, slc_hi, slc_lo, idxO_some, cmp_eq, cmp_ne, cmp_lt, cmp_gt, pickOS_lst, pickOS_tup, cS_, cSslash, cSdot, cSsd, cSa, cSb, cSc, cSab, cSam, cSadb, cSlat, cBslash, cBdot, cBa, cBb, cNone, cBool, type_txt, truth_bool, eq_bool, eq_txt, boolT_and, boolT_or, oneTest, Option.map_some, and_nat, and_one, add_nat, eq_nat, eq_one, *])
section
variable {Φ : Str → List D → Option D} {ρ : Ro}
theorem foldl_max : ∀ {l : List Nat} {a : Nat}, ∃ M : Nat, (l.map fun (x : Nat) => (x : Int)).foldl max (a : Int) = (M : Int) ∧ a ≤ M ∧ (∀ x ∈ l, x ≤ M) ∧ (M = a ∨ M ∈ l)
  | [], a => ⟨a, rfl, Nat.le_refl _, (fun _ h => nomatch h), .inl rfl⟩
  | b :: l, a => by
    obtain ⟨M, h1, h2, h3, h4⟩ := foldl_max (l := l) (a := max a b)
    refine ⟨M, ?_, by omega, fun x hx => ?_, ?_⟩
    · rw [List.map_cons, List.foldl_cons, ← h1]
      congr 1
      omega
    · rcases List.mem_cons.mp hx with rfl | hx
      · omega
      · exact h3 x hx
    · rcases h4 with h | h
      · rcases Nat.le_total a b with q | q
        · exact .inr (by rw [h, Nat.max_eq_right q]; exact .head _)
        · exact .inl (by rw [h, Nat.max_eq_left q])
      · exact .inr (.tail _ h)
theorem max_nats {l : List Nat} (h : l ≠ []) (hl : l.length ≤ lim) : ∃ M, callD (S "max") [.lst (natsD l)] = some (.int (M : Nat)) ∧ (∀ x ∈ l, x ≤ M) ∧ M ∈ l := by
  have key : callD (S "max") [.lst (natsD l)] = (intsOf (natsD l)).bind fun l => (maxOf l).map .int := by
    have hl' : (natsD l).length ≤ lim := by simpa [natsD] using hl
    match l, h with
    | [a], _ => simp [callD, S, ofString_inj, natsD, lim]
    | [a, b], _ => simp [callD, S, ofString_inj, natsD, lim]
    | a :: b :: c :: l, _ =>
      simp only [natsD, List.map_cons] at hl' ⊢
      simp only [callD, S, ofString_inj, String.reduceEq, if_true, if_false, hl']
  rw [key, intsOf_nats]
  match l, h with
  | a :: l, _ =>
    obtain ⟨M, h1, h2, h3, h4⟩ := foldl_max (l := l) (a := a)
    refine ⟨M, ?_, fun x hx => ?_, ?_⟩
    · show some (D.int ((l.map fun (x : Nat) => (x : Int)).foldl max (a : Int))) = _
      rw [h1]
    · rcases List.mem_cons.mp hx with rfl | hx
      · exact h2
      · exact h3 x hx
    · rcases h4 with rfl | h4
      · exact .head _
      · exact .tail _ h4
theorem len_txts {o : Bool} {r : List (List Nat)} (h : r.length ≤ lim) : callD (S "len") [.lst (txts o r)] = some (.int (r.length : Nat)) := by
  rw [len_lst (by simpa [txts] using h)]; simp [txts]

theorem law2_D (hle : LeastOk Φ) {rt o : Bool} {nn : List Int} {H : Nat → List Nat} {R : Nat → List (List Nat)} (hN : 0 < nn.length) (F : Fam rt (wsOf nn) H R) (C : Ctx rt o nn ρ) (P : PR o (wsOf nn).length H R ρ) {Q : Flw → Ro → Prop}
    (hB : ∀ ρ : Ro, Ctx rt o nn ρ → PR o (wsOf nn).length H R ρ → Post Q (exs Φ ow2 fz2 183 ((bodyAt pw 19).drop 17) ρ)) :
    Post Q (exs Φ ow2 fz2 186 ((bodyAt pw 19).drop 14) ρ) := by
  have hlim : lim = 1048576 := rfl
  have hwl := wsOf_len hN
  have hrl : (rwL o (wsOf nn).length R).length = (wsOf nn).length := by simp [rwL]
  obtain ⟨c1, c2, c3, c4, c5, c6, c7⟩ := C
  obtain ⟨p1, p2⟩ := P
  obtain ⟨M, hmax, hM1, hM2⟩ := max_nats (l := (List.range (wsOf nn).length).map fun k => (R k).length) (by
    intro q
    have := congrArg List.length q
    rw [List.length_map, List.length_range, List.length_nil] at this; omega) (by rw [List.length_map, List.length_range]; omega)
  have hMn : M < 6 := by
    obtain ⟨k, hk, rfl⟩ := List.mem_map.mp hM2
    have := F.len k (List.mem_range.mp hk)
    omega
  have hMk : ∀ k < (wsOf nn).length, (R k).length ≤ M := fun k hk => hM1 _ (List.mem_map.mpr ⟨k, List.mem_range.mpr hk, rfl⟩)
  refine post_step (exS_frz (.int (M : Nat)) rfl rfl ?_ rfl) ?_
  · walk_at "ev"
    rw [ev_compM _ (fun d => match d with
      | .lst l => .int (l.length : Nat)
      | d => d) (ds := rwL o (wsOf nn).length R) rfl ?_ ?_ (by omega) ?_]
    · rw [call1_some, ← hmax]
      congr 3
      unfold rwL natsD
      rw [List.map_map, List.map_map]
      refine List.map_congr_left fun k _ => ?_
      show D.int ((txts o (R k)).length : Nat) = _
      simp [txts]
    · walk_at "ev"
    · walk_at "ev"
    · intro d hd
      obtain ⟨k, hk, rfl⟩ := List.mem_map.mp hd
      have hl := F.len k (List.mem_range.mp hk)
      have hlen := len_txts (o := o) (r := R k) (by omega)
      walk_at "ev"
      simp [txts]
  have hpM := pow_nat (k := M) (by omega)
  refine post_cons (post_if (c := false) rfl ?_ (fun q => nomatch q) (fun _ => ?_))
  · walk_at "ev"
    rw [ev_compM _ (fun d => match d with
      | .lst l => .int (2^(M - l.length) : Nat)
      | d => d) (ds := rwL o (wsOf nn).length R) rfl ?_ ?_ (by omega) ?_]
    · have e : (rwL o (wsOf nn).length R).map (fun d => match d with
        | .lst l => .int (2^(M - l.length) : Nat)
        | d => d) = natsD ((List.range (wsOf nn).length).map fun k => 2^(M - (R k).length)) := by
        unfold rwL natsD
        rw [List.map_map, List.map_map]
        refine List.map_congr_left fun k _ => ?_
        show D.int ((2^(M - (txts o (R k)).length) : Nat)) = _
        simp [txts]
      rw [e, call1_some, sum_nats (by simp; omega), F.kraft M hMk, op2b_some, cmp_ne, eq_nat]
      simp
    · walk_at "ev"
    · walk_at "ev"
    · intro d hd
      obtain ⟨k, hk, rfl⟩ := List.mem_map.mp hd
      have hk := List.mem_range.mp hk
      have hl := F.len k hk
      have hlen := len_txts (o := o) (r := R k) (by omega)
      have hsb := sub_nat (hMk k hk)
      have hpw := pow_nat (k := M - (R k).length) (by omega)
      walk_at "ev"
      simp [txts]
  refine post_nil ?_
  obtain ⟨B, hBo, hBv⟩ := hle (wsOf nn) (by omega) hwl.2
  obtain ⟨t, HO, hcost⟩ := F.best
  have hbest := huff_best (by omega) hBo HO
  refine post_cons (post_if (c := false) rfl ?_ (fun q => nomatch q) (fun _ => ?_))
  · walk_at "ev"
    rw [ev_compM _ (fun d => match d with
      | .int k => .int ((wsOf nn).getD k.toNat 0 * (R k.toNat).length : Nat)
      | d => d) (ds := rangeD 0 ((wsOf nn).length : Nat)) rfl ?_ ?_ (by rw [range_len]; omega) ?_]
    · have e : (rangeD 0 ((wsOf nn).length : Nat)).map (fun d => match d with
        | .int k => .int ((wsOf nn).getD k.toNat 0 * (R k.toNat).length : Nat)
        | d => d) = natsD ((List.range (wsOf nn).length).map fun k => (wsOf nn).getD k 0 * (R k).length) := by
        unfold rangeD natsD
        rw [List.map_map, List.map_map, show (((wsOf nn).length : Int) - 0).toNat = (wsOf nn).length by omega]
        refine List.map_congr_left fun k _ => ?_
        show D.int (((wsOf nn).getD (0 + (k : Int)).toNat 0 * (R (0 + (k : Int)).toNat).length : Nat)) = _
        rw [show (0 + (k : Int)).toNat = k by omega]; rfl
      rw [e, call1_some, sum_nats (by simp; omega), hcost, hbest, op2b_some, cmp_ne, eq_nat]
      simp
    · walk_at "ev"
    · walk_at "ev"
      rw [rng_some (by omega) (by omega) (by omega) (by omega)]
    · intro d hd
      obtain ⟨k, hk⟩ := List.mem_iff_getElem?.mp hd
      obtain ⟨rfl, hk⟩ := range_at hk
      have hk : k < (wsOf nn).length := by omega
      rw [show (0 : Int) + (k : Int) = ((k : Nat) : Int) by omega]
      clear hd
      have hl := F.len k hk
      have hwk := ws_at hwl.2 hk
      have hrk := rwL_at (o := o) (R := R) hwl.2 hk
      have hlen := len_txts (o := o) (r := R k) (by omega)
      have h9 : (wsOf nn).getD k 0 ≤ 9 := wsOf_le (nn := nn) _ (by simp [hk])
      have hmul := mul_nat (a := (wsOf nn).getD k 0) (b := (R k).length) (by omega) (by omega)
      walk_at "ev"
      rfl
  refine post_nil ?_
  refine hB _ ⟨?_, ?_, ?_, ?_, ?_, ?_, ?_⟩ ⟨?_, ?_⟩ <;> walk_at "ev"

theorem law2_E {rt o : Bool} {nn : List Int} {H : Nat → List Nat} {R : Nat → List (List Nat)} (hN : 0 < nn.length) (F : Fam rt (wsOf nn) H R) (C : Ctx rt o nn ρ) (P : PR o (wsOf nn).length H R ρ) {Q : Flw → Ro → Prop}
    (hB : ∀ ρ : Ro, Ctx rt o nn ρ → PR o (wsOf nn).length H R ρ → Post Q (exs Φ ow2 fz2 182 ((bodyAt pw 19).drop 18) ρ)) :
    Post Q (exs Φ ow2 fz2 183 ((bodyAt pw 19).drop 17) ρ) := by
  have hlim : lim = 1048576 := rfl
  have hwl := wsOf_len hN
  refine post_seq _ (post_for (fun k ρ => Ctx rt o nn ρ ∧ PR o (wsOf nn).length H R ρ) (wsOf nn).length (ds := rangeD 0 ((wsOf nn).length : Nat)) (by rw [range_len]; omega) rfl rfl ?_ ⟨C, P⟩ ?_) ?_
  · obtain ⟨c1, c2, c3, c4, c5, c6, c7⟩ := C
    walk_at "ev"
    rw [rng_some (by omega) (by omega) (by omega) (by omega)]
  · clear C P hB
    rintro i d ρ hd ⟨C, P⟩
    obtain ⟨rfl, hi⟩ := range_at hd
    have hi : i < (wsOf nn).length := by omega
    rw [show (0 : Int) + (i : Int) = ((i : Nat) : Int) by omega]
    clear hd
    obtain ⟨c1, c2, c3, c4, c5, c6, c7⟩ := C
    obtain ⟨p1, p2⟩ := P
    have hli := F.len i hi
    have hwi := ws_at hwl.2 hi
    have hri := rwL_at (o := o) (R := R) hwl.2 hi
    have hleni := len_txts (o := o) (r := R i) (by omega)
    refine post_cons (post_if (c := false) rfl ?_ (fun q => nomatch q) (fun _ => ?_))
    · walk_at "ev"
      rw [ev_comp1 _ (fun _ => false) (fun d => d) (ds := rangeD 0 ((wsOf nn).length : Nat)) rfl ?_ ?_ (by rw [range_len]; omega) ?_]
      · rw [List.filter_eq_nil_iff.mpr (fun _ _ => by simp), op2b_some, cmp_ne, List.map_nil, eq_nilL]
        simp
      · walk_at "ev"
      · walk_at "ev"
        rw [rng_some (by omega) (by omega) (by omega) (by omega)]
      · intro d hd
        obtain ⟨j, hj⟩ := List.mem_iff_getElem?.mp hd
        obtain ⟨rfl, hj⟩ := range_at hj
        have hj : j < (wsOf nn).length := by omega
        rw [show (0 : Int) + (j : Int) = ((j : Nat) : Int) by omega]
        clear hd
        have hlj := F.len j hj
        have hwj := ws_at hwl.2 hj
        have hrj := rwL_at (o := o) (R := R) hwl.2 hj
        have hlenj := len_txts (o := o) (r := R j) (by omega)
        have hsw := F.swap hi hj
        refine ⟨?_, fun q => nomatch q⟩
        clear hli hlj
        have key : (decide (((wsOf nn).getD i 0 : Int) < ((wsOf nn).getD j 0 : Int)) && decide (((R i).length : Int) < ((R j).length : Int))) = false := by
          rw [Bool.and_eq_false_iff, decide_eq_false_iff_not, decide_eq_false_iff_not]
          by_cases w : (wsOf nn).getD i 0 < (wsOf nn).getD j 0
          · have := hsw w; exact .inr (by omega)
          · exact .inl (by omega)
        clear hsw
        walk_at "ev"
    · refine post_nil (post_nil ⟨rfl, ⟨?_, ?_, ?_, ?_, ?_, ?_, ?_⟩, ⟨?_, ?_⟩⟩) <;> walk_at "ev"
  · rintro ρ ⟨C, P⟩
    exact hB ρ C P
end
end MineE
end

section
set_option Elab.async false
set_option maxRecDepth 10000
set_option linter.unusedVariables false
open PySem
namespace MineE
open Mine
local macro_rules | `(tactic| walk_at "ev") => `(tactic| simp only [ofString_inj, String.reduceEq, ro_cons, ro_set, hide_get, hideL_nil, hideL_local, hideL_free, hideL_cell, hideL_glob, none_unset, Bool.false_eq_true, if_true, if_false, reduceIte, AV.strict, AV.loose, ev_const, ev_name, ev_bin, ev_usub, ev_ifexp, ev_list, ev_tuple, ev_slhi, ev_sllo, ev_subName, ev_subBin, ev_subConst, ev_subUn, ev_subSub, ev_meth, evB_name, evB_bin, evB_const, evB_sub, evB_call, evB_list, evB_tuple, evB_comp, evB_ifexp, evB_cmp, evB_usub, ev_len, ev_sum, ev_type, ev_lst, ev_max, ev_min, ev_fspath, ev_getsep, ev_join, ev_commonpath, ev_orders, ev_merge, ev_least, tst_not, tst_bool, tst_eq, tst_ne, tst_lt, tst_gt, tst_is, tst_in, tst_notin, tst_name, tst_call, ev_eq, ev_ne, ev_lt, ev_gt, src_range1, src_range2, src_name, constInt, mapO_cons, mapO_nil, cons2_some, op2_some, op2b_some, neg1_int, iteE_t, iteE_f, truthO_some, meth2_some, call1_some, callΦ_some, slc_hi, slc_lo, idxO_some, cmp_eq, cmp_ne, cmp_lt, cmp_gt, pickOS_lst, pickOS_tup, cS_, cSslash, cSdot, cSsd, cSa, cSb, cSc, cSab, cSam, cSadb, cSlat, cBslash, cBdot, cBa, cBb, cNone, cBool, type_txt, truth_bool, eq_bool, eq_txt, boolT_and, boolT_or, oneTest, Option.map_some, and_nat, and_one, add_nat, eq_nat, eq_one, *])
section
variable {Φ : Str → List D → Option D} {ow : Str → Bool} {fz : Nat → List Str} {n : Nat} {ρ : Ro}
theorem post_forG {x q it body p} {ds : List D} {Q : Flw → Ro → Prop} (hz : fz p.line = []) (ho : ownName it ρ = false) (hs : src Φ n it ρ = some ds) (h : Post Q (forT (fun d r => some (r.set x (.frz d))) (fun r => exs Φ ow fz n body r) ds ρ)) : Post Q (exS Φ ow fz (n+1) (.For (.Name x q) it body [] p) ρ) := by
  obtain ⟨f, ρ', h1, h2⟩ := h
  exact ⟨f, ρ', exS_for hz ho hs h1, h2⟩
theorem forT_rem {asg : D → Ro → Option Ro} {body : Ro → Option (Flw × Ro)} (I : List D → Ro → Prop) (hs : ∀ d ds ρ, I (d :: ds) ρ → ∃ ρ1, asg d ρ = some ρ1 ∧ Post (Nxt (I ds)) (body ρ1)) : ∀ {ds : List D} {ρ : Ro}, I ds ρ → Post (Nxt (I [])) (forT asg body ds ρ)
  | [], ρ, h => ⟨_, ρ, rfl, rfl, h⟩
  | d :: ds, ρ, h => by
    obtain ⟨ρ1, h1, f, ρ2, h2, rfl, h3⟩ := hs d ds ρ h
    have := forT_rem I hs h3
    unfold forT
    rw [h1]; dsimp only
    rw [h2]; exact this
theorem eq_natsD {n : Nat} {x y : List Nat} : eqD (n+1) (.lst (natsD x)) (.lst (natsD y)) = some (decide (x = y)) := by
  unfold natsD
  rw [eqD, List.length_map, List.length_map]
  by_cases h : x.length = y.length
  · rw [if_pos h]
    induction x generalizing y with
    | nil => cases y with
      | nil => simp [eqDs]
      | cons b y => simp at h
    | cons a x ih => cases y with
      | nil => simp at h
      | cons b y =>
        simp only [List.map_cons, eqDs, eq_nat, ih (y := y) (by simpa using h)]
        simp
  · rw [if_neg h]
    have : x ≠ y := fun q => h (by rw [q])
    simp [this]
theorem m_index {o : Bool} {x : List Nat} {l : List (List Nat)} {i : Nat} (hl : l.length ≤ lim) (h : l[i]? = some x) (hn : ∀ j < i, l[j]? ≠ some x) : methD (Str.ofString "index") (.lst (l.map (.txt o))) [.txt o x] = some (.int (i : Nat)) := by
  have h1 := idxOf_txts (o := o) (s := 0) h hn
  have h2 := mem_txts (o := o) (x := x) (l := l)
  simp [methD, S, h1, h2, hl]
theorem plL_map {o n H} : plL o n H = ((List.range n).map H).map (.txt o) := by simp [plL]
theorem flat_len {R : Nat → List (List Nat)} : ∀ {ms : List Nat}, (∀ k ∈ ms, (R k).length ≤ 6) → (ms.flatMap R).length ≤ 6 * ms.length
  | [], _ => by simp
  | k :: ms, h => by
    have := h k (.head _)
    have := flat_len (R := R) (ms := ms) fun x hx => h x (.tail _ hx)
    rw [List.flatMap_cons, List.length_append, List.length_cons]; omega

/-- the reading of what is written -/
structure RdI (rt o : Bool) (nn : List Int) (H : Nat → List Nat) (R : Nat → List (List Nat)) (ms : List Nat) (ds : List D) (dn rest : List Nat) (pre : List (List Nat)) (ρ : Ro) : Prop where
  c : Ctx rt o nn ρ
  p : PR o (wsOf nn).length H R ρ
  m : ρ.get (Str.ofString "message") = .frz (.lst (natsD ms))
  rd : ρ.get (Str.ofString "read") = .own (natsD dn)
  hr : ρ.get (Str.ofString "here") = .frz (.txt o ((if rt then [47] else []) ++ joinC [47] pre))
  ms : ms = dn ++ rest
  pfx : pre = [] ∨ ∃ k rest', rest = k :: rest' ∧ pre <+: R k ∧ pre ≠ R k
  ds : ds = txts o ((rest.flatMap R).drop pre.length)

theorem law2_F (hj : JoinOk Φ) {rt o : Bool} {nn : List Int} {H : Nat → List Nat} {R : Nat → List (List Nat)} (hN : 0 < nn.length) (hN2 : nn.length ≤ 63) (F : Fam rt (wsOf nn) H R) (C : Ctx rt o nn ρ) (P : PR o (wsOf nn).length H R ρ) :
    Post (fun f _ => f = .ret (.bool true)) (exs Φ ow2 fz2 182 ((bodyAt pw 19).drop 18) ρ) := by
  have hlim : lim = 1048576 := rfl
  have hwl := wsOf_len hN
  obtain ⟨c1, c2, c3, c4, c5, c6, c7⟩ := C
  obtain ⟨p1, p2⟩ := P
  have hsl := slice_hi (ds := nn.map D.int) (k := 12) (by rw [List.length_map]; omega) (by omega)
  change sliceD _ none (some (.int 12)) = _ at hsl
  let ms : List Nat := (nn.take 12).map fun x => (x.fmod (wsOf nn).length).toNat
  have hms : ms.length ≤ 12 := by simp [ms]; omega
  have hmk : ∀ k ∈ ms, k < (wsOf nn).length := fun k hk => by
    obtain ⟨x, _, rfl⟩ := List.mem_map.mp hk
    obtain ⟨r, h1, h2⟩ := fmod_nat (i := x) (k := (wsOf nn).length) (by omega)
    rw [h2, Int.toNat_natCast]; exact h1
  refine post_step (exS_frz (.lst (natsD ms)) rfl rfl ?_ rfl) ?_
  · rw [ev_compM _ (fun d => match d with
      | .int x => .int ((x.fmod (wsOf nn).length).toNat : Nat)
      | d => d) (ds := (nn.map D.int).take 12) rfl ?_ ?_ (by simp; omega) ?_]
    · rw [← List.map_take, List.map_map]
      show _ = some (D.lst (natsD ((nn.take 12).map fun x => (x.fmod (wsOf nn).length).toNat)))
      unfold natsD
      rw [List.map_map]; rfl
    · walk_at "ev"
    · rw [src_sub]
      walk_at "ev"
    · intro d hd
      obtain ⟨x, _, rfl⟩ := List.mem_map.mp (List.mem_of_mem_take hd)
      obtain ⟨r, h1, h2⟩ := fmod_nat (i := x) (k := (wsOf nn).length) (by omega)
      walk_at "ev"
      rw [mod_ok (by omega) (by omega), h2]
      rfl
  clear_value ms
  have hfl := flat_len (R := R) (ms := ms) fun k hk => by have := F.len k (hmk k hk); omega
  refine post_step (exS_frz (.lst (txts o (ms.flatMap R))) rfl rfl ?_ rfl) ?_
  · rw [ev_comp]
    refine (congrArg lstO (comp_cons (ds := natsD ms) ?_ ?_)).trans ?_
    · walk_at "ev"
    · walk_at "ev"
    rw [turns_ok (fun d => match d with
      | .int k => txts o (R k.toNat)
      | _ => []) ?_]
    · have e : ((natsD ms).flatMap fun d => match d with
          | .int k => txts o (R k.toNat)
          | _ => []) = txts o (ms.flatMap R) := by
        unfold natsD txts
        rw [List.flatMap_map, List.map_flatMap]; rfl
      rw [e, lstO_some]
      simp only [txts, List.length_map]
      omega
    · intro d hd
      obtain ⟨k, hk, rfl⟩ := List.mem_map.mp hd
      have hk' := hmk k hk
      have hrk := rwL_at (o := o) (R := R) hwl.2 hk'
      refine .inr ⟨rfl, ?_⟩
      rw [comp1 (fun _ => true) (fun d => d) (ds := txts o (R k)) ?_ ?_ ?_]
      · rw [List.filter_eq_self.mpr fun _ _ => rfl, List.map_id']; rfl
      · walk_at "ev"
      · rw [src_sub]
        walk_at "ev"
      · intro d hd
        refine ⟨rfl, fun _ => ?_⟩
        walk_at "ev"
  refine post_step (exS_frz (.txt o (topS rt)) rfl rfl ?_ rfl) ?_
  · walk_at "ev"
  refine post_step (exS_own [] rfl rfl ?_ rfl) ?_
  · walk_at "ev"
  refine post_seq _ (post_forG rfl ?_ (ds := txts o (ms.flatMap R)) ?_ (forT_rem (fun ds ρ => ∃ dn rest pre, RdI rt o nn H R ms ds dn rest pre ρ) ?_ ?_)) ?_
  · simp only [ownName]; walk_at "ev"
  · walk_at "ev"
  · clear c1 c2 c3 c4 c5 c6 c7 p1 p2 hsl
    rintro d ds ρ ⟨dn, rest, pre, ⟨c1, c2, c3, c4, c5, c6, c7⟩, ⟨p1, p2⟩, hm, hrd, hhr, hsp, hpre, hds⟩
    have hrest : ∃ k rest', rest = k :: rest' ∧ pre <+: R k ∧ pre ≠ R k := by
      rcases hpre with h | h
      · cases rest with
        | nil => subst h; simp [txts] at hds
        | cons k rest' =>
          refine ⟨k, rest', rfl, ?_, ?_⟩
          · rw [h]; exact List.nil_prefix
          · rw [h]
            exact (F.ne k (hmk k (by rw [hsp]; simp))).symm
      · exact h
    obtain ⟨k, rest', rfl, ⟨u, hu⟩, hne⟩ := hrest
    have hk : k < (wsOf nn).length := hmk k (by rw [hsp]; simp)
    cases u with
    | nil => rw [List.append_nil] at hu; exact absurd hu hne
    | cons x suf =>
    have hRk : R k = pre ++ [x] ++ suf := by rw [← hu]; simp
    have hnm := F.nm k hk
    have hx : ab x := hnm x (by rw [← hu]; simp)
    have hpa : ∀ c ∈ pre, ab c := fun c hc => hnm c (by rw [← hu]; simp [hc])
    have hpx : ∀ c ∈ pre ++ [x], ab c := fun c hc => by
      rcases List.mem_append.mp hc with h | h
      · exact hpa c h
      · rw [List.mem_singleton.mp h]; exact hx
    have hlk := F.len k hk
    have hlp : pre.length + 1 + suf.length < 6 := by
      have := congrArg List.length hRk
      simp at this; omega
    rw [List.flatMap_cons, ← hu, List.append_assoc, List.drop_left] at hds
    have hd1 : d = .txt o x := by
      simp [txts] at hds; exact hds.1
    have hd2 : ds = txts o (suf ++ rest'.flatMap R) := by
      simp [txts] at hds; simp [txts, hds.2]
    subst hd1
    clear hds hpre hu
    have ht1 := text_len (rt := rt) hpa
    have hxl := (ab_ok hx).2.2.2
    have hjo := hj o ((if rt then [47] else []) ++ joinC [47] pre) x (by omega) (by omega)
    rw [join_step hpa hx] at hjo
    have hin : decide ((if rt then [47] else []) ++ joinC [47] (pre ++ [x]) ∈ (List.range (wsOf nn).length).map H) = decide (suf = []) := by
      refine decide_eq_decide.mpr ⟨fun h => ?_, fun h => ?_⟩
      · obtain ⟨j, hj', e⟩ := List.mem_map.mp h
        have hj' := List.mem_range.mp hj'
        have e2 := congrArg (cmps pc) e
        rw [F.cmpC hj', cmps_top rfl, cmps_joinC rfl fun b hb => ⟨(ab_ok (hpx b hb)).1, (ab_ok (hpx b hb)).2.1⟩] at e2
        have : j = k := Classical.byContradiction fun q => F.free j hj' k hk q (by rw [e2, hRk]; exact List.prefix_append _ _)
        subst this
        rw [hRk] at e2
        simpa using e2
      · subst h
        rw [List.append_nil] at hRk
        exact List.mem_map.mpr ⟨k, List.mem_range.mpr hk, by rw [F.txt k hk, hRk]⟩
    have hmm := mem_txts (o := o) (x := (if rt then [47] else []) ++ joinC [47] (pre ++ [x])) (l := (List.range (wsOf nn).length).map H)
    rw [hin, ← plL_map] at hmm
    clear hin
    refine ⟨_, rfl, ?_⟩
    refine post_step (exS_frz (.txt o ((if rt then [47] else []) ++ joinC [47] (pre ++ [x]))) rfl rfl ?_ rfl) ?_
    · walk_at "ev"
    refine post_cons (post_if (c := decide (suf = [])) rfl ?_ (fun hc => ?_) (fun hc => ?_))
    · walk_at "ev"
      rw [cmp_inL]; exact hmm
    · rw [decide_eq_true_eq] at hc
      subst hc
      rw [List.append_nil] at hRk
      have hat : ((List.range (wsOf nn).length).map H)[k]? = some ((if rt then [47] else []) ++ joinC [47] (pre ++ [x])) := by
        rw [← hRk, ← F.txt k hk]; simp [hk]
      have hix := m_index (o := o) (by simp; omega) hat fun j hj' e => by
        have hjn : j < (wsOf nn).length := by omega
        simp only [List.getElem?_map, List.getElem?_range hjn, Option.map_some, Option.some.injEq] at e
        rw [← hRk, ← F.txt k hk] at e
        have := F.inj hjn hk e
        omega
      rw [← plL_map] at hix
      have hdl : dn.length ≤ 12 := by
        have := congrArg List.length hsp
        simp at this; omega
      refine post_step (exS_append (v := .int (k : Nat)) (ds := natsD dn) rfl ?_ ?_ (by simp [natsD]; omega)) ?_
      · clear hmm
        walk_at "ev"
      · walk_at "ev"
      refine post_step (exS_frz (.txt o (topS rt)) rfl rfl ?_ rfl) ?_
      · walk_at "ev"
      refine post_nil (post_nil ⟨rfl, dn ++ [k], rest', [], ⟨?_, ?_, ?_, ?_, ?_, ?_, ?_⟩, ⟨?_, ?_⟩, ?_, ?_, ?_, ?_, .inl rfl, ?_⟩)
      rotate_left 12
      · rw [hsp]; simp
      · rw [hd2]; rfl
      all_goals clear hmm hix hjo
      all_goals walk_at "ev"
      · simp [natsD]
      · simp [topS, joinC]
    · rw [decide_eq_false_iff_not] at hc
      refine post_nil (post_nil ⟨rfl, dn, k :: rest', pre ++ [x], ⟨?_, ?_, ?_, ?_, ?_, ?_, ?_⟩, ⟨?_, ?_⟩, ?_, ?_, ?_, hsp, .inr ⟨k, rest', rfl, ?_, ?_⟩, ?_⟩)
      rotate_left 12
      · rw [hRk]; exact List.prefix_append _ _
      · rw [hRk]; simpa using hc
      · rw [List.flatMap_cons, hRk, List.append_assoc, List.drop_left, hd2]
      all_goals clear hmm hjo
      all_goals walk_at "ev"
  · refine ⟨[], ms, [], ⟨⟨?_, ?_, ?_, ?_, ?_, ?_, ?_⟩, ⟨?_, ?_⟩, ?_, ?_, ?_, rfl, .inl rfl, rfl⟩⟩ <;> walk_at "ev"
    · rfl
    · simp [topS, joinC]
  · clear c1 c2 c3 c4 c5 c6 c7 p1 p2 hsl
    rintro ρ ⟨dn, rest, pre, ⟨c1, c2, c3, c4, c5, c6, c7⟩, ⟨p1, p2⟩, hm, hrd, hhr, hsp, hpre, hds⟩
    have hrest : rest = [] := by
      cases rest with
      | nil => rfl
      | cons k rest' =>
        exfalso
        have hk : k < (wsOf nn).length := hmk k (by rw [hsp]; simp)
        have hlen := congrArg List.length hds
        simp only [txts, List.length_map, List.length_nil, List.length_drop, List.flatMap_cons, List.length_append] at hlen
        rcases hpre with h | ⟨k', r', e, ⟨u, hu⟩, hn⟩
        · subst h
          have := List.length_pos_iff.mpr (F.ne k hk)
          simp only [List.length_nil] at hlen
          omega
        · cases e
          cases u with
          | nil => rw [List.append_nil] at hu; exact hn hu
          | cons x u =>
            have := congrArg List.length hu
            simp only [List.length_append, List.length_cons] at this
            omega
    subst hrest
    rw [List.append_nil] at hsp
    have hp : pre = [] := by
      rcases hpre with h | ⟨k', r', e, _⟩
      · exact h
      · cases e
    subst hp
    subst hsp
    have hnil : (if rt then [47] else []) ++ joinC [47] [] = topS rt := by simp [topS, joinC]
    rw [hnil] at hhr
    have heq := eq_natsD (n := 4) (x := ms) (y := ms)
    refine post_ret (exS_ret rfl (d := .bool true) ?_) rfl
    rw [ev_boolop]
    clear hds hpre hnil
    walk_at "ev"
    simp [boolE, truthD]

/-- the law gives True -/
theorem law2_run (hj : JoinOk Φ) (hc : ComOk Φ) (hm : MergeOk Φ) (hle : LeastOk Φ) {ns : List Int} (hl : ns.length ≤ 63) (hs : ρ.get (Str.ofString "script") = .frz (.lst (ns.map .int))) :
    Post (fun f _ => f = .ret (.bool true)) (exs Φ ow2 fz2 200 (bodyAt pw 19) ρ) := by
  have hN : 0 < (numbers2 ns).length ∧ (numbers2 ns).length ≤ 63 := by
    unfold numbers2
    split
    · simp
    · rename_i h; exact ⟨List.length_pos_iff.mpr h, hl⟩
  exact law2_A hm hl hs fun ρ rt o t C HO h1 h2 h3 => law2_B hj hN.1 HO C h1 h2 h3 fun ρ H R C F p r => law2_C hc hN.1 F C ⟨p, r⟩ fun ρ C P => law2_D hle hN.1 F C P fun ρ C P => law2_E hN.1 F C P fun ρ C P => law2_F hj hN.1 hN.2 F C P
end
end MineE
end

section
set_option Elab.async false
set_option maxRecDepth 100000
open PySem PySem.Calls PyProof.Rows PySem.W
namespace MineE
open Mine
/-- what a body gives, run on one argument -/
def runOf (Φ : Str → List D → Option D) (ow : Str → Bool) (n : Nat) (p : Str) (body : List Stmt) : List D → Option D
  | [d] => match exs Φ ow (fun _ => []) n body (roOf [p] [d]) with
    | some (.ret v, _) => some v
    | _ => none
  | _ => none
theorem runOf_one {Φ : Str → List D → Option D} {ow : Str → Bool} {n : Nat} {p : Str} {body : List Stmt} {ds : List D} {v : D} (h : runOf Φ ow n p body ds = some v) : ∃ d, ds = [d] := by
  unfold runOf at h
  split at h
  · exact ⟨_, rfl⟩
  · cases h
theorem runOf_run {Φ : Str → List D → Option D} {ow : Str → Bool} {n : Nat} {p : Str} {body : List Stmt} {ds : List D} {v : D} (h : runOf Φ ow n p body ds = some v) : ∃ ρ', exs Φ ow (fun _ => []) n body (roOf [p] ds) = some (.ret v, ρ') := by
  unfold runOf at h
  split at h
  · split at h
    · rename_i e
      cases h
      exact ⟨_, e⟩
    · cases h
  · cases h
theorem runOf_eq {Φ : Str → List D → Option D} {ow : Str → Bool} {n : Nat} {p : Str} {body : List Stmt} {d v : D} {ρ' : Ro} (h : exs Φ ow (fun _ => []) n body (roOf [p] [d]) = some (.ret v, ρ')) : runOf Φ ow n p body [d] = some v := by
  simp only [runOf, h]
def owN (_ : Str) : Bool := false
def owB (x : Str) : Bool := decide (x = Str.ofString "best")
def psiMg : List D → Option D := runOf phiPath owN 60 (Str.ofString "weights") (bodyAt pw 17)
def phiM : Str → List D → Option D := more phiPath (Str.ofString "_law_merge") psiMg
def psiLs : List D → Option D := runOf phiM owB 200 (Str.ofString "weights") (bodyAt pw 18)
def phi2 : Str → List D → Option D := more phiM (Str.ofString "_law_least") psiLs

structure LawChk2 (K : Frag) : Prop where
  mg : FnChk K (Str.ofString "_law_merge") 125 [Str.ofString "weights"] (bodyAt pw 17 ++ [])
  mgP : ParChk (fdAt K 125) [Str.ofString "weights"] none
  mgO : ((bodyAt pw 17).all fun s => okS 60 (fdAt K 125).scope s) = true
  ls : FnChk K (Str.ofString "_law_least") 130 [Str.ofString "weights"] (bodyAt pw 18 ++ [])
  lsP : ParChk (fdAt K 130) [Str.ofString "weights"] none
  lsO : ((bodyAt pw 18).all fun s => okS 60 (fdAt K 130).scope s) = true
theorem with_chk {K : Frag} {h₀ : Heap} (_ : K.In h₀) {P : Prop} (c : PathChk K) (c2 : LawChk2 K) (h : PathChk K → LawChk2 K → P) : P := h c c2
theorem phi_law2 {prog : Program} {w : World} {h₀ : Heap} {K : Frag} {p : Program} {loose : List Str} {mg mb : Str → Option Value} (X : K.In h₀) (T : TopRead p loose mg mb h₀) (C : PathChk K) (C2 : LawChk2 K) : PhiOk prog w h₀ phi2 12 := by
  have P1 : PhiOk prog w h₀ phiM 10 := phi_more (ow := owN) (fz := fun _ => []) (n := 60) (m := 60) (Ψ := psiMg) (glb_of X T C.bt) (phi_path X T C) T.nolimit (C2.mg.here X T) C2.mg.vars (by simp) C2.mgO id
    (fun ds d h A X s vs dom r => by
      obtain ⟨d', rfl⟩ := runOf_one h
      exact bind_one' C2.mgP r)
    (fun ds d h => runOf_run h)
  exact phi_more (ow := owB) (fz := fun _ => []) (n := 200) (m := 60) (Ψ := psiLs) (glb_of X T C.bt) P1 T.nolimit (C2.ls.here X T) C2.ls.vars (by simp) C2.lsO id
    (fun ds d h A X s vs dom r => by
      obtain ⟨d', rfl⟩ := runOf_one h
      exact bind_one' C2.lsP r)
    (fun ds d h => runOf_run h)
theorem phi2_join : JoinOk phi2 := fun o a b ha hb => by
  simp [phi2, phiM, phiPath, more, ofString_inj, psiJoin, ha, hb]
theorem phi2_com : ComOk phi2 := fun o ab x y h1 h2 h3 h4 h5 h6 h7 => by
  simp only [phi2, phiM, phiPath, more, ofString_inj, String.reduceEq, if_true, if_false, psiCom]
  rw [if_pos ⟨trivial, h1, h2, h3, h4, h5, h6.trans h7.symm⟩, h7]
theorem phi2_merge : MergeOk phi2 := fun ws h1 h6 => by
  obtain ⟨f, ρ', h, t, HO, rfl⟩ := merge_run (Φ := phiPath) (ow := owN) (fz := fun _ => []) (ρ := roOf [Str.ofString "weights"] [.lst (natsD ws)]) (fun _ => rfl) (fun _ => rfl) h1 h6 (by rw [roOf_get, if_pos rfl])
  refine ⟨t, HO, ?_⟩
  simp only [phi2, phiM, more, ofString_inj, String.reduceEq, if_true, if_false]
  exact runOf_eq h
theorem phi2_least : LeastOk phi2 := fun ws h1 h6 => by
  obtain ⟨f, ρ', h, B, HB, rfl⟩ := least_run (Φ := phiM) (ow := owB) (fz := fun _ => []) (ρ := roOf [Str.ofString "weights"] [.lst (natsD ws)]) (fun _ => rfl) (fun _ => rfl) h1 h6 (by rw [roOf_get, if_pos rfl])
  refine ⟨B, HB, ?_⟩
  simp only [phi2, more, if_true]
  exact runOf_eq h
end MineE
end

open PySem PySem.Calls PyProof.Rows PySem.W
open MineE Mine
set_option maxRecDepth 100000
set_option maxHeartbeats 8000000 in
theorem PySem.Challenge.cw_dh5004_02_holds : PySem.Challenge.rw_dh5004_02.Holds := by
  w_on; o_law; k_head; (case hw => w_witness2)
  k_fill
  intro w s₀ s₁ mg mb G Y fa o pm cd doc dV kV ho hd' hcd hD hmg hg args vals as hpre hlay hrd hwl hlo
  have KX := kIn_of Y
  refine Ground.open G ?_
  intro T B D TE TW
  clear hmg
  wrow_args hpre hlay hrd hwl hlo
  rename_i ns _ _ _ _ _ _ _ l _ _ _ _ hw _ _ _ hlen _
  have hl : ns.length ≤ 63 := by omega
  have T' := topRead_of T
  refine with_chk KX ?c1 ?c2 fun C C2 => ?_
  case c1 => exact {
    bt := by kernel_rfl
    fs := by constructor <;> kernel_rfl
    fsP := by constructor <;> kernel_rfl
    fsO := by kernel_rfl
    sep := by constructor <;> kernel_rfl
    sepP := by constructor <;> kernel_rfl
    sepO := by kernel_rfl
    jn := by constructor <;> kernel_rfl
    jnP := by constructor <;> kernel_rfl
    jnO := by kernel_rfl
    cm := by constructor <;> kernel_rfl
    cmP := by constructor <;> kernel_rfl
    cmO := by kernel_rfl }
  case c2 => exact {
    mg := by constructor <;> kernel_rfl
    mgP := by constructor <;> kernel_rfl
    mgO := by kernel_rfl
    ls := by constructor <;> kernel_rfl
    lsP := by constructor <;> kernel_rfl
    lsO := by kernel_rfl }
  have hdV : dV = .none := hD.pos.elim (·.2) fun q => absurd rfl q.1
  obtain ⟨f, ρ', hrun, rfl⟩ := law2_run (ρ := roOf [Str.ofString "script"] [.lst (ns.map .int)]) phi2_join phi2_com phi2_merge phi2_least hl (by rw [roOf_get, if_pos rfl])
  have rep := rep_of_well hw
  refine wpAny_mono (fun_call (post := []) (ps := [Str.ofString "script"]) (ds := [.lst (ns.map .int)]) (X := fun _ => False) (m := 60) (k := 12) (glb_of KX T' C.bt) (phi_law2 KX T' C C2) ho hd' T'.nolimit hcd (by kernel_rfl) (by kernel_rfl) (by kernel_rfl) (by kernel_rfl) (by kernel_rfl) (by kernel_rfl) (by kernel_rfl) ?_ (by simp) hrun (by kernel_rfl) (fun _ _ e => e) (fun _ q => q.elim) (fun _ q => q.elim) ⟨rfl, by decide, by decide⟩ ?_) (fun v s' h => ?_) (fun _ _ h => h)
  · intro x hx
    rw [List.mem_singleton.mp hx]
    kernel_rfl
  · exact bind_one (by kernel_rfl) (by kernel_rfl) (by kernel_rfl) (by kernel_rfl) (by kernel_rfl) hdV (.cons rep .nil)
  · exact good_true hg (by intro cls; kernel_rfl) (by kernel_rfl) h