import PyProof.Rows.All
import Wide.All
import OpenK.AllK
import Wide.FinOn
import Flt.RightMore
import PySem.Challenge.RW_rl0032_01
set_option Elab.async false
set_option maxRecDepth 100000

section
set_option genSizeOf false
set_option genSizeOfSpec false
set_option genInjectivity false
namespace Mine
open PySem

/-- abstract values. A text is told by the letters that it would have at letter 0 (`str`), every sign shifted by the letter. -/
inductive AV where
  | none
  | bool (b : Bool)
  | int (i lo hi : Int)
  | anyInt (lo hi : Int)
  | bigInt
  | fx (i lo hi : Int)
  | fq (i j lo hi : Int)
  | fltI (z : Int)
  | str (cs : List Nat)
  | word (c : Int)
  | letter
  | list (xs : List AV)
  | filt (bs : List Bool) (xs : List AV)
  | anyInts (lo hi : Int) (n0 n1 : Nat)
  | bigInts (n0 n1 : Nat)

abbrev Ro := List (Str × AV)

noncomputable def asName : Expr → Option Str
  | .Name x _ => some x
  | _ => Option.none
theorem asName_inv {e : Expr} {x : Str} (h : asName e = some x) : ∃ p, e = .Name x p := by
  unfold asName at h
  split at h
  · cases h; exact ⟨_, rfl⟩
  · cases h
/-- a call of a name, without keywords -/
noncomputable def asCall (e : Expr) : Option (Str × Pos × List Expr × Pos) := match e with
  | .Call f args kws pos => (match kws with
    | [] => (match f with
      | .Name x p => some (x, p, args, pos)
      | _ => Option.none)
    | _ :: _ => Option.none)
  | _ => Option.none
theorem asCall_inv {e : Expr} {x : Str} {p pos : Pos} {args : List Expr} (h : asCall e = some (x, p, args, pos)) : e = .Call (.Name x p) args [] pos := by
  unfold asCall at h
  split at h
  · split at h
    · split at h
      · cases h; rfl
      · cases h
    · cases h
  · cases h
noncomputable def pairN (es : List Expr) : Option (Str × Pos × Str × Pos) := match es with
  | [a, b] => (match a with
    | .Name x p => (match b with
      | .Name y q => some (x, p, y, q)
      | _ => Option.none)
    | _ => Option.none)
  | _ => Option.none
theorem pairN_inv {es : List Expr} {x y : Str} {p q : Pos} (h : pairN es = some (x, p, y, q)) : es = [.Name x p, .Name y q] := by
  unfold pairN at h
  split at h
  · split at h
    · split at h
      · cases h; rfl
      · cases h
    · cases h
  · cases h
noncomputable def asBool (o : Option AV) : Option Bool := match o with
  | some a => (match a with
    | .bool b => some b
    | _ => Option.none)
  | Option.none => Option.none
theorem asBool_inv {o : Option AV} {b : Bool} (h : asBool o = some b) : o = some (.bool b) := by
  unfold asBool at h
  split at h
  · split at h
    · cases h; rfl
    · cases h
  · cases h
noncomputable def asInt (o : Option AV) : Option (Int × Int × Int) := match o with
  | some a => (match a with
    | .int i l h => some (i, l, h)
    | _ => Option.none)
  | Option.none => Option.none
theorem asInt_inv {o : Option AV} {i l h : Int} (e : asInt o = some (i, l, h)) : o = some (.int i l h) := by
  unfold asInt at e
  split at e
  · split at e
    · cases e; rfl
    · cases e
  · cases e
noncomputable def asList (o : Option AV) : Option (List AV) := match o with
  | some a => (match a with
    | .list xs => some xs
    | _ => Option.none)
  | Option.none => Option.none
theorem asList_inv {o : Option AV} {xs : List AV} (e : asList o = some xs) : o = some (.list xs) := by
  unfold asList at e
  split at e
  · split at e
    · cases e; rfl
    · cases e
  · cases e

noncomputable def lit (i : Int) : AV := .int i i i

noncomputable def absB (l h : Int) : Int := max (l.natAbs : Int) (h.natAbs : Int)

noncomputable def line : Int := 1000000000000000000

noncomputable def addV (a b : AV) : Option AV := match a with
  | .int i l h => (match b with
    | .int j l' h' => some (.int (i + j) (l + l') (h + h'))
    | .anyInt l' h' => some (.anyInt (l + l') (h + h'))
    | _ => Option.none)
  | .list xs => (match b with
    | .list ys => if xs.length + ys.length ≤ 1000 then some (.list (xs ++ ys)) else Option.none
    | _ => Option.none)
  | .str cs => (match b with
    | .str ds => if cs.length + ds.length ≤ 1000 then some (.str (cs ++ ds)) else Option.none
    | _ => Option.none)
  | _ => Option.none
noncomputable def subtV (a b : AV) : Option AV := match a with
  | .int i l h => (match b with
    | .int j l' h' => some (.int (i - j) (l - h') (h - l'))
    | .fx j l' h' => if absB l h ≤ 1000 && absB l' h' ≤ 1000 then some (.fx (i - j) (l - h') (h - l')) else Option.none
    | _ => Option.none)
  | _ => Option.none
noncomputable def multV (i l h j l' h' : Int) : Option AV :=
  if absB l h ≤ line && absB l' h' ≤ line then (if 0 ≤ l && 0 ≤ l' then some (.int (i * j) (l * l') (h * h')) else some (.int (i * j) (-(absB l h * absB l' h')) (absB l h * absB l' h'))) else Option.none
noncomputable def fdivV (i l h j l' h' : Int) : Option AV :=
  if 0 < l' && l' == h' && l' ≤ 1000000 then some (.int (i.fdiv j) (l.fdiv l') (h.fdiv l')) else Option.none
noncomputable def powV (i l h j l' h' : Int) : Option AV :=
  if 0 ≤ l' && l' == h' && l' ≤ 8 && absB l h ≤ 1000000 then (if 0 ≤ l then some (.int (i ^ j.toNat) (l ^ l'.toNat) (h ^ l'.toNat)) else some (.int (i ^ j.toNat) (-(absB l h ^ l'.toNat)) (absB l h ^ l'.toNat))) else Option.none
noncomputable def modV (a : AV) (j l' h' : Int) : Option AV :=
  if 0 < l' && l' == h' then (match a with
    | .int i _ _ => some (.int (i.fmod j) 0 (l' - 1))
    | .anyInt _ _ => some (.anyInt 0 (l' - 1))
    | .bigInt => some (.anyInt 0 (l' - 1))
    | _ => Option.none)
  else Option.none
noncomputable def divV (a : AV) (l' h' : Int) : Option AV := match a with
  | .fx i l h => if 2 ≤ l' && l' == h' && l' ≤ 5 then some (.fq i l' l h) else Option.none
  | _ => Option.none
/-- two whole numbers -/
noncomputable def intsF (f : Int → Int → Int → Int → Int → Int → Option AV) (a b : AV) : Option AV := match a with
  | .int i l h => (match b with
    | .int j l' h' => f i l h j l' h'
    | _ => Option.none)
  | _ => Option.none
/-- any and a whole number -/
noncomputable def intF (f : AV → Int → Int → Int → Option AV) (a b : AV) : Option AV := match b with
  | .int j l' h' => f a j l' h'
  | _ => Option.none

noncomputable def binV (op : Operator) (a b : AV) : Option AV :=
  match op with
  | .Add => addV a b
  | .Sub => subtV a b
  | .Mult => intsF multV a b
  | .FloorDiv => intsF fdivV a b
  | .Mod => intF modV a b
  | .Pow => intsF powV a b
  | .Div => intF (fun a _ l h => divV a l h) a b
  | _ => Option.none

noncomputable def cmpI (f : Int → Int → Bool) (a b : AV) : Option Bool := match a with
  | .int i _ _ => (match b with
    | .int j _ _ => some (f i j)
    | _ => Option.none)
  | _ => Option.none
noncomputable def eqV (a b : AV) : Option Bool := match a with
  | .str cs => (match b with
    | .str ds => some (decide (cs = ds))
    | _ => Option.none)
  | _ => cmpI (fun i j => i == j) a b
noncomputable def neV (a b : AV) : Option Bool := match a with
  | .fltI z => (match b with
    | .int j _ _ => some (z != j)
    | _ => Option.none)
  | .filt bs _ => (match b with
    | .list xs => (match xs with
      | [] => if bs.any id then Option.none else some false
      | _ :: _ => Option.none)
    | _ => Option.none)
  | _ => cmpI (fun i j => i != j) a b
noncomputable def cmpV (op : CmpOp) (a b : AV) : Option Bool :=
  match op with
  | .Eq => eqV a b
  | .NotEq => neV a b
  | .Lt => cmpI (fun i j => decide (i < j)) a b
  | .Gt => cmpI (fun i j => decide (i > j)) a b
  | _ => Option.none

noncomputable def truthV (a : AV) : Option Bool :=
  match a with
  | .bool b => some b
  | .int i _ _ => some (i != 0)
  | .str cs => if cs.length ≤ 1000 then some (match cs with | [] => false | _ :: _ => true) else Option.none
  | _ => Option.none

noncomputable def lowC (c : Nat) : Option Nat :=
  if 65 ≤ c && c ≤ 67 then some (c + 32) else if 97 ≤ c && c ≤ 99 then some c else Option.none

noncomputable def intOf : AV → Option (Int × Int × Int)
  | .int i l h => some (i, l, h)
  | _ => Option.none

noncomputable def sumV : List AV → Option (Int × Int × Int)
  | [] => some (0, 0, 0)
  | .int i l h :: r => match sumV r with
    | some (t, tl, th) => some (i + t, l + tl, h + th)
    | _ => Option.none
  | _ => Option.none

/-- a place in a row of n, as Python counts it -/
noncomputable def placeV (n : Nat) (i : Int) : Option Nat :=
  if 0 ≤ i then (if i < n then some i.toNat else Option.none) else if 0 ≤ i + n then some (i + n).toNat else Option.none

noncomputable def subV (a b : AV) : Option AV :=
  match a, b with
  | .list xs, .int i _ _ => if 0 ≤ i && xs.length ≤ 1000 then xs[i.toNat]? else Option.none
  | .str cs, .int i _ _ => if cs.length ≤ 1000 then match placeV cs.length i with
    | some k => (cs[k]?).map fun c => .str [c]
    | Option.none => Option.none
    else Option.none
  | _, _ => Option.none

noncomputable def cutPlace (n : Nat) (i : Int) : Nat := if 0 ≤ i then min i.toNat n else (max (i + n) 0).toNat

noncomputable def strCut (cs : List Nat) (lo hi : Option AV) : Option AV := match lo with
  | some l => (match hi with
    | some _ => Option.none
    | Option.none => (match l with
      | .int i _ _ => if 0 ≤ i && cs.length ≤ 1000 then some (.str (cs.drop i.toNat)) else Option.none
      | _ => Option.none))
  | Option.none => (match hi with
    | some u => (match u with
      | .int j _ _ => if j < 0 && cs.length ≤ 1000 then some (.str (cs.take (j + cs.length).toNat)) else Option.none
      | .none => if cs.length ≤ 1000 then some (.str cs) else Option.none
      | _ => Option.none)
    | Option.none => Option.none)
noncomputable def listCut (xs : List AV) (lo hi : Option AV) : Option AV := match lo with
  | some _ => Option.none
  | Option.none => (match asInt hi with
    | some (_, l, h) => if 0 ≤ l && l == h && xs.length ≤ 1000 then some (.list (xs.take l.toNat)) else Option.none
    | Option.none => Option.none)
noncomputable def bigCut (n1 : Nat) (lo hi step : Option AV) : Option AV := match asInt hi with
  | some (_, l', h') => (match lo with
    | Option.none => (match step with
      | Option.none => if l' == 40 && h' == 40 && n1 ≤ 1000 then some (.bigInts 0 n1) else Option.none
      | some _ => Option.none)
    | some _ => (match asInt lo with
      | some (_, l, h) => (match asInt step with
        | some (_, l'', h'') => if 0 ≤ l && l == h && l' == 40 && h' == 40 && 1 ≤ l'' && l'' == h'' && n1 ≤ 1000 then some (.bigInts 0 n1) else Option.none
        | Option.none => Option.none)
      | Option.none => Option.none))
  | Option.none => Option.none
noncomputable def sliceV (a : AV) (lo hi step : Option AV) : Option AV :=
  match a with
  | .str cs => (match step with
    | Option.none => strCut cs lo hi
    | some _ => Option.none)
  | .list xs => (match step with
    | Option.none => listCut xs lo hi
    | some _ => Option.none)
  | .bigInts _ n1 => bigCut n1 lo hi step
  | _ => Option.none

inductive It where
  | one (a : AV)
  | two (a b : AV)

noncomputable def rangeL (a : Int) (step : Int) : Nat → List AV
  | 0 => []
  | n + 1 => lit a :: rangeL (a + step) step n

noncomputable def rangeN (a b c : Int) : Nat := (Builtin.Range.rangeSize a b c).toNat

noncomputable def range1 (a : AV) : Option (List AV) := match a with
  | .int _ l h => if l == h && absB l h ≤ 1000 then some (rangeL 0 1 (rangeN 0 l 1)) else Option.none
  | _ => Option.none
noncomputable def range2 (a b : AV) : Option (List AV) := match a with
  | .int _ l h => (match b with
    | .int _ l' h' => if l == h && l' == h' && absB l h ≤ 1000 && absB l' h' ≤ 1000 then some (rangeL l 1 (rangeN l l' 1)) else Option.none
    | _ => Option.none)
  | _ => Option.none
noncomputable def range3 (a b c : AV) : Option (List AV) := match a with
  | .int _ l h => (match b with
    | .int _ l' h' => (match c with
      | .int _ l'' h'' => if l == h && l' == h' && l'' == h'' && absB l h ≤ 1000 && absB l' h' ≤ 1000 && 0 < l'' && l'' ≤ 1000 then some (rangeL l l'' (rangeN l l' l'')) else Option.none
      | _ => Option.none)
    | _ => Option.none)
  | _ => Option.none
noncomputable def rangeV : List AV → Option (List AV)
  | [a] => range1 a
  | [a, b] => range2 a b
  | [a, b, c] => range3 a b c
  | _ => Option.none

noncomputable def enumL : Nat → List AV → List It
  | _, [] => []
  | k, x :: r => .two (lit k) x :: enumL (k + 1) r

noncomputable def zipL : List AV → List AV → List It
  | x :: r, y :: t => .two x y :: zipL r t
  | _, _ => []

noncomputable def setR : Ro → Str → AV → Ro
  | [], x, a => [(x, a)]
  | (y, b) :: r, x, a => if y == x then (y, a) :: r else (y, b) :: setR r x a

/-- what a comprehension's own frame sees of its maker's names -/
noncomputable def seen (scope : Scope) (ρ : Ro) : Ro := ρ.filter fun p => scope.names.lookup p.1 == some .free

structure Cfg where
  own : Option Str
  l0 : Bool
  consts : List (Str × Int)
  call : Str → List AV → Option AV
  cov : Bool := false
  sp : Bool := false

abbrev Sc := List (Str × NameKind)
/-- is it a global name here -/
noncomputable def glb (sc : Sc) (x : Str) : Bool := match sc.lookup x with
  | some .globalImplicit => !(x == ("__debug__" : Str))
  | _ => false
/-- may it be stored here -/
noncomputable def stk (sc : Sc) (x : Str) : Bool := match sc.lookup x with
  | some .local => !(x == ("__debug__" : Str))
  | some .cell => !(x == ("__debug__" : Str))
  | _ => false
/-- a comprehension's scope over its maker's -/
noncomputable def scOk (scope : Scope) (sc : Sc) (ρ : Ro) : Bool :=
  (match scope.kind with | .function => true | _ => false) && scope.names.all fun p => (scope.names.lookup p.1 == some p.2) && match p.2 with
    | .free => (match sc.lookup p.1 with | some .cell => (ρ.lookup p.1).isSome | _ => false)
    | _ => true
abbrev Rec := Bool → Sc → Ro → Expr → Option AV

noncomputable def bindV (own : Option Str) (sc : Sc) (ρ : Ro) (t : Expr) (i : It) : Option Ro :=
  match t with
  | .Name x _ => (match i with
    | .one a => if stk sc x && !(own == some x) then some (setR ρ x a) else Option.none
    | .two _ _ => Option.none)
  | .Tuple es _ _ => (match i with
    | .one _ => Option.none
    | .two a b => (match pairN es with
      | some (x, _, y, _) => if stk sc x && stk sc y && !(own == some x) && !(own == some y) then some (setR (setR ρ x a) y b) else Option.none
      | Option.none => Option.none))
  | _ => Option.none

noncomputable def evL (rec : Rec) (sc : Sc) (ρ : Ro) : List Expr → Option (List AV)
  | [] => some []
  | e :: r => match rec false sc ρ e, evL rec sc ρ r with
    | some a, some t => some (a :: t)
    | _, _ => Option.none

noncomputable def nm (e : Expr) (s : Str) : Bool := match e with
  | .Name x _ => x == s
  | _ => false

noncomputable def evO (rec : Rec) (sc : Sc) (ρ : Ro) : Option Expr → Option (Option AV)
  | Option.none => some Option.none
  | some e => match rec false sc ρ e with
    | some a => some (some a)
    | Option.none => Option.none

noncomputable def isName : Expr → Bool
  | .Name _ _ => true
  | _ => false
noncomputable def isSub : Expr → Bool
  | .Subscript _ _ _ => true
  | _ => false
noncomputable def isPair : Expr → Bool
  | .Tuple es _ _ => (pairN es).isSome
  | _ => false

/-- the things that a loop takes in turn -/
noncomputable def iterL (target : Expr) (o : Option AV) : Option (List It) := if !(isName target) then Option.none else match asList o with
  | some xs => if xs.length ≤ 1000 then some (xs.map It.one) else Option.none
  | Option.none => Option.none
noncomputable def iterE (rec : Rec) (sc : Sc) (ρ : Ro) (args : List Expr) : Option (List It) := match args with
  | [a] => (match asList (rec false sc ρ a) with
    | some xs => if xs.length ≤ 1000 then some (enumL 0 xs) else Option.none
    | Option.none => Option.none)
  | _ => Option.none
noncomputable def iterZ (rec : Rec) (sc : Sc) (ρ : Ro) (args : List Expr) : Option (List It) := match args with
  | [a, b] => (match asList (rec false sc ρ a) with
    | some xs => (match asList (rec false sc ρ b) with
      | some ys => if xs.length == ys.length && xs.length ≤ 1000 then some (zipL xs ys) else Option.none
      | Option.none => Option.none)
    | Option.none => Option.none)
  | _ => Option.none
noncomputable def iterR (rec : Rec) (sc : Sc) (ρ : Ro) (args : List Expr) : Option (List It) := match args with
  | [] => Option.none
  | _ :: _ => (match evL rec sc ρ args with
    | some as => (rangeV as).map fun l => l.map It.one
    | Option.none => Option.none)
/-- the things that a loop takes in turn -/
noncomputable def iterV (rec : Rec) (sc : Sc) (ρ : Ro) (target e : Expr) : Option (List It) :=
  match e with
  | .Call fn args kws pos => (match asCall (.Call fn args kws pos) with
    | some (f, _, _, _) => if !(glb sc f) then Option.none else
      if f == ("range" : Str) then if !(isName target) then Option.none else iterR rec sc ρ args
      else if f == ("enumerate" : Str) then if !(isPair target) then Option.none else iterE rec sc ρ args
      else if f == ("zip" : Str) then if !(isPair target) then Option.none else iterZ rec sc ρ args
      else iterL target (rec false sc ρ e)
    | Option.none => Option.none)
  | .Name _ _ => iterL target (rec false sc ρ e)
  | .BinOp _ _ _ _ => iterL target (rec false sc ρ e)
  | _ => Option.none

/-- the target's names are not told of yet -/
noncomputable def newT (ρ : Ro) : Expr → Bool
  | .Name x _ => (ρ.lookup x).isNone
  | .Tuple es _ _ => (match pairN es with
    | some (x, _, y, _) => (ρ.lookup x).isNone && (ρ.lookup y).isNone
    | Option.none => false)
  | _ => false

/-- one clause: each thing in turn; the values that come out -/
noncomputable def clauseV (own : Option Str) (sc : Sc) (ρ : Ro) (target : Expr) (emit : Ro → Option (List AV)) : List It → Option (List AV)
  | [] => some []
  | i :: r => if !(newT ρ target) then Option.none else match bindV own sc ρ target i with
    | some ρ' => match emit ρ', clauseV own sc ρ target emit r with
      | some xs, some ys => some (xs ++ ys)
      | _, _ => Option.none
    | Option.none => Option.none

/-- a clause with one test: the test's answers, and the values that would come out -/
noncomputable def clauseT (own : Option Str) (rec : Rec) (sc : Sc) (ρ : Ro) (target : Expr) (c elt : Expr) : List It → Option (List Bool × List AV)
  | [] => some ([], [])
  | i :: r => if !(newT ρ target) then Option.none else match bindV own sc ρ target i with
    | some ρ' => match rec true sc ρ' c, rec false sc ρ' elt, clauseT own rec sc ρ target c elt r with
      | some (.bool b), some x, some (bs, xs) => some (b :: bs, x :: xs)
      | _, _, _ => Option.none
    | Option.none => Option.none

noncomputable def emit1 (rec : Rec) (sc : Sc) (elt : Expr) (ρ : Ro) : Option (List AV) := match rec false sc ρ elt with
  | some a => some [a]
  | Option.none => Option.none

noncomputable def compB (own : Option Str) (rec : Rec) (sc : Sc) (ρ : Ro) (elt target iter : Expr) (scope : Scope) : Option AV :=
  if !(isSub iter) then Option.none else match rec false sc ρ iter with
    | some a => (match a with
      | .bigInts n0 n1 => (match target with
        | .Name x _ => if stk scope.names x && !(own == some x) && n1 ≤ 1000 then (match rec false scope.names (setR (seen scope ρ) x .bigInt) elt with
          | some b => (match b with
            | .anyInt l h => some (.anyInts l h n0 n1)
            | _ => Option.none)
          | Option.none => Option.none)
          else Option.none
        | _ => Option.none)
      | _ => Option.none)
    | Option.none => Option.none
noncomputable def comp1 (own : Option Str) (rec : Rec) (sc : Sc) (ρ : Ro) (elt target iter : Expr) (scope : Scope) : Option AV :=
  match iterV rec sc ρ target iter with
  | some its => (clauseV own scope.names (seen scope ρ) target (emit1 rec scope.names elt) its).map AV.list
  | Option.none => compB own rec sc ρ elt target iter scope
noncomputable def compT (own : Option Str) (rec : Rec) (sc : Sc) (ρ : Ro) (elt target iter c : Expr) (scope : Scope) : Option AV :=
  match iterV rec sc ρ target iter with
  | some its => (clauseT own rec scope.names (seen scope ρ) target c elt its).map fun p => AV.filt p.1 p.2
  | Option.none => Option.none
noncomputable def comp2 (own : Option Str) (rec : Rec) (sc : Sc) (ρ : Ro) (elt target iter target' iter' : Expr) (scope : Scope) : Option AV :=
  match iterV rec sc ρ target iter with
  | some its => (clauseV own scope.names (seen scope ρ) target (fun ρ' => match iterV rec scope.names ρ' target' iter' with
      | some its' => clauseV own scope.names ρ' target' (emit1 rec scope.names elt) its'
      | Option.none => Option.none) its).map AV.list
  | Option.none => Option.none
/-- a clause's target and what it goes over, where it is not async -/
noncomputable def asCl (c : Comprehension) : Option (Expr × Expr × List Expr) := match c with
  | ⟨target, iter, ifs, as⟩ => if as == 0 then some (target, iter, ifs) else Option.none
theorem asCl_inv {c : Comprehension} {t i : Expr} {ifs : List Expr} (h : asCl c = some (t, i, ifs)) : c = ⟨t, i, ifs, 0⟩ := by
  unfold asCl at h
  split at h
  split at h
  · rename_i q
    cases h
    rw [eq_of_beq q]
  · cases h
noncomputable def compV (own : Option Str) (rec : Rec) (sc : Sc) (ρ : Ro) (elt : Expr) (gens : List Comprehension) (scope : Scope) : Option AV :=
  if !(scOk scope sc ρ) then Option.none else
  match gens with
  | [c] => (match asCl c with
    | some (target, iter, ifs) => (match ifs with
      | [] => comp1 own rec sc ρ elt target iter scope
      | [t] => compT own rec sc ρ elt target iter t scope
      | _ => Option.none)
    | Option.none => Option.none)
  | [c, c'] => (match asCl c with
    | some (target, iter, ifs) => (match ifs with
      | [] => (match asCl c' with
        | some (target', iter', ifs') => (match ifs' with
          | [] => comp2 own rec sc ρ elt target iter target' iter' scope
          | _ :: _ => Option.none)
        | Option.none => Option.none)
      | _ :: _ => Option.none)
    | Option.none => Option.none)
  | _ => Option.none

noncomputable def countB : List Bool → Int
  | [] => 0
  | b :: r => (if b then 1 else 0) + countB r

noncomputable def isFlt : AV → Option Bool
  | .fltI _ => some true
  | .int _ _ _ => some false
  | _ => Option.none
noncomputable def isIntB : AV → Option Bool
  | .int _ _ _ => some true
  | _ => Option.none
noncomputable def isBoolB : AV → Option Bool
  | .int _ _ _ => some false
  | _ => Option.none

noncomputable def minV (a b : AV) : Option AV := match a, b with
  | .int i l h, .int j l' h' => some (.int (if j < i then j else i) (min l l') (min h h'))
  | .anyInt l _, .int j l' h' => if l' == h' && l' ≤ l then some (.int j l' h') else Option.none
  | _, _ => Option.none

noncomputable def lenV (a : AV) : Option AV := match a with
  | .list xs => if xs.length ≤ 1000 then some (lit xs.length) else Option.none
  | .str cs => if cs.length ≤ 1000 then some (lit cs.length) else Option.none
  | .filt bs _ => if bs.length ≤ 1000 then some (.int (countB bs) 0 bs.length) else Option.none
  | .bigInts n0 n1 => if n1 ≤ 1000 then (if n0 == n1 then some (lit n0) else some (.anyInt n0 n1)) else Option.none
  | _ => Option.none

noncomputable def sumAV (a : AV) : Option AV := match a with
  | .list xs => match sumV xs with
    | some (i, l, h) => some (.int i l h)
    | Option.none => Option.none
  | .anyInts l h _ n1 => some (.anyInt (min l 0 * n1) (max h 0 * n1))
  | _ => Option.none

noncomputable def chrV (l0 : Bool) (a : AV) : Option AV := match a with
  | .int i l h => if l0 && 0 ≤ l && h ≤ 1000 then some (.str [i.toNat]) else Option.none
  | _ => Option.none

/-- math.fsum of ints, none below nought -/
noncomputable def fsumV (xs : List AV) : Option AV := match sumV xs with
  | some (i, l, h) => if nneg xs && h ≤ 1000 then some (.fx i l h) else Option.none
  | Option.none => Option.none
where
  nneg : List AV → Bool
    | [] => true
    | .int _ l _ :: r => 0 ≤ l && nneg r
    | _ => false

noncomputable def builtinV (cfg : Cfg) (f : Str) (as : List AV) : Option AV :=
  match as with
  | [a] =>
    if f == ("len" : Str) then lenV a
    else if f == ("sum" : Str) then sumAV a
    else if f == ("chr" : Str) then chrV cfg.l0 a
    else if f == ("fsum" : Str) then (match a with
      | .list xs => fsumV xs
      | _ => Option.none)
    else cfg.call f as
  | [a, b] => if f == ("min" : Str) then minV a b else cfg.call f as
  | _ => cfg.call f as

noncomputable def isiV (rec : Rec) (sc : Sc) (ρ : Ro) (args : List Expr) : Option AV := match args with
  | [e, te] => (match asName te with
    | some t => if !(glb sc t) then Option.none else (match rec false sc ρ e with
      | some a =>
        if t == ("float" : Str) then (isFlt a).map AV.bool
        else if t == ("int" : Str) then (isIntB a).map AV.bool
        else if t == ("bool" : Str) then (isBoolB a).map AV.bool
        else Option.none
      | Option.none => Option.none)
    | Option.none => Option.none)
  | _ => Option.none
noncomputable def listRV (rec : Rec) (sc : Sc) (ρ : Ro) (args : List Expr) : Option (List AV) := match args with
  | [c] => (match asCall c with
    | some (r, _, rargs, _) => if r == ("range" : Str) && glb sc r then (match evL rec sc ρ rargs with
      | some as => rangeV as
      | Option.none => Option.none)
      else Option.none
    | Option.none => Option.none)
  | _ => Option.none
noncomputable def callV (cfg : Cfg) (rec : Rec) (sc : Sc) (ρ : Ro) (f : Str) (args : List Expr) : Option AV :=
  if !(glb sc f) then Option.none
  else if f == ("isinstance" : Str) then isiV rec sc ρ args
  else if f == ("list" : Str) then (listRV rec sc ρ args).map AV.list
  else match evL rec sc ρ args with
    | some as => builtinV cfg f as
    | Option.none => Option.none

noncomputable def baseV (rec : Rec) (sc : Sc) (ρ : Ro) (e : Expr) : Option AV := match e with
  | .Name x _ => ρ.lookup x
  | _ => rec false sc ρ e

noncomputable def evCmp (rec : Rec) (sc : Sc) (ρ : Ro) (l : Expr) (ops : List CmpOp) (rs : List Expr) : Option Bool := match ops with
  | [op] => (match rs with
    | [r] => (match rec false sc ρ l with
      | some a => (match rec false sc ρ r with
        | some b => cmpV op a b
        | Option.none => Option.none)
      | Option.none => Option.none)
    | _ => Option.none)
  | _ => Option.none
noncomputable def evTwo (rec : Rec) (sc : Sc) (ρ : Ro) (op : BoolOp) (x y : Expr) : Option Bool := match asBool (rec true sc ρ x) with
  | some b => (match asBool (rec true sc ρ y) with
    | some c => some (match op with | .And => b && c | .Or => b || c)
    | Option.none => (match op with
      | .And => if b then Option.none else some false
      | .Or => if b then some true else Option.none))
  | Option.none => Option.none
noncomputable def evThree (rec : Rec) (sc : Sc) (ρ : Ro) (x y z : Expr) : Option Bool := match asBool (rec true sc ρ x) with
  | some b => if b then (match asBool (rec true sc ρ y) with
    | some c => if c then asBool (rec true sc ρ z) else some false
    | Option.none => Option.none) else some false
  | Option.none => Option.none
noncomputable def evBool (rec : Rec) (sc : Sc) (ρ : Ro) (op : BoolOp) (es : List Expr) : Option Bool := match es with
  | [x, y] => evTwo rec sc ρ op x y
  | [x, y, z] => (match op with
    | .And => evThree rec sc ρ x y z
    | .Or => Option.none)
  | _ => Option.none
noncomputable def evTruth (rec : Rec) (sc : Sc) (ρ : Ro) (e : Expr) : Option Bool := match rec false sc ρ e with
  | some a => truthV a
  | Option.none => Option.none
/-- a test -/
noncomputable def evT (rec : Rec) (sc : Sc) (ρ : Ro) (e : Expr) : Option Bool := match e with
  | .UnaryOp op x _ => (match op with
    | .Not => (asBool (rec true sc ρ x)).map not
    | _ => Option.none)
  | .BoolOp op es _ => evBool rec sc ρ op es
  | .Compare l ops rs _ => evCmp rec sc ρ l ops rs
  | .Name _ _ => evTruth rec sc ρ e
  | .Call _ _ _ _ => evTruth rec sc ρ e
  | .Subscript _ _ _ => evTruth rec sc ρ e
  | _ => Option.none
noncomputable def evConst (c : Const) : Option AV := match c with
  | .int i => some (lit i)
  | .none => some .none
  | .bool b => some (.bool b)
  | .str s => if s == Str.empty then some (.str []) else Option.none
  | _ => Option.none
noncomputable def evName (cfg : Cfg) (sc : Sc) (ρ : Ro) (x : Str) : Option AV := if cfg.own == some x then Option.none else match ρ.lookup x with
  | some a => some a
  | Option.none => if glb sc x then (cfg.consts.lookup x).map lit else Option.none
noncomputable def evBin (rec : Rec) (sc : Sc) (ρ : Ro) (l : Expr) (op : Operator) (r : Expr) : Option AV := match rec false sc ρ l with
  | some a => (match rec false sc ρ r with
    | some b => binV op a b
    | Option.none => Option.none)
  | Option.none => Option.none
noncomputable def evOr (rec : Rec) (sc : Sc) (ρ : Ro) (op : BoolOp) (es : List Expr) : Option AV := match op with
  | .Or => (match es with
    | [x, y] => (match rec false sc ρ x with
      | some a => (match truthV a with
        | some t => if t then some a else rec false sc ρ y
        | Option.none => Option.none)
      | Option.none => Option.none)
    | _ => Option.none)
  | .And => Option.none
noncomputable def evIf (rec : Rec) (sc : Sc) (ρ : Ro) (t x y : Expr) : Option AV := match asBool (rec true sc ρ t) with
  | some b => if b then rec false sc ρ x else rec false sc ρ y
  | Option.none => Option.none
noncomputable def evLower (rec : Rec) (sc : Sc) (ρ : Ro) (o : Expr) (name : Str) (apos : Pos) (args : List Expr) (pos : Pos) : Option AV := match args with
  | [] => (match o with
    | .Name x px => if name == ("lower" : Str) && apos.endLine == pos.line then (match rec false sc ρ (.Name x px) with
      | some a => (match a with
        | .str cs => (match cs with
          | [c] => (lowC c).map fun d => AV.str [d]
          | _ => Option.none)
        | _ => Option.none)
      | Option.none => Option.none)
      else Option.none
    | _ => Option.none)
  | _ :: _ => Option.none
noncomputable def evCall (cfg : Cfg) (rec : Rec) (sc : Sc) (ρ : Ro) (f : Expr) (args : List Expr) (kws : List Keyword) (pos : Pos) : Option AV := match kws with
  | [] => (match f with
    | .Name x _ => callV cfg rec sc ρ x args
    | .Attribute o name apos => evLower rec sc ρ o name apos args pos
    | _ => Option.none)
  | _ :: _ => Option.none
noncomputable def evSlice (rec : Rec) (sc : Sc) (ρ : Ro) (v : Expr) (lo hi step : Option Expr) : Option AV := match rec false sc ρ v with
  | some a => (match evO rec sc ρ lo with
    | some l => (match evO rec sc ρ hi with
      | some h => (match evO rec sc ρ step with
        | some s => sliceV a l h s
        | Option.none => Option.none)
      | Option.none => Option.none)
    | Option.none => Option.none)
  | Option.none => Option.none
noncomputable def evItem (rec : Rec) (sc : Sc) (ρ : Ro) (v i : Expr) : Option AV := match baseV rec sc ρ v with
  | some a => (match rec false sc ρ i with
    | some b => subV a b
    | Option.none => Option.none)
  | Option.none => Option.none
noncomputable def evSub (rec : Rec) (sc : Sc) (ρ : Ro) (v i : Expr) : Option AV := match i with
  | .Slice lo hi step _ => evSlice rec sc ρ v lo hi step
  | _ => evItem rec sc ρ v i
/-- a value -/
noncomputable def evV (cfg : Cfg) (rec : Rec) (sc : Sc) (ρ : Ro) (e : Expr) : Option AV := match e with
  | .Constant c _ _ => evConst c
  | .Name x _ => evName cfg sc ρ x
  | .BinOp l op r _ => evBin rec sc ρ l op r
  | .Compare l ops rs _ => (evCmp rec sc ρ l ops rs).map AV.bool
  | .BoolOp op es _ => evOr rec sc ρ op es
  | .IfExp t x y _ => evIf rec sc ρ t x y
  | .Call f args kws pos => evCall cfg rec sc ρ f args kws pos
  | .Subscript v i _ => evSub rec sc ρ v i
  | .ListComp elt gens scope _ => compV cfg.own rec sc ρ elt gens scope
  | .List elts _ => if elts.length ≤ 1000 then (evL rec sc ρ elts).map AV.list else Option.none
  | _ => Option.none
noncomputable def evF (cfg : Cfg) (rec : Rec) : Rec := fun test sc ρ e =>
  match test with
  | true => (evT rec sc ρ e).map AV.bool
  | false => evV cfg rec sc ρ e

noncomputable def ev (cfg : Cfg) : Nat → Rec
  | 0 => fun _ _ _ _ => Option.none
  | n + 1 => evF cfg (ev cfg n)

/-- statements -/
inductive Fl where
  | next
  | ret (a : AV)

structure Out where
  ro : Ro
  obl : List Bool
  fl : Fl

/-- what covariance tells, in whole numbers -/
noncomputable def covZ (n : Int) (xs ys : List Int) : Int :=
  n * (n * (List.zipWith (fun x y => (x / n) * (y / (n * (n - 1)))) xs ys).sum - (xs.map (· / n)).sum * (ys.map (· / (n * (n - 1)))).sum)

noncomputable def intsV : List AV → Option (List Int)
  | [] => some []
  | .int i _ _ :: r => match intsV r with
    | some t => some (i :: t)
    | Option.none => Option.none
  | _ => Option.none

/-- the generator's floats, each of a whole number: xi - xbar for xi in x -/
noncomputable def genGo (j : Int) : List AV → Option (List Int)
  | [] => some []
  | .int i l h :: r => if absB l h ≤ 500 then (match genGo j r with
    | some t => some ((i - j) :: t)
    | Option.none => Option.none)
    else Option.none
  | _ => Option.none
noncomputable def asDiff (e : Expr) : Option (Str × Str) := match e with
  | .BinOp l op r _ => (match op with
    | .Sub => (match asName l with
      | some u => (match asName r with
        | some b => some (u, b)
        | Option.none => Option.none)
      | Option.none => Option.none)
    | _ => Option.none)
  | _ => Option.none
theorem asDiff_inv {e : Expr} {u b : Str} (h : asDiff e = some (u, b)) : ∃ up bp p, e = .BinOp (.Name u up) .Sub (.Name b bp) p := by
  unfold asDiff at h
  split at h
  · split at h
    · split at h
      · rename_i h1
        split at h
        · rename_i h2
          cases h
          obtain ⟨_, rfl⟩ := asName_inv h1
          obtain ⟨_, rfl⟩ := asName_inv h2
          exact ⟨_, _, _, rfl⟩
        · cases h
      · cases h
    · cases h
  · cases h
noncomputable def asGen (gens : List Comprehension) : Option (Str × Str) := match gens with
  | [c] => (match asCl c with
    | some (t, i, ifs) => (match ifs with
      | [] => (match asName t with
        | some x => (match asName i with
          | some y => some (x, y)
          | Option.none => Option.none)
        | Option.none => Option.none)
      | _ :: _ => Option.none)
    | Option.none => Option.none)
  | _ => Option.none
theorem asGen_inv {gens : List Comprehension} {x y : Str} (h : asGen gens = some (x, y)) : ∃ px py, gens = [⟨.Name x px, .Name y py, [], 0⟩] := by
  unfold asGen at h
  split at h
  · split at h
    · rename_i hc
      split at h
      · split at h
        · rename_i h1
          split at h
          · rename_i h2
            cases h
            obtain ⟨_, rfl⟩ := asName_inv h1
            obtain ⟨_, rfl⟩ := asName_inv h2
            rw [asCl_inv hc]
            exact ⟨_, _, rfl⟩
          · cases h
        · cases h
      · cases h
    · cases h
  · cases h
/-- what a generator of `u - b for x in y` needs -/
noncomputable def genOk (own : Option Str) (sc : Sc) (ρ : Ro) (u b x y : Str) (scope : Scope) : Bool :=
  scOk scope sc ρ && u == x && !(own == some y) && !(own == some b) && !(x == ("__debug__" : Str)) && !(b == ("__classdict__" : Str)) && scope.names.lookup x == some .local && scope.names.lookup b == some .free &&
    scope.names.lookup (".0" : Str) == some .local && scope.names.all (fun p => !(p.2 == .cell)) && !scope.isCoroutine
noncomputable def asFx (o : Option AV) : Option (Int × Int × Int) := match o with
  | some a => (match a with
    | .fx i l h => some (i, l, h)
    | _ => Option.none)
  | Option.none => Option.none
theorem asFx_inv {o : Option AV} {i l h : Int} (e : asFx o = some (i, l, h)) : o = some (.fx i l h) := by
  unfold asFx at e
  split at e
  · split at e
    · cases e; rfl
    · cases e
  · cases e
noncomputable def genD (own : Option Str) (sc : Sc) (ρ : Ro) (u b x y : Str) (scope : Scope) : Option (List Int) :=
  if genOk own sc ρ u b x y scope then (match asList (ρ.lookup y) with
    | some xs => (match asFx (ρ.lookup b) with
      | some (j, lj, hj) => if absB lj hj ≤ 500 then genGo j xs else Option.none
      | Option.none => Option.none)
    | Option.none => Option.none)
  else Option.none
noncomputable def genV (own : Option Str) (sc : Sc) (ρ : Ro) (e : Expr) : Option (List Int) :=
  match e with
  | .GeneratorExp elt gens scope _ => (match asDiff elt with
    | some (u, b) => (match asGen gens with
      | some (x, y) => genD own sc ρ u b x y scope
      | Option.none => Option.none)
    | Option.none => Option.none)
  | _ => Option.none

noncomputable def dotL : List Int → List Int → Int
  | x :: xs, y :: ys => x * y + dotL xs ys
  | _, _ => 0

noncomputable def retFalse : List Stmt → Bool
  | [.Return (some (.Constant (.bool false) _ _)) _] => true
  | _ => false

abbrev RecS := Ro → List Stmt → Option Out

/-- a loop's turns -/
noncomputable def turns (own : Option Str) (sc : Sc) (rs : RecS) (target : Expr) (body : List Stmt) : List It → Ro → Option Out
  | [], ρ => some ⟨ρ, [], .next⟩
  | i :: r, ρ => match bindV own sc ρ target i with
    | some ρ' => match rs ρ' body with
      | some ⟨ρ'', o, .next⟩ => match turns own sc rs target body r ρ'' with
        | some ⟨ρ₃, o', f⟩ => some ⟨ρ₃, o ++ o', f⟩
        | Option.none => Option.none
      | some ⟨ρ'', o, .ret a⟩ => some ⟨ρ'', o, .ret a⟩
      | Option.none => Option.none
    | Option.none => Option.none

noncomputable def whileV (tv : Ro → Option AV) (rs : RecS) (body : List Stmt) : Nat → Ro → Option Ro
  | 0, _ => Option.none
  | n + 1, ρ => match tv ρ with
    | some (.bool true) => match rs ρ body with
      | some ⟨ρ', [], .next⟩ => whileV tv rs body n ρ'
      | _ => Option.none
    | some (.bool false) => some ρ
    | _ => Option.none

noncomputable def ok1 (ρ : Ro) : Option Out := some ⟨ρ, [], .next⟩

/-- what is handed back: the one list that a def owns, too -/
noncomputable def retV (cfg : Cfg) (rec : Rec) (sc : Sc) (ρ : Ro) (e : Expr) : Option AV := match e with
  | .Name x _ => if cfg.own == some x then ρ.lookup x else rec false sc ρ e
  | _ => rec false sc ρ e

noncomputable def isNil (e : Expr) : Bool := match e with
  | .List es _ => (match es with
    | [] => true
    | _ :: _ => false)
  | _ => false
noncomputable def as2 (e : Expr) : Option (Str × Pos × Expr × Expr × Pos) := match asCall e with
  | some (f, p, args, pos) => (match args with
    | [a, b] => some (f, p, a, b, pos)
    | _ => Option.none)
  | Option.none => Option.none
theorem as2_inv {e a b : Expr} {f : Str} {p pos : Pos} (h : as2 e = some (f, p, a, b, pos)) : e = .Call (.Name f p) [a, b] [] pos := by
  unfold as2 at h
  split at h
  · rename_i hc
    split at h
    · cases h
      exact asCall_inv hc
    · cases h
  · cases h
/-- the one list that the def owns: it begins -/
noncomputable def stNew (rec : Rec) (sc : Sc) (ρ : Ro) (x : Str) (value : Expr) : Option Out :=
  if isNil value then ok1 (setR ρ x (.list [])) else match asCall value with
    | some (f, _, args, _) => if f == ("list" : Str) && glb sc f then (match listRV rec sc ρ args with
      | some xs => ok1 (setR ρ x (.list xs))
      | Option.none => Option.none)
      else Option.none
    | Option.none => Option.none
noncomputable def stCov (ρ : Ro) (x : Str) (o1 o2 : Option AV) : Option Out := match asList o1 with
  | some xs => (match asList o2 with
    | some ys => (match intsV xs with
      | some is => (match intsV ys with
        | some js => if !(is.length == js.length && 3 ≤ is.length && is.length ≤ 5) then Option.none else some ⟨setR ρ x (.fltI (covZ is.length is js)),
            (is.map fun i => !(i == 0 || i == (is.length : Int))) ++ (js.map fun j => !(j == 0 || j == (is.length : Int) * ((is.length : Int) - 1))), .next⟩
        | Option.none => Option.none)
      | Option.none => Option.none)
    | Option.none => Option.none)
  | Option.none => Option.none
noncomputable def stSp (ρ : Ro) (x : Str) (o1 o2 : Option (List Int)) : Option Out := match o1 with
  | some xs => (match o2 with
    | some ys => if xs.length == ys.length && 0 < xs.length && xs.length ≤ 5 then ok1 (setR ρ x (.fx (dotL xs ys) (-5000000) 5000000)) else Option.none
    | Option.none => Option.none)
  | Option.none => Option.none
/-- an answer of a call of two -/
noncomputable def stOne (ρ : Ro) (x : Str) (o : Option AV) : Option Out := match o with
  | some a => ok1 (setR ρ x a)
  | Option.none => Option.none
/-- a quotient must come out whole -/
noncomputable def stAny (ρ : Ro) (x : Str) (o : Option AV) : Option Out := match o with
  | some a => (match a with
    | .fq i j l h => if 0 ≤ l && h ≤ 100 && 0 < j && j ≤ 100 then some ⟨setR ρ x (.fx (i / j) 0 100), [!(i % j == 0)], .next⟩ else Option.none
    | _ => ok1 (setR ρ x a))
  | Option.none => Option.none
noncomputable def stName (cfg : Cfg) (rec : Rec) (sc : Sc) (ρ : Ro) (x : Str) (value : Expr) : Option Out := match as2 value with
  | some (f, _, e1, e2, _) => if !(glb sc f) then Option.none
    else if cfg.cov && f == ("covariance" : Str) then stCov ρ x (rec false sc ρ e1) (rec false sc ρ e2)
    else if cfg.sp && f == ("sumprod" : Str) then stSp ρ x (genV cfg.own sc ρ e1) (genV cfg.own sc ρ e2)
    else stOne ρ x (rec false sc ρ value)
  | Option.none => stAny ρ x (rec false sc ρ value)
noncomputable def stTwo (cfg : Cfg) (rec : Rec) (sc : Sc) (ρ : Ro) (x y : Str) (value : Expr) : Option Out := match rec false sc ρ value with
  | some a => if cfg.own == some x || cfg.own == some y || !(stk sc x) || !(stk sc y) then Option.none else ok1 (setR (setR ρ x a) y a)
  | Option.none => Option.none
noncomputable def swapOk (cfg : Cfg) (sc : Sc) (x y x' y' : Str) (px py : Pos) : Bool :=
  cfg.own == some x || cfg.own == some y || cfg.own == some x' || cfg.own == some y' || !(stk sc x) || !(stk sc y) || !(sc.lookup x == some .local) || !(sc.lookup y == some .local) || !(py.line == px.line) || x == y
noncomputable def stSwap (cfg : Cfg) (sc : Sc) (ρ : Ro) (es : List Expr) (value : Expr) : Option Out := match value with
  | .Tuple es' _ _ => (match pairN es with
    | some (x, px, y, py) => (match pairN es' with
      | some (x', _, y', _) => if swapOk cfg sc x y x' y' px py then Option.none else (match ρ.lookup x' with
        | some a => (match ρ.lookup y' with
          | some b => ok1 (setR (setR ρ x a) y b)
          | Option.none => Option.none)
        | Option.none => Option.none)
      | Option.none => Option.none)
    | Option.none => Option.none)
  | _ => Option.none
noncomputable def stItem (cfg : Cfg) (ρ : Ro) (r i : Str) (o : Option AV) : Option Out := match asInt o with
  | some (v, l, h) => (match asList (ρ.lookup r) with
    | some xs => (match asInt (ρ.lookup i) with
      | some (k, _, _) => if cfg.own == some r && 0 ≤ k && k.toNat < xs.length && xs.length ≤ 1000 then ok1 (setR ρ r (.list (xs.set k.toNat (.int v l h)))) else Option.none
      | Option.none => Option.none)
    | Option.none => Option.none)
  | Option.none => Option.none
noncomputable def stAug (cfg : Cfg) (rec : Rec) (sc : Sc) (ρ : Ro) (x : Str) (op : Operator) (value : Expr) : Option Out :=
  if cfg.own == some x || !(stk sc x) then Option.none else match asInt (ρ.lookup x) with
    | some (i, li, hi) => (match asInt (rec false sc ρ value) with
      | some (j, lj, hj) => (match op with
        | .Add => ok1 (setR ρ x (.int (i + j) (li + lj) (hi + hj)))
        | .Sub => ok1 (setR ρ x (.int (i - j) (li - hj) (hi - lj)))
        | _ => Option.none)
      | Option.none => Option.none)
    | Option.none => Option.none
noncomputable def stIf (rec : Rec) (sc : Sc) (rs : RecS) (ρ : Ro) (test : Expr) (body orelse : List Stmt) : Option Out := match asBool (rec true sc ρ test) with
  | some b => if retFalse body then (match orelse with
      | [] => some ⟨ρ, [b], .next⟩
      | _ :: _ => Option.none)
    else if b then rs ρ body else rs ρ orelse
  | Option.none => Option.none
noncomputable def stFor (cfg : Cfg) (rec : Rec) (sc : Sc) (rs : RecS) (ρ : Ro) (target iter : Expr) (body orelse : List Stmt) : Option Out := match orelse with
  | [] => (match iterV rec sc ρ target iter with
    | some its => turns cfg.own sc rs target body its ρ
    | Option.none => Option.none)
  | _ :: _ => Option.none
noncomputable def stWhile (rec : Rec) (sc : Sc) (rs : RecS) (ρ : Ro) (test : Expr) (body orelse : List Stmt) : Option Out := match orelse with
  | [] => (match whileV (fun ρ => rec true sc ρ test) rs body 12 ρ with
    | some ρ' => ok1 ρ'
    | Option.none => Option.none)
  | _ :: _ => Option.none
noncomputable def stRet (cfg : Cfg) (rec : Rec) (sc : Sc) (ρ : Ro) (o : Option Expr) : Option Out := match o with
  | some e => (match retV cfg rec sc ρ e with
    | some a => some ⟨ρ, [], .ret a⟩
    | Option.none => Option.none)
  | Option.none => Option.none
noncomputable def asApp (e : Expr) : Option (Str × Pos × Str × Pos × Expr × Pos) := match e with
  | .Call f args kws pos => (match kws with
    | [] => (match args with
      | [a] => (match f with
        | .Attribute o name apos => (match o with
          | .Name t p => some (t, p, name, apos, a, pos)
          | _ => Option.none)
        | _ => Option.none)
      | _ => Option.none)
    | _ :: _ => Option.none)
  | _ => Option.none
theorem asApp_inv {e a : Expr} {t name : Str} {p apos pos : Pos} (h : asApp e = some (t, p, name, apos, a, pos)) : e = .Call (.Attribute (.Name t p) name apos) [a] [] pos := by
  unfold asApp at h
  split at h
  · split at h
    · split at h
      · split at h
        · split at h
          · cases h; rfl
          · cases h
        · cases h
      · cases h
    · cases h
  · cases h
noncomputable def stApp (cfg : Cfg) (rec : Rec) (sc : Sc) (ρ : Ro) (e : Expr) : Option Out := match asApp e with
  | some (t, _, name, apos, a, pos) => if name == ("append" : Str) && cfg.own == some t && apos.endLine == pos.line then (match asList (ρ.lookup t) with
    | some xs => (match rec false sc ρ a with
      | some c => if xs.length ≤ 1000 then ok1 (setR ρ t (.list (xs ++ [c]))) else Option.none
      | Option.none => Option.none)
    | Option.none => Option.none)
    else Option.none
  | Option.none => Option.none
noncomputable def stTo (cfg : Cfg) (rec : Rec) (sc : Sc) (ρ : Ro) (t value : Expr) : Option Out := match t with
  | .Name x _ => if !(stk sc x) then Option.none else if cfg.own == some x then stNew rec sc ρ x value else stName cfg rec sc ρ x value
  | .Tuple es _ _ => stSwap cfg sc ρ es value
  | .Subscript r i _ => (match asName r with
    | some r => (match asName i with
      | some i => stItem cfg ρ r i (rec false sc ρ value)
      | Option.none => Option.none)
    | Option.none => Option.none)
  | _ => Option.none
noncomputable def stAssign (cfg : Cfg) (rec : Rec) (sc : Sc) (ρ : Ro) (ts : List Expr) (value : Expr) : Option Out := match ts with
  | [t] => stTo cfg rec sc ρ t value
  | [t, t'] => (match asName t with
    | some x => (match asName t' with
      | some y => stTwo cfg rec sc ρ x y value
      | Option.none => Option.none)
    | Option.none => Option.none)
  | _ => Option.none
/-- one statement -/
noncomputable def stV (cfg : Cfg) (rec : Rec) (sc : Sc) (rs : RecS) (ρ : Ro) (st : Stmt) : Option Out :=
  match st with
  | .Assign ts value _ => stAssign cfg rec sc ρ ts value
  | .AugAssign t op value _ => (match asName t with
    | some x => stAug cfg rec sc ρ x op value
    | Option.none => Option.none)
  | .If test body orelse _ => stIf rec sc rs ρ test body orelse
  | .For target iter body orelse _ => stFor cfg rec sc rs ρ target iter body orelse
  | .While test body orelse _ => stWhile rec sc rs ρ test body orelse
  | .Return e _ => stRet cfg rec sc ρ e
  | .Expr e _ => stApp cfg rec sc ρ e
  | _ => Option.none

noncomputable def ex (cfg : Cfg) (sc : Sc) (k : Nat) : Nat → RecS
  | 0 => fun _ _ => Option.none
  | n + 1 => fun ρ sts => match sts with
    | [] => some ⟨ρ, [], .next⟩
    | st :: rest => match stV cfg (ev cfg k) sc (ex cfg sc k n) ρ st with
      | some ⟨ρ', o, .next⟩ => match ex cfg sc k n ρ' rest with
        | some ⟨ρ'', o', f⟩ => some ⟨ρ'', o ++ o', f⟩
        | Option.none => Option.none
      | some ⟨ρ', o, .ret a⟩ => some ⟨ρ', o, .ret a⟩
      | Option.none => Option.none

/-- the defs of the text, by name -/
noncomputable def defOf (p : Program) (n : Str) : Option (Arguments × List Stmt × Scope) :=
  p.main.body.findSome? fun st => match st with
    | .FunctionDef name args body _ _ _ scope _ _ _ => if name == n then some (args, body, scope) else Option.none
    | _ => Option.none
noncomputable def scOf (n : Str) : Sc := match defOf PySem.Challenge.pw_rl0032_01 n with
  | some (_, _, s) => s.names
  | Option.none => []
noncomputable def bodyOf (n : Str) : List Stmt := match defOf PySem.Challenge.pw_rl0032_01 n with
  | some (_, b, _) => b
  | Option.none => []
end Mine
end

section
namespace Mine
open PySem

noncomputable def wordCs (c : Nat) : List Nat := [if c % 2 == 1 then 65 else 97] ++ (if c / 2 % 2 == 1 then [98] else []) ++ [if c / 4 % 2 == 1 then 67 else 99]

noncomputable def pick : List Bool → List AV → List AV
  | true :: bs, x :: xs => x :: pick bs xs
  | false :: bs, _ :: xs => pick bs xs
  | _, _ => []

/-- the value bears what is told of it; no list of it lies in X -/
inductive Rep (l : Nat) (X : Addr → Prop) (h : Heap) : Value → AV → Prop
  | none : Rep l X h .none .none
  | bool (b : Bool) : Rep l X h (.bool b) (.bool b)
  | int {i lo hi : Int} {t : Tok} : lo ≤ i → i ≤ hi → Rep l X h (.int i t) (.int i lo hi)
  | anyInt {i lo hi : Int} {t : Tok} : lo ≤ i → i ≤ hi → Rep l X h (.int i t) (.anyInt lo hi)
  | bigInt {i : Int} {t : Tok} : Rep l X h (.int i t) .bigInt
  | fx {i lo hi : Int} {t : Tok} : lo ≤ i → i ≤ hi → Rep l X h (.float (Float64.ofInt i) t) (.fx i lo hi)
  | fq {i j lo hi : Int} {t : Tok} : lo ≤ i → i ≤ hi → Rep l X h (.float (Float64.div (Float64.ofInt i) (Float64.ofInt j)) t) (.fq i j lo hi)
  | fltI {x : UInt64} {z : Int} {t : Tok} : Float64.cmpInt x z = some .eq → Rep l X h (.float x t) (.fltI z)
  | str {s : Str} {t : Tok} {cs : List Nat} : s.cps.toList = cs.map (· + l) → Rep l X h (.str s t) (.str cs)
  | word {s : Str} {t : Tok} {c : Int} : 0 ≤ c → c < 8 → s.cps.toList = (wordCs c.toNat).map (· + l) → Rep l X h (.str s t) (.word c)
  | letter {t : Tok} : Rep l X h (.int (l : Int) t) .letter
  | list {a : Addr} {vs : List Value} {xs : List AV} : h.IsList a vs.toArray → ¬ X a → vs.length = xs.length →
      (∀ (i : Nat) (v : Value) (x : AV), vs[i]? = some v → xs[i]? = some x → Rep l X h v x) → Rep l X h (.ref a) (.list xs)
  | filt {a : Addr} {vs : List Value} {bs : List Bool} {xs : List AV} : h.IsList a vs.toArray → ¬ X a → bs.length = xs.length → vs.length = (pick bs xs).length →
      (∀ (i : Nat) (v : Value) (x : AV), vs[i]? = some v → (pick bs xs)[i]? = some x → Rep l X h v x) → Rep l X h (.ref a) (.filt bs xs)
  | anyInts {a : Addr} {vs : List Value} {lo hi : Int} {n0 n1 : Nat} : h.IsList a vs.toArray → ¬ X a → n0 ≤ vs.length → vs.length ≤ n1 →
      (∀ v ∈ vs, ∃ i t, v = .int i t ∧ lo ≤ i ∧ i ≤ hi) → Rep l X h (.ref a) (.anyInts lo hi n0 n1)
  | bigInts {a : Addr} {vs : List Value} {n0 n1 : Nat} : h.IsList a vs.toArray → ¬ X a → n0 ≤ vs.length → vs.length ≤ n1 →
      (∀ v ∈ vs, ∃ i t, v = .int i t) → Rep l X h (.ref a) (.bigInts n0 n1)

variable {l : Nat} {X : Addr → Prop}

theorem isList_at {h h' : Heap} {a : Addr} {vs : Array Value} (x : h.IsList a vs) (k : ∀ o, h.get? a = some o → h'.get? a = some o) : h'.IsList a vs :=
  let ⟨o, ho, r⟩ := x; ⟨o, k o ho, r⟩

/-- what stays: every list that is not in X -/
theorem Rep.later {h h' : Heap} {v : Value} {a : AV} (r : Rep l X h v a) (k : ∀ b vs, h.IsList b vs → ¬ X b → ∀ o, h.get? b = some o → h'.get? b = some o) : Rep l X h' v a := by
  induction r with
  | none => exact .none
  | bool b => exact .bool b
  | int h1 h2 => exact .int h1 h2
  | anyInt h1 h2 => exact .anyInt h1 h2
  | bigInt => exact .bigInt
  | fx h1 h2 => exact .fx h1 h2
  | fq h1 h2 => exact .fq h1 h2
  | fltI h1 => exact .fltI h1
  | str h1 => exact .str h1
  | word h0 h1 h2 => exact .word h0 h1 h2
  | letter => exact .letter
  | list hl hx hn _ ih => exact .list (isList_at hl (k _ _ hl hx)) hx hn fun i v x e1 e2 => ih i v x e1 e2
  | filt hl hx hb hn _ ih => exact .filt (isList_at hl (k _ _ hl hx)) hx hb hn fun i v x e1 e2 => ih i v x e1 e2
  | anyInts hl hx h0 h1 hv => exact .anyInts (isList_at hl (k _ _ hl hx)) hx h0 h1 hv
  | bigInts hl hx h0 h1 hv => exact .bigInts (isList_at hl (k _ _ hl hx)) hx h0 h1 hv
theorem Rep.keeps {h h' : Heap} {v : Value} {a : AV} (r : Rep l X h v a) (k : ∀ b o, h.get? b = some o → h'.get? b = some o) : Rep l X h' v a := r.later fun b _ _ _ o e => k b o e
/-- what the value is, by what is told -/
def RepInv (l : Nat) (X : Addr → Prop) (h : Heap) (v : Value) : AV → Prop
  | .none => v = .none
  | .bool b => v = .bool b
  | .int i lo hi => ∃ t, v = .int i t ∧ lo ≤ i ∧ i ≤ hi
  | .anyInt lo hi => ∃ i t, v = .int i t ∧ lo ≤ i ∧ i ≤ hi
  | .bigInt => ∃ i t, v = .int i t
  | .fx i lo hi => ∃ t, v = .float (Float64.ofInt i) t ∧ lo ≤ i ∧ i ≤ hi
  | .fq i j lo hi => ∃ t, v = .float (Float64.div (Float64.ofInt i) (Float64.ofInt j)) t ∧ lo ≤ i ∧ i ≤ hi
  | .fltI z => ∃ x t, v = .float x t ∧ Float64.cmpInt x z = some .eq
  | .str cs => ∃ s t, v = .str s t ∧ s.cps.toList = cs.map (· + l)
  | .word c => ∃ s t, v = .str s t ∧ 0 ≤ c ∧ c < 8 ∧ s.cps.toList = (wordCs c.toNat).map (· + l)
  | .letter => ∃ t, v = .int (l : Int) t
  | .list xs => ∃ (a : Addr) (vs : List Value), v = .ref a ∧ h.IsList a vs.toArray ∧ ¬ X a ∧ vs.length = xs.length ∧ ∀ (i : Nat) (v : Value) (x : AV), vs[i]? = some v → xs[i]? = some x → Rep l X h v x
  | .filt bs xs => ∃ (a : Addr) (vs : List Value), v = .ref a ∧ h.IsList a vs.toArray ∧ ¬ X a ∧ bs.length = xs.length ∧ vs.length = (pick bs xs).length ∧ ∀ (i : Nat) (v : Value) (x : AV), vs[i]? = some v → (pick bs xs)[i]? = some x → Rep l X h v x
  | .anyInts lo hi n0 n1 => ∃ (a : Addr) (vs : List Value), v = .ref a ∧ h.IsList a vs.toArray ∧ ¬ X a ∧ n0 ≤ vs.length ∧ vs.length ≤ n1 ∧ ∀ v ∈ vs, ∃ i t, v = .int i t ∧ lo ≤ i ∧ i ≤ hi
  | .bigInts n0 n1 => ∃ (a : Addr) (vs : List Value), v = .ref a ∧ h.IsList a vs.toArray ∧ ¬ X a ∧ n0 ≤ vs.length ∧ vs.length ≤ n1 ∧ ∀ v ∈ vs, ∃ i t, v = .int i t
theorem Rep.inv {h : Heap} {v : Value} {a : AV} (r : Rep l X h v a) : RepInv l X h v a := by
  cases r with
  | none => exact rfl
  | bool b => exact rfl
  | int h1 h2 => exact ⟨_, rfl, h1, h2⟩
  | anyInt h1 h2 => exact ⟨_, _, rfl, h1, h2⟩
  | bigInt => exact ⟨_, _, rfl⟩
  | fx h1 h2 => exact ⟨_, rfl, h1, h2⟩
  | fq h1 h2 => exact ⟨_, rfl, h1, h2⟩
  | fltI h1 => exact ⟨_, _, rfl, h1⟩
  | str h1 => exact ⟨_, _, rfl, h1⟩
  | word h0 h1 h2 => exact ⟨_, _, rfl, h0, h1, h2⟩
  | letter => exact ⟨_, rfl⟩
  | list hl hx hn hv => exact ⟨_, _, rfl, hl, hx, hn, hv⟩
  | filt hl hx hb hn hv => exact ⟨_, _, rfl, hl, hx, hb, hn, hv⟩
  | anyInts hl hx h0 h1 hv => exact ⟨_, _, rfl, hl, hx, h0, h1, hv⟩
  | bigInts hl hx h0 h1 hv => exact ⟨_, _, rfl, hl, hx, h0, h1, hv⟩
theorem Rep.weak {X' : Addr → Prop} {h : Heap} {v : Value} {a : AV} (r : Rep l X h v a) (k : ∀ b, X' b → X b) : Rep l X' h v a := by
  induction r with
  | none => exact .none
  | bool b => exact .bool b
  | int h1 h2 => exact .int h1 h2
  | anyInt h1 h2 => exact .anyInt h1 h2
  | bigInt => exact .bigInt
  | fx h1 h2 => exact .fx h1 h2
  | fq h1 h2 => exact .fq h1 h2
  | fltI h1 => exact .fltI h1
  | str h1 => exact .str h1
  | word h0 h1 h2 => exact .word h0 h1 h2
  | letter => exact .letter
  | list hl hx hn _ ih => exact .list hl (fun q => hx (k _ q)) hn fun i v x e1 e2 => ih i v x e1 e2
  | filt hl hx hb hn _ ih => exact .filt hl (fun q => hx (k _ q)) hb hn fun i v x e1 e2 => ih i v x e1 e2
  | anyInts hl hx h0 h1 hv => exact .anyInts hl (fun q => hx (k _ q)) h0 h1 hv
  | bigInts hl hx h0 h1 hv => exact .bigInts hl (fun q => hx (k _ q)) h0 h1 hv

/-- X's addresses are taken -/
noncomputable def Old (X : Addr → Prop) (h : Heap) : Prop := ∀ b, X b → ∃ o, h.get? b = some o
theorem Old.keeps {h h' : Heap} (x : Old X h) (k : ∀ b o, h.get? b = some o → h'.get? b = some o) : Old X h' := fun b hb => let ⟨o, e⟩ := x b hb; ⟨o, k b o e⟩
theorem Old.new {h : Heap} (x : Old X h) {a : Addr} (e : h.get? a = Option.none) : ¬ X a := fun q => by obtain ⟨o, eo⟩ := x a q; rw [e] at eo; cases eo
theorem Old.size {h : Heap} (x : Old X h) : ¬ X h.objs.size := fun q => by obtain ⟨o, eo⟩ := x _ q; exact Nat.lt_irrefl _ (Heap.lt_size eo)

theorem Keeps.refl (s : Shared) : Keeps s s := ⟨s.heap, s.toks, rfl, fun _ _ e => e⟩
theorem Keeps.trans {s s' s'' : Shared} (x : Keeps s s') (y : Keeps s' s'') : Keeps s s'' := by
  obtain ⟨h, t, rfl, k⟩ := x
  obtain ⟨h', t', rfl, k'⟩ := y
  exact ⟨h', t', rfl, fun b o e => k' b o (k b o e)⟩
theorem Keeps.keep {s s' : Shared} (x : Keeps s s') : ∀ b o, s.heap.get? b = some o → s'.heap.get? b = some o := by
  obtain ⟨h, t, rfl, k⟩ := x
  exact k
theorem Keeps.tok (s : Shared) (n : Nat) : Keeps s { s with toks := n } := ⟨s.heap, n, rfl, fun _ _ e => e⟩
theorem Keeps.push (s : Shared) (o : Obj) (n : Nat) : Keeps s { s with heap := s.heap.push o, toks := n } := ⟨_, n, rfl, fun _ _ e => Heap.get?_push_of_some _ e⟩

/-- arithmetic -/
theorem absB_le {l h i : Int} (h1 : l ≤ i) (h2 : i ≤ h) : (i.natAbs : Int) ≤ absB l h := by
  unfold absB
  rcases Int.le_total 0 i with q | q
  · rw [Int.natAbs_of_nonneg q]
    exact Int.le_trans (Int.le_trans h2 Int.le_natAbs) (Int.le_max_right ..)
  · rw [Int.ofNat_natAbs_of_nonpos q]
    refine Int.le_trans (Int.neg_le_neg h1) (Int.le_trans ?_ (Int.le_max_left ..))
    rw [← Int.natAbs_neg]
    exact Int.le_natAbs
theorem mul_abs {i j B C : Int} (h1 : (i.natAbs : Int) ≤ B) (h2 : (j.natAbs : Int) ≤ C) : -(B * C) ≤ i * j ∧ i * j ≤ B * C := by
  have e : ((i * j).natAbs : Int) ≤ B * C := by
    rw [Int.natAbs_mul]
    have : ((i.natAbs * j.natAbs : Nat) : Int) = (i.natAbs : Int) * (j.natAbs : Int) := by simp
    rw [this]
    exact Int.mul_le_mul h1 h2 (by omega) (by omega)
  omega
theorem mul_nn {i j l h l' h' : Int} (a0 : 0 ≤ l) (b0 : 0 ≤ l') (a1 : l ≤ i) (a2 : i ≤ h) (b1 : l' ≤ j) (b2 : j ≤ h') : l * l' ≤ i * j ∧ i * j ≤ h * h' :=
  ⟨Int.mul_le_mul a1 b1 b0 (by omega), Int.mul_le_mul a2 b2 (by omega) (by omega)⟩
theorem pow_abs {i B : Int} (h1 : (i.natAbs : Int) ≤ B) (n : Nat) : -(B ^ n) ≤ i ^ n ∧ i ^ n ≤ B ^ n := by
  have e : ∀ n : Nat, ((i ^ n).natAbs : Int) ≤ B ^ n := by
    intro n
    induction n with
    | zero => simp
    | succ n ih =>
      rw [Int.pow_succ, Int.pow_succ, Int.natAbs_mul]
      have : (((i ^ n).natAbs * i.natAbs : Nat) : Int) = ((i ^ n).natAbs : Int) * (i.natAbs : Int) := by simp
      rw [this]
      exact Int.mul_le_mul ih h1 (by omega) (by omega)
  have := e n
  omega
theorem pow_nn {i l h : Int} (h0 : 0 ≤ l) (h1 : l ≤ i) (h2 : i ≤ h) : ∀ n : Nat, 0 ≤ l ^ n ∧ l ^ n ≤ i ^ n ∧ i ^ n ≤ h ^ n
  | 0 => by simp
  | n + 1 => by
    obtain ⟨a, b, c⟩ := pow_nn h0 h1 h2 n
    rw [Int.pow_succ, Int.pow_succ, Int.pow_succ]
    exact ⟨Int.mul_nonneg a h0, Int.mul_le_mul b h1 h0 (by omega), Int.mul_le_mul c h2 (by omega) (by omega)⟩
theorem fdiv_mono {a b c : Int} (h : a ≤ b) (hc : 0 < c) : a.fdiv c ≤ b.fdiv c := by
  rw [Int.fdiv_eq_ediv_of_nonneg _ (by omega), Int.fdiv_eq_ediv_of_nonneg _ (by omega)]
  exact Int.ediv_le_ediv hc h
theorem fmod_in (a : Int) {c : Int} (hc : 0 < c) : 0 ≤ a.fmod c ∧ a.fmod c ≤ c - 1 := by
  rw [Int.fmod_eq_emod_of_nonneg _ (by omega)]
  have := Int.emod_nonneg a (show c ≠ 0 by omega)
  have := Int.emod_lt_of_pos a hc
  omega
theorem sub_abs {k j p q : Int} (h1 : (k.natAbs : Int) ≤ p) (h2 : p ≤ 1000) (h3 : (j.natAbs : Int) ≤ q) (h4 : q ≤ 1000) : k.natAbs ≤ 1000000000 ∧ j.natAbs ≤ 1000000000 ∧ (k - j).natAbs ≤ 1000000000 := by
  have a1 : k.natAbs ≤ 1000 := Int.ofNat_le.mp (Int.le_trans h1 h2)
  have a2 : j.natAbs ≤ 1000 := Int.ofNat_le.mp (Int.le_trans h3 h4)
  exact ⟨Nat.le_trans a1 (by decide), Nat.le_trans a2 (by decide), Nat.le_trans (Int.natAbs_sub_le k j) (Nat.le_trans (Nat.add_le_add a1 a2) (by decide))⟩
theorem sub_abs5 {k j p q : Int} (h1 : (k.natAbs : Int) ≤ p) (h2 : p ≤ 500) (h3 : (j.natAbs : Int) ≤ q) (h4 : q ≤ 500) : (k - j).natAbs ≤ 1000 :=
  Nat.le_trans (Int.natAbs_sub_le k j) (Nat.add_le_add (Int.ofNat_le.mp (Int.le_trans h1 h2) : k.natAbs ≤ 500) (Int.ofNat_le.mp (Int.le_trans h3 h4) : j.natAbs ≤ 500))
/-- below eight -/
theorem below8 {P : Nat → Prop} (h0 : P 0) (h1 : P 1) (h2 : P 2) (h3 : P 3) (h4 : P 4) (h5 : P 5) (h6 : P 6) (h7 : P 7) {a : Nat} (h : a < 8) : P a := by
  rcases Nat.lt_succ_iff_lt_or_eq.mp h with h | rfl
  · rcases Nat.lt_succ_iff_lt_or_eq.mp h with h | rfl
    · rcases Nat.lt_succ_iff_lt_or_eq.mp h with h | rfl
      · rcases Nat.lt_succ_iff_lt_or_eq.mp h with h | rfl
        · rcases Nat.lt_succ_iff_lt_or_eq.mp h with h | rfl
          · rcases Nat.lt_succ_iff_lt_or_eq.mp h with h | rfl
            · rcases Nat.lt_succ_iff_lt_or_eq.mp h with h | rfl
              · rcases Nat.lt_succ_iff_lt_or_eq.mp h with h | rfl
                · exact absurd h (Nat.not_lt_zero _)
                · exact h0
              · exact h1
            · exact h2
          · exact h3
        · exact h4
      · exact h5
    · exact h6
  · exact h7
end Mine
end

section
namespace Mine
open PySem PySem.Float64

theorem two_log {n : Nat} (h : n ≠ 0) : 2 ^ n.log2 ≤ n ∧ n < 2 ^ (n.log2 + 1) := ⟨Nat.log2_self_le h, Nat.lt_log2_self⟩
theorem exact_ex {n : Nat} (h : n < 2 ^ 53) : ∃ t, t < infMag ∧ V t = n * 2 ^ 1074 := by
  by_cases h0 : n = 0
  · subst h0
    exact ⟨0, by decide, by rw [V_zero, Nat.zero_mul]⟩
  · obtain ⟨h1, h2⟩ := two_log h0
    have hk : n.log2 ≤ 52 := by
      apply Nat.le_of_not_lt
      intro q
      have : 2 ^ 53 ≤ 2 ^ n.log2 := Nat.pow_le_pow_right (by decide) q
      omega
    generalize n.log2 = k at *
    have e1 : 2 ^ k * 2 ^ (52 - k) = 2 ^ 52 := by rw [← Nat.pow_add]; congr 1; omega
    have e2 : 2 ^ (k + 1) * 2 ^ (52 - k) = 2 ^ 53 := by rw [← Nat.pow_add]; congr 1; omega
    have hp : 0 < 2 ^ (52 - k) := Nat.two_pow_pos _
    have l1 : 2 ^ 52 ≤ n * 2 ^ (52 - k) := by rw [← e1]; exact Nat.mul_le_mul_right _ h1
    have l2 : n * 2 ^ (52 - k) < 2 ^ 53 := by rw [← e2]; exact Nat.mul_lt_mul_of_pos_right h2 hp
    refine ⟨(1022 + k) * 2 ^ 52 + n * 2 ^ (52 - k), ?_, ?_⟩
    · have hi : infMag = 2047 * 2 ^ 52 := rfl
      have : (1022 + k) * 2 ^ 52 ≤ 1074 * 2 ^ 52 := Nat.mul_le_mul_right _ (by omega)
      omega
    · rw [V_at (Nat.le_of_lt l2) (.inl l1), Nat.mul_assoc, ← Nat.pow_add]
      congr 2
      omega
theorem right_exact {r : UInt64} {neg : Bool} {W D t0 n : Nat} (R : Right r neg W D) (hD : 0 < D) (hW : W = D * V t0) (hn : n < 2 ^ 53) (hv : V t0 = n * 2 ^ 1074) : r = pack neg t0 := by
  obtain ⟨t, rfl, hle, hov, hnear⟩ := R
  have hlt : t < infMag := by
    rcases Nat.lt_or_ge t infMag with q | q
    · exact q
    · exfalso
      have e : t = infMag := Nat.le_antisymm hle q
      have z := hov.mp e
      rw [hW, hv] at z
      have h3 : D * ((2 ^ 54 - 1) * 2 ^ 2045) ≤ D * (2 * (n * 2 ^ 1074)) := by
        calc D * ((2 ^ 54 - 1) * 2 ^ 2045) ≤ 2 * (D * (n * 2 ^ 1074)) := z
          _ = D * (2 * (n * 2 ^ 1074)) := by ac_rfl
      have h4 := Nat.le_of_mul_le_mul_left h3 hD
      have h5 : 2 * (n * 2 ^ 1074) ≤ 2 * (2 ^ 53 * 2 ^ 1074) := Nat.mul_le_mul_left _ (Nat.mul_le_mul_right _ (Nat.le_of_lt hn))
      have h6 : 2 * (2 ^ 53 * 2 ^ 1074) < (2 ^ 54 - 1) * 2 ^ 2045 := by decide +kernel
      exact absurd (Nat.lt_of_le_of_lt (Nat.le_trans h4 h5) h6) (Nat.lt_irrefl _)
  have hd := (hnear hlt t0).1
  rw [hW] at hd
  have z0 : Float64.dist (D * V t0) (D * V t0) = 0 := by unfold Float64.dist; omega
  rw [z0] at hd
  have he : D * V t0 = D * V t := by unfold Float64.dist at hd; omega
  have hV : V t0 = V t := Nat.eq_of_mul_eq_mul_left hD he
  rcases Nat.lt_trichotomy t t0 with q | q | q
  · have := V_lt q; omega
  · rw [q]
  · have := V_lt q; omega

def small (a : Int) : Prop := a.natAbs < 2 ^ 53

theorem ofInt_at {a : Int} (h : small a) {t : Nat} (hv : V t = a.natAbs * 2 ^ 1074) : ofInt a = pack (decide (a < 0)) t :=
  right_exact (ofInt_right a) (by decide) (by rw [Nat.one_mul, hv]) h hv
theorem ofInt_fin {a : Int} (h : small a) : ∃ m e, decode (ofInt a) = .fin (decide (a < 0)) m e ∧ m * 2 ^ (e + 1074).toNat = a.natAbs * 2 ^ 1074 := by
  obtain ⟨t, ht, hv⟩ := exact_ex h
  obtain ⟨m, e, hd, hm⟩ := decode_pack (decide (a < 0)) ht
  rw [ofInt_at h hv]
  exact ⟨m, e, hd, hm.trans hv⟩
theorem val_ofInt {a : Int} (h : small a) : val (ofInt a) = a * 2 ^ 1074 := by
  obtain ⟨m, e, hd, hm⟩ := ofInt_fin h
  rw [val_eq hd, hm, sgn_mul]
  have : sgn (decide (a < 0)) a.natAbs = a := by
    unfold sgn
    by_cases q : a < 0
    · rw [decide_eq_true q, if_pos rfl]; omega
    · rw [decide_eq_false q]; simp; omega
  rw [this]
  simp
theorem zero_is : zero false = ofInt 0 := by decide +kernel
theorem pw_pos : (0 : Int) < 2 ^ 1074 := by decide +kernel
theorem val_abs {a : Int} (b : Int) (h : b = a * 2 ^ 1074) : b.natAbs = a.natAbs * 2 ^ 1074 := by
  rw [h, Int.natAbs_mul]
  rfl
theorem val_neg (a : Int) : decide (a * 2 ^ 1074 < 0) = decide (a < 0) := by
  have hp := pw_pos
  apply decide_eq_decide.mpr
  constructor
  · intro h
    apply Int.lt_of_not_ge
    intro q
    have := Int.mul_nonneg q (Int.le_of_lt hp)
    omega
  · intro h
    exact Int.mul_neg_of_neg_of_pos h hp

theorem fin_exact {r : UInt64} {c : Int} (hc : small c) {b : Int} (hb : b = c * 2 ^ 1074) (R : Right r (decide (b < 0)) b.natAbs 1) : r = ofInt c := by
  obtain ⟨t, _, hv⟩ := exact_ex hc
  rw [ofInt_at hc hv]
  rw [hb, val_neg] at R
  exact right_exact R (by decide) (by rw [val_abs _ rfl, Nat.one_mul, hv]) hc hv

theorem add_ofInt {a b : Int} (ha : small a) (hb : small b) (hc : small (a + b)) : add (ofInt a) (ofInt b) = ofInt (a + b) := by
  obtain ⟨m, e, hd, _⟩ := ofInt_fin ha
  obtain ⟨k, f, hd', _⟩ := ofInt_fin hb
  obtain ⟨h0, h1⟩ := add_right hd hd'
  have hs : val (ofInt a) + val (ofInt b) = (a + b) * 2 ^ 1074 := by rw [val_ofInt ha, val_ofInt hb, Int.add_mul]
  by_cases hz : a + b = 0
  · rw [h0 (by rw [hs, hz, Int.zero_mul]), hz, ← zero_is]
    congr 1
    by_cases q : a < 0
    · rw [decide_eq_false (show ¬ b < 0 by omega), Bool.and_false]
    · rw [decide_eq_false q, Bool.false_and]
  · exact fin_exact hc hs (h1 (by rw [hs]; exact Int.mul_ne_zero hz (Int.ne_of_gt pw_pos)))
theorem sub_ofInt {a b : Int} (ha : small a) (hb : small b) (hc : small (a - b)) : sub (ofInt a) (ofInt b) = ofInt (a - b) := by
  obtain ⟨m, e, hd, _⟩ := ofInt_fin ha
  obtain ⟨k, f, hd', _⟩ := ofInt_fin hb
  obtain ⟨h0, h1⟩ := sub_right hd hd'
  have hs : val (ofInt a) - val (ofInt b) = (a - b) * 2 ^ 1074 := by rw [val_ofInt ha, val_ofInt hb, Int.sub_mul]
  by_cases hz : a - b = 0
  · rw [h0 (by rw [hs, hz, Int.zero_mul]), hz, ← zero_is]
    have : a = b := by omega
    subst this
    congr 1
    cases decide (a < 0) <;> rfl
  · exact fin_exact hc hs (h1 (by rw [hs]; exact Int.mul_ne_zero hz (Int.ne_of_gt pw_pos)))

theorem div_ofInt {j k : Int} (hj : 0 < j) (hj' : small j) (hk : small k) (hjk : small (j * k)) : div (ofInt (j * k)) (ofInt j) = ofInt k := by
  obtain ⟨m, e, hd, _⟩ := ofInt_fin hjk
  obtain ⟨m', e', hd', hm'⟩ := ofInt_fin hj'
  have hk0 : m' ≠ 0 := by
    rintro rfl
    rw [Nat.zero_mul] at hm'
    have : 0 < j.natAbs * 2 ^ 1074 := Nat.mul_pos (by omega) (Nat.two_pow_pos _)
    omega
  have R := div_right hd hd' hk0
  obtain ⟨t, _, hv⟩ := exact_ex hk
  rw [ofInt_at hk hv]
  have hs : (decide (j * k < 0) != decide (j < 0)) = decide (k < 0) := by
    rw [decide_eq_false (show ¬ j < 0 by omega)]
    have : decide (j * k < 0) = decide (k < 0) := by
      apply decide_eq_decide.mpr
      constructor
      · intro h
        apply Int.lt_of_not_ge
        intro q
        have := Int.mul_nonneg (Int.le_of_lt hj) q
        omega
      · intro h; exact Int.mul_neg_of_pos_of_neg hj h
    rw [this]
    cases decide (k < 0) <;> rfl
  rw [hs] at R
  have e1 : (val (ofInt (j * k))).natAbs = j.natAbs * k.natAbs * 2 ^ 1074 := by rw [val_ofInt hjk, val_abs _ rfl, Int.natAbs_mul]
  have e2 : (val (ofInt j)).natAbs = j.natAbs * 2 ^ 1074 := by rw [val_ofInt hj', val_abs _ rfl]
  rw [e1, e2] at R
  refine right_exact R (Nat.mul_pos (by omega) (Nat.two_pow_pos _)) ?_ hk hv
  rw [hv]
  generalize (2 : Nat) ^ 1074 = K
  ac_rfl

/-- the product, its nought may bear a sign -/
theorem mul_ofInt {a b : Int} (ha : small a) (hb : small b) (hc : small (a * b)) : ∃ s : Bool, ∃ m e, decode (mul (ofInt a) (ofInt b)) = .fin s m e ∧ m * 2 ^ (e + 1074).toNat = (a * b).natAbs * 2 ^ 1074 ∧
    s = (decide (a < 0) != decide (b < 0)) ∧ (a * b ≠ 0 → mul (ofInt a) (ofInt b) = ofInt (a * b)) ∧ (a * b = 0 → mul (ofInt a) (ofInt b) = zero s) := by
  obtain ⟨m, e, hd, _⟩ := ofInt_fin ha
  obtain ⟨k, f, hd', _⟩ := ofInt_fin hb
  have R := mul_right hd hd'
  obtain ⟨t, ht, hv⟩ := exact_ex hc
  have e1 : (val (ofInt a)).natAbs = a.natAbs * 2 ^ 1074 := by rw [val_ofInt ha, val_abs _ rfl]
  have e2 : (val (ofInt b)).natAbs = b.natAbs * 2 ^ 1074 := by rw [val_ofInt hb, val_abs _ rfl]
  rw [e1, e2] at R
  have P := right_exact R (Nat.two_pow_pos _) (by rw [hv, Int.natAbs_mul]; generalize (2 : Nat) ^ 1074 = K; ac_rfl) hc hv
  obtain ⟨mm, ee, hdd, hmm⟩ := decode_pack (decide (a < 0) != decide (b < 0)) ht
  refine ⟨_, mm, ee, by rw [P]; exact hdd, hmm.trans hv, rfl, fun hne => ?_, fun hz => ?_⟩
  · rw [P, ofInt_at hc hv]
    congr 1
    by_cases q : a < 0 <;> by_cases r : b < 0
    · have := Int.mul_pos_of_neg_of_neg q r
      rw [decide_eq_true q, decide_eq_true r, decide_eq_false (show ¬ a * b < 0 by omega)]; rfl
    · have hb0 : b ≠ 0 := by rintro rfl; simp at hne
      have := Int.mul_neg_of_neg_of_pos q (show 0 < b by omega)
      rw [decide_eq_true q, decide_eq_false r, decide_eq_true this]; rfl
    · have ha0 : a ≠ 0 := by rintro rfl; simp at hne
      have := Int.mul_neg_of_pos_of_neg (show 0 < a by omega) r
      rw [decide_eq_false q, decide_eq_true r, decide_eq_true this]; rfl
    · have := Int.mul_nonneg (show 0 ≤ a by omega) (show 0 ≤ b by omega)
      rw [decide_eq_false q, decide_eq_false r, decide_eq_false (show ¬ a * b < 0 by omega)]; rfl
  · rw [P]
    have : V t = V 0 := by rw [hv, hz, V_zero]; simp
    have : t = 0 := by
      rcases Nat.eq_zero_or_pos t with q | q
      · exact q
      · have := V_lt q; omega
    rw [this]
    rfl

theorem two_nats {x y u v : Int} (hx : 0 ≤ x) (hy : 0 ≤ y) (hu : 0 ≤ u) (hv : 0 ≤ v) (h : x + y = u + v) : x.toNat + y.toNat = u.toNat + v.toNat := by
  rw [← Int.toNat_add hx hy, ← Int.toNat_add hu hv, h]
theorem fma_nats {e f g P : Int} (he : -1074 ≤ e) (hf : -1074 ≤ f) (hg : -1074 ≤ g) (h1 : P ≤ e + f) (h2 : P ≤ g) (h3 : -2148 ≤ P) :
    (e + f - P).toNat + (P + 2148).toNat = (e + 1074).toNat + (f + 1074).toNat ∧ (g - P).toNat + (P + 2148).toNat = (g + 1074).toNat + 1074 :=
  ⟨two_nats (Int.sub_nonneg_of_le h1) (by omega) (by omega) (by omega) (by omega), two_nats (v := 1074) (Int.sub_nonneg_of_le h2) (by omega) (by omega) (by decide) (by omega)⟩
theorem fma_nought {a b : Int} (ha : small a) (hb : small b) (hc : small (a * b)) : fma (ofInt a) (ofInt b) (neg (mul (ofInt a) (ofInt b))) = ofInt 0 := by
  obtain ⟨m, e, hd, hm⟩ := ofInt_fin ha
  obtain ⟨k, f, hd', hk⟩ := ofInt_fin hb
  obtain ⟨s, n, g, hz, hn, hs, _, _⟩ := mul_ofInt ha hb hc
  have hz' := neg_decode hz
  have he := decode_ge hd
  have hf := decode_ge hd'
  have hg := decode_ge hz
  unfold fma
  rw [hd, hd', hz']
  simp only
  have key : sgn (decide (a < 0) != decide (b < 0)) (m * k * 2 ^ (e + f - min (e + f) g).toNat) + sgn (!s) (n * 2 ^ (g - min (e + f) g).toNat) = 0 := by
    have q : m * k * 2 ^ (e + f - min (e + f) g).toNat = n * 2 ^ (g - min (e + f) g).toNat := by
      have hp : 0 < 2 ^ (min (e + f) g + 2148).toNat := Nat.two_pow_pos _
      apply Nat.eq_of_mul_eq_mul_right hp
      have z1 : ∀ x y z : Nat, x * 2 ^ y * 2 ^ z = x * 2 ^ (y + z) := fun x y z => by rw [Nat.mul_assoc, ← Nat.pow_add]
      rw [z1, z1]
      obtain ⟨e1, e2⟩ := fma_nats he hf hg (Int.min_le_left (e + f) g) (Int.min_le_right (e + f) g) (Int.le_min.mpr ⟨by omega, by omega⟩)
      rw [e1, e2, Nat.pow_add, Nat.pow_add]
      calc m * k * (2 ^ (e + 1074).toNat * 2 ^ (f + 1074).toNat) = (m * 2 ^ (e + 1074).toNat) * (k * 2 ^ (f + 1074).toNat) := by ac_rfl
        _ = a.natAbs * 2 ^ 1074 * (b.natAbs * 2 ^ 1074) := by rw [hm, hk]
        _ = (a * b).natAbs * 2 ^ 1074 * 2 ^ 1074 := by rw [Int.natAbs_mul]; generalize (2 : Nat) ^ 1074 = K; ac_rfl
        _ = n * (2 ^ (g + 1074).toNat * 2 ^ 1074) := by rw [← hn]; generalize (2 : Nat) ^ 1074 = K; ac_rfl
    rw [q, hs, sgn_not]
    omega
  unfold align
  simp only
  rw [key]
  simp only [beq_self_eq_true, if_true]
  rw [hs]
  rw [← zero_is]
  congr 1
  split
  · cases (decide (a < 0) != decide (b < 0)) <;> rfl
  · rfl

theorem small_of {a : Int} (h : a.natAbs ≤ 1000000000) : small a := by unfold small; omega
theorem neg0 : sub (ofInt 0) (ofInt 0) = ofInt 0 := by decide +kernel
/-- two parts of a sum: exact, nothing left -/
theorem dlSum_ofInt {a b : Int} (ha : a.natAbs ≤ 100000000) (hb : b.natAbs ≤ 100000000) : Builtin.Math.dlSum (ofInt a) (ofInt b) = (ofInt (a + b), ofInt 0) := by
  unfold Builtin.Math.dlSum
  simp only
  rw [add_ofInt (small_of (by omega)) (small_of (by omega)) (small_of (by omega)), sub_ofInt (small_of (by omega)) (small_of (by omega)) (small_of (by omega)),
    show a + b - a = b by omega, sub_ofInt (small_of (by omega)) (small_of (by omega)) (small_of (by omega)), show a + b - b = a by omega,
    sub_ofInt (small_of (by omega)) (small_of (by omega)) (small_of (by omega)), sub_ofInt (small_of (by omega)) (small_of (by omega)) (small_of (by omega)),
    show a - a = 0 by omega, show b - b = 0 by omega, add_ofInt (small_of (by decide)) (small_of (by decide)) (small_of (by decide))]
  rfl
theorem zero_true : decode (zero true) = .fin true 0 (-1074) := by
  kernel_rfl
/-- a nought with a sign adds nothing -/
theorem add_zero {a : Int} (ha : small a) (s : Bool) : add (ofInt a) (zero s) = ofInt a := by
  cases s with
  | false => rw [zero_is, add_ofInt ha (small_of (by decide)) (by rw [Int.add_zero]; exact ha), Int.add_zero]
  | true =>
    obtain ⟨m, e, hd, _⟩ := ofInt_fin ha
    obtain ⟨h0, h1⟩ := add_right hd zero_true
    have hz : val (zero true) = 0 := by rw [val_eq zero_true]; decide
    rw [hz, Int.add_zero, val_ofInt ha] at h0 h1
    by_cases q : a = 0
    · rw [h0 (by rw [q, Int.zero_mul]), q, ← zero_is]
      rfl
    · exact fin_exact ha rfl (h1 (Int.mul_ne_zero q (Int.ne_of_gt pw_pos)))
theorem dlSum_zero {a : Int} (ha : a.natAbs ≤ 100000000) (s : Bool) : Builtin.Math.dlSum (ofInt a) (zero s) = (ofInt a, ofInt 0) := by
  cases s with
  | false => rw [zero_is, dlSum_ofInt ha (by decide), Int.add_zero]
  | true =>
    unfold Builtin.Math.dlSum
    simp only
    rw [add_zero (small_of (by omega)), sub_ofInt (small_of (by omega)) (small_of (by omega)) (small_of (by omega)), show a - a = 0 by omega,
      sub_ofInt (small_of (by omega)) (small_of (by omega)) (small_of (by omega)), Int.sub_zero, sub_ofInt (small_of (by omega)) (small_of (by omega)) (small_of (by omega)), show a - a = 0 by omega]
    have : add (ofInt 0) (sub (zero true) (ofInt 0)) = ofInt 0 := by decide +kernel
    rw [this]

/-- one more product in the triple sum -/
theorem tlFma_ofInt {a b T : Int} (ha : a.natAbs ≤ 10000) (hb : b.natAbs ≤ 10000) (hT : T.natAbs ≤ 50000000) (hc : (a * b).natAbs ≤ 50000000) :
    Builtin.Math.tlFma (ofInt a) (ofInt b) (ofInt T, ofInt 0, ofInt 0) = (ofInt (T + a * b), ofInt 0, ofInt 0) := by
  have sa := small_of (a := a) (by omega)
  have sb := small_of (a := b) (by omega)
  have sc := small_of (a := a * b) (by omega)
  unfold Builtin.Math.tlFma
  simp only
  have hz : Builtin.Math.dlSum (ofInt 0) (ofInt 0) = (ofInt 0, ofInt 0) := dlSum_ofInt (by decide) (by decide)
  have h0 : add (ofInt 0) (ofInt 0) = ofInt 0 := add_ofInt (small_of (by decide)) (small_of (by decide)) (small_of (by decide))
  have hm : (Builtin.Math.dlMul (ofInt a) (ofInt b)).2 = ofInt 0 := fma_nought sa sb sc
  have hs : Builtin.Math.dlSum (ofInt T) (Builtin.Math.dlMul (ofInt a) (ofInt b)).1 = (ofInt (T + a * b), ofInt 0) := by
    show Builtin.Math.dlSum (ofInt T) (mul (ofInt a) (ofInt b)) = _
    obtain ⟨s, _, _, _, _, _, h1, h2⟩ := mul_ofInt sa sb sc
    by_cases q : a * b = 0
    · rw [h2 q, q, Int.add_zero, dlSum_zero (by omega)]
    · rw [h1 q, dlSum_ofInt (by omega) (by omega)]
  rw [hm, hs, hz]
  simp only
  rw [hz]
  simp only
  rw [h0, h0]
theorem tlToFloat_ofInt {T : Int} (hT : T.natAbs ≤ 100000000) : Builtin.Math.tlToFloat (ofInt T, ofInt 0, ofInt 0) = ofInt T := by
  unfold Builtin.Math.tlToFloat
  simp only
  rw [dlSum_ofInt (by decide) (by omega), Int.zero_add]
  simp only
  rw [add_ofInt (small_of (by decide)) (small_of (by decide)) (small_of (by decide)), Int.add_zero, add_ofInt (small_of (by decide)) (small_of (by omega)) (small_of (by omega)), Int.zero_add]
theorem ofInt_finite {a : Int} (h : small a) : isFinite (ofInt a) = true := by
  obtain ⟨m, e, hd, _⟩ := ofInt_fin h
  unfold isFinite
  rw [hd]
theorem ofInt_notInf {a : Int} (h : small a) : isInf (ofInt a) = false := by
  obtain ⟨m, e, hd, _⟩ := ofInt_fin h
  unfold isInf
  rw [hd]
theorem ofInt_isZero {a : Int} (h : small a) : isZero (ofInt a) = decide (a = 0) := by
  obtain ⟨m, e, hd, hm⟩ := ofInt_fin h
  unfold isZero
  rw [hd]
  by_cases q : a = 0
  · subst q
    have : m = 0 := by
      rcases Nat.eq_zero_or_pos m with z | z
      · exact z
      · have := Nat.mul_pos z (Nat.two_pow_pos (e + 1074).toNat)
        simp at hm
        omega
    subst this
    rfl
  · have : m ≠ 0 := by
      rintro rfl
      rw [Nat.zero_mul] at hm
      have : 0 < a.natAbs * 2 ^ 1074 := Nat.mul_pos (by omega) (Nat.two_pow_pos _)
      omega
    rw [decide_eq_false q]
    cases m with
    | zero => exact absurd rfl this
    | succ m => rfl
theorem lt_ofInt {a b : Int} (ha : small a) (hb : small b) : lt (ofInt a) (ofInt b) = decide (a < b) := by
  obtain ⟨m, e, hd, _⟩ := ofInt_fin ha
  obtain ⟨k, f, hd', _⟩ := ofInt_fin hb
  unfold lt
  rw [cmp_right hd hd', val_ofInt ha, val_ofInt hb]
  have hp := pw_pos
  generalize (2 : Int) ^ 1074 = K at *
  rcases Int.lt_trichotomy a b with h | h | h
  · rw [Int.compare_eq_lt.mpr (Int.mul_lt_mul_of_pos_right h hp), decide_eq_true h]; rfl
  · subst h; simp
  · rw [Int.compare_eq_gt.mpr (Int.mul_lt_mul_of_pos_right h hp), decide_eq_false (by omega)]; rfl
theorem abs_ofInt {a : Int} (h0 : 0 ≤ a) (h : small a) : abs (ofInt a) = ofInt a := by
  obtain ⟨t, ht, hv⟩ := exact_ex h
  obtain ⟨m, e, hd, _⟩ := ofInt_fin h
  unfold abs isNaN
  rw [hd]
  simp only [Bool.false_eq_true, if_false]
  rw [ofInt_at h hv, decide_eq_false (show ¬ a < 0 by omega), pack_toNat _ (by have : infMag = 2047 * 2 ^ 52 := rfl; omega)]
  congr 1
  simp
  have : infMag = 2047 * 2 ^ 52 := rfl
  omega
theorem cmpInt_ofInt {a : Int} (h : small a) : cmpInt (ofInt a) a = some .eq := by
  obtain ⟨m, e, hd, _⟩ := ofInt_fin h
  rw [cmpInt_right hd, val_ofInt h]
  simp
theorem cmpInt_inj {x : UInt64} {a b : Int} (h : cmpInt x a = some .eq) : (cmpInt x b != some .eq) = (a != b) := by
  have hfin : ∃ s m e, decode x = .fin s m e := by
    unfold cmpInt at h
    cases hd : decode x with
    | nan => rw [hd] at h; cases h
    | inf s => rw [hd] at h; cases s <;> cases h
    | fin s m e => exact ⟨s, m, e, rfl⟩
  obtain ⟨s, m, e, hd⟩ := hfin
  rw [cmpInt_right hd] at h ⊢
  have hv : val x = a * 2 ^ 1074 := Int.compare_eq_eq.mp (Option.some.inj h)
  rw [hv]
  have hp := pw_pos
  generalize (2 : Int) ^ 1074 = K at *
  rcases Int.lt_trichotomy a b with h | h | h
  · rw [Int.compare_eq_lt.mpr (Int.mul_lt_mul_of_pos_right h hp)]
    exact (bne_iff_ne.mpr (show a ≠ b by omega)).symm
  · subst h; simp
  · rw [Int.compare_eq_gt.mpr (Int.mul_lt_mul_of_pos_right h hp)]
    exact (bne_iff_ne.mpr (show a ≠ b by omega)).symm

/-- the partials of math.fsum: nothing, or the sum so far -/
def part (s : Int) : List UInt64 := if s = 0 then [] else [ofInt s]
theorem fsumAdd_ofInt {s x : Int} (hs : 0 ≤ s) (hx : 0 ≤ x) (h : s + x ≤ 1000000) : fsumAdd (part s) (ofInt x) = ([], ofInt (s + x)) := by
  have ss := small_of (a := s) (by omega)
  have sx := small_of (a := x) (by omega)
  have sm := small_of (a := s + x) (by omega)
  have z0 : small 0 := small_of (by decide)
  have hz : isZero (ofInt 0) = true := by rw [ofInt_isZero z0]; rfl
  unfold part
  by_cases q : s = 0
  · rw [if_pos q, q, Int.zero_add]; rfl
  · rw [if_neg q]
    show (match (if lt (abs (ofInt x)) (abs (ofInt s)) then (ofInt s, ofInt x) else (ofInt x, ofInt s)) with
      | (x, y) => match fsumAdd [] (add x y) with
        | (rest, top) => (if isZero (sub y (sub (add x y) x)) then rest else sub y (sub (add x y) x) :: rest, top)) = _
    rw [abs_ofInt hx sx, abs_ofInt hs ss, lt_ofInt sx ss]
    by_cases c : x < s
    · rw [decide_eq_true c]
      simp only [if_true]
      rw [add_ofInt ss sx sm, sub_ofInt sm ss (small_of (by omega)), show s + x - s = x by omega, sub_ofInt sx sx (small_of (by omega)), show x - x = 0 by omega, hz]
      rfl
    · rw [decide_eq_false c]
      simp only [Bool.false_eq_true, if_false]
      rw [add_ofInt sx ss (by rw [Int.add_comm]; exact sm), sub_ofInt (small_of (by omega)) sx (small_of (by omega)), show x + s - x = s by omega, sub_ofInt ss ss (small_of (by omega)), show s - s = 0 by omega, hz, Int.add_comm]
      rfl
theorem fsum_next {s x : Int} (hs : 0 ≤ s) (hx : 0 ≤ x) (h : s + x ≤ 1000000) : (if isZero (ofInt (s + x)) then [] else [] ++ [ofInt (s + x)]) = part (s + x) := by
  rw [ofInt_isZero (small_of (by omega))]
  unfold part
  by_cases q : s + x = 0
  · rw [decide_eq_true q, if_pos rfl, if_pos q]
  · rw [decide_eq_false q, if_neg (by decide), if_neg q]; rfl
theorem fsumEnd_part (s : Int) : fsumEnd (part s) = ofInt s := by
  unfold part
  by_cases q : s = 0
  · rw [if_pos q, q]; exact zero_is
  · rw [if_neg q]; rfl
end Mine
end

section
namespace Mine
open PySem PyProof.Rows

variable {l : Nat} {X : Addr → Prop} {prog : Program} {w : World} {A : Around} {E : Value → Shared → Prop} {s : Shared} {Q : Value → Shared → Prop}

/-- what comes of a step: all that stood stands, the value bears what is told -/
abbrev Post (l : Nat) (X : Addr → Prop) (s : Shared) (c : AV) (Q : Value → Shared → Prop) : Prop := ∀ v s', Keeps s s' → Rep l X s'.heap v c → Q v s'

theorem intMul_ok {a b : Int} (h : a.natAbs < 2 ^ 64) : IntMulOk a b := IntMulOk.of_left (intBits_le h)

theorem getElem_append_cases {α : Type} {xs ys : List α} {i : Nat} {a : α} (h : (xs ++ ys)[i]? = some a) : xs[i]? = some a ∨ (xs.length ≤ i ∧ ys[i - xs.length]? = some a) := by
  rcases Nat.lt_or_ge i xs.length with q | q
  · rw [List.getElem?_append_left q] at h; exact .inl h
  · rw [List.getElem?_append_right q] at h; exact .inr ⟨q, h⟩

theorem new_list {vs : List Value} (hX : Old X s.heap) {xs : List AV} (hn : vs.length = xs.length) (hv : ∀ (i : Nat) (v : Value) (x : AV), vs[i]? = some v → xs[i]? = some x → Rep l X s.heap v x) :
    Rep l X (s.heap.push { cls := .type "list", data := .seq vs.toArray }) (.ref s.heap.objs.size) (.list xs) :=
  .list ⟨_, Heap.get?_push_size _ rfl, rfl, 0, rfl⟩ hX.size hn fun i v x e1 e2 => (hv i v x e1 e2).keeps fun _ _ e => Heap.get?_push_of_some _ e

theorem str_len {x : Str} {cs : List Nat} (h : x.cps.toList = cs.map (· + l)) : x.length = cs.length := by
  have := congrArg List.length h
  simpa [Str.length] using this

theorem cat_sound {va vb : Value} {xs ys : List AV} (ra : Rep l X s.heap va (.list xs)) (rb : Rep l X s.heap vb (.list ys)) (hsz : xs.length + ys.length ≤ 1000) (hX : Old X s.heap) (hQ : Post l X s (.list (xs ++ ys)) Q) :
    wpAny (model prog w) A (binaryOp .Add va vb) Q E s := by
  obtain ⟨a, vs, rfl, hl, hx, hn, hv⟩ := ra.inv
  obtain ⟨a', vs', rfl, hl', hx', hn', hv'⟩ := rb.inv
  obtain ⟨⟨cls, dd, data, sl⟩, ho, hc, n, hd⟩ := id hl
  obtain ⟨⟨cls2, dd2, data2, sl2⟩, ho2, hc2, n2, hd2⟩ := id hl'
  simp only at hc hd hc2 hd2
  subst hc hd hc2 hd2
  have e : vs.toArray ++ vs'.toArray = (vs ++ vs').toArray := by simp
  refine concat_meets ⟨_, ho, rfl⟩ ⟨_, ho2, rfl⟩ noFill_list_add seq_list_add PySem.F.slot_list_add PySem.F.entry_list_add (PySem.F.args_list_add_2 _ _)
    (list_addW _ _ vs.toArray vs'.toArray n n2 dd dd2 sl sl2 (by rw [sizeLine_eq]; simp only [List.size_toArray]; omega)) ⟨ho, ho2, ?_⟩
  rw [e]
  refine hQ _ _ (Keeps.push ..) (new_list hX (by simp [hn, hn']) fun i v x e1 e2 => ?_)
  rcases getElem_append_cases e1 with q | ⟨q, q'⟩ <;> rcases getElem_append_cases e2 with r | ⟨r, r'⟩
  · exact hv i v x q r
  · have := List.getElem?_eq_some_iff.mp q
    obtain ⟨z, _⟩ := this
    omega
  · obtain ⟨z, _⟩ := List.getElem?_eq_some_iff.mp r
    omega
  · rw [hn] at q'
    exact hv' _ v x q' r'
theorem join_sound {va vb : Value} {cs ds : List Nat} (ra : Rep l X s.heap va (.str cs)) (rb : Rep l X s.heap vb (.str ds)) (hsz : cs.length + ds.length ≤ 1000) (hQ : Post l X s (.str (cs ++ ds)) Q) :
    wpAny (model prog w) A (binaryOp .Add va vb) Q E s := by
  obtain ⟨x, t, rfl, h1⟩ := ra.inv
  obtain ⟨y, u, rfl, h2⟩ := rb.inv
  have l1 := str_len h1
  have l2 := str_len h2
  refine SB.add (fun t' k => hQ _ _ (Keeps.tok ..) (.str ?_)) (by rw [sizeLine_eq]; omega)
  rw [Str.cps_append, Array.toList_append, h1, h2, List.map_append]
theorem addV_sound {a b c : AV} {va vb : Value} (h : addV a b = some c) (ra : Rep l X s.heap va a) (rb : Rep l X s.heap vb b) (hX : Old X s.heap) (hQ : Post l X s c Q) :
    wpAny (model prog w) A (binaryOp .Add va vb) Q E s := by
  unfold addV at h
  split at h
  · obtain ⟨_, rfl, h1, h2⟩ := ra.inv
    split at h
    · cases h
      obtain ⟨_, rfl, h3, h4⟩ := rb.inv
      exact P.add_int (hQ _ _ (Keeps.tok ..) (.int (Int.add_le_add h1 h3) (Int.add_le_add h2 h4)))
    · cases h
      obtain ⟨_, _, rfl, h3, h4⟩ := rb.inv
      exact P.add_int (hQ _ _ (Keeps.tok ..) (.anyInt (Int.add_le_add h1 h3) (Int.add_le_add h2 h4)))
    · cases h
  · split at h
    · split at h
      · rename_i hsz
        cases h
        exact cat_sound ra rb hsz hX hQ
      · cases h
    · cases h
  · split at h
    · split at h
      · rename_i hsz
        cases h
        exact join_sound ra rb hsz hQ
      · cases h
    · cases h
  · cases h
theorem subtV_sound {a b c : AV} {va vb : Value} (h : subtV a b = some c) (ra : Rep l X s.heap va a) (rb : Rep l X s.heap vb b) (hQ : Post l X s c Q) :
    wpAny (model prog w) A (binaryOp .Sub va vb) Q E s := by
  unfold subtV at h
  split at h
  · obtain ⟨_, rfl, h1, h2⟩ := ra.inv
    split at h
    · cases h
      obtain ⟨_, rfl, h3, h4⟩ := rb.inv
      exact P.sub_int (hQ _ _ (Keeps.tok ..) (.int (Int.sub_le_sub h1 h4) (Int.sub_le_sub h2 h3)))
    · split at h
      · rename_i hb
        cases h
        obtain ⟨_, rfl, h3, h4⟩ := rb.inv
        simp only [Bool.and_eq_true, decide_eq_true_eq] at hb
        have b1 := absB_le h1 h2
        have b2 := absB_le h3 h4
        obtain ⟨g1, g2, g3⟩ := sub_abs b1 hb.1 b2 hb.2
        refine AutoFloatOpsIf.sub_if ?_
        rw [if_neg (by rw [ofInt_notInf (small_of g1)]; decide)]
        rw [sub_ofInt (small_of g1) (small_of g2) (small_of g3)]
        exact hQ _ _ (Keeps.tok ..) (.fx (Int.sub_le_sub h1 h4) (Int.sub_le_sub h2 h3))
      · cases h
    · cases h
  · cases h
theorem multV_sound {i li hi j lj hj : Int} {c : AV} {t u : Tok} (h : multV i li hi j lj hj = some c) (h1 : li ≤ i) (h2 : i ≤ hi) (h3 : lj ≤ j) (h4 : j ≤ hj) (hQ : Post l X s c Q) :
    wpAny (model prog w) A (binaryOp .Mult (.int i t) (.int j u)) Q E s := by
  unfold multV at h
  split at h
  · rename_i hb
    simp only [Bool.and_eq_true, decide_eq_true_eq] at hb
    have b1 := absB_le h1 h2
    have b2 := absB_le h3 h4
    unfold line at hb
    refine P.mul_int ?_ (intMul_ok (by omega))
    split at h
    · rename_i hp
      simp only [Bool.and_eq_true, decide_eq_true_eq] at hp
      cases h
      have := mul_nn hp.1 hp.2 h1 h2 h3 h4
      exact hQ _ _ (Keeps.tok ..) (.int this.1 this.2)
    · cases h
      have := mul_abs b1 b2
      exact hQ _ _ (Keeps.tok ..) (.int this.1 this.2)
  · cases h
theorem fdivV_sound {i li hi j lj hj : Int} {c : AV} {t u : Tok} (h : fdivV i li hi j lj hj = some c) (h1 : li ≤ i) (h2 : i ≤ hi) (h3 : lj ≤ j) (h4 : j ≤ hj) (hQ : Post l X s c Q) :
    wpAny (model prog w) A (binaryOp .FloorDiv (.int i t) (.int j u)) Q E s := by
  unfold fdivV at h
  split at h
  · rename_i hb
    cases h
    simp only [Bool.and_eq_true, decide_eq_true_eq, beq_iff_eq] at hb
    obtain ⟨⟨p1, p2⟩, p3⟩ := hb
    subst p2
    have ej := Int.le_antisymm h4 h3
    subst ej
    refine floordiv_int (by omega) (hQ _ _ (Keeps.tok ..) (.int (fdiv_mono h1 p1) (fdiv_mono h2 p1))) (.inl (PyProof.noPylong_small (by omega)))
  · cases h
theorem modV_sound {a : AV} {va : Value} {j lj hj : Int} {c : AV} {u : Tok} (h : modV a j lj hj = some c) (ra : Rep l X s.heap va a) (h3 : lj ≤ j) (h4 : j ≤ hj) (hQ : Post l X s c Q) :
    wpAny (model prog w) A (binaryOp .Mod va (.int j u)) Q E s := by
  unfold modV at h
  split at h
  · rename_i hb
    simp only [Bool.and_eq_true, decide_eq_true_eq, beq_iff_eq] at hb
    obtain ⟨p1, p2⟩ := hb
    subst p2
    have ej := Int.le_antisymm h4 h3
    subst ej
    have hne : j ≠ 0 := by omega
    split at h
    · cases h
      obtain ⟨_, rfl, _⟩ := ra.inv
      exact mod_int' hne (hQ _ _ (Keeps.tok ..) (.int (fmod_in _ p1).1 (fmod_in _ p1).2))
    · cases h
      obtain ⟨_, _, rfl, _⟩ := ra.inv
      exact mod_int' hne (hQ _ _ (Keeps.tok ..) (.anyInt (fmod_in _ p1).1 (fmod_in _ p1).2))
    · cases h
      obtain ⟨_, _, rfl⟩ := ra.inv
      exact mod_int' hne (hQ _ _ (Keeps.tok ..) (.anyInt (fmod_in _ p1).1 (fmod_in _ p1).2))
    · cases h
  · cases h
theorem powV_sound {i li hi j lj hj : Int} {c : AV} {t u : Tok} (h : powV i li hi j lj hj = some c) (h1 : li ≤ i) (h2 : i ≤ hi) (h3 : lj ≤ j) (h4 : j ≤ hj) (hQ : Post l X s c Q) :
    wpAny (model prog w) A (binaryOp .Pow (.int i t) (.int j u)) Q E s := by
  unfold powV at h
  split at h
  · rename_i hb
    simp only [Bool.and_eq_true, decide_eq_true_eq, beq_iff_eq] at hb
    obtain ⟨⟨⟨p1, p2⟩, p3⟩, p4⟩ := hb
    subst p2
    have ej := Int.le_antisymm h4 h3
    subst ej
    have b1 := absB_le h1 h2
    refine pow_int_small (by omega) (by omega) (by omega) ?_
    split at h
    · rename_i hp
      cases h
      exact hQ _ _ (Keeps.tok ..) (.int (pow_nn hp h1 h2 _).2.1 (pow_nn hp h1 h2 _).2.2)
    · cases h
      exact hQ _ _ (Keeps.tok ..) (.int (pow_abs b1 _).1 (pow_abs b1 _).2)
  · cases h
theorem divV_sound {a : AV} {va : Value} {j lj hj : Int} {c : AV} {u : Tok} (h : divV a lj hj = some c) (ra : Rep l X s.heap va a) (h3 : lj ≤ j) (h4 : j ≤ hj) (hQ : Post l X s c Q) :
    wpAny (model prog w) A (binaryOp .Div va (.int j u)) Q E s := by
  unfold divV at h
  split at h
  · split at h
    · rename_i hb
      cases h
      obtain ⟨_, rfl, h1, h2⟩ := ra.inv
      simp only [Bool.and_eq_true, decide_eq_true_eq, beq_iff_eq] at hb
      obtain ⟨⟨p1, p2⟩, p3⟩ := hb
      subst p2
      have ej := Int.le_antisymm h4 h3
      subst ej
      refine AutoFloatOpsIf.truediv_fi ?_
      rw [if_neg (by rw [ofInt_notInf (small_of (by omega))]; decide), if_neg (by rw [ofInt_isZero (small_of (by omega)), decide_eq_false (by omega)]; decide)]
      exact hQ _ _ (Keeps.tok ..) (.fq h1 h2)
    · cases h
  · cases h
theorem intsF_inv {f : Int → Int → Int → Int → Int → Int → Option AV} {a b c : AV} (h : intsF f a b = some c) : ∃ i li hi j lj hj, a = .int i li hi ∧ b = .int j lj hj ∧ f i li hi j lj hj = some c := by
  unfold intsF at h
  split at h
  · split at h
    · exact ⟨_, _, _, _, _, _, rfl, rfl, h⟩
    · cases h
  · cases h
theorem intF_inv {f : AV → Int → Int → Int → Option AV} {a b c : AV} (h : intF f a b = some c) : ∃ j lj hj, b = .int j lj hj ∧ f a j lj hj = some c := by
  unfold intF at h
  split at h
  · exact ⟨_, _, _, rfl, h⟩
  · cases h
/-- an operation on two whole numbers -/
theorem ints_sound {f : Int → Int → Int → Int → Int → Int → Option AV} {op : Operator} {a b c : AV} {va vb : Value} (h : intsF f a b = some c) (ra : Rep l X s.heap va a) (rb : Rep l X s.heap vb b)
    (go : ∀ {i li hi j lj hj : Int} {t u : Tok}, f i li hi j lj hj = some c → li ≤ i → i ≤ hi → lj ≤ j → j ≤ hj → wpAny (model prog w) A (binaryOp op (.int i t) (.int j u)) Q E s) : wpAny (model prog w) A (binaryOp op va vb) Q E s := by
  obtain ⟨i, li, hi, j, lj, hj, rfl, rfl, e⟩ := intsF_inv h
  obtain ⟨_, rfl, h1, h2⟩ := ra.inv
  obtain ⟨_, rfl, h3, h4⟩ := rb.inv
  exact go e h1 h2 h3 h4

theorem binV_sound {op : Operator} {a b c : AV} {va vb : Value} (h : binV op a b = some c) (ra : Rep l X s.heap va a) (rb : Rep l X s.heap vb b) (hX : Old X s.heap) (hQ : Post l X s c Q) :
    wpAny (model prog w) A (binaryOp op va vb) Q E s := by
  unfold binV at h
  split at h
  · exact addV_sound h ra rb hX hQ
  · exact subtV_sound h ra rb hQ
  · exact ints_sound h ra rb fun h h1 h2 h3 h4 => multV_sound h h1 h2 h3 h4 hQ
  · exact ints_sound h ra rb fun h h1 h2 h3 h4 => fdivV_sound h h1 h2 h3 h4 hQ
  · obtain ⟨j, lj, hj, rfl, h⟩ := intF_inv h
    obtain ⟨_, rfl, h3, h4⟩ := rb.inv
    exact modV_sound h ra h3 h4 hQ
  · exact ints_sound h ra rb fun h h1 h2 h3 h4 => powV_sound h h1 h2 h3 h4 hQ
  · obtain ⟨j, lj, hj, rfl, h⟩ := intF_inv h
    obtain ⟨_, rfl, h3, h4⟩ := rb.inv
    exact divV_sound h ra h3 h4 hQ
  · cases h

theorem shift_inj {cs ds : List Nat} : cs.map (· + l) = ds.map (· + l) ↔ cs = ds := by
  constructor
  · intro h
    have := congrArg (List.map (· - l)) h
    simpa [List.map_map, Function.comp_def] using this
  · rintro rfl; rfl
theorem pick_none {bs : List Bool} (h : bs.any id = false) (xs : List AV) : pick bs xs = [] := by
  induction bs generalizing xs with
  | nil => cases xs <;> rfl
  | cons b bs ih =>
    simp only [List.any_cons, Bool.or_eq_false_iff, id_eq] at h
    cases xs with
    | nil => cases b <;> rfl
    | cons x xs => rw [h.1]; exact ih h.2 xs

theorem cmpI_inv {f : Int → Int → Bool} {a b : AV} {c : Bool} (h : cmpI f a b = some c) : ∃ i li hi j lj hj, a = .int i li hi ∧ b = .int j lj hj ∧ f i j = c := by
  unfold cmpI at h
  split at h
  · split at h
    · cases h
      exact ⟨_, _, _, _, _, _, rfl, rfl, rfl⟩
    · cases h
  · cases h
theorem cmpI_sound {f : Int → Int → Bool} {op : CmpOp} {a b : AV} {c : Bool} {va vb : Value} (h : cmpI f a b = some c) (ra : Rep l X s.heap va a) (rb : Rep l X s.heap vb b)
    (go : ∀ {i j : Int} {t u : Tok}, f i j = c → wpAny (model prog w) A (compareOp op (.int i t) (.int j u)) Q E s) : wpAny (model prog w) A (compareOp op va vb) Q E s := by
  obtain ⟨i, li, hi, j, lj, hj, rfl, rfl, e⟩ := cmpI_inv h
  obtain ⟨_, rfl, _⟩ := ra.inv
  obtain ⟨_, rfl, _⟩ := rb.inv
  exact go e
theorem eqV_sound {a b : AV} {c : Bool} {va vb : Value} (h : eqV a b = some c) (ra : Rep l X s.heap va a) (rb : Rep l X s.heap vb b) (hQ : ∀ s', Keeps s s' → Q (.bool c) s') :
    wpAny (model prog w) A (compareOp .Eq va vb) Q E s := by
  unfold eqV at h
  split at h
  · split at h
    · cases h
      obtain ⟨_, _, rfl, h1⟩ := ra.inv
      obtain ⟨_, _, rfl, h2⟩ := rb.inv
      refine P.eq_str ?_
      rw [h1, h2]
      have e : ∀ cs ds : List Nat, (cs.map (· + l) == ds.map (· + l)) = decide (cs = ds) := fun cs ds => by
        rw [Bool.eq_iff_iff, beq_iff_eq, decide_eq_true_eq]
        exact shift_inj
      rw [e]
      exact hQ _ (Keeps.refl _)
    · cases h
  · exact cmpI_sound h ra rb fun e => P.eq_int (e ▸ hQ _ (Keeps.refl _))
theorem neV_sound {a b : AV} {c : Bool} {va vb : Value} (h : neV a b = some c) (ra : Rep l X s.heap va a) (rb : Rep l X s.heap vb b) (hu : A.units + 64 < cLine) (hQ : ∀ s', Keeps s s' → Q (.bool c) s') :
    wpAny (model prog w) A (compareOp .NotEq va vb) Q E s := by
  unfold neV at h
  split at h
  · split at h
    · cases h
      obtain ⟨_, _, rfl, h1⟩ := ra.inv
      obtain ⟨_, rfl, _⟩ := rb.inv
      refine ne_fi ?_
      rw [cmpInt_inj h1]
      exact hQ _ (Keeps.refl _)
    · cases h
  · split at h
    · split at h
      · split at h
        · cases h
        · rename_i hb
          cases h
          have hb' := (Bool.not_eq_true _).mp hb
          obtain ⟨_, _, rfl, hl, hx, hbn, hn, hv⟩ := ra.inv
          obtain ⟨_, _, rfl, hl', hx', hn', hv'⟩ := rb.inv
          rw [pick_none hb'] at hn
          have e1 := List.length_eq_zero_iff.mp hn
          have e2 := List.length_eq_zero_iff.mp hn'
          subst e1 e2
          exact PySem.W.ke_ne_ints (ns := []) (ms := []) hl hl' .nil .nil hu (hQ _ (Keeps.refl _))
      · cases h
    · cases h
  · exact cmpI_sound h ra rb fun e => P.ne_int (e ▸ hQ _ (Keeps.refl _))

theorem cmpV_sound {op : CmpOp} {a b : AV} {c : Bool} {va vb : Value} (h : cmpV op a b = some c) (ra : Rep l X s.heap va a) (rb : Rep l X s.heap vb b) (hu : A.units + 64 < cLine) (hQ : ∀ s', Keeps s s' → Q (.bool c) s') :
    wpAny (model prog w) A (compareOp op va vb) Q E s := by
  unfold cmpV at h
  split at h
  · exact eqV_sound h ra rb hQ
  · exact neV_sound h ra rb hu hQ
  · exact cmpI_sound h ra rb fun e => P.lt_int (e ▸ hQ _ (Keeps.refl _))
  · exact cmpI_sound h ra rb fun e => P.gt_int (e ▸ hQ _ (Keeps.refl _))
  · cases h

theorem truthV_sound {a : AV} {c : Bool} {va : Value} {Q : Bool → Shared → Prop} (h : truthV a = some c) (ra : Rep l X s.heap va a) (hQ : ∀ s', Keeps s s' → Q c s') :
    wpAny (model prog w) A (truthy va) Q E s := by
  unfold truthV at h
  split at h
  · cases h
    obtain rfl := ra.inv
    exact wpAny_truthy_bool (hQ _ (Keeps.refl _))
  · cases h
    obtain ⟨_, rfl, _⟩ := ra.inv
    exact P.truthy_int (hQ _ (Keeps.refl _))
  · split at h
    · rename_i cs hsz
      cases h
      obtain ⟨x, t, rfl, h1⟩ := ra.inv
      have hl := str_len h1
      refine P.truthy_str (by omega) ?_
      rw [hl]
      cases cs with
      | nil => exact hQ _ (Keeps.tok ..)
      | cons c r =>
        have : ((((c :: r).length : Nat) : Int) != 0) = true := by simp; omega
        rw [this]
        exact hQ _ (Keeps.tok ..)
    · cases h
  · cases h
end Mine
end

section
namespace Mine
open PySem PyProof.Rows

variable {l : Nat} {X : Addr → Prop} {prog : Program} {w : World} {A : Around} {E : Value → Shared → Prop} {s : Shared} {Q : Value → Shared → Prop}

theorem subscripted_ops (slice : Expr) (o i : Value) : ∃ ops, subscripted slice false o i = operate ops (getItem o i) := by
  cases slice with
  | Slice a b st _ => cases st <;> exact ⟨_, rfl⟩
  | _ => exact ⟨_, rfl⟩

theorem tail_ {value slice : Expr} {o i : Value} {T id : String} (hT : s.TypeIs o T) (hl : typeLookup (.type T) "__getitem__" = pure (some (.builtin id)))
    (hg : wpAny (model prog w) A (getItem o i) Q E s) : wpAny (model prog w) A (subscriptTail value slice o i) Q E s := by
  obtain ⟨ops, e⟩ := subscripted_ops slice o i
  exact tail_any hT hl hg e

/-- an item by its place; the list may be the one that the frame owns -/
theorem item_sound {value slice : Expr} {a : Addr} {vs : List Value} {xs : List AV} {b c : AV} {vb : Value} (h : subV (.list xs) b = some c)
    (hl : s.heap.IsList a vs.toArray) (hn : vs.length = xs.length) (hv : ∀ (i : Nat) (v : Value) (x : AV), vs[i]? = some v → xs[i]? = some x → Rep l X s.heap v x)
    (rb : Rep l X s.heap vb b) (hQ : Post l X s c Q) : wpAny (model prog w) A (subscriptTail value slice (.ref a) vb) Q E s := by
  cases b with
  | int i lo hi =>
    replace h : (if 0 ≤ i && xs.length ≤ 1000 then xs[i.toNat]? else Option.none) = some c := h
    split at h
    · rename_i h0
      simp only [Bool.and_eq_true, decide_eq_true_eq] at h0
      obtain ⟨h0, hsz⟩ := h0
      obtain ⟨_, rfl, _⟩ := rb.inv
      obtain ⟨hi, _⟩ := List.getElem?_eq_some_iff.mp h
      have hv' : ∃ v, vs[i.toNat]? = some v := ⟨vs[i.toNat]'(by omega), List.getElem?_eq_getElem (by omega)⟩
      obtain ⟨v, ev⟩ := hv'
      exact tail_ hl.typeIs slot_list_getitem.lookup (wpAny_getItem_list hl h0 (by omega) (by simpa using ev) (hQ _ _ (Keeps.refl _) (hv _ _ _ ev h)))
    · cases h
  | _ => cases h

theorem place_idx {n k : Nat} {i : Int} (hk : placeV n i = some k) (hkn : k < n) : seqIndex? i n = some k := by
  unfold seqIndex?
  unfold placeV at hk
  split at hk
  · split at hk
    · cases hk
      rw [if_neg (show ¬ i < 0 by omega)]
      simp only
      rw [if_pos (by simp; omega)]
    · cases hk
  · split at hk
    · cases hk
      rw [if_pos (show i < 0 by omega)]
      simp only
      rw [if_pos (by simp; omega)]
    · cases hk
theorem place_big {n k : Nat} {i : Int} (hk : placeV n i = some k) (hn : n ≤ 1000) : (decide (i < -(2 ^ 63 : Int)) || decide (i ≥ 2 ^ 63)) = false := by
  unfold placeV at hk
  split at hk
  · split at hk
    · simp; omega
    · cases hk
  · split at hk
    · simp; omega
    · cases hk

theorem sign_sound {value slice : Expr} {x : Str} {t : Tok} {cs : List Nat} {b c : AV} {vb : Value} (h : subV (.str cs) b = some c)
    (hx : x.cps.toList = cs.map (· + l)) (rb : Rep l X s.heap vb b) (hQ : Post l X s c Q) : wpAny (model prog w) A (subscriptTail value slice (.str x t) vb) Q E s := by
  cases b with
  | int i lo hi =>
    replace h : (if cs.length ≤ 1000 then (match placeV cs.length i with
      | some k => (cs[k]?).map fun c => AV.str [c]
      | Option.none => Option.none) else Option.none) = some c := h
    have hlen := str_len hx
    split at h
    case isFalse => cases h
    rename_i hsz
    split at h
    · rename_i k hk
      obtain ⟨_, rfl, _⟩ := rb.inv
      cases hc : cs[k]? with
      | none => rw [hc] at h; cases h
      | some d =>
        rw [hc] at h
        cases h
        obtain ⟨hkn, _⟩ := List.getElem?_eq_some_iff.mp hc
        refine tail_ (typeIs_str _ _ _) F.slot_str_getitem.lookup (P.getItem_str (c := d + l) (place_big hk hsz) ?_ (hQ _ _ (Keeps.tok ..) (.str ?_)))
        · rw [hlen, place_idx hk hkn]
          show x.cps[k]? = _
          rw [← Array.getElem?_toList, hx, List.getElem?_map, hc]
          rfl
        · rfl
    · cases h
  | _ => cases h

theorem picked (x : Str) (a b : Nat) (hb : b ≤ x.length) : (sliceRange (a : Int) (b : Int) 1).filterMap (x.cps[·]?) = (x.cps.toList.drop a).take (b - a) := by
  rw [sliceRange_one, pick_run]
theorem sr_len (a b : Nat) : (sliceRange (a : Int) (b : Int) 1).length = b - a := by rw [sliceRange_one]; simp

/-- a text cut from a to b -/
theorem cut_post {x : Str} {t : Tok} {lo hi : Option (Int × Tok)} {a b : Nat} (hs : slicePicked x lo hi Option.none = sliceRange (a : Int) (b : Int) 1) (hb : b ≤ x.length) (hsz : x.length ≤ sizeLine)
    (hQ : ∀ y t' tk, y.cps.toList = (x.cps.toList.drop a).take (b - a) → Q (.str y t') { s with toks := tk }) : (sliceMade x t lo hi Option.none).post Q s := by
  unfold sliceMade
  rw [hs]
  split
  · rename_i h
    simp only [Option.map_none, Option.getD_none, beq_self_eq_true, Bool.true_and, beq_iff_eq] at h
    rw [sr_len] at h
    show Q (.str x t) s
    refine hQ x t s.toks ?_
    have ha : a = 0 ∨ x.length = 0 := by omega
    have hlen : x.cps.toList.length = x.length := by simp [Str.length]
    rcases ha with rfl | h0
    · rw [List.drop_zero, List.take_of_length_le (by omega)]
    · have : x.cps.toList = [] := List.length_eq_zero_iff.mp (by omega)
      rw [this]; simp
  · rw [picked x a b hb]
    refine ⟨?_, hQ _ _ _ ?_⟩
    · show (((x.cps.toList.drop a).take (b - a)).toArray).size ≤ sizeLine
      have hlen : x.cps.toList.length = x.length := by simp [Str.length]
      simp only [List.size_toArray, List.length_take, List.length_drop]
      omega
    · simp

theorem idx_from (n : Nat) {i : Int} (h : 0 ≤ i) : Builtin.Str.strSliceIndices (some i) Option.none 1 n = sliceRange ((min i.toNat n : Nat) : Int) (n : Int) 1 := by
  unfold Builtin.Str.strSliceIndices
  simp only [show (1 : Int) > 0 by decide, if_true, if_neg (show ¬ i < 0 by omega)]
  congr 1
  rcases Nat.le_total i.toNat n with q | q
  · rw [Nat.min_eq_left q, Int.min_eq_left (Int.toNat_le.mp q), Int.max_eq_right h, Int.toNat_of_nonneg h]
  · rw [Nat.min_eq_right q, Int.min_eq_right ((Int.le_toNat h).mp q), Int.max_eq_right (Int.natCast_nonneg n)]
theorem idx_upto (n : Nat) {j : Int} (h : j < 0) : Builtin.Str.strSliceIndices Option.none (some j) 1 n = sliceRange ((0 : Nat) : Int) (((j + n).toNat : Nat) : Int) 1 := by
  unfold Builtin.Str.strSliceIndices
  simp only [show (1 : Int) > 0 by decide, if_true, if_pos h]
  congr 1
  omega
theorem idx_all (n : Nat) : Builtin.Str.strSliceIndices Option.none Option.none 1 n = sliceRange ((0 : Nat) : Int) (n : Int) 1 := by
  unfold Builtin.Str.strSliceIndices
  simp only [show (1 : Int) > 0 by decide, if_true]
  rfl

noncomputable def PR (l : Nat) (X : Addr → Prop) (h : Heap) (v : Value) : Option AV → Prop
  | Option.none => v = .none
  | some a => Rep l X h v a

theorem bigInts_sub {vs : List Value} (hv : ∀ v ∈ vs, ∃ i t, v = Value.int i t) {us : List Value} (h : ∀ u ∈ us, u ∈ vs) : ∀ v ∈ us, ∃ i t, v = Value.int i t := fun u hu => hv u (h u hu)

theorem cut_from {α : Type} (L : List α) (i n : Nat) (h : L.length = n) : (L.drop (min i n)).take (n - min i n) = L.drop i := by
  rcases Nat.le_total i n with q | q
  · rw [Nat.min_eq_left q]
    exact List.take_of_length_le (by rw [List.length_drop]; omega)
  · rw [Nat.min_eq_right q, Nat.sub_self, List.take_zero, List.drop_eq_nil_of_le (by omega)]
theorem pick_mem {items : Array Value} {lo hi st : Option Int} {v : Value} (h : v ∈ (slicePick items lo hi st).toList) : v ∈ items.toList := by
  unfold slicePick at h
  simp only at h
  obtain ⟨k, _, hk⟩ := List.mem_filterMap.mp h
  obtain ⟨hlt, e⟩ := Array.getElem?_eq_some_iff.mp hk
  rw [← e]
  simp

theorem pick_len (vs : List Value) (lo hi st : Option Int) : (slicePick vs.toArray lo hi st).toList.length ≤ vs.length := by
  have := slicePick_size_le vs.toArray lo hi st
  simpa using this

/-- the slice's object -/
abbrev SliceAt (h : Heap) (sl : Addr) (vl vu vst : Value) : Prop := h.get? sl = some { cls := .type "slice", data := .fields #[vl, vu, vst] }

theorem strCut_sound {value slice : Expr} {cs : List Nat} {c : AV} {lo hi : Option AV} {x : Str} {t : Tok} {vl vu : Value} {sl : Addr} (h : strCut cs lo hi = some c) (hx : x.cps.toList = cs.map (· + l))
    (ho : SliceAt s.heap sl vl vu .none) (pl : PR l X s.heap vl lo) (pu : PR l X s.heap vu hi) (hQ : Post l X s c Q) : wpAny (model prog w) A (subscriptTail value slice (.str x t) (.ref sl)) Q E s := by
  have hlen := str_len hx
  unfold strCut at h
  split at h
  · split at h
    · cases h
    · obtain rfl : vu = .none := pu
      split at h
      · split at h
        · rename_i i _ _ h0
          simp only [Bool.and_eq_true, decide_eq_true_eq] at h0
          cases h
          obtain ⟨t', rfl, _⟩ := pl.inv
          refine tail_ (typeIs_str _ _ _) F.slot_str_getitem.lookup (wpAny_getItem_str_slice (l := some (i, t')) (u := Option.none) (st := Option.none) ⟨_, ho, rfl, rfl⟩ rfl
            (cut_post (idx_from _ h0.1) (Nat.le_refl _) (by rw [sizeLine_eq]; omega) fun y t' tk e => hQ _ _ (Keeps.tok ..) (.str ?_)))
          rw [e, cut_from _ _ _ (by simp [Str.length]), hx, List.map_drop]
        · cases h
      · cases h
  · obtain rfl : vl = .none := pl
    split at h
    · split at h
      · split at h
        · rename_i j _ _ h0
          simp only [Bool.and_eq_true, decide_eq_true_eq] at h0
          cases h
          obtain ⟨t', rfl, _⟩ := pu.inv
          refine tail_ (typeIs_str _ _ _) F.slot_str_getitem.lookup (wpAny_getItem_str_slice (l := Option.none) (u := some (j, t')) (st := Option.none) ⟨_, ho, rfl, rfl⟩ rfl
            (cut_post (idx_upto _ h0.1) (by show (j + (x.length : Int)).toNat ≤ x.length; omega) (by rw [sizeLine_eq]; omega) fun y t' tk e => hQ _ _ (Keeps.tok ..) (.str ?_)))
          rw [e, List.drop_zero, Nat.sub_zero, hx, hlen, List.map_take]
        · cases h
      · split at h
        · cases h
          obtain rfl := pu.inv
          refine tail_ (typeIs_str _ _ _) F.slot_str_getitem.lookup (wpAny_getItem_str_slice (l := Option.none) (u := Option.none) (st := Option.none) ⟨_, ho, rfl, rfl⟩ rfl
            (cut_post (idx_all _) (Nat.le_refl _) (by rw [sizeLine_eq]; omega) fun y t' tk e => hQ _ _ (Keeps.tok ..) (.str ?_)))
          rw [e, List.drop_zero, Nat.sub_zero, hx, List.take_of_length_le (by rw [List.length_map]; omega)]
        · cases h
      · cases h
    · cases h

theorem listCut_sound {value slice : Expr} {xs : List AV} {c : AV} {lo hi : Option AV} {va vl vu : Value} {sl : Addr} (h : listCut xs lo hi = some c) (ra : Rep l X s.heap va (.list xs))
    (ho : SliceAt s.heap sl vl vu .none) (pl : PR l X s.heap vl lo) (pu : PR l X s.heap vu hi) (hX : Old X s.heap) (hQ : Post l X s c Q) : wpAny (model prog w) A (subscriptTail value slice va (.ref sl)) Q E s := by
  unfold listCut at h
  split at h
  · cases h
  · obtain rfl : vl = .none := pl
    split at h
    · rename_i j lo' hi' hj
      obtain rfl := asInt_inv hj
      split at h
      · rename_i h0
        simp only [Bool.and_eq_true, decide_eq_true_eq, beq_iff_eq] at h0
        obtain ⟨⟨p0, p1⟩, p2⟩ := h0
        subst p1
        cases h
        obtain ⟨b, vs, rfl, hl, hx, hn, hv⟩ := ra.inv
        obtain ⟨t', rfl, q1, q2⟩ := Rep.inv pu
        have ej := Int.le_antisymm q2 q1
        subst ej
        have ej : j = ((j.toNat : Nat) : Int) := by omega
        refine tail_ hl.typeIs slot_list_getitem.lookup (wpAny_getItem_list_slice (lo := Option.none) (hi := some j) (st := Option.none) hl ⟨_, ho, rfl, rfl⟩ .none (.int _ _) .none (by simp) ?_ (by rw [sizeLine_eq]; simp; omega))
        rw [ej, slicePick_upto']
        have ej' : (((j.toNat : Nat) : Int)).toNat = j.toNat := by omega
        rw [ej'] at *
        refine hQ _ _ (Keeps.push ..) (new_list hX (by simp [hn]) fun i v x e1 e2 => ?_)
        simp only [List.getElem?_take] at e1 e2
        split at e1
        · rename_i hlt
          rw [if_pos hlt] at e2
          exact hv i v x e1 e2
        · cases e1
      · cases h
    · cases h

/-- some of the script's items -/
theorem script_cut {value slice : Expr} {n0 n1 : Nat} {va v1 v2 v3 : Value} {o1 o2 o3 : Option Int} {sl : Addr} (ra : Rep l X s.heap va (.bigInts n0 n1)) (hn : n1 ≤ 1000) (hX : Old X s.heap) (ho : SliceAt s.heap sl v1 v2 v3)
    (p1 : IsPart v1 o1) (p2 : IsPart v2 o2) (p3 : IsPart v3 o3) (hst : o3 ≠ some 0) (hQ : Post l X s (.bigInts 0 n1) Q) : wpAny (model prog w) A (subscriptTail value slice va (.ref sl)) Q E s := by
  obtain ⟨b, vs, rfl, hl, hx, hn0, hn1, hv⟩ := ra.inv
  refine tail_ hl.typeIs slot_list_getitem.lookup (wpAny_getItem_list_slice (lo := o1) (hi := o2) (st := o3) hl ⟨_, ho, rfl, rfl⟩ p1 p2 p3 hst ?_ (by rw [sizeLine_eq]; simp; omega))
  exact hQ _ _ (Keeps.push ..) (.bigInts (vs := (slicePick vs.toArray o1 o2 o3).toList) ⟨_, Heap.get?_push_size _ rfl, rfl, 0, rfl⟩ hX.size (Nat.zero_le _) (Nat.le_trans (pick_len ..) hn1) (bigInts_sub hv fun u hu => by simpa using pick_mem hu))

theorem bigCut_sound {value slice : Expr} {n0 n1 : Nat} {c : AV} {lo hi st : Option AV} {va vl vu vst : Value} {sl : Addr} (h : bigCut n1 lo hi st = some c) (ra : Rep l X s.heap va (.bigInts n0 n1))
    (ho : SliceAt s.heap sl vl vu vst) (pl : PR l X s.heap vl lo) (pu : PR l X s.heap vu hi) (ps : PR l X s.heap vst st) (hX : Old X s.heap) (hQ : Post l X s c Q) : wpAny (model prog w) A (subscriptTail value slice va (.ref sl)) Q E s := by
  unfold bigCut at h
  split at h
  · rename_i hu
    obtain rfl := asInt_inv hu
    obtain ⟨_, rfl, _⟩ := Rep.inv pu
    split at h
    · obtain rfl : vl = .none := pl
      split at h
      · obtain rfl : vst = .none := ps
        split at h
        · rename_i h0
          simp only [Bool.and_eq_true, decide_eq_true_eq, beq_iff_eq] at h0
          cases h
          exact script_cut ra h0.2 hX ho .none (.int _ _) .none (by simp) hQ
        · cases h
      · cases h
    · split at h
      · rename_i hl
        rw [asInt_inv hl] at pl
        obtain ⟨_, rfl, _⟩ := Rep.inv pl
        split at h
        · rename_i hs
          obtain rfl := asInt_inv hs
          obtain ⟨_, rfl, r1, r2⟩ := Rep.inv ps
          split at h
          · rename_i h0
            simp only [Bool.and_eq_true, decide_eq_true_eq, beq_iff_eq] at h0
            obtain ⟨⟨⟨⟨⟨⟨q1, q2⟩, q3⟩, q4⟩, q5⟩, q6⟩, q7⟩ := h0
            cases h
            exact script_cut ra q7 hX ho (.int _ _) (.int _ _) (.int _ _) (by intro e; cases e; omega) hQ
          · cases h
        · cases h
      · cases h
  · cases h

theorem slice_sound {value slice : Expr} {a c : AV} {lo hi st : Option AV} {va vl vu vst : Value} {sl : Addr} (h : sliceV a lo hi st = some c) (ra : Rep l X s.heap va a)
    (ho : s.heap.get? sl = some { cls := .type "slice", data := .fields #[vl, vu, vst] }) (pl : PR l X s.heap vl lo) (pu : PR l X s.heap vu hi) (ps : PR l X s.heap vst st) (hX : Old X s.heap)
    (hQ : Post l X s c Q) : wpAny (model prog w) A (subscriptTail value slice va (.ref sl)) Q E s := by
  unfold sliceV at h
  split at h
  · split at h
    · obtain rfl : vst = .none := ps
      obtain ⟨_, _, rfl, hx⟩ := ra.inv
      exact strCut_sound h hx ho pl pu hQ
    · cases h
  · split at h
    · obtain rfl : vst = .none := ps
      exact listCut_sound h ra ho pl pu hX hQ
    · cases h
  · exact bigCut_sound h ra ho pl pu ps hX hQ
  · cases h
end Mine
end

section
namespace Mine
open PySem PySem.Calls PyProof.Rows

variable {l : Nat} {X : Addr → Prop} {prog : Program} {w : World} {A : Around} {E : Value → Shared → Prop} {s : Shared} {Q : Value → Shared → Prop}

theorem pick_len_count : ∀ (bs : List Bool) (xs : List AV), bs.length = xs.length → ((pick bs xs).length : Int) = countB bs
  | [], [], _ => rfl
  | true :: bs, x :: xs, h => by
    have := pick_len_count bs xs (by simpa using h)
    simp only [pick, List.length_cons, countB, if_true]
    omega
  | false :: bs, x :: xs, h => by
    have := pick_len_count bs xs (by simpa using h)
    simp only [pick, countB, Bool.false_eq_true, if_false]
    omega
theorem countB_le : ∀ bs : List Bool, 0 ≤ countB bs ∧ countB bs ≤ bs.length
  | [] => by simp [countB]
  | b :: bs => by
    have := countB_le bs
    simp only [countB, List.length_cons]
    split <;> omega

theorem lenV_sound {a c : AV} {va : Value} (h : lenV a = some c) (ra : Rep l X s.heap va a) (hQ : Post l X s c Q) : wpAny (model prog w) A (call (.builtin "len") [va]) Q E s := by
  unfold lenV at h
  split at h
  · split at h
    · rename_i hsz
      cases h
      obtain ⟨_, _, rfl, hl, hx, hn, hv⟩ := ra.inv
      refine call_len_list hl (by simp; omega) ?_
      simp only [List.size_toArray, hn]
      exact hQ _ _ (Keeps.tok ..) (.int (Int.le_refl _) (Int.le_refl _))
    · cases h
  · split at h
    · rename_i hsz
      cases h
      obtain ⟨_, _, rfl, hx⟩ := ra.inv
      have hlen := str_len hx
      refine P.len_str (by omega) ?_
      rw [hlen]
      exact hQ _ _ (Keeps.tok ..) (.int (Int.le_refl _) (Int.le_refl _))
    · cases h
  · split at h
    · rename_i bs xs hsz
      cases h
      obtain ⟨a, vs, rfl, hl, hx, hb, hn, hv⟩ := ra.inv
      · have hc := pick_len_count bs xs hb
        have hle := countB_le bs
        refine call_len_list hl (by simp; omega) ?_
        have : ((vs.toArray.size : Nat) : Int) = countB bs := by simp only [List.size_toArray]; omega
        rw [this]
        exact hQ _ _ (Keeps.tok ..) (.int hle.1 hle.2)
    · cases h
  · split at h
    · rename_i n0 n1 hsz
      obtain ⟨a, vs, rfl, hl, hx, h0, h1, hv⟩ := ra.inv
      · refine call_len_list hl (by simp; omega) ?_
        simp only [List.size_toArray]
        split at h
        · rename_i e
          cases h
          have e' : n0 = n1 := by simpa using e
          have : vs.length = n0 := by omega
          rw [this]
          exact hQ _ _ (Keeps.tok ..) (.int (Int.le_refl _) (Int.le_refl _))
        · cases h
          exact hQ _ _ (Keeps.tok ..) (.anyInt (by omega) (by omega))
    · cases h
  · cases h

theorem sum_ints (hh : A.handled = none) {a : Addr} {vs : List Value} {ns : List Int} (hl : s.heap.IsList a vs.toArray) (hi : IntsAre vs ns) (hQ : ∀ t s', Keeps s s' → Q (.int ns.sum t) s') :
    wpAny (model prog w) A (call (.builtin "sum") [.ref a]) Q E s := by
  have hlt : a < s.heap.objs.size := by obtain ⟨o, ho, _⟩ := hl; exact Heap.lt_size ho
  refine call_sum_walkG (wpAny_pyIter_list hl ⟨s.heap.objs.size, [s.heap.objs.size, a], [s.heap.objs.size], vs.toArray.size, _, _, fun i => ns.getD i 0, rfl, Walks.list (A := A.in1) hh s.heap.objs.size a (Nat.ne_of_lt hlt) vs.toArray, ⟨⟨_, Heap.get?_push_size _ rfl, rfl, rfl⟩, hl.push _⟩, ?_, ?_, ?_⟩)
  · intro b hb
    simp only [List.mem_cons, List.not_mem_nil, or_false] at hb
    rw [Heap.size_push]
    rcases hb with rfl | rfl
    · exact Nat.lt_succ_self _
    · exact Nat.lt_succ_of_lt hlt
  · intro i v hv
    have hv' : vs[i]? = some v := by simpa using hv
    clear hl hlt hv hQ
    induction hi generalizing i with
    | nil => simp at hv'
    | cons n t r ih =>
      cases i with
      | zero => simp at hv'; exact ⟨t, by simp [hv'.symm]⟩
      | succ i => simpa using ih i (by simpa using hv')
  · intro h' tk t' hk
    rw [preSum_getD, List.take_of_length_le (by simp [hi.length])]
    exact hQ _ _ ⟨h', tk, rfl, fun b o e => hk b o (by intro hb; simp at hb; subst hb; exact Nat.lt_irrefl _ (Heap.lt_size e)) (Heap.get?_push_of_some _ e)⟩

theorem sumV_ints {h : Heap} : ∀ {xs : List AV} {vs : List Value} {i lo hi : Int}, sumV xs = some (i, lo, hi) → vs.length = xs.length →
    (∀ (k : Nat) (v : Value) (x : AV), vs[k]? = some v → xs[k]? = some x → Rep l X h v x) → ∃ ns, IntsAre vs ns ∧ ns.sum = i ∧ lo ≤ i ∧ i ≤ hi
  | [], vs, i, lo, hi, e, hn, hv => by
    cases e
    have := List.length_eq_zero_iff.mp hn
    subst this
    exact ⟨[], .nil, rfl, Int.le_refl _, Int.le_refl _⟩
  | x :: xs, [], _, _, _, _, hn, _ => by simp at hn
  | x :: xs, v :: vs, i, lo, hi, e, hn, hv => by
    cases x with
    | int k kl kh =>
      unfold sumV at e
      split at e
      · rename_i t tl th e'
        cases e
        obtain ⟨ns, h1, h2, h3, h4⟩ := sumV_ints e' (by simpa using hn) fun k v x e1 e2 => hv (k + 1) v x (by simpa using e1) (by simpa using e2)
        obtain ⟨_, rfl, _, _⟩ := (hv 0 v _ rfl rfl).inv
        exact ⟨_ :: ns, .cons _ _ h1, by rw [List.sum_cons, h2], by omega, by omega⟩
      · cases e
    | _ => simp [sumV] at e

theorem sum_bound {ns : List Int} {lo hi : Int} (h : ∀ n ∈ ns, lo ≤ n ∧ n ≤ hi) {k : Nat} (hk : ns.length ≤ k) : min lo 0 * k ≤ ns.sum ∧ ns.sum ≤ max hi 0 * k := by
  induction ns generalizing k with
  | nil =>
    have h1 : min lo 0 * (k : Int) ≤ 0 := Int.mul_nonpos_of_nonpos_of_nonneg (by omega) (by omega)
    have h2 : 0 ≤ max hi 0 * (k : Int) := Int.mul_nonneg (by omega) (by omega)
    exact ⟨h1, h2⟩
  | cons n ns ih =>
    cases k with
    | zero => simp at hk
    | succ k =>
      obtain ⟨h1, h2⟩ := ih (fun m hm => h m (List.mem_cons_of_mem _ hm)) (k := k) (by simpa using hk)
      obtain ⟨h3, h4⟩ := h n List.mem_cons_self
      rw [List.sum_cons]
      have e1 : min lo 0 * ((k + 1 : Nat) : Int) = min lo 0 * (k : Int) + min lo 0 := by rw [Int.natCast_add, Int.mul_add]; simp
      have e2 : max hi 0 * ((k + 1 : Nat) : Int) = max hi 0 * (k : Int) + max hi 0 := by rw [Int.natCast_add, Int.mul_add]; simp
      omega
theorem any_ints {lo hi : Int} : ∀ {vs : List Value}, (∀ v ∈ vs, ∃ i t, v = Value.int i t ∧ lo ≤ i ∧ i ≤ hi) → ∃ ns, IntsAre vs ns ∧ ∀ n ∈ ns, lo ≤ n ∧ n ≤ hi
  | [], _ => ⟨[], .nil, fun _ h => nomatch h⟩
  | v :: vs, h => by
    obtain ⟨i, t, rfl, h1, h2⟩ := h v List.mem_cons_self
    obtain ⟨ns, h3, h4⟩ := any_ints fun v hv => h v (List.mem_cons_of_mem _ hv)
    exact ⟨i :: ns, .cons i t h3, fun n hn => by
      rcases List.mem_cons.mp hn with rfl | hn
      · exact ⟨h1, h2⟩
      · exact h4 n hn⟩

theorem sumAV_sound {a c : AV} {va : Value} (hh : A.handled = none) (h : sumAV a = some c) (ra : Rep l X s.heap va a) (hQ : Post l X s c Q) : wpAny (model prog w) A (call (.builtin "sum") [va]) Q E s := by
  unfold sumAV at h
  split at h
  · split at h
    · rename_i i lo hi e
      cases h
      obtain ⟨_, _, rfl, hl, hx, hn, hv⟩ := ra.inv
      · obtain ⟨ns, h1, h2, h3, h4⟩ := sumV_ints e hn hv
        refine sum_ints hh hl h1 fun t s' k => ?_
        rw [h2]
        exact hQ _ _ k (.int h3 h4)
    · cases h
  · cases h
    obtain ⟨_, _, rfl, hl, hx, h0, h1, hv⟩ := ra.inv
    · obtain ⟨ns, h2, h3⟩ := any_ints hv
      have hb := sum_bound h3 (k := _) (by rw [← h2.length]; exact h1)
      exact sum_ints hh hl h2 fun t s' k => hQ _ _ k (.anyInt hb.1 hb.2)
  · cases h

theorem chrV_sound {l0 : Bool} (hl0 : l0 = true → l = 0) {a c : AV} {va : Value} (h : chrV l0 a = some c) (ra : Rep l X s.heap va a) (hQ : Post l X s c Q) : wpAny (model prog w) A (call (.builtin "chr") [va]) Q E s := by
  unfold chrV at h
  split at h
  · split at h
    · rename_i hb
      simp only [Bool.and_eq_true, decide_eq_true_eq] at hb
      cases h
      obtain ⟨_, rfl, h1, h2⟩ := ra.inv
      have := hl0 hb.1.1
      subst this
      exact chr_of_range (by omega) (by omega) (hQ _ _ (Keeps.tok ..) (.str (by simp)))
    · cases h
  · cases h

theorem minV_sound {a b c : AV} {va vb : Value} (hh : A.handled = none) (h : minV a b = some c) (ra : Rep l X s.heap va a) (rb : Rep l X s.heap vb b) (hQ : Post l X s c Q) :
    wpAny (model prog w) A (call (.builtin "min") [va, vb]) Q E s := by
  unfold minV at h
  split at h
  · cases h
    obtain ⟨_, rfl, _, _⟩ := ra.inv
    obtain ⟨_, rfl, _, _⟩ := rb.inv
    refine min_two_ints hh fun h' tk hk => ?_
    refine hQ _ _ ⟨h', tk, rfl, hk⟩ ?_
    split
    · exact .int (by omega) (by omega)
    · exact .int (by omega) (by omega)
  · split at h
    · rename_i j _ _ hb
      simp only [Bool.and_eq_true, decide_eq_true_eq, beq_iff_eq] at hb
      cases h
      obtain ⟨i, t, rfl, h1, h2⟩ := ra.inv
      · obtain ⟨u, rfl, h3, h4⟩ := rb.inv
        · refine min_two_ints hh fun h' tk hk => ?_
          refine hQ _ _ ⟨h', tk, rfl, hk⟩ ?_
          split
          · exact .int h3 h4
          · have e : i = j := by omega
            subst e
            exact .int h3 h4
    · cases h
  · cases h
end Mine
end

section
namespace Mine
open PySem PySem.Calls PyProof.Rows

variable {l : Nat} {X : Addr → Prop} {prog : Program} {w : World} {A : Around} {E : Value → Shared → Prop} {s : Shared} {Q : Value → Shared → Prop}

theorem kind_fsum : builtinKind "math.fsum" = Option.none := by decide +kernel
theorem plain_fsum : plainId "math.fsum" = true := by decide +kernel
theorem entry_fsum : entryFor table "math.fsum" = some Builtin.«math.fsum» := entryFor_of_fast (by kernel_rfl)
theorem args_fsum (a : Value) : argsOk "math.fsum" ⟨[a], []⟩ := by unfold argsOk; kernel_rfl
theorem plain_fsum_loop : plainId "math.fsum.loop" = true := by decide +kernel
theorem entry_fsum_loop : entryFor table "math.fsum.loop" = some Builtin.«math.fsum.loop» := entryFor_of_fast (by kernel_rfl)

theorem back (x : UInt64) : ((x.toNat : Int)).toNat.toUInt64 = x := by simp
noncomputable def packed (xs : List UInt64) : List Value := xs.map fun x => rawInt x.toNat
noncomputable def unpackF : Value → UInt64 := fun | .int i _ => i.toNat.toUInt64 | _ => 0
theorem unpack_packed (xs : List UInt64) : (packed xs).map unpackF = xs := by
  unfold packed
  rw [List.map_map]
  conv => rhs; rw [← List.map_id xs]
  apply List.map_congr_left
  intro x _
  exact back x

theorem over_not {n : Int} (h : n.natAbs ≤ 1000000) : ¬ PySem.Flt.Over n := by
  intro q
  unfold PySem.Flt.Over at q
  have h2 : 1000000 < 2 ^ 1024 - 2 ^ 970 := by decide +kernel
  exact absurd (Nat.le_trans q h) (Nat.not_le.mpr h2)

theorem preSum_le {val : Nat → Int} {n : Nat} (hnn : ∀ i, i < n → 0 ≤ val i) : ∀ j k, j ≤ k → k ≤ n → 0 ≤ preSum val j ∧ preSum val j ≤ preSum val k := by
  have h0 : ∀ j, j ≤ n → 0 ≤ preSum val j := by
    intro j
    induction j with
    | zero => intro _; exact Int.le_refl _
    | succ j ih =>
      intro hj
      have := ih (by omega)
      have := hnn j (by omega)
      show 0 ≤ preSum val j + val j
      omega
  intro j k hjk hk
  refine ⟨h0 j (by omega), ?_⟩
  induction k with
  | zero => have : j = 0 := by omega
            subst this; exact Int.le_refl _
  | succ k ih =>
    rcases Nat.lt_or_ge j (k + 1) with q | q
    · have := ih (by omega) (by omega)
      have := hnn k (by omega)
      show preSum val j ≤ preSum val k + val k
      omega
    · have : j = k + 1 := by omega
      subst this; exact Int.le_refl _

theorem fsum_loop {R : Result → Shared → Prop} {I ax : Addr} (hne : ax ≠ I) {items : Array Value} (hh : A.handled = Option.none)
    (val : Nat → Int) (hval : ∀ (i : Nat) v, items[i]? = some v → ∃ t, v = .int (val i) t) (hnn : ∀ i, i < items.size → 0 ≤ val i) (hb : preSum val items.size ≤ 1000000) (S : Addr) (hSf : S ≠ I) :
    ∀ (k i : Nat) (s : Shared) (T : Addr), items.size - i = k → i ≤ items.size → (s.heap.IsListIter I ax i ∧ s.heap.IsList ax items) → T ≠ I →
    s.heap.get? T = some { cls := .type "tuple", data := .seq (packed (part (preSum val i))).toArray } → s.heap.get? S = some { cls := .type "tuple", data := .seq (packed [Float64.zero false, Float64.zero false]).toArray } →
    (∀ h' tk t', (∀ b o, b ≠ I → s.heap.get? b = some o → h'.get? b = some o) → R (.ok (.ret (.float (Float64.ofInt (preSum val items.size)) t'))) { s with heap := h', toks := tk }) →
    codeAny (model prog w) A (.builtin "math.fsum.loop" ⟨[.ref I, .ref T, .ref S], []⟩) R s := by
  have W := Walks.list (prog := prog) (w := w) (A := A.in1) hh I ax hne items
  intro k
  induction k with
  | zero =>
    intro i s T hk hi hst hTw hT hS hR
    have hin : i = items.size := by omega
    subst hin
    refine codeAny_builtin entry_fsum_loop ?_
    rw [Around.under_plainId plain_fsum_loop _]
    unfold Builtin.«math.fsum.loop»
    refine wpAny_bind (wpAny_bind (wpAny_seqItems hT rfl (wpAny_pure ?_)))
    refine wpAny_bind (wpAny_bind (wpAny_seqItems hS rfl (wpAny_pure ?_)))
    split
    · rename_i special infs heq
      have heq' : [Float64.zero false, Float64.zero false] = [special, infs] := (unpack_packed _).symm.trans heq
      cases heq'
      refine wpAny_bind (W.done s _ _ hst fun h' tk hk' => ?_)
      have hz : (!Float64.isZero (Float64.zero false)) = false := by decide +kernel
      simp only [hz, Bool.false_eq_true, if_false]
      have e : Float64.fsumEnd ((packed (part (preSum val items.size))).map unpackF) = Float64.ofInt (preSum val items.size) := by rw [unpack_packed]; exact fsumEnd_part _
      have q := hR h' (tk + 1) tk fun b o hb x => hk' b o (by simpa using hb) x
      rw [← e] at q
      exact wpAny_bind (m := mkFloat _) (fun Γ p _ => wpAny_pure q)
    · rename_i hno
      exact absurd (unpack_packed [Float64.zero false, Float64.zero false]) (hno _ _)
  | succ k ih =>
    intro i s T hk hi hst hTw hT hS hR
    have hlt : i < items.size := by omega
    refine codeAny_builtin entry_fsum_loop ?_
    rw [Around.under_plainId plain_fsum_loop _]
    unfold Builtin.«math.fsum.loop»
    refine wpAny_bind (wpAny_bind (wpAny_seqItems hT rfl (wpAny_pure ?_)))
    refine wpAny_bind (wpAny_bind (wpAny_seqItems hS rfl (wpAny_pure ?_)))
    split
    · rename_i special infs heq
      have heq' : [Float64.zero false, Float64.zero false] = [special, infs] := (unpack_packed _).symm.trans heq
      cases heq'
      refine wpAny_bind (W.item i s _ _ hlt hst fun v h' tk hP hst' hk' => ?_)
      obtain ⟨t, rfl⟩ := hval i v hP
      have b1 := (preSum_le hnn (i + 1) items.size (by omega) (Nat.le_refl _))
      have b0 := (preSum_le hnn i (i + 1) (by omega) (by omega))
      have bv := hnn i hlt
      have es : preSum val (i + 1) = preSum val i + val i := rfl
      refine wpAny_bind (wpAny_holding (PySem.Flt.realArg_int hh (fun q => absurd q (over_not (by omega))) fun _ => ?_))
      have e : Float64.fsumAdd ((packed (part (preSum val i))).map unpackF) (Float64.ofInt (val i)) = ([], Float64.ofInt (preSum val (i + 1))) := by
        rw [unpack_packed, fsumAdd_ofInt b0.1 bv (by omega), es]
      split
      rename_i low top hlt'
      have e2 : ([], Float64.ofInt (preSum val (i + 1))) = (low, top) := e.symm.trans hlt'
      cases e2
      rw [if_pos (ofInt_finite (small_of (by omega)))]
      have e3 := fsum_next b0.1 bv (by omega)
      rw [← es] at e3
      rw [e3]
      refine wpAny_bind (m := newTuple _) (wpAny_newObj_type ?_ ?_)
      · refine wpAny_pure ⟨plainId_quiet plain_fsum_loop _, ih (i + 1) _ _ (by omega) hlt (W.frame _ _ _ hst' fun b _ o e => Heap.get?_push_of_some _ e) ?_ (Heap.get?_push_size _ rfl) (Heap.get?_push_of_some _ (hk' S _ (by simpa using hSf) hS)) fun h'' tk'' t'' hk'' => ?_⟩
        · obtain ⟨⟨o, ho, _⟩, _⟩ := hst'
          exact (Nat.ne_of_lt (Heap.lt_size ho)).symm
        · exact hR h'' tk'' t'' fun b o hb x => hk'' b o hb (Heap.get?_push_of_some _ (hk' b o (by simpa using hb) x))
      · show (packed (part (preSum val (i + 1)))).toArray.size ≤ sizeLine
        rw [sizeLine_eq]
        unfold packed part
        split <;> simp
    · rename_i hno
      exact absurd (unpack_packed [Float64.zero false, Float64.zero false]) (hno _ _)

theorem fsum_ints (hh : A.handled = Option.none) {a : Addr} {vs : List Value} {ns : List Int} (hl : s.heap.IsList a vs.toArray) (hi : IntsAre vs ns) (hnn : ∀ n ∈ ns, 0 ≤ n) (hb : ns.sum ≤ 1000000)
    (hQ : ∀ t s', Keeps s s' → Q (.float (Float64.ofInt ns.sum) t) s') : wpAny (model prog w) A (call (.builtin "math.fsum") [.ref a]) Q E s := by
  have hlt : a < s.heap.objs.size := by obtain ⟨o, ho, _⟩ := hl; exact Heap.lt_size ho
  have hsum : preSum (fun i => ns.getD i 0) vs.toArray.size = ns.sum := by rw [preSum_getD, List.take_of_length_le (by simp [hi.length])]
  refine call_function_tree kind_fsum plain_fsum entry_fsum (args_fsum _) ?_
  unfold Builtin.«math.fsum»
  refine wpAny_bind (m := Builtin.Math.mathOne "fsum" _) (wpAny_pure ?_)
  refine wpAny_bind (wpAny_pyIter_list hl ?_)
  refine wpAny_bind (m := newTuple _) (wpAny_newObj_type ?_ (by show 0 ≤ _; exact Nat.zero_le _))
  refine wpAny_bind (m := newTuple _) (wpAny_newObj_type ?_ (by show 2 ≤ _; rw [sizeLine_eq]; decide))
  refine wpAny_pure ⟨plainId_quiet plain_fsum_loop _, ?_⟩
  have k1 : ∀ b o, s.heap.get? b = some o → ((s.heap.push { cls := .type "list_iterator", data := .fields #[.ref a, .int 0 0] }).push { cls := .type "tuple", data := .seq ([] : List Value).toArray }).get? b = some o :=
    fun b o e => Heap.get?_push_of_some _ (Heap.get?_push_of_some _ e)
  refine fsum_loop (I := s.heap.objs.size) (ax := a) (Nat.ne_of_lt hlt) (items := vs.toArray) hh (fun i => ns.getD i 0) ?_ ?_ (by rw [hsum]; exact hb) _ ?_ vs.toArray.size 0 _ _ rfl (Nat.zero_le _) ⟨?_, ?_⟩ ?_ ?_ ?_ ?_
  · intro i v hv
    have hv' : vs[i]? = some v := by simpa using hv
    clear hl hlt hv hQ hsum hb hnn k1
    induction hi generalizing i with
    | nil => simp at hv'
    | cons n t r ih =>
      cases i with
      | zero => simp at hv'; exact ⟨t, by simp [hv'.symm]⟩
      | succ i => simpa using ih i (by simpa using hv')
  · intro i hi'
    show 0 ≤ ns.getD i 0
    rw [List.getD_eq_getElem?_getD]
    cases e : ns[i]? with
    | none => simp
    | some n => exact hnn n (List.mem_of_getElem? e)
  · simp only [Heap.size_push]; exact Nat.ne_of_gt (Nat.lt_succ_of_lt (Nat.lt_succ_self _))
  · exact ⟨_, Heap.get?_push_of_some _ (Heap.get?_push_of_some _ (Heap.get?_push_size _ rfl)), rfl, rfl⟩
  · exact ((hl.push _).push _).push _
  · simp only [Heap.size_push]; exact Nat.ne_of_gt (Nat.lt_succ_self _)
  · exact Heap.get?_push_of_some _ (Heap.get?_push_size _ rfl)
  · exact Heap.get?_push_size _ rfl
  · intro h' tk t' hk
    rw [hsum]
    exact hQ _ _ ⟨h', tk, rfl, fun b o e => hk b o (Nat.ne_of_lt (Heap.lt_size e)) (Heap.get?_push_of_some _ (k1 b o e))⟩

theorem fsumV_sound {xs : List AV} {c : AV} {va : Value} (hh : A.handled = Option.none) (h : fsumV xs = some c) (ra : Rep l X s.heap va (.list xs)) (hQ : Post l X s c Q) : wpAny (model prog w) A (call (.builtin "math.fsum") [va]) Q E s := by
  unfold fsumV at h
  split at h
  · rename_i i lo hi e
    split at h
    · rename_i hb
      simp only [Bool.and_eq_true, decide_eq_true_eq] at hb
      cases h
      obtain ⟨a, vs, rfl, hl, hx, hn, hv⟩ := ra.inv
      · obtain ⟨ns, h1, h2, h3, h4⟩ := sumV_ints e hn hv
        have hnn : ∀ n ∈ ns, 0 ≤ n := by
          have hb1 := hb.1
          clear e hb hl h2 h3 h4 hQ ra
          induction h1 generalizing xs with
          | nil => intro n hn'; cases hn'
          | cons n t r ih =>
            cases xs with
            | nil => simp at hn
            | cons x xs =>
              have r0 := hv 0 _ x rfl rfl
              cases x with
              | int k kl kh =>
                unfold fsumV.nneg at hb1
                simp only [Bool.and_eq_true, decide_eq_true_eq] at hb1
                cases r0
                intro m hm
                rcases List.mem_cons.mp hm with rfl | hm
                · omega
                · exact ih (xs := xs) (by simpa using hn) (fun k v x e1 e2 => hv (k + 1) v x (by simpa using e1) (by simpa using e2)) hb1.2 m hm
              | _ => simp [fsumV.nneg] at hb1
        refine fsum_ints hh hl h1 hnn (by omega) fun t s' k => ?_
        rw [h2]
        exact hQ _ _ k (.fx h3 h4)
    · cases h
  · cases h
end Mine
end

section
namespace Mine
open PySem PySem.Calls PyProof.Rows

/-- what the global names mean, and the objects behind them -/
structure Gv where
  v : Str → Option Value
  ob : Addr → Obj → Prop
  mn : Str → Option Value

variable {l : Nat} {X : Addr → Prop} {own : Option Str} {gv : Gv} {prog : Program} {w : World} {A : Around} {E : Value → Shared → Prop} {s : Shared} {Q : Value → Shared → Prop} {env : Env} {sc : Sc} {ρ : Ro}

/-- the name is bound so in this frame -/
noncomputable def Has (env : Env) (h : Heap) (x : Str) (v : Value) : Prop :=
  (x == ("__debug__" : Str)) = false ∧ ((env.kindOf x = some .local ∧ ∃ m, h.Ns env.locals m ∧ m x = some v) ∨
    (env.kindOf x = some .cell ∧ ∃ c, env.cells.lookup x = some c ∧ h.IsCell c (some v)) ∨
    (env.kindOf x = some .free ∧ (x == ("__classdict__" : Str)) = false ∧ ∃ c, env.cells.lookup x = some c ∧ h.IsCell c (some v)))
theorem Has.keeps {h h' : Heap} {x : Str} {v : Value} (H : Has env h x v) (k : ∀ b o, h.get? b = some o → h'.get? b = some o) : Has env h' x v := by
  obtain ⟨h0, ⟨h1, m, h2, h3⟩ | ⟨h1, c, h2, h3⟩ | ⟨h1, h4, c, h2, h3⟩⟩ := H
  · exact ⟨h0, .inl ⟨h1, m, h2.keeps k, h3⟩⟩
  · exact ⟨h0, .inr (.inl ⟨h1, c, h2, h3.keeps k⟩)⟩
  · exact ⟨h0, .inr (.inr ⟨h1, h4, c, h2, h3.keeps k⟩)⟩

structure EnvOk (sc : Sc) (env : Env) : Prop where
  kind : env.scope.kind = .function
  glob : env.globals = mainGlobals
  blt : env.builtins = builtinsNs
  names : ∀ x k, (k = .local ∨ k = .cell ∨ k = .globalImplicit) → sc.lookup x = some k → env.kindOf x = some k

structure Cx (n : Nat) (A : Around) : Prop where
  handled : A.handled = Option.none
  depth : A.depth + n ≤ 900
  units : A.units + 3 * n ≤ 9000
theorem Cx.less {n m : Nat} (h : Cx n A) (hm : m ≤ n) : Cx m A := ⟨h.handled, by have := h.depth; omega, by have := h.units; omega⟩
theorem Cx.deeper {n : Nat} (h : Cx (n + 1) A) (env : Env) : Cx n (A.deeper env) := ⟨h.handled, by rw [depth_deeper]; have := h.depth; omega, by rw [units_deeper]; have := h.units; omega⟩

/-- what the global names mean -/
noncomputable def Gd (gv : Gv) (h : Heap) : Prop :=
  h.NoLimit ∧ (∀ a o, gv.ob a o → h.get? a = some o) ∧ ∃ mg mb, h.Ns mainGlobals mg ∧ h.Ns builtinsNs mb ∧ (∀ x v, gv.v x = some v → mg x = some v ∨ (mg x = Option.none ∧ mb x = some v)) ∧ ∀ x v, gv.mn x = some v → mg x = some v
theorem Gd.keeps {h h' : Heap} (g : Gd gv h) (k : ∀ b o, h.get? b = some o → h'.get? b = some o) : Gd gv h' := by
  obtain ⟨h0, ho, mg, mb, h1, h2, h3⟩ := g
  exact ⟨h0.keeps k, fun a o e => k _ _ (ho a o e), mg, mb, h1.keeps k, h2.keeps k, h3⟩

/-- the frame's names bear what is told of them; the owned one is a plain list of its own -/
structure Loc (l : Nat) (X : Addr → Prop) (own : Option Str) (env : Env) (h : Heap) (ρ : Ro) : Prop where
  var : ∀ x av, ρ.lookup x = some av → own ≠ some x → ∃ v, Has env h x v ∧ Rep l X h v av
  own : ∀ x av, ρ.lookup x = some av → own = some x → ∃ a vs xs, av = .list xs ∧ Has env h x (.ref a) ∧ X a ∧ h.PlainList a (List.toArray vs) ∧ vs.length = xs.length ∧
    ∀ (i : Nat) (v : Value) (y : AV), vs[i]? = some v → xs[i]? = some y → Rep l X h v y
theorem Loc.keeps {h h' : Heap} (L : Loc l X own env h ρ) (k : ∀ b o, h.get? b = some o → h'.get? b = some o) : Loc l X own env h' ρ where
  var := fun x av e ho => let ⟨v, h1, h2⟩ := L.var x av e ho; ⟨v, h1.keeps k, h2.keeps k⟩
  own := fun x av e ho => let ⟨a, vs, xs, h1, h2, h3, h4, h5, h6⟩ := L.own x av e ho; ⟨a, vs, xs, h1, h2.keeps k, h3, h4.at fun o e => k _ o e, h5, fun i v y e1 e2 => (h6 i v y e1 e2).keeps k⟩

theorem loadName_has {x : Str} {v : Value} (hk : env.scope.kind = .function) (H : Has env s.heap x v) (h : Q v s) : wpAny (model prog w) A (loadName env x) Q E s := by
  obtain ⟨h0, ⟨h1, m, h2, h3⟩ | ⟨h1, c, h2, h3⟩ | ⟨h1, h4, c, h2, h3⟩⟩ := H
  · exact wpAny_loadName_local hk h1 h2 h3 h
  · exact wpAny_loadName_cell hk h1 h2 h3 h
  · exact wpAny_loadName_free hk h1 h2 h3 h h4
theorem name_has {x : Str} {p : Pos} {v : Value} (hk : env.scope.kind = .function) (H : Has env s.heap x v) (h : Q v s) : wpAny (model prog w) A (eval (.Name x p) env) Q E s :=
  wpAny_Name (loadName_has hk H h) H.1

theorem glb_iff {x : Str} (h : glb sc x = true) : sc.lookup x = some .globalImplicit ∧ (x == ("__debug__" : Str)) = false := by
  unfold glb at h
  split at h
  · rename_i e
    exact ⟨e, by simpa using h⟩
  · cases h
theorem name_glob {x : Str} {p : Pos} {v : Value} (hE : EnvOk sc env) (hg : glb sc x = true) (G : Gd gv s.heap) (hv : gv.v x = some v) (h : Q v s) : wpAny (model prog w) A (eval (.Name x p) env) Q E s := by
  obtain ⟨h1, h2⟩ := glb_iff hg
  obtain ⟨_, _, mg, mb, g1, g2, g3⟩ := G
  have hx := hE.names x _ (.inr (.inr rfl)) h1
  rcases g3.1 x v hv with q | ⟨q, q'⟩
  · exact Name_function_global hE.kind hx (loadGlobal_global (by rw [hE.glob]; exact g1) q h) h2
  · exact Name_function_global hE.kind hx (loadGlobal_builtin (by rw [hE.glob]; exact g1) q (by rw [hE.blt]; exact g2) q' h) h2

/-- what a sound reader of expressions is -/
structure RecOk (prog : Program) (w : World) (l : Nat) (own : Option Str) (gv : Gv) (d : Nat) (rec : Rec) : Prop where
  star : ∀ t sc ρ v p, rec t sc ρ (.Starred v p) = Option.none
  val : ∀ sc ρ e av, rec false sc ρ e = some av → ∀ X env A s, EnvOk sc env → Cx d A → Gd gv s.heap → Loc l X own env s.heap ρ → Old X s.heap →
    ∀ Q E, Post l X s av Q → wpAny (model prog w) A (eval e env) Q E s
  test : ∀ sc ρ e av, rec true sc ρ e = some av → ∃ b, av = .bool b ∧ ∀ X env A s, EnvOk sc env → Cx d A → Gd gv s.heap → Loc l X own env s.heap ρ → Old X s.heap →
    ∀ (Q : Bool → Shared → Prop) E, (∀ s', Keeps s s' → Q b s') → wpAny (model prog w) A (isTrue e env (eval e env)) Q E s

noncomputable def RepL (l : Nat) (X : Addr → Prop) (h : Heap) (vs : List Value) (as : List AV) : Prop := vs.length = as.length ∧ ∀ (i : Nat) (v : Value) (x : AV), vs[i]? = some v → as[i]? = some x → Rep l X h v x
theorem RepL.nil {h : Heap} : RepL l X h [] [] := ⟨rfl, fun i v x e _ => by simp at e⟩
theorem RepL.cons {h : Heap} {v : Value} {a : AV} {vs : List Value} {as : List AV} (r : Rep l X h v a) (rs : RepL l X h vs as) : RepL l X h (v :: vs) (a :: as) :=
  ⟨by simp [rs.1], fun i u x e1 e2 => by
    cases i with
    | zero => simp at e1 e2; subst e1 e2; exact r
    | succ i => exact rs.2 i u x (by simpa using e1) (by simpa using e2)⟩
theorem RepL.keeps {h h' : Heap} {vs : List Value} {as : List AV} (r : RepL l X h vs as) (k : ∀ b o, h.get? b = some o → h'.get? b = some o) : RepL l X h' vs as := ⟨r.1, fun i v x e1 e2 => (r.2 i v x e1 e2).keeps k⟩
theorem len_nil {α : Type} {vs : List α} (h : vs.length = 0) : vs = [] := List.length_eq_zero_iff.mp h
theorem len_cons {α : Type} {vs : List α} {n : Nat} (h : vs.length = n + 1) : ∃ v r, vs = v :: r ∧ r.length = n := by
  cases vs with
  | nil => cases h
  | cons v r => exact ⟨v, r, rfl, Nat.succ.inj h⟩
theorem RepL.tail {h : Heap} {v : Value} {vs : List Value} {a : AV} {as : List AV} (r : RepL l X h (v :: vs) (a :: as)) : RepL l X h vs as :=
  ⟨Nat.succ.inj r.1, fun i v x e1 e2 => r.2 (i + 1) v x e1 e2⟩
theorem RepL.uncons {h : Heap} {vs : List Value} {a : AV} {as : List AV} (r : RepL l X h vs (a :: as)) : ∃ v us, vs = v :: us ∧ Rep l X h v a ∧ RepL l X h us as := by
  obtain ⟨v, us, rfl, _⟩ := len_cons r.1
  exact ⟨v, us, rfl, r.2 0 v a rfl rfl, r.tail⟩
theorem RepL.inv1 {h : Heap} {vs : List Value} {a : AV} (r : RepL l X h vs [a]) : ∃ v, vs = [v] ∧ Rep l X h v a := by
  obtain ⟨v, us, rfl, r1, r⟩ := r.uncons
  obtain rfl := len_nil r.1
  exact ⟨v, rfl, r1⟩
theorem RepL.inv2 {h : Heap} {vs : List Value} {a b : AV} (r : RepL l X h vs [a, b]) : ∃ v u, vs = [v, u] ∧ Rep l X h v a ∧ Rep l X h u b := by
  obtain ⟨v, us, rfl, r1, r⟩ := r.uncons
  obtain ⟨u, rfl, r2⟩ := r.inv1
  exact ⟨v, u, rfl, r1, r2⟩
theorem RepL.inv3 {h : Heap} {vs : List Value} {a b c : AV} (r : RepL l X h vs [a, b, c]) : ∃ v u t, vs = [v, u, t] ∧ Rep l X h v a ∧ Rep l X h u b ∧ Rep l X h t c := by
  obtain ⟨v, us, rfl, r1, r⟩ := r.uncons
  obtain ⟨u, t, rfl, r2, r3⟩ := r.inv2
  exact ⟨v, u, t, rfl, r1, r2, r3⟩

theorem starEach_plain {e : Expr} {r : List Expr} (h : ∀ v p, e ≠ .Starred v p) : starEach (e :: r) env = (false, eval e env) :: starEach r env := by
  cases e <;> first | rfl | exact absurd rfl (h _ _)

section
variable {d : Nat} {rec : Rec} (R : RecOk prog w l own gv d rec) (hE : EnvOk sc env) (hC : Cx d A)
include R hE hC

theorem evL_sound : ∀ {args : List Expr} {as : List AV}, evL rec sc ρ args = some as → ∀ {s : Shared}, Gd gv s.heap → Loc l X own env s.heap ρ → Old X s.heap →
    ∀ {pos : Pos} {Q : List Value → Shared → Prop} {E}, (∀ vs s', Keeps s s' → RepL l X s'.heap vs as → Q vs s') → wpAny (model prog w) A (spliced (backTo pos (starEach args env))) Q E s
  | [], as, h, s, _, _, _, pos, Q, E, hQ => by
    cases h
    exact spliced_nil (hQ [] s (Keeps.refl s) .nil)
  | e :: r, as, h, s, G, L, O, pos, Q, E, hQ => by
    unfold evL at h
    split at h
    · rename_i a t ha ht
      cases h
      rw [starEach_plain fun v p q => by subst q; rw [R.star] at ha; cases ha]
      refine spliced_cons (R.val _ _ _ _ ha _ _ _ _ hE hC G L O _ _ fun v s' k rv => ?_)
      refine evL_sound ht (G.keeps (Keeps.keep k)) (L.keeps (Keeps.keep k)) (O.keeps (Keeps.keep k)) fun vs s'' k' rvs => ?_
      exact hQ _ _ (Keeps.trans k k') (.cons (rv.keeps (Keeps.keep k')) rvs)
    · cases h
end

theorem evL_any (args : List Expr) (h : ∀ v p, Expr.Starred v p ∉ args) (pos : Pos) : (backTo pos (starEach args env)).any (·.1) = false := by
  induction args with
  | nil => rfl
  | cons e r ih =>
    rw [starEach_plain fun v p q => h v p (by rw [q]; exact List.mem_cons_self)]
    show (false || (backTo pos (starEach r env)).any (·.1)) = false
    rw [ih fun v p hm => h v p (List.mem_cons_of_mem _ hm)]
    rfl
theorem evL_nostar {d : Nat} {rec : Rec} (R : RecOk prog w l own gv d rec) : ∀ {args : List Expr} {as : List AV}, evL rec sc ρ args = some as → ∀ v p, Expr.Starred v p ∉ args
  | [], _, _, _, _ => by simp
  | e :: r, as, h, v, p => by
    unfold evL at h
    split at h
    · rename_i a t ha ht
      intro hm
      rcases List.mem_cons.mp hm with q | q
      · subst q; rw [R.star] at ha; cases ha
      · exact evL_nostar R ht v p q
    · cases h

section
variable {d : Nat} {rec : Rec} (R : RecOk prog w l own gv d rec) (hE : EnvOk sc env) (hC : Cx d A)
include R hE hC
/-- the arguments of a call, one at least -/
theorem args_sound {args : List Expr} {as : List AV} (h : evL rec sc ρ args = some as) (hne : args ≠ []) (G : Gd gv s.heap) (L : Loc l X own env s.heap ρ) (O : Old X s.heap) {f : Value} {pos : Pos} {Q : Args → Shared → Prop}
    (hQ : ∀ vs s', Keeps s s' → RepL l X s'.heap vs as → Q ⟨vs, []⟩ s') : wpAny (model prog w) A (evalArgs f true (backTo pos (starEach args env)) []) Q E s := by
  cases args with
  | nil => exact absurd rfl hne
  | cons e r =>
    have hs := evL_nostar R h
    have q := evL_sound R hE hC h G L O (pos := pos) (E := E) (Q := fun vs s' => Q ⟨vs, []⟩ s') hQ
    rw [starEach_plain fun v p z => hs v p (by rw [z]; exact List.mem_cons_self)] at q ⊢
    exact evalArgs_plain q
theorem callB_sound {args : List Expr} {as : List AV} (h : evL rec sc ρ args = some as) (hne : args ≠ []) (G : Gd gv s.heap) (L : Loc l X own env s.heap ρ) (O : Old X s.heap) {id : String} {pos : Pos}
    (hQ : ∀ vs s', Keeps s s' → RepL l X s'.heap vs as → wpAny (model prog w) A (call (.builtin id) vs) Q E s') : wpAny (model prog w) A (callWith pos (.builtin id) [] (backTo pos (starEach args env)) []) Q E s :=
  callWith_builtin (evL_any args (evL_nostar R h) pos) (args_sound R hE hC h hne G L O fun vs s' k r => hQ vs s' k r)
theorem callT_sound {args : List Expr} {as : List AV} (h : evL rec sc ρ args = some as) (hne : args ≠ []) (G : Gd gv s.heap) (L : Loc l X own env s.heap ρ) (O : Old X s.heap) {T : String} {pos : Pos}
    (hQ : ∀ vs s', Keeps s s' → RepL l X s'.heap vs as → wpAny (model prog w) A (call (.type T) vs) Q E s') : wpAny (model prog w) A (callWith pos (.type T) [] (backTo pos (starEach args env)) []) Q E s :=
  PySem.callWith_type (evL_any args (evL_nostar R h) pos) (args_sound R hE hC h hne G L O fun vs s' k r => hQ vs s' k r)
theorem callF_sound {args : List Expr} {as : List AV} (h : evL rec sc ρ args = some as) (hne : args ≠ []) (G : Gd gv s.heap) (L : Loc l X own env s.heap ρ) (O : Old X s.heap) {a : Addr} {o : Obj} {fd : FuncData} (ho : s.heap.get? a = some o) (hd : o.data = .func fd) {pos : Pos}
    (hQ : ∀ vs s', Keeps s s' → RepL l X s'.heap vs as → wpAny (model prog w) A (call (.ref a) vs) Q E s') : wpAny (model prog w) A (callWith pos (.ref a) [] (backTo pos (starEach args env)) []) Q E s :=
  callWith_function (args_sound R hE hC h hne G L O fun vs s' k r => ⟨⟨(Keeps.keep k) _ _ ho, hd⟩, hQ vs s' k r⟩)
end
end Mine
end

section
namespace Mine
open PySem PySem.Calls PyProof.Rows PySem.W

variable {l : Nat} {X : Addr → Prop} {own : Option Str} {gv : Gv} {prog : Program} {w : World} {A : Around} {E : Value → Shared → Prop} {s : Shared} {Q : Value → Shared → Prop} {env : Env} {sc : Sc} {ρ : Ro}

noncomputable def ItemIs (l : Nat) (X : Addr → Prop) (h : Heap) (v : Value) : It → Prop
  | .one a => Rep l X h v a
  | .two a b => ∃ T x y, v = .ref T ∧ h.IsTuple T #[x, y] ∧ Rep l X h x a ∧ Rep l X h y b

/-- the lists outside X that stood still stand -/
noncomputable def Stays (X : Addr → Prop) (h h' : Heap) : Prop := ∀ b vs, h.IsList b vs → ¬ X b → ∀ o, h.get? b = some o → h'.get? b = some o
theorem Stays.of {h h' : Heap} (k : ∀ b o, h.get? b = some o → h'.get? b = some o) : Stays X h h' := fun b _ _ _ o e => k b o e

/-- no list, no namespace, no cell -/
noncomputable def Odd (o : Obj) : Prop := o.cls ≠ .type "list" ∧ (∀ es ep, o.data ≠ .dict es ep) ∧ (∀ v, o.data ≠ .cell v)

structure IterAt (prog : Program) (w : World) (A : Around) (l : Nat) (X : Addr → Prop) (target : Expr) (its : List It) (s : Shared) (s₂ : Shared) (I : Addr) (fp wr : List Addr) (P Md : Nat → Value → Heap → Prop) (St : Nat → Heap → Prop) : Prop where
  turns : KTurns prog w A target I fp wr its.length P Md St
  st : St 0 s₂.heap
  fpEx : ∀ b ∈ fp, ∃ o, s₂.heap.get? b = some o
  fpNew : ∀ b ∈ fp, s.heap.get? b = Option.none ∨ (∃ vs, s₂.heap.IsList b vs) ∧ ¬ X b
  wrNew : ∀ b ∈ wr, s.heap.get? b = Option.none
  keeps : Keeps s s₂
  item : ∀ (X' : Addr → Prop) i v h, (∀ b, X' b → X b ∨ s₂.heap.get? b = Option.none ∨ b ∈ wr) → i < its.length → P i v h → Stays X' s₂.heap h → ∃ it, its[i]? = some it ∧ ItemIs l X' h v it
  odd : ∀ i h, St i h → ∀ b ∈ wr, ∀ o, h.get? b = some o → Odd o
  wrEx : ∀ i h, St i h → ∀ b ∈ wr, ∃ o, h.get? b = some o
  self : ∀ (s : Shared) (Q : Value → Shared → Prop) (E : Value → Shared → Prop), St 0 s.heap → Q (.ref I) s → wpAny (model prog w) A (pyIter (.ref I)) Q E s

theorem odd_listiter {h : Heap} {a l : Addr} {i : Nat} (x : h.IsListIter a l i) (o : Obj) (e : h.get? a = some o) : Odd o := by
  obtain ⟨o', e', h1, h2⟩ := x
  rw [e] at e'; cases e'
  exact ⟨(by rw [h1]; intro q; injection q with q; exact absurd q (by decide)), fun _ _ => (by rw [h2]; intro q; cases q), fun _ => (by rw [h2]; intro q; cases q)⟩
theorem odd_at {h : Heap} {a : Addr} {o' : Obj} (x : h.get? a = some o') (k : Odd o') (o : Obj) (e : h.get? a = some o) : Odd o := by
  rw [e] at x; cases x; exact k
theorem get_new {h : Heap} {a : Addr} (q : h.objs.size ≤ a) : h.get? a = Option.none := by
  cases e : h.get? a with
  | none => rfl
  | some o => exact absurd (Heap.lt_size e) (Nat.not_lt.mpr q)

theorem Rep.more {X' : Addr → Prop} {h : Heap} {v : Value} {a : AV} (r : Rep l X h v a) (k : ∀ b, X' b → X b ∨ h.get? b = Option.none) : Rep l X' h v a := by
  have no : ∀ {a : Addr} {vs : Array Value}, h.IsList a vs → ¬ X a → ¬ X' a := fun hl hx q => by
    rcases k _ q with z | z
    · exact hx z
    · obtain ⟨o, e, _⟩ := hl; rw [z] at e; cases e
  induction r with
  | none => exact .none
  | bool b => exact .bool b
  | int h1 h2 => exact .int h1 h2
  | anyInt h1 h2 => exact .anyInt h1 h2
  | bigInt => exact .bigInt
  | fx h1 h2 => exact .fx h1 h2
  | fq h1 h2 => exact .fq h1 h2
  | fltI h1 => exact .fltI h1
  | str h1 => exact .str h1
  | word h0 h1 h2 => exact .word h0 h1 h2
  | letter => exact .letter
  | list hl hx hn _ ih => exact .list hl (no hl hx) hn fun i v x e1 e2 => ih i v x e1 e2
  | filt hl hx hb hn _ ih => exact .filt hl (no hl hx) hb hn fun i v x e1 e2 => ih i v x e1 e2
  | anyInts hl hx h0 h1 hv => exact .anyInts hl (no hl hx) h0 h1 hv
  | bigInts hl hx h0 h1 hv => exact .bigInts hl (no hl hx) h0 h1 hv
theorem more_of {X' : Addr → Prop} {h h₂ : Heap} {wr : List Addr} (hX' : ∀ b, X' b → X b ∨ h₂.get? b = Option.none ∨ b ∈ wr) (k : ∀ b o, h.get? b = some o → h₂.get? b = some o) (hw : ∀ b ∈ wr, h.get? b = Option.none) :
    ∀ b, X' b → X b ∨ h.get? b = Option.none := fun b hb => by
  rcases hX' b hb with q | q | q
  · exact .inl q
  · refine .inr ?_
    cases e : h.get? b with
    | none => rfl
    | some o => rw [k b o e] at q; cases q
  · exact .inr (hw b q)

/-- a list's items in turn -/
theorem iter_list {target : Expr} (ht : isName target = true) {a : Addr} {vs : List Value} {xs : List AV} {s₀ : Shared} (hk : Keeps s₀ s) (hh : A.handled = Option.none) (hl : s.heap.IsList a vs.toArray) (hX : ¬ X a) (hn : vs.length = xs.length)
    (hv : ∀ (i : Nat) (v : Value) (x : AV), vs[i]? = some v → xs[i]? = some x → Rep l X s.heap v x)
    (hQ : ∀ I fp wr P Md St s₂, IterAt prog w A l X target (xs.map It.one) s₀ s₂ I fp wr P Md St → Q (.ref I) s₂) : wpAny (model prog w) A (pyIter (.ref a)) Q E s := by
  have hlt : a < s.heap.objs.size := by obtain ⟨o, ho, _⟩ := hl; exact Heap.lt_size ho
  refine wpAny_pyIter_list hl ?_
  have W := Walks.list (prog := prog) (w := w) (A := A) hh s.heap.objs.size a (Nat.ne_of_lt hlt) vs.toArray
  have hlen : vs.toArray.size = (xs.map It.one).length := by simp [hn]
  rw [hlen] at W
  have hgo : ∀ v, letOwnedTupleGo target (.ref s.heap.objs.size) v = pure () := fun v => by
    cases target <;> first | rfl | cases ht
  refine hQ _ _ _ _ _ _ _ ⟨KTurns.ofWalks W (fun i v s Q E _ h => wpAny_of_eq (hgo v) h), ⟨⟨_, Heap.get?_push_size _ rfl, rfl, rfl⟩, hl.push _⟩, ?_, ?_, ?_, ?_, ?_, (fun i h st b hb o e => by
    simp only [List.mem_cons, List.not_mem_nil, or_false] at hb
    subst hb
    exact odd_listiter st.1 o e), (fun i h st b hb => by
    simp only [List.mem_cons, List.not_mem_nil, or_false] at hb
    subst hb
    obtain ⟨o, e, _⟩ := st.1
    exact ⟨o, e⟩), fun s Q E st h => W.self 0 s Q E st h⟩
  · intro b hb
    simp only [List.mem_cons, List.not_mem_nil, or_false] at hb
    rcases hb with rfl | rfl
    · exact ⟨_, Heap.get?_push_size _ rfl⟩
    · obtain ⟨o, ho, _⟩ := hl
      exact ⟨o, Heap.get?_push_of_some _ ho⟩
  · intro b hb
    simp only [List.mem_cons, List.not_mem_nil, or_false] at hb
    rcases hb with rfl | rfl
    · refine .inl ?_
      cases e : s₀.heap.get? s.heap.objs.size with
      | none => rfl
      | some o => exact absurd (Heap.lt_size (Keeps.keep hk _ _ e)) (Nat.lt_irrefl _)
    · exact .inr ⟨⟨_, hl.push _⟩, hX⟩
  · intro b hb
    simp only [List.mem_cons, List.not_mem_nil, or_false] at hb
    subst hb
    cases e : s₀.heap.get? s.heap.objs.size with
    | none => rfl
    | some o => exact absurd (Heap.lt_size (Keeps.keep hk _ _ e)) (Nat.lt_irrefl _)
  · exact Keeps.trans hk (Keeps.push _ _ _)
  · intro X' i v h hX' hi hP hs
    have hP' : vs[i]? = some v := by simpa using hP
    have hx : ∃ x, xs[i]? = some x := ⟨xs[i]'(by simpa using hi), List.getElem?_eq_getElem _⟩
    obtain ⟨x, ex⟩ := hx
    refine ⟨.one x, by rw [List.getElem?_map, ex]; rfl, ?_⟩
    have r : Rep l X' (s.heap.push { cls := .type "list_iterator", data := .fields #[.ref a, .int 0 0] }) v x := ((hv i v x hP' ex).more (more_of hX' (fun _ _ e => Heap.get?_push_of_some _ e) fun b hb => by
      simp only [List.mem_cons, List.not_mem_nil, or_false] at hb
      subst hb
      exact get_new (Nat.le_refl _))).keeps fun _ _ e => Heap.get?_push_of_some _ e
    exact r.later hs

theorem rangeL_len (a c : Int) : ∀ n, (rangeL a c n).length = n
  | 0 => rfl
  | n + 1 => by simp [rangeL, rangeL_len (a + c) c n]
theorem rangeL_at : ∀ (n : Nat) (a c : Int) (k : Nat), k < n → (rangeL a c n)[k]? = some (lit (a + k * c))
  | 0, _, _, _, h => absurd h (Nat.not_lt_zero _)
  | n + 1, a, c, 0, _ => by simp [rangeL]
  | n + 1, a, c, k + 1, h => by
    have := rangeL_at n (a + c) c k (by omega)
    rw [rangeL, List.getElem?_cons_succ, this]
    congr 2
    rw [Int.natCast_add, Int.add_mul, Int.natCast_one, Int.one_mul]
    omega

theorem rangeSize_nn {a b c : Int} (hc : 0 < c) : 0 ≤ Builtin.Range.rangeSize a b c := by
  unfold Builtin.Range.rangeSize
  rw [if_pos (by omega)]
  split
  · have := Int.ediv_nonneg (show 0 ≤ b - a - 1 by omega) (show 0 ≤ c by omega); omega
  · exact Int.le_refl _
theorem rangeSize_le {a b c : Int} (hc : 0 < c) (ha : a.natAbs ≤ 1000) (hb : b.natAbs ≤ 1000) : Builtin.Range.rangeSize a b c ≤ 2001 := by
  unfold Builtin.Range.rangeSize
  rw [if_pos (by omega)]
  split
  · have := Int.ediv_le_self c (show 0 ≤ b - a - 1 by omega)
    omega
  · omega
theorem small_range {a b c : Int} (hc : 0 < c) (hc' : c ≤ 1000) (ha : a.natAbs ≤ 1000) (hb : b.natAbs ≤ 1000) : Builtin.Range.small a b c = true := by
  have h1 := rangeSize_nn (a := a) (b := b) hc
  have h2 := rangeSize_le hc ha hb
  unfold Builtin.Range.small
  rw [if_pos (show c > 0 by omega)]
  simp only [Builtin.Range.rangeFitsLong, Bool.and_eq_true, Bool.or_eq_true, decide_eq_true_eq, beq_iff_eq]
  omega

/-- a range's ints in turn -/
theorem iter_range {target : Expr} (ht : isName target = true) {r : Addr} {a b c : Int} {t u v : Tok} {s₀ : Shared} (hk : Keeps s₀ s) (hh : A.handled = Option.none) (hr : IsRange s.heap r a b c t u v) (hc : 0 < c) (hc' : c ≤ 1000) (ha : a.natAbs ≤ 1000) (hb : b.natAbs ≤ 1000)
    (hQ : ∀ I fp wr P Md St s₂, IterAt prog w A l X target ((rangeL a c (rangeN a b c)).map It.one) s₀ s₂ I fp wr P Md St → Q (.ref I) s₂) : wpAny (model prog w) A (pyIter (.ref r)) Q E s := by
  refine wpAny_pyIter_range hr (small_range hc hc' ha hb) ?_
  have W := Walks.range (prog := prog) (w := w) (A := A) hh s.heap.objs.size a c (rangeN a b c)
  have hlen : rangeN a b c = ((rangeL a c (rangeN a b c)).map It.one).length := by simp [rangeL_len]
  have hsz : (Builtin.Range.rangeSize a b c) = ((rangeN a b c : Nat) : Int) := by unfold rangeN; have := rangeSize_nn (a := a) (b := b) hc; omega
  have hgo : ∀ v, letOwnedTupleGo target (.ref s.heap.objs.size) v = pure () := fun v => by
    cases target <;> first | rfl | cases ht
  have new : s₀.heap.get? s.heap.objs.size = Option.none := by
    cases e : s₀.heap.get? s.heap.objs.size with
    | none => rfl
    | some o => exact absurd (Heap.lt_size (Keeps.keep hk _ _ e)) (Nat.lt_irrefl _)
  refine hQ s.heap.objs.size [s.heap.objs.size] [s.heap.objs.size] _ _ _ _ ⟨by rw [← hlen]; exact KTurns.ofWalks W (fun i v s Q E _ h => wpAny_of_eq (hgo v) h), ?_, ?_, ?_, ?_, ?_, ?_, (fun i h st b hb o e => by
    simp only [List.mem_cons, List.not_mem_nil, or_false] at hb
    subst hb
    exact odd_at st ⟨(by intro q; injection q with q; exact absurd q (by decide)), (by intro _ _ q; cases q), (by intro _ q; cases q)⟩ o e), (fun i h st b hb => by
    simp only [List.mem_cons, List.not_mem_nil, or_false] at hb
    subst hb
    exact ⟨_, st⟩), fun s Q E st h => W.self 0 s Q E st h⟩
  · have := Heap.get?_push_size s.heap (o := { cls := .type "range_iterator", data := .fields #[rawInt a, rawInt (Builtin.Range.rangeSize a b c), rawInt c] }) rfl
    rw [hsz] at this ⊢
    simpa [IsRangeIter] using this
  · intro b hb
    simp only [List.mem_cons, List.not_mem_nil, or_false] at hb
    subst hb
    exact ⟨_, Heap.get?_push_size _ rfl⟩
  · intro b hb
    simp only [List.mem_cons, List.not_mem_nil, or_false] at hb
    subst hb
    exact .inl new
  · intro b hb
    simp only [List.mem_cons, List.not_mem_nil, or_false] at hb
    subst hb
    exact new
  · exact Keeps.trans hk (Keeps.push _ _ _)
  · intro X' i v h _ hi hP _
    obtain ⟨t', rfl⟩ := hP
    rw [← hlen] at hi
    refine ⟨.one (lit (a + i * c)), by rw [List.getElem?_map, rangeL_at _ _ _ _ hi]; rfl, ?_⟩
    exact .int (Int.le_refl _) (Int.le_refl _)

theorem range1_inv {a : AV} {lst : List AV} (h : range1 a = some lst) : ∃ i z, a = .int i z z ∧ absB z z ≤ 1000 ∧ lst = rangeL 0 1 (rangeN 0 z 1) := by
  unfold range1 at h
  split at h
  · split at h
    · rename_i hb
      simp only [Bool.and_eq_true, decide_eq_true_eq, beq_iff_eq] at hb
      obtain ⟨p1, p2⟩ := hb
      subst p1
      cases h
      exact ⟨_, _, rfl, p2, rfl⟩
    · cases h
  · cases h
theorem range2_inv {a b : AV} {lst : List AV} (h : range2 a b = some lst) : ∃ i z j y, a = .int i z z ∧ b = .int j y y ∧ absB z z ≤ 1000 ∧ absB y y ≤ 1000 ∧ lst = rangeL z 1 (rangeN z y 1) := by
  unfold range2 at h
  split at h
  · split at h
    · split at h
      · rename_i hb
        simp only [Bool.and_eq_true, decide_eq_true_eq, beq_iff_eq] at hb
        obtain ⟨⟨⟨p1, p2⟩, p3⟩, p4⟩ := hb
        subst p1 p2
        cases h
        exact ⟨_, _, _, _, rfl, rfl, p3, p4, rfl⟩
      · cases h
    · cases h
  · cases h
theorem range3_inv {a b c : AV} {lst : List AV} (h : range3 a b c = some lst) : ∃ i z j y k x, a = .int i z z ∧ b = .int j y y ∧ c = .int k x x ∧ absB z z ≤ 1000 ∧ absB y y ≤ 1000 ∧ 0 < x ∧ x ≤ 1000 ∧ lst = rangeL z x (rangeN z y x) := by
  unfold range3 at h
  split at h
  · split at h
    · split at h
      · split at h
        · rename_i hb
          simp only [Bool.and_eq_true, decide_eq_true_eq, beq_iff_eq] at hb
          obtain ⟨⟨⟨⟨⟨⟨p1, p2⟩, p3⟩, p4⟩, p5⟩, p6⟩, p7⟩ := hb
          subst p1 p2 p3
          cases h
          exact ⟨_, _, _, _, _, _, rfl, rfl, rfl, p4, p5, p6, p7, rfl⟩
        · cases h
      · cases h
    · cases h
  · cases h
theorem fixed {h : Heap} {v : Value} {i z : Int} (r : Rep l X h v (.int i z z)) : ∃ t, v = .int z t := by
  obtain ⟨t, rfl, h1, h2⟩ := r.inv
  exact ⟨t, by rw [Int.le_antisymm h2 h1]⟩
theorem absB_self {z : Int} (h : absB z z ≤ 1000) : z.natAbs ≤ 1000 := by unfold absB at h; omega

theorem call_range {as : List AV} {lst : List AV} {vs : List Value} (h : rangeV as = some lst) (hr : RepL l X s.heap vs as)
    (hQ : ∀ r a b c t u v s', Keeps s s' → IsRange s'.heap r a b c t u v → 0 < c → c ≤ 1000 → a.natAbs ≤ 1000 → b.natAbs ≤ 1000 → lst = rangeL a c (rangeN a b c) → Q (.ref r) s') :
    wpAny (model prog w) A (call (.type "range") vs) Q E s := by
  unfold rangeV at h
  split at h
  · obtain ⟨i, z, rfl, p2, rfl⟩ := range1_inv h
    obtain ⟨v, rfl, r⟩ := hr.inv1
    obtain ⟨_, rfl⟩ := fixed r
    exact call_range_1 (hQ _ _ _ _ _ _ _ _ (Keeps.push ..) (IsRange.new ..) (by decide) (by decide) (by decide) (absB_self p2) rfl)
  · obtain ⟨i, z, j, y, rfl, rfl, p3, p4, rfl⟩ := range2_inv h
    obtain ⟨v, u, rfl, r1, r2⟩ := hr.inv2
    obtain ⟨_, rfl⟩ := fixed r1
    obtain ⟨_, rfl⟩ := fixed r2
    exact call_range_2 (hQ _ _ _ _ _ _ _ _ (Keeps.push ..) (IsRange.new ..) (by decide) (by decide) (absB_self p3) (absB_self p4) rfl)
  · obtain ⟨i, z, j, y, k, x, rfl, rfl, rfl, p4, p5, p6, p7, rfl⟩ := range3_inv h
    obtain ⟨v, u, t, rfl, r1, r2, r3⟩ := hr.inv3
    obtain ⟨_, rfl⟩ := fixed r1
    obtain ⟨_, rfl⟩ := fixed r2
    obtain ⟨_, rfl⟩ := fixed r3
    exact call_range_3 (Int.ne_of_gt p6) (hQ _ _ _ _ _ _ _ _ (Keeps.push ..) (IsRange.new ..) p6 p7 (absB_self p4) (absB_self p5) rfl) (.inl (PyProof.noPylong_small (by have := absB_self p4; omega)))
  · cases h

theorem enumL_len : ∀ (k : Nat) (xs : List AV), (enumL k xs).length = xs.length
  | _, [] => rfl
  | k, x :: r => by simp [enumL, enumL_len (k + 1) r]
theorem enumL_at : ∀ (xs : List AV) (k i : Nat) (x : AV), xs[i]? = some x → (enumL k xs)[i]? = some (.two (lit ((k + i : Nat) : Int)) x)
  | [], _, _, _, h => by simp at h
  | y :: r, k, 0, x, h => by simp at h; subst h; simp [enumL]
  | y :: r, k, i + 1, x, h => by
    have := enumL_at r (k + 1) i x (by simpa using h)
    rw [enumL, List.getElem?_cons_succ, this]
    congr 4
    omega
theorem zipL_len : ∀ (xs ys : List AV), xs.length = ys.length → (zipL xs ys).length = xs.length
  | [], [], _ => rfl
  | x :: r, y :: t, h => by simp [zipL, zipL_len r t (by simpa using h)]
theorem zipL_at : ∀ (xs ys : List AV) (i : Nat) (x y : AV), xs[i]? = some x → ys[i]? = some y → (zipL xs ys)[i]? = some (.two x y)
  | [], _, _, _, _, h, _ => by simp at h
  | _ :: _, [], _, _, _, _, h => by simp at h
  | a :: r, b :: t, 0, x, y, h1, h2 => by simp at h1 h2; subst h1 h2; simp [zipL]
  | a :: r, b :: t, i + 1, x, y, h1, h2 => by
    rw [zipL, List.getElem?_cons_succ]
    exact zipL_at r t i x y (by simpa using h1) (by simpa using h2)

/-- enumerate over a list -/
theorem iter_enum {target : Expr} (ht : isPair target = true) {a : Addr} {vs : List Value} {xs : List AV} {s₀ : Shared} (hk : Keeps s₀ s) (hh : A.handled = Option.none) (hl : s.heap.IsList a vs.toArray) (hX : ¬ X a) (hn : vs.length = xs.length)
    (hv : ∀ (i : Nat) (v : Value) (x : AV), vs[i]? = some v → xs[i]? = some x → Rep l X s.heap v x)
    (hQ : ∀ I fp wr P Md St s₂, IterAt prog w A l X target (enumL 0 xs) s₀ s₂ I fp wr P Md St → Q (.ref I) s₂) :
    wpAny (model prog w) A (call (.type "enumerate") [.ref a]) (fun xv s₁ => wpAny (model prog w) A (pyIter xv) Q E s₁) E s := by
  have hlt : a < s.heap.objs.size := by obtain ⟨o, ho, _⟩ := hl; exact Heap.lt_size ho
  have new : ∀ b, s.heap.objs.size ≤ b → s₀.heap.get? b = Option.none := fun b q => by
    cases e : s₀.heap.get? b with
    | none => rfl
    | some o => exact absurd (Heap.lt_size (Keeps.keep hk _ _ e)) (Nat.not_lt.mpr q)
  refine call_enumerate_list hl fun h' hen hli hsz hkp => ?_
  have hl' : h'.IsList a vs.toArray := hl.at fun o e => hkp _ o e
  have W := WalksT.enumerate (prog := prog) (w := w) (A := A) hh (s.heap.objs.size + 1) s.heap.objs.size a (Nat.ne_of_gt (Nat.lt_succ_self _)) (Nat.ne_of_lt (Nat.lt_succ_of_lt hlt)) (Nat.ne_of_lt hlt) vs.toArray
  have hlen : vs.toArray.size = (enumL 0 xs).length := by simp [hn, enumL_len]
  rw [hlen] at W
  refine W.self 0 _ _ _ ⟨⟨_, hen⟩, hli, hl'⟩ ?_
  obtain ⟨elts, k, pos, rfl⟩ : ∃ elts k pos, target = .Tuple elts k pos := by
    cases target <;> first | exact ⟨_, _, _, rfl⟩ | cases ht
  refine hQ _ _ _ _ _ _ _ ⟨KTurns.ofWalksU W.toU, ⟨⟨_, hen⟩, hli, hl'⟩, ?_, ?_, ?_, ?_, ?_, (fun i h st b hb o e => by
    simp only [List.mem_cons, List.not_mem_nil, or_false] at hb
    obtain ⟨⟨_, q1⟩, q2, _⟩ := st
    rcases hb with rfl | rfl
    · exact odd_at q1 ⟨(by intro q; injection q with q; exact absurd q (by decide)), (by intro _ _ q; cases q), (by intro _ q; cases q)⟩ o e
    · exact odd_listiter q2 o e), (fun i h st b hb => by
    simp only [List.mem_cons, List.not_mem_nil, or_false] at hb
    obtain ⟨⟨_, q1⟩, ⟨o2, q2, _⟩, _⟩ := st
    rcases hb with rfl | rfl
    · exact ⟨_, q1⟩
    · exact ⟨_, q2⟩), fun s Q E st h => W.self 0 s Q E st h⟩
  · intro b hb
    simp only [List.mem_cons, List.not_mem_nil, or_false] at hb
    rcases hb with rfl | rfl | rfl
    · exact ⟨_, hen⟩
    · obtain ⟨o, ho, _⟩ := hli
      exact ⟨o, ho⟩
    · obtain ⟨o, ho, _⟩ := hl'
      exact ⟨o, ho⟩
  · intro b hb
    simp only [List.mem_cons, List.not_mem_nil, or_false] at hb
    rcases hb with rfl | rfl | rfl
    · exact .inl (new _ (Nat.le_succ _))
    · exact .inl (new _ (Nat.le_refl _))
    · exact .inr ⟨⟨_, hl'⟩, hX⟩
  · intro b hb
    simp only [List.mem_cons, List.not_mem_nil, or_false] at hb
    rcases hb with rfl | rfl
    · exact new _ (Nat.le_succ _)
    · exact new _ (Nat.le_refl _)
  · exact Keeps.trans hk ⟨h', s.toks, rfl, hkp⟩
  · intro X' i v h hX' hi hP hs
    have hmore := more_of hX' hkp fun b hb => by
      simp only [List.mem_cons, List.not_mem_nil, or_false] at hb
      rcases hb with rfl | rfl
      · exact get_new (Nat.le_succ _)
      · exact get_new (Nat.le_refl _)
    obtain ⟨T, vals, rfl, ⟨t, x, hx, rfl⟩, hT⟩ := hP
    have hx' : vs[i]? = some x := by simpa using hx
    have hxx : ∃ y, xs[i]? = some y := ⟨xs[i]'(by simpa [enumL_len] using hi), List.getElem?_eq_getElem _⟩
    obtain ⟨y, ey⟩ := hxx
    refine ⟨_, enumL_at xs 0 i y ey, T, _, x, rfl, hT, ?_, (((hv i x y hx' ey).more hmore).keeps hkp).later hs⟩
    rw [Nat.zero_add]
    exact .int (Int.le_refl _) (Int.le_refl _)

/-- zip of two lists -/
theorem iter_zip {target : Expr} (ht : isPair target = true) {a b : Addr} {vs us : List Value} {xs ys : List AV} {s₀ : Shared} (hk : Keeps s₀ s) (hh : A.handled = Option.none)
    (hl : s.heap.IsList a vs.toArray) (hX : ¬ X a) (hn : vs.length = xs.length) (hv : ∀ (i : Nat) (v : Value) (x : AV), vs[i]? = some v → xs[i]? = some x → Rep l X s.heap v x)
    (hl2 : s.heap.IsList b us.toArray) (hX2 : ¬ X b) (hn2 : us.length = ys.length) (hv2 : ∀ (i : Nat) (v : Value) (x : AV), us[i]? = some v → ys[i]? = some x → Rep l X s.heap v x) (hxy : xs.length = ys.length)
    (hQ : ∀ I fp wr P Md St s₂, IterAt prog w A l X target (zipL xs ys) s₀ s₂ I fp wr P Md St → Q (.ref I) s₂) :
    wpAny (model prog w) A (call (.type "zip") [.ref a, .ref b]) (fun xv s₁ => wpAny (model prog w) A (pyIter xv) Q E s₁) E s := by
  have hlt : a < s.heap.objs.size := by obtain ⟨o, ho, _⟩ := hl; exact Heap.lt_size ho
  have hlt2 : b < s.heap.objs.size := by obtain ⟨o, ho, _⟩ := hl2; exact Heap.lt_size ho
  have new : ∀ b, s.heap.objs.size ≤ b → s₀.heap.get? b = Option.none := fun b q => by
    cases e : s₀.heap.get? b with
    | none => rfl
    | some o => exact absurd (Heap.lt_size (Keeps.keep hk _ _ e)) (Nat.not_lt.mpr q)
  refine call_zip_2 hl hl2 fun h' hz hTI hTO hi1 hi2 hsz hkp => ?_
  have hl' : h'.IsList a vs.toArray := hl.at fun o e => hkp _ o e
  have hl2' : h'.IsList b us.toArray := hl2.at fun o e => hkp _ o e
  generalize hN : s.heap.objs.size = N at *
  have hA1 : @LT.lt Nat _ a N := hlt
  have hA2 : @LT.lt Nat _ b N := hlt2
  have D : ZipApart (N + 4) (N + 2) (N + 3) N (N + 1) a b := by
    constructor <;> first | exact Nat.ne_of_lt hA1 | exact Nat.ne_of_lt hA2 | exact Nat.ne_of_gt hA1 | exact Nat.ne_of_gt hA2 | exact Nat.ne_of_gt (Nat.lt_add_right _ hA1) | exact Nat.ne_of_gt (Nat.lt_add_right _ hA2) | (exact fun q => absurd (Nat.add_left_cancel (n := N) q) (by decide)) | (intro q; have q' : (_ : Nat) = _ := q; omega)
  have W := WalksT.zip2 (prog := prog) (w := w) (A := A) hh (N + 4) (N + 2) (N + 3) N (N + 1) a b D vs.toArray us.toArray
  have hlen : min vs.toArray.size us.toArray.size = (zipL xs ys).length := by rw [zipL_len xs ys hxy]; simp; omega
  rw [hlen] at W
  refine W.self 0 _ _ _ ⟨hz, hTI, ⟨_, _, hTO⟩, hi1, hi2, hl', hl2'⟩ ?_
  obtain ⟨elts, k, pos, rfl⟩ : ∃ elts k pos, target = .Tuple elts k pos := by
    cases target <;> first | exact ⟨_, _, _, rfl⟩ | cases ht
  refine hQ _ _ _ _ _ _ _ ⟨KTurns.ofWalksU W.toU, ⟨hz, hTI, ⟨_, _, hTO⟩, hi1, hi2, hl', hl2'⟩, ?_, ?_, ?_, ?_, ?_, (fun i h st b hb o e => by
    simp only [List.mem_cons, List.not_mem_nil, or_false] at hb
    obtain ⟨q1, q2, ⟨_, _, q3⟩, q4, q5, _, _⟩ := st
    rcases hb with rfl | rfl | rfl | rfl
    · exact odd_at q1 ⟨(by intro q; injection q with q; exact absurd q (by decide)), (by intro _ _ q; cases q), (by intro _ q; cases q)⟩ o e
    · exact odd_at q3 ⟨(by intro q; injection q with q; exact absurd q (by decide)), (by intro _ _ q; cases q), (by intro _ q; cases q)⟩ o e
    · exact odd_listiter q4 o e
    · exact odd_listiter q5 o e), (fun i h st b hb => by
    simp only [List.mem_cons, List.not_mem_nil, or_false] at hb
    obtain ⟨q1, q2, ⟨_, _, q3⟩, ⟨o4, q4, _⟩, ⟨o5, q5, _⟩, _, _⟩ := st
    rcases hb with rfl | rfl | rfl | rfl
    · exact ⟨_, q1⟩
    · exact ⟨_, q3⟩
    · exact ⟨_, q4⟩
    · exact ⟨_, q5⟩), fun s Q E st h => W.self 0 s Q E st h⟩
  · intro b hb
    simp only [List.mem_cons, List.not_mem_nil, or_false] at hb
    rcases hb with rfl | rfl | rfl | rfl | rfl | rfl | rfl
    · exact ⟨_, hz⟩
    · exact ⟨_, hTI⟩
    · exact ⟨_, hTO⟩
    · obtain ⟨o, ho, _⟩ := hi1
      exact ⟨o, ho⟩
    · obtain ⟨o, ho, _⟩ := hi2
      exact ⟨o, ho⟩
    · obtain ⟨o, ho, _⟩ := hl'
      exact ⟨o, ho⟩
    · obtain ⟨o, ho, _⟩ := hl2'
      exact ⟨o, ho⟩
  · intro b hb
    simp only [List.mem_cons, List.not_mem_nil, or_false] at hb
    rcases hb with rfl | rfl | rfl | rfl | rfl | rfl | rfl
    · exact .inl (new _ (by omega))
    · exact .inl (new _ (by omega))
    · exact .inl (new _ (by omega))
    · exact .inl (new _ (by omega))
    · exact .inl (new _ (by omega))
    · exact .inr ⟨⟨_, hl'⟩, hX⟩
    · exact .inr ⟨⟨_, hl2'⟩, hX2⟩
  · intro b hb
    simp only [List.mem_cons, List.not_mem_nil, or_false] at hb
    rcases hb with rfl | rfl | rfl | rfl
    · exact new _ (by omega)
    · exact new _ (by omega)
    · exact new _ (by omega)
    · exact new _ (by omega)
  · exact Keeps.trans hk ⟨h', s.toks, rfl, hkp⟩
  · intro X' i v h hX' hi hP hs
    have hmore := more_of hX' hkp fun b hb => by
      simp only [List.mem_cons, List.not_mem_nil, or_false] at hb
      refine get_new ?_
      rw [hN]
      rcases hb with rfl | rfl | rfl | rfl <;> omega
    obtain ⟨T, vals, rfl, ⟨x, y, hx, hy, rfl⟩, hT⟩ := hP
    have hx' : vs[i]? = some x := by simpa using hx
    have hy' : us[i]? = some y := by simpa using hy
    rw [zipL_len xs ys hxy] at hi
    have hxx : ∃ z, xs[i]? = some z := ⟨xs[i]'hi, List.getElem?_eq_getElem _⟩
    have hyy : ∃ z, ys[i]? = some z := ⟨ys[i]'(by omega), List.getElem?_eq_getElem _⟩
    obtain ⟨z1, e1⟩ := hxx
    obtain ⟨z2, e2⟩ := hyy
    exact ⟨_, zipL_at xs ys i z1 z2 e1 e2, T, x, y, rfl, hT, (((hv i x z1 hx' e1).more hmore).keeps hkp).later hs, (((hv2 i y z2 hy' e2).more hmore).keeps hkp).later hs⟩
end Mine
end

section
namespace Mine
open PySem PySem.Calls PyProof.Rows PySem.W

variable {l : Nat} {X : Addr → Prop} {own : Option Str} {gv : Gv} {prog : Program} {w : World} {A : Around} {E : Value → Shared → Prop} {s : Shared} {Q : Value → Shared → Prop} {env : Env} {sc : Sc} {ρ : Ro}

/-- the built-in names as they are -/
structure GvOk (gv : Gv) : Prop where
  range : gv.v "range" = some (.type "range")
  enumerate : gv.v "enumerate" = some (.type "enumerate")
  zip : gv.v "zip" = some (.type "zip")
  list : gv.v "list" = some (.type "list")
  float : gv.v "float" = some (.type "float")
  int : gv.v "int" = some (.type "int")
  bool : gv.v "bool" = some (.type "bool")
  len : gv.v "len" = some (.builtin "len")
  sum : gv.v "sum" = some (.builtin "sum")
  chr : gv.v "chr" = some (.builtin "chr")
  min : gv.v "min" = some (.builtin "min")
  isinstance : gv.v "isinstance" = some (.builtin "isinstance")
  fsum : gv.v "fsum" = some (.builtin "math.fsum")
  obT : ∀ a o, gv.ob a o → ∀ vs, o ≠ { cls := .none, data := .fields vs }

theorem eval_Call_Name (f : Str) (pf pos : Pos) (args : List Expr) : eval (.Call (.Name f pf) args [] pos) env = (do callWith pos (← eval (.Name f pf) env) [] (backTo pos (starEach args env)) []) := rfl
theorem call_name {f : Str} {pf pos : Pos} {args : List Expr} {v : Value} (hE : EnvOk sc env) (hg : glb sc f = true) (G : Gd gv s.heap) (hv : gv.v f = some v)
    (h : wpAny (model prog w) A (callWith pos v [] (backTo pos (starEach args env)) []) Q E s) : wpAny (model prog w) A (eval (.Call (.Name f pf) args [] pos) env) Q E s := by
  rw [eval_Call_Name]
  exact wpAny_bind (name_glob hE hg G hv h)

section
variable {d : Nat} {rec : Rec} (V : GvOk gv) (R : RecOk prog w l own gv d rec) (hE : EnvOk sc env) (hC : Cx d A)
include V R hE hC

/-- what a loop goes over: the answer that is asked of its making -/
abbrev IterQ (prog : Program) (w : World) (A : Around) (l : Nat) (X : Addr → Prop) (target : Expr) (its : List It) (s : Shared) (Q : Value → Shared → Prop) : Prop :=
  ∀ I fp wr P Md St s₂, IterAt prog w A l X target its s s₂ I fp wr P Md St → Q (.ref I) s₂
abbrev IterW (prog : Program) (w : World) (A : Around) (iter : Expr) (env : Env) (Q E : Value → Shared → Prop) (s : Shared) : Prop :=
  wpAny (model prog w) A (eval iter env) (fun xv s₁ => wpAny (model prog w) A (pyIter xv) Q E s₁) E s

theorem iterL_sound {target e : Expr} {its : List It} (h : iterL target (rec false sc ρ e) = some its) (G : Gd gv s.heap) (L : Loc l X own env s.heap ρ) (O : Old X s.heap) (hQ : IterQ prog w A l X target its s Q) : IterW prog w A e env Q E s := by
  unfold iterL at h
  split at h
  · cases h
  · rename_i ht
    simp only [Bool.not_eq_true', Bool.not_eq_false] at ht
    split at h
    · rename_i xs ha
      split at h
      · cases h
        refine R.val _ _ _ _ (asList_inv ha) _ _ _ _ hE hC G L O _ _ fun v s' k rv => ?_
        obtain ⟨_, _, rfl, hl, hx, hn, hv⟩ := rv.inv
        exact iter_list ht k hC.handled hl hx hn hv hQ
      · cases h
    · cases h
theorem iterR_sound {target : Expr} {args : List Expr} {pf pos : Pos} {its : List It} (h : iterR rec sc ρ args = some its) (ht : isName target = true) (hg : glb sc "range" = true) (G : Gd gv s.heap) (L : Loc l X own env s.heap ρ) (O : Old X s.heap)
    (hQ : IterQ prog w A l X target its s Q) : IterW prog w A (.Call (.Name "range" pf) args [] pos) env Q E s := by
  unfold iterR at h
  split at h
  · cases h
  · split at h
    · rename_i as ha
      cases hr : rangeV as with
      | none => rw [hr] at h; cases h
      | some lst =>
        rw [hr] at h
        cases h
        refine call_name hE hg G V.range (callT_sound R hE hC ha (by simp) G L O fun vs s' k r => ?_)
        refine call_range hr r fun r' a b c t u v s'' k' hR h1 h2 h3 h4 he => ?_
        subst he
        exact iter_range ht (Keeps.trans k k') hC.handled hR h1 h2 h3 h4 hQ
    · cases h
theorem iterE_sound {target : Expr} {args : List Expr} {pf pos : Pos} {its : List It} (h : iterE rec sc ρ args = some its) (ht : isPair target = true) (hg : glb sc "enumerate" = true) (G : Gd gv s.heap) (L : Loc l X own env s.heap ρ) (O : Old X s.heap)
    (hQ : IterQ prog w A l X target its s Q) : IterW prog w A (.Call (.Name "enumerate" pf) args [] pos) env Q E s := by
  unfold iterE at h
  split at h
  · rename_i a
    split at h
    · rename_i xs ha
      split at h
      · cases h
        have ha' : evL rec sc ρ [a] = some [.list xs] := by simp [evL, asList_inv ha]
        refine call_name hE hg G V.enumerate (callT_sound R hE hC ha' (by simp) G L O fun vs s' k r => ?_)
        obtain ⟨v, rfl, rv⟩ := r.inv1
        obtain ⟨_, _, rfl, hl, hx, hn, hv⟩ := rv.inv
        exact iter_enum ht k hC.handled hl hx hn hv hQ
      · cases h
    · cases h
  · cases h
theorem iterZ_sound {target : Expr} {args : List Expr} {pf pos : Pos} {its : List It} (h : iterZ rec sc ρ args = some its) (ht : isPair target = true) (hg : glb sc "zip" = true) (G : Gd gv s.heap) (L : Loc l X own env s.heap ρ) (O : Old X s.heap)
    (hQ : IterQ prog w A l X target its s Q) : IterW prog w A (.Call (.Name "zip" pf) args [] pos) env Q E s := by
  unfold iterZ at h
  split at h
  · rename_i a b
    split at h
    · rename_i xs ha
      split at h
      · rename_i ys hb
        split at h
        · rename_i hlen
          simp only [Bool.and_eq_true, decide_eq_true_eq, beq_iff_eq] at hlen
          cases h
          have ha' : evL rec sc ρ [a, b] = some [.list xs, .list ys] := by simp [evL, asList_inv ha, asList_inv hb]
          refine call_name hE hg G V.zip (callT_sound R hE hC ha' (by simp) G L O fun vs s' k r => ?_)
          obtain ⟨v, u, rfl, rv, ru⟩ := r.inv2
          obtain ⟨_, _, rfl, hl, hx, hn, hv⟩ := rv.inv
          obtain ⟨_, _, rfl, hl2, hx2, hn2, hv2⟩ := ru.inv
          exact iter_zip ht k hC.handled hl hx hn hv hl2 hx2 hn2 hv2 hlen.1 hQ
        · cases h
      · cases h
    · cases h
  · cases h

theorem iterV_sound {target iter : Expr} {its : List It} (h : iterV rec sc ρ target iter = some its) (G : Gd gv s.heap) (L : Loc l X own env s.heap ρ) (O : Old X s.heap)
    (hQ : ∀ I fp wr P Md St s₂, IterAt prog w A l X target its s s₂ I fp wr P Md St → Q (.ref I) s₂) :
    wpAny (model prog w) A (eval iter env) (fun xv s₁ => wpAny (model prog w) A (pyIter xv) Q E s₁) E s := by
  unfold iterV at h
  split at h
  · split at h
    · rename_i hc
      cases asCall_inv hc
      split at h
      · cases h
      · rename_i hg
        simp only [Bool.not_eq_true', Bool.not_eq_false] at hg
        split at h
        · rename_i hf
          obtain rfl := eq_of_beq hf
          split at h
          · cases h
          · rename_i ht
            simp only [Bool.not_eq_true', Bool.not_eq_false] at ht
            exact iterR_sound V R hE hC h ht hg G L O hQ
        · split at h
          · rename_i hf
            obtain rfl := eq_of_beq hf
            split at h
            · cases h
            · rename_i ht
              simp only [Bool.not_eq_true', Bool.not_eq_false] at ht
              exact iterE_sound V R hE hC h ht hg G L O hQ
          · split at h
            · rename_i hf
              obtain rfl := eq_of_beq hf
              split at h
              · cases h
              · rename_i ht
                simp only [Bool.not_eq_true', Bool.not_eq_false] at ht
                exact iterZ_sound V R hE hC h ht hg G L O hQ
            · exact iterL_sound V R hE hC h G L O hQ
    · cases h
  · exact iterL_sound V R hE hC h G L O hQ
  · exact iterL_sound V R hE hC h G L O hQ
  · cases h
end

theorem iterV_set {rec : Rec} {target iter : Expr} {its : List It} (h : iterV rec sc ρ target iter = some its) (x : Value) : foldedSetIterable iter env x = pure x := by
  cases iter <;> first | rfl | cases h
end Mine
end

section
namespace Mine
open PySem PySem.Calls PyProof.Rows PySem.W

variable {l : Nat} {X : Addr → Prop} {own : Option Str} {gv : Gv} {prog : Program} {w : World} {A : Around} {E : Value → Shared → Prop} {s : Shared} {env : Env} {sc : Sc} {ρ : Ro}

/-- the frame can be stored into -/
structure FS (sc : Sc) (env : Env) (h : Heap) : Prop where
  ns : ∃ m, h.Ns env.locals m
  cell : ∀ x, sc.lookup x = some .cell → ∃ c v, env.cells.lookup x = some c ∧ h.IsCell c v
  apart : ∀ x y c, sc.lookup x = some .cell → env.cells.lookup x = some c → env.cells.lookup y = some c → x = y
theorem FS.at {h h' : Heap} (F : FS sc env h) (k1 : ∀ o, h.get? env.locals = some o → h'.get? env.locals = some o) (k2 : ∀ x c o, env.cells.lookup x = some c → h.get? c = some o → h'.get? c = some o) : FS sc env h' where
  ns := let ⟨m, hm⟩ := F.ns; ⟨m, hm.at' k1⟩
  cell := fun x hx => let ⟨c, v, h1, o, h2, h3⟩ := F.cell x hx; ⟨c, v, h1, o, k2 x c o h1 h2, h3⟩
  apart := F.apart
theorem FS.keeps {h h' : Heap} (F : FS sc env h) (k : ∀ b o, h.get? b = some o → h'.get? b = some o) : FS sc env h' := F.at (fun o e => k _ o e) fun _ c o _ e => k c o e

/-- what a frame's stores may change -/
noncomputable def Fm (sc : Sc) (env : Env) (b : Addr) : Prop := b = env.locals ∨ ∃ x, sc.lookup x = some .cell ∧ env.cells.lookup x = some b
/-- all but W stands -/
noncomputable def But (W : Addr → Prop) (s s' : Shared) : Prop := ∃ h' tk, s' = { s with heap := h', toks := tk } ∧ ∀ b o, ¬ W b → s.heap.get? b = some o → h'.get? b = some o
theorem But.refl {W : Addr → Prop} (s : Shared) : But W s s := ⟨s.heap, s.toks, rfl, fun _ _ _ e => e⟩
theorem But.of {W : Addr → Prop} {s s' : Shared} (k : Keeps s s') : But W s s' := let ⟨h, t, e, q⟩ := k; ⟨h, t, e, fun b o _ x => q b o x⟩
theorem But.trans {W : Addr → Prop} {s s' s'' : Shared} (x : But W s s') (y : But W s' s'') : But W s s'' := by
  obtain ⟨h, t, rfl, k⟩ := x
  obtain ⟨h', t', rfl, k'⟩ := y
  exact ⟨h', t', rfl, fun b o hb e => k' b o hb (k b o hb e)⟩
theorem But.keep {W : Addr → Prop} {s s' : Shared} (x : But W s s') : ∀ b o, ¬ W b → s.heap.get? b = some o → s'.heap.get? b = some o := by
  obtain ⟨h, t, rfl, k⟩ := x
  exact k
theorem But.weak {W W' : Addr → Prop} {s s' : Shared} (x : But W s s') (q : ∀ b o, s.heap.get? b = some o → W b → W' b) : But W' s s' := by
  obtain ⟨h, t, rfl, k⟩ := x
  exact ⟨h, t, rfl, fun b o hb e => k b o (fun z => hb (q b o e z)) e⟩

theorem ns_not_list {h : Heap} {a : Addr} {m : Str → Option Value} {vs : Array Value} (x : h.Ns a m) (y : h.IsList a vs) : False := by
  obtain ⟨o, es, ep, e, hd, _⟩ := x
  obtain ⟨o', e', _, n, hd'⟩ := y
  rw [e] at e'; cases e'; rw [hd] at hd'; cases hd'
theorem cell_not_list {h : Heap} {a : Addr} {v : Option Value} {vs : Array Value} (x : h.IsCell a v) (y : h.IsList a vs) : False := by
  obtain ⟨o, e, hd⟩ := x
  obtain ⟨o', e', _, n, hd'⟩ := y
  rw [e] at e'; cases e'; rw [hd] at hd'; cases hd'
theorem ns_not_cell {h : Heap} {a : Addr} {m : Str → Option Value} {v : Option Value} (x : h.Ns a m) (y : h.IsCell a v) : False := by
  obtain ⟨o, es, ep, e, hd, _⟩ := x
  obtain ⟨o', e', hd'⟩ := y
  rw [e] at e'; cases e'; rw [hd] at hd'; cases hd'

theorem lookup_setR : ∀ (ρ : Ro) (x y : Str) (a : AV), (setR ρ x a).lookup y = if y = x then some a else ρ.lookup y
  | [], x, y, a => by
    simp only [setR, List.lookup_cons, List.lookup_nil]
    by_cases h : y = x
    · subst h; simp
    · rw [if_neg h]
      have : (y == x) = false := by simpa using h
      rw [this]
  | (z, b) :: r, x, y, a => by
    unfold setR
    by_cases hz : z = x
    · subst hz
      rw [if_pos (by simp)]
      simp only [List.lookup_cons]
      by_cases h : y = z
      · subst h; simp
      · rw [if_neg h]
        have : (y == z) = false := by simpa using h
        rw [this]
    · rw [if_neg (by simpa using hz)]
      simp only [List.lookup_cons]
      by_cases h : y = z
      · subst h
        rw [if_neg hz]
        simp
      · have : (y == z) = false := by simpa using h
        rw [this]
        exact lookup_setR r x y a

theorem stk_kind {x : Str} (h : stk sc x = true) : (sc.lookup x = some .local ∨ sc.lookup x = some .cell) ∧ (x == ("__debug__" : Str)) = false := by
  unfold stk at h
  split at h
  · rename_i e; exact ⟨.inl e, by simpa using h⟩
  · rename_i e; exact ⟨.inr e, by simpa using h⟩
  · cases h

/-- what a store leaves: the address stored into, the new name, the others -/
theorem store_raw {x : Str} {v : Value} {Q : Unit → Shared → Prop} (hk : stk sc x = true) (hE : EnvOk sc env) (F : FS sc env s.heap)
    (hQ : ∀ a h' tk, Fm sc env a → Heap.SameBut a s.heap h' → FS sc env h' → Has env h' x v → (∀ y u, y ≠ x → Has env s.heap y u → Has env h' y u) → (∀ vs, ¬ s.heap.IsList a vs) → Q () { s with heap := h', toks := tk }) :
    wpAny (model prog w) A (storeName env x v) Q E s := by
  obtain ⟨hloc, hdb⟩ := stk_kind hk
  obtain ⟨m, hm⟩ := F.ns
  rcases hloc with hx | hx
  · have hx' := hE.names x _ (.inl rfl) hx
    refine wpAny_storeName_local hx' hm (fun h' hn hs => ?_) (by rw [hE.kind]; rfl)
    have hcell : ∀ {c : Addr} {u : Option Value}, s.heap.IsCell c u → h'.IsCell c u := fun hc => hc.sameBut hs fun e => by subst e; exact ns_not_cell hm hc
    refine hQ env.locals h' _ (.inl rfl) hs ⟨⟨_, hn⟩, fun y hy => let ⟨c, u, h1, h2⟩ := F.cell y hy; ⟨c, u, h1, hcell h2⟩, F.apart⟩ ⟨hdb, .inl ⟨hx', _, hn, by simp⟩⟩ (fun y u hyx H => ?_) fun vs q => ns_not_list hm q
    obtain ⟨h0, ⟨h1, m', h2, h3⟩ | ⟨h1, c, h2, h3⟩ | ⟨h1, h4, c, h2, h3⟩⟩ := H
    · refine ⟨h0, .inl ⟨h1, _, hn, ?_⟩⟩
      rw [if_neg hyx]
      obtain ⟨o, es, ep, e1, e2, _, e3⟩ := hm
      obtain ⟨o', es', ep', e1', e2', _, e3'⟩ := h2
      rw [e1] at e1'; cases e1'; rw [e2] at e2'; cases e2'
      rw [← e3, e3', h3]
    · exact ⟨h0, .inr (.inl ⟨h1, c, h2, hcell h3⟩)⟩
    · exact ⟨h0, .inr (.inr ⟨h1, h4, c, h2, hcell h3⟩)⟩
  · have hx' := hE.names x _ (.inr (.inl rfl)) hx
    obtain ⟨c, u, hc, hcu⟩ := F.cell x hx
    refine wpAny_storeName_cell hE.kind hx' hc hcu fun h' hcv hs => ?_
    have hL : env.locals ≠ c := fun e => by rw [e] at hm; exact ns_not_cell hm hcu
    have hcell : ∀ {y : Str} {c' : Addr} {u : Option Value}, y ≠ x → env.cells.lookup y = some c' → s.heap.IsCell c' u → h'.IsCell c' u := fun hy hl hc' =>
      hc'.sameBut hs fun e => hy (F.apart _ _ _ hx hc (e ▸ hl)).symm
    refine hQ c h' _ (.inr ⟨x, hx, hc⟩) hs ⟨⟨m, hm.sameBut hs hL⟩, fun y hy => ?_, F.apart⟩ ⟨hdb, .inr (.inl ⟨hx', c, hc, hcv⟩)⟩ (fun y u hyx H => ?_) fun vs q => cell_not_list hcu q
    · by_cases hyx : y = x
      · subst hyx; exact ⟨c, _, hc, hcv⟩
      · obtain ⟨c', u', h1, h2⟩ := F.cell y hy
        exact ⟨c', u', h1, hcell hyx h1 h2⟩
    · obtain ⟨h0, ⟨h1, m', h2, h3⟩ | ⟨h1, c', h2, h3⟩ | ⟨h1, h4, c', h2, h3⟩⟩ := H
      · exact ⟨h0, .inl ⟨h1, m', h2.sameBut hs hL, h3⟩⟩
      · exact ⟨h0, .inr (.inl ⟨h1, c', h2, hcell hyx h2 h3⟩)⟩
      · exact ⟨h0, .inr (.inr ⟨h1, h4, c', h2, hcell hyx h2 h3⟩)⟩

theorem store_sound {x : Str} {v : Value} {av : AV} {Q : Unit → Shared → Prop} (hk : stk sc x = true) (hE : EnvOk sc env) (F : FS sc env s.heap) (L : Loc l X own env s.heap ρ) (hx : own ≠ some x) (r : Rep l X s.heap v av)
    (hQ : ∀ s', But (Fm sc env) s s' → FS sc env s'.heap → Loc l X own env s'.heap (setR ρ x av) → Stays X s.heap s'.heap → Q () s') : wpAny (model prog w) A (storeName env x v) Q E s := by
  refine store_raw hk hE F fun a h' tk hfm hs F' hx' hothers hnl => ?_
  have hst : Stays X s.heap h' := fun b vs hb _ o e => hs.extBut b o (fun q => hnl vs (q ▸ hb)) e
  refine hQ _ ⟨h', tk, rfl, fun b o hb e => hs.extBut b o (fun q => hb (q ▸ hfm)) e⟩ F' ⟨fun y av' hy hoy => ?_, fun y av' hy hoy => ?_⟩ hst
  · rw [lookup_setR] at hy
    by_cases hyx : y = x
    · rw [if_pos hyx] at hy
      cases hy
      subst hyx
      exact ⟨v, hx', r.later hst⟩
    · rw [if_neg hyx] at hy
      obtain ⟨u, h1, h2⟩ := L.var y av' hy hoy
      exact ⟨u, hothers y u hyx h1, h2.later hst⟩
  · rw [lookup_setR] at hy
    by_cases hyx : y = x
    · exact absurd (hyx ▸ hoy) hx
    · rw [if_neg hyx] at hy
      obtain ⟨b, vs, xs, h1, h2, h3, h4, h5, h6⟩ := L.own y av' hy hoy
      exact ⟨b, vs, xs, h1, hothers y _ hyx h2, h3, h4.at fun o e => hs.extBut b o (fun q => hnl _ (q ▸ h4.isList)) e, h5, fun i v y e1 e2 => (h6 i v y e1 e2).later hst⟩
end Mine
end

section
namespace Mine
open PySem PySem.Calls PyProof.Rows PySem.W

variable {l : Nat} {X : Addr → Prop} {own : Option Str} {gv : Gv} {prog : Program} {w : World} {A : Around} {E : Value → Shared → Prop} {s : Shared} {env : Env} {sc : Sc} {ρ : Ro}

theorem ext_keeps {s : Shared} {h' : Heap} (x : Heap.ExtBut s.heap.objs.size s.heap h') : Keeps s { s with heap := h' } :=
  ⟨h', s.toks, rfl, fun b o e => x b o (Nat.ne_of_lt (Heap.lt_size e)) e⟩

theorem bindV_inv {t : Expr} {i : It} {ρ' : Ro} (h : bindV own sc ρ t i = some ρ') :
    (∃ x p a, t = .Name x p ∧ i = .one a ∧ stk sc x = true ∧ own ≠ some x ∧ ρ' = setR ρ x a) ∨
    (∃ x px y py k pos a b, t = .Tuple [.Name x px, .Name y py] k pos ∧ i = .two a b ∧ stk sc x = true ∧ stk sc y = true ∧ own ≠ some x ∧ own ≠ some y ∧ ρ' = setR (setR ρ x a) y b) := by
  unfold bindV at h
  split at h
  · split at h
    · split at h
      · rename_i hk
        simp only [Bool.and_eq_true, Bool.not_eq_true', beq_eq_false_iff_ne, ne_eq] at hk
        cases h
        exact .inl ⟨_, _, _, rfl, rfl, hk.1, hk.2, rfl⟩
      · cases h
    · cases h
  · split at h
    · cases h
    · split at h
      · rename_i hp
        cases pairN_inv hp
        split at h
        · rename_i hk
          simp only [Bool.and_eq_true, Bool.not_eq_true', beq_eq_false_iff_ne, ne_eq] at hk
          obtain ⟨⟨⟨h1, h2⟩, h3⟩, h4⟩ := hk
          cases h
          exact .inr ⟨_, _, _, _, _, _, _, _, rfl, rfl, h1, h2, h3, h4, rfl⟩
        · cases h
      · cases h
  · cases h

/-- a loop's target takes its thing -/
theorem bind_sound {target : Expr} {it : It} {ρ' : Ro} {v : Value} {Q : Unit → Shared → Prop} (h : bindV own sc ρ target it = some ρ') (hh : A.handled = Option.none) (hE : EnvOk sc env) (F : FS sc env s.heap) (L : Loc l X own env s.heap ρ) (hi : ItemIs l X s.heap v it)
    (hQ : ∀ s', But (Fm sc env) s s' → FS sc env s'.heap → Loc l X own env s'.heap ρ' → Stays X s.heap s'.heap → Q () s') : wpAny (model prog w) A (assign target env v) Q E s := by
  rcases bindV_inv h with ⟨x, p, a, rfl, rfl, h1, h2, rfl⟩ | ⟨x, px, y, py, kk, pos, a, b, rfl, rfl, h1, h2, h3, h4, rfl⟩
  · exact wpAny_assign_Name (store_sound h1 hE F L h2 hi hQ)
  · obtain ⟨T, x, y, rfl, hT, r1, r2⟩ := hi
    refine wpAny_assign_Tuple hh hT rfl rfl fun h' hx => ?_
    have k := ext_keeps hx
    refine assignInOrder_cons (wpAny_assign_Name (store_sound h1 hE (F.keeps (Keeps.keep k)) (L.keeps (Keeps.keep k)) h3 (r1.keeps (Keeps.keep k)) fun s₁ b1 F1 L1 st1 => ?_))
    refine assignInOrder_cons (wpAny_assign_Name (store_sound h2 hE F1 L1 h4 ((r2.keeps (Keeps.keep k)).later st1) fun s₂ b2 F2 L2 st2 => assignInOrder_nil (hQ s₂ (But.trans (But.of k) (But.trans b1 b2)) F2 L2 ?_)))
    intro b vs hb hX o e
    have e1 := Keeps.keep k b o e
    have hb1 : ({ s with heap := h' } : Shared).heap.IsList b vs := isList_at hb fun o e => Keeps.keep k b o e
    exact st2 b vs (isList_at hb1 fun o e => st1 b vs hb1 hX o e) hX o (st1 b vs hb1 hX o e1)

/-- a comprehension's own frame -/
theorem newEnv_comp {M : Model} {scope : Scope} {cl : List (Str × Addr)} {Q : Env → Shared → Prop}
    (h : Q { scope := scope, locals := s.heap.objs.size, globals := env.globals, cells := cellsFrom (s.heap.objs.size + 1) scope.names cl, qual := env.qual, func := Option.none, code := env.code, frame := env.frame, builtins := env.builtins }
      { s with heap := pushCells (s.heap.push { cls := .type "dict", data := .dict #[] }) scope.names }) :
    wpAny M A (newFunctionEnv scope env.globals cl [] env.qual Option.none .none (some env)) Q E s := by
  simp only [newFunctionEnv, Option.isSome_some, if_true]
  refine wpAny_bind (wpAny_alloc ?_)
  refine wpAny_bind (wpAny_layCells _ (fun name kind cells => by cases hkc : kind == NameKind.cell <;> simp [hkc]) _ _ _ _ ?_)
  rw [show ({ s with heap := s.heap.push { cls := .type "dict", data := .dict #[] } } : Shared).heap.objs.size = s.heap.objs.size + 1 from Heap.size_push ..]
  exact wpAny_bind (wpAny_pure (wpAny_pure h))

theorem cf_cell : ∀ (names : Sc) (n : Nat) (acc : List (Str × Addr)) (x : Str), (x, NameKind.cell) ∈ names → ∃ c, (cellsFrom n names acc).lookup x = some c ∧ n ≤ c
  | [], _, _, _, h => by simp at h
  | (y, k) :: r, n, acc, x, h => by
    unfold cellsFrom
    have later : ∀ m (acc' : List (Str × Addr)), n ≤ m → (∃ c, acc'.lookup x = some c ∧ n ≤ c) → ∃ c, (cellsFrom m r acc').lookup x = some c ∧ n ≤ c := by
      intro m acc' hm hacc
      clear h
      induction r generalizing m acc' with
      | nil => exact hacc
      | cons p r ih =>
        obtain ⟨z, k'⟩ := p
        unfold cellsFrom
        split
        · refine ih (m + 1) ((z, m) :: acc') (by omega) ?_
          rw [List.lookup_cons]
          cases x == z with
          | true => exact ⟨m, rfl, hm⟩
          | false => exact hacc
        · exact ih m acc' hm hacc
    rcases List.mem_cons.mp h with e | h
    · cases e
      rw [if_pos (by rfl)]
      exact later (n + 1) _ (by omega) ⟨n, by simp, Nat.le_refl _⟩
    · split
      · obtain ⟨c, h1, h2⟩ := cf_cell r (n + 1) ((y, n) :: acc) x h
        exact ⟨c, h1, by omega⟩
      · exact cf_cell r n acc x h
theorem cf_other : ∀ (names : Sc) (n : Nat) (acc : List (Str × Addr)) (x : Str), (x, NameKind.cell) ∉ names → (cellsFrom n names acc).lookup x = acc.lookup x
  | [], _, _, _, _ => rfl
  | (y, k) :: r, n, acc, x, h => by
    unfold cellsFrom
    split
    · rename_i hk
      have hk' := eq_of_beq hk
      subst hk'
      have hne : x ≠ y := fun e => h (by rw [e]; exact List.mem_cons_self)
      rw [cf_other r (n + 1) ((y, n) :: acc) x fun q => h (List.mem_cons_of_mem _ q), List.lookup_cons]
      have : (x == y) = false := by simpa using hne
      rw [this]
    · exact cf_other r n acc x fun q => h (List.mem_cons_of_mem _ q)
/-- the new ones are cells, and no two are one -/
theorem cf_new : ∀ (names : Sc) (h : Heap) (acc : List (Str × Addr)) (lo : Nat), lo ≤ h.objs.size → (∀ x c, acc.lookup x = some c → c < lo ∨ h.IsCell c Option.none ∧ c < h.objs.size) →
    (∀ x y c, lo ≤ c → acc.lookup x = some c → acc.lookup y = some c → x = y) →
    (∀ x c, (cellsFrom h.objs.size names acc).lookup x = some c → c < lo ∨ (pushCells h names).IsCell c Option.none ∧ c < (pushCells h names).objs.size) ∧
    (∀ x y c, lo ≤ c → (cellsFrom h.objs.size names acc).lookup x = some c → (cellsFrom h.objs.size names acc).lookup y = some c → x = y)
  | [], h, acc, lo, _, h1, h2 => ⟨h1, h2⟩
  | (z, k) :: r, h, acc, lo, hlo, h1, h2 => by
    unfold cellsFrom pushCells
    split
    · have hsz : (h.push { cls := .type "cell", data := .cell Option.none }).objs.size = h.objs.size + 1 := Heap.size_push ..
      have old : ∀ w c, acc.lookup w = some c → @LT.lt Nat _ c h.objs.size := fun w c e => by
        rcases h1 w c e with q | ⟨_, q⟩
        · exact Nat.lt_of_lt_of_le q hlo
        · exact q
      have cases_ : ∀ w c, List.lookup w ((z, h.objs.size) :: acc) = some c → (w = z ∧ c = h.objs.size) ∨ acc.lookup w = some c := fun w c e => by
        rw [List.lookup_cons] at e
        by_cases q : w = z
        · subst q
          simp at e
          exact .inl ⟨rfl, e.symm⟩
        · have : (w == z) = false := by simpa using q
          rw [this] at e
          exact .inr e
      have := cf_new r (h.push { cls := .type "cell", data := .cell Option.none }) ((z, h.objs.size) :: acc) lo (by rw [hsz]; omega) (fun x c e => ?_) (fun x y c hc e1 e2 => ?_)
      · rw [hsz] at this; exact this
      · rcases cases_ x c e with ⟨rfl, rfl⟩ | e
        · exact .inr ⟨⟨_, Heap.get?_push_size _ rfl, rfl⟩, by rw [hsz]; exact Nat.lt_succ_self _⟩
        · rcases h1 x c e with q | ⟨⟨o, q1, q2⟩, q3⟩
          · exact .inl q
          · exact .inr ⟨⟨o, Heap.get?_push_of_some _ q1, q2⟩, by rw [hsz]; exact Nat.lt_succ_of_lt q3⟩
      · rcases cases_ x c e1 with ⟨rfl, rfl⟩ | e1' <;> rcases cases_ y _ e2 with ⟨rfl, e3⟩ | e2'
        · rfl
        · exact absurd (old _ _ e2') (Nat.lt_irrefl _)
        · subst e3
          exact absurd (old _ _ e1') (Nat.lt_irrefl _)
        · exact h2 x y c hc e1' e2'
    · exact cf_new r h acc lo hlo h1 h2

noncomputable def clOf (env : Env) : Sc → List (Str × Addr) → List (Str × Addr)
  | [], acc => acc
  | (n, k) :: r, acc => clOf env r (if k == .free then (n, (env.cells.lookup n).getD 0) :: acc else acc)
theorem forIn_clOf (cellOf' : Str → Sem Addr) : ∀ (names : Sc) (acc : List (Str × Addr)), (∀ n, (n, NameKind.free) ∈ names → cellOf' n = pure ((env.cells.lookup n).getD 0)) →
      (forIn names acc fun (x : Str × NameKind) cs => if (x.2 == NameKind.free) = true then do let a ← cellOf' x.1; pure (ForInStep.yield ((x.1, a) :: cs)) else pure (ForInStep.yield cs)) = (pure (clOf env names acc) : Sem _)
  | [], acc, _ => rfl
  | (n, k) :: r, acc, hc => by
    rw [List.forIn_cons]
    by_cases hk : (k == NameKind.free) = true
    · have hk' := eq_of_beq hk
      subst hk'
      rw [if_pos (by exact hk), hc n List.mem_cons_self]
      simp only [pure_bind]
      rw [forIn_clOf cellOf' r _ fun m hm => hc m (List.mem_cons_of_mem _ hm)]
      conv => rhs; unfold clOf
      rw [if_pos hk]
    · rw [if_neg (by exact hk)]
      simp only [pure_bind]
      rw [forIn_clOf cellOf' r acc fun m hm => hc m (List.mem_cons_of_mem _ hm)]
      conv => rhs; unfold clOf
      rw [if_neg hk]
theorem closure_is {scope : Scope} (h : ∀ n, (n, NameKind.free) ∈ scope.names → ∃ c, env.cells.lookup n = some c) : closureFor scope env = pure (clOf env scope.names []) := by
  have := forIn_clOf (env := env) (cellOf env) scope.names [] fun n hn => by
    obtain ⟨c, e⟩ := h n hn
    unfold cellOf
    rw [e]
    rfl
  unfold closureFor
  rw [← this]
  simp only [bind_pure]
theorem clOf_lookup : ∀ (names : Sc) (acc : List (Str × Addr)) (x : Str), (clOf env names acc).lookup x = if (x, NameKind.free) ∈ names then some ((env.cells.lookup x).getD 0) else acc.lookup x
  | [], acc, x => by simp [clOf]
  | (n, k) :: r, acc, x => by
    unfold clOf
    rw [clOf_lookup r _ x]
    by_cases hr : (x, NameKind.free) ∈ r
    · rw [if_pos hr, if_pos (List.mem_cons_of_mem _ hr)]
    · rw [if_neg hr]
      by_cases hk : (k == NameKind.free) = true
      · have hk' := eq_of_beq hk
        subst hk'
        rw [if_pos hk, List.lookup_cons]
        by_cases hx : x = n
        · subst hx
          simp
        · have : (x == n) = false := by simpa using hx
          rw [this, if_neg (by simp [hx, hr])]
      · rw [if_neg hk, if_neg]
        intro hm
        rcases List.mem_cons.mp hm with e | e
        · cases e; exact hk rfl
        · exact hr e
end Mine
end

section
namespace Mine
open PySem PySem.Calls PyProof.Rows PySem.W

variable {l : Nat} {X : Addr → Prop} {own : Option Str} {gv : Gv} {prog : Program} {w : World} {A : Around} {E : Value → Shared → Prop} {s : Shared} {env : Env} {sc : Sc} {ρ : Ro}

noncomputable def relF (env : Env) (p : Str × NameKind) : Str × NameKind := if (p.2 == NameKind.free && env.scope.kind == .function && env.kindOf p.1 == some .cell) then (p.1, NameKind.cell) else (p.1, p.2)
theorem relF_fst (env : Env) (p : Str × NameKind) : (relF env p).1 = p.1 := by unfold relF; split <;> rfl
theorem lookup_relF : ∀ (names : Sc) (x : Str), (names.map (relF env)).lookup x = (names.lookup x).map fun k => (relF env (x, k)).2
  | [], x => rfl
  | (n, k) :: r, x => by
    rw [List.map_cons]
    rw [show relF env (n, k) = (n, (relF env (n, k)).2) from Prod.ext (relF_fst ..) rfl]
    rw [List.lookup_cons, List.lookup_cons]
    by_cases hx : x = n
    · subst hx; simp
    · have : (x == n) = false := by simpa using hx
      rw [this]
      exact lookup_relF r x

noncomputable def cenvOf (scope : Scope) (env : Env) (C : Addr) : Env :=
  { scope := relabel scope env, locals := C, globals := env.globals, cells := cellsFrom (C + 1) scope.names (clOf env scope.names []), qual := env.qual, func := Option.none, code := env.code, frame := env.frame, builtins := env.builtins }
theorem cenv_kind (scope : Scope) (env : Env) (C : Addr) (x : Str) : (cenvOf scope env C).kindOf x = (scope.names.lookup x).map fun k => (relF env (x, k)).2 := lookup_relF (env := env) scope.names x

theorem pushCells_old : ∀ (names : Sc) (h : Heap) b o, h.get? b = some o → (pushCells h names).get? b = some o
  | [], _, _, _, e => e
  | (_, k) :: r, h, b, o, e => by
    unfold pushCells
    split
    · exact pushCells_old r _ b o (Heap.get?_push_of_some _ e)
    · exact pushCells_old r h b o e

theorem lookup_mem {β : Type} : ∀ {names : List (Str × β)} {x : Str} {k : β}, names.lookup x = some k → (x, k) ∈ names
  | [], _, _, h => by cases h
  | (n, k') :: r, x, k, h => by
    rw [List.lookup_cons] at h
    by_cases hx : x = n
    · subst hx
      simp at h
      subst h
      exact List.mem_cons_self
    · have : (x == n) = false := by simpa using hx
      rw [this] at h
      exact List.mem_cons_of_mem _ (lookup_mem h)

theorem seen_lookup (scope : Scope) : ∀ (ρ : Ro) (x : Str) (av : AV), (seen scope ρ).lookup x = some av → ρ.lookup x = some av ∧ scope.names.lookup x = some .free
  | [], _, _, h => by cases h
  | (y, b) :: r, x, av, h => by
    unfold seen at h
    rw [List.filter_cons] at h
    rw [List.lookup_cons]
    by_cases hx : x = y
    · subst hx
      split at h
      · rename_i hf
        rw [List.lookup_cons] at h
        simp only [beq_self_eq_true] at h ⊢
        exact ⟨h, by simpa using hf⟩
      · rename_i hf
        have := seen_lookup scope r x av h
        exact absurd (by simpa using this.2) hf
    · have hb : (x == y) = false := by simpa using hx
      rw [hb]
      split at h
      · rw [List.lookup_cons, hb] at h
        exact seen_lookup scope r x av h
      · exact seen_lookup scope r x av h

structure CompAt (l : Nat) (X : Addr → Prop) (own : Option Str) (scope : Scope) (ρ : Ro) (s₂ s₄ : Shared) (D : Addr) (cenv : Env) : Prop where
  envOk : EnvOk scope.names cenv
  fs : FS scope.names cenv s₄.heap
  loc : Loc l (fun b => X b ∨ b = D) own cenv s₄.heap (seen scope ρ)
  old : Old (fun b => X b ∨ b = D) s₄.heap
  keeps : Keeps s₂ s₄
  acc : s₄.heap.PlainList D #[]
  szD : s₂.heap.objs.size ≤ D
  szF : ∀ b, Fm scope.names cenv b → s₂.heap.objs.size ≤ b
  newC : s₂.heap.get? cenv.locals = Option.none
  apart : cenv.locals ≠ D
theorem CompAt.newD {scope : Scope} {s₂ s₄ : Shared} {D : Addr} {cenv : Env} (c : CompAt l X own scope ρ s₂ s₄ D cenv) : s₂.heap.get? D = Option.none := get_new c.szD
theorem CompAt.newF {scope : Scope} {s₂ s₄ : Shared} {D : Addr} {cenv : Env} (c : CompAt l X own scope ρ s₂ s₄ D cenv) (b : Addr) (h : Fm scope.names cenv b) : s₂.heap.get? b = Option.none := get_new (c.szF b h)

theorem comp_frame {scope : Scope} {cl : List (Str × Addr)} {Q : Value → Env → Shared → Prop} (hE : EnvOk sc env) (hs : scOk scope sc ρ = true) (L : Loc l X own env s.heap ρ) (O : Old X s.heap) (hcl : closureFor scope env = pure cl)
    (hQ : ∀ D C s₄, CompAt l X own scope ρ s s₄ D (cenvOf scope env C) → Q (.ref D) (cenvOf scope env C) s₄) :
    wpAny (model prog w) A (newList []) (fun acc s₃ => wpAny (model prog w) A (newFunctionEnv scope env.globals cl [] env.qual Option.none .none (some env)) (fun cenv s₄ => Q acc { cenv with scope := relabel scope env } s₄) E s₃) E s := by
  simp only [scOk, Bool.and_eq_true, List.all_eq_true] at hs
  obtain ⟨hkind, hs⟩ := hs
  have hkind : scope.kind = .function := by
    cases hk : scope.kind <;> rw [hk] at hkind <;> first | rfl | cases hkind
  have hlook : ∀ x k, (x, k) ∈ scope.names → scope.names.lookup x = some k := fun x k hm => by have := (hs _ hm).1; simpa using this
  have hfree : ∀ x, (x, NameKind.free) ∈ scope.names → env.kindOf x = some .cell ∧ ∃ av, ρ.lookup x = some av := fun x hm => by
    have := (hs _ hm).2
    dsimp only at this
    split at this
    · rename_i hc
      refine ⟨hE.names x _ (.inr (.inl rfl)) hc, ?_⟩
      cases e : ρ.lookup x with
      | none => rw [e] at this; cases this
      | some av => exact ⟨av, rfl⟩
    · cases this
  have hcellv : ∀ x, (x, NameKind.free) ∈ scope.names → ∃ c v, env.cells.lookup x = some c ∧ s.heap.IsCell c (some v) ∧ (x == ("__debug__" : Str)) = false := fun x hm => by
    obtain ⟨hk, av, hav⟩ := hfree x hm
    have key : ∀ v, Has env s.heap x v → ∃ c v, env.cells.lookup x = some c ∧ s.heap.IsCell c (some v) ∧ (x == ("__debug__" : Str)) = false := fun v H => by
      obtain ⟨h0, ⟨h1, _⟩ | ⟨_, c, h2, h3⟩ | ⟨h1, _⟩⟩ := H
      · rw [hk] at h1; cases h1
      · exact ⟨c, v, h2, h3, h0⟩
      · rw [hk] at h1; cases h1
    by_cases ho : own = some x
    · obtain ⟨a, _, _, _, H, _⟩ := L.own x av hav ho
      exact key _ H
    · obtain ⟨v, H, _⟩ := L.var x av hav ho
      exact key v H
  have hcl' : cl = clOf env scope.names [] := by
    have := closure_is (env := env) (scope := scope) fun n hn => let ⟨c, _, h, _⟩ := hcellv n hn; ⟨c, h⟩
    rw [hcl] at this
    injection this
  subst hcl'
  refine wpAny_newObj_type (newEnv_comp ?_)
  dsimp only
  generalize hH2 : s.heap.push { cls := .type "list", dict := Option.none, data := .seq ([] : List Value).toArray } = H2
  have hC : H2.objs.size = s.heap.objs.size + 1 := by rw [← hH2, Heap.size_push]
  generalize hH3 : H2.push { cls := .type "dict", data := .dict #[] } = H3
  have hC3 : H3.objs.size = H2.objs.size + 1 := by rw [← hH3, Heap.size_push]
  have k2 : ∀ b o, s.heap.get? b = some o → H2.get? b = some o := fun b o e => hH2 ▸ Heap.get?_push_of_some _ e
  have k3 : ∀ b o, H2.get? b = some o → H3.get? b = some o := fun b o e => hH3 ▸ Heap.get?_push_of_some _ e
  have k4 := pushCells_old scope.names H3
  have kall : ∀ b o, s.heap.get? b = some o → (pushCells H3 scope.names).get? b = some o := fun b o e => k4 b o (k3 b o (k2 b o e))
  have hacc : (pushCells H3 scope.names).PlainList s.heap.objs.size #[] := ⟨_, k4 _ _ (k3 _ _ (hH2 ▸ Heap.get?_push_size _ rfl))⟩
  have hns : (pushCells H3 scope.names).Ns H2.objs.size (fun _ => Option.none) := by
    have : H3.Ns H2.objs.size (fun _ => Option.none) := by rw [← hH3]; exact Heap.Ns.new H2 _
    exact this.keeps k4
  have hacc0 : ∀ x c, (clOf env scope.names []).lookup x = some c → (x, NameKind.free) ∈ scope.names ∧ env.cells.lookup x = some c := fun x c e => by
    rw [clOf_lookup] at e
    split at e
    · rename_i hm
      obtain ⟨c', _, h1, _⟩ := hcellv x hm
      rw [h1] at e
      simp at e
      subst e
      exact ⟨hm, h1⟩
    · cases e
  have hnew := cf_new scope.names H3 (clOf env scope.names []) (H2.objs.size + 1) (by rw [hC3]; exact Nat.le_refl _) (fun x c e => by
      obtain ⟨hm, h1⟩ := hacc0 x c e
      obtain ⟨c', v, h2, ⟨o, h3, _⟩, _⟩ := hcellv x hm
      rw [h1] at h2; cases h2
      exact .inl (Nat.lt_of_lt_of_le (Heap.lt_size (k2 _ _ h3)) (Nat.le_succ _))) (fun x y c hc e1 _ => by
      obtain ⟨hm, h1⟩ := hacc0 x c e1
      obtain ⟨c', v, h2, ⟨o, h3, _⟩, _⟩ := hcellv x hm
      rw [h1] at h2; cases h2
      exact absurd (Heap.lt_size (k2 _ _ h3)) (by have : H2.objs.size + 1 ≤ (c : Nat) := hc; exact Nat.not_lt.mpr (Nat.le_of_succ_le this)))
  rw [hC3] at hnew
  have hcells : ∀ x, scope.names.lookup x = some .cell → ∃ c, (cellsFrom (H2.objs.size + 1) scope.names (clOf env scope.names [])).lookup x = some c ∧ H2.objs.size + 1 ≤ c ∧ (pushCells H3 scope.names).IsCell c Option.none := fun x hx => by
    obtain ⟨c, h1, h2⟩ := cf_cell scope.names (H2.objs.size + 1) (clOf env scope.names []) x (lookup_mem hx)
    refine ⟨c, h1, h2, ?_⟩
    rcases hnew.1 x c h1 with q | q
    · exact absurd q (Nat.not_lt.mpr h2)
    · exact q.1
  have hfr : ∀ x, scope.names.lookup x = some .free → ∃ c v, (cenvOf scope env H2.objs.size).cells.lookup x = some c ∧ env.cells.lookup x = some c ∧ s.heap.IsCell c (some v) ∧ (x == ("__debug__" : Str)) = false ∧ (cenvOf scope env H2.objs.size).kindOf x = some .cell := fun x hx => by
    have hm := lookup_mem hx
    obtain ⟨c, v, h1, h2, h3⟩ := hcellv x hm
    refine ⟨c, v, ?_, h1, h2, h3, ?_⟩
    · show (cellsFrom _ _ _).lookup x = _
      rw [cf_other _ _ _ _ fun q => by have := hlook _ _ q; rw [hx] at this; cases this]
      rw [clOf_lookup, if_pos hm, h1]
      rfl
    · rw [cenv_kind, hx]
      show some (relF env (x, .free)).2 = _
      unfold relF
      rw [if_pos (by simp [hE.kind, (hfree x hm).1])]
  have hXn : ∀ b, (X b ∨ b = s.heap.objs.size) → X b ∨ s.heap.get? b = Option.none := fun b hb => by
    rcases hb with q | q
    · exact .inl q
    · subst q; exact .inr (get_new (Nat.le_refl _))
  have newAt : ∀ b : Nat, s.heap.objs.size ≤ b → s.heap.get? b = Option.none := fun b hb => get_new hb
  refine hQ s.heap.objs.size H2.objs.size _ ⟨⟨hkind, hE.glob, hE.blt, fun x k hk hx => ?_⟩, ⟨⟨_, hns⟩, fun x hx => ?_, fun x y c hx e1 e2 => ?_⟩, ⟨fun x av hx ho => ?_, fun x av hx ho => ?_⟩, ?_, ⟨_, _, rfl, kall⟩, hacc, Nat.le_refl _, ?_, newAt _ (by show s.heap.objs.size ≤ H2.objs.size; rw [hC]; exact Nat.le_succ _), ?_⟩
  · rw [cenv_kind, hx]
    show some (relF env (x, k)).2 = _
    unfold relF
    rcases hk with rfl | rfl | rfl <;> rfl
  · obtain ⟨c, h1, _, h3⟩ := hcells x hx
    exact ⟨c, _, h1, h3⟩
  · obtain ⟨c', h1, h2, _⟩ := hcells x hx
    have e1' : (cellsFrom (H2.objs.size + 1) scope.names (clOf env scope.names [])).lookup x = some c := e1
    rw [h1] at e1'
    cases e1'
    exact hnew.2 x y _ h2 h1 e2
  · obtain ⟨hx, hf⟩ := seen_lookup scope ρ x av hx
    obtain ⟨v, H, r⟩ := L.var x av hx ho
    obtain ⟨c, v', h1, h2, h3, h4, h5⟩ := hfr x hf
    refine ⟨v, ⟨h4, .inr (.inl ⟨h5, c, h1, ?_⟩)⟩, (r.more fun b hb => hXn b hb).keeps kall⟩
    have hk := (hfree x (lookup_mem hf)).1
    obtain ⟨h0, ⟨q1, _⟩ | ⟨_, c'', q2, q3⟩ | ⟨q1, _⟩⟩ := H
    · rw [hk] at q1; cases q1
    · rw [h2] at q2; cases q2
      exact q3.keeps kall
    · rw [hk] at q1; cases q1
  · obtain ⟨hx, hf⟩ := seen_lookup scope ρ x av hx
    obtain ⟨a, vs, xs, r1, H, r3, r4, r5, r6⟩ := L.own x av hx ho
    obtain ⟨c, v', h1, h2, h3, h4, h5⟩ := hfr x hf
    refine ⟨a, vs, xs, r1, ⟨h4, .inr (.inl ⟨h5, c, h1, ?_⟩)⟩, .inl r3, r4.at fun o e => kall _ o e, r5, fun i v y e1 e2 => ((r6 i v y e1 e2).more fun b hb => hXn b hb).keeps kall⟩
    have hk := (hfree x (lookup_mem hf)).1
    obtain ⟨h0, ⟨q1, _⟩ | ⟨_, c'', q2, q3⟩ | ⟨q1, _⟩⟩ := H
    · rw [hk] at q1; cases q1
    · rw [h2] at q2; cases q2
      exact q3.keeps kall
    · rw [hk] at q1; cases q1
  · intro b hb
    rcases hb with hb | rfl
    · obtain ⟨o, e⟩ := O b hb
      exact ⟨o, kall b o e⟩
    · obtain ⟨n, e⟩ := hacc
      exact ⟨_, e⟩
  · intro b hb
    rcases hb with rfl | ⟨x, hx, hb⟩
    · show s.heap.objs.size ≤ H2.objs.size
      rw [hC]; exact Nat.le_succ _
    · obtain ⟨c, h1, h2, _⟩ := hcells x hx
      have hb' : (cellsFrom (H2.objs.size + 1) scope.names (clOf env scope.names [])).lookup x = some b := hb
      rw [h1] at hb'
      cases hb'
      refine Nat.le_trans ?_ h2
      rw [hC]
      exact Nat.le_succ_of_le (Nat.le_succ _)
  · show H2.objs.size ≠ s.heap.objs.size
    rw [hC]
    exact Nat.succ_ne_self _
end Mine
end

section
namespace Mine
open PySem PySem.Calls PyProof.Rows PySem.W

variable {l : Nat} {X : Addr → Prop} {own : Option Str} {gv : Gv} {prog : Program} {w : World} {A : Around} {E : Value → Shared → Prop} {s : Shared} {env : Env} {sc : Sc} {ρ : Ro}

/-- lists, namespaces and cells stand -/
noncomputable def Soft (h h' : Heap) : Prop := ∀ b o, h.get? b = some o → ¬ Odd o → h'.get? b = some o
theorem list_not_odd {h : Heap} {a : Addr} {vs : Array Value} (x : h.IsList a vs) : ∀ o, h.get? a = some o → ¬ Odd o := fun o e q => by
  obtain ⟨o', e', h1, _⟩ := x
  rw [e] at e'; cases e'
  exact q.1 h1
theorem ns_not_odd {h : Heap} {a : Addr} {m : Str → Option Value} (x : h.Ns a m) : ∀ o, h.get? a = some o → ¬ Odd o := fun o e q => by
  obtain ⟨o', es, ep, e', hd, _⟩ := x
  rw [e] at e'; cases e'
  exact q.2.1 _ _ hd
theorem cell_not_odd {h : Heap} {a : Addr} {v : Option Value} (x : h.IsCell a v) : ∀ o, h.get? a = some o → ¬ Odd o := fun o e q => by
  obtain ⟨o', e', hd⟩ := x
  rw [e] at e'; cases e'
  exact q.2.2 _ hd
theorem Rep.soft {h h' : Heap} {v : Value} {a : AV} (r : Rep l X h v a) (k : Soft h h') : Rep l X h' v a := r.later fun b _ hb _ o e => k b o e (list_not_odd hb o e)
theorem RepL.soft {h h' : Heap} {vs : List Value} {as : List AV} (r : RepL l X h vs as) (k : Soft h h') : RepL l X h' vs as := ⟨r.1, fun i v x e1 e2 => (r.2 i v x e1 e2).soft k⟩
theorem RepL.later {h h' : Heap} {vs : List Value} {as : List AV} (r : RepL l X h vs as) (k : Stays X h h') : RepL l X h' vs as := ⟨r.1, fun i v x e1 e2 => (r.2 i v x e1 e2).later k⟩
theorem RepL.snoc {h : Heap} {v : Value} {a : AV} : ∀ {vs : List Value} {as : List AV}, RepL l X h vs as → Rep l X h v a → RepL l X h (vs ++ [v]) (as ++ [a])
  | [], [], _, r => .cons r .nil
  | u :: vs, b :: as, rs, r => by
    have h0 : Rep l X h u b := rs.2 0 u b rfl rfl
    have h1 : RepL l X h vs as := ⟨by have := rs.1; simpa using this, fun i v x e1 e2 => rs.2 (i + 1) v x (by simpa using e1) (by simpa using e2)⟩
    exact .cons h0 (RepL.snoc h1 r)
  | [], _ :: _, rs, _ => by have := rs.1; simp at this
  | _ :: _, [], rs, _ => by have := rs.1; simp at this
theorem Has.soft {h h' : Heap} {x : Str} {v : Value} (H : Has env h x v) (k : Soft h h') : Has env h' x v := by
  obtain ⟨h0, ⟨h1, m, h2, h3⟩ | ⟨h1, c, h2, h3⟩ | ⟨h1, h4, c, h2, h3⟩⟩ := H
  · exact ⟨h0, .inl ⟨h1, m, h2.at' fun o e => k _ o e (ns_not_odd h2 o e), h3⟩⟩
  · obtain ⟨o, e, hd⟩ := h3
    exact ⟨h0, .inr (.inl ⟨h1, c, h2, o, k _ o e (cell_not_odd ⟨o, e, hd⟩ o e), hd⟩)⟩
  · obtain ⟨o, e, hd⟩ := h3
    exact ⟨h0, .inr (.inr ⟨h1, h4, c, h2, o, k _ o e (cell_not_odd ⟨o, e, hd⟩ o e), hd⟩)⟩
theorem Loc.soft {h h' : Heap} (L : Loc l X own env h ρ) (k : Soft h h') : Loc l X own env h' ρ where
  var := fun x av e ho => let ⟨v, h1, h2⟩ := L.var x av e ho; ⟨v, h1.soft k, h2.soft k⟩
  own := fun x av e ho => let ⟨a, vs, xs, h1, h2, h3, h4, h5, h6⟩ := L.own x av e ho; ⟨a, vs, xs, h1, h2.soft k, h3, h4.at fun o e => k _ o e (list_not_odd h4.isList o e), h5, fun i v y e1 e2 => (h6 i v y e1 e2).soft k⟩
theorem FS.soft {h h' : Heap} (F : FS sc env h) (k : Soft h h') : FS sc env h' where
  ns := let ⟨m, hm⟩ := F.ns; ⟨m, hm.at' fun o e => k _ o e (ns_not_odd hm o e)⟩
  cell := fun x hx => let ⟨c, v, h1, o, h2, h3⟩ := F.cell x hx; ⟨c, v, h1, o, k c o h2 (cell_not_odd ⟨o, h2, h3⟩ o h2), h3⟩
  apart := F.apart
theorem FS.notList {h : Heap} (F : FS sc env h) {b : Addr} (hb : Fm sc env b) : ∀ vs, ¬ h.IsList b vs := fun vs q => by
  rcases hb with rfl | ⟨x, hx, hc⟩
  · obtain ⟨m, hm⟩ := F.ns
    exact ns_not_list hm q
  · obtain ⟨c, v, h1, h2⟩ := F.cell x hx
    rw [hc] at h1; cases h1
    exact cell_not_list h2 q

theorem Loc.sub {ρ' : Ro} {h : Heap} (L : Loc l X own env h ρ) (k : ∀ x av, ρ'.lookup x = some av → ρ.lookup x = some av) : Loc l X own env h ρ' :=
  ⟨fun x av e ho => L.var x av (k x av e) ho, fun x av e ho => L.own x av (k x av e) ho⟩
theorem Loc.back {ρ' : Ro} {h : Heap} {target : Expr} {it : It} (hn : newT ρ target = true) (hb : bindV own sc ρ target it = some ρ') (L : Loc l X own env h ρ') : Loc l X own env h ρ := by
  refine L.sub fun x av e => ?_
  rcases bindV_inv hb with ⟨x, p, a, rfl, rfl, _, _, rfl⟩ | ⟨x, px, y, py, kk, pos, a, b, rfl, rfl, _, _, _, _, rfl⟩
  · have hn : (ρ.lookup x).isNone = true := hn
    rw [Option.isNone_iff_eq_none] at hn
    rw [lookup_setR, if_neg (fun q => by subst q; rw [hn] at e; cases e)]
    exact e
  · have hn : ((ρ.lookup x).isNone && (ρ.lookup y).isNone) = true := hn
    simp only [Bool.and_eq_true, Option.isNone_iff_eq_none] at hn
    rw [lookup_setR, if_neg (fun q => by subst q; rw [hn.2] at e; cases e), lookup_setR, if_neg (fun q => by subst q; rw [hn.1] at e; cases e)]
    exact e

theorem scOk_inv {scope : Scope} (hs : scOk scope sc ρ = true) : scope.kind = .function ∧ (∀ x k, (x, k) ∈ scope.names → scope.names.lookup x = some k) ∧ ∀ x, (x, NameKind.free) ∈ scope.names → sc.lookup x = some .cell ∧ ∃ av, ρ.lookup x = some av := by
  simp only [scOk, Bool.and_eq_true, List.all_eq_true] at hs
  obtain ⟨hkind, hs⟩ := hs
  refine ⟨?_, fun x k hm => by have := (hs _ hm).1; simpa using this, fun x hm => ?_⟩
  · cases hk : scope.kind <;> rw [hk] at hkind <;> first | rfl | cases hkind
  · have := (hs _ hm).2
    dsimp only at this
    split at this
    · rename_i hc
      refine ⟨hc, ?_⟩
      cases e : ρ.lookup x with
      | none => rw [e] at this; cases this
      | some av => exact ⟨av, rfl⟩
    · cases this

/-- in a comprehension's frame the owned list is the maker's -/
theorem own_static {scope : Scope} {s₀ s' : Shared} {C : Addr} (hE : EnvOk sc env) (hs : scOk scope sc ρ = true) (L : Loc l X own env s₀.heap ρ) {x : Str} {a : Addr} (ho : own = some x) (hf : scope.names.lookup x = some .free)
    (k : Keeps s₀ s') (H : Has (cenvOf scope env C) s'.heap x (.ref a)) : ∃ o, s₀.heap.get? a = some o := by
  obtain ⟨_, hlook, hfree⟩ := scOk_inv hs
  have hm := lookup_mem hf
  obtain ⟨hc, av, hav⟩ := hfree x hm
  have hk := hE.names x _ (.inr (.inl rfl)) hc
  obtain ⟨a1, vs, xs, _, H1, _, ⟨n, e1⟩, _⟩ := L.own x av hav ho
  obtain ⟨_, ⟨q, _⟩ | ⟨_, c1, hc1, hI1⟩ | ⟨q, _⟩⟩ := H1
  · rw [hk] at q; cases q
  · have hkc : (cenvOf scope env C).kindOf x = some .cell := by
      rw [cenv_kind, hf]
      show some (relF env (x, .free)).2 = _
      unfold relF
      rw [if_pos (by simp [hE.kind, hk])]
    have hcl : (cenvOf scope env C).cells.lookup x = some c1 := by
      show (cellsFrom _ _ _).lookup x = _
      rw [cf_other _ _ _ _ fun q => by have := hlook _ _ q; rw [hf] at this; cases this]
      rw [clOf_lookup, if_pos hm, hc1]
      rfl
    obtain ⟨_, ⟨q, _⟩ | ⟨_, c2, hc2, hI2⟩ | ⟨q, _⟩⟩ := H
    · rw [hkc] at q; cases q
    · rw [hcl] at hc2; cases hc2
      obtain ⟨o1, p1, d1⟩ := hI1
      obtain ⟨o2, p2, d2⟩ := hI2
      rw [Keeps.keep k _ _ p1] at p2
      cases p2
      rw [d1] at d2
      cases d2
      exact ⟨_, e1⟩
    · rw [hkc] at q; cases q
  · rw [hk] at q; cases q

/-- what is so all through a comprehension -/
structure Stat (gv : Gv) (own : Option Str) (s₀ : Shared) (X : Addr → Prop) (sc : Sc) (env : Env) (D : Addr) : Prop where
  ownS : ∀ x a s', own = some x → sc.lookup x = some .free → Keeps s₀ s' → Has env s'.heap x (.ref a) → a ≠ D
  xD : X D
  new : ∀ b, b = D ∨ Fm sc env b → s₀.heap.get? b = Option.none
  xO : ∀ b, X b → b = D ∨ ∃ o, s₀.heap.get? b = some o
  gd : Gd gv s₀.heap
  envOk : EnvOk sc env

structure Inn (s₀ : Shared) (l : Nat) (X : Addr → Prop) (own : Option Str) (sc : Sc) (env : Env) (D : Addr) (ρ : Ro) (avs : List AV) (s : Shared) : Prop where
  base : Keeps s₀ s
  fs : FS sc env s.heap
  loc : Loc l X own env s.heap ρ
  acc : ∃ ys : List Value, s.heap.PlainList D ys.toArray ∧ RepL l X s.heap ys avs
  sub : ∀ x av, own = some x → ρ.lookup x = some av → sc.lookup x = some .free

noncomputable def WW (sc : Sc) (env : Env) (D : Addr) (b : Addr) : Prop := b = D ∨ Fm sc env b

variable {s₀ : Shared} {D : Addr} {avs : List AV}

theorem Inn.old (S : Stat gv own s₀ X sc env D) (i : Inn s₀ l X own sc env D ρ avs s) : Old X s.heap := fun b hb => by
  rcases S.xO b hb with rfl | ⟨o, e⟩
  · obtain ⟨ys, ⟨n, e⟩, _⟩ := i.acc
    exact ⟨_, e⟩
  · exact ⟨o, Keeps.keep i.base _ _ e⟩
theorem Inn.gd (S : Stat gv own s₀ X sc env D) (i : Inn s₀ l X own sc env D ρ avs s) : Gd gv s.heap := S.gd.keeps (Keeps.keep i.base)
theorem Inn.keeps {s' : Shared} (i : Inn s₀ l X own sc env D ρ avs s) (k : Keeps s s') : Inn s₀ l X own sc env D ρ avs s' :=
  ⟨Keeps.trans i.base k, i.fs.keeps (Keeps.keep k), i.loc.keeps (Keeps.keep k), let ⟨ys, h1, h2⟩ := i.acc; ⟨ys, h1.at fun o e => Keeps.keep k _ o e, h2.keeps (Keeps.keep k)⟩, i.sub⟩
theorem Inn.soft {h' : Heap} {tk : Nat} (i : Inn s₀ l X own sc env D ρ avs s) (k : Soft s.heap h') (hb : ∀ b o, s₀.heap.get? b = some o → h'.get? b = some o) : Inn s₀ l X own sc env D ρ avs { s with heap := h', toks := tk } := by
  obtain ⟨ys, h1, h2⟩ := i.acc
  refine ⟨?_, i.fs.soft k, i.loc.soft k, ⟨ys, h1.at fun o e => k _ o e (list_not_odd h1.isList o e), h2.soft k⟩, i.sub⟩
  obtain ⟨hh, tt, e, _⟩ := i.base
  exact ⟨h', tk, by rw [e], hb⟩
theorem keeps_but {W : Addr → Prop} {s s' : Shared} (k : Keeps s₀ s) (b : But W s s') (hW : ∀ b, W b → s₀.heap.get? b = Option.none) : Keeps s₀ s' := by
  obtain ⟨h, t, rfl, k⟩ := k
  obtain ⟨h', t', rfl, k'⟩ := b
  exact ⟨h', t', rfl, fun b o e => k' b o (fun q => by rw [hW b q] at e; cases e) (k b o e)⟩
theorem but_of {W : Addr → Prop} {s s' : Shared} (k : Keeps s₀ s) (k' : Keeps s₀ s') (hb : ∀ b o, ¬ W b → s.heap.get? b = some o → s'.heap.get? b = some o) : But W s s' := by
  obtain ⟨h, t, rfl, _⟩ := k
  obtain ⟨h', t', rfl, _⟩ := k'
  exact ⟨h', t', rfl, hb⟩

theorem Inn.bind (S : Stat gv own s₀ X sc env D) {target : Expr} {it : It} {ρ' : Ro} {v : Value} {Q : Unit → Shared → Prop} (h : bindV own sc ρ target it = some ρ') (hh : A.handled = Option.none) (i : Inn s₀ l X own sc env D ρ avs s) (hi : ItemIs l X s.heap v it)
    (hQ : ∀ s', But (WW sc env D) s s' → Inn s₀ l X own sc env D ρ' avs s' → Q () s') : wpAny (model prog w) A (assign target env v) Q E s := by
  refine bind_sound h hh S.envOk i.fs i.loc hi fun s' b F L st => hQ s' (b.weak fun b _ _ q => .inr q) ⟨keeps_but i.base b fun b q => S.new b (.inr q), F, L, ?_, ?_⟩
  · obtain ⟨ys, h1, h2⟩ := i.acc
    exact ⟨ys, h1.at fun o e => But.keep b _ o (fun q => i.fs.notList q _ h1.isList) e, h2.later st⟩
  · intro x av ho hx
    refine i.sub x av ho ?_
    rcases bindV_inv h with ⟨x', p, a, rfl, rfl, _, h3, rfl⟩ | ⟨x', px, y', py, kk, pos, a, b, rfl, rfl, _, _, h3, h4, rfl⟩
    · rwa [lookup_setR, if_neg (by intro q; exact h3 (q ▸ ho))] at hx
    · rwa [lookup_setR, if_neg (by intro q; exact h4 (q ▸ ho)), lookup_setR, if_neg (by intro q; exact h3 (q ▸ ho))] at hx

theorem Inn.append (S : Stat gv own s₀ X sc env D) {a : AV} {v : Value} {Q : Value → Shared → Prop} (i : Inn s₀ l X own sc env D ρ avs s) (r : Rep l X s.heap v a) (hsz : avs.length ≤ 10000000)
    (hQ : ∀ s', But (WW sc env D) s s' → Inn s₀ l X own sc env D ρ (avs ++ [a]) s' → Q .none s') : wpAny (model prog w) A (call (.builtin "list.append") [.ref D, v]) Q E s := by
  obtain ⟨ys, h1, h2⟩ := i.acc
  refine wpAny_list_append_plain h1 (fun h' hp hs => ?_) (by
    rw [List.size_toArray, h2.1]
    exact Nat.le_trans hsz (by decide))
  have kp : ∀ b o, b ≠ D → s.heap.get? b = some o → h'.get? b = some o := fun b o hb e => hs.extBut b o hb e
  have st : Stays X s.heap h' := fun b vs hb hX o e => kp b o (fun q => hX (q ▸ S.xD)) e
  have nsD : ∀ m b, s.heap.Ns b m → b ≠ D := fun m b hm q => by subst q; exact ns_not_list hm h1.isList
  have clD : ∀ v b, s.heap.IsCell b v → b ≠ D := fun m b hm q => by subst q; exact cell_not_list hm h1.isList
  have hasK : ∀ x v, Has env s.heap x v → Has env h' x v := fun x v H => by
    obtain ⟨h0, ⟨h1, m, h2, h3⟩ | ⟨h1, c, h2, h3⟩ | ⟨h1, h4, c, h2, h3⟩⟩ := H
    · exact ⟨h0, .inl ⟨h1, m, h2.at' fun o e => kp _ o (nsD _ _ h2) e, h3⟩⟩
    · have hc := clD _ _ h3
      obtain ⟨o, e, hd⟩ := h3
      exact ⟨h0, .inr (.inl ⟨h1, c, h2, o, kp _ o hc e, hd⟩)⟩
    · have hc := clD _ _ h3
      obtain ⟨o, e, hd⟩ := h3
      exact ⟨h0, .inr (.inr ⟨h1, h4, c, h2, o, kp _ o hc e, hd⟩)⟩
  have hbut : But (WW sc env D) s { s with heap := h' } := ⟨h', s.toks, rfl, fun b o hb e => kp b o (fun q => hb (.inl q)) e⟩
  have hbase : Keeps s₀ { s with heap := h' } := keeps_but i.base hbut S.new
  refine hQ _ hbut ⟨hbase, ⟨?_, fun x hx => ?_, i.fs.apart⟩, ⟨fun x av e ho => ?_, fun x av e ho => ?_⟩, ⟨ys ++ [v], ?_, RepL.snoc (h2.later st) (r.later st)⟩, i.sub⟩
  · obtain ⟨m, hm⟩ := i.fs.ns
    exact ⟨m, hm.at' fun o e => kp _ o (nsD _ _ hm) e⟩
  · obtain ⟨c, u, e1, e2⟩ := i.fs.cell x hx
    have hc := clD _ _ e2
    obtain ⟨o, e, hd⟩ := e2
    exact ⟨c, u, e1, o, kp _ o hc e, hd⟩
  · obtain ⟨u, e1, e2⟩ := i.loc.var x av e ho
    exact ⟨u, hasK _ _ e1, e2.later st⟩
  · obtain ⟨a', vs, xs, e1, e2, e3, e4, e5, e6⟩ := i.loc.own x av e ho
    have hne : a' ≠ D := S.ownS x a' s ho (i.sub x av ho e) i.base e2
    exact ⟨a', vs, xs, e1, hasK _ _ e2, e3, e4.at fun o e => kp _ o hne e, e5, fun i v y q1 q2 => (e6 i v y q1 q2).later st⟩
  · have : (ys ++ [v]).toArray = ys.toArray.push v := by simp
    rw [this]; exact hp
end Mine
end

section
namespace Mine
open PySem PySem.Calls PyProof.Rows PySem.W

variable {l : Nat} {X : Addr → Prop} {own : Option Str} {gv : Gv} {prog : Program} {w : World} {A : Around} {E : Value → Shared → Prop} {s : Shared} {env : Env} {sc : Sc} {ρ : Ro}
variable {s₀ : Shared} {D : Addr} {avs : List AV}

/-- a comprehension's loop, as its turns go -/
noncomputable def Loops (prog : Program) (w : World) (A : Around) (c : Code) (R : Result → Shared → Prop) (target : Expr) (I : Addr) (env : Env) (N : Value → Shared → Prop) (B : (Shared → Prop) → Shared → Prop) : Prop :=
  ∀ (Inv : Nat → Shared → Prop), (∀ k s, Inv k s → wpAny (model prog w) A (pyNext (.ref I)) (fun r s₁ => match r with
      | none => R (.ok .next) s₁
      | some v => wpAny (model prog w) A (letOwnedTupleGo target (.ref I) v) (fun _ s₁' => wpAny (model prog w) A (assign target env v) (fun _ s₂ => B (fun s₅ => ∃ m, m < k ∧ Inv m s₅) s₂) N s₁') N s₁) N s) →
    ∀ k s, Inv k s → codeAny (model prog w) A c R s

theorem drive {c : Code} {R : Result → Shared → Prop} {target : Expr} {I : Addr} {N : Value → Shared → Prop} {B : (Shared → Prop) → Shared → Prop} (hl : Loops prog w A c R target I env N B)
    {fp wr : List Addr} {n : Nat} {P Md : Nat → Value → Heap → Prop} {St : Nat → Heap → Prop} (K : KTurns prog w A target I fp wr n P Md St) (J : Nat → Shared → Prop)
    (hJ : ∀ i s h' tk, St i s.heap → J i s → (∀ b o, b ∉ wr → s.heap.get? b = some o → h'.get? b = some o) → J i { s with heap := h', toks := tk })
    (hb : ∀ i v s, i < n → P i v s.heap → St (i + 1) s.heap → J i s → ∀ KK : Shared → Prop, (∀ s₅, J (i + 1) s₅ → St (i + 1) s₅.heap → KK s₅) → wpAny (model prog w) A (assign target env v) (fun _ s₂ => B KK s₂) N s)
    (fin : ∀ s, J n s → R (.ok .next) s) (h0 : J 0 s) (hst : St 0 s.heap) : codeAny (model prog w) A c R s := by
  refine hl (fun k s => ∃ i, i ≤ n ∧ k = n - i ∧ J i s ∧ St i s.heap) ?_ n s ⟨0, Nat.zero_le _, rfl, h0, hst⟩
  rintro k s ⟨i, hi, rfl, hj, st⟩
  by_cases hlt : i < n
  · refine K.item i s _ _ hlt st fun v h' tk md kp => ?_
    refine K.go i v _ _ _ md fun h'' hP st' kp' => ?_
    refine hb i v _ hlt hP st' (hJ i s h'' tk st hj fun b o hb e => kp' b o hb (kp b o hb e)) _ fun s₅ j5 st5 => ⟨n - (i + 1), by omega, i + 1, hlt, rfl, j5, st5⟩
  · obtain rfl : i = n := Nat.le_antisymm hi (Nat.not_lt.mp hlt)
    exact K.done s _ _ st fun h' tk kp => fin _ (hJ i s h' tk st hj kp)

theorem drop_at {α : Type} {xs : List α} {i : Nat} {x : α} (h : xs[i]? = some x) : xs.drop i = x :: xs.drop (i + 1) := by
  obtain ⟨hi, rfl⟩ := List.getElem?_eq_some_iff.mp h
  exact List.drop_eq_getElem_cons hi

theorem clause_sound (S : Stat gv own s₀ X sc env D) {c : Code} {R : Result → Shared → Prop} {target : Expr} {I : Addr} {N : Value → Shared → Prop} {B : (Shared → Prop) → Shared → Prop} (hl : Loops prog w A c R target I env N B)
    {X₁ : Addr → Prop} {its : List It} {s₁ s₂ : Shared} {fp wr : List Addr} {P Md : Nat → Value → Heap → Prop} {St : Nat → Heap → Prop} (IA : IterAt prog w A l X₁ target its s₁ s₂ I fp wr P Md St)
    (hh : A.handled = Option.none) (hX : ∀ b, X b → X₁ b ∨ s₂.heap.get? b = Option.none) (hF : ∀ b, Fm sc env b → ∀ vs, ¬ s₂.heap.IsList b vs) (hfp : ∀ b ∈ fp, ¬ WW sc env D b) (hwr : ∀ b ∈ wr, s₀.heap.get? b = Option.none)
    {emit : Ro → Option (List AV)} {xs : List AV} (hc : clauseV own sc ρ target emit its = some xs) (hlen : avs.length + xs.length ≤ 10000000)
    (hB : ∀ ρ' ys, emit ρ' = some ys → ∀ avs s, avs.length + ys.length ≤ 10000000 → Inn s₀ l X own sc env D ρ' avs s → ∀ KK : Shared → Prop, (∀ s₅, Inn s₀ l X own sc env D ρ' (avs ++ ys) s₅ → But (WW sc env D) s s₅ → KK s₅) → B KK s)
    (h0 : Inn s₀ l X own sc env D ρ avs s) (hst : St 0 s.heap) (hk : ∀ b o, ¬ WW sc env D b → s₂.heap.get? b = some o → s.heap.get? b = some o)
    (fin : ∀ s', Inn s₀ l X own sc env D ρ (avs ++ xs) s' → (∀ b o, ¬ WW sc env D b → b ∉ wr → s₂.heap.get? b = some o → s'.heap.get? b = some o) → R (.ok .next) s') :
    codeAny (model prog w) A c R s := by
  refine drive hl IA.turns (fun i s => ∃ dn rest, clauseV own sc ρ target emit (its.drop i) = some rest ∧ dn ++ rest = xs ∧ Inn s₀ l X own sc env D ρ (avs ++ dn) s ∧ ∀ b o, ¬ WW sc env D b → b ∉ wr → s₂.heap.get? b = some o → s.heap.get? b = some o)
    ?_ ?_ ?_ ⟨[], xs, hc, rfl, by simpa using h0, fun b o h1 _ h2 => hk b o h1 h2⟩ hst
  · rintro i s h' tk st ⟨dn, rest, q1, q2, q3, q4⟩ kp
    have sft : Soft s.heap h' := fun b o e hodd => kp b o (fun hm => hodd (IA.odd i _ st b hm o e)) e
    refine ⟨dn, rest, q1, q2, q3.soft sft fun b o e => kp b o (fun hm => by rw [hwr b hm] at e; cases e) (Keeps.keep q3.base b o e), fun b o h1 h2 e => kp b o h2 (q4 b o h1 h2 e)⟩
  · rintro i v s hi hP st ⟨dn, rest, q1, q2, q3, q4⟩ KK hKK
    obtain ⟨it, hit, hitem⟩ := IA.item (fun b => X b ∨ b ∈ wr) i v s.heap (fun b hb => by
      rcases hb with q | q
      · rcases hX b q with z | z
        · exact .inl z
        · exact .inr (.inl z)
      · exact .inr (.inr q)) hi hP (fun b vs hb hX' o e => q4 b o (fun q => by
        rcases q with q | q
        · exact hX' (.inl (q ▸ S.xD))
        · exact hF b q _ hb) (fun q => hX' (.inr q)) e)
    have hitem : ItemIs l X s.heap v it := by
      cases it with
      | one a => exact Rep.weak hitem fun b hb => .inl hb
      | two a b =>
        obtain ⟨T, x, y, e1, e2, e3, e4⟩ := hitem
        exact ⟨T, x, y, e1, e2, e3.weak fun b hb => .inl hb, e4.weak fun b hb => .inl hb⟩
    rw [drop_at hit] at q1
    unfold clauseV at q1
    split at q1
    · cases q1
    · rename_i hnt
      simp only [Bool.not_eq_true', Bool.not_eq_false] at hnt
      split at q1
      · rename_i ρ' hb
        split at q1
        · rename_i ys zs hy hz
          cases q1
          refine q3.bind S hb hh hitem fun s' b' i' => ?_
          have hl1 : (avs ++ dn).length + ys.length ≤ 10000000 := by
            rw [← q2] at hlen
            simp only [List.length_append] at hlen ⊢
            omega
          refine hB ρ' ys hy _ s' hl1 i' KK fun s₅ i5 b5 => ?_
          have bb := But.trans b' b5
          have i5' : Inn s₀ l X own sc env D ρ (avs ++ (dn ++ ys)) s₅ := by
            rw [← List.append_assoc]
            exact ⟨i5.base, i5.fs, i5.loc.back hnt hb, i5.acc, q3.sub⟩
          refine hKK s₅ ⟨dn ++ ys, zs, hz, by rw [← q2, List.append_assoc], i5', fun b o h1 h2 e => But.keep bb b o h1 (q4 b o h1 h2 e)⟩ ?_
          exact IA.turns.frame _ _ _ st fun b hb o e => But.keep bb b o (hfp b hb) e
        · cases q1
      · cases q1
  · rintro s ⟨dn, rest, q1, q2, q3, q4⟩
    rw [List.drop_length] at q1
    cases q1
    rw [List.append_nil] at q2
    subst q2
    exact fin s q3 q4

theorem fp_apart {X₁ : Addr → Prop} {target : Expr} {its : List It} {s₁ s₂ : Shared} {I : Addr} {fp wr : List Addr} {P Md : Nat → Value → Heap → Prop} {St : Nat → Heap → Prop} (IA : IterAt prog w A l X₁ target its s₁ s₂ I fp wr P Md St)
    {W : Addr → Prop} (h : ∀ b, W b → (∃ o, s₁.heap.get? b = some o) ∧ (X₁ b ∨ ∀ vs, ¬ s₂.heap.IsList b vs)) : ∀ b ∈ fp, ¬ W b := fun b hb hW => by
  obtain ⟨⟨o, e⟩, q⟩ := h b hW
  rcases IA.fpNew b hb with z | ⟨⟨vs, z⟩, z'⟩
  · rw [e] at z; cases z
  · rcases q with q | q
    · exact z' q
    · exact q vs z

/-- the shapes -/
theorem shape1 {elt target iter : Expr} {ifs : List Expr} {scope : Scope} {pos : Pos} {I : Addr} {acc : Value} {R : Result → Shared → Prop} :
    Loops prog w A (.compLoop (.ListComp elt [⟨target, iter, ifs, 0⟩] scope pos) 0 (.ref I) acc env) R target I env (notedBy (model prog w) A env fun e s' => R (.error e) s')
      (fun KK s₂ => wpAny (model prog w) A (forIn ifs true fun c r => if r = true then do let ok ← isTrue c env (eval c env); pure (ForInStep.yield ok) else pure (ForInStep.yield r)) (fun ok s₃ =>
            if ok = true then wpAny (model prog w) A (eval elt env) (fun x s₄ =>
              wpAny (model prog w) A (call (.builtin "list.append") [acc, x]) (fun _ s₅ => KK s₅) (notedBy (model prog w) A env fun e s' => R (.error e) s') s₄) (notedBy (model prog w) A env fun e s' => R (.error e) s') s₃
            else KK s₃) (notedBy (model prog w) A env fun e s' => R (.error e) s') s₂) := by
  intro Inv turn k s hI
  refine codeAny_loop rfl Inv (fun n s hI => ?_) k hI
  show wpAny _ A ((compTurn (.ListComp elt [⟨target, iter, ifs, 0⟩] scope pos) 0 (.ref I) acc env).onRaise (fun x => do noteFrame x env; theTreesLotGoes x)) _ _ s
  refine wpAny_noted ?_
  rw [compTurn_list]
  refine wpAny_bind (wpAny_standAt (wpAny_bind (wpAny_mono (turn n s hI) (fun r s₁ h₁ => ?_) fun _ _ h' => h')))
  cases r with
  | none => exact wpAny_pure h₁
  | some v =>
    refine wpAny_bind (wpAny_mono h₁ (fun _ s₁' h₁' => ?_) fun _ _ h' => h')
    refine wpAny_bind (wpAny_mono h₁' (fun _ s₂ h₂ => wpAny_bind (wpAny_mono h₂ (fun ok s₃ h₃ => ?_) fun _ _ h' => h')) fun _ _ h' => h')
    cases ok with
    | false => exact wpAny_pure ⟨rfl, h₃⟩
    | true =>
      exact wpAny_bind (wpAny_bind (wpAny_mono h₃ (fun x s₄ h₄ => wpAny_bind (wpAny_mono h₄ (fun _ s₅ h₅ => wpAny_pure (wpAny_pure ⟨rfl, h₅⟩)) fun _ _ h' => h')) fun _ _ h' => h'))

theorem turn2 (elt target iter target' iter' : Expr) (scope : Scope) (pos : Pos) (it acc : Value) (env : Env) :
    compTurn (.ListComp elt [⟨target, iter, [], 0⟩, ⟨target', iter', [], 0⟩] scope pos) 0 it acc env = (standAt iter.pos >>= fun _ => pyNext it >>= fun r => match r with
      | none => pure (.done .next)
      | some v => letOwnedTupleGo target it v >>= fun _ => assign target env v >>= fun _ => eval iter' env >>= fun x => standAt iter'.pos >>= fun _ => foldedSetIterable iter' env x >>= fun x =>
        holding [x] (pyIter x) >>= fun it' => runOwn (.compStart (.ListComp elt [⟨target, iter, [], 0⟩, ⟨target', iter', [], 0⟩] scope pos) 1 it' acc env) env >>= fun _ =>
          again (.compLoop (.ListComp elt [⟨target, iter, [], 0⟩, ⟨target', iter', [], 0⟩] scope pos) 0 it acc env)) := by rfl
theorem shape2 {elt target iter target' iter' : Expr} {scope : Scope} {pos : Pos} {I : Addr} {acc : Value} {R : Result → Shared → Prop} (hs : ∀ x, foldedSetIterable iter' env x = pure x) :
    Loops prog w A (.compLoop (.ListComp elt [⟨target, iter, [], 0⟩, ⟨target', iter', [], 0⟩] scope pos) 0 (.ref I) acc env) R target I env (notedBy (model prog w) A env fun e s' => R (.error e) s')
      (fun KK s₂ => wpAny (model prog w) A (eval iter' env) (fun x s₃ => wpAny (model prog w) A (pyIter x) (fun it' s₄ =>
        codeAny (model prog w) A (.compStart (.ListComp elt [⟨target, iter, [], 0⟩, ⟨target', iter', [], 0⟩] scope pos) 1 it' acc env) (fun r s' => match r with | .ok _ => KK s' | .error e => cameBackBy (model prog w) A env (notedBy (model prog w) A env fun e s' => R (.error e) s') e s') s₄)
        (notedBy (model prog w) A env fun e s' => R (.error e) s') s₃) (notedBy (model prog w) A env fun e s' => R (.error e) s') s₂) := by
  intro Inv turn k s hI
  refine codeAny_loop rfl Inv (fun n s hI => ?_) k hI
  show wpAny _ A ((compTurn (.ListComp elt [⟨target, iter, [], 0⟩, ⟨target', iter', [], 0⟩] scope pos) 0 (.ref I) acc env).onRaise (fun x => do noteFrame x env; theTreesLotGoes x)) _ _ s
  refine wpAny_noted ?_
  rw [turn2]
  refine wpAny_bind (wpAny_standAt (wpAny_bind (wpAny_mono (turn n s hI) (fun r s₁ h₁ => ?_) fun _ _ h' => h')))
  cases r with
  | none => exact wpAny_pure h₁
  | some v =>
    refine wpAny_bind (wpAny_mono h₁ (fun _ s₁' h₁' => ?_) fun _ _ h' => h')
    refine wpAny_bind (wpAny_mono h₁' (fun _ s₂ h₂ => ?_) fun _ _ h' => h')
    refine wpAny_bind (wpAny_mono h₂ (fun x s₃ h₃ => wpAny_bind (wpAny_standAt (wpAny_bind (wpAny_of_eq (hs x) ?_)))) fun _ _ h' => h')
    refine wpAny_bind (wpAny_holding (wpAny_mono h₃ (fun it' s₄ h₄ => ?_) fun _ _ h' => h'))
    refine wpAny_bind (wpAny_runOwn (codeAny_mono h₄ fun r s' hr => ?_))
    cases r with
    | ok f => exact wpAny_pure ⟨rfl, hr⟩
    | error e => exact hr

theorem turn3 (elt target iter target' iter' : Expr) (scope : Scope) (pos : Pos) (it acc : Value) (env : Env) :
    compTurn (.ListComp elt [⟨target, iter, [], 0⟩, ⟨target', iter', [], 0⟩] scope pos) 1 it acc env = (standAt iter'.pos >>= fun _ => pyNext it >>= fun r => match r with
      | none => pure (.done .next)
      | some v => letOwnedTupleGo target' it v >>= fun _ => assign target' env v >>= fun _ =>
        (eval elt env >>= fun x => call (.builtin "list.append") [acc, x] >>= fun _ => pure ()) >>= fun _ =>
          again (.compLoop (.ListComp elt [⟨target, iter, [], 0⟩, ⟨target', iter', [], 0⟩] scope pos) 1 it acc env)) := by rfl
theorem shape3 {elt target iter target' iter' : Expr} {scope : Scope} {pos : Pos} {I : Addr} {acc : Value} {R : Result → Shared → Prop} :
    Loops prog w A (.compLoop (.ListComp elt [⟨target, iter, [], 0⟩, ⟨target', iter', [], 0⟩] scope pos) 1 (.ref I) acc env) R target' I env (notedBy (model prog w) A env fun e s' => R (.error e) s')
      (fun KK s₂ => wpAny (model prog w) A (eval elt env) (fun x s₄ =>
              wpAny (model prog w) A (call (.builtin "list.append") [acc, x]) (fun _ s₅ => KK s₅) (notedBy (model prog w) A env fun e s' => R (.error e) s') s₄) (notedBy (model prog w) A env fun e s' => R (.error e) s') s₂) := by
  intro Inv turn k s hI
  refine codeAny_loop rfl Inv (fun n s hI => ?_) k hI
  show wpAny _ A ((compTurn (.ListComp elt [⟨target, iter, [], 0⟩, ⟨target', iter', [], 0⟩] scope pos) 1 (.ref I) acc env).onRaise (fun x => do noteFrame x env; theTreesLotGoes x)) _ _ s
  refine wpAny_noted ?_
  rw [turn3]
  refine wpAny_bind (wpAny_standAt (wpAny_bind (wpAny_mono (turn n s hI) (fun r s₁ h₁ => ?_) fun _ _ h' => h')))
  cases r with
  | none => exact wpAny_pure h₁
  | some v =>
    refine wpAny_bind (wpAny_mono h₁ (fun _ s₁' h₁' => ?_) fun _ _ h' => h')
    refine wpAny_bind (wpAny_mono h₁' (fun _ s₂ h₂ => ?_) fun _ _ h' => h')
    exact wpAny_bind (wpAny_bind (wpAny_mono h₂ (fun x s₄ h₄ => wpAny_bind (wpAny_mono h₄ (fun _ s₅ h₅ => wpAny_pure (wpAny_pure ⟨rfl, h₅⟩)) fun _ _ h' => h')) fun _ _ h' => h'))

theorem start1 {elt target iter target' iter' : Expr} {scope : Scope} {pos : Pos} {it acc : Value} {R : Result → Shared → Prop}
    (h0 : codeAny (model prog w) A (.compLoop (.ListComp elt [⟨target, iter, [], 0⟩, ⟨target', iter', [], 0⟩] scope pos) 1 it acc env) R s)
    (h : wpAny (model prog w) A (pyIter it) (fun it' s' => codeAny (model prog w) A (.compLoop (.ListComp elt [⟨target, iter, [], 0⟩, ⟨target', iter', [], 0⟩] scope pos) 1 it' acc env) R s')
      (notedBy (model prog w) A env fun x s' => R (.error x) s') s) :
    codeAny (model prog w) A (.compStart (.ListComp elt [⟨target, iter, [], 0⟩, ⟨target', iter', [], 0⟩] scope pos) 1 it acc env) R s := by
  refine codeAny_of_tree ?_
  show wpAny _ _ ((compStart (.ListComp elt [⟨target, iter, [], 0⟩, ⟨target', iter', [], 0⟩] scope pos) 1 it acc env).onRaise (fun x => do noteFrame x env; standAt theWindowsPlace)) _ _ s
  refine wpAny_notedAt ?_
  unfold compStart
  show wpAny _ _ (ask >>= _) _ _ s
  refine wpAny_bind (wpAny_askSetting (wpAny_ite ?_))
  split
  · first
      | exact wpAny_bind (wpAny_pure (wpAny_pure (And.intro rfl h0)))
      | exact wpAny_pure (And.intro rfl h0)
  · first
      | exact wpAny_bind (wpAny_rule (wpAny_bind (wpAny_standAt (wpAny_bind (wpAny_mono h (fun it' s' h' => wpAny_pure (And.intro rfl h')) fun _ _ x => x)))))
      | (refine wpAny_bind (wpAny_rule ?_); show wpAny _ _ (standAt iter'.pos >>= _) _ _ s; exact wpAny_bind (wpAny_standAt (wpAny_bind (wpAny_mono h (fun it' s' h' => wpAny_pure (And.intro rfl h')) fun _ _ x => x))))
end Mine
end

section
namespace Mine
open PySem PySem.Calls PyProof.Rows PySem.W

variable {l : Nat} {X : Addr → Prop} {own : Option Str} {gv : Gv} {prog : Program} {w : World} {A : Around} {E : Value → Shared → Prop} {s : Shared} {env : Env} {sc : Sc} {ρ : Ro}
variable {s₀ : Shared} {D : Addr} {avs : List AV}

theorem clauseV_len {target : Expr} {emit : Ro → Option (List AV)} {m : Nat} (he : ∀ ρ' ys, emit ρ' = some ys → ys.length ≤ m) : ∀ {its : List It} {xs : List AV}, clauseV own sc ρ target emit its = some xs → xs.length ≤ its.length * m
  | [], xs, h => by cases h; simp
  | i :: r, xs, h => by
    unfold clauseV at h
    split at h
    · cases h
    · split at h
      · split at h
        · rename_i ys zs hy hz
          cases h
          have h1 := he _ _ hy
          have h2 := clauseV_len he hz
          simp only [List.length_append, List.length_cons, Nat.succ_mul]
          omega
        · cases h
      · cases h

theorem rangeN_le {a b c : Int} (hc : 0 < c) (ha : a.natAbs ≤ 1000) (hb : b.natAbs ≤ 1000) : rangeN a b c ≤ 2001 := by
  have h1 := rangeSize_nn (a := a) (b := b) hc
  have h2 := rangeSize_le hc ha hb
  unfold rangeN
  omega
theorem rangeV_len {as : List AV} {lst : List AV} (h : rangeV as = some lst) : lst.length ≤ 2001 := by
  unfold rangeV at h
  split at h
  · obtain ⟨i, z, rfl, p2, rfl⟩ := range1_inv h
    rw [rangeL_len]
    exact rangeN_le (by decide) (by decide) (absB_self p2)
  · obtain ⟨i, z, j, y, rfl, rfl, p3, p4, rfl⟩ := range2_inv h
    rw [rangeL_len]
    exact rangeN_le (by decide) (absB_self p3) (absB_self p4)
  · obtain ⟨i, z, j, y, k, x, rfl, rfl, rfl, p4, p5, p6, p7, rfl⟩ := range3_inv h
    rw [rangeL_len]
    exact rangeN_le p6 (absB_self p4) (absB_self p5)
  · cases h
theorem iterL_len {target : Expr} {o : Option AV} {its : List It} (h : iterL target o = some its) : its.length ≤ 2001 := by
  unfold iterL at h
  split at h
  · cases h
  · split at h
    · split at h
      · rename_i hl
        cases h; rw [List.length_map]; exact Nat.le_trans hl (by decide)
      · cases h
    · cases h
theorem iterE_len {rec : Rec} {args : List Expr} {its : List It} (h : iterE rec sc ρ args = some its) : its.length ≤ 2001 := by
  unfold iterE at h
  split at h
  · split at h
    · split at h
      · rename_i hl
        cases h; rw [enumL_len]; exact Nat.le_trans hl (by decide)
      · cases h
    · cases h
  · cases h
theorem iterZ_len {rec : Rec} {args : List Expr} {its : List It} (h : iterZ rec sc ρ args = some its) : its.length ≤ 2001 := by
  unfold iterZ at h
  split at h
  · split at h
    · split at h
      · split at h
        · rename_i hl
          simp only [Bool.and_eq_true, decide_eq_true_eq, beq_iff_eq] at hl
          cases h; rw [zipL_len _ _ hl.1]; exact Nat.le_trans hl.2 (by decide)
        · cases h
      · cases h
    · cases h
  · cases h
theorem iterR_len {rec : Rec} {args : List Expr} {its : List It} (h : iterR rec sc ρ args = some its) : its.length ≤ 2001 := by
  unfold iterR at h
  split at h
  · cases h
  · split at h
    · rename_i as _
      cases hr : rangeV as with
      | none => rw [hr] at h; cases h
      | some lst =>
        rw [hr] at h
        cases h
        rw [List.length_map]
        exact rangeV_len hr
    · cases h
theorem iterV_len {rec : Rec} {target iter : Expr} {its : List It} (h : iterV rec sc ρ target iter = some its) : its.length ≤ 2001 := by
  unfold iterV at h
  split at h
  · split at h
    · split at h
      · cases h
      · split at h
        · split at h
          · cases h
          · exact iterR_len h
        · split at h
          · split at h
            · cases h
            · exact iterE_len h
          · split at h
            · split at h
              · cases h
              · exact iterZ_len h
            · exact iterL_len h
    · cases h
  · exact iterL_len h
  · exact iterL_len h
  · cases h

/-- a comprehension as a whole -/
theorem comp_run {e : Expr} {scope : Scope} {pos : Pos} {target iter : Expr} {ifs : List Expr} {rest : List Comprehension} {use : Option (Value → Sem Unit)} {emit : Ro → Option (List AV)} {Q : Value → Shared → Prop} {elt : Expr} {epos : Pos} (Ok : List It → List AV → Prop)
    (he : e = .ListComp elt (⟨target, iter, ifs, 0⟩ :: rest) scope epos)
    (hE : EnvOk sc env) (hh : A.handled = Option.none) (G : Gd gv s.heap) (L : Loc l X own env s.heap ρ) (O : Old X s.heap)
    (hsc : scOk scope sc ρ = true) (hset : ∀ x, foldedSetIterable iter env x = pure x)
    (hiter : ∀ (Q : Value → Shared → Prop) E, (∀ its xs, Ok its xs → ∀ I fp wr P Md St s₂, IterAt prog w A l X target its s s₂ I fp wr P Md St → Q (.ref I) s₂) → wpAny (model prog w) A (eval iter env) (fun xv s₁ => wpAny (model prog w) A (pyIter xv) Q E s₁) E s)
    (hc : ∀ its xs, Ok its xs → clauseV own scope.names (seen scope ρ) target emit its = some xs ∧ xs.length ≤ 10000000)
    (BB : Env → Value → (Result → Shared → Prop) → (Shared → Prop) → Shared → Prop)
    (hl : ∀ I acc R cenv, Loops prog w A (.compLoop e 0 (.ref I) acc cenv) R target I cenv (notedBy (model prog w) A cenv fun e s' => R (.error e) s') (BB cenv acc R))
    (hB : ∀ D cenv X' R, Stat gv own s X' scope.names cenv D → ∀ ρ' ys, emit ρ' = some ys → ∀ avs s', avs.length + ys.length ≤ 10000000 → Inn s l X' own scope.names cenv D ρ' avs s' →
      ∀ KK : Shared → Prop, (∀ s₅, Inn s l X' own scope.names cenv D ρ' (avs ++ ys) s₅ → But (WW scope.names cenv D) s' s₅ → KK s₅) → BB cenv (.ref D) R KK s')
    (hQ : ∀ its xs, Ok its xs → ∀ D C s', Keeps s s' → s.heap.get? C = Option.none → s.heap.get? D = Option.none → (∃ m, s'.heap.Ns C m) → (∃ ys : List Value, s'.heap.PlainList D ys.toArray ∧ RepL l X s'.heap ys xs) → ¬ X D → compPost (model prog w) A E use Q (.ref D) C (.ok .next) s') :
    wpAny (model prog w) A (comprehension e scope env pos (newList []) false (eval iter env) use) Q E s := by
  obtain ⟨hkind, hlook, hfree⟩ := scOk_inv hsc
  have hclos : closureFor scope env = pure (clOf env scope.names []) := closure_is fun n hn => by
    obtain ⟨hcell, av, hav⟩ := hfree n hn
    have hk := hE.names n _ (.inr (.inl rfl)) hcell
    have key : ∀ v, Has env s.heap n v → ∃ c, env.cells.lookup n = some c := fun v H => by
      obtain ⟨_, ⟨q, _⟩ | ⟨_, c, q, _⟩ | ⟨q, _⟩⟩ := H
      · rw [hk] at q; cases q
      · exact ⟨c, q⟩
      · rw [hk] at q; cases q
    by_cases ho : own = some n
    · obtain ⟨a, _, _, _, H, _⟩ := L.own n av hav ho
      exact key _ H
    · obtain ⟨v, H, _⟩ := L.var n av hav ho
      exact key v H
  subst he
  refine wpAny_comprehension_free (g := ⟨target, iter, ifs, 0⟩) (gs := rest) rfl hset hclos hkind (fun x hx hl => by rw [hlook x.1 x.2 hx, hl]) ?_
  refine hiter _ _ fun its xs ok I fp wr P Md St s₂ IA => ?_
  obtain ⟨hc, hlen⟩ := hc its xs ok
  have k := Keeps.keep IA.keeps
  refine comp_frame (sc := sc) (Q := fun acc cenv s₄ => codeAny (model prog w) A (.compStart (.ListComp elt (⟨target, iter, ifs, 0⟩ :: rest) scope epos) 0 (.ref I) acc cenv) (compPost (model prog w) A E use Q acc cenv.locals) s₄) hE hsc (L.keeps k) (O.keeps k) hclos fun D C s₄ ca => ?_
  have old0 : ∀ b, s₂.heap.get? b = Option.none → s.heap.get? b = Option.none := fun b q => by
    cases e : s.heap.get? b with
    | none => rfl
    | some o => rw [k b o e] at q; cases q
  have hD0 := old0 _ ca.newD
  have S : Stat gv own s (fun b => X b ∨ b = D) scope.names (cenvOf scope env C) D := ⟨fun x a s' ho hf kk H => ?_, .inr rfl, fun b hb => ?_, fun b hb => ?_, G, ca.envOk⟩
  rotate_left
  · obtain ⟨o, e⟩ := own_static hE hsc L ho hf kk H
    intro q
    subst q
    rw [hD0] at e
    cases e
  · rcases hb with rfl | hb
    · exact hD0
    · exact old0 _ (ca.newF b hb)
  · rcases hb with hb | hb
    · exact .inr (O b hb)
    · exact .inl hb
  have inn : Inn s l (fun b => X b ∨ b = D) own scope.names (cenvOf scope env C) D (seen scope ρ) [] s₄ :=
    ⟨Keeps.trans IA.keeps ca.keeps, ca.fs, ca.loc, ⟨[], ca.acc, .nil⟩, fun x av _ hx => (seen_lookup scope ρ x av hx).2⟩
  have st0 : St 0 s₄.heap := IA.turns.frame _ _ _ IA.st fun b _ o e => Keeps.keep ca.keeps b o e
  have loop : codeAny (model prog w) A (.compLoop (.ListComp elt (⟨target, iter, ifs, 0⟩ :: rest) scope epos) 0 (.ref I) (.ref D) (cenvOf scope env C)) (compPost (model prog w) A E use Q (.ref D) (cenvOf scope env C).locals) s₄ := by
    refine clause_sound S (hl I (.ref D) _ _) IA hh (fun b hb => ?_) (fun b hb vs q => ?_) (fun b hb hW => ?_) (fun b hb => IA.wrNew b hb) hc (by simpa using hlen) (hB D _ _ _ S) inn st0 (fun b o _ e => Keeps.keep ca.keeps b o e) fun s' i' _ => ?_
    · rcases hb with q | q
      · exact .inl q
      · exact .inr (q ▸ ca.newD)
    · obtain ⟨o, e, _⟩ := q
      rw [ca.newF b hb] at e
      cases e
    · obtain ⟨oo, eo⟩ := IA.fpEx b hb
      have q := Heap.lt_size eo
      rcases hW with rfl | hW
      · exact absurd q (Nat.not_lt.mpr ca.szD)
      · exact absurd q (Nat.not_lt.mpr (ca.szF b hW))
    · obtain ⟨ys, h1, h2⟩ := i'.acc
      refine hQ its xs ok D C s' i'.base (old0 _ ca.newC) hD0 i'.fs.ns ⟨ys, h1, ?_⟩ fun q => by
        obtain ⟨o, e⟩ := O D q
        rw [hD0] at e; cases e
      have h3 : RepL l (fun b => X b ∨ b = D) s'.heap ys xs := by simpa using h2
      exact ⟨h3.1, fun i v x e1 e2 => (h3.2 i v x e1 e2).weak fun b hb => .inl hb⟩
  exact codeAny_compStart_list loop (IA.self _ _ _ st0 loop)
end Mine
end

section
namespace Mine
open PySem PySem.Calls PyProof.Rows PySem.W

variable {l : Nat} {X : Addr → Prop} {own : Option Str} {gv : Gv} {prog : Program} {w : World} {A : Around} {E : Value → Shared → Prop} {s : Shared} {env : Env} {sc : Sc} {ρ : Ro}
variable {s₀ : Shared} {D : Addr} {avs : List AV}

noncomputable def emitT (rec : Rec) (sc : Sc) (c elt : Expr) (ρ : Ro) : Option (List AV) := match rec true sc ρ c, rec false sc ρ elt with
  | some (.bool b), some x => some (if b then [x] else [])
  | _, _ => Option.none
theorem clauseT_V {rec : Rec} {target c elt : Expr} : ∀ {its : List It} {bs : List Bool} {xs : List AV}, clauseT own rec sc ρ target c elt its = some (bs, xs) → clauseV own sc ρ target (emitT rec sc c elt) its = some (pick bs xs) ∧ bs.length = xs.length ∧ xs.length = its.length
  | [], bs, xs, h => by cases h; exact ⟨rfl, rfl, rfl⟩
  | i :: r, bs, xs, h => by
    unfold clauseT at h
    unfold clauseV
    split at h
    · cases h
    · rename_i hnt
      rw [if_neg hnt]
      split at h
      · rename_i ρ' hb
        split at h
        · rename_i b x bs' xs' h1 h2 h3
          cases h
          obtain ⟨q1, q2, q3⟩ := clauseT_V h3
          refine ⟨?_, by simp [q2], by simp [q3]⟩
          have he : emitT rec sc c elt ρ' = some (if b then [x] else []) := by unfold emitT; rw [h1, h2]
          rw [he, q1]
          cases b <;> rfl
        · cases h
      · cases h
theorem pickL_len : ∀ (bs : List Bool) (xs : List AV), (pick bs xs).length ≤ xs.length
  | [], _ => by simp [pick]
  | true :: _, [] => by simp [pick]
  | false :: _, [] => by simp [pick]
  | true :: bs, x :: xs => by have := pickL_len bs xs; simp [pick]; omega
  | false :: bs, x :: xs => by have := pickL_len bs xs; simp [pick]; omega

section
variable {d : Nat} {rec : Rec} (R : RecOk prog w l own gv d rec) (hC : Cx d A)
include R hC

theorem emit1_B (S : Stat gv own s₀ X sc env D) {elt : Expr} {N : Value → Shared → Prop} {ρ' : Ro} {ys : List AV} (h : emit1 rec sc elt ρ' = some ys) (hlen : avs.length + ys.length ≤ 10000000) (i : Inn s₀ l X own sc env D ρ' avs s)
    {KK : Shared → Prop} (hK : ∀ s₅, Inn s₀ l X own sc env D ρ' (avs ++ ys) s₅ → But (WW sc env D) s s₅ → KK s₅) :
    wpAny (model prog w) A (eval elt env) (fun x s₄ => wpAny (model prog w) A (call (.builtin "list.append") [.ref D, x]) (fun _ s₅ => KK s₅) N s₄) N s := by
  unfold emit1 at h
  split at h
  · rename_i a ha
    cases h
    refine R.val _ _ _ _ ha _ _ _ _ S.envOk hC (i.gd S) i.loc (i.old S) _ _ fun v s' k r => ?_
    refine (i.keeps k).append S r (by omega) fun s₅ b i5 => hK s₅ i5 (But.trans (But.of k) b)
  · cases h

theorem emitT_B (S : Stat gv own s₀ X sc env D) {c elt : Expr} {N : Value → Shared → Prop} {ρ' : Ro} {ys : List AV} (h : emitT rec sc c elt ρ' = some ys) (hlen : avs.length + ys.length ≤ 10000000) (i : Inn s₀ l X own sc env D ρ' avs s)
    {KK : Shared → Prop} (hK : ∀ s₅, Inn s₀ l X own sc env D ρ' (avs ++ ys) s₅ → But (WW sc env D) s s₅ → KK s₅) :
    wpAny (model prog w) A (forIn [c] true fun c r => if r = true then do let ok ← isTrue c env (eval c env); pure (ForInStep.yield ok) else pure (ForInStep.yield r)) (fun ok s₃ =>
            if ok = true then wpAny (model prog w) A (eval elt env) (fun x s₄ => wpAny (model prog w) A (call (.builtin "list.append") [.ref D, x]) (fun _ s₅ => KK s₅) N s₄) N s₃ else KK s₃) N s := by
  unfold emitT at h
  split at h
  · rename_i b x hb hx
    cases h
    obtain ⟨b', e, hT⟩ := R.test _ _ _ _ hb
    cases e
    refine wpAny_tests_one (hT _ _ _ _ S.envOk hC (i.gd S) i.loc (i.old S) _ _ fun s' k => ?_)
    cases b with
    | false =>
      rw [if_neg (by decide)]
      exact hK s' (by simpa using i.keeps k) (But.of k)
    | true =>
      rw [if_pos rfl]
      refine emit1_B R hC S (ys := [x]) (by unfold emit1; rw [hx]) hlen (i.keeps k) fun s₅ i5 b5 => hK s₅ i5 (But.trans (But.of k) b5)
  · cases h
end

theorem shape2F {elt target iter target' iter' : Expr} {scope : Scope} {pos : Pos} {I : Addr} {acc : Value} {R : Result → Shared → Prop} :
    Loops prog w A (.compLoop (.ListComp elt [⟨target, iter, [], 0⟩, ⟨target', iter', [], 0⟩] scope pos) 0 (.ref I) acc env) R target I env (notedBy (model prog w) A env fun e s' => R (.error e) s')
      (fun _ _ => False) := by
  intro Inv turn k s hI
  refine codeAny_loop rfl Inv (fun n s hI => ?_) k hI
  show wpAny _ A ((compTurn (.ListComp elt [⟨target, iter, [], 0⟩, ⟨target', iter', [], 0⟩] scope pos) 0 (.ref I) acc env).onRaise (fun x => do noteFrame x env; theTreesLotGoes x)) _ _ s
  refine wpAny_noted ?_
  rw [turn2]
  refine wpAny_bind (wpAny_standAt (wpAny_bind (wpAny_mono (turn n s hI) (fun r s₁ h₁ => ?_) fun _ _ h' => h')))
  cases r with
  | none => exact wpAny_pure h₁
  | some v =>
    refine wpAny_bind (wpAny_mono h₁ (fun _ s₁' h₁' => ?_) fun _ _ h' => h')
    exact wpAny_bind (wpAny_mono h₁' (fun _ s₂ h₂ => h₂.elim) fun _ _ h' => h')

theorem fm_ex {h : Heap} (F : FS sc env h) {b : Addr} (hb : Fm sc env b) : ∃ o, h.get? b = some o := by
  rcases hb with rfl | ⟨x, hx, hc⟩
  · obtain ⟨m, o, es, ep, e, _⟩ := F.ns
    exact ⟨o, e⟩
  · obtain ⟨c, v, h1, o, e, _⟩ := F.cell x hx
    rw [hc] at h1; cases h1
    exact ⟨o, e⟩

section
variable {d : Nat} {rec : Rec} (V : GvOk gv) (R : RecOk prog w l own gv d rec) (hC : Cx d A)
include V R hC

theorem inner_B (S : Stat gv own s₀ X sc env D) {elt target iter target' iter' : Expr} {scope : Scope} {epos : Pos} {N : Value → Shared → Prop} {ρ' : Ro} {its : List It} {ys : List AV} (hi : iterV rec sc ρ' target' iter' = some its)
    (h : clauseV own sc ρ' target' (emit1 rec sc elt) its = some ys) (hlen : avs.length + ys.length ≤ 10000000) (i : Inn s₀ l X own sc env D ρ' avs s)
    {KK : Shared → Prop} (hK : ∀ s₅, Inn s₀ l X own sc env D ρ' (avs ++ ys) s₅ → But (WW sc env D) s s₅ → KK s₅) :
    wpAny (model prog w) A (eval iter' env) (fun x s₃ => wpAny (model prog w) A (pyIter x) (fun it' s₄ =>
        codeAny (model prog w) A (.compStart (.ListComp elt [⟨target, iter, [], 0⟩, ⟨target', iter', [], 0⟩] scope epos) 1 it' (.ref D) env) (fun r s' => match r with | .ok _ => KK s' | .error e => cameBackBy (model prog w) A env N e s') s₄) N s₃) N s := by
  refine iterV_sound V R S.envOk hC hi (i.gd S) i.loc (i.old S) fun I fp wr P Md St s₂ IA => ?_
  have i2 := i.keeps IA.keeps
  have loop : codeAny (model prog w) A (.compLoop (.ListComp elt [⟨target, iter, [], 0⟩, ⟨target', iter', [], 0⟩] scope epos) 1 (.ref I) (.ref D) env) (fun r s' => match r with | .ok _ => KK s' | .error e => cameBackBy (model prog w) A env N e s') s₂ := by
    refine clause_sound S shape3 IA hC.handled (fun b hb => .inl hb) (fun b hb => i2.fs.notList hb) (fp_apart IA fun b hb => ?_) (fun b hb => ?_) h hlen
      (fun ρ'' zs hz avs' s' hl' i' KK' hKK' => emit1_B R hC S hz hl' i' hKK') i2 IA.st (fun b o _ e => e) fun s' i' kp => ?_
    · rcases hb with rfl | hb
      · obtain ⟨zs, ⟨n, e⟩, _⟩ := i.acc
        exact ⟨⟨_, e⟩, .inl S.xD⟩
      · exact ⟨fm_ex i.fs hb, .inr (i2.fs.notList hb)⟩
    · have := IA.wrNew b hb
      cases e : s₀.heap.get? b with
      | none => rfl
      | some o => rw [Keeps.keep i.base b o e] at this; cases this
    · refine hK s' i' (but_of i.base i'.base fun b o hW e => kp b o hW (fun hm => ?_) (Keeps.keep IA.keeps b o e))
      rw [IA.wrNew b hm] at e; cases e
  exact start1 loop (IA.self _ _ _ IA.st loop)
end

section
variable {d : Nat} {rec : Rec} (V : GvOk gv) (R : RecOk prog w l own gv d rec) (hE : EnvOk sc env) (hC : Cx d A)
include V R hE hC

theorem compB_sound {elt target iter : Expr} {scope : Scope} {epos pos : Pos} {av : AV} {use : Option (Value → Sem Unit)} {Q : Value → Shared → Prop} (hsc : scOk scope sc ρ = true) (h : compB own rec sc ρ elt target iter scope = some av)
    (G : Gd gv s.heap) (L : Loc l X own env s.heap ρ) (O : Old X s.heap)
    (hQ : ∀ D C s', Keeps s s' → s.heap.get? C = Option.none → (∃ m, s'.heap.Ns C m) → Rep l X s'.heap (.ref D) av → compPost (model prog w) A E use Q (.ref D) C (.ok .next) s') :
    wpAny (model prog w) A (comprehension (.ListComp elt [⟨target, iter, [], 0⟩] scope epos) scope env pos (newList []) false (eval iter env) use) Q E s := by
  unfold compB at h
  split at h
  · cases h
  · rename_i hsub
    simp only [Bool.not_eq_true', Bool.not_eq_false] at hsub
    split at h
    · rename_i hb
      split at h
      · rename_i n0 n1
        split at h
        · rename_i x px
          split at h
          · rename_i hst
            simp only [Bool.and_eq_true, Bool.not_eq_true', beq_eq_false_iff_ne, ne_eq, decide_eq_true_eq] at hst
            obtain ⟨⟨hst, hox⟩, hn1⟩ := hst
            split at h
            · rename_i hel
              split at h
              · rename_i lo hi
                cases h
                have hset : ∀ x, foldedSetIterable iter env x = pure x := fun x => by
                  cases iter <;> first | rfl | cases hsub
                have hno : (seen scope ρ).lookup x = Option.none := by
                  cases e : (seen scope ρ).lookup x with
                  | none => rfl
                  | some av =>
                    have := (seen_lookup scope ρ x av e).2
                    rcases (stk_kind hst).1 with q | q <;> rw [this] at q <;> cases q
                have hcl : ∀ n, clauseV own scope.names (seen scope ρ) (.Name x px) (emit1 rec scope.names elt) (List.replicate n (.one .bigInt)) = some (List.replicate n (.anyInt lo hi)) := fun n => by
                  induction n with
                  | zero => rfl
                  | succ n ih =>
                    rw [List.replicate_succ, List.replicate_succ]
                    unfold clauseV
                    rw [if_neg (by simp [newT, hno])]
                    have hbv : bindV own scope.names (seen scope ρ) (.Name x px) (.one .bigInt) = some (setR (seen scope ρ) x .bigInt) := by
                      unfold bindV
                      simp only
                      rw [if_pos (by simp [hst, hox])]
                    rw [hbv]
                    simp only
                    rw [ih]
                    unfold emit1
                    rw [hel]
                    rfl
                refine comp_run (fun its' xs' => ∃ n, n0 ≤ n ∧ n ≤ n1 ∧ its' = List.replicate n (.one .bigInt) ∧ xs' = List.replicate n (.anyInt lo hi)) rfl hE hC.handled G L O hsc hset (fun Q E hq => ?_)
                  (by rintro _ _ ⟨n, h1, h2, rfl, rfl⟩; exact ⟨hcl n, by rw [List.length_replicate]; omega⟩) _ (fun I acc R cenv => shape1) (fun D cenv X' Rr S ρ' ys hy avs s' hl i KK hK => ?_) (by
                    rintro _ _ ⟨n, q1, q2, rfl, rfl⟩ D C s' k c0 d0 hns ⟨ys, h1, h2⟩ hX
                    have hyl : ys.length = n := by rw [h2.1, List.length_replicate]
                    refine hQ D C s' k c0 hns (.anyInts h1.isList hX (by omega) (by omega) fun v hv => ?_)
                    obtain ⟨j, hj, rfl⟩ := List.getElem_of_mem hv
                    have := h2.2 j ys[j] (.anyInt lo hi) (List.getElem?_eq_getElem hj) (by rw [List.getElem?_replicate, if_pos (by omega)])
                    exact this.inv)
                · refine R.val _ _ _ _ hb _ _ _ _ hE hC G L O _ _ fun v s' k rv => ?_
                  obtain ⟨a, vs, rfl, hl, hx, h0, h1, hv⟩ := rv.inv
                  · have hn : vs.length = (List.replicate vs.length AV.bigInt).length := by rw [List.length_replicate]
                    refine iter_list (l := l) (X := X) (target := .Name x px) rfl k hC.handled hl hx hn (fun i v x e1 e2 => ?_) fun I fp wr P Md St s₂ IA => ?_
                    · rw [List.getElem?_replicate] at e2
                      split at e2
                      · cases e2
                        obtain ⟨i', t, rfl⟩ := hv v (List.mem_of_getElem? e1)
                        exact .bigInt
                      · cases e2
                    · rw [List.map_replicate] at IA
                      exact hq _ _ ⟨vs.length, h0, h1, rfl, rfl⟩ I fp wr P Md St s₂ IA
                · refine wpAny_tests_nil ?_
                  rw [if_pos rfl]
                  exact emit1_B R hC S hy hl i hK
              · cases h
            · cases h
          · cases h
        · cases h
      · cases h
    · cases h

theorem comp1_sound {elt target iter : Expr} {scope : Scope} {epos pos : Pos} {av : AV} {use : Option (Value → Sem Unit)} {Q : Value → Shared → Prop} (hsc : scOk scope sc ρ = true) (h : comp1 own rec sc ρ elt target iter scope = some av)
    (G : Gd gv s.heap) (L : Loc l X own env s.heap ρ) (O : Old X s.heap)
    (hQ : ∀ D C s', Keeps s s' → s.heap.get? C = Option.none → (∃ m, s'.heap.Ns C m) → Rep l X s'.heap (.ref D) av → compPost (model prog w) A E use Q (.ref D) C (.ok .next) s') :
    wpAny (model prog w) A (comprehension (.ListComp elt [⟨target, iter, [], 0⟩] scope epos) scope env pos (newList []) false (eval iter env) use) Q E s := by
  unfold comp1 at h
  split at h
  · rename_i its hi
    cases hc : clauseV own scope.names (seen scope ρ) target (emit1 rec scope.names elt) its with
    | none => rw [hc] at h; cases h
    | some xs =>
      rw [hc] at h
      cases h
      have hlen : xs.length ≤ 10000000 := by
        have h1 := clauseV_len (m := 1) (fun ρ' ys hy => by unfold emit1 at hy; split at hy <;> cases hy; simp) hc
        have h2 := iterV_len hi
        omega
      refine comp_run (fun its' xs' => its' = its ∧ xs' = xs) rfl hE hC.handled G L O hsc (iterV_set hi) (fun Q E hq => iterV_sound V R hE hC hi G L O fun I fp wr P Md St s₂ IA => hq its xs ⟨rfl, rfl⟩ I fp wr P Md St s₂ IA)
        (by rintro _ _ ⟨rfl, rfl⟩; exact ⟨hc, hlen⟩) _ (fun I acc R cenv => shape1) (fun D cenv X' Rr S ρ' ys hy avs s' hl i KK hK => ?_) (by
          rintro _ _ ⟨rfl, rfl⟩ D C s' k c0 d0 hns ⟨ys, h1, h2⟩ hX
          exact hQ D C s' k c0 hns (.list h1.isList hX h2.1 h2.2))
      refine wpAny_tests_nil ?_
      rw [if_pos rfl]
      exact emit1_B R hC S hy hl i hK
  · exact compB_sound V R hE hC hsc h G L O hQ

theorem compT_sound {elt target iter c : Expr} {scope : Scope} {epos pos : Pos} {av : AV} {use : Option (Value → Sem Unit)} {Q : Value → Shared → Prop} (hsc : scOk scope sc ρ = true) (h : compT own rec sc ρ elt target iter c scope = some av)
    (G : Gd gv s.heap) (L : Loc l X own env s.heap ρ) (O : Old X s.heap)
    (hQ : ∀ D C s', Keeps s s' → s.heap.get? C = Option.none → (∃ m, s'.heap.Ns C m) → Rep l X s'.heap (.ref D) av → compPost (model prog w) A E use Q (.ref D) C (.ok .next) s') :
    wpAny (model prog w) A (comprehension (.ListComp elt [⟨target, iter, [c], 0⟩] scope epos) scope env pos (newList []) false (eval iter env) use) Q E s := by
  unfold compT at h
  split at h
  · rename_i its hi
    cases hc : clauseT own rec scope.names (seen scope ρ) target c elt its with
    | none => rw [hc] at h; cases h
    | some p =>
      obtain ⟨bs, xs⟩ := p
      rw [hc] at h
      cases h
      obtain ⟨hc', hbx, hxi⟩ := clauseT_V hc
      have hlen : (pick bs xs).length ≤ 10000000 := by
        have h1 := pickL_len bs xs
        have h2 := iterV_len hi
        omega
      refine comp_run (fun its' xs' => its' = its ∧ xs' = pick bs xs) rfl hE hC.handled G L O hsc (iterV_set hi) (fun Q E hq => iterV_sound V R hE hC hi G L O fun I fp wr P Md St s₂ IA => hq its _ ⟨rfl, rfl⟩ I fp wr P Md St s₂ IA)
        (by rintro _ _ ⟨rfl, rfl⟩; exact ⟨hc', hlen⟩) _ (fun I acc R cenv => shape1) (fun D cenv X' Rr S ρ' ys hy avs s' hl i KK hK => emitT_B R hC S hy hl i hK) (by
          rintro _ _ ⟨rfl, rfl⟩ D C s' k c0 d0 hns ⟨ys, h1, h2⟩ hX
          exact hQ D C s' k c0 hns (.filt h1.isList hX hbx h2.1 h2.2))
  · cases h

theorem comp2_sound {elt target iter target' iter' : Expr} {scope : Scope} {epos pos : Pos} {av : AV} {use : Option (Value → Sem Unit)} {Q : Value → Shared → Prop} (hsc : scOk scope sc ρ = true) (h : comp2 own rec sc ρ elt target iter target' iter' scope = some av)
    (G : Gd gv s.heap) (L : Loc l X own env s.heap ρ) (O : Old X s.heap)
    (hQ : ∀ D C s', Keeps s s' → s.heap.get? C = Option.none → (∃ m, s'.heap.Ns C m) → Rep l X s'.heap (.ref D) av → compPost (model prog w) A E use Q (.ref D) C (.ok .next) s') :
    wpAny (model prog w) A (comprehension (.ListComp elt [⟨target, iter, [], 0⟩, ⟨target', iter', [], 0⟩] scope epos) scope env pos (newList []) false (eval iter env) use) Q E s := by
  unfold comp2 at h
  split at h
  · rename_i its hi
    generalize hem : (fun ρ' => match iterV rec scope.names ρ' target' iter' with
      | some its' => clauseV own scope.names ρ' target' (emit1 rec scope.names elt) its'
      | Option.none => Option.none) = emit at h
    cases hc : clauseV own scope.names (seen scope ρ) target emit its with
    | none => rw [hc] at h; cases h
    | some xs =>
      rw [hc] at h
      cases h
      have hem' : ∀ ρ' ys, emit ρ' = some ys → ∃ its', iterV rec scope.names ρ' target' iter' = some its' ∧ clauseV own scope.names ρ' target' (emit1 rec scope.names elt) its' = some ys := fun ρ' ys hy => by
        rw [← hem] at hy
        dsimp only at hy
        split at hy
        · rename_i its' hi'
          exact ⟨its', hi', hy⟩
        · cases hy
      have hlen : xs.length ≤ 10000000 := by
        have h1 := clauseV_len (m := 2001) (fun ρ' ys hy => by
          obtain ⟨its', hi', hy'⟩ := hem' ρ' ys hy
          have h1 := clauseV_len (m := 1) (fun ρ' ys hy => by unfold emit1 at hy; split at hy <;> cases hy; simp) hy'
          have h2 := iterV_len hi'
          omega) hc
        have h2 := iterV_len hi
        omega
      by_cases hne : ∃ ρ' its', iterV rec scope.names ρ' target' iter' = some its'
      · obtain ⟨ρx, itsx, hix⟩ := hne
        refine comp_run (fun its' xs' => its' = its ∧ xs' = xs) rfl hE hC.handled G L O hsc (iterV_set hi) (fun Q E hq => iterV_sound V R hE hC hi G L O fun I fp wr P Md St s₂ IA => hq its xs ⟨rfl, rfl⟩ I fp wr P Md St s₂ IA)
          (by rintro _ _ ⟨rfl, rfl⟩; exact ⟨hc, hlen⟩) _ (fun I acc R cenv => shape2 (iterV_set hix)) (fun D cenv X' Rr S ρ' ys hy avs s' hl i KK hK => ?_) (by
            rintro _ _ ⟨rfl, rfl⟩ D C s' k c0 d0 hns ⟨ys, h1, h2⟩ hX
            exact hQ D C s' k c0 hns (.list h1.isList hX h2.1 h2.2))
        obtain ⟨its', hi', hy'⟩ := hem' ρ' ys hy
        exact inner_B V R hC S hi' hy' hl i hK
      · refine comp_run (fun its' xs' => its' = its ∧ xs' = xs) rfl hE hC.handled G L O hsc (iterV_set hi) (fun Q E hq => iterV_sound V R hE hC hi G L O fun I fp wr P Md St s₂ IA => hq its xs ⟨rfl, rfl⟩ I fp wr P Md St s₂ IA)
          (by rintro _ _ ⟨rfl, rfl⟩; exact ⟨hc, hlen⟩) (fun _ _ _ _ _ => False) (fun I acc R cenv => shape2F) (fun D cenv X' Rr S ρ' ys hy avs s' hl i KK hK => ?_) (by
            rintro _ _ ⟨rfl, rfl⟩ D C s' k c0 d0 hns ⟨ys, h1, h2⟩ hX
            exact hQ D C s' k c0 hns (.list h1.isList hX h2.1 h2.2))
        obtain ⟨its', hi', _⟩ := hem' ρ' ys hy
        exact hne ⟨_, its', hi'⟩
  · cases h

theorem comp_sound {elt : Expr} {gens : List Comprehension} {scope : Scope} {epos pos : Pos} {av : AV} {use : Option (Value → Sem Unit)} {Q : Value → Shared → Prop} (h : compV own rec sc ρ elt gens scope = some av)
    (G : Gd gv s.heap) (L : Loc l X own env s.heap ρ) (O : Old X s.heap)
    (hQ : ∀ D C s', Keeps s s' → s.heap.get? C = Option.none → (∃ m, s'.heap.Ns C m) → Rep l X s'.heap (.ref D) av → compPost (model prog w) A E use Q (.ref D) C (.ok .next) s') :
    wpAny (model prog w) A (comprehension (.ListComp elt gens scope epos) scope env pos (newList []) (firstAsync gens) (firstIter gens env) use) Q E s := by
  unfold compV at h
  split at h
  · cases h
  · rename_i hsc
    simp only [Bool.not_eq_true', Bool.not_eq_false] at hsc
    split at h
    · split at h
      · rename_i hcl
        obtain rfl := asCl_inv hcl
        split at h
        · exact comp1_sound V R hE hC hsc h G L O hQ
        · exact compT_sound V R hE hC hsc h G L O hQ
        · cases h
      · cases h
    · split at h
      · rename_i hcl
        obtain rfl := asCl_inv hcl
        split at h
        · split at h
          · rename_i hcl'
            obtain rfl := asCl_inv hcl'
            split at h
            · exact comp2_sound V R hE hC hsc h G L O hQ
            · cases h
          · cases h
        · cases h
      · cases h
    · cases h
end
end Mine
end

section
namespace Mine
open PySem PySem.Calls PyProof.Rows PySem.W

variable {l : Nat} {X : Addr → Prop} {gv : Gv} {prog : Program} {w : World} {A : Around} {E : Value → Shared → Prop} {s : Shared} {env : Env} {sc : Sc} {ρ : Ro}

theorem Cx.room {n : Nat} (h : Cx n A) : A.units + 64 < cLine := by
  have := h.units
  have e : cLine = 9900 := rfl
  omega

/-- what a called def is to answer -/
noncomputable def CallOk (prog : Program) (w : World) (l : Nat) (gv : Gv) (d : Nat) (call' : Str → List AV → Option AV) : Prop :=
  ∀ f as av, call' f as = some av → as ≠ [] ∧ ∃ a o fd, gv.v f = some (.ref a) ∧ gv.ob a o ∧ o.data = .func fd ∧
    ∀ X A s vs, Cx d A → Gd gv s.heap → Old X s.heap → RepL l X s.heap vs as → ∀ (Q : Value → Shared → Prop) E, Post l X s av Q → wpAny (model prog w) A (call (.ref a) vs) Q E s

theorem isi_flt {a : AV} {b : Bool} {va : Value} {Q : Value → Shared → Prop} (h : isFlt a = some b) (ra : Rep l X s.heap va a) (hQ : Post l X s (.bool b) Q) : wpAny (model prog w) A (call (.builtin "isinstance") [va, .type "float"]) Q E s := by
  unfold isFlt at h
  split at h
  · cases h
    obtain ⟨_, _, rfl, _⟩ := ra.inv
    exact IsiPair.float_float (hQ _ _ (Keeps.refl _) (.bool _))
  · cases h
    obtain ⟨_, rfl, _, _⟩ := ra.inv
    exact IsiPair.int_float (hQ _ _ (Keeps.tok ..) (.bool _))
  · cases h
theorem isi_int {a : AV} {b : Bool} {va : Value} {Q : Value → Shared → Prop} (h : isIntB a = some b) (ra : Rep l X s.heap va a) (hQ : Post l X s (.bool b) Q) : wpAny (model prog w) A (call (.builtin "isinstance") [va, .type "int"]) Q E s := by
  unfold isIntB at h
  split at h
  · cases h
    obtain ⟨_, rfl, _, _⟩ := ra.inv
    exact IsiPair.int_int (hQ _ _ (Keeps.refl _) (.bool _))
  · cases h
theorem isi_bool {a : AV} {b : Bool} {va : Value} {Q : Value → Shared → Prop} (h : isBoolB a = some b) (ra : Rep l X s.heap va a) (hQ : Post l X s (.bool b) Q) : wpAny (model prog w) A (call (.builtin "isinstance") [va, .type "bool"]) Q E s := by
  unfold isBoolB at h
  split at h
  · cases h
    obtain ⟨_, rfl, _, _⟩ := ra.inv
    exact IsiPair.int_bool (hQ _ _ (Keeps.tok ..) (.bool _))
  · cases h

theorem lowC_ok : (List.range 24).all (fun k => [65, 66, 67, 97, 98, 99].all fun c => match lowC c with
    | some d => (Txt.lower ⟨#[c + k]⟩).cps.toList == [d + k]
    | Option.none => false) = true := by decide +kernel
theorem lowC_in {c d : Nat} (h : lowC c = some d) : c ∈ [65, 66, 67, 97, 98, 99] := by
  unfold lowC at h
  split at h
  · rename_i q
    simp only [Bool.and_eq_true, decide_eq_true_eq] at q
    obtain ⟨k, rfl⟩ := Nat.exists_eq_add_of_le q.1
    have hk : k < 8 := by omega
    exact below8 (P := fun k => 65 + k ≤ 67 → 65 + k ∈ [65, 66, 67, 97, 98, 99]) (by decide) (by decide) (by decide) (by decide) (by decide) (by decide) (by decide) (by decide) hk q.2
  · split at h
    · rename_i q
      simp only [Bool.and_eq_true, decide_eq_true_eq] at q
      obtain ⟨k, rfl⟩ := Nat.exists_eq_add_of_le q.1
      have hk : k < 8 := by omega
      exact below8 (P := fun k => 97 + k ≤ 99 → 97 + k ∈ [65, 66, 67, 97, 98, 99]) (by decide) (by decide) (by decide) (by decide) (by decide) (by decide) (by decide) (by decide) hk q.2
    · cases h
theorem lower_is {c d : Nat} (h : lowC c = some d) (hl : l < 24) {x : Str} (hx : x.cps.toList = [c + l]) : (Txt.lower x).cps.toList = [d + l] := by
  have := List.all_eq_true.mp (List.all_eq_true.mp lowC_ok l (List.mem_range.mpr hl)) c (lowC_in h)
  rw [h] at this
  have e : x = ⟨#[c + l]⟩ := by
    obtain ⟨a⟩ := x
    congr 1
    simp only at hx
    rw [← Array.toArray_toList (xs := a), hx]
  subst e
  simpa using this

/-- the built-ins and the called defs -/
theorem builtinV_sound {cfg : Cfg} {d : Nat} (V : GvOk gv) (hl0 : cfg.l0 = true → l = 0) (C : CallOk prog w l gv d cfg.call) {rec : Rec} (R : RecOk prog w l cfg.own gv d rec) (hE : EnvOk sc env) (hC : Cx d A)
    {f : Str} {pf pos : Pos} {args : List Expr} {as : List AV} {av : AV} {Q : Value → Shared → Prop} (hg : glb sc f = true) (ha : evL rec sc ρ args = some as) (h : builtinV cfg f as = some av)
    (G : Gd gv s.heap) (L : Loc l X cfg.own env s.heap ρ) (O : Old X s.heap) (hQ : Post l X s av Q) : wpAny (model prog w) A (eval (.Call (.Name f pf) args [] pos) env) Q E s := by
  have more : ∀ {a b : AV} {s' : Shared}, Keeps s s' → Post l X s a Q → Post l X s' a Q := fun k hq v s'' k' r => hq v s'' (Keeps.trans k k') r
  have fin : cfg.call f as = some av → wpAny (model prog w) A (eval (.Call (.Name f pf) args [] pos) env) Q E s := fun hc => by
    obtain ⟨hne, a, o, fd, hv, hob, hfd, hcall⟩ := C f as av hc
    have hne' : args ≠ [] := fun e => by subst e; cases ha; exact hne rfl
    refine call_name hE hg G hv (callF_sound R hE hC ha hne' G L O (G.2.1 a o hob) hfd fun vs s' k r => ?_)
    exact hcall X A s' vs hC (G.keeps (Keeps.keep k)) (O.keeps (Keeps.keep k)) r Q E fun v s'' k' r' => hQ v s'' (Keeps.trans k k') r'
  unfold builtinV at h
  split at h
  · rename_i a
    have hne' : args ≠ [] := fun e => by subst e; cases ha
    split at h
    · rename_i hf
      have hf := eq_of_beq hf
      subst hf
      refine call_name hE hg G V.len (callB_sound R hE hC ha hne' G L O fun vs s' k r => ?_)
      obtain ⟨v, rfl, rv⟩ := r.inv1
      exact lenV_sound h rv fun v s'' k' r' => hQ v s'' (Keeps.trans k k') r'
    · split at h
      · rename_i hf
        have hf := eq_of_beq hf
        subst hf
        refine call_name hE hg G V.sum (callB_sound R hE hC ha hne' G L O fun vs s' k r => ?_)
        obtain ⟨v, rfl, rv⟩ := r.inv1
        exact sumAV_sound hC.handled h rv fun v s'' k' r' => hQ v s'' (Keeps.trans k k') r'
      · split at h
        · rename_i hf
          have hf := eq_of_beq hf
          subst hf
          refine call_name hE hg G V.chr (callB_sound R hE hC ha hne' G L O fun vs s' k r => ?_)
          obtain ⟨v, rfl, rv⟩ := r.inv1
          exact chrV_sound hl0 h rv fun v s'' k' r' => hQ v s'' (Keeps.trans k k') r'
        · split at h
          · rename_i hf
            have hf := eq_of_beq hf
            subst hf
            split at h
            · refine call_name hE hg G V.fsum (callB_sound R hE hC ha hne' G L O fun vs s' k r => ?_)
              obtain ⟨v, rfl, rv⟩ := r.inv1
              exact fsumV_sound hC.handled h rv fun v s'' k' r' => hQ v s'' (Keeps.trans k k') r'
            · cases h
          · exact fin h
  · rename_i a b
    have hne' : args ≠ [] := fun e => by subst e; cases ha
    split at h
    · rename_i hf
      have hf := eq_of_beq hf
      subst hf
      refine call_name hE hg G V.min (callB_sound R hE hC ha hne' G L O fun vs s' k r => ?_)
      obtain ⟨v, u, rfl, rv, ru⟩ := r.inv2
      exact minV_sound hC.handled h rv ru fun v s'' k' r' => hQ v s'' (Keeps.trans k k') r'
    · exact fin h
  · exact fin h
end Mine
end

section
namespace Mine
open PySem PySem.Calls PyProof.Rows PySem.W

variable {l : Nat} {X : Addr → Prop} {gv : Gv} {prog : Program} {w : World} {A : Around} {E : Value → Shared → Prop} {s : Shared} {env : Env} {sc : Sc} {ρ : Ro}

/-- list(range(..)): a new list of its ints -/
theorem list_range_sound {cfg : Cfg} {d : Nat} (V : GvOk gv) {rec : Rec} (R : RecOk prog w l cfg.own gv d rec) (hE : EnvOk sc env) (hC : Cx d A)
    {f r : Str} {pf pr pos rpos : Pos} {rargs : List Expr} {as lst : List AV} {Q : Value → Shared → Prop} (hf : f = "list") (hr : r = "range") (hgf : glb sc f = true) (hgr : glb sc r = true) (ha : evL rec sc ρ rargs = some as) (hne : rargs ≠ []) (h : rangeV as = some lst)
    (G : Gd gv s.heap) (L : Loc l X cfg.own env s.heap ρ) (O : Old X s.heap)
    (hQ : ∀ D s' (ys : List Value), Keeps s s' → s.heap.get? D = Option.none → s'.heap.PlainList D ys.toArray → RepL l X s'.heap ys lst → Q (.ref D) s') :
    wpAny (model prog w) A (eval (.Call (.Name f pf) [.Call (.Name r pr) rargs [] rpos] [] pos) env) Q E s := by
  subst hf hr
  have hs : ∀ v p, (.Call (.Name "range" pr) rargs [] rpos : Expr) ≠ .Starred v p := fun v p q => by cases q
  refine call_name hE hgf G V.list (PySem.callWith_type (evL_any _ (by simp) pos) ?_)
  rw [starEach_plain hs]
  refine evalArgs_plain (spliced_cons ?_)
  refine call_name hE hgr G V.range (callT_sound R hE hC ha hne G L O fun vs s' k rr => ?_)
  refine call_range h rr fun r' a b c t u v s'' k' hR h1 h2 h3 h4 he => ?_
  refine spliced_nil ?_
  have hsz : (Builtin.Range.rangeSize a b c) = ((rangeN a b c : Nat) : Int) := by unfold rangeN; have := rangeSize_nn (a := a) (b := b) h1; omega
  have hle := rangeN_le (a := a) (b := b) h1 h3 h4
  refine call_list_range hC.handled hR (small_range h1 h2 h3 h4) hsz (by omega) fun h' tk acc' c' hk hS' hacc => ?_
  have k2 := Keeps.trans k k'
  refine hQ _ { s'' with heap := h', toks := tk } acc'.toList (Keeps.trans k2 ⟨h', tk, rfl, hk⟩) ?_ ⟨c', by simpa using hS'⟩ ⟨by subst he; rw [rangeL_len]; simp [hacc.1], fun i v x e1 e2 => ?_⟩
  · cases e : s.heap.get? s''.heap.objs.size with
    | none => rfl
    | some o => exact absurd (Heap.lt_size (Keeps.keep k2 _ _ e)) (Nat.lt_irrefl _)
  · have hv' : acc'[i]? = some v := by simpa using e1
    obtain ⟨tk, rfl⟩ := hacc.2 i v hv'
    have hj : i < rangeN a b c := by
      have := (Array.getElem?_eq_some_iff.mp hv').1
      rw [hacc.1] at this; exact this
    subst he
    rw [rangeL_at _ _ _ _ hj] at e2
    cases e2
    exact .int (Int.le_refl _) (Int.le_refl _)

theorem evL_ne {rec : Rec} {args : List Expr} {as lst : List AV} (ha : evL rec sc ρ args = some as) (h : rangeV as = some lst) : args ≠ [] := fun q => by
  subst q
  cases ha
  cases h

section
variable {cfg : Cfg} {d : Nat} (V : GvOk gv) {rec : Rec} (R : RecOk prog w l cfg.own gv d rec) (hE : EnvOk sc env) (hC : Cx d A) (G : Gd gv s.heap) (L : Loc l X cfg.own env s.heap ρ) (O : Old X s.heap)
include V R hE hC G L O

theorem isi_call {e : Expr} {t : Str} {pf pt pos : Pos} {a : AV} {T : String} {Q : Value → Shared → Prop} (hg : glb sc "isinstance" = true) (hgt : glb sc t = true) (ha : rec false sc ρ e = some a) (hT : gv.v t = some (.type T))
    (hk : ∀ v s', Keeps s s' → Rep l X s'.heap v a → wpAny (model prog w) A (call (.builtin "isinstance") [v, .type T]) Q E s') :
    wpAny (model prog w) A (eval (.Call (.Name "isinstance" pf) [e, .Name t pt] [] pos) env) Q E s := by
  have hs : ∀ v p, e ≠ .Starred v p := fun v p q => by subst q; rw [R.star] at ha; cases ha
  have hs2 : ∀ v p, (.Name t pt : Expr) ≠ .Starred v p := fun v p q => by cases q
  refine call_name hE hg G V.isinstance (callWith_builtin (evL_any _ (by simp [hs]; intro v p q; exact hs v p q.symm) pos) ?_)
  rw [starEach_plain hs]
  refine evalArgs_plain (spliced_cons (R.val _ _ _ _ ha _ _ _ _ hE hC G L O _ _ fun v s' k rv => ?_))
  rw [starEach_plain hs2]
  exact spliced_cons (name_glob hE hgt (G.keeps (Keeps.keep k)) hT (spliced_nil (hk v s' k rv)))
theorem isiV_sound {pf pos : Pos} {args : List Expr} {av : AV} {Q : Value → Shared → Prop} (hg : glb sc "isinstance" = true) (h : isiV rec sc ρ args = some av) (hQ : Post l X s av Q) :
    wpAny (model prog w) A (eval (.Call (.Name "isinstance" pf) args [] pos) env) Q E s := by
  unfold isiV at h
  split at h
  · split at h
    · rename_i ht
      obtain ⟨_, rfl⟩ := asName_inv ht
      split at h
      · cases h
      · rename_i hgt
        simp only [Bool.not_eq_true', Bool.not_eq_false] at hgt
        split at h
        · rename_i a ha
          split at h
          · rename_i ht
            obtain rfl := eq_of_beq ht
            obtain ⟨b, hb, rfl⟩ := Option.map_eq_some_iff.mp h
            exact isi_call V R hE hC G L O hg hgt ha V.float fun v s' k rv => isi_flt hb rv fun v s'' k' r' => hQ v s'' (Keeps.trans k k') r'
          · split at h
            · rename_i ht
              obtain rfl := eq_of_beq ht
              obtain ⟨b, hb, rfl⟩ := Option.map_eq_some_iff.mp h
              exact isi_call V R hE hC G L O hg hgt ha V.int fun v s' k rv => isi_int hb rv fun v s'' k' r' => hQ v s'' (Keeps.trans k k') r'
            · split at h
              · rename_i ht
                obtain rfl := eq_of_beq ht
                obtain ⟨b, hb, rfl⟩ := Option.map_eq_some_iff.mp h
                exact isi_call V R hE hC G L O hg hgt ha V.bool fun v s' k rv => isi_bool hb rv fun v s'' k' r' => hQ v s'' (Keeps.trans k k') r'
              · cases h
        · cases h
    · cases h
  · cases h
theorem listRV_sound {pf pos : Pos} {args : List Expr} {lst : List AV} {Q : Value → Shared → Prop} (hg : glb sc "list" = true) (h : listRV rec sc ρ args = some lst)
    (hQ : ∀ D s' (ys : List Value), Keeps s s' → s.heap.get? D = Option.none → s'.heap.PlainList D ys.toArray → RepL l X s'.heap ys lst → Q (.ref D) s') :
    wpAny (model prog w) A (eval (.Call (.Name "list" pf) args [] pos) env) Q E s := by
  unfold listRV at h
  split at h
  · split at h
    · rename_i hc
      cases asCall_inv hc
      split at h
      · rename_i hr
        simp only [Bool.and_eq_true] at hr
        split at h
        · rename_i as ha
          exact list_range_sound V R hE hC rfl (eq_of_beq hr.1) hg hr.2 ha (evL_ne ha h) h G L O hQ
        · cases h
      · cases h
    · cases h
  · cases h
end

theorem callV_sound {cfg : Cfg} {d : Nat} (V : GvOk gv) (hl0 : cfg.l0 = true → l = 0) (C : CallOk prog w l gv d cfg.call) {rec : Rec} (R : RecOk prog w l cfg.own gv d rec) (hE : EnvOk sc env) (hC : Cx d A)
    {f : Str} {pf pos : Pos} {args : List Expr} {av : AV} {Q : Value → Shared → Prop} (h : callV cfg rec sc ρ f args = some av)
    (G : Gd gv s.heap) (L : Loc l X cfg.own env s.heap ρ) (O : Old X s.heap) (hQ : Post l X s av Q) : wpAny (model prog w) A (eval (.Call (.Name f pf) args [] pos) env) Q E s := by
  unfold callV at h
  split at h
  · cases h
  · rename_i hg
    simp only [Bool.not_eq_true', Bool.not_eq_false] at hg
    split at h
    · rename_i hf
      obtain rfl := eq_of_beq hf
      exact isiV_sound V R hE hC G L O hg h hQ
    · split at h
      · rename_i hf
        obtain rfl := eq_of_beq hf
        obtain ⟨lst, hb, rfl⟩ := Option.map_eq_some_iff.mp h
        refine listRV_sound V R hE hC G L O hg hb fun D s' ys k hnew hp hr => hQ _ _ k (.list hp.isList (fun q => ?_) hr.1 hr.2)
        obtain ⟨o, e⟩ := O D q
        rw [hnew] at e; cases e
      · split at h
        · rename_i as ha
          exact builtinV_sound V hl0 C R hE hC hg ha h G L O hQ
        · cases h
end Mine
end

section
namespace Mine
open PySem PySem.Calls PyProof.Rows PySem.W

variable {l : Nat} {X : Addr → Prop} {gv : Gv} {prog : Program} {w : World} {A : Around} {E : Value → Shared → Prop} {s : Shared} {env : Env} {sc : Sc} {ρ : Ro}

/-- the constants that the frame's names may mean -/
noncomputable def ConstOk (gv : Gv) (cs : List (Str × Int)) : Prop := ∀ x i, cs.lookup x = some i → ∃ t, gv.v x = some (.int i t)

theorem marks_none {op : CmpOp} {r : Expr} {a b : AV} {c : Bool} (h : cmpV op a b = some c) : behindInMarks op r = false := by
  cases op <;> first | cases h | (cases r <;> first | rfl | simp [behindInMarks])
theorem post_of {a : AV} {s s' : Shared} {Q : Value → Shared → Prop} (k : Keeps s s') (hq : Post l X s a Q) : Post l X s' a Q := fun v s'' k' r => hq v s'' (Keeps.trans k k') r
theorem posB_of {b : Bool} {s s' : Shared} {Q : Bool → Shared → Prop} (k : Keeps s s') (hq : ∀ s', Keeps s s' → Q b s') : ∀ s'', Keeps s' s'' → Q b s'' := fun s'' k' => hq s'' (Keeps.trans k k')

theorem PR.keeps {h h' : Heap} {v : Value} {a : Option AV} (r : PR l X h v a) (k : ∀ b o, h.get? b = some o → h'.get? b = some o) : PR l X h' v a := by
  cases a with
  | none => exact r
  | some a => exact Rep.keeps r k

theorem evL_len {rec : Rec} : ∀ {args : List Expr} {as : List AV}, evL rec sc ρ args = some as → as.length = args.length
  | [], _, h => by cases h; rfl
  | e :: r, as, h => by
    unfold evL at h
    split at h
    · rename_i a t ha ht
      cases h
      simp [evL_len ht]
    · cases h

section
variable {cfg : Cfg} {d : Nat} (V : GvOk gv) (hl0 : cfg.l0 = true → l = 0) (hl : l < 24) (K : ConstOk gv cfg.consts) (C : CallOk prog w l gv d cfg.call) {rec : Rec} (R : RecOk prog w l cfg.own gv d rec)
include R

theorem evO_sound {x : Option Expr} {a : Option AV} (h : evO rec sc ρ x = some a) (hE : EnvOk sc env) (hC : Cx d A) (G : Gd gv s.heap) (L : Loc l X cfg.own env s.heap ρ) (O : Old X s.heap) {Q : Value → Shared → Prop}
    (hQ : ∀ v s', Keeps s s' → PR l X s'.heap v a → Q v s') : wpAny (model prog w) A (evalPart x env) Q E s := by
  unfold evO at h
  split at h
  · cases h
    exact evalPart_none_step (hQ _ _ (Keeps.refl s) rfl)
  · split at h
    · rename_i e a ha
      cases h
      exact evalPart_some_step (R.val _ _ _ _ ha _ _ _ _ hE hC G L O _ _ fun v s' k r => hQ v s' k r)
    · cases h

theorem evCmp_inv {lft : Expr} {ops : List CmpOp} {rs : List Expr} {c : Bool} (h : evCmp rec sc ρ lft ops rs = some c) :
    ∃ op r a b, ops = [op] ∧ rs = [r] ∧ rec false sc ρ lft = some a ∧ rec false sc ρ r = some b ∧ cmpV op a b = some c := by
  unfold evCmp at h
  split at h
  · split at h
    · split at h
      · rename_i ha
        split at h
        · rename_i hb
          exact ⟨_, _, _, _, rfl, rfl, ha, hb, h⟩
        · cases h
      · cases h
    · cases h
  · cases h

/-- what a test is to answer -/
def TestOk (prog : Program) (w : World) (l : Nat) (own : Option Str) (gv : Gv) (d : Nat) (sc : Sc) (ρ : Ro) (e : Expr) (b : Bool) : Prop :=
  ∀ X env A s, EnvOk sc env → Cx d A → Gd gv s.heap → Loc l X own env s.heap ρ → Old X s.heap →
    ∀ (Q : Bool → Shared → Prop) E, (∀ s', Keeps s s' → Q b s') → wpAny (model prog w) A (isTrue e env (eval e env)) Q E s
theorem asBool_test {e : Expr} {b : Bool} (h : asBool (rec true sc ρ e) = some b) : TestOk prog w l cfg.own gv d sc ρ e b := by
  obtain ⟨b', e, hT⟩ := R.test _ _ _ _ (asBool_inv h)
  cases e
  exact hT

theorem and_sound {x : Expr} {es : List Expr} {b c : Bool} {p : Pos} (hx : TestOk prog w l cfg.own gv d sc ρ x b) (hb : b = false → c = false) (hr : b = true → TestOk prog w l cfg.own gv d sc ρ (.BoolOp .And es p) c) : TestOk prog w l cfg.own gv d sc ρ (.BoolOp .And (x :: es) p) c := by
  intro X env A s hE hC G L O Q E hQ
  refine isTrue_and (hx X env A s hE hC G L O _ _ fun s' k => ?_)
  cases b with
  | false => obtain rfl := hb rfl; exact hQ s' k
  | true =>
    rw [if_pos rfl]
    exact hr rfl X env A s' hE hC (G.keeps (Keeps.keep k)) (L.keeps (Keeps.keep k)) (O.keeps (Keeps.keep k)) _ _ fun s'' k' => hQ s'' (Keeps.trans k k')
theorem or_sound {x : Expr} {es : List Expr} {b c : Bool} {p : Pos} (hx : TestOk prog w l cfg.own gv d sc ρ x b) (hb : b = true → c = true) (hr : b = false → TestOk prog w l cfg.own gv d sc ρ (.BoolOp .Or es p) c) : TestOk prog w l cfg.own gv d sc ρ (.BoolOp .Or (x :: es) p) c := by
  intro X env A s hE hC G L O Q E hQ
  refine isTrue_or (hx X env A s hE hC G L O _ _ fun s' k => ?_)
  cases b with
  | true => obtain rfl := hb rfl; exact hQ s' k
  | false =>
    rw [if_neg (by decide)]
    exact hr rfl X env A s' hE hC (G.keeps (Keeps.keep k)) (L.keeps (Keeps.keep k)) (O.keeps (Keeps.keep k)) _ _ fun s'' k' => hQ s'' (Keeps.trans k k')
theorem and_one {x : Expr} {b : Bool} {p : Pos} (hx : TestOk prog w l cfg.own gv d sc ρ x b) : TestOk prog w l cfg.own gv d sc ρ (.BoolOp .And [x] p) b := by
  intro X env A s hE hC G L O Q E hQ
  refine isTrue_and (hx X env A s hE hC G L O _ _ fun s' k => ?_)
  cases b with
  | false => exact hQ s' k
  | true => exact isTrue_and_nil (hQ s' k)
theorem or_one {x : Expr} {b : Bool} {p : Pos} (hx : TestOk prog w l cfg.own gv d sc ρ x b) : TestOk prog w l cfg.own gv d sc ρ (.BoolOp .Or [x] p) b := by
  intro X env A s hE hC G L O Q E hQ
  refine isTrue_or (hx X env A s hE hC G L O _ _ fun s' k => ?_)
  cases b with
  | true => exact hQ s' k
  | false => exact isTrue_or_nil (hQ s' k)
theorem evTwo_sound {op : BoolOp} {x y : Expr} {b : Bool} {p : Pos} (h : evTwo rec sc ρ op x y = some b) : TestOk prog w l cfg.own gv d sc ρ (.BoolOp op [x, y] p) b := by
  unfold evTwo at h
  split at h
  · rename_i bx hx
    split at h
    · rename_i c hy
      cases h
      cases op with
      | And => exact and_sound R (asBool_test R hx) (fun q => by rw [q]; rfl) fun q => by rw [q]; exact and_one R (asBool_test R hy)
      | Or => exact or_sound R (asBool_test R hx) (fun q => by rw [q]; rfl) fun q => by rw [q]; exact or_one R (asBool_test R hy)
    · cases op with
      | And =>
        cases bx with
        | true => cases h
        | false => cases h; exact and_sound R (asBool_test R hx) (fun _ => rfl) fun q => by cases q
      | Or =>
        cases bx with
        | false => cases h
        | true => cases h; exact or_sound R (asBool_test R hx) (fun _ => rfl) fun q => by cases q
  · cases h
theorem evThree_sound {x y z : Expr} {b : Bool} {p : Pos} (h : evThree rec sc ρ x y z = some b) : TestOk prog w l cfg.own gv d sc ρ (.BoolOp .And [x, y, z] p) b := by
  unfold evThree at h
  split at h
  · rename_i bx hx
    cases bx with
    | false => cases h; exact and_sound R (asBool_test R hx) (fun _ => rfl) fun q => by cases q
    | true =>
      refine and_sound R (asBool_test R hx) (fun q => by cases q) fun _ => ?_
      rw [if_pos rfl] at h
      split at h
      · rename_i c hy
        cases c with
        | false => cases h; exact and_sound R (asBool_test R hy) (fun _ => rfl) fun q => by cases q
        | true =>
          rw [if_pos rfl] at h
          exact and_sound R (asBool_test R hy) (fun q => by cases q) fun _ => and_one R (asBool_test R h)
      · cases h
  · cases h
theorem evBool_sound {op : BoolOp} {es : List Expr} {b : Bool} {p : Pos} (h : evBool rec sc ρ op es = some b) : TestOk prog w l cfg.own gv d sc ρ (.BoolOp op es p) b := by
  unfold evBool at h
  split at h
  · exact evTwo_sound R h
  · split at h
    · exact evThree_sound R h
    · cases h
  · cases h
theorem evCmp_test {lft : Expr} {ops : List CmpOp} {rs : List Expr} {b : Bool} {p : Pos} (h : evCmp rec sc ρ lft ops rs = some b) : TestOk prog w l cfg.own gv d sc ρ (.Compare lft ops rs p) b := by
  obtain ⟨op, r, a, b', rfl, rfl, ha, hb, hc⟩ := evCmp_inv R h
  intro X env A s hE hC G L O Q E hQ
  refine wpAny_isTrue_Compare1 (R.val _ _ _ _ ha _ _ _ _ hE hC G L O _ _ fun v s' k rv => ?_) (marks_none hc)
  refine R.val _ _ _ _ hb _ _ _ _ hE hC (G.keeps (Keeps.keep k)) (L.keeps (Keeps.keep k)) (O.keeps (Keeps.keep k)) _ _ fun u s'' k' ru => ?_
  exact cmpV_sound hc (rv.keeps (Keeps.keep k')) ru hC.room fun s3 k3 => wpAny_truthy_bool (hQ s3 (Keeps.trans (Keeps.trans k k') k3))
theorem evTruth_plain {e : Expr} {b : Bool} {env : Env} (h : evTruth rec sc ρ e = some b) (he : isTrue e env (eval e env) = (do let v ← eval e env; standAt e.pos; holding [v] (truthy v))) {X : Addr → Prop} {A : Around} {s : Shared} (hE : EnvOk sc env) (hC : Cx d A) (G : Gd gv s.heap) (L : Loc l X cfg.own env s.heap ρ) (O : Old X s.heap)
    {Q : Bool → Shared → Prop} {E : Value → Shared → Prop} (hQ : ∀ s', Keeps s s' → Q b s') : wpAny (model prog w) A (isTrue e env (eval e env)) Q E s := by
  unfold evTruth at h
  split at h
  · rename_i ha
    exact isTrue_plain (R.val _ _ _ _ ha _ _ _ _ hE hC G L O _ _ fun v s' k rv => truthV_sound h rv fun s'' k' => hQ s'' (Keeps.trans k k')) he
  · cases h
theorem evT_sound {e : Expr} {b : Bool} (h : evT rec sc ρ e = some b) : TestOk prog w l cfg.own gv d sc ρ e b := by
  unfold evT at h
  split at h
  · split at h
    · obtain ⟨c, hc, rfl⟩ := Option.map_eq_some_iff.mp h
      exact fun X env A s hE hC G L O Q E hQ => isTrue_not (asBool_test R hc X env A s hE hC G L O _ _ hQ)
    · cases h
  · exact evBool_sound R h
  · exact evCmp_test R h
  · exact fun X env A s hE hC G L O Q E hQ => evTruth_plain R h rfl hE hC G L O hQ
  · exact fun X env A s hE hC G L O Q E hQ => evTruth_plain R h rfl hE hC G L O hQ
  · exact fun X env A s hE hC G L O Q E hQ => evTruth_plain R h rfl hE hC G L O hQ
  · cases h
theorem evF_test {e : Expr} {av : AV} (h : evF cfg rec true sc ρ e = some av) : ∃ b, av = .bool b ∧ ∀ X env A s, EnvOk sc env → Cx d A → Gd gv s.heap → Loc l X cfg.own env s.heap ρ → Old X s.heap →
    ∀ (Q : Bool → Shared → Prop) E, (∀ s', Keeps s s' → Q b s') → wpAny (model prog w) A (isTrue e env (eval e env)) Q E s := by
  obtain ⟨b, hb, rfl⟩ := Option.map_eq_some_iff.mp h
  exact ⟨b, rfl, evT_sound R hb⟩

section
variable {X : Addr → Prop} {env : Env} {A : Around} {s : Shared} (hE : EnvOk sc env) (hC : Cx d A) (G : Gd gv s.heap) (L : Loc l X cfg.own env s.heap ρ) (O : Old X s.heap) {Q E : Value → Shared → Prop} {av : AV} (hQ : Post l X s av Q)
include hE hC G L O hQ

theorem evBin_sound {lft r : Expr} {op : Operator} {p : Pos} (h : evBin rec sc ρ lft op r = some av) : wpAny (model prog w) A (eval (.BinOp lft op r p) env) Q E s := by
  unfold evBin at h
  split at h
  · rename_i ha
    split at h
    · rename_i hb
      refine wpAny_BinOp (R.val _ _ _ _ ha _ _ _ _ hE hC G L O _ _ fun v s' k rv => ?_)
      refine R.val _ _ _ _ hb _ _ _ _ hE hC (G.keeps (Keeps.keep k)) (L.keeps (Keeps.keep k)) (O.keeps (Keeps.keep k)) _ _ fun u s'' k' ru => ?_
      have k2 := Keeps.trans k k'
      exact binV_sound h (rv.keeps (Keeps.keep k')) ru (O.keeps (Keeps.keep k2)) (post_of k2 hQ)
    · cases h
  · cases h
theorem evCmp_val {lft : Expr} {ops : List CmpOp} {rs : List Expr} {p : Pos} (h : (evCmp rec sc ρ lft ops rs).map AV.bool = some av) : wpAny (model prog w) A (eval (.Compare lft ops rs p) env) Q E s := by
  obtain ⟨c, hc, rfl⟩ := Option.map_eq_some_iff.mp h
  obtain ⟨op, r, a, b, rfl, rfl, ha, hb, hc⟩ := evCmp_inv R hc
  refine wpAny_Compare1 (R.val _ _ _ _ ha _ _ _ _ hE hC G L O _ _ fun v s' k rv => ?_) (marks_none hc)
  refine R.val _ _ _ _ hb _ _ _ _ hE hC (G.keeps (Keeps.keep k)) (L.keeps (Keeps.keep k)) (O.keeps (Keeps.keep k)) _ _ fun u s'' k' ru => ?_
  exact cmpV_sound hc (rv.keeps (Keeps.keep k')) ru hC.room fun s3 k3 => hQ _ _ (Keeps.trans (Keeps.trans k k') k3) (.bool _)
theorem evOr_sound {op : BoolOp} {es : List Expr} {p : Pos} (h : evOr rec sc ρ op es = some av) : wpAny (model prog w) A (eval (.BoolOp op es p) env) Q E s := by
  unfold evOr at h
  split at h
  · split at h
    · split at h
      · rename_i ha
        split at h
        · rename_i t ht
          refine BoolOp_or (R.val _ _ _ _ ha _ _ _ _ hE hC G L O _ _ fun v s' k rv => truthV_sound ht rv fun s'' k' => ?_)
          have k2 := Keeps.trans k k'
          cases t with
          | true =>
            cases h
            exact hQ _ _ k2 (rv.keeps (Keeps.keep k'))
          | false =>
            rw [if_neg (by decide)] at h ⊢
            exact BoolOp_one (R.val _ _ _ _ h _ _ _ _ hE hC (G.keeps (Keeps.keep k2)) (L.keeps (Keeps.keep k2)) (O.keeps (Keeps.keep k2)) _ _ (post_of k2 hQ))
        · cases h
      · cases h
    · cases h
  · cases h
theorem evIf_sound {t x y : Expr} {p : Pos} (h : evIf rec sc ρ t x y = some av) : wpAny (model prog w) A (eval (.IfExp t x y p) env) Q E s := by
  unfold evIf at h
  split at h
  · rename_i b hb
    refine IfExp_ (asBool_test R hb _ _ _ _ hE hC G L O _ _ fun s' k => ?_)
    cases b with
    | true => exact R.val _ _ _ _ h _ _ _ _ hE hC (G.keeps (Keeps.keep k)) (L.keeps (Keeps.keep k)) (O.keeps (Keeps.keep k)) _ _ (post_of k hQ)
    | false =>
      rw [if_neg (by decide)] at h ⊢
      exact R.val _ _ _ _ h _ _ _ _ hE hC (G.keeps (Keeps.keep k)) (L.keeps (Keeps.keep k)) (O.keeps (Keeps.keep k)) _ _ (post_of k hQ)
  · cases h
theorem evSlice_sound {v : Expr} {lo hi st : Option Expr} {sp p : Pos} (h : evSlice rec sc ρ v lo hi st = some av) : wpAny (model prog w) A (eval (.Subscript v (.Slice lo hi st sp) p) env) Q E s := by
  unfold evSlice at h
  split at h
  · rename_i ha
    split at h
    · rename_i hlo
      split at h
      · rename_i hhi
        split at h
        · rename_i hst
          refine Subscript_ (R.val _ _ _ _ ha _ _ _ _ hE hC G L O _ _ fun v s' k rv => ?_)
          have go := fun {s' : Shared} (k : Keeps s s') => (And.intro (G.keeps (Keeps.keep k)) (And.intro (L.keeps (Keeps.keep k)) (O.keeps (Keeps.keep k))))
          refine wpAny_Slice (evO_sound R hlo hE hC (go k).1 (go k).2.1 (go k).2.2 fun v1 s1 k1 r1 => ?_)
          have kk1 := Keeps.trans k k1
          refine evO_sound R hhi hE hC (go kk1).1 (go kk1).2.1 (go kk1).2.2 fun v2 s2 k2 r2 => ?_
          have kk2 := Keeps.trans kk1 k2
          refine evO_sound R hst hE hC (go kk2).1 (go kk2).2.1 (go kk2).2.2 fun v3 s3 k3 r3 => ?_
          have kk3 := Keeps.trans kk2 k3
          have kp := Keeps.push s3 { cls := .type "slice", data := .fields #[v1, v2, v3] } s3.toks
          have kk4 := Keeps.trans kk3 kp
          refine slice_sound (sl := s3.heap.objs.size) h (rv.keeps (Keeps.keep (Keeps.trans k1 (Keeps.trans k2 (Keeps.trans k3 kp))))) (Heap.get?_push_size _ rfl) ?_ ?_ ?_ (O.keeps (Keeps.keep kk4)) (post_of kk4 hQ)
          · exact PR.keeps r1 (Keeps.keep (Keeps.trans k2 (Keeps.trans k3 kp)))
          · exact PR.keeps r2 (Keeps.keep (Keeps.trans k3 kp))
          · exact PR.keeps r3 (Keeps.keep kp)
        · cases h
      · cases h
    · cases h
  · cases h
omit R hE hC G L O in
theorem sub_any {value slice : Expr} {a b : AV} {va vb : Value} (h : subV a b = some av) (ra : Rep l X s.heap va a) (rb : Rep l X s.heap vb b) : wpAny (model prog w) A (subscriptTail value slice va vb) Q E s := by
  cases a with
  | list xs =>
    obtain ⟨_, _, rfl, hl, hx, hn, hv⟩ := ra.inv
    exact item_sound h hl hn hv rb hQ
  | str cs =>
    obtain ⟨_, _, rfl, hx⟩ := ra.inv
    exact sign_sound h hx rb hQ
  | _ => cases h
theorem evItem_sound {v i : Expr} {p : Pos} (hi : ∀ lo hi st sp, i ≠ .Slice lo hi st sp) (h : evItem rec sc ρ v i = some av) : wpAny (model prog w) A (eval (.Subscript v i p) env) Q E s := by
  unfold evItem at h
  split at h
  · rename_i a ha
    split at h
    · rename_i hb
      unfold baseV at ha
      split at ha
      · rename_i x px
        by_cases ho : cfg.own = some x
        · obtain ⟨D, vs, xs, e, H, hX, hp, hn, hv⟩ := L.own x a ha ho
          subst e
          refine Subscript_ (name_has hE.kind H ?_)
          refine R.val _ _ _ _ hb _ _ _ _ hE hC G L O _ _ fun t s'' k' rt => ?_
          exact item_sound h (isList_at hp.isList fun o e => Keeps.keep k' _ o e) hn (fun i v x e1 e2 => (hv i v x e1 e2).keeps (Keeps.keep k')) rt (post_of k' hQ)
        · obtain ⟨u, H, ru⟩ := L.var x a ha ho
          refine Subscript_ (name_has hE.kind H ?_)
          exact R.val _ _ _ _ hb _ _ _ _ hE hC G L O _ _ fun t s'' k' rt => sub_any (post_of k' hQ) h (ru.keeps (Keeps.keep k')) rt
      · refine Subscript_ (R.val _ _ _ _ ha _ _ _ _ hE hC G L O _ _ fun u s' k ru => ?_)
        refine R.val _ _ _ _ hb _ _ _ _ hE hC (G.keeps (Keeps.keep k)) (L.keeps (Keeps.keep k)) (O.keeps (Keeps.keep k)) _ _ fun t s'' k' rt => ?_
        exact sub_any (post_of (Keeps.trans k k') hQ) h (ru.keeps (Keeps.keep k')) rt
    · cases h
  · cases h
theorem evComp_sound (V : GvOk gv) {elt : Expr} {gens : List Comprehension} {scope : Scope} {p : Pos} (h : compV cfg.own rec sc ρ elt gens scope = some av) : wpAny (model prog w) A (eval (.ListComp elt gens scope p) env) Q E s := by
  rw [arm_eval_ListComp]
  refine comp_sound (use := Option.none) V R hE hC h G L O fun D Cc s' k hnew hns r => ?_
  obtain ⟨m, hm⟩ := hns
  refine ⟨m, hm, fun h' hs => hQ _ _ ?_ ?_⟩
  · obtain ⟨hh, tk, rfl, kk⟩ := k
    exact ⟨h', tk, rfl, fun b o e => hs.extBut b o (fun q => by subst q; rw [hnew] at e; cases e) (kk b o e)⟩
  · exact r.later fun b vs hb _ o e => hs.extBut b o (fun q => by subst q; exact ns_not_list hm hb) e
theorem evList_sound {elts : List Expr} {p : Pos} (hsz : elts.length ≤ 1000) (h : (evL rec sc ρ elts).map AV.list = some av) : wpAny (model prog w) A (eval (.List elts p) env) Q E s := by
  obtain ⟨as, ha, rfl⟩ := Option.map_eq_some_iff.mp h
  have hlen := evL_len ha
  refine List_ (evL_sound R hE hC ha G L O fun vs s' k r => ?_)
  refine wpAny_newList (hQ _ _ (Keeps.trans k (Keeps.push _ _ _)) (new_list (O.keeps (Keeps.keep k)) r.1 r.2)) ?_
  rw [r.1, hlen, sizeLine_eq]
  omega
theorem evConst_sound {c : Const} {k : Nat} {p : Pos} (h : evConst c = some av) : wpAny (model prog w) A (eval (.Constant c k p) env) Q E s := by
  unfold evConst at h
  split at h
  · cases h
    exact wpAny_Constant_int (hQ _ _ (Keeps.tok ..) (.int (Int.le_refl _) (Int.le_refl _)))
  · cases h
    exact Constant_none (hQ _ _ (Keeps.refl _) .none)
  · cases h
    exact Constant_bool (hQ _ _ (Keeps.refl _) (.bool _))
  · split at h
    · rename_i q
      obtain rfl := eq_of_beq q
      cases h
      exact Constant_str (hQ _ _ (Keeps.tok ..) (.str rfl))
    · cases h
  · cases h
theorem evName_sound (K : ConstOk gv cfg.consts) {x : Str} {p : Pos} (h : evName cfg sc ρ x = some av) : wpAny (model prog w) A (eval (.Name x p) env) Q E s := by
  unfold evName at h
  split at h
  · cases h
  · rename_i ho
    have ho : cfg.own ≠ some x := by simpa using ho
    split at h
    · rename_i a ha
      cases h
      obtain ⟨v, H, r⟩ := L.var x _ ha ho
      exact name_has hE.kind H (hQ _ _ (Keeps.refl _) r)
    · split at h
      · rename_i hg
        obtain ⟨i, hc, rfl⟩ := Option.map_eq_some_iff.mp h
        obtain ⟨t, ht⟩ := K x i hc
        exact name_glob hE hg G ht (hQ _ _ (Keeps.refl _) (.int (Int.le_refl _) (Int.le_refl _)))
      · cases h
theorem evLower_sound (hl : l < 24) {o : Expr} {name : Str} {apos pos : Pos} {args : List Expr} (h : evLower rec sc ρ o name apos args pos = some av) : wpAny (model prog w) A (eval (.Call (.Attribute o name apos) args [] pos) env) Q E s := by
  unfold evLower at h
  split at h
  · split at h
    · split at h
      · rename_i hn
        simp only [Bool.and_eq_true] at hn
        obtain ⟨hn, hline⟩ := hn
        obtain rfl := eq_of_beq hn
        split at h
        · rename_i hx
          split at h
          · split at h
            · obtain ⟨d, hd, rfl⟩ := Option.map_eq_some_iff.mp h
              refine Call_method0 rfl hline (R.val _ _ _ _ hx _ _ _ _ hE hC G L O _ _ fun v s' k rv => ?_)
              obtain ⟨xx, _, rfl, hv⟩ := rv.inv
              have hlow := lower_is hd hl hv
              have hlen : (Txt.lower xx).length = 1 := by
                have := congrArg List.length hlow
                simpa [Str.length] using this
              exact SB.lower (by rw [hlen]; decide) (hQ _ _ (Keeps.trans k (Keeps.tok ..)) (.str (by rw [hlow]; rfl)))
            · cases h
          · cases h
        · cases h
      · cases h
    · cases h
  · cases h
end

include V hl0 hl K C

theorem evF_val {e : Expr} {av : AV} (h : evF cfg rec false sc ρ e = some av) (X : Addr → Prop) (env : Env) (A : Around) (s : Shared) (hE : EnvOk sc env) (hC : Cx d A) (G : Gd gv s.heap) (L : Loc l X cfg.own env s.heap ρ) (O : Old X s.heap)
    (Q : Value → Shared → Prop) (E : Value → Shared → Prop) (hQ : Post l X s av Q) : wpAny (model prog w) A (eval e env) Q E s := by
  replace h : evV cfg rec sc ρ e = some av := h
  unfold evV at h
  split at h
  · exact evConst_sound R hE hC G L O hQ h
  · exact evName_sound R hE hC G L O hQ K h
  · exact evBin_sound R hE hC G L O hQ h
  · exact evCmp_val R hE hC G L O hQ h
  · exact evOr_sound R hE hC G L O hQ h
  · exact evIf_sound R hE hC G L O hQ h
  · unfold evCall at h
    split at h
    · split at h
      · exact callV_sound V hl0 C R hE hC h G L O hQ
      · exact evLower_sound R hE hC G L O hQ hl h
      · cases h
    · cases h
  · unfold evSub at h
    split at h
    · exact evSlice_sound R hE hC G L O hQ h
    · rename_i hno
      exact evItem_sound R hE hC G L O hQ hno h
  · exact evComp_sound R hE hC G L O hQ V h
  · split at h
    · rename_i hsz
      exact evList_sound R hE hC G L O hQ hsz h
    · cases h
  · cases h
end
end Mine
end

section
namespace Mine
open PySem PySem.Calls PyProof.Rows PySem.W

variable {l : Nat} {gv : Gv} {prog : Program} {w : World}

theorem ev_ok {cfg : Cfg} {d : Nat} (V : GvOk gv) (hl0 : cfg.l0 = true → l = 0) (hl : l < 24) (K : ConstOk gv cfg.consts) (C : CallOk prog w l gv d cfg.call) : ∀ n, RecOk prog w l cfg.own gv d (ev cfg n)
  | 0 => ⟨fun _ _ _ _ _ => rfl, fun _ _ _ _ h => (by cases h), fun _ _ _ _ h => (by cases h)⟩
  | n + 1 => by
    have R := ev_ok V hl0 hl K C n
    refine ⟨fun t sc ρ v p => ?_, fun sc ρ e av h X env A s hE hC G L O Q E hQ => evF_val V hl0 hl K C R h X env A s hE hC G L O Q E hQ, fun sc ρ e av h => evF_test R h⟩
    cases t <;> rfl
end Mine
end

section
namespace Mine
open PySem PySem.Calls PyProof.Rows PySem.W

variable {g : Option (Addr × Addr)} {l : Nat} {X X₀ Y Y' : Addr → Prop} {own : Option Str} {gv : Gv} {prog : Program} {w : World} {A : Around} {E : Value → Shared → Prop} {s s₀ : Shared} {env : Env} {sc : Sc} {ρ ρ' : Ro}

/-- names, cells and lists stand -/
structure Mild (env : Env) (h h' : Heap) : Prop where
  ns : ∀ m, h.Ns env.locals m → ∀ o, h.get? env.locals = some o → h'.get? env.locals = some o
  cell : ∀ c v, h.IsCell c v → ∀ o, h.get? c = some o → h'.get? c = some o
  list : ∀ b vs, h.IsList b vs → ∀ o, h.get? b = some o → h'.get? b = some o
theorem Mild.of {h h' : Heap} (k : ∀ b o, h.get? b = some o → h'.get? b = some o) : Mild env h h' := ⟨fun _ _ o e => k _ o e, fun _ _ _ o e => k _ o e, fun _ _ _ o e => k _ o e⟩
theorem Mild.soft {h h' : Heap} (k : Soft h h') : Mild env h h' := ⟨fun _ q o e => k _ o e (ns_not_odd q o e), fun _ _ q o e => k _ o e (cell_not_odd q o e), fun _ _ q o e => k _ o e (list_not_odd q o e)⟩
/-- another frame's names changed -/
theorem Mild.other {h h' : Heap} {C : Addr} {m : Str → Option Value} (hm : h.Ns C m) (hne : C ≠ env.locals) (hs : Heap.SameBut C h h') : Mild env h h' :=
  ⟨fun _ _ o e => hs.extBut _ o (fun q => hne q.symm) e, fun c v q o e => hs.extBut _ o (fun z => by subst z; exact ns_not_cell hm q) e, fun b vs q o e => hs.extBut _ o (fun z => by subst z; exact ns_not_list hm q) e⟩
theorem Has.mild {h h' : Heap} {x : Str} {v : Value} (H : Has env h x v) (k : Mild env h h') : Has env h' x v := by
  obtain ⟨h0, ⟨h1, m, h2, h3⟩ | ⟨h1, c, h2, h3⟩ | ⟨h1, h4, c, h2, h3⟩⟩ := H
  · exact ⟨h0, .inl ⟨h1, m, h2.at' fun o e => k.ns m h2 o e, h3⟩⟩
  · obtain ⟨o, e, hd⟩ := h3
    exact ⟨h0, .inr (.inl ⟨h1, c, h2, o, k.cell _ _ ⟨o, e, hd⟩ o e, hd⟩)⟩
  · obtain ⟨o, e, hd⟩ := h3
    exact ⟨h0, .inr (.inr ⟨h1, h4, c, h2, o, k.cell _ _ ⟨o, e, hd⟩ o e, hd⟩)⟩
theorem Rep.mild {h h' : Heap} {v : Value} {a : AV} (r : Rep l X h v a) (k : Mild env h h') : Rep l X h' v a := r.later fun b _ hb _ o e => k.list b _ hb o e
theorem RepL.mild {h h' : Heap} {vs : List Value} {as : List AV} (r : RepL l X h vs as) (k : Mild env h h') : RepL l X h' vs as := ⟨r.1, fun i v x e1 e2 => (r.2 i v x e1 e2).mild k⟩
theorem Loc.mild {h h' : Heap} (L : Loc l X own env h ρ) (k : Mild env h h') : Loc l X own env h' ρ where
  var := fun x av e ho => let ⟨v, h1, h2⟩ := L.var x av e ho; ⟨v, h1.mild k, h2.mild k⟩
  own := fun x av e ho => let ⟨a, vs, xs, h1, h2, h3, h4, h5, h6⟩ := L.own x av e ho; ⟨a, vs, xs, h1, h2.mild k, h3, h4.at fun o e => k.list _ _ h4.isList o e, h5, fun i v y e1 e2 => (h6 i v y e1 e2).mild k⟩
theorem FS.mild {h h' : Heap} (F : FS sc env h) (k : Mild env h h') : FS sc env h' where
  ns := let ⟨m, hm⟩ := F.ns; ⟨m, hm.at' fun o e => k.ns m hm o e⟩
  cell := fun x hx => let ⟨c, v, h1, o, h2, h3⟩ := F.cell x hx; ⟨c, v, h1, o, k.cell _ _ ⟨o, h2, h3⟩ o h2, h3⟩
  apart := F.apart

/-- a code object and its table -/
noncomputable def CodeAt (h : Heap) (c P : Addr) (ps : Array Value) : Prop := h.IsCode c P ps ∧ h.TableAt c P ps
theorem CodeAt.at {h h' : Heap} {c P : Addr} {ps : Array Value} (x : CodeAt h c P ps) (k1 : ∀ o, h.get? c = some o → h'.get? c = some o) (k2 : ∀ o, h.get? P = some o → h'.get? P = some o) : CodeAt h' c P ps := by
  obtain ⟨⟨o, vs, file, tf, flags, tg, inF, text, tt, op, a, r1, r2, r3, r4, r5, r6, b, r⟩, ⟨o', vs', a', r'⟩, t⟩ := x
  exact ⟨⟨o, vs, file, tf, flags, tg, inF, text, tt, op, k1 _ a, r1, r2, r3, r4, r5, r6, k2 _ b, r⟩, ⟨o', vs', k1 _ a', r'⟩, k2 _ t⟩
theorem CodeAt.ne {h : Heap} {c P : Addr} {ps : Array Value} (x : CodeAt h c P ps) : c ≠ P := by
  obtain ⟨⟨o, vs, file, tf, flags, tg, inF, text, tt, op, a, r1, r2, r3, r4, r5, r6, b, _, _, r⟩, _⟩ := x
  exact r
theorem CodeAt.not_list {h : Heap} {c P : Addr} {ps : Array Value} (x : CodeAt h c P ps) {vs : Array Value} : ¬ h.IsList P vs := fun ⟨o, e, h1, _⟩ => by
  rw [x.2.2] at e; cases e; cases h1
theorem CodeAt.not_ns {h : Heap} {c P : Addr} {ps : Array Value} (x : CodeAt h c P ps) {m : Str → Option Value} : ¬ h.Ns P m := fun ⟨o, es, ep, e, hd, _⟩ => by
  rw [x.2.2] at e; cases e; cases hd
theorem CodeAt.not_cell {h : Heap} {c P : Addr} {ps : Array Value} (x : CodeAt h c P ps) {v : Option Value} : ¬ h.IsCell P v := fun ⟨o, e, hd⟩ => by
  rw [x.2.2] at e; cases e; cases hd
noncomputable def TabOk (g : Option (Addr × Addr)) (h : Heap) : Prop := ∀ c P, g = some (c, P) → ∃ ps, CodeAt h c P ps
noncomputable def TabP (g : Option (Addr × Addr)) (b : Addr) : Prop := ∃ c, g = some (c, b)

/-- all that stood stands, but for the one table, which may grow; generators may have been made there, and have ended -/
noncomputable def GKeeps (g : Option (Addr × Addr)) (s s' : Shared) : Prop := ∃ h' tk gs, s' = { s with heap := h', toks := tk, gens := gs } ∧ (g = Option.none → gs = s.gens) ∧ ((∀ y ∈ s.gens, y.bare = true) → ∀ y ∈ gs, y.bare = true) ∧
  (∀ b o, ¬ TabP g b → s.heap.get? b = some o → h'.get? b = some o) ∧ ∀ c P, g = some (c, P) → ∀ ps, CodeAt s.heap c P ps → ∃ more, CodeAt h' c P (ps ++ more)
theorem GKeeps.of {s s' : Shared} (k : Keeps s s') : GKeeps g s s' := let ⟨h', tk, e, q⟩ := k; ⟨h', tk, s.gens, e, fun _ => rfl, fun x => x, fun b o _ e => q b o e, fun c P _ ps x => ⟨#[], by rw [Array.append_empty]; exact x.at (fun o e => q _ o e) fun o e => q _ o e⟩⟩
theorem GKeeps.to {s s' : Shared} (k : GKeeps Option.none s s') : Keeps s s' := by
  obtain ⟨h', tk, gs, rfl, e, _, q, _⟩ := k
  cases e rfl
  exact ⟨h', tk, rfl, fun b o e => q b o (fun ⟨c, z⟩ => by cases z) e⟩
theorem GKeeps.refl (s : Shared) : GKeeps g s s := .of (Keeps.refl s)
theorem GKeeps.trans {s s' s'' : Shared} (a : GKeeps g s s') (b : GKeeps g s' s'') : GKeeps g s s'' := by
  obtain ⟨h, t, gs, rfl, e, bb, k, q⟩ := a
  obtain ⟨h', t', gs', rfl, e', bb', k', q'⟩ := b
  refine ⟨h', t', gs', rfl, fun q => (e' q).trans (e q), fun q => bb' (bb q), fun b o n x => k' b o n (k b o n x), fun c P hg ps x => ?_⟩
  obtain ⟨m1, x1⟩ := q c P hg ps x
  obtain ⟨m2, x2⟩ := q' c P hg _ x1
  exact ⟨m1 ++ m2, by rw [← Array.append_assoc]; exact x2⟩
theorem GKeeps.keep {s s' : Shared} (a : GKeeps g s s') : ∀ b o, ¬ TabP g b → s.heap.get? b = some o → s'.heap.get? b = some o := by
  obtain ⟨h, t, gs, rfl, e, bb, k, _⟩ := a
  exact k
theorem GKeeps.tab {s s' : Shared} (a : GKeeps g s s') : ∀ c P, g = some (c, P) → ∀ ps, CodeAt s.heap c P ps → ∃ more, CodeAt s'.heap c P (ps ++ more) := by
  obtain ⟨h, t, gs, rfl, e, bb, _, k⟩ := a
  exact k
theorem TabOk.keeps {s s' : Shared} (t : TabOk g s.heap) (a : GKeeps g s s') : TabOk g s'.heap := fun c P hg => by
  obtain ⟨ps, x⟩ := t c P hg
  obtain ⟨more, y⟩ := a.tab c P hg ps x
  exact ⟨_, y⟩
theorem GKeeps.ex {s s' : Shared} (t : TabOk g s.heap) (a : GKeeps g s s') {b : Addr} {o : Obj} (e : s.heap.get? b = some o) : ∃ o', s'.heap.get? b = some o' := by
  by_cases h : TabP g b
  · obtain ⟨c, h⟩ := h
    obtain ⟨ps, x⟩ := t.keeps a c b h
    exact ⟨_, x.2.2⟩
  · exact ⟨o, a.keep b o h e⟩
/-- the heap turned so where nothing old lay, the rest the same -/
theorem GKeeps.turn {s s' : Shared} (a : GKeeps g s s') {h' : Heap} {tk : Nat} (k : ∀ b o₀ o, s.heap.get? b = some o₀ → s'.heap.get? b = some o → h'.get? b = some o) : GKeeps g s { s' with heap := h', toks := tk } := by
  obtain ⟨h, t, gs, rfl, e, bb, q, r⟩ := a
  refine ⟨h', tk, gs, rfl, e, bb, fun b o n x => k b o o x (q b o n x), fun c P hg ps x => ?_⟩
  obtain ⟨more, y⟩ := r c P hg ps x
  have hc : ∃ o, s.heap.get? c = some o := by
    obtain ⟨⟨o, vs, file, tf, flags, tg, inF, text, tt, op, a, _⟩, _⟩ := x
    exact ⟨o, a⟩
  obtain ⟨oc, ec⟩ := hc
  exact ⟨more, y.at (fun o e => k c oc o ec e) fun o e => k P _ o x.2.2 e⟩
theorem GKeeps.mild {s s' : Shared} (t : TabOk g s.heap) (a : GKeeps g s s') : Mild env s.heap s'.heap where
  ns := fun m hm o e => a.keep _ o (fun ⟨c, h⟩ => let ⟨ps, x⟩ := t c _ h; x.not_ns hm) e
  cell := fun c v hc o e => a.keep _ o (fun ⟨c, h⟩ => let ⟨ps, x⟩ := t c _ h; x.not_cell hc) e
  list := fun b vs hl o e => a.keep _ o (fun ⟨c, h⟩ => let ⟨ps, x⟩ := t c _ h; x.not_list hl) e
/-- what the names mean stays -/
theorem Gd.turn {s s' : Shared} (G : Gd gv s.heap) (t : TabOk g s.heap) (hob : ∀ a o, gv.ob a o → ∀ vs, o ≠ { cls := .none, data := .fields vs }) (a : GKeeps g s s') : Gd gv s'.heap := by
  obtain ⟨⟨mc, h1, h2⟩, ho, mg, mb, g1, g2, g3⟩ := G
  have kn : ∀ {b : Addr} {m : Str → Option Value}, s.heap.Ns b m → s'.heap.Ns b m := fun hm => hm.at' fun o e => a.keep _ o (fun ⟨c, h⟩ => let ⟨ps, x⟩ := t c _ h; x.not_ns hm) e
  refine ⟨⟨mc, kn h1, h2⟩, fun b o e => a.keep b o (fun ⟨c, h⟩ => ?_) (ho b o e), mg, mb, kn g1, kn g2, g3⟩
  obtain ⟨ps, x⟩ := t c _ h
  have := x.2.2
  rw [ho b o e] at this
  exact hob b o e ps (Option.some.inj this)

/-- what is so all through a def's frame -/
structure Frm (g : Option (Addr × Addr)) (gv : Gv) (s₀ : Shared) (X₀ : Addr → Prop) (sc : Sc) (env : Env) : Prop where
  gd : Gd gv s₀.heap
  old : Old X₀ s₀.heap
  envOk : EnvOk sc env
  fmNew : ∀ b, Fm sc env b → s₀.heap.get? b = Option.none
  tab : TabOk g s₀.heap
  obT : ∀ a o, gv.ob a o → ∀ vs, o ≠ { cls := .none, data := .fields vs }

structure Fst (g : Option (Addr × Addr)) (own : Option Str) (s₀ : Shared) (l : Nat) (X₀ Y : Addr → Prop) (sc : Sc) (env : Env) (ρ : Ro) (s : Shared) : Prop where
  base : GKeeps g s₀ s
  fs : FS sc env s.heap
  loc : Loc l (fun b => X₀ b ∨ Y b) own env s.heap ρ
  yEx : ∀ b, Y b → ∃ vs, s.heap.IsList b vs
  yNew : ∀ b, Y b → s₀.heap.get? b = Option.none
  ownY : ∀ x av a, ρ.lookup x = some av → own = some x → Has env s.heap x (.ref a) → Y a

/-- what a step may change -/
structure Stp (g : Option (Addr × Addr)) (sc : Sc) (env : Env) (Y Y' : Addr → Prop) (s s' : Shared) : Prop where
  sub : ∀ b, Y b → Y' b
  new : ∀ b, Y' b → Y b ∨ s.heap.get? b = Option.none
  but : ∀ b o, ¬ (Fm sc env b ∨ Y' b) → ¬ TabP g b → s.heap.get? b = some o → s'.heap.get? b = some o

theorem Stp.of (k : Keeps s s₀) : Stp g sc env Y Y s s₀ := ⟨fun _ h => h, fun _ h => .inl h, fun b o _ _ e => Keeps.keep k b o e⟩
theorem Stp.ofG (k : GKeeps g s s₀) : Stp g sc env Y Y s s₀ := ⟨fun _ h => h, fun _ h => .inl h, fun b o _ n e => GKeeps.keep k b o n e⟩

theorem Fst.tab (S : Frm g gv s₀ X₀ sc env) (f : Fst g own s₀ l X₀ Y sc env ρ s) : TabOk g s.heap := S.tab.keeps f.base
theorem Fst.gd (S : Frm g gv s₀ X₀ sc env) (f : Fst g own s₀ l X₀ Y sc env ρ s) : Gd gv s.heap := S.gd.turn S.tab S.obT f.base
theorem Fst.old (S : Frm g gv s₀ X₀ sc env) (f : Fst g own s₀ l X₀ Y sc env ρ s) : Old (fun b => X₀ b ∨ Y b) s.heap := fun b hb => by
  rcases hb with hb | hb
  · obtain ⟨o, e⟩ := S.old b hb
    exact GKeeps.ex S.tab f.base e
  · obtain ⟨vs, o, e, _⟩ := f.yEx b hb
    exact ⟨o, e⟩
theorem Fst.keepsG {s' : Shared} (S : Frm g gv s₀ X₀ sc env) (f : Fst g own s₀ l X₀ Y sc env ρ s) (k : GKeeps g s s') : Fst g own s₀ l X₀ Y sc env ρ s' where
  base := GKeeps.trans f.base k
  fs := f.fs.mild (k.mild (f.tab S))
  loc := f.loc.mild (k.mild (f.tab S))
  yEx := fun b hb => let ⟨vs, h⟩ := f.yEx b hb; ⟨vs, isList_at h fun o e => (k.mild (env := env) (f.tab S)).list _ _ h o e⟩
  yNew := f.yNew
  ownY := fun x av a hx ho H => by
    obtain ⟨a', vs, xs, h1, h2, h3, h4, h5, h6⟩ := f.loc.own x av hx ho
    have := f.ownY x av a' hx ho h2
    have e := has_inj (h2.mild (k.mild (f.tab S))) H
    cases e
    exact this
where
  has_inj {h : Heap} {x : Str} {u v : Value} (H : Has env h x u) (H' : Has env h x v) : u = v := by
    obtain ⟨h0, ⟨h1, m, h2, h3⟩ | ⟨h1, c, h2, h3⟩ | ⟨h1, h4, c, h2, h3⟩⟩ := H
    · obtain ⟨_, ⟨q1, m', q2, q3⟩ | ⟨q1, _⟩ | ⟨q1, _⟩⟩ := H'
      · obtain ⟨o, es, ep, e1, e2, _, e3⟩ := h2
        obtain ⟨o', es', ep', e1', e2', _, e3'⟩ := q2
        rw [e1] at e1'; cases e1'; rw [e2] at e2'; cases e2'
        have : m = m' := by funext y; rw [← e3, ← e3']
        subst this
        rw [h3] at q3
        exact Option.some.inj q3
      · rw [h1] at q1; cases q1
      · rw [h1] at q1; cases q1
    · obtain ⟨_, ⟨q1, m', q2, q3⟩ | ⟨q1, c', q2, q3⟩ | ⟨q1, _⟩⟩ := H'
      · rw [h1] at q1; cases q1
      · rw [h2] at q2; cases q2
        obtain ⟨o, e1, e2⟩ := h3
        obtain ⟨o', e1', e2'⟩ := q3
        rw [e1] at e1'; cases e1'; rw [e2] at e2'; cases e2'
        rfl
      · rw [h1] at q1; cases q1
    · obtain ⟨_, ⟨q1, m', q2, q3⟩ | ⟨q1, c', q2, q3⟩ | ⟨q1, _, c', q2, q3⟩⟩ := H'
      · rw [h1] at q1; cases q1
      · rw [h1] at q1; cases q1
      · rw [h2] at q2; cases q2
        obtain ⟨o, e1, e2⟩ := h3
        obtain ⟨o', e1', e2'⟩ := q3
        rw [e1] at e1'; cases e1'; rw [e2] at e2'; cases e2'
        rfl
theorem Fst.keeps {s' : Shared} (f : Fst g own s₀ l X₀ Y sc env ρ s) (k : Keeps s s') : Fst g own s₀ l X₀ Y sc env ρ s' where
  base := GKeeps.trans f.base (.of k)
  fs := f.fs.keeps (Keeps.keep k)
  loc := f.loc.keeps (Keeps.keep k)
  yEx := fun b hb => let ⟨vs, h⟩ := f.yEx b hb; ⟨vs, isList_at h fun o e => Keeps.keep k _ o e⟩
  yNew := f.yNew
  ownY := fun x av a hx ho H => by
    obtain ⟨a', vs, xs, h1, h2, h3, h4, h5, h6⟩ := f.loc.own x av hx ho
    have := f.ownY x av a' hx ho h2
    have e := Fst.keepsG.has_inj (h2.keeps (Keeps.keep k)) H
    cases e
    exact this
theorem Fst.mild {h' : Heap} {tk : Nat} (f : Fst g own s₀ l X₀ Y sc env ρ s) (k : Mild env s.heap h') (hb : ∀ b o₀ o, s₀.heap.get? b = some o₀ → s.heap.get? b = some o → h'.get? b = some o) : Fst g own s₀ l X₀ Y sc env ρ { s with heap := h', toks := tk } where
  base := f.base.turn hb
  fs := f.fs.mild k
  loc := f.loc.mild k
  yEx := fun b hb => let ⟨vs, h⟩ := f.yEx b hb; ⟨vs, isList_at h fun o e => k.list b vs h o e⟩
  yNew := f.yNew
  ownY := fun x av a hx ho H => by
    obtain ⟨a', vs, xs, h1, h2, h3, h4, h5, h6⟩ := f.loc.own x av hx ho
    have := f.ownY x av a' hx ho h2
    have e := Fst.keepsG.has_inj (h2.mild k) H
    cases e
    exact this

/-- Y's and the frame's addresses are taken -/
theorem Fst.wEx (f : Fst g own s₀ l X₀ Y sc env ρ s) {b : Addr} (hb : Fm sc env b ∨ Y b) : ∃ o, s.heap.get? b = some o := by
  rcases hb with hb | hb
  · exact fm_ex f.fs hb
  · obtain ⟨vs, o, e, _⟩ := f.yEx b hb
    exact ⟨o, e⟩
theorem Stp.trans {Y'' : Addr → Prop} {s' s'' : Shared} (S : Frm g gv s₀ X₀ sc env) (a : Stp g sc env Y Y' s s') (b : Stp g sc env Y' Y'' s' s'') (f : Fst g own s₀ l X₀ Y' sc env ρ s') : Stp g sc env Y Y'' s s'' where
  sub := fun c h => b.sub c (a.sub c h)
  new := fun c h => by
    rcases b.new c h with q | q
    · exact a.new c q
    · refine .inr ?_
      cases e : s.heap.get? c with
      | none => rfl
      | some o =>
        by_cases hw : Fm sc env c ∨ Y' c
        · obtain ⟨o', e'⟩ := f.wEx hw
          rw [q] at e'; cases e'
        · by_cases ht : TabP g c
          · obtain ⟨c', ht⟩ := ht
            obtain ⟨ps, x⟩ := f.tab S c' c ht
            have := x.2.2
            rw [q] at this; cases this
          · have := a.but c o hw ht e
            rw [q] at this; cases this
  but := fun c o hc n e => b.but c o hc n (a.but c o (fun q => hc (q.imp id (b.sub c))) n e)

/-- a store of a name that is not owned -/
theorem Fst.store (S : Frm g gv s₀ X₀ sc env) (f : Fst g own s₀ l X₀ Y sc env ρ s) {x : Str} {v : Value} {av : AV} {Q : Unit → Shared → Prop} (hk : stk sc x = true) (hx : own ≠ some x) (r : Rep l (fun b => X₀ b ∨ Y b) s.heap v av)
    (hQ : ∀ s', Fst g own s₀ l X₀ Y sc env (setR ρ x av) s' → Stp g sc env Y Y s s' → Stays (fun _ => False) s.heap s'.heap → Q () s') : wpAny (model prog w) A (storeName env x v) Q E s := by
  refine store_raw hk S.envOk f.fs fun a h' tk hfm hs F' hx' hothers hnl => ?_
  have hst : Stays (fun _ => False) s.heap h' := fun b vs hb _ o e => hs.extBut b o (fun q => hnl vs (q ▸ hb)) e
  have hst' : Stays (fun b => X₀ b ∨ Y b) s.heap h' := fun b vs hb _ o e => hst b vs hb (fun q => q) o e
  refine hQ { s with heap := h', toks := tk } ⟨?_, F', ⟨fun y av' hy hoy => ?_, fun y av' hy hoy => ?_⟩, fun b hb => ?_, f.yNew, fun y av' a' hy ho H => ?_⟩ ⟨fun _ h => h, fun _ h => .inl h, fun b o hb _ e => hs.extBut b o (fun q => hb (.inl (q ▸ hfm))) e⟩ hst
  · exact f.base.turn fun b o₀ o e₀ e => hs.extBut b o (fun q => by rw [S.fmNew b (q ▸ hfm)] at e₀; cases e₀) e
  · rw [lookup_setR] at hy
    by_cases hyx : y = x
    · rw [if_pos hyx] at hy
      cases hy
      subst hyx
      exact ⟨v, hx', r.later hst'⟩
    · rw [if_neg hyx] at hy
      obtain ⟨u, h1, h2⟩ := f.loc.var y av' hy hoy
      exact ⟨u, hothers y u hyx h1, h2.later hst'⟩
  · rw [lookup_setR] at hy
    by_cases hyx : y = x
    · exact absurd (hyx ▸ hoy) hx
    · rw [if_neg hyx] at hy
      obtain ⟨b, vs, xs, h1, h2, h3, h4, h5, h6⟩ := f.loc.own y av' hy hoy
      exact ⟨b, vs, xs, h1, hothers y _ hyx h2, h3, h4.at fun o e => hs.extBut b o (fun q => hnl _ (q ▸ h4.isList)) e, h5, fun i v y e1 e2 => (h6 i v y e1 e2).later hst'⟩
  · obtain ⟨vs, h⟩ := f.yEx b hb
    exact ⟨vs, isList_at h fun o e => hst b vs h (fun q => q) o e⟩
  · rw [lookup_setR] at hy
    by_cases hyx : y = x
    · exact absurd (hyx ▸ ho) hx
    · rw [if_neg hyx] at hy
      obtain ⟨b, vs, xs, h1, h2, h3, h4, h5, h6⟩ := f.loc.own y av' hy ho
      have e := Fst.keepsG.has_inj (hothers y _ hyx h2) H
      cases e
      exact f.ownY y av' _ hy ho h2

/-- the owned list is laid; it holds ints alone -/
theorem Fst.ownStore (S : Frm g gv s₀ X₀ sc env) {s₁ : Shared} (f : Fst g own s₀ l X₀ Y sc env ρ s) (k : Keeps s s₁) {x : Str} {D : Addr} {vs : List Value} {xs : List AV} {Q : Unit → Shared → Prop} (hk : stk sc x = true) (hx : own = some x)
    (hnew : s.heap.get? D = Option.none) (hp : s₁.heap.PlainList D vs.toArray) (r : RepL l (fun b => X₀ b ∨ Y b) s₁.heap vs xs) (hint : ∀ y ∈ xs, ∃ i lo hi, y = .int i lo hi)
    (hQ : ∀ Y' s', Fst g own s₀ l X₀ Y' sc env (setR ρ x (.list xs)) s' → Stp g sc env Y Y' s s' → Q () s') : wpAny (model prog w) A (storeName env x (.ref D)) Q E s₁ := by
  have f1 := f.keeps k
  have hmore : ∀ b, (X₀ b ∨ Y b ∨ b = D) → (X₀ b ∨ Y b) ∨ s.heap.get? b = Option.none := fun b hb => by
    rcases hb with q | q | q
    · exact .inl (.inl q)
    · exact .inl (.inr q)
    · exact .inr (q ▸ hnew)
  refine store_raw hk S.envOk f1.fs fun a h' tk hfm hs F' hx' hothers hnl => ?_
  have hst : Stays (fun _ => False) s₁.heap h' := fun b vs hb _ o e => hs.extBut b o (fun q => hnl vs (q ▸ hb)) e
  have hst' : Stays (fun b => X₀ b ∨ Y b ∨ b = D) s₁.heap h' := fun b vs hb _ o e => hst b vs hb (fun q => q) o e
  have h0D : s₀.heap.get? D = Option.none := by
    cases e : s₀.heap.get? D with
    | none => rfl
    | some o => obtain ⟨o', e'⟩ := GKeeps.ex S.tab f.base e; rw [e'] at hnew; cases hnew
  have hitem : ∀ (i : Nat) (v : Value) (y : AV), vs[i]? = some v → xs[i]? = some y → Rep l (fun b => X₀ b ∨ Y b ∨ b = D) h' v y := fun i v y e1 e2 => by
    have r1 := r.2 i v y e1 e2
    obtain ⟨n, lo, hi, rfl⟩ := hint y (List.mem_of_getElem? e2)
    cases r1 with
    | int h1 h2 => exact .int h1 h2
  have moreR : ∀ {v : Value} {av : AV}, Rep l (fun b => X₀ b ∨ Y b) s.heap v av → Rep l (fun b => X₀ b ∨ Y b ∨ b = D) h' v av := fun r => ((r.more hmore).keeps (Keeps.keep k)).later hst'
  have hbut : ∀ b o, ¬ (Fm sc env b ∨ Y b ∨ b = D) → ¬ TabP g b → s.heap.get? b = some o → h'.get? b = some o := fun b o hb _ e => hs.extBut b o (fun q => hb (.inl (q ▸ hfm))) (Keeps.keep k b o e)
  refine hQ (fun b => Y b ∨ b = D) { s₁ with heap := h', toks := tk } ⟨?_, F', ⟨fun y av' hy hoy => ?_, fun y av' hy hoy => ?_⟩, fun b hb => ?_, fun b hb => ?_, fun y av' a' hy ho H => ?_⟩ ⟨fun _ h => .inl h, fun b h => ?_, hbut⟩
  · exact f1.base.turn fun b o₀ o e₀ e => hs.extBut b o (fun q => by rw [S.fmNew b (q ▸ hfm)] at e₀; cases e₀) e
  · rw [lookup_setR] at hy
    by_cases hyx : y = x
    · exact absurd (hyx ▸ hx) hoy
    · rw [if_neg hyx] at hy
      obtain ⟨u, h1, h2⟩ := f.loc.var y av' hy hoy
      exact ⟨u, hothers y u hyx (h1.keeps (Keeps.keep k)), moreR h2⟩
  · rw [lookup_setR] at hy
    by_cases hyx : y = x
    · rw [if_pos hyx] at hy
      cases hy
      subst hyx
      exact ⟨D, vs, xs, rfl, hx', .inr (.inr rfl), hp.at fun o e => hs.extBut D o (fun q => hnl _ (q ▸ hp.isList)) e, r.1, hitem⟩
    · rw [hx] at hoy
      exact absurd (Option.some.inj hoy).symm hyx
  · rcases hb with hb | rfl
    · obtain ⟨vs, h⟩ := f1.yEx b hb
      exact ⟨vs, isList_at h fun o e => hst b vs h (fun q => q) o e⟩
    · exact ⟨_, isList_at hp.isList fun o e => hst b _ hp.isList (fun q => q) o e⟩
  · rcases hb with hb | rfl
    · exact f.yNew b hb
    · exact h0D
  · rw [hx] at ho
    cases ho
    have e := Fst.keepsG.has_inj hx' H
    cases e
    exact .inr rfl
  · rcases h with h | rfl
    · exact .inl h
    · exact .inr hnew

/-- the owned list is changed -/
theorem Fst.upd (S : Frm g gv s₀ X₀ sc env) (f : Fst g own s₀ l X₀ Y sc env ρ s) {x : Str} {D : Addr} {vs' : List Value} {xs xs' : List AV} (hx : own = some x) (hl : ρ.lookup x = some (.list xs)) (H : Has env s.heap x (.ref D)) {h' : Heap} {tk : Nat}
    (hs : Heap.SameBut D s.heap h') (hp : h'.PlainList D vs'.toArray) (r : RepL l (fun b => X₀ b ∨ Y b) h' vs' xs') :
    Fst g own s₀ l X₀ Y sc env (setR ρ x (.list xs')) { s with heap := h', toks := tk } ∧ Stp g sc env Y Y s { s with heap := h', toks := tk } := by
  have hY := f.ownY x _ D hl hx H
  obtain ⟨D', vs, xs0, e0, H0, hX0, hp0, hn0, hv0⟩ := f.loc.own x _ hl hx
  have e := Fst.keepsG.has_inj H0 H
  cases e
  have kp : ∀ b o, b ≠ D → s.heap.get? b = some o → h'.get? b = some o := fun b o hb e => hs.extBut b o hb e
  have st : Stays (fun b => X₀ b ∨ Y b) s.heap h' := fun b vs hb hX o e => kp b o (fun q => hX (.inr (q ▸ hY))) e
  have nsD : ∀ m b, s.heap.Ns b m → b ≠ D := fun m b hm q => by subst q; exact ns_not_list hm hp0.isList
  have clD : ∀ v b, s.heap.IsCell b v → b ≠ D := fun m b hm q => by subst q; exact cell_not_list hm hp0.isList
  have hasK : ∀ x v, Has env s.heap x v → Has env h' x v := fun x v H => by
    obtain ⟨h0, ⟨h1, m, h2, h3⟩ | ⟨h1, c, h2, h3⟩ | ⟨h1, h4, c, h2, h3⟩⟩ := H
    · exact ⟨h0, .inl ⟨h1, m, h2.at' fun o e => kp _ o (nsD _ _ h2) e, h3⟩⟩
    · have hc := clD _ _ h3
      obtain ⟨o, e, hd⟩ := h3
      exact ⟨h0, .inr (.inl ⟨h1, c, h2, o, kp _ o hc e, hd⟩)⟩
    · have hc := clD _ _ h3
      obtain ⟨o, e, hd⟩ := h3
      exact ⟨h0, .inr (.inr ⟨h1, h4, c, h2, o, kp _ o hc e, hd⟩)⟩
  have hbut : ∀ b o, ¬ (Fm sc env b ∨ Y b) → ¬ TabP g b → s.heap.get? b = some o → h'.get? b = some o := fun b o hb _ e => kp b o (fun q => hb (.inr (q ▸ hY))) e
  refine ⟨⟨f.base.turn fun b o₀ o e₀ e => kp b o (fun q => ?_) e, ⟨?_, fun y hy => ?_, f.fs.apart⟩, ⟨fun y av hy ho => ?_, fun y av hy ho => ?_⟩, fun b hb => ?_, f.yNew, fun y av a hy ho Ha => ?_⟩, ⟨fun _ h => h, fun _ h => .inl h, hbut⟩⟩
  · rw [f.yNew b (q ▸ hY)] at e₀; cases e₀
  · obtain ⟨m, hm⟩ := f.fs.ns
    exact ⟨m, hm.at' fun o e => kp _ o (nsD _ _ hm) e⟩
  · obtain ⟨c, u, e1, e2⟩ := f.fs.cell y hy
    have hc := clD _ _ e2
    obtain ⟨o, e, hd⟩ := e2
    exact ⟨c, u, e1, o, kp _ o hc e, hd⟩
  · rw [lookup_setR] at hy
    by_cases hyx : y = x
    · exact absurd (hyx ▸ hx) ho
    · rw [if_neg hyx] at hy
      obtain ⟨u, e1, e2⟩ := f.loc.var y av hy ho
      exact ⟨u, hasK _ _ e1, e2.later st⟩
  · rw [hx] at ho
    cases ho
    rw [lookup_setR, if_pos rfl] at hy
    cases hy
    exact ⟨D, vs', xs', rfl, hasK _ _ H, .inr hY, hp, r.1, r.2⟩
  · by_cases hbD : b = D
    · subst hbD
      exact ⟨_, hp.isList⟩
    · obtain ⟨vs, h⟩ := f.yEx b hb
      exact ⟨vs, isList_at h fun o e => kp b o hbD e⟩
  · rw [hx] at ho
    cases ho
    have e := Fst.keepsG.has_inj (hasK _ _ H) Ha
    cases e
    exact hY
end Mine
end

section
namespace Mine
open PySem PySem.Calls PyProof.Rows PySem.W

variable {g : Option (Addr × Addr)} {l : Nat} {X X₀ Y Y' : Addr → Prop} {own : Option Str} {gv : Gv} {prog : Program} {w : World} {A : Around} {E : Value → Shared → Prop} {s s₀ : Shared} {env : Env} {sc : Sc} {ρ ρ' : Ro}

noncomputable def EndS (l : Nat) (X₀ : Addr → Prop) (fl : Fl) (Q : Flow → Shared → Prop) (s' : Shared) : Prop := match fl with
  | .next => Q .next s'
  | .ret a => ∀ v, Rep l X₀ s'.heap v a → Q (.ret v) s'
/-- what comes of statements -/
noncomputable def PostS (g : Option (Addr × Addr)) (own : Option Str) (s₀ : Shared) (l : Nat) (X₀ : Addr → Prop) (sc : Sc) (env : Env) (out : Out) (Q : Flow → Shared → Prop) (Y : Addr → Prop) (s : Shared) : Prop :=
  ∀ Y' s', Fst g own s₀ l X₀ Y' sc env out.ro s' → Stp g sc env Y Y' s s' → EndS l X₀ out.fl Q s'
noncomputable def Fine (o : List Bool) : Prop := ∀ b ∈ o, b = false
noncomputable def RsOk (prog : Program) (w : World) (A : Around) (g : Option (Addr × Addr)) (own : Option Str) (s₀ : Shared) (l : Nat) (X₀ : Addr → Prop) (sc : Sc) (env : Env) (rs : RecS) : Prop :=
  ∀ ρ sts out, rs ρ sts = some out → Fine out.obl → ∀ s Y, Fst g own s₀ l X₀ Y sc env ρ s → ∀ (Q : Flow → Shared → Prop) E, PostS g own s₀ l X₀ sc env out Q Y s → wpAny (model prog w) A (execs sts env) Q E s

theorem PostS.step (S : Frm g gv s₀ X₀ sc env) {out : Out} {Q : Flow → Shared → Prop} {s₁ : Shared} (h : PostS g own s₀ l X₀ sc env out Q Y s) (t : Stp g sc env Y Y' s s₁) (f : Fst g own s₀ l X₀ Y' sc env ρ s₁) : PostS g own s₀ l X₀ sc env out Q Y' s₁ :=
  fun Y'' s'' f' t' => h Y'' s'' f' (t.trans S t' f)
theorem PostS.keeps (S : Frm g gv s₀ X₀ sc env) {out : Out} {Q : Flow → Shared → Prop} {s₁ : Shared} (h : PostS g own s₀ l X₀ sc env out Q Y s) (k : Keeps s s₁) (f : Fst g own s₀ l X₀ Y sc env ρ s) : PostS g own s₀ l X₀ sc env out Q Y s₁ := h.step S (Stp.of k) (f.keeps k)

theorem Fst.bind (S : Frm g gv s₀ X₀ sc env) (f : Fst g own s₀ l X₀ Y sc env ρ s) {target : Expr} {it : It} {v : Value} {Q : Unit → Shared → Prop} (h : bindV own sc ρ target it = some ρ') (hh : A.handled = Option.none) (hi : ItemIs l (fun b => X₀ b ∨ Y b) s.heap v it)
    (hQ : ∀ s', Fst g own s₀ l X₀ Y sc env ρ' s' → Stp g sc env Y Y s s' → Q () s') : wpAny (model prog w) A (assign target env v) Q E s := by
  rcases bindV_inv h with ⟨x, p, a, rfl, rfl, h1, h2, rfl⟩ | ⟨x, px, y, py, kk, pos, a, b, rfl, rfl, h1, h2, h3, h4, rfl⟩
  · exact wpAny_assign_Name (f.store S h1 h2 hi fun s' f' t _ => hQ s' f' t)
  · obtain ⟨T, x, y, rfl, hT, r1, r2⟩ := hi
    refine wpAny_assign_Tuple hh hT rfl rfl fun h' hx => ?_
    have k := ext_keeps hx
    refine assignInOrder_cons (wpAny_assign_Name ((f.keeps k).store S h1 h3 (r1.keeps (Keeps.keep k)) fun s₁ f1 t1 st1 => ?_))
    refine assignInOrder_cons (wpAny_assign_Name (f1.store S h2 h4 ((r2.keeps (Keeps.keep k)).later fun b vs hb _ o e => st1 b vs hb (fun q => q) o e) fun s₂ f2 t2 _ => assignInOrder_nil (hQ s₂ f2 ?_)))
    exact ((Stp.of k).trans S t1 (f.keeps k)).trans S t2 f1

section
variable (S : Frm g gv s₀ X₀ sc env) {rs : RecS} (RS : RsOk prog w A g own s₀ l X₀ sc env rs)
include S RS

theorem for_sound {d : Nat} {rec : Rec} (V : GvOk gv) (R : RecOk prog w l own gv d rec) (hC : Cx d A) {target iter : Expr} {body : List Stmt} {pos : Pos} {its : List It} {out : Out} (hi : iterV rec sc ρ target iter = some its) (h : turns own sc rs target body its ρ = some out)
    (ho : Fine out.obl) (f : Fst g own s₀ l X₀ Y sc env ρ s) {Q : Flow → Shared → Prop} (hQ : PostS g own s₀ l X₀ sc env out Q Y s) : wpAny (model prog w) A (exec (.For target iter body [] pos) env) Q E s := by
  refine wpAny_For (iterV_sound V R S.envOk hC hi (f.gd S) f.loc (f.old S) fun I fp wr P Md St s₂ IA => ?_) (iterV_set hi)
  have kk := IA.keeps
  have f2 := f.keeps kk
  have hout : ∀ Yi s', (∀ b, Y b → Yi b) → (∀ b, Yi b → Y b ∨ s₂.heap.get? b = Option.none) → (∀ b o, ¬ (Fm sc env b ∨ Yi b) → ¬ TabP g b → b ∉ wr → s₂.heap.get? b = some o → s'.heap.get? b = some o) → Stp g sc env Y Yi s s' := fun Yi s' h1 h2 h3 =>
    ⟨h1, fun b hb => (h2 b hb).imp id fun q => (by
      cases e : s.heap.get? b with
      | none => rfl
      | some o => rw [Keeps.keep kk b o e] at q; cases q), fun b o hW hn e => h3 b o hW hn (fun hm => by rw [IA.wrNew b hm] at e; cases e) (Keeps.keep kk b o e)⟩
  have hwr0 : ∀ b ∈ wr, s₀.heap.get? b = Option.none := fun b hb => by
    cases e : s₀.heap.get? b with
    | none => rfl
    | some o => obtain ⟨o', e'⟩ := GKeeps.ex S.tab f.base e; have := IA.wrNew b hb; rw [e'] at this; cases this
  have hfp : ∀ Yi : Addr → Prop, (∀ b, Yi b → Y b ∨ s₂.heap.get? b = Option.none) → ∀ b ∈ fp, ¬ (Fm sc env b ∨ Yi b) ∧ ¬ TabP g b := fun Yi h2 b hb => (fun key => ⟨fun h => key (.inl h), fun h => key (.inr h)⟩) fun (hW : (Fm sc env b ∨ Yi b) ∨ TabP g b) => by
    have hex := IA.fpEx b hb
    rcases hW with hW | ⟨ct, hW⟩
    rotate_left
    · obtain ⟨ps, xt⟩ := f.tab S ct b hW
      rcases IA.fpNew b hb with q | ⟨⟨vs, q⟩, q'⟩
      · rw [xt.2.2] at q; cases q
      · exact (xt.at (fun o e => Keeps.keep kk _ o e) fun o e => Keeps.keep kk _ o e).not_list q
    rcases IA.fpNew b hb with q | ⟨⟨vs, q⟩, q'⟩
    · rcases hW with z | z
      · obtain ⟨o, e⟩ := fm_ex f.fs z
        rw [q] at e; cases e
      · rcases h2 b z with z | z
        · obtain ⟨vs, o, e, _⟩ := f.yEx b z
          rw [q] at e; cases e
        · obtain ⟨o, e⟩ := hex
          rw [z] at e; cases e
    · rcases hW with z | z
      · exact f2.fs.notList z _ q
      · rcases h2 b z with z | z
        · exact q' (.inr z)
        · obtain ⟨o, e⟩ := hex
          rw [z] at e; cases e
  refine codeAny_forLoop_any (fun k s' => ∃ i Yi ρi oi, i ≤ its.length ∧ k = its.length - i ∧ turns own sc rs target body (its.drop i) ρi = some ⟨out.ro, oi, out.fl⟩ ∧ Fine oi ∧ Fst g own s₀ l X₀ Yi sc env ρi s' ∧ (∀ b, Y b → Yi b) ∧
      (∀ b, Yi b → Y b ∨ s₂.heap.get? b = Option.none) ∧ (∀ b o, ¬ (Fm sc env b ∨ Yi b) → ¬ TabP g b → b ∉ wr → s₂.heap.get? b = some o → s'.heap.get? b = some o) ∧ St i s'.heap) ?_ its.length
    ⟨0, Y, ρ, out.obl, Nat.zero_le _, rfl, h, ho, f2, fun _ q => q, fun _ q => .inl q, fun _ _ _ _ _ e => e, IA.st⟩
  rintro k s' ⟨i, Yi, ρi, oi, hin, rfl, hT, hoi, fi, y1, y2, y3, st⟩
  have move : ∀ (h' : Heap) (tk : Nat), (∀ b o, b ∉ wr → s'.heap.get? b = some o → h'.get? b = some o) → Fst g own s₀ l X₀ Yi sc env ρi { s' with heap := h', toks := tk } := fun h' tk kp => by
    have sft : Soft s'.heap h' := fun b o e hodd => kp b o (fun hm => hodd (IA.odd i _ st b hm o e)) e
    exact fi.mild (Mild.soft sft) fun b o₀ o e₀ e => kp b o (fun hm => by rw [hwr0 b hm] at e₀; cases e₀) e
  by_cases hlt : i < its.length
  · refine IA.turns.item i s' _ _ hlt st fun v h' tk md kp => ?_
    refine IA.turns.go i v _ _ _ md fun h'' hP st' kp' => ?_
    have kp2 : ∀ b o, b ∉ wr → s'.heap.get? b = some o → h''.get? b = some o := fun b o hb e => kp' b o hb (kp b o hb e)
    have fi' := move h'' tk kp2
    have hall : ∀ b o, ¬ (Fm sc env b ∨ Yi b) → ¬ TabP g b → b ∉ wr → s₂.heap.get? b = some o → h''.get? b = some o := fun b o h1 hn h2 e => kp2 b o h2 (y3 b o h1 hn h2 e)
    have hnt : ∀ b vs, s₂.heap.IsList b vs → ¬ TabP g b := fun b vs hl ⟨ct, hg⟩ => let ⟨ps, xt⟩ := f2.tab S ct b hg; xt.not_list hl
    obtain ⟨it, hit, hitem⟩ := IA.item (fun b => (X₀ b ∨ Yi b) ∨ b ∈ wr) i v h'' (fun b hb => by
      rcases hb with (q | q) | q
      · exact .inl (.inl q)
      · rcases y2 b q with z | z
        · exact .inl (.inr z)
        · exact .inr (.inl z)
      · exact .inr (.inr q)) hlt hP (fun b vs hb hX' o e => hall b o (fun q => by
        rcases q with q | q
        · exact f2.fs.notList q _ hb
        · exact hX' (.inl (.inr q))) (hnt b vs hb) (fun q => hX' (.inr q)) e)
    have hitem : ItemIs l (fun b => X₀ b ∨ Yi b) h'' v it := by
      cases it with
      | one a => exact Rep.weak hitem fun b hb => .inl hb
      | two a b =>
        obtain ⟨T, x, y, e1, e2, e3, e4⟩ := hitem
        exact ⟨T, x, y, e1, e2, e3.weak fun b hb => .inl hb, e4.weak fun b hb => .inl hb⟩
    rw [drop_at hit] at hT
    unfold turns at hT
    split at hT
    case h_2 => cases hT
    rename_i ρ₁ hb
    refine fi'.bind S hb hC.handled hitem fun s₃ f3 t3 => ?_
    have bring : ∀ Y₄ s₄ ρ₄, Fst g own s₀ l X₀ Y₄ sc env ρ₄ s₄ → Stp g sc env Yi Y₄ s₃ s₄ → (∀ b, Y b → Y₄ b) ∧ (∀ b, Y₄ b → Y b ∨ s₂.heap.get? b = Option.none) ∧ (∀ b o, ¬ (Fm sc env b ∨ Y₄ b) → ¬ TabP g b → b ∉ wr → s₂.heap.get? b = some o → s₄.heap.get? b = some o) ∧
        St (i + 1) s₄.heap := fun Y₄ s₄ ρ₄ f4 t4 => by
      have t := t3.trans S t4 f3
      have n1 : ∀ b, Y₄ b → Y b ∨ s₂.heap.get? b = Option.none := fun b hb => by
        rcases t.new b hb with q | q
        · exact y2 b q
        · by_cases hyi : Yi b
          · exact y2 b hyi
          · refine .inr ?_
            cases e : s₂.heap.get? b with
            | none => rfl
            | some o =>
              by_cases hw : b ∈ wr
              · obtain ⟨o', e'⟩ := IA.wrEx _ _ st' b hw
                have q0 : h''.get? b = Option.none := q
                rw [q0] at e'; cases e'
              · by_cases hf : Fm sc env b
                · obtain ⟨o', e'⟩ := fm_ex fi'.fs hf
                  rw [q] at e'; cases e'
                · by_cases ht : TabP g b
                  · obtain ⟨ct, ht⟩ := ht
                    obtain ⟨ps, xt⟩ := fi'.tab S ct b ht
                    rw [xt.2.2] at q; cases q
                  · have := hall b o (fun z => z.elim hf hyi) ht hw e
                    have q0 : h''.get? b = Option.none := q
                    rw [q0] at this; cases this
      refine ⟨fun b hb => t.sub b (y1 b hb), n1, fun b o h1 hn h2 e => ?_, ?_⟩
      · exact t.but b o h1 hn (hall b o (fun z => h1 (z.imp id (t.sub b))) hn h2 e)
      · exact IA.turns.frame _ _ _ st' fun b hb o e => t.but b o (hfp Y₄ n1 b hb).1 (hfp Y₄ n1 b hb).2 e
    split at hT
    · rename_i ρ₂ o hr
      split at hT
      · rename_i ρ₃ o' fl' hT'
        cases hT
        refine RS _ _ _ hr (fun b hb => hoi b (List.mem_append_left _ hb)) _ _ f3 _ _ fun Y₄ s₄ f4 t4 => ?_
        obtain ⟨n0, n1, n2, n3⟩ := bring Y₄ s₄ _ f4 t4
        exact ⟨its.length - (i + 1), by omega, i + 1, Y₄, _, o', hlt, rfl, hT', fun b hb => hoi b (List.mem_append_right _ hb), f4, n0, n1, n2, n3⟩
      · cases hT
    · rename_i ρ₂ o a hr
      injection hT with hT
      injection hT with e1 e2 e3
      refine RS _ _ _ hr (fun b hb => hoi b (e2 ▸ hb)) _ _ f3 _ _ fun Y₄ s₄ f4 t4 v hv => ?_
      obtain ⟨n0, n1, n2, n3⟩ := bring Y₄ s₄ _ f4 t4
      have := hQ Y₄ s₄ (e1 ▸ f4) (hout Y₄ s₄ n0 n1 n2)
      rw [← e3] at this
      exact this v hv
    · cases hT
  · obtain rfl : i = its.length := Nat.le_antisymm hin (Nat.not_lt.mp hlt)
    refine IA.turns.done s' _ _ st fun h' tk kp => wpAny_execs_nil ?_
    have f' := move h' tk kp
    rw [List.drop_length] at hT
    injection hT with hT
    injection hT with e1 e2 e3
    have := hQ Yi { s' with heap := h', toks := tk } (e1 ▸ f') (hout Yi _ y1 y2 (fun b o h1 hn h2 e => kp b o h2 (y3 b o h1 hn h2 e)))
    rw [← e3] at this
    exact this
end
end Mine
end

section
namespace Mine
open PySem PySem.Calls PyProof.Rows PySem.W

variable {g : Option (Addr × Addr)} {l : Nat} {X X₀ Y Y' : Addr → Prop} {own : Option Str} {gv : Gv} {prog : Program} {w : World} {A : Around} {E : Value → Shared → Prop} {s s₀ : Shared} {env : Env} {sc : Sc} {ρ ρ' : Ro}

section
variable (S : Frm g gv s₀ X₀ sc env) {rs : RecS} (RS : RsOk prog w A g own s₀ l X₀ sc env rs)
include S RS

theorem while_sound {d : Nat} {rec : Rec} (R : RecOk prog w l own gv d rec) (hC : Cx d A) {test : Expr} {body : List Stmt} {pos : Pos} {n : Nat} (h : whileV (fun ρ => rec true sc ρ test) rs body n ρ = some ρ')
    (f : Fst g own s₀ l X₀ Y sc env ρ s) {Q : Flow → Shared → Prop} (hQ : PostS g own s₀ l X₀ sc env ⟨ρ', [], .next⟩ Q Y s) : wpAny (model prog w) A (exec (.While test body [] pos) env) Q E s := by
  refine wpAny_While ?_
  have key : ∀ A' : Around, A' = A → codeAny (model prog w) A' (.whileLoop test body [] env) (fun r s' => match r with | .ok f => Q f s' | .error e => cameBackBy (model prog w) A env E e s') s := by
    rintro _ rfl
    refine codeAny_whileLoop (fun m s' => ∃ Yi ρi, whileV (fun ρ => rec true sc ρ test) rs body m ρi = some ρ' ∧ Fst g own s₀ l X₀ Yi sc env ρi s' ∧ Stp g sc env Y Yi s s') ?_ n ⟨Y, ρ, h, f, Stp.of (Keeps.refl s)⟩
    rintro m s' ⟨Yi, ρi, hw, fi, ti⟩
    cases m with
    | zero => cases hw
    | succ m =>
      unfold whileV at hw
      split at hw
      · rename_i ht
        obtain ⟨b, e, hT⟩ := R.test _ _ _ _ ht
        cases e
        refine hT _ _ _ _ S.envOk hC (fi.gd S) fi.loc (fi.old S) _ _ fun s₁ k => ?_
        rw [if_pos rfl]
        split at hw
        · rename_i ρ₁ hr
          refine RS _ _ _ hr (fun b hb => nomatch hb) _ _ (fi.keeps k) _ _ fun Y₂ s₂ f₂ t₂ => ?_
          exact ⟨m, Nat.lt_succ_self _, Y₂, ρ₁, hw, f₂, (ti.trans S (Stp.of k) fi).trans S t₂ (fi.keeps k)⟩
        · cases hw
      · rename_i ht
        obtain ⟨b, e, hT⟩ := R.test _ _ _ _ ht
        cases e
        cases hw
        refine hT _ _ _ _ S.envOk hC (fi.gd S) fi.loc (fi.old S) _ _ fun s₁ k => ?_
        rw [if_neg (by decide)]
        exact wpAny_execs_nil (hQ Yi s₁ (fi.keeps k) (ti.trans S (Stp.of k) fi))
      · cases hw
  exact key A rfl

theorem if_sound {d : Nat} {rec : Rec} (R : RecOk prog w l own gv d rec) (hC : Cx d A) {test : Expr} {body orelse : List Stmt} {pos : Pos} {b : Bool} (ht : rec true sc ρ test = some (.bool b)) {out : Out}
    (h : if retFalse body = true then (b = false ∧ orelse = [] ∧ out = ⟨ρ, [b], .next⟩) else (if b then rs ρ body else rs ρ orelse) = some out) (ho : Fine out.obl)
    (f : Fst g own s₀ l X₀ Y sc env ρ s) {Q : Flow → Shared → Prop} (hQ : PostS g own s₀ l X₀ sc env out Q Y s) : wpAny (model prog w) A (exec (.If test body orelse pos) env) Q E s := by
  obtain ⟨b', e, hT⟩ := R.test _ _ _ _ ht
  cases e
  refine wpAny_If (hT _ _ _ _ S.envOk hC (f.gd S) f.loc (f.old S) _ _ fun s₁ k => ?_)
  have f1 := f.keeps k
  have hQ1 := hQ.keeps S k f
  split at h
  · obtain ⟨rfl, rfl, rfl⟩ := h
    rw [if_neg (by decide)]
    exact wpAny_execs_nil (hQ1 Y s₁ f1 (Stp.of (Keeps.refl s₁)))
  · cases b with
    | true =>
      rw [if_pos rfl] at h ⊢
      exact RS _ _ _ h ho _ _ f1 _ _ hQ1
    | false =>
      rw [if_neg (by decide)] at h ⊢
      exact RS _ _ _ h ho _ _ f1 _ _ hQ1
end

/-- a value and its store -/
theorem assign_sound (S : Frm g gv s₀ X₀ sc env) {cfg : Cfg} {d n : Nat} (V : GvOk gv) (R : RecOk prog w l cfg.own gv d (ev cfg n)) (RR : ∀ n, RecOk prog w l cfg.own gv d (ev cfg n)) (hC : Cx d A) {x : Str} {px pos : Pos} {value : Expr} {a a' : AV}
    (ha : ev cfg n false sc ρ value = some a) (hcv : ∀ X h v, Rep l X h v a → Rep l X h v a') (hk : stk sc x = true) (hx : cfg.own ≠ some x) (f : Fst g cfg.own s₀ l X₀ Y sc env ρ s) {Q : Flow → Shared → Prop}
    (hQ : ∀ s', Fst g cfg.own s₀ l X₀ Y sc env (setR ρ x a') s' → Stp g sc env Y Y s s' → Q .next s') : wpAny (model prog w) A (exec (.Assign [.Name x px] value pos) env) Q E s := by
  have plain : swapsWith value (some (.Name x px)) pos.line env = pure false → wpAny (model prog w) A (exec (.Assign [.Name x px] value pos) env) Q E s := fun hs => by
    refine wpAny_Assign_Name (R.val _ _ _ _ ha _ _ _ _ S.envOk hC (f.gd S) f.loc (f.old S) _ _ fun v s₁ k rv => ?_) hs
    exact (f.keeps k).store S hk hx (hcv _ _ _ rv) fun s₂ f₂ t₂ _ => hQ s₂ f₂ ((Stp.of k).trans S t₂ (f.keeps k))
  cases value with
  | ListComp elt gens scope p =>
    cases n with
    | zero => cases ha
    | succ n =>
      have ha' : compV cfg.own (ev cfg n) sc ρ elt gens scope = some a := ha
      have hb : ∃ b, swapsWith (.ListComp elt gens scope p) (some (.Name x px)) pos.line env = pure b := ⟨_, rfl⟩
      obtain ⟨b, hb⟩ := hb
      cases b with
      | false => exact plain hb
      | true =>
        rw [exec_Assign_Name_used x px _ pos hb]
        refine wpAny_bind (wpAny_standAt ?_)
        show wpAny (model prog w) A (do
          let _ ← (do let _ ← comprehension (.ListComp elt gens scope p) scope env (firstIterPos gens p) (newList []) (firstAsync gens) (firstIter gens env) (some (assign (.Name x px) env)) : Sem Unit)
          return Flow.next) Q E s
        refine wpAny_bind (wpAny_bind (comp_sound (use := some (assign (.Name x px) env)) V (RR n) S.envOk hC ha' (f.gd S) f.loc (f.old S) fun D C s₁ k hnew hns r => ?_))
        have f1 := f.keeps k
        obtain ⟨m, hm⟩ := hns
        have hCl : C ≠ env.locals := fun q => by
          subst q
          obtain ⟨m', o, _, _, e, _⟩ := f.fs.ns
          rw [hnew] at e; cases e
        show wpAny (model prog w) A (assign (.Name x px) env (.ref D)) (fun _ s'' => ∃ m, s''.heap.Ns C m ∧ ∀ h', Heap.SameBut C s''.heap h' → wpAny (model prog w) A (pure ()) (fun _ s' => wpAny (model prog w) A (pure Flow.next) Q E s') E { s'' with heap := h' }) E s₁
        refine wpAny_assign_Name (f1.store S hk hx (hcv _ _ _ r) fun s₂ f₂ t₂ st₂ => ?_)
        have hnC : ¬ TabP g C := fun ⟨ct, ht⟩ => let ⟨ps, xt⟩ := f1.tab S ct C ht; xt.not_ns hm
        have hm2 : s₂.heap.Ns C m := hm.at' fun o e => t₂.but C o (fun q => by
          rcases q with q | q
          · rcases q with q | ⟨y, hy, hc⟩
            · exact hCl q
            · obtain ⟨c, u, e1, e2⟩ := f1.fs.cell y hy
              rw [hc] at e1; cases e1
              exact ns_not_cell hm e2
          · obtain ⟨vs, q⟩ := f1.yEx C q
            exact ns_not_list hm q) hnC e
        refine ⟨m, hm2, fun h' hs => wpAny_pure (wpAny_pure ?_)⟩
        have f3 := f₂.mild (tk := s₂.toks) (Mild.other hm2 hCl hs) fun b o₀ o e₀ e => hs.extBut b o (fun q => by
          subst q
          obtain ⟨o', e'⟩ := GKeeps.ex S.tab f.base e₀
          rw [hnew] at e'; cases e') e
        refine hQ _ f3 ?_
        have t12 := (Stp.of k).trans S t₂ f1
        refine ⟨t12.sub, t12.new, ?_⟩
        exact fun b o hb hn e => hs.extBut b o (fun q => by
          subst q
          rw [hnew] at e; cases e) (t12.but b o hb hn e)
  | SetComp => cases n <;> cases ha
  | DictComp => cases n <;> cases ha
  | _ => exact plain rfl
end Mine
end

section
namespace Mine
open PySem PySem.Calls PyProof.Rows PySem.W

variable {g : Option (Addr × Addr)} {l : Nat} {X X₀ Y Y' : Addr → Prop} {own : Option Str} {gv : Gv} {prog : Program} {w : World} {A : Around} {E : Value → Shared → Prop} {s s₀ : Shared} {env : Env} {sc : Sc} {ρ ρ' : Ro}

abbrev PostG (g : Option (Addr × Addr)) (l : Nat) (X : Addr → Prop) (s : Shared) (c : AV) (Q : Value → Shared → Prop) : Prop := ∀ v s', GKeeps g s s' → Rep l X s'.heap v c → Q v s'

/-- what covariance is to answer -/
noncomputable def CovOk (prog : Program) (w : World) (g : Option (Addr × Addr)) (l : Nat) (gv : Gv) (d : Nat) : Prop := ∃ a o fd, gv.v "covariance" = some (.ref a) ∧ gv.ob a o ∧ o.data = .func fd ∧
  ∀ X A s v1 v2 xs ys is js, Cx d A → Gd gv s.heap → Old X s.heap → TabOk g s.heap → Rep l X s.heap v1 (.list xs) → Rep l X s.heap v2 (.list ys) → intsV xs = some is → intsV ys = some js → is.length = js.length → 3 ≤ is.length → is.length ≤ 5 →
    (∀ i ∈ is, i = 0 ∨ i = (is.length : Int)) → (∀ j ∈ js, j = 0 ∨ j = (is.length : Int) * ((is.length : Int) - 1)) → ∀ (Q : Value → Shared → Prop) E, PostG g l X s (.fltI (covZ is.length is js)) Q → wpAny (model prog w) A (call (.ref a) [v1, v2]) Q E s
/-- what math.sumprod over two generators is to answer -/
noncomputable def SpOk (prog : Program) (w : World) (g : Option (Addr × Addr)) (l : Nat) (gv : Gv) (own : Option Str) (d : Nat) (code : Value) : Prop :=
  ∀ sc ρ e1 e2 xs ys f pf pos, f = ("sumprod" : Str) → glb sc f = true → genV own sc ρ e1 = some xs → genV own sc ρ e2 = some ys → xs.length = ys.length → 0 < xs.length → xs.length ≤ 5 →
    ∀ X env A s, EnvOk sc env → env.code = code → Cx d A → Gd gv s.heap → Loc l X own env s.heap ρ → Old X s.heap → TabOk g s.heap → ∀ (Q : Value → Shared → Prop) E, PostG g l X s (.fx (dotL xs ys) (-5000000) 5000000) Q →
      wpAny (model prog w) A (eval (.Call (.Name f pf) [e1, e2] [] pos) env) Q E s

theorem rangeL_ints (c : Int) : ∀ (n : Nat) (a : Int), ∀ y ∈ rangeL a c n, ∃ i lo hi, y = .int i lo hi
  | 0, _, _, h => by cases h
  | n + 1, a, y, h => by
    rcases List.mem_cons.mp h with rfl | h
    · exact ⟨_, _, _, rfl⟩
    · exact rangeL_ints c n _ y h
theorem rangeV_ints {as lst : List AV} (h : rangeV as = some lst) : ∀ y ∈ lst, ∃ i lo hi, y = .int i lo hi := by
  unfold rangeV at h
  split at h
  · obtain ⟨i, z, rfl, _, rfl⟩ := range1_inv h
    exact rangeL_ints _ _ _
  · obtain ⟨i, z, j, y, rfl, rfl, _, _, rfl⟩ := range2_inv h
    exact rangeL_ints _ _ _
  · obtain ⟨i, z, j, y, k, x, rfl, rfl, rfl, _, _, _, _, rfl⟩ := range3_inv h
    exact rangeL_ints _ _ _
  · cases h
theorem listRV_ints {rec : Rec} {args : List Expr} {lst : List AV} (h : listRV rec sc ρ args = some lst) : ∀ y ∈ lst, ∃ i lo hi, y = .int i lo hi := by
  unfold listRV at h
  split at h
  · split at h
    · split at h
      · split at h
        · exact rangeV_ints h
        · cases h
      · cases h
    · cases h
  · cases h

theorem swaps_other {value o i : Expr} {p : Pos} {n : Nat} : swapsWith value (some (.Subscript o i p)) n env = pure false := by
  cases value <;> rfl

theorem swapped_pair {x y x' y' : Str} {px py px' py' tp vp : Pos} {k1 k2 : Nat} (hk : env.scope.kind = .function) (hx : env.kindOf x = some .local) (hy : env.kindOf y = some .local) (hl : py.line = px.line) (hne : x ≠ y)
    (h1 : (x' == ("__debug__" : Str)) = false) (h2 : (y' == ("__debug__" : Str)) = false) :
    swappedStores [.Tuple [.Name x px, .Name y py] k1 tp] (.Tuple [.Name x' px', .Name y' py'] k2 vp) env = pure (some [x, y]) := by
  have hb : (env.blockKind != .function) = false := by unfold Env.blockKind; rw [hk]; rfl
  have hne' : (y == x) = false := by simpa using fun h => hne h.symm
  have e3 : ([x, y] : List Str).eraseDups = [x, y] := by simp [List.eraseDups_cons, hne']
  have c1 : [(.Name x' px' : Expr), .Name y' py'].all (constantsAlone 8) = false := by
    have : constantsAlone 8 (.Name x' px') = false := h1
    rw [List.all_cons, this]; rfl
  have c2 : [(.Name x' px' : Expr), .Name y' py'].all (foldedForSure 8) = false := rfl
  have d : ∀ names, names = [x, y] → (if (names.length != 2 || names.eraseDups.length != names.length) = true then pure none else
      if [(.Name x' px' : Expr), .Name y' py'].all (foldedForSure 8) = true then pure none else do
        if [(.Name x' px' : Expr), .Name y' py'].all (constantsAlone 8) = true then unsupported "assign.tuple-of-constant-expressions:order-of-the-stores"
        pure (some names) : Sem (Option (List Str))) = pure (some [x, y]) := by
    rintro _ rfl
    rw [e3, c1, c2]
    rfl
  have key : ∀ (f : Expr → Option Str), f (.Name x px) = some x → f (.Name y py) = some y → List.filterMap f [.Name x px, .Name y py] = [x, y] := fun f a b => by
    rw [List.filterMap_cons_some a, List.filterMap_cons_some b]; rfl
  unfold swappedStores
  refine (if_neg ?_).trans ((if_neg ?_).trans (d _ ?_))
  · intro q
    have q : (env.blockKind != .function) = true := q
    rw [hb] at q
    cases q
  · intro q
    cases (show false = true from q)
  · refine key _ (if_pos ?_) (if_pos ?_)
    · show (env.kindOf x == some NameKind.local && px.line == px.line) = true
      rw [hx]; simp
    · show (env.kindOf y == some NameKind.local && py.line == px.line) = true
      rw [hy, hl]; simp

theorem swap_sound (S : Frm g gv s₀ X₀ sc env) {d : Nat} (hC : Cx d A) (f : Fst g own s₀ l X₀ Y sc env ρ s) {x y x' y' : Str} {px py px' py' tp vp pos : Pos} {k1 k2 : Nat} {a b : AV}
    (h1 : ¬ own = some x) (h2 : ¬ own = some y) (h3 : ¬ own = some x') (h4 : ¬ own = some y') (h5 : stk sc x = true) (h6 : stk sc y = true) (h7 : sc.lookup x = some .local) (h8 : sc.lookup y = some .local) (h9 : py.line = px.line) (h10 : ¬ x = y)
    (ha : ρ.lookup x' = some a) (hb : ρ.lookup y' = some b) {Q : Flow → Shared → Prop} (hQ : ∀ s', Fst g own s₀ l X₀ Y sc env (setR (setR ρ x a) y b) s' → Stp g sc env Y Y s s' → Q .next s') :
    wpAny (model prog w) A (exec (.Assign [.Tuple [.Name x px, .Name y py] k1 tp] (.Tuple [.Name x' px', .Name y' py'] k2 vp) pos) env) Q E s := by
  obtain ⟨va, Ha, ra⟩ := f.loc.var x' a ha h3
  obtain ⟨vb, Hb, rb⟩ := f.loc.var y' b hb h4
  have e1 : starEach [(.Name x' px' : Expr), .Name y' py'] env = [(false, eval (.Name x' px') env), (false, eval (.Name y' py') env)] := rfl
  refine Assign_Tuple_swapped (names := [x, y]) (PyProof.Rows.Tuple_ ?_) rfl (swapped_pair S.envOk.kind (S.envOk.names _ _ (.inl rfl) h7) (S.envOk.names _ _ (.inl rfl) h8) h9 h10 Ha.1 Hb.1)
  rw [e1]
  refine spliced_cons (name_has S.envOk.kind Ha (spliced_cons (name_has S.envOk.kind Hb (spliced_nil ?_))))
  refine wpAny_newObj_type ?_ (by show 2 ≤ sizeLine; decide)
  generalize hH : s.heap.push { cls := .type "tuple", data := .seq [va, vb].toArray } = H
  have hT : IsTup H s.heap.objs.size #[va, vb] := by rw [← hH]; exact ⟨_, Heap.get?_push_size _ rfl, rfl, 0, rfl⟩
  have hsz : H.objs.size = s.heap.objs.size + 1 := by rw [← hH]; exact Heap.size_push ..
  have hk : ∀ b o, s.heap.get? b = some o → H.get? b = some o := fun b o e => hH ▸ Heap.get?_push_of_some _ e
  have fin : ∀ h', Heap.ExtBut H.objs.size H h' → wpAny (model prog w) A (assignInOrder ([x, y].reverse.map fun n => bindName env n) [va, vb].reverse) (fun _ => Q .next) E { s with heap := h' } := fun h' he => by
    have kk : Keeps s { s with heap := h' } := ⟨h', s.toks, rfl, fun b o e => he b o (Nat.ne_of_lt (Heap.lt_size (hk b o e))) (hk b o e)⟩
    show wpAny (model prog w) A (assignInOrder [bindName env y, bindName env x] [vb, va]) (fun _ => Q .next) E _
    refine assignInOrder_cons (wpAny_bindName ((f.keeps kk).store S h6 h2 (rb.keeps (Keeps.keep kk)) fun s₂ f₂ t₂ st₂ => ?_))
    refine assignInOrder_cons (wpAny_bindName (f₂.store S h5 h1 ((ra.keeps (Keeps.keep kk)).later fun b vs hb _ o e => st₂ b vs hb (fun q => q) o e) fun s₃ f₃ t₃ _ => assignInOrder_nil (hQ s₃ ?_ (((Stp.of kk).trans S t₂ (f.keeps kk)).trans S t₃ f₂))))
    have hlook : ∀ z av, (setR (setR ρ x a) y b).lookup z = some av → (setR (setR ρ y b) x a).lookup z = some av := fun z av hz => by
      rw [lookup_setR, lookup_setR] at hz ⊢
      by_cases q1 : z = y
      · subst q1
        rw [if_pos rfl] at hz
        rw [if_neg (fun q => h10 q.symm), if_pos rfl]
        exact hz
      · rw [if_neg q1] at hz
        rw [if_neg q1]
        exact hz
    exact ⟨f₃.base, f₃.fs, f₃.loc.sub hlook, f₃.yEx, f₃.yNew, fun z av c hz ho H => f₃.ownY z av c (hlook z av hz) ho H⟩
  exact unpackItems_tuple (items := #[va, vb]) hC.handled hT fin

theorem isNil_inv {e : Expr} (h : isNil e = true) : ∃ p, e = .List [] p := by
  unfold isNil at h
  split at h
  · split at h
    · exact ⟨_, rfl⟩
    · cases h
  · cases h
theorem fq_whole {X : Addr → Prop} {h : Heap} {v : Value} {i j lo hi : Int} (r : Rep l X h v (.fq i j lo hi)) (b1 : 0 ≤ lo) (b2 : hi ≤ 100) (b3 : 0 < j) (b4 : j ≤ 100) (hm : i % j = 0) : Rep l X h v (.fx (i / j) 0 100) := by
  obtain ⟨_, rfl, h1, h2⟩ := r.inv
  have e := Int.ediv_mul_cancel (Int.dvd_of_emod_eq_zero hm)
  rw [Int.mul_comm] at e
  have hd1 := Int.ediv_nonneg (show 0 ≤ i by omega) (show 0 ≤ j by omega)
  have hd2 := Int.ediv_le_self j (show 0 ≤ i by omega)
  have := div_ofInt (j := j) (k := i / j) b3 (small_of (by omega)) (small_of (by omega)) (by rw [e]; exact small_of (by omega))
  rw [e] at this
  rw [this]
  exact .fx hd1 (by omega)

section
variable (S : Frm g gv s₀ X₀ sc env) {cfg : Cfg} {d n : Nat} (V : GvOk gv) (RR : ∀ n, RecOk prog w l cfg.own gv d (ev cfg n)) (hcov : cfg.cov = true → CovOk prog w g l gv d) (hsp : cfg.sp = true → SpOk prog w g l gv cfg.own d env.code) (hC : Cx d A)
  {rs : RecS} (RS : RsOk prog w A g cfg.own s₀ l X₀ sc env rs)
include S V RR hcov hsp hC RS

section
variable (f : Fst g cfg.own s₀ l X₀ Y sc env ρ s) {Q : Flow → Shared → Prop} {out : Out} (hQ : PostS g cfg.own s₀ l X₀ sc env out Q Y s)
include f hQ

theorem stNew_sound {x : Str} {px pos : Pos} {value : Expr} (h : stNew (ev cfg n) sc ρ x value = some out) (hk : stk sc x = true) (hx : cfg.own = some x) : wpAny (model prog w) A (exec (.Assign [.Name x px] value pos) env) Q E s := by
  unfold stNew at h
  split at h
  · rename_i hnil
    cases h
    obtain ⟨p, rfl⟩ := isNil_inv hnil
    refine wpAny_Assign_Name (List_ (spliced_nil (wpAny_newList ?_ (by show 0 ≤ sizeLine; exact Nat.zero_le _)))) rfl
    refine f.ownStore S (Keeps.push _ _ _) hk hx (get_new (Nat.le_refl _)) ⟨_, Heap.get?_push_size _ rfl⟩ .nil (fun y hy => nomatch hy) fun Y' s' f' t' => hQ Y' s' f' t'
  · split at h
    · rename_i hc
      cases asCall_inv hc
      split at h
      · rename_i hf
        simp only [Bool.and_eq_true] at hf
        obtain rfl := eq_of_beq hf.1
        split at h
        · rename_i lst hv
          cases h
          refine wpAny_Assign_Name (listRV_sound V (RR n) S.envOk hC (f.gd S) f.loc (f.old S) hf.2 hv fun D s₁ ys k hnew hp hr => ?_) rfl
          exact f.ownStore S k hk hx hnew hp hr (listRV_ints hv) fun Y' s' f' t' => hQ Y' s' f' t'
        · cases h
      · cases h
    · cases h

theorem stCov_sound {x fn : Str} {px pf cpos pos : Pos} {e1 e2 : Expr} (h : stCov ρ x (ev cfg n false sc ρ e1) (ev cfg n false sc ρ e2) = some out) (ho : Fine out.obl) (hc : cfg.cov = true) (hf : fn = "covariance") (hg : glb sc fn = true) (hk : stk sc x = true) (hx : cfg.own ≠ some x) :
    wpAny (model prog w) A (exec (.Assign [.Name x px] (.Call (.Name fn pf) [e1, e2] [] cpos) pos) env) Q E s := by
  subst hf
  have R := RR n
  unfold stCov at h
  split at h
  · rename_i xs h1
    split at h
    · rename_i ys h2
      split at h
      · rename_i is h3
        split at h
        · rename_i js h4
          split at h
          · cases h
          · rename_i hlen
            simp only [Bool.not_eq_true', Bool.not_eq_false, Bool.and_eq_true, decide_eq_true_eq, beq_iff_eq] at hlen
            obtain ⟨⟨q1, q2⟩, q3⟩ := hlen
            cases h
            obtain ⟨a, o, fd, hv, hob, hfd, hcall⟩ := hcov hc
            have hL : evL (ev cfg n) sc ρ [e1, e2] = some [.list xs, .list ys] := by simp [evL, asList_inv h1, asList_inv h2]
            refine wpAny_Assign_Name (call_name S.envOk hg (f.gd S) hv (callF_sound R S.envOk hC hL (by simp) (f.gd S) f.loc (f.old S) ((f.gd S).2.1 a o hob) hfd fun vs s₁ k r => ?_)) rfl
            obtain ⟨v1, v2, rfl, r1, r2⟩ := r.inv2
            have f1 := f.keeps k
            refine hcall _ A s₁ v1 v2 xs ys is js hC (f1.gd S) (f1.old S) (f1.tab S) r1 r2 h3 h4 q1 q2 q3 (fun i hi => ?_) (fun j hj => ?_) _ _ fun v s₂ k2 r => ?_
            · have := ho (!(i == 0 || i == (is.length : Int))) (List.mem_append_left _ (List.mem_map.mpr ⟨i, hi, rfl⟩))
              by_cases q : i = 0
              · exact .inl q
              · exact .inr (by simpa [q] using this)
            · have := ho (!(j == 0 || j == (is.length : Int) * ((is.length : Int) - 1))) (List.mem_append_right _ (List.mem_map.mpr ⟨j, hj, rfl⟩))
              by_cases q : j = 0
              · exact .inl q
              · exact .inr (by simpa [q] using this)
            · have f2 := f1.keepsG S k2
              exact f2.store S hk hx r fun s₃ f₃ t₃ _ => hQ Y s₃ f₃ (((Stp.of k).trans S (Stp.ofG k2) f1).trans S t₃ f2)
        · cases h
      · cases h
    · cases h
  · cases h

theorem stSp_sound {x fn : Str} {px pf cpos pos : Pos} {e1 e2 : Expr} (h : stSp ρ x (genV cfg.own sc ρ e1) (genV cfg.own sc ρ e2) = some out) (hc : cfg.sp = true) (hf : fn = "sumprod") (hg : glb sc fn = true) (hk : stk sc x = true) (hx : cfg.own ≠ some x) :
    wpAny (model prog w) A (exec (.Assign [.Name x px] (.Call (.Name fn pf) [e1, e2] [] cpos) pos) env) Q E s := by
  unfold stSp at h
  split at h
  · rename_i xs h1
    split at h
    · rename_i ys h2
      split at h
      · rename_i hlen
        simp only [Bool.and_eq_true, decide_eq_true_eq, beq_iff_eq] at hlen
        cases h
        refine wpAny_Assign_Name (hsp hc _ _ _ _ _ _ _ _ _ hf hg h1 h2 hlen.1.1 hlen.1.2 hlen.2 _ _ _ _ S.envOk rfl hC (f.gd S) f.loc (f.old S) (f.tab S) _ _ fun v s₁ k r => ?_) rfl
        have f1 := f.keepsG S k
        exact f1.store S hk hx r fun s₂ f₂ t₂ _ => hQ Y s₂ f₂ ((Stp.ofG k).trans S t₂ f1)
      · cases h
    · cases h
  · cases h

theorem stOne_sound {x : Str} {px pos : Pos} {value : Expr} {a : AV} (ha : ev cfg n false sc ρ value = some a) (h : ok1 (setR ρ x a) = some out) (hk : stk sc x = true) (hx : cfg.own ≠ some x) : wpAny (model prog w) A (exec (.Assign [.Name x px] value pos) env) Q E s := by
  cases h
  exact assign_sound S V (RR n) RR hC ha (fun _ _ _ r => r) hk hx f fun s' f' t' => hQ Y s' f' t'

theorem stAny_sound {x : Str} {px pos : Pos} {value : Expr} (h : stAny ρ x (ev cfg n false sc ρ value) = some out) (ho : Fine out.obl) (hk : stk sc x = true) (hx : cfg.own ≠ some x) : wpAny (model prog w) A (exec (.Assign [.Name x px] value pos) env) Q E s := by
  unfold stAny at h
  split at h
  · rename_i ha
    split at h
    · rename_i i j lo hi
      split at h
      · rename_i hb
        simp only [Bool.and_eq_true, decide_eq_true_eq] at hb
        obtain ⟨⟨⟨b1, b2⟩, b3⟩, b4⟩ := hb
        cases h
        have hm : i % j = 0 := by
          have := ho (!(i % j == 0)) (List.mem_singleton.mpr rfl)
          simpa using this
        exact assign_sound S V (RR n) RR hC ha (a' := .fx (i / j) 0 100) (fun X h v r => fq_whole r b1 b2 b3 b4 hm) hk hx f fun s' f' t' => hQ Y s' f' t'
      · cases h
    · exact stOne_sound S V RR hcov hsp hC RS f hQ ha h hk hx
  · cases h

theorem stName_sound {x : Str} {px pos : Pos} {value : Expr} (h : stName cfg (ev cfg n) sc ρ x value = some out) (ho : Fine out.obl) (hk : stk sc x = true) (hx : cfg.own ≠ some x) : wpAny (model prog w) A (exec (.Assign [.Name x px] value pos) env) Q E s := by
  unfold stName at h
  split at h
  · rename_i ha
    cases as2_inv ha
    split at h
    · cases h
    · rename_i hg
      simp only [Bool.not_eq_true', Bool.not_eq_false] at hg
      split at h
      · rename_i hc
        simp only [Bool.and_eq_true] at hc
        exact stCov_sound S V RR hcov hsp hC RS f hQ h ho hc.1 (eq_of_beq hc.2) hg hk hx
      · split at h
        · rename_i hc
          simp only [Bool.and_eq_true] at hc
          exact stSp_sound S V RR hcov hsp hC RS f hQ h hc.1 (eq_of_beq hc.2) hg hk hx
        · unfold stOne at h
          split at h
          · rename_i ha
            exact stOne_sound S V RR hcov hsp hC RS f hQ ha h hk hx
          · cases h
  · exact stAny_sound S V RR hcov hsp hC RS f hQ h ho hk hx

theorem stTwo_sound {x y : Str} {px py pos : Pos} {value : Expr} (h : stTwo cfg (ev cfg n) sc ρ x y value = some out) : wpAny (model prog w) A (exec (.Assign [.Name x px, .Name y py] value pos) env) Q E s := by
  have R := RR n
  unfold stTwo at h
  split at h
  · rename_i a ha
    split at h
    · cases h
    · rename_i hc
      simp only [Bool.or_eq_true, not_or, Bool.not_eq_true', Bool.not_eq_false, beq_iff_eq] at hc
      obtain ⟨⟨⟨h1, h2⟩, h3⟩, h4⟩ := hc
      cases h
      refine wpAny_Assign_two (R.val _ _ _ _ ha _ _ _ _ S.envOk hC (f.gd S) f.loc (f.old S) _ _ fun v s₁ k rv => ?_)
      refine wpAny_assign_Name ((f.keeps k).store S h3 h1 rv fun s₂ f₂ t₂ st₂ => ?_)
      refine wpAny_assign_Name (f₂.store S h4 h2 (rv.later fun b vs hb _ o e => st₂ b vs hb (fun q => q) o e) fun s₃ f₃ t₃ _ => ?_)
      exact hQ Y s₃ f₃ (((Stp.of k).trans S t₂ (f.keeps k)).trans S t₃ f₂)
  · cases h

theorem stSwap_sound {es : List Expr} {k1 : Nat} {tp pos : Pos} {value : Expr} (h : stSwap cfg sc ρ es value = some out) : wpAny (model prog w) A (exec (.Assign [.Tuple es k1 tp] value pos) env) Q E s := by
  unfold stSwap at h
  split at h
  · split at h
    · rename_i hp
      cases pairN_inv hp
      split at h
      · rename_i hp'
        cases pairN_inv hp'
        split at h
        · cases h
        · rename_i hc
          simp only [swapOk, Bool.or_eq_true, not_or, Bool.not_eq_true', Bool.not_eq_false, beq_iff_eq] at hc
          obtain ⟨⟨⟨⟨⟨⟨⟨⟨⟨h1, h2⟩, h3⟩, h4⟩, h5⟩, h6⟩, h7⟩, h8⟩, h9⟩, h10⟩ := hc
          split at h
          · rename_i ha
            split at h
            · rename_i hb
              cases h
              exact swap_sound S hC f h1 h2 h3 h4 h5 h6 h7 h8 h9 h10 ha hb fun s' f' t' => hQ Y s' f' t'
            · cases h
          · cases h
      · cases h
    · cases h
  · cases h

theorem stItem_sound {r i : Str} {pr pi sp pos : Pos} {value : Expr} (h : stItem cfg ρ r i (ev cfg n false sc ρ value) = some out) : wpAny (model prog w) A (exec (.Assign [.Subscript (.Name r pr) (.Name i pi) sp] value pos) env) Q E s := by
  have R := RR n
  unfold stItem at h
  split at h
  · rename_i v lo hi ha
    replace ha := asInt_inv ha
    split at h
    · rename_i xs hr
      replace hr := asList_inv hr
      split at h
      · rename_i k klo khi hi'
        replace hi' := asInt_inv hi'
        split at h
        · rename_i hc
          simp only [Bool.and_eq_true, decide_eq_true_eq, beq_iff_eq] at hc
          obtain ⟨⟨⟨c1, c2⟩, c3⟩, c4⟩ := hc
          cases h
          refine wpAny_Assign_Subscript (R.val _ _ _ _ ha _ _ _ _ S.envOk hC (f.gd S) f.loc (f.old S) _ _ fun u s₁ k1 ru => ?_) swaps_other
          have f1 := f.keeps k1
          obtain ⟨D, vs, xs0, e0, H0, hX0, hp0, hn0, hv0⟩ := f1.loc.own r _ hr c1
          cases e0
          refine name_has S.envOk.kind H0 ?_
          have hoi : cfg.own ≠ some i := fun q => by
            obtain ⟨_, _, xs1, e1, _⟩ := f1.loc.own i _ hi' q
            cases e1
          obtain ⟨w', Hi, ri⟩ := f1.loc.var i _ hi' hoi
          refine name_has S.envOk.kind Hi ?_
          obtain ⟨_, rfl, _, _⟩ := ri.inv
          obtain ⟨n0, hpo⟩ := id hp0
          have hs := Heap.SameBut.update s₁.heap D (Obj.mapSeq (·.setIfInBounds k.toNat u))
          have hlen : (vs.toArray.size : Int) = xs.length := by simp [hn0]
          refine ki_setAt (n := n0) hpo c2 (by omega) (by omega) ?_
          have hup := PySem.IsL.update hpo (·.setIfInBounds k.toNat u)
          have hset : (vs.toArray.setIfInBounds k.toNat u) = (vs.set k.toNat u).toArray := by simp
          have hp' : (s₁.heap.update D (Obj.mapSeq (·.setIfInBounds k.toNat u))).PlainList D (vs.set k.toNat u).toArray := ⟨_, by rw [← hset]; exact hup⟩
          obtain ⟨_, rfl, b1, b2⟩ := ru.inv
          obtain ⟨f2, t2⟩ := f1.upd (tk := s₁.toks) S c1 hr H0 hs hp' (xs' := xs.set k.toNat (.int v lo hi)) ⟨by simp [hn0], fun j v' y e1 e2 => by
            rw [List.getElem?_set] at e1 e2
            by_cases q : k.toNat = j
            · rw [if_pos q, if_pos (by omega)] at e1
              rw [if_pos q, if_pos (by omega)] at e2
              cases e1; cases e2
              exact .int b1 b2
            · rw [if_neg q] at e1 e2
              have r0 := hv0 j v' y e1 e2
              exact r0.later fun b ws hb hX o e => hs.extBut b o (fun q => hX (q ▸ hX0)) e⟩
          exact hQ Y _ f2 ((Stp.of k1).trans S t2 f1)
        · cases h
      · cases h
    · cases h
  · cases h

theorem stAug_sound {x : Str} {px pos : Pos} {op : Operator} {value : Expr} (h : stAug cfg (ev cfg n) sc ρ x op value = some out) : wpAny (model prog w) A (exec (.AugAssign (.Name x px) op value pos) env) Q E s := by
  have R := RR n
  unfold stAug at h
  split at h
  · cases h
  · rename_i hc
    simp only [Bool.or_eq_true, not_or, Bool.not_eq_true', Bool.not_eq_false, beq_iff_eq] at hc
    obtain ⟨hx, hk⟩ := hc
    split at h
    · rename_i i li hi hxa
      split at h
      · rename_i j lj hj hb
        obtain ⟨va, Ha, ra⟩ := f.loc.var x _ (asInt_inv hxa) hx
        obtain ⟨_, rfl, a1, a2⟩ := ra.inv
        have go : ∀ z zl zh, (lj ≤ j → j ≤ hj → zl ≤ z ∧ z ≤ zh) → ok1 (setR ρ x (.int z zl zh)) = some out → (∀ t u s₁ (Q' : Value → Shared → Prop), Q' (.int z s₁.toks) { s₁ with toks := s₁.toks + 1 } → wpAny (model prog w) A (inplaceOp op (.int i t) (.int j u)) Q' E s₁) →
            wpAny (model prog w) A (exec (.AugAssign (.Name x px) op value pos) env) Q E s := by
          intro z zl zh hz e hop
          cases e
          refine wpAny_AugAssign_Name (loadName_has S.envOk.kind Ha (R.val _ _ _ _ (asInt_inv hb) _ _ _ _ S.envOk hC (f.gd S) f.loc (f.old S) _ _ fun vb s₁ k1 rb => ?_))
          obtain ⟨_, rfl, b1, b2⟩ := rb.inv
          have k2 := Keeps.tok s₁ (s₁.toks + 1)
          have f1 := (f.keeps k1).keeps k2
          exact hop _ _ _ _ (f1.store S hk hx (.int (hz b1 b2).1 (hz b1 b2).2) fun s₂ f₂ t₂ _ => hQ Y s₂ f₂ ((Stp.of (Keeps.trans k1 k2)).trans S t₂ f1))
        split at h
        · exact go _ _ _ (fun b1 b2 => ⟨Int.add_le_add a1 b1, Int.add_le_add a2 b2⟩) h fun t u s₁ Q' q => P.iadd_int q
        · exact go _ _ _ (fun b1 b2 => ⟨Int.sub_le_sub a1 b2, Int.sub_le_sub a2 b1⟩) h fun t u s₁ Q' q => P.isub_int q
        · cases h
      · cases h
    · cases h

theorem stIf_sound {test : Expr} {body orelse : List Stmt} {pos : Pos} (h : stIf (ev cfg n) sc rs ρ test body orelse = some out) (ho : Fine out.obl) : wpAny (model prog w) A (exec (.If test body orelse pos) env) Q E s := by
  unfold stIf at h
  split at h
  · rename_i b ht
    refine if_sound S RS (RR n) hC (asBool_inv ht) ?_ ho f hQ
    split at h
    · rename_i hr
      rw [if_pos hr]
      split at h
      · cases h
        exact ⟨ho b (List.mem_singleton.mpr rfl), rfl, rfl⟩
      · cases h
    · rename_i hr
      rw [if_neg hr]
      cases b with
      | true => exact h
      | false => exact h
  · cases h

theorem stFor_sound {target iter : Expr} {body orelse : List Stmt} {pos : Pos} (h : stFor cfg (ev cfg n) sc rs ρ target iter body orelse = some out) (ho : Fine out.obl) : wpAny (model prog w) A (exec (.For target iter body orelse pos) env) Q E s := by
  unfold stFor at h
  split at h
  · split at h
    · rename_i its hi
      exact for_sound S RS V (RR n) hC hi h ho f hQ
    · cases h
  · cases h

theorem stWhile_sound {test : Expr} {body orelse : List Stmt} {pos : Pos} (h : stWhile (ev cfg n) sc rs ρ test body orelse = some out) : wpAny (model prog w) A (exec (.While test body orelse pos) env) Q E s := by
  unfold stWhile at h
  split at h
  · split at h
    · rename_i ρ' hw
      cases h
      exact while_sound S RS (RR n) hC hw f hQ
    · cases h
  · cases h

theorem stRet_sound {o : Option Expr} {pos : Pos} (h : stRet cfg (ev cfg n) sc ρ o = some out) : wpAny (model prog w) A (exec (.Return o pos) env) Q E s := by
  unfold stRet at h
  split at h
  · rename_i e
    split at h
    · rename_i a ha
      cases h
      unfold retV at ha
      have plain : ev cfg n false sc ρ e = some a → wpAny (model prog w) A (exec (.Return (some e) pos) env) Q E s := fun ha =>
        wpAny_Return_some ((RR n).val _ _ _ _ ha _ _ _ _ S.envOk hC (f.gd S) f.loc (f.old S) _ _ fun v s₁ k rv => hQ Y s₁ (f.keeps k) (Stp.of k) v (rv.weak fun b hb => .inl hb))
      split at ha
      · rename_i x px
        split at ha
        · rename_i hx
          have hx := eq_of_beq hx
          obtain ⟨D, vs, xs0, e0, H0, hX0, hp0, hn0, hv0⟩ := f.loc.own x _ ha hx
          subst e0
          have hY := f.ownY x _ D ha hx H0
          refine wpAny_Return_some (name_has S.envOk.kind H0 (hQ Y s f (Stp.of (Keeps.refl s)) _ (.list hp0.isList (fun q => ?_) hn0 fun i v y e1 e2 => (hv0 i v y e1 e2).weak fun b hb => .inl hb)))
          obtain ⟨o, e⟩ := S.old D q
          rw [f.yNew D hY] at e; cases e
        · exact plain ha
      · exact plain ha
    · cases h
  · cases h

theorem stApp_sound {e0 : Expr} {epos : Pos} (h : stApp cfg (ev cfg n) sc ρ e0 = some out) : wpAny (model prog w) A (exec (.Expr e0 epos) env) Q E s := by
  have R := RR n
  unfold stApp at h
  split at h
  · rename_i t pt name apos e pos he
    cases asApp_inv he
    split at h
    · rename_i hc
      simp only [Bool.and_eq_true] at hc
      obtain ⟨⟨hn, hx⟩, hline⟩ := hc
      obtain rfl := eq_of_beq hn
      have hx := eq_of_beq hx
      split at h
      · rename_i xs hxs
        replace hxs := asList_inv hxs
        split at h
        · rename_i a ha
          split at h
          · rename_i hsz
            cases h
            have hse : ∀ v p, e ≠ .Starred v p := fun v p q => by subst q; rw [R.star] at ha; cases ha
            have hs1 : starEach [e] env = [(false, eval e env)] := by rw [starEach_plain hse]; rfl
            obtain ⟨D, vs, xs0, e0, H0, hX0, hp0, hn0, hv0⟩ := f.loc.own t _ hxs hx
            cases e0
            refine wpAny_Expr (wpAny_Call_append rfl (by rw [hs1]; rfl) hline (by rw [hs1]; rfl) (name_has S.envOk.kind H0 ?_)) (by unfold interactive; rw [S.envOk.kind]; rfl) rfl
            obtain ⟨n0, hpo⟩ := id hp0
            refine ⟨D, vs.toArray, rfl, ⟨_, n0, hpo, rfl, rfl, rfl⟩, ?_⟩
            refine R.val _ _ _ _ ha _ _ _ _ S.envOk hC (f.gd S) f.loc (f.old S) _ _ fun v s₁ k1 rv => ?_
            have f1 := f.keeps k1
            have hp1 : s₁.heap.PlainList D vs.toArray := hp0.at fun o e => Keeps.keep k1 _ o e
            refine wpAny_list_append_plain hp1 (fun h' hp' hs => ?_) (by rw [List.size_toArray, hn0, sizeLine_eq]; omega)
            have hpush : (vs.toArray.push v) = (vs ++ [v]).toArray := by simp
            rw [hpush] at hp'
            have st : Stays (fun b => X₀ b ∨ Y b) s₁.heap h' := fun b ws hb hX o e => hs.extBut b o (fun q => hX (q ▸ hX0)) e
            have r0 : RepL l (fun b => X₀ b ∨ Y b) h' vs xs := ⟨hn0, fun i v y e1 e2 => ((hv0 i v y e1 e2).keeps (Keeps.keep k1)).later st⟩
            obtain ⟨f2, t2⟩ := f1.upd (tk := s₁.toks) S hx hxs (H0.keeps (Keeps.keep k1)) hs hp' (xs' := xs ++ [a]) (RepL.snoc r0 (rv.later st))
            exact hQ Y _ f2 ((Stp.of k1).trans S t2 f1)
          · cases h
        · cases h
      · cases h
    · cases h
  · cases h

theorem stTo_sound {t value : Expr} {pos : Pos} (h : stTo cfg (ev cfg n) sc ρ t value = some out) (ho : Fine out.obl) : wpAny (model prog w) A (exec (.Assign [t] value pos) env) Q E s := by
  unfold stTo at h
  split at h
  · split at h
    · cases h
    · rename_i hk
      simp only [Bool.not_eq_true', Bool.not_eq_false] at hk
      split at h
      · rename_i hx
        exact stNew_sound S V RR hcov hsp hC RS f hQ h hk (eq_of_beq hx)
      · rename_i hx
        exact stName_sound S V RR hcov hsp hC RS f hQ h ho hk (by simpa using hx)
  · exact stSwap_sound S V RR hcov hsp hC RS f hQ h
  · split at h
    · rename_i hr
      obtain ⟨_, rfl⟩ := asName_inv hr
      split at h
      · rename_i hi
        obtain ⟨_, rfl⟩ := asName_inv hi
        exact stItem_sound S V RR hcov hsp hC RS f hQ h
      · cases h
    · cases h
  · cases h
end

theorem stV_sound {st : Stmt} {out : Out} (h : stV cfg (ev cfg n) sc rs ρ st = some out) (ho : Fine out.obl) (f : Fst g cfg.own s₀ l X₀ Y sc env ρ s) {Q : Flow → Shared → Prop} (hQ : PostS g cfg.own s₀ l X₀ sc env out Q Y s) :
    wpAny (model prog w) A (exec st env) Q E s := by
  unfold stV at h
  split at h
  · unfold stAssign at h
    split at h
    · exact stTo_sound S V RR hcov hsp hC RS f hQ h ho
    · split at h
      · rename_i hx
        obtain ⟨_, rfl⟩ := asName_inv hx
        split at h
        · rename_i hy
          obtain ⟨_, rfl⟩ := asName_inv hy
          exact stTwo_sound S V RR hcov hsp hC RS f hQ h
        · cases h
      · cases h
    · cases h
  · split at h
    · rename_i hx
      obtain ⟨_, rfl⟩ := asName_inv hx
      exact stAug_sound S V RR hcov hsp hC RS f hQ h
    · cases h
  · exact stIf_sound S V RR hcov hsp hC RS f hQ h ho
  · exact stFor_sound S V RR hcov hsp hC RS f hQ h ho
  · exact stWhile_sound S V RR hcov hsp hC RS f hQ h
  · exact stRet_sound S V RR hcov hsp hC RS f hQ h
  · exact stApp_sound S V RR hcov hsp hC RS f hQ h
  · cases h
end
end Mine
end

section
namespace Mine
open PySem PySem.Calls PyProof.Rows PySem.W

variable {g : Option (Addr × Addr)} {l : Nat} {X X₀ Y Y' : Addr → Prop} {own : Option Str} {gv : Gv} {prog : Program} {w : World} {A : Around} {E : Value → Shared → Prop} {s s₀ : Shared} {env : Env} {sc : Sc} {ρ ρ' : Ro}

theorem ex_ok (S : Frm g gv s₀ X₀ sc env) {cfg : Cfg} {d n : Nat} (V : GvOk gv) (RR : ∀ n, RecOk prog w l cfg.own gv d (ev cfg n)) (hcov : cfg.cov = true → CovOk prog w g l gv d) (hsp : cfg.sp = true → SpOk prog w g l gv cfg.own d env.code) (hC : Cx d A) :
    ∀ k, RsOk prog w A g cfg.own s₀ l X₀ sc env (ex cfg sc n k)
  | 0 => fun _ _ _ h => (by cases h)
  | k + 1 => by
    have RS := ex_ok (n := n) S V RR hcov hsp hC k
    intro ρ sts out h ho s Y f Q E hQ
    unfold ex at h
    split at h
    · cases h
      exact wpAny_execs_nil (hQ Y s f (Stp.of (Keeps.refl s)))
    · rename_i st rest
      split at h
      · rename_i ρ₁ o hst
        split at h
        · rename_i ρ₂ o' fl hr
          cases h
          refine wpAny_execs_cons (stV_sound S V RR hcov hsp hC RS hst (fun b hb => ho b (List.mem_append_left _ hb)) f fun Y₁ s₁ f₁ t₁ => ?_)
          exact RS _ _ _ hr (fun b hb => ho b (List.mem_append_right _ hb)) _ _ f₁ _ _ (hQ.step S t₁ f₁)
        · cases h
      · rename_i ρ₁ o a hst
        cases h
        exact wpAny_execs_cons (stV_sound S V RR hcov hsp hC RS hst ho f fun Y₁ s₁ f₁ t₁ v hv => hQ Y₁ s₁ f₁ t₁ v hv)
      · cases h
end Mine
end

section
namespace Mine
open PySem PySem.Calls PyProof.Rows PySem.W

variable {g : Option (Addr × Addr)} {l : Nat} {X X₀ Y Y' : Addr → Prop} {own : Option Str} {gv : Gv} {prog : Program} {w : World} {A : Around} {E : Value → Shared → Prop} {s s₀ : Shared} {env : Env} {sc : Sc} {ρ ρ' : Ro}

theorem bindL_skip (kindOf : Str → Option NameKind) : ∀ (r : List (Str × Value)) (m : Str → Option Value) (x : Str), x ∉ r.map (·.1) → bindL kindOf r m x = m x
  | [], _, _, _ => rfl
  | (n, v) :: r, m, x, h => by
    simp only [List.map_cons, List.mem_cons, not_or] at h
    unfold bindL
    rw [bindL_skip kindOf r _ x h.2]
    split
    · exact if_neg h.1
    · rfl
theorem bindC_skip (kindOf : Str → Option NameKind) : ∀ (r : List (Str × Value)) (m : Str → Option Value) (x : Str), x ∉ r.map (·.1) → bindC kindOf r m x = m x
  | [], _, _, _ => rfl
  | (n, v) :: r, m, x, h => by
    simp only [List.map_cons, List.mem_cons, not_or] at h
    unfold bindC
    rw [bindC_skip kindOf r _ x h.2]
    split
    · rfl
    · exact if_neg h.1
theorem zip_fst : ∀ (ps : List Str) (vs : List Value), ∀ x ∈ (ps.zip vs).map (·.1), x ∈ ps
  | [], _, _, h => by simp at h
  | _ :: _, [], _, h => by simp at h
  | p :: ps, v :: vs, x, h => by
    simp only [List.zip_cons_cons, List.map_cons, List.mem_cons] at h
    rcases h with rfl | h
    · exact List.mem_cons_self
    · exact List.mem_cons_of_mem _ (zip_fst ps vs x h)
theorem bindL_zip (kindOf : Str → Option NameKind) : ∀ (ps : List Str) (vs : List Value) (m : Str → Option Value) (x : Str) (v : Value), ps.Nodup → (ps.zip vs).lookup x = some v → kindOf x = some .local → bindL kindOf (ps.zip vs) m x = some v
  | [], _, _, _, _, _, h, _ => by simp at h
  | _ :: _, [], _, _, _, _, h, _ => by simp at h
  | p :: ps, u :: vs, m, x, v, hn, h, hk => by
    rw [List.zip_cons_cons, List.lookup_cons] at h
    rw [List.zip_cons_cons]
    unfold bindL
    rw [List.nodup_cons] at hn
    by_cases hx : x = p
    · subst hx
      simp only [beq_self_eq_true] at h
      cases h
      rw [bindL_skip kindOf _ _ _ fun q => hn.1 (zip_fst _ _ _ q), if_pos hk, if_pos rfl]
    · have : (x == p) = false := by simpa using hx
      rw [this] at h
      exact bindL_zip kindOf ps vs _ x v hn.2 h hk
theorem bindC_zip (kindOf : Str → Option NameKind) : ∀ (ps : List Str) (vs : List Value) (m : Str → Option Value) (x : Str) (v : Value), ps.Nodup → (ps.zip vs).lookup x = some v → ¬ kindOf x = some .local → bindC kindOf (ps.zip vs) m x = some v
  | [], _, _, _, _, _, h, _ => by simp at h
  | _ :: _, [], _, _, _, _, h, _ => by simp at h
  | p :: ps, u :: vs, m, x, v, hn, h, hk => by
    rw [List.zip_cons_cons, List.lookup_cons] at h
    rw [List.zip_cons_cons]
    unfold bindC
    rw [List.nodup_cons] at hn
    by_cases hx : x = p
    · subst hx
      simp only [beq_self_eq_true] at h
      cases h
      rw [bindC_skip kindOf _ _ _ fun q => hn.1 (zip_fst _ _ _ q), if_neg hk, if_pos rfl]
    · have : (x == p) = false := by simpa using hx
      rw [this] at h
      exact bindC_zip kindOf ps vs _ x v hn.2 h hk
theorem zip_rep {h : Heap} : ∀ (ps : List Str) {vs : List Value} {as : List AV} {x : Str} {av : AV}, RepL l X h vs as → (ps.zip as).lookup x = some av → ∃ v, (ps.zip vs).lookup x = some v ∧ Rep l X h v av ∧ x ∈ ps
  | [], _, _, _, _, _, h => by simp at h
  | _ :: _, _, [], _, _, _, h => by simp at h
  | p :: ps, [], a :: as, _, _, r, _ => by have := r.1; simp at this
  | p :: ps, v :: vs, a :: as, x, av, r, h => by
    rw [List.zip_cons_cons, List.lookup_cons] at h
    rw [List.zip_cons_cons, List.lookup_cons]
    by_cases hx : x = p
    · subst hx
      simp only [beq_self_eq_true] at h ⊢
      cases h
      exact ⟨v, rfl, r.2 0 v _ rfl rfl, List.mem_cons_self⟩
    · have e : (x == p) = false := by simpa using hx
      rw [e] at h ⊢
      have r' : RepL l X _ vs as := ⟨by have := r.1; simpa using this, fun i v x e1 e2 => r.2 (i + 1) v x (by simpa using e1) (by simpa using e2)⟩
      obtain ⟨v', h1, h2, h3⟩ := zip_rep ps r' h
      exact ⟨v', h1, h2, List.mem_cons_of_mem _ h3⟩

/-- the frame of a call as it opens -/
theorem frame_opens {fd : FuncData} {a : Addr} {s₁ : Shared} {ps : List Str} {vs : List Value} {as : List AV} (hgl : fd.globals = mainGlobals) (hbl : fd.builtins = builtinsNs) (hk : fd.scope.kind = .function) (hps : ps.all (fun p => stk fd.scope.names p) = true) (hnd : ps.Nodup)
    (hown : ∀ x, own = some x → x ∉ ps) (G : Gd gv s.heap) (O : Old X₀ s.heap) (htb : TabOk g s.heap) (hobT : ∀ a o, gv.ob a o → ∀ vs, o ≠ { cls := .none, data := .fields vs }) (hr : RepL l X₀ s.heap vs as)
    (x : InCallC s (callEnvC fd s.heap.objs.size a).locals (bindL (callEnvC fd s.heap.objs.size a).kindOf (ps.zip vs) fun _ => Option.none) (callEnvC fd s.heap.objs.size a).cells (bindC (callEnvC fd s.heap.objs.size a).kindOf (ps.zip vs) fun _ => Option.none) s₁) :
    Frm g gv s X₀ fd.scope.names (callEnvC fd s.heap.objs.size a) ∧ Fst g own s l X₀ (fun _ => False) fd.scope.names (callEnvC fd s.heap.objs.size a) (ps.zip as) s₁ := by
  have hkind : ∀ y, (callEnvC fd s.heap.objs.size a).kindOf y = fd.scope.names.lookup y := fun y => rfl
  have kk : Keeps s s₁ := let ⟨h', tk, e, q⟩ := x.done; ⟨h', tk, e, q⟩
  have hcell : ∀ y, fd.scope.names.lookup y = some .cell → ∃ c, (callEnvC fd s.heap.objs.size a).cells.lookup y = some c := fun y hy => by
    obtain ⟨c, h1, _⟩ := cf_cell fd.scope.names (s.heap.objs.size + 1) [] y (lookup_mem hy)
    exact ⟨c, h1⟩
  refine ⟨⟨G, O, ⟨hk, hgl, hbl, fun y k _ hy => by rw [hkind]; exact hy⟩, fun b hb => ?_, htb, hobT⟩, ⟨.of kk, ⟨⟨_, x.toInCall.ns⟩, fun y hy => ?_, fun y z c hy h1 h2 => ?_⟩, ⟨fun y av hy _ => ?_, fun y av hy ho => ?_⟩, fun b hb => hb.elim, fun b hb => hb.elim, fun y av b hy ho _ => ?_⟩⟩
  · rcases hb with rfl | ⟨y, _, hc⟩
    · exact get_new (Nat.le_refl _)
    · exact get_new (Nat.le_of_lt (x.above y b (lookup_mem hc)))
  · obtain ⟨c, h1⟩ := hcell y hy
    exact ⟨c, _, h1, x.cell y c h1⟩
  · exact PySem.name_of_addr x.apart (lookup_mem h1) (lookup_mem h2)
  · obtain ⟨v, h1, h2, h3⟩ := zip_rep ps hr hy
    refine ⟨v, ?_, (h2.weak fun b hb => ?_).keeps (Keeps.keep kk)⟩
    · have hs := List.all_eq_true.mp hps y h3
      obtain ⟨hloc, hdb⟩ := stk_kind hs
      rcases hloc with q | q
      · exact ⟨hdb, .inl ⟨q, _, x.toInCall.ns, bindL_zip _ _ _ _ _ _ hnd h1 q⟩⟩
      · obtain ⟨c, h4⟩ := hcell y q
        refine ⟨hdb, .inr (.inl ⟨q, c, h4, ?_⟩)⟩
        have := x.cell y c h4
        rw [bindC_zip _ _ _ _ _ _ hnd h1 (by rw [hkind, q]; decide)] at this
        exact this
    · exact hb.elim id fun q => q.elim
  · obtain ⟨v, h1, h2, h3⟩ := zip_rep ps hr hy
    exact absurd h3 (hown y ho)
  · obtain ⟨v, h1, h2, h3⟩ := zip_rep ps hr hy
    exact absurd h3 (hown y ho)

theorem fn_call {name : Str} {params : Arguments} {body : List Stmt} {scope : Scope} {pm code doc : Value} {a : Addr} {o : Obj} {ps : List Str} {vs : List Value} {as : List AV} {cfg : Cfg} {d n k : Nat} {ρ' : Ro} {obl : List Bool} {r : AV}
    (G : Gd gv s.heap) (O : Old X₀ s.heap) (htb : TabOk g s.heap) (ho : s.heap.get? a = some o) (hd : o.data = .func (docDef name params body scope pm code doc)) (hcd : s.heap.CodeRec code name) (hbind : bindArgs (docDef name params body scope pm code doc) ⟨vs, []⟩ = pure (ps.zip vs))
    (hps : ps.all (fun p => stk scope.names p) = true) (hnd : ps.Nodup) (hown : ∀ x, cfg.own = some x → x ∉ ps) (hr : RepL l X₀ s.heap vs as) (hC : Cx (d + 1) A)
    (V : GvOk gv) (RR : ∀ n, RecOk prog w l cfg.own gv d (ev cfg n)) (hcov : cfg.cov = true → CovOk prog w g l gv d) (hsp : cfg.sp = true → SpOk prog w g l gv cfg.own d code)
    (hex : ex cfg scope.names n k (ps.zip as) body = some ⟨ρ', obl, .ret r⟩) (hf : Fine obl) {Q : Value → Shared → Prop} (hQ : ∀ v s', GKeeps g s s' → Rep l X₀ s'.heap v r → Q v s')
    (hk : scope.kind = .function) (hco : scope.isCoroutine = false) (hgen : scope.isGenerator = false) : wpAny (model prog w) A (call (.ref a) vs) Q E s := by
  refine wpAny_call (codeAny_call_cells (fd := docDef name params body scope pm code doc) (by have := hC.depth; have e : recursionLimit = 1000 := rfl; omega) ho hd G.1 hcd rfl hbind rfl (fun x hx => ?_) (fun s₁ x => ?_) hco hgen hk)
  · have h3 := zip_fst ps vs x.1 (List.mem_map.mpr ⟨x, hx, rfl⟩)
    obtain ⟨hloc, _⟩ := stk_kind (List.all_eq_true.mp hps _ h3)
    rcases hloc with q | q
    · exact .inl q
    · obtain ⟨c, h1, _⟩ := cf_cell scope.names (s.heap.objs.size + 1) [] x.1 (lookup_mem q)
      exact .inr ⟨q, by show ((cellsFrom (s.heap.objs.size + 1) scope.names []).lookup x.1).isSome = true; rw [h1]; rfl⟩
  · obtain ⟨S, f⟩ := frame_opens (g := g) (own := cfg.own) (l := l) (X₀ := X₀) (as := as) rfl rfl hk hps hnd hown G O htb V.obT hr x
    refine ex_ok S V RR hcov hsp (hC.deeper _) k _ _ _ hex hf _ _ f _ _ fun Y' s' f' t' v hv => ?_
    exact hQ v s' f'.base hv
end Mine
end

section
namespace Mine
open PySem PySem.Calls PyProof.Rows PySem.W

variable {prog : Program} {w : World} {A : Around} {E : Value → Shared → Prop} {s : Shared} {Q : Value → Shared → Prop}

theorem kind_sumprod : builtinKind "math.sumprod" = Option.none := by decide +kernel
theorem plain_sumprod : plainId "math.sumprod" = true := by decide +kernel
theorem entry_sumprod : entryFor table "math.sumprod" = some Builtin.«math.sumprod» := entryFor_of_fast (by kernel_rfl)
theorem args_sumprod (a b : Value) : argsOk "math.sumprod" ⟨[a, b], []⟩ := by unfold argsOk; kernel_rfl
theorem plain_sumprod_loop : plainId "math.sumprod.loop" = true := by decide +kernel
theorem entry_sumprod_loop : entryFor table "math.sumprod.loop" = some Builtin.«math.sumprod.loop» := entryFor_of_fast (by kernel_rfl)

/-- all but W stands; generators may turn -/
noncomputable def SpRel (W : Addr → Prop) (s s' : Shared) : Prop := ∃ h' tk gs, s' = { s with heap := h', toks := tk, gens := gs } ∧ ((∀ y ∈ s.gens, y.bare = true) → ∀ y ∈ gs, y.bare = true) ∧ ∀ b o, ¬ W b → s.heap.get? b = some o → h'.get? b = some o
theorem SpRel.refl {W : Addr → Prop} (s : Shared) : SpRel W s s := ⟨s.heap, s.toks, s.gens, rfl, fun x => x, fun _ _ _ e => e⟩
theorem SpRel.trans {W : Addr → Prop} {s s' s'' : Shared} (a : SpRel W s s') (b : SpRel W s' s'') : SpRel W s s'' := by
  obtain ⟨h, t, g, rfl, x, k⟩ := a
  obtain ⟨h', t', g', rfl, x', k'⟩ := b
  exact ⟨h', t', g', rfl, fun q => x' (x q), fun b o n e => k' b o n (k b o n e)⟩
theorem SpRel.keep {W : Addr → Prop} {s s' : Shared} (a : SpRel W s s') : ∀ b o, ¬ W b → s.heap.get? b = some o → s'.heap.get? b = some o := by
  obtain ⟨h, t, g, rfl, x, k⟩ := a
  exact k
theorem SpRel.of {W : Addr → Prop} {s : Shared} {h' : Heap} {tk : Nat} (k : ∀ b o, s.heap.get? b = some o → h'.get? b = some o) : SpRel W s { s with heap := h', toks := tk } := ⟨h', tk, s.gens, rfl, fun x => x, fun b o _ e => k b o e⟩

/-- two iterators that give floats of whole numbers, in step -/
structure TwoGens (prog : Program) (w : World) (A : Around) (I J : Addr) (n : Nat) (fx fy : Nat → Int) (W : Addr → Prop) (St : Nat → Shared → Prop) : Prop where
  step : ∀ j s (Q : Option Value → Option Value → Shared → Prop) (E : Value → Shared → Prop), j < n → St j s → (∀ t t' s', St (j + 1) s' → SpRel W s s' → Q (some (.float (Float64.ofInt (fx j)) t)) (some (.float (Float64.ofInt (fy j)) t')) s') →
    wpAny (model prog w) A (pyNext (.ref I)) (fun r s₁ => wpAny (model prog w) A (pyNext (.ref J)) (fun r' s₂ => Q r r' s₂) E s₁) E s
  done : ∀ s (Q : Option Value → Option Value → Shared → Prop) (E : Value → Shared → Prop), St n s → (∀ s', SpRel W s s' → Q none none s') →
    wpAny (model prog w) A (pyNext (.ref I)) (fun r s₁ => wpAny (model prog w) A (pyNext (.ref J)) (fun r' s₂ => Q r r' s₂) E s₁) E s
  push : ∀ j (s : Shared) h' tk, St j s → s.toks ≤ tk → (∀ b o, s.heap.get? b = some o → h'.get? b = some o) → St j { s with heap := h', toks := tk }

/-- the products from j on -/
noncomputable def dotFrom (fx fy : Nat → Int) (j : Nat) : Nat → Int
  | 0 => 0
  | k + 1 => fx j * fy j + dotFrom fx fy (j + 1) k

theorem prod_small {a b : Int} (ha : a.natAbs ≤ 1000) (hb : b.natAbs ≤ 1000) : (a * b).natAbs ≤ 1000000 := by
  rw [Int.natAbs_mul]
  exact Nat.le_trans (Nat.mul_le_mul ha hb) (by decide)

/-- the triple as it is read back -/
abbrev packed3 (T : Int) : UInt64 × UInt64 × UInt64 := ((((Float64.ofInt T).toNat : Int)).toNat.toUInt64, (((Float64.ofInt 0).toNat : Int)).toNat.toUInt64, (((Float64.ofInt 0).toNat : Int)).toNat.toUInt64)
theorem back3 (T : Int) : packed3 T = (Float64.ofInt T, Float64.ofInt 0, Float64.ofInt 0) := by
  unfold packed3
  rw [back, back]
theorem packed_fma {x : UInt64 × UInt64 × UInt64} {T : Int} (h : x = (Float64.ofInt T, Float64.ofInt 0, Float64.ofInt 0)) : [rawInt x.1.toNat, rawInt x.2.1.toNat, rawInt x.2.2.toNat] = packed [Float64.ofInt T, Float64.ofInt 0, Float64.ofInt 0] := by
  rw [h]
  rfl
theorem if_no {α : Type} {c : Prop} [Decidable c] {a b : Sem α} {Q : α → Shared → Prop} (h : ¬ c) (hb : wpAny (model prog w) A b Q E s) : wpAny (model prog w) A (if c then a else b) Q E s := by
  rw [if_neg h]; exact hb
theorem if_yes {α : Type} {c : Prop} [Decidable c] {a b : Sem α} {Q : α → Shared → Prop} (h : c) (hb : wpAny (model prog w) A a Q E s) : wpAny (model prog w) A (if c then a else b) Q E s := by
  rw [if_pos h]; exact hb

theorem sp_loop {R : Result → Shared → Prop} {I J : Addr} {n : Nat} {fx fy : Nat → Int} {W : Addr → Prop} {St : Nat → Shared → Prop} (G : TwoGens prog w A.in1 I J n fx fy W St) (hx : ∀ j, j < n → (fx j).natAbs ≤ 1000) (hy : ∀ j, j < n → (fy j).natAbs ≤ 1000) (hn : n ≤ 5) :
    ∀ (k j : Nat) (s : Shared) (T : Int) (S : Addr) (t0 : Tok), n - j = k → j ≤ n → St j s → (∀ b, W b → @LT.lt Nat _ b S) → T.natAbs ≤ j * 1000000 →
    s.heap.get? S = some { cls := .type "tuple", data := .seq (packed [Float64.ofInt T, Float64.ofInt 0, Float64.ofInt 0]).toArray } →
    (∀ s' t', SpRel W s s' → R (.ok (.ret (.float (Float64.ofInt (T + dotFrom fx fy j k)) t'))) s') →
    codeAny (model prog w) A (.builtin "math.sumprod.loop" ⟨[.ref I, .ref J, .int 0 t0, .bool false, rawInt 0, .bool false, .bool true, .ref S, .bool true], []⟩) R s := by
  intro k
  induction k with
  | zero =>
    intro j s T S t0 hk hj hst hSW hT hS hR
    have hjn : j = n := by omega
    subst hjn
    refine codeAny_builtin entry_sumprod_loop ?_
    rw [Around.under_plainId plain_sumprod_loop _]
    unfold Builtin.«math.sumprod.loop»
    refine wpAny_bind (wpAny_seqItems hS rfl ?_)
    refine wpAny_bind (wpAny_mono (G.done s (fun r r' s' => r = none ∧ r' = none ∧ SpRel W s s') _ hst fun s' m => ⟨rfl, rfl, m⟩) (fun r s₁ h₁ => wpAny_bind (wpAny_holding (wpAny_mono h₁ (fun r' s₂ h₂ => ?_) fun _ _ x => x))) fun _ _ x => x)
    obtain ⟨rfl, rfl, m⟩ := h₂
    refine if_no (by decide) (if_no (by decide) (if_yes (by rfl) ?_))
    refine wpAny_bind (wpAny_rule (if_yes (c := true = true) rfl ?_))
    have hfl : Builtin.Math.tlToFloat (packed3 T) = Float64.ofInt T := by rw [back3]; exact tlToFloat_ofInt (by omega)
    refine wpAny_bind (wpAny_mkFloat ?_)
    rw [hfl]
    refine wpAny_bind (wpAny_holding (AutoFloatOpsIf.add_if ?_))
    rw [if_neg (by rw [ofInt_notInf (small_of (by decide))]; decide), add_ofInt (small_of (by decide)) (small_of (by omega)) (small_of (by omega)), Int.zero_add]
    have q := fun tk tk' => hR { s₂ with toks := tk' } tk (m.trans (SpRel.of fun _ _ e => e))
    have e2 : T + dotFrom fx fy j 0 = T := Int.add_zero T
    rw [e2] at q
    exact wpAny_pure (q _ _)
  | succ k ih =>
    intro j s T S t0 hk hj hst hSW hT hS hR
    have hlt : j < n := by omega
    refine codeAny_builtin entry_sumprod_loop ?_
    rw [Around.under_plainId plain_sumprod_loop _]
    unfold Builtin.«math.sumprod.loop»
    refine wpAny_bind (wpAny_seqItems hS rfl ?_)
    refine wpAny_bind (wpAny_mono (G.step j s (fun r r' s' => ∃ t t', r = some (.float (Float64.ofInt (fx j)) t) ∧ r' = some (.float (Float64.ofInt (fy j)) t') ∧ St (j + 1) s' ∧ SpRel W s s') _ hlt hst fun t t' s' h m => ⟨t, t', rfl, rfl, h, m⟩) (fun r s₁ h₁ => wpAny_bind (wpAny_holding (wpAny_mono h₁ (fun r' s₂ h₂ => ?_) fun _ _ x => x))) fun _ _ x => x)
    obtain ⟨t, t', rfl, rfl, hst', m⟩ := h₂
    refine if_no (by simp) (if_no (by decide) (if_yes (by rfl) ?_))
    refine if_yes (by rfl) ?_
    have bx := hx j hlt
    have by' := hy j hlt
    have bp := prod_small bx by'
    have hT' : (T + fx j * fy j).natAbs ≤ (j + 1) * 1000000 := by
      rw [Nat.succ_mul]
      exact Nat.le_trans (Int.natAbs_add_le _ _) (Nat.add_le_add hT bp)
    have hT5 : ∀ i, i ≤ 5 → i * 1000000 ≤ 5000000 := fun i hi => Nat.mul_le_mul_right 1000000 hi
    have hTs := Nat.le_trans hT (hT5 j (Nat.le_trans hj hn))
    have hTs' := Nat.le_trans hT' (hT5 (j + 1) (Nat.le_trans hlt hn))
    have hfma : Builtin.Math.tlFma (Float64.ofInt (fx j)) (Float64.ofInt (fy j)) (packed3 T) = (Float64.ofInt (T + fx j * fy j), Float64.ofInt 0, Float64.ofInt 0) := by
      rw [back3]; exact tlFma_ofInt (Nat.le_trans bx (by decide)) (Nat.le_trans by' (by decide)) (Nat.le_trans hTs (by decide)) (Nat.le_trans bp (by decide))
    refine if_yes (c := Float64.isFinite (Builtin.Math.tlFma (Float64.ofInt (fx j)) (Float64.ofInt (fy j)) (packed3 T)).1 = true) (by rw [hfma]; exact ofInt_finite (small_of (Nat.le_trans hTs' (by decide)))) ?_
    refine wpAny_bind (m := newTuple _) (wpAny_newObj_type ?_ (by show 3 ≤ sizeLine; rw [sizeLine_eq]; decide))
    have hS2 := m.keep S _ (fun q => Nat.lt_irrefl _ (hSW S q)) hS
    have hlt2 : @LT.lt Nat _ S s₂.heap.objs.size := Heap.lt_size hS2
    refine wpAny_pure ⟨plainId_quiet plain_sumprod_loop _, ih (j + 1) _ (T + fx j * fy j) _ _ (by omega) (by omega) (G.push _ _ _ _ hst' (Nat.le_refl _) fun b o e => Heap.get?_push_of_some _ e) (fun b hb => Nat.lt_trans (hSW b hb) hlt2) hT' (by rw [← packed_fma hfma]; exact Heap.get?_push_size _ rfl) fun s' t'' r => ?_⟩
    have e2 : T + fx j * fy j + dotFrom fx fy (j + 1) k = T + dotFrom fx fy j (k + 1) := Int.add_assoc _ _ _
    have q := hR s' t'' (m.trans ((SpRel.of (tk := s₂.toks) fun b o e => Heap.get?_push_of_some _ e).trans r))
    rw [← e2] at q
    exact q

theorem packed_nought : [rawInt (Float64.zero false).toNat, rawInt (Float64.zero false).toNat, rawInt (Float64.zero false).toNat] = packed [Float64.ofInt 0, Float64.ofInt 0, Float64.ofInt 0] := by
  rw [zero_is]
  rfl

theorem sp_first {R : Result → Shared → Prop} {I J : Addr} {n : Nat} {fx fy : Nat → Int} {W : Addr → Prop} {St : Nat → Shared → Prop} (G : TwoGens prog w A.in1 I J n fx fy W St) (hx : ∀ j, j < n → (fx j).natAbs ≤ 1000) (hy : ∀ j, j < n → (fy j).natAbs ≤ 1000) (hn : n ≤ 5) (hn0 : 0 < n)
    {S : Addr} {t0 : Tok} (hst : St 0 s) (hSW : ∀ b, W b → @LT.lt Nat _ b S) (hS : s.heap.get? S = some { cls := .type "tuple", data := .seq (packed [Float64.ofInt 0, Float64.ofInt 0, Float64.ofInt 0]).toArray })
    (hR : ∀ s' t', SpRel W s s' → R (.ok (.ret (.float (Float64.ofInt (dotFrom fx fy 0 n)) t'))) s') :
    codeAny (model prog w) A (.builtin "math.sumprod.loop" ⟨[.ref I, .ref J, .int 0 t0, .bool true, rawInt 0, .bool false, .bool true, .ref S, .bool false], []⟩) R s := by
  refine codeAny_builtin entry_sumprod_loop ?_
  rw [Around.under_plainId plain_sumprod_loop _]
  unfold Builtin.«math.sumprod.loop»
  refine wpAny_bind (wpAny_seqItems hS rfl ?_)
  refine wpAny_bind (wpAny_mono (G.step 0 s (fun r r' s' => ∃ t t', r = some (.float (Float64.ofInt (fx 0)) t) ∧ r' = some (.float (Float64.ofInt (fy 0)) t') ∧ St 1 s' ∧ SpRel W s s') _ hn0 hst fun t t' s' h m => ⟨t, t', rfl, rfl, h, m⟩) (fun r s₁ h₁ => wpAny_bind (wpAny_holding (wpAny_mono h₁ (fun r' s₂ h₂ => ?_) fun _ _ x => x))) fun _ _ x => x)
  obtain ⟨t, t', rfl, rfl, hst', m⟩ := h₂
  refine if_no (by simp) (if_yes (by rfl) ?_)
  refine wpAny_bind (m := rule _) (wpAny_rule (if_no (by decide) (if_yes (by rfl) ?_)))
  have bx := hx 0 hn0
  have by' := hy 0 hn0
  have bp := prod_small bx by'
  have hfma : Builtin.Math.tlFma (Float64.ofInt (fx 0)) (Float64.ofInt (fy 0)) (packed3 0) = (Float64.ofInt (0 + fx 0 * fy 0), Float64.ofInt 0, Float64.ofInt 0) := by
    rw [back3]; exact tlFma_ofInt (by omega) (by omega) (by decide) (by omega)
  refine if_yes (c := Float64.isFinite (Builtin.Math.tlFma (Float64.ofInt (fx 0)) (Float64.ofInt (fy 0)) (packed3 0)).1 = true) (by rw [hfma]; exact ofInt_finite (small_of (by omega))) ?_
  refine wpAny_bind (m := newTuple _) (wpAny_newObj_type ?_ (by show 3 ≤ sizeLine; rw [sizeLine_eq]; decide))
  have hS2 := m.keep S _ (fun q => Nat.lt_irrefl _ (hSW S q)) hS
  have hlt2 : @LT.lt Nat _ S s₂.heap.objs.size := Heap.lt_size hS2
  refine wpAny_pure ⟨plainId_quiet plain_sumprod_loop _, sp_loop G hx hy hn (n - 1) 1 _ (0 + fx 0 * fy 0) _ _ rfl hn0 (G.push _ _ _ _ hst' (Nat.le_refl _) fun b o e => Heap.get?_push_of_some _ e) (fun b hb => Nat.lt_trans (hSW b hb) hlt2) (by omega) (by rw [← packed_fma hfma]; exact Heap.get?_push_size _ rfl) fun s' t'' r => ?_⟩
  have e2 : 0 + fx 0 * fy 0 + dotFrom fx fy 1 (n - 1) = dotFrom fx fy 0 n := by
    obtain ⟨k, rfl⟩ : ∃ k, n = k + 1 := ⟨n - 1, by omega⟩
    show _ = fx 0 * fy 0 + dotFrom fx fy 1 k
    rw [Nat.add_sub_cancel]
    omega
  have q := hR s' t'' (m.trans ((SpRel.of (tk := s₂.toks) fun b o e => Heap.get?_push_of_some _ e).trans r))
  rw [← e2] at q
  exact q

theorem call_sumprod {I J : Addr} {g g' : Nat} {n : Nat} {fx fy : Nat → Int} {W : Addr → Prop} {St : Nat → Shared → Prop} (G : TwoGens prog w A.in1 I J n fx fy W St) (hx : ∀ j, j < n → (fx j).natAbs ≤ 1000) (hy : ∀ j, j < n → (fy j).natAbs ≤ 1000) (hn : n ≤ 5) (hn0 : 0 < n)
    (hI : s.heap.IsGen I g) (hJ : s.heap.IsGen J g') (hst : St 0 s) (hW : ∀ b, W b → @LT.lt Nat _ b s.heap.objs.size) (hQ : ∀ s' t', SpRel W s s' → Q (.float (Float64.ofInt (dotFrom fx fy 0 n)) t') s') :
    wpAny (model prog w) A (call (.builtin "math.sumprod") [.ref I, .ref J]) Q E s := by
  refine call_function_tree kind_sumprod plain_sumprod entry_sumprod (args_sumprod _ _) ?_
  unfold Builtin.«math.sumprod»
  refine wpAny_bind (m := Builtin.Math.mathSome "sumprod" 2 2 _) (wpAny_pure ?_)
  dsimp only
  refine wpAny_bind (wpAny_pyIter_gen hI (wpAny_bind (wpAny_holding (wpAny_pyIter_gen hJ ?_))))
  refine wpAny_bind (wpAny_mkInt ?_)
  refine wpAny_bind (m := newTuple _) (wpAny_newObj_type ?_ (by show 3 ≤ sizeLine; rw [sizeLine_eq]; decide))
  rw [packed_nought]
  refine wpAny_pure ⟨plainId_quiet plain_sumprod_loop _, sp_first G hx hy hn hn0 (G.push 0 s _ (s.toks + 1) hst (Nat.le_succ _) fun b o e => Heap.get?_push_of_some _ e) hW (Heap.get?_push_size _ rfl) fun s' t' r => ?_⟩
  exact hQ s' t' ((SpRel.of fun b o e => Heap.get?_push_of_some _ e).trans r)
end Mine
end

section
namespace Mine
open PySem PySem.Calls PyProof.Rows PySem.W

variable {g : Option (Addr × Addr)} {l : Nat} {X : Addr → Prop} {own : Option Str} {gv : Gv} {prog : Program} {w : World} {A : Around} {E : Value → Shared → Prop} {s : Shared} {env : Env} {sc : Sc} {ρ : Ro}

/-- the module of the built-ins, as the main module names it -/
noncomputable def BltOk (gv : Gv) : Prop := ∃ bm ob, gv.mn "__builtins__" = some (.ref bm) ∧ bm ≠ builtinsNs ∧ gv.ob bm ob ∧ ob.cls = .type "module" ∧ ob.dict = some builtinsNs ∧ ob.data = .plain

/-- a generator that stands ready -/
structure GenAtR (prog : Program) (w : World) (A : Around) (a C I : Addr) (gi : Nat) (old : List Addr) (n : Nat) (fz : Nat → Int) (s₀ s₅ : Shared) : Prop where
  walks : WalksS prog w A.in4 a (a :: C :: I :: old) [C, I] (GenOnlyQ gi) n (fun j y => ∃ t, j < n ∧ y = .float (Float64.ofInt (fz j)) t) (GenAt prog w A.in4 a gi C (I :: old) [I] (fun _ => true) n fun j y => ∃ t, y = .float (Float64.ofInt (fz j)) t)
  at0 : GenAt prog w A.in4 a gi C (I :: old) [I] (fun _ => true) n (fun j y => ∃ t, y = .float (Float64.ofInt (fz j)) t) 0 s₅
  isGen : s₅.heap.IsGen a gi
  oldEx : ∀ b ∈ old, ∃ o, s₀.heap.get? b = some o
  oldNot : ∀ b ∈ old, ∀ c P ps, CodeAt s₀.heap c P ps → b ≠ P
  newI : s₀.heap.objs.size ≤ I
  ltI : @LT.lt Nat _ I C
  ltC : @LT.lt Nat _ C a
  lta : @LT.lt Nat _ a s₅.heap.objs.size
  gens : gi < s₅.gens.size
  gensEq : gi = s₀.gens.size ∧ ∃ x, s₅.gens = s₀.gens.push x
  csOld : cStatics ∈ old
  csLt : @LT.lt Nat _ cStatics s₀.heap.objs.size
  oldIn : ∀ b ∈ old, (∃ vs, s₀.heap.IsList b vs) ∨ (∃ v, s₀.heap.IsCell b v) ∨ b = cStatics
  nsC : ∃ m, s₅.heap.Ns C m
  itI : ∃ ax, s₅.heap.IsListIter I ax 0

theorem genGo_len {j : Int} : ∀ {xs : List AV} {zs : List Int}, genGo j xs = some zs → zs.length = xs.length
  | [], zs, h => by cases h; rfl
  | x :: r, zs, h => by
    cases x with
    | int k lo hi =>
      simp only [genGo] at h
      split at h
      · split at h
        · rename_i t ht
          cases h
          simp [genGo_len ht]
        · cases h
      · cases h
    | _ => simp [genGo] at h
theorem genGo_at {j : Int} : ∀ {xs : List AV} {zs : List Int}, genGo j xs = some zs → ∀ (i : Nat) (x : AV), xs[i]? = some x → ∃ k lo hi, x = .int k lo hi ∧ absB lo hi ≤ 500 ∧ zs[i]? = some (k - j)
  | [], _, _, i, x, e => by simp at e
  | y :: r, zs, h, i, x, e => by
    cases y with
    | int k lo hi =>
      simp only [genGo] at h
      split at h
      · rename_i hb
        split at h
        · rename_i t ht
          cases h
          cases i with
          | zero => simp at e; subst e; exact ⟨_, _, _, rfl, hb, rfl⟩
          | succ i => exact genGo_at ht i x (by simpa using e)
        · cases h
      · cases h
    | _ => simp [genGo] at h

theorem passing_all (n : Nat) : passing (fun _ => true) n 0 = List.range n := by
  unfold passing
  rw [List.drop_zero]
  exact List.filter_eq_self.mpr fun _ _ => rfl

theorem WalksS.imp' {I : Addr} {fp wr : List Addr} {G : Array GenState → Array GenState → Prop} {n : Nat} {P P' : Nat → Value → Prop} {St : Nat → Shared → Prop} (W : WalksS prog w A I fp wr G n P St) (h : ∀ i v, i < n → P i v → P' i v) : WalksS prog w A I fp wr G n P' St where
  sub := W.sub
  grefl := W.grefl
  gtrans := W.gtrans
  frame := W.frame
  item := fun i s Q E hi st hQ => W.item i s Q E hi st fun v s' hP st' m => hQ v s' (h i v hi hP) st' m
  done := W.done
  self := W.self

/-- what such a generator expression fulfils -/
structure GenC (own : Option Str) (sc : Sc) (ρ : Ro) (u b y : Str) (scope : Scope) : Prop where
  c1 : scOk scope sc ρ = true
  c3 : ¬ own = some y
  c4 : ¬ own = some b
  c5 : ¬ u = ("__debug__" : Str)
  c6 : ¬ b = ("__classdict__" : Str)
  c7 : scope.names.lookup u = some .local
  c8 : scope.names.lookup b = some .free
  c9 : scope.names.lookup (".0" : Str) = some .local
  c10 : ∀ p ∈ scope.names, ¬ p.2 = .cell
  c11 : scope.isCoroutine = false
theorem genV_inv {e : Expr} {zs : List Int} (h : genV own sc ρ e = some zs) : ∃ u b y xs j lj hj up bp p1 px py scope pos, e = .GeneratorExp (.BinOp (.Name u up) .Sub (.Name b bp) p1) [⟨.Name u px, .Name y py, [], 0⟩] scope pos ∧
    GenC own sc ρ u b y scope ∧ ρ.lookup y = some (.list xs) ∧ ρ.lookup b = some (.fx j lj hj) ∧ absB lj hj ≤ 500 ∧ genGo j xs = some zs := by
  unfold genV at h
  split at h
  · split at h
    · rename_i h1
      obtain ⟨up, bp, p1, rfl⟩ := asDiff_inv h1
      split at h
      · rename_i h2
        obtain ⟨px, py, rfl⟩ := asGen_inv h2
        unfold genD at h
        split at h
        · rename_i hc
          simp only [genOk, Bool.and_eq_true, Bool.not_eq_true', beq_eq_false_iff_ne, ne_eq, beq_iff_eq, List.all_eq_true] at hc
          obtain ⟨⟨⟨⟨⟨⟨⟨⟨⟨⟨c1, c2⟩, c3⟩, c4⟩, c5⟩, c6⟩, c7⟩, c8⟩, c9⟩, c10⟩, c11⟩ := hc
          subst c2
          split at h
          · rename_i hy
            split at h
            · rename_i hb
              split at h
              · rename_i hjb
                exact ⟨_, _, _, _, _, _, _, _, _, _, _, _, _, _, rfl, ⟨c1, c3, c4, c5, c6, c7, c8, c9, c10, c11⟩, asList_inv hy, asFx_inv hb, hjb, h⟩
              · cases h
            · cases h
          · cases h
        · cases h
      · cases h
    · cases h
  · cases h

/-- a generator expression of xi - xbar is made -/
theorem gen_make {c P : Addr} {e : Expr} {zs : List Int} (hB : BltOk gv) (hobT : ∀ a o, gv.ob a o → ∀ vs, o ≠ { cls := .none, data := .fields vs }) (he : genV own sc ρ e = some zs) (hE : EnvOk sc env) (hcode : env.code = .ref c) (hg : g = some (c, P)) {d : Nat} (hC : Cx d A) (G : Gd gv s.heap) (L : Loc l X own env s.heap ρ) (O : Old X s.heap)
    (T : TabOk g s.heap) {Q : Value → Shared → Prop}
    (hQ : ∀ a C I gi old s₅, GenAtR prog w A a C I gi old zs.length (fun j => zs.getD j 0) s s₅ → GKeeps g s s₅ → (∀ j, j < zs.length → (zs.getD j 0).natAbs ≤ 1000) → Q (.ref a) s₅) :
    wpAny (model prog w) A (eval e env) Q E s := by
  obtain ⟨u, b, y, xs, j, lj, hj, up, bp, p1, px, py, scope, pos, rfl, ⟨c1, c3, c4, c5, c6, c7, c8, c9, c10, c11⟩, hy, hb, hjb, he⟩ := genV_inv he
  obtain ⟨vy, Hy, ry⟩ := L.var y _ hy c3
  obtain ⟨vb, Hb, rb⟩ := L.var b _ hb c4
  obtain ⟨ax, vs, rfl, hl, hx, hn, hv⟩ := ry.inv
  obtain ⟨tb, rfl, b1, b2⟩ := rb.inv
  have bj := absB_le b1 b2
  have hlen := genGo_len he
  obtain ⟨hkind, hlook, hfree⟩ := scOk_inv c1
  have hbcell := (hfree b (lookup_mem c8)).1
  have hkb := hE.names b _ (.inr (.inl rfl)) hbcell
  obtain ⟨cb, hcb, hIb⟩ : ∃ cb, env.cells.lookup b = some cb ∧ s.heap.IsCell cb (some (.float (Float64.ofInt j) tb)) := by
    obtain ⟨_, ⟨q, _⟩ | ⟨_, cb, q1, q2⟩ | ⟨q, _⟩⟩ := Hb
    · rw [hkb] at q; cases q
    · exact ⟨cb, q1, q2⟩
    · rw [hkb] at q; cases q
  have hclos : closureFor scope env = pure (clOf env scope.names []) := closure_is fun n hn => by
    obtain ⟨hcell, av, hav⟩ := hfree n hn
    have hk := hE.names n _ (.inr (.inl rfl)) hcell
    have key : ∀ v, Has env s.heap n v → ∃ c, env.cells.lookup n = some c := fun v H => by
      obtain ⟨_, ⟨q, _⟩ | ⟨_, c, q, _⟩ | ⟨q, _⟩⟩ := H
      · rw [hk] at q; cases q
      · exact ⟨c, q⟩
      · rw [hk] at q; cases q
    by_cases ho : own = some n
    · obtain ⟨a, _, _, _, H, _⟩ := L.own n av hav ho
      exact key _ H
    · obtain ⟨v, H, _⟩ := L.var n av hav ho
      exact key v H
  have hclb : (clOf env scope.names []).lookup b = some cb := by
    rw [clOf_lookup, if_pos (lookup_mem c8), hcb]
    rfl
  obtain ⟨ps, hT⟩ := T c P hg
  have hlt : ax < s.heap.objs.size := by obtain ⟨o, ho, _⟩ := hl; exact Heap.lt_size ho
  have hltN : @LT.lt Nat _ ax s.heap.objs.size := hlt
  have hlbN : @LT.lt Nat _ cb s.heap.objs.size := by obtain ⟨o, ho, _⟩ := hIb; exact Heap.lt_size ho
  refine wpAny_GeneratorExp_make (by simpa using c11) hclos (fun z hz q => by have := c10 z hz; rw [q] at this; exact absurd rfl this) c9 hkind (by have := hC.depth; have e : recursionLimit = 1000 := rfl; omega) ?_ (fun _ => rfl)
  refine name_has hE.kind Hy (wpAny_pyIter_list hl ⟨G.1.push _, ?_⟩)
  have hvz : vs.toArray.size = zs.length := by simp [hn, hlen]
  have hsmall : ∀ i, i < zs.length → (zs.getD i 0).natAbs ≤ 1000 := fun i hi => by
    have hxi : xs[i]? = some (xs[i]'(by omega)) := List.getElem?_eq_getElem (by omega)
    obtain ⟨k, lo, hi', e1, e2, e3⟩ := genGo_at he i _ hxi
    have hvi : vs[i]? = some (vs[i]'(by omega)) := List.getElem?_eq_getElem (by omega)
    have r := hv i _ _ hvi hxi
    rw [e1] at r
    rw [List.getD_eq_getElem?_getD, e3]
    obtain ⟨_, _, r1, r2⟩ := r.inv
    rw [Option.getD_some]
    exact sub_abs5 (absB_le r1 r2) e2 bj hjb
  generalize hH2 : s.heap.push { cls := .type "list_iterator", data := .fields #[.ref ax, .int 0 0] } = H2
  have hsz2 : H2.objs.size = s.heap.objs.size + 1 := by rw [← hH2]; exact Heap.size_push ..
  have k2 : ∀ b o, s.heap.get? b = some o → H2.get? b = some o := fun b o e => hH2 ▸ Heap.get?_push_of_some _ e
  have hI2 : H2.IsListIter s.heap.objs.size ax 0 := by rw [← hH2]; exact ⟨_, Heap.get?_push_size _ rfl, rfl, rfl⟩
  have T2 : CodeAt H2 c P ps := hT.at (fun o e => k2 _ o e) fun o e => k2 _ o e
  have hPlt : P < s.heap.objs.size := Heap.lt_size hT.2.2
  have fin : ∀ (code : Value) (h₃ : Heap) (tk₃ : Nat) (more : Array Value), Heap.ExtBut P H2 h₃ → H2.objs.size ≤ h₃.objs.size → CodeAt h₃ c P (ps ++ more) →
      wpAny (model prog w) A (builtinsFor env.globals env.builtins) (fun bi s₄ => ∀ h', h'.Ns s₄.heap.objs.size (fun y => if y = ".0" then some (.ref s.heap.objs.size) else none) → Heap.SameBut s₄.heap.objs.size (s₄.heap.push { cls := .type "frame", data := .dict #[] }) h' →
        Q (.ref h'.objs.size) { s₄ with
          gens := s₄.gens.push (.fresh (.compStart (.GeneratorExp (.BinOp (.Name u up) .Sub (.Name b bp) p1) [⟨.Name u px, .Name y py, [], 0⟩] scope pos) 0 (.ref s.heap.objs.size) .none (genEnv scope (clOf env scope.names []) s₄.heap.objs.size code bi env))),
          toks := s₄.toks + 1 + 1 + 1,
          heap := h'.push { cls := .type "generator", data := .fields #[.int s₄.gens.size 0, .str "<genexpr>" (s₄.toks + 1), .str (env.qual ++ "<genexpr>") (s₄.toks + 1 + 1)] } }) E { s with heap := h₃, toks := tk₃ } := by
    intro code h₃ tk₃ more hx3 hsz3 hT3
    have k3 : ∀ b o, b ≠ P → s.heap.get? b = some o → h₃.get? b = some o := fun b o n e => hx3 b o n (k2 b o e)
    obtain ⟨hlim, hob, mg, mb, g1, g2, g3, g4⟩ := G
    obtain ⟨bm, ob, m1, m2, m3, m4, m5, m6⟩ := hB
    have hg1 : h₃.Ns mainGlobals mg := g1.at' fun o e => k3 _ o (fun q => hT.not_ns (q ▸ g1)) e
    have hbm : h₃.get? bm = some ob := k3 _ _ (fun q => by
      subst q
      have := hob _ _ m3
      rw [hT.2.2] at this
      exact hobT _ _ m3 ps (Option.some.inj this).symm) (hob _ _ m3)
    refine wpAny_builtinsFor (by rw [hE.glob]; exact hg1) (g4 _ _ m1) m2 hbm m4 m5 m6 ?_
    intro h' hn' hs'
    have hs3 : H2.objs.size ≤ h₃.objs.size := hsz3
    have hsz' : h'.objs.size = h₃.objs.size + 1 := by rw [hs'.1, Heap.size_push]
    have k' : ∀ b o, h₃.get? b = some o → h'.get? b = some o := fun b o e => hs'.extBut b o (Nat.ne_of_lt (Heap.lt_size e)) (Heap.get?_push_of_some _ e)
    generalize hH5 : h'.push { cls := .type "generator", data := .fields #[.int s.gens.size 0, .str "<genexpr>" (tk₃ + 1), .str (env.qual ++ "<genexpr>") (tk₃ + 1 + 1)] } = H5
    have hsz5 : H5.objs.size = h'.objs.size + 1 := by rw [← hH5]; exact Heap.size_push ..
    have k5 : ∀ b o, h₃.get? b = some o → H5.get? b = some o := fun b o e => hH5 ▸ Heap.get?_push_of_some _ (k' b o e)
    have kS : ∀ b o, b ≠ P → s.heap.get? b = some o → H5.get? b = some o := fun b o n e => k5 b o (k3 b o n e)
    have hIlt : @LT.lt Nat _ s.heap.objs.size h₃.objs.size := by rw [hsz2] at hs3; exact hs3
    have nP : ∀ b : Nat, s.heap.objs.size ≤ b → b ≠ P := fun b hb q => by subst q; exact Nat.lt_irrefl _ (Nat.lt_of_lt_of_le hPlt hb)
    have hgen : H5.IsGen h'.objs.size s.gens.size := by rw [← hH5]; exact ⟨_, _, _, Heap.get?_push_size _ rfl, rfl, rfl, rfl⟩
    have hns5 : H5.Ns h₃.objs.size (fun y => if y = ".0" then some (.ref s.heap.objs.size) else none) := by rw [← hH5]; exact hn'.push _
    have hlim5 : H5.NoLimit := by
      obtain ⟨mc, q1, q2⟩ := hlim
      exact ⟨mc, q1.at' fun o e => kS _ o (fun q => hT.not_ns (q ▸ q1)) e, q2⟩
    have hIt5 : H5.IsListIter s.heap.objs.size ax 0 := by
      obtain ⟨o, e, r⟩ := hI2
      exact ⟨o, k5 _ _ (hx3 _ _ (nP _ (Nat.le_refl _)) e), r⟩
    have hl5 : H5.IsList ax vs.toArray := isList_at hl fun o e => kS _ o (fun q => hT.not_list (q ▸ hl)) e
    have hI5 : H5.IsCell cb (some (.float (Float64.ofInt j) tb)) := by
      obtain ⟨o, e, r⟩ := hIb
      exact ⟨o, kS _ o (fun q => by subst q; exact hT.not_cell ⟨o, e, r⟩) e, r⟩
    have hcs : @LT.lt Nat _ cStatics s.heap.objs.size := let ⟨_, hn, _⟩ := hlim; hn.lt
    have hroom4 : A.in4.depth < recursionLimit := by have := hC.depth; have e : recursionLimit = 1000 := rfl; show A.depth < _; omega
    have hcsN : @LT.lt Nat _ cStatics h₃.objs.size := Nat.lt_trans hcs hIlt
    have haC : h'.objs.size ≠ h₃.objs.size := by rw [hsz']; exact Nat.succ_ne_self _
    have W := WalksS.genexpQ (prog := prog) (w := w) (A := A.in4) hC.handled h'.objs.size s.gens.size h₃.objs.size [s.heap.objs.size, ax, cb, cStatics] [s.heap.objs.size] (fun _ => true) zs.length (fun i y => ∃ t, y = .float (Float64.ofInt (zs.getD i 0)) t) haC
      (fun hm => by
        simp only [List.mem_cons, List.not_mem_nil, or_false] at hm
        rw [hsz'] at hm
        rcases hm with q | q | q | q <;> (have q' : (_ : Nat) = _ := q; omega))
      (fun b hb => by simp only [List.mem_singleton] at hb; subst hb; simp) hroom4 (by simp) (Nat.ne_of_lt (Nat.lt_trans hcs hIlt)) (by
        simp only [List.mem_singleton]
        exact Nat.ne_of_lt hcs)
    rw [passing_all, List.length_range] at W
    have W' := WalksS.imp' W (P' := fun j y => ∃ t, j < zs.length ∧ y = .float (Float64.ofInt (zs.getD j 0)) t) fun i v hi hP => by
      obtain ⟨k, hk, t, rfl⟩ := hP
      rw [List.getElem?_range hi] at hk
      cases hk
      exact ⟨t, hi, rfl⟩
    have W0 : ∀ A' : Around, A'.handled = none → Walks prog w A' s.heap.objs.size [s.heap.objs.size, ax, cb, cStatics] [s.heap.objs.size] zs.length (fun i v => vs.toArray[i]? = some v) (fun i h => h.IsListIter s.heap.objs.size ax i ∧ h.IsList ax vs.toArray) := fun A' hA => by
      have := (Walks.list (prog := prog) (w := w) hA s.heap.objs.size ax (Nat.ne_of_lt hlt) vs.toArray).mono_fp (fp' := [s.heap.objs.size, ax, cb, cStatics]) fun b hb => by
        simp only [List.mem_cons, List.not_mem_nil, or_false] at hb ⊢
        rcases hb with q | q
        · exact .inl q
        · exact .inr (.inl q)
      rw [hvz] at this
      exact this
    have at0 := GenAt.fresh (A := A.in4) (cenv := genEnv scope (clOf env scope.names []) h₃.objs.size code builtinsNs env) (elt := .BinOp (.Name u up) .Sub (.Name b bp) p1) (iter := .Name y py) (x := u) (px := px) (ifs := []) (scope := scope) (pos := pos) (a := h'.objs.size) (g := s.gens.size)
      (s := { s with heap := H5, toks := tk₃ + 1 + 1 + 1, gens := s.gens.push (.fresh (.compStart (.GeneratorExp (.BinOp (.Name u up) .Sub (.Name b bp) p1) [⟨.Name u px, .Name y py, [], 0⟩] scope pos) 0 (.ref s.heap.objs.size) .none (genEnv scope (clOf env scope.names []) h₃.objs.size code builtinsNs env))) })
      (m := fun y => if y = ".0" then some (.ref s.heap.objs.size) else none) hC.handled W0 (fun _ => true) (fun i y => ∃ t, y = .float (Float64.ofInt (zs.getD i 0)) t) c7 (by simp [genEnv, hkind]) (by show scope.isCoroutine = false; simpa using c11)
      (fun hm => by
        change h₃.objs.size ∈ [s.heap.objs.size, ax, cb, cStatics] at hm
        simp only [List.mem_cons, List.not_mem_nil, or_false] at hm
        rcases hm with q | q | q | q
        · exact Nat.lt_irrefl _ (q ▸ hIlt)
        · exact Nat.lt_irrefl _ (Nat.lt_trans (q ▸ hltN) hIlt)
        · exact Nat.lt_irrefl _ (Nat.lt_trans (q ▸ hlbN) hIlt)
        · exact Nat.lt_irrefl _ (Nat.lt_trans (q ▸ hcs) hIlt))
      ⟨fun A' E' i v s₂ m₂ hA _ _ _ _ => wpAny_tests_nil ⟨rfl, Keeps.refl _⟩, fun A' E' i v s₂ m₂ hA hP _ hns hmx hkp => ?_⟩ hgen (Array.getElem?_push_size ..) ⟨hIt5, hl5⟩ hns5 hlim5
    · have hTT : CodeAt H5 c P (ps ++ more) := hT3.at (fun o e => k5 _ o e) fun o e => k5 _ o e
      refine hQ h'.objs.size h₃.objs.size s.heap.objs.size s.gens.size [ax, cb, cStatics] _ ⟨W', at0, hgen, fun b hb => ?_, fun b hb c' P' ps' hc' => ?_, Nat.le_refl _, hIlt, ?_, ?_, ?_, ⟨rfl, _, rfl⟩, by simp, hcs, fun b hb => ?_, ⟨_, hns5⟩, ⟨_, hIt5⟩⟩ ⟨H5, tk₃ + 1 + 1 + 1, _, rfl, fun q => ?_, fun hb y hy => ?_, fun b o hn e => kS b o (fun q => hn ⟨c, q ▸ hg⟩) e, fun c' P' hg' ps' hc' => ?_⟩ hsmall
      · simp only [List.mem_cons, List.not_mem_nil, or_false] at hb
        rcases hb with rfl | rfl | rfl
        · obtain ⟨o, e, _⟩ := hl; exact ⟨o, e⟩
        · obtain ⟨o, e, _⟩ := hIb; exact ⟨o, e⟩
        · obtain ⟨_, ⟨o, _, _, e, _⟩, _⟩ := hlim; exact ⟨o, e⟩
      · simp only [List.mem_cons, List.not_mem_nil, or_false] at hb
        intro q
        subst q
        rcases hb with rfl | rfl | rfl
        · exact hc'.not_list hl
        · exact hc'.not_cell hIb
        · obtain ⟨_, q1, _⟩ := hlim; exact hc'.not_ns q1
      · rw [hsz']; exact Nat.lt_succ_self _
      · show _ < H5.objs.size
        rw [hsz5]; exact Nat.lt_succ_self _
      · simp
      · simp only [List.mem_cons, List.not_mem_nil, or_false] at hb
        rcases hb with rfl | rfl | rfl
        · exact .inl ⟨_, hl⟩
        · exact .inr (.inl ⟨_, hIb⟩)
        · exact .inr (.inr rfl)
      · rw [hg] at q; cases q
      · rcases Array.mem_push.mp hy with q | rfl
        · exact hb y q
        · rfl
      · rw [hg] at hg'
        cases hg'
        have e1 : ps' = ps := by
          have a1 := hc'.2.2
          rw [hT.2.2] at a1
          injection a1 with a1
          injection a1 with _ _ a2
          injection a2 with a2
          exact a2.symm
        subst e1
        exact ⟨more, hTT⟩
    · have hPi : vs[i]? = some v := by simpa using hP
      obtain ⟨hi, _⟩ := List.getElem?_eq_some_iff.mp hPi
      have hxi : xs[i]? = some (xs[i]'(by omega)) := List.getElem?_eq_getElem (by omega)
      obtain ⟨k, lo, hi', e1, e2, e3⟩ := genGo_at he i _ hxi
      have r := hv i v _ hPi hxi
      rw [e1] at r
      have hcell2 : s₂.heap.IsCell cb (some (.float (Float64.ofInt j) tb)) := by
        obtain ⟨o, e, r⟩ := hI5
        exact ⟨o, hkp cb (by simp) (by
          simp only [List.mem_singleton]
          exact Nat.ne_of_lt hlbN) o e, r⟩
      obtain ⟨_, rfl, r1, r2⟩ := r.inv
      · have bk := absB_le r1 r2
        have hu : (u == ("__debug__" : Str)) = false := by simpa using c5
        have hbb := Hb.1
        refine wpAny_BinOp (name_has (env := genEnv scope (clOf env scope.names []) h₃.objs.size code builtinsNs env) hkind ⟨hu, .inl ⟨c7, m₂, hns, hmx⟩⟩ (name_has (env := genEnv scope (clOf env scope.names []) h₃.objs.size code builtinsNs env) hkind ⟨hbb, .inr (.inr ⟨c8, by simpa using c6, cb, hclb, hcell2⟩)⟩ ?_))
        refine AutoFloatOpsIf.sub_if ?_
        obtain ⟨g1, g2, g3⟩ := sub_abs bk (Int.le_trans e2 (by decide)) bj (Int.le_trans hjb (by decide))
        rw [if_neg (by rw [ofInt_notInf (small_of g1)]; decide)]
        rw [sub_ofInt (small_of g1) (small_of g2) (small_of g3)]
        refine ⟨⟨s₂.toks, ?_⟩, Keeps.tok ..⟩
        rw [List.getD_eq_getElem?_getD, e3]
        rfl
  by_cases hf : codeAmong pos ps.toList = none
  · refine wpAny_genexprCodeX hcode T2.1 T2.2 hf fun c' h' tk hx3 hge hlt3 hcode3 _ htab3 _ => ?_
    exact fin _ h' tk _ hx3 (Nat.le_trans hge (Nat.le_of_lt hlt3)) ⟨hcode3, htab3⟩
  · obtain ⟨c', hf'⟩ := Option.ne_none_iff_exists'.mp hf
    refine wpAny_genexprCode_hit hcode T2.1 hf' ?_
    exact fin _ H2 s.toks #[] (Heap.ExtBut.refl _ _) (Nat.le_refl _) (by rw [Array.append_empty]; exact T2)
end Mine
end

section
namespace Mine
open PySem PySem.Calls PyProof.Rows PySem.W

variable {g : Option (Addr × Addr)} {l : Nat} {X : Addr → Prop} {own : Option Str} {gv : Gv} {prog : Program} {w : World} {A : Around} {E : Value → Shared → Prop} {s : Shared} {env : Env} {sc : Sc} {ρ : Ro}

theorem GenAt.other {a C : Addr} {gi : Nat} {fp wr : List Addr} {pz : Nat → Bool} {n : Nat} {F : Nat → Value → Prop} {j : Nat} {s s' : Shared} (x : GenAt prog w A a gi C fp wr pz n F j s) (hcs : cStatics ∈ fp) (k : ∀ b ∈ a :: C :: fp, ∀ o, s.heap.get? b = some o → s'.heap.get? b = some o)
    (hg : s'.gens[gi]? = s.gens[gi]?) : GenAt prog w A a gi C fp wr pz n F j s' := by
  obtain ⟨⟨o, nm, qn, ho, r⟩, ⟨mc, h1, h2⟩, gs, hgs, hgo⟩ := x
  exact ⟨⟨o, nm, qn, k a (List.mem_cons_self ..) o ho, r⟩, ⟨mc, h1.at' fun o e => k cStatics (List.mem_cons_of_mem _ (List.mem_cons_of_mem _ hcs)) o e, h2⟩, gs, hg.trans hgs, fun s'' hal => hgo s'' fun b hb o e => hal b hb o (k b (List.mem_cons_of_mem _ hb) o e)⟩

theorem dotFrom_L : ∀ (n j : Nat) (xs ys : List Int), xs.length = j + n → ys.length = j + n → dotFrom (fun i => xs.getD i 0) (fun i => ys.getD i 0) j n = dotL (xs.drop j) (ys.drop j)
  | 0, j, xs, ys, h1, h2 => by
    rw [List.drop_eq_nil_of_le (by omega)]
    rfl
  | n + 1, j, xs, ys, h1, h2 => by
    have e1 : xs.drop j = xs[j]'(by omega) :: xs.drop (j + 1) := List.drop_eq_getElem_cons (by omega)
    have e2 : ys.drop j = ys[j]'(by omega) :: ys.drop (j + 1) := List.drop_eq_getElem_cons (by omega)
    rw [e1, e2]
    show _ + dotFrom _ _ (j + 1) n = _ * _ + dotL _ _
    rw [dotFrom_L n (j + 1) xs ys (by omega) (by omega)]
    congr 2
    · simp [List.getD_eq_getElem?_getD, List.getElem?_eq_getElem (show j < xs.length by omega)]
    · simp [List.getD_eq_getElem?_getD, List.getElem?_eq_getElem (show j < ys.length by omega)]
theorem dotFrom_le {fx fy : Nat → Int} : ∀ (k j n : Nat), j + k ≤ n → (∀ i, i < n → (fx i).natAbs ≤ 1000) → (∀ i, i < n → (fy i).natAbs ≤ 1000) → (dotFrom fx fy j k).natAbs ≤ k * 1000000
  | 0, _, _, _, _, _ => by simp [dotFrom]
  | k + 1, j, n, h, hx, hy => by
    have h1 := dotFrom_le k (j + 1) n (by omega) hx hy
    have h2 := prod_small (hx j (by omega)) (hy j (by omega))
    show (fx j * fy j + dotFrom fx fy (j + 1) k).natAbs ≤ _
    rw [Nat.succ_mul, Nat.add_comm (k * 1000000)]
    exact Nat.le_trans (Int.natAbs_add_le _ _) (Nat.add_le_add h2 h1)

theorem genV_star {e : Expr} {zs : List Int} (h : genV own sc ρ e = some zs) : ∀ v p, e ≠ .Starred v p := fun v p q => by
  subst q
  simp [genV] at h

theorem sp_ok {c P : Addr} {d : Nat} (hB : BltOk gv) (hobT : ∀ a o, gv.ob a o → ∀ vs, o ≠ { cls := .none, data := .fields vs }) (hgv : gv.v "sumprod" = some (.builtin "math.sumprod")) (hg : g = some (c, P)) : SpOk prog w g l gv own d (.ref c) := by
  rintro sc ρ e1 e2 xs ys f pf pos rfl hgl h1 h2 hlen hpos hle X env A s hE hcode hC G L O T Q E hQ
  refine call_name hE hgl G hgv (callWith_builtin (evL_any _ (by
    simp only [List.mem_cons, List.not_mem_nil, or_false, not_or]
    exact fun v p => ⟨fun q => genV_star h1 v p q.symm, fun q => genV_star h2 v p q.symm⟩) pos) ?_)
  rw [starEach_plain (genV_star h1)]
  refine evalArgs_plain (spliced_cons (gen_make hB hobT h1 hE hcode hg hC G L O T fun a1 C1 I1 g1 old1 s5 R1 K1 b1 => ?_))
  rw [starEach_plain (genV_star h2)]
  have T5 := T.keeps K1
  refine spliced_cons (gen_make hB hobT h2 hE hcode hg hC (G.turn T hobT K1) (L.mild (K1.mild T)) (fun b hb => let ⟨o, e⟩ := O b hb; GKeeps.ex T K1 e) T5 fun a2 C2 I2 g2 old2 s9 R2 K2 b2 => spliced_nil ?_)
  obtain ⟨ps5, cp5⟩ := T5 c P hg
  obtain ⟨ps0, cp0⟩ := T c P hg
  have hPlt : @LT.lt Nat _ P s.heap.objs.size := Heap.lt_size cp0.2.2
  have i1 := R1.newI
  have i2 := R1.ltI
  have i3 := R1.ltC
  have i4 := R1.lta
  have j1 := R2.newI
  have j2 := R2.ltI
  have j3 := R2.ltC
  have j4 := R2.lta
  have old1lt : ∀ b ∈ old1, @LT.lt Nat _ b s.heap.objs.size := fun b hb => let ⟨o, e⟩ := R1.oldEx b hb; Heap.lt_size e
  have old2lt : ∀ b ∈ old2, @LT.lt Nat _ b s5.heap.objs.size := fun b hb => let ⟨o, e⟩ := R2.oldEx b hb; Heap.lt_size e
  have f1lt : ∀ b ∈ a1 :: C1 :: I1 :: old1, @LT.lt Nat _ b s5.heap.objs.size := fun b hb => by
    simp only [List.mem_cons] at hb
    rcases hb with rfl | rfl | rfl | hb
    · exact i4
    · exact Nat.lt_trans i3 i4
    · exact Nat.lt_trans i2 (Nat.lt_trans i3 i4)
    · exact Nat.lt_trans (old1lt b hb) (Nat.lt_of_le_of_lt i1 (Nat.lt_trans i2 (Nat.lt_trans i3 i4)))
  have f1P : ∀ b ∈ a1 :: C1 :: I1 :: old1, b ≠ P := fun b hb => by
    simp only [List.mem_cons] at hb
    rcases hb with rfl | rfl | rfl | hb
    · exact Nat.ne_of_gt (Nat.lt_trans hPlt (Nat.lt_of_le_of_lt i1 (Nat.lt_trans i2 i3)))
    · exact Nat.ne_of_gt (Nat.lt_trans hPlt (Nat.lt_of_le_of_lt i1 i2))
    · exact Nat.ne_of_gt (Nat.lt_of_lt_of_le hPlt i1)
    · exact R1.oldNot b hb c P ps0 cp0
  have sep1 : ∀ b ∈ a1 :: C1 :: I1 :: old1, b ∉ [C2, I2] := fun b hb hm => by
    simp only [List.mem_cons, List.not_mem_nil, or_false] at hm
    have := f1lt b hb
    rcases hm with rfl | rfl
    · exact Nat.lt_irrefl _ (Nat.lt_trans this (Nat.lt_of_le_of_lt j1 j2))
    · exact Nat.lt_irrefl _ (Nat.lt_of_lt_of_le this j1)
  have sep2 : ∀ b ∈ a2 :: C2 :: I2 :: old2, b ∉ [C1, I1] := fun b hb hm => by
    have c1lt : @LT.lt Nat _ C1 s5.heap.objs.size := Nat.lt_trans i3 i4
    have i1lt : @LT.lt Nat _ I1 s5.heap.objs.size := Nat.lt_trans i2 c1lt
    simp only [List.mem_cons, List.not_mem_nil, or_false] at hm hb
    have hblt : @LT.lt Nat _ b s5.heap.objs.size := by rcases hm with rfl | rfl <;> assumption
    rcases hb with rfl | rfl | rfl | hb
    · exact Nat.lt_irrefl _ (Nat.lt_trans hblt (Nat.lt_of_le_of_lt j1 (Nat.lt_trans j2 j3)))
    · exact Nat.lt_irrefl _ (Nat.lt_trans hblt (Nat.lt_of_le_of_lt j1 j2))
    · exact Nat.lt_irrefl _ (Nat.lt_of_lt_of_le hblt j1)
    · rcases hm with rfl | rfl
      · obtain ⟨m, hm⟩ := R1.nsC
        rcases R2.oldIn _ hb with ⟨vs, q⟩ | ⟨v, q⟩ | q
        · exact ns_not_list hm q
        · exact ns_not_cell hm q
        · exact Nat.lt_irrefl _ (Nat.lt_trans (q ▸ Nat.lt_of_le_of_lt i1 i2) R1.csLt)
      · obtain ⟨ax, hit⟩ := R1.itI
        rcases R2.oldIn _ hb with ⟨vs, q⟩ | ⟨v, q⟩ | q
        · obtain ⟨o, e, _⟩ := q
          exact list_not_odd ⟨o, e, by assumption⟩ o e (odd_listiter hit o e)
        · obtain ⟨o, e, hd⟩ := q
          exact cell_not_odd ⟨o, e, hd⟩ o e (odd_listiter hit o e)
        · exact Nat.lt_irrefl _ (Nat.lt_of_lt_of_le (q ▸ R1.csLt) i1)
  have hgne : g1 ≠ g2 := by
    obtain ⟨e2, _⟩ := R2.gensEq
    have := R1.gens
    rw [e2]
    exact Nat.ne_of_lt this
  have W1 := WalksS.in4_1 R1.walks
  have W2 := WalksS.in4_1 R2.walks
  let St : Nat → Shared → Prop := fun j s' => GenAt prog w A.in4 a1 g1 C1 (I1 :: old1) [I1] (fun _ => true) xs.length (fun j y => ∃ t, y = .float (Float64.ofInt (xs.getD j 0)) t) j s' ∧
    GenAt prog w A.in4 a2 g2 C2 (I2 :: old2) [I2] (fun _ => true) ys.length (fun j y => ∃ t, y = .float (Float64.ofInt (ys.getD j 0)) t) j s'
  let W : Addr → Prop := fun b => b ∈ [C1, I1] ∨ b ∈ [C2, I2]
  have rel1 : ∀ {s s' : Shared}, Moved [C1, I1] (GenOnlyQ g1) s s' → SpRel W s s' := fun {s s'} m => ⟨s'.heap, s'.toks, s'.gens, by
    have h1 := m.drawn
    have h2 := m.os
    cases s; cases s'; simp_all, fun hb => m.gens.bare hb, fun b o hn e => m.heap b o (fun q => hn (.inl q)) e⟩
  have rel2 : ∀ {s s' : Shared}, Moved [C2, I2] (GenOnlyQ g2) s s' → SpRel W s s' := fun {s s'} m => ⟨s'.heap, s'.toks, s'.gens, by
    have h1 := m.drawn
    have h2 := m.os
    cases s; cases s'; simp_all, fun hb => m.gens.bare hb, fun b o hn e => m.heap b o (fun q => hn (.inr q)) e⟩
  have slot : ∀ {ga gb : Nat} {a b : Array GenState}, GenOnlyQ ga a b → gb ≠ ga → b[gb]? = a[gb]? := fun {ga gb a b} h hne => by
    rcases h with rfl | ⟨⟨_, h⟩, _⟩
    · rfl
    · exact h gb hne
  have TG : TwoGens prog w A.in1 a1 a2 xs.length (fun j => xs.getD j 0) (fun j => ys.getD j 0) W St := by
    refine ⟨fun j s Q E hj st hQ => ?_, fun s Q E st hQ => ?_, fun j s h' tk st htk hk => ⟨?_, ?_⟩⟩
    · refine W1.item j s _ _ hj st.1 fun v s1 hv st1 m1 => ?_
      obtain ⟨t, _, rfl⟩ := hv
      have q2 := GenAt.other st.2 (List.mem_cons_of_mem _ R2.csOld) (fun b hb o e => m1.heap b o (sep2 b hb) e) (slot m1.gens fun q => hgne q.symm)
      refine W2.item j s1 _ _ (by omega) q2 fun v s2 hv st2 m2 => ?_
      obtain ⟨t', _, rfl⟩ := hv
      have q1 := GenAt.other st1 (List.mem_cons_of_mem _ R1.csOld) (fun b hb o e => m2.heap b o (sep1 b hb) e) (slot m2.gens hgne)
      exact hQ t t' s2 ⟨q1, st2⟩ ((rel1 m1).trans (rel2 m2))
    · refine W1.done s _ _ st.1 fun s1 m1 => ?_
      have q2 := GenAt.other st.2 (List.mem_cons_of_mem _ R2.csOld) (fun b hb o e => m1.heap b o (sep2 b hb) e) (slot m1.gens fun q => hgne q.symm)
      rw [hlen] at q2
      exact W2.done s1 _ _ q2 fun s2 m2 => hQ s2 ((rel1 m1).trans (rel2 m2))
    · exact GenAt.other st.1 (List.mem_cons_of_mem _ R1.csOld) (fun b _ o e => hk b o e) rfl
    · exact GenAt.other st.2 (List.mem_cons_of_mem _ R2.csOld) (fun b _ o e => hk b o e) rfl
  have st0 : St 0 s9 := by
    refine ⟨GenAt.other R1.at0 (List.mem_cons_of_mem _ R1.csOld) (fun b hb o e => K2.keep b o (fun ⟨c', q⟩ => ?_) e) ?_, R2.at0⟩
    · rw [hg] at q
      cases q
      exact f1P _ hb rfl
    · obtain ⟨_, x, e⟩ := R2.gensEq
      rw [e, Array.getElem?_push, if_neg (Nat.ne_of_lt R1.gens)]
  have hWge : ∀ b, W b → s.heap.objs.size ≤ b := fun b hb => by
    simp only [W, List.mem_cons, List.not_mem_nil, or_false] at hb
    have i15 : s.heap.objs.size ≤ s5.heap.objs.size := Nat.le_of_lt (Nat.lt_of_le_of_lt i1 (Nat.lt_trans i2 (Nat.lt_trans i3 i4)))
    rcases hb with (rfl | rfl) | (rfl | rfl)
    · exact Nat.le_of_lt (Nat.lt_of_le_of_lt i1 i2)
    · exact i1
    · exact Nat.le_trans i15 (Nat.le_of_lt (Nat.lt_of_le_of_lt j1 j2))
    · exact Nat.le_trans i15 j1
  have hWlt : ∀ b, W b → @LT.lt Nat _ b s9.heap.objs.size := fun b hb => by
    simp only [W, List.mem_cons, List.not_mem_nil, or_false] at hb
    have k5 : s5.heap.objs.size < s9.heap.objs.size := Nat.lt_of_le_of_lt j1 (Nat.lt_trans j2 (Nat.lt_trans j3 j4))
    rcases hb with (rfl | rfl) | (rfl | rfl)
    · exact Nat.lt_trans (Nat.lt_trans i3 i4) k5
    · exact Nat.lt_trans (Nat.lt_trans i2 (Nat.lt_trans i3 i4)) k5
    · exact Nat.lt_trans j3 j4
    · exact Nat.lt_trans j2 (Nat.lt_trans j3 j4)
  have hI9 : s9.heap.IsGen a1 g1 := by
    obtain ⟨o, nm, qn, ho, r⟩ := R1.isGen
    exact ⟨o, nm, qn, K2.keep _ _ (fun ⟨c', q⟩ => by rw [hg] at q; cases q; exact f1P _ (List.mem_cons_self ..) rfl) ho, r⟩
  refine call_sumprod TG b1 (fun j hj => b2 j (by omega)) hle hpos hI9 R2.isGen st0 hWlt fun s' t' rel => ?_
  have e0 := dotFrom_L xs.length 0 xs ys (by omega) (by omega)
  rw [List.drop_zero, List.drop_zero] at e0
  have hb := dotFrom_le xs.length 0 xs.length (by omega) b1 (fun j hj => b2 j (by omega))
  rw [e0] at hb ⊢
  refine hQ _ s' ?_ (.fx (by omega) (by omega))
  obtain ⟨h, t, gs, eq, gn, gb, kk, kt⟩ := GKeeps.trans K1 K2
  obtain ⟨h', t2, gs', rfl, rb, rk⟩ := rel
  subst eq
  refine ⟨h', t2, gs', rfl, fun q => (by rw [hg] at q; cases q), fun q => rb (gb q), fun b o hn e => rk b o (fun hw => Nat.lt_irrefl _ (Nat.lt_of_lt_of_le (Heap.lt_size e) (hWge b hw))) (kk b o hn e), fun c' P' hg' ps x => ?_⟩
  obtain ⟨more, y⟩ := kt c' P' hg' ps x
  have hc : ∃ o, s.heap.get? c' = some o := by
    obtain ⟨⟨o, vs, file, tf, flags, tg, inF, text, tt, op, a, _⟩, _⟩ := x
    exact ⟨o, a⟩
  obtain ⟨oc, ec⟩ := hc
  exact ⟨more, y.at (fun o e => rk _ _ (fun hw => Nat.lt_irrefl _ (Nat.lt_of_lt_of_le (Heap.lt_size ec) (hWge _ hw))) e) fun o e => rk _ _ (fun hw => Nat.lt_irrefl _ (Nat.lt_of_lt_of_le (Heap.lt_size x.2.2) (hWge _ hw))) e⟩
end Mine
end

section
namespace Mine
open PySem PySem.Calls PyProof.Rows PySem.W

variable {g : Option (Addr × Addr)} {l : Nat} {X : Addr → Prop} {gv : Gv} {prog : Program} {w : World} {A : Around} {E : Value → Shared → Prop} {s : Shared}

/-- the text's defs -/
noncomputable def recOf (n : Str) : DefRec := ((recsOf PySem.Challenge.pw_rl0032_01).find? fun d => d.name == n).getD ⟨n, ⟨[], [], Option.none, [], [], Option.none, []⟩, [], ⟨.function, [], false, false, []⟩, default⟩

/-- a def of the text stands under its name -/
noncomputable def FnAt (gv : Gv) (d : DefRec) : Prop := ∃ a o pm code doc, gv.v d.name = some (.ref a) ∧ gv.ob a o ∧ o.data = .func (docDef d.name d.params d.body d.scope pm code doc) ∧ ∀ h : Heap, (∀ a o, gv.ob a o → h.get? a = some o) → h.CodeRec code d.name
/-- a def with its table -/
noncomputable def FnAtT (gv : Gv) (d : DefRec) (c : Addr) : Prop := ∃ a o pm doc, gv.v d.name = some (.ref a) ∧ gv.ob a o ∧ o.data = .func (docDef d.name d.params d.body d.scope pm (.ref c) doc) ∧ ∀ h : Heap, (∀ a o, gv.ob a o → h.get? a = some o) → h.CodeRec (.ref c) d.name

noncomputable def dCov : DefRec := recOf "covariance"
noncomputable def dSub : DefRec := recOf "_substitution_cost"
noncomputable def dLev : DefRec := recOf "_levenshtein_distance"
noncomputable def dWord : DefRec := recOf "_law_word"
noncomputable def dTable : DefRec := recOf "_law_table"
noncomputable def dCent : DefRec := recOf "_law_centred"
noncomputable def dLaw : DefRec := recOf "law"

theorem name_cov : dCov.name = "covariance" := by decide +kernel
theorem bind_cov (pm code doc : Value) (u v : Value) : bindArgs (docDef dCov.name dCov.params dCov.body dCov.scope pm code doc) ⟨[u, v], []⟩ = pure ([("x" : Str), "y"].zip [u, v]) := by kernel_rfl

noncomputable def theConsts : List (Str × Int) := [("_MOVE_COST", 2), ("_CASE_COST", 1), ("_MAX_STRING_SIZE", 40)]
noncomputable def noCall : Str → List AV → Option AV := fun _ _ => Option.none
noncomputable def cfgCov : Cfg := { own := Option.none, l0 := false, consts := theConsts, call := noCall, sp := true }

noncomputable def covRun (n : Int) (is js : List Int) : Option Out := ex cfgCov dCov.scope.names 12 12 [("x", .list (is.map fun i => .int i 0 n)), ("y", .list (js.map fun j => .int j 0 (n * (n - 1))))] dCov.body
noncomputable def sumI (xs : List Int) : Int := xs.foldr (· + ·) 0
noncomputable def covTold (n : Int) (is js : List Int) : List Bool × Fl :=
  ([!(sumI is % n == 0), !(sumI js % n == 0)], .ret (.fq (dotL (is.map fun x => x - sumI is / n) (js.map fun y => y - sumI js / n)) (n - 1) (-5000000) 5000000))
theorem run3 (x0 x1 x2 y0 y1 y2 : Int) : (covRun 3 [x0, x1, x2] [y0, y1, y2]).map (fun o => (o.obl, o.fl)) = some (covTold 3 [x0, x1, x2] [y0, y1, y2]) := by kernel_rfl
theorem run4 (x0 x1 x2 x3 y0 y1 y2 y3 : Int) : (covRun 4 [x0, x1, x2, x3] [y0, y1, y2, y3]).map (fun o => (o.obl, o.fl)) = some (covTold 4 [x0, x1, x2, x3] [y0, y1, y2, y3]) := by kernel_rfl
theorem run5 (x0 x1 x2 x3 x4 y0 y1 y2 y3 y4 : Int) : (covRun 5 [x0, x1, x2, x3, x4] [y0, y1, y2, y3, y4]).map (fun o => (o.obl, o.fl)) = some (covTold 5 [x0, x1, x2, x3, x4] [y0, y1, y2, y3, y4]) := by kernel_rfl

/-- a bit's multiple -/
theorem bit_of {i m : Int} (h : i = 0 ∨ i = m) : ∃ u, i = m * u ∧ 0 ≤ u ∧ u ≤ 1 := by
  rcases h with rfl | rfl
  · exact ⟨0, by simp, by decide, by decide⟩
  · exact ⟨1, by simp, by decide, by decide⟩

/-- what covariance reckons is what is told of it -/
noncomputable def CovGood (n : Int) (is js : List Int) : Prop := sumI is % n = 0 ∧ sumI js % n = 0 ∧ dotL (is.map fun x => x - sumI is / n) (js.map fun y => y - sumI js / n) = (n - 1) * covZ n is js ∧ (covZ n is js).natAbs ≤ 100000
theorem mul_01 {u d : Int} (a : 0 ≤ u) (b : u ≤ 1) (c : 0 ≤ d) (e : d ≤ 1) : 0 ≤ u * d ∧ u * d ≤ 1 := by
  have := mul_nn (l := 0) (h := 1) (l' := 0) (h' := 1) (by decide) (by decide) a b c e
  omega
theorem good3 {x0 x1 x2 y0 y1 y2 : Int} (hx : ∀ i ∈ [x0, x1, x2], i = 0 ∨ i = 3) (hy : ∀ j ∈ [y0, y1, y2], j = 0 ∨ j = 6) : CovGood 3 [x0, x1, x2] [y0, y1, y2] := by
  obtain ⟨u0, rfl, a0, b0⟩ := bit_of (hx x0 (.head _))
  obtain ⟨u1, rfl, a1, b1⟩ := bit_of (hx x1 (.tail _ (.head _)))
  obtain ⟨u2, rfl, a2, b2⟩ := bit_of (hx x2 (.tail _ (.tail _ (.head _))))
  obtain ⟨d0, rfl, c0, e0⟩ := bit_of (hy y0 (.head _))
  obtain ⟨d1, rfl, c1, e1⟩ := bit_of (hy y1 (.tail _ (.head _)))
  obtain ⟨d2, rfl, c2, e2⟩ := bit_of (hy y2 (.tail _ (.tail _ (.head _))))
  have s1 : sumI [3 * u0, 3 * u1, 3 * u2] = 3 * (u0 + u1 + u2) := by
    show (3 * u0 + (3 * u1 + (3 * u2 + 0))) = _
    omega
  have s2 : sumI [6 * d0, 6 * d1, 6 * d2] = 3 * (2 * (d0 + d1 + d2)) := by
    show (6 * d0 + (6 * d1 + (6 * d2 + 0))) = _
    omega
  have q1 : ∀ u : Int, 3 * u / 3 = u := fun u => Int.mul_ediv_cancel_left u (by decide)
  have q2 : ∀ u : Int, 6 * u / 6 = u := fun u => Int.mul_ediv_cancel_left u (by decide)
  have z : covZ 3 [3 * u0, 3 * u1, 3 * u2] [6 * d0, 6 * d1, 6 * d2] = 3 * (3 * (u0 * d0 + u1 * d1 + u2 * d2) - (u0 + u1 + u2) * (d0 + d1 + d2)) := by
    simp only [covZ, List.zipWith_cons_cons, List.zipWith_nil_left, List.map_cons, List.map_nil, List.sum_cons, List.sum_nil, show (3 : Int) * (3 - 1) = 6 from rfl, q1, q2]
    grind
  refine ⟨by rw [s1]; omega, by rw [s2]; omega, ?_, ?_⟩
  · rw [z, s1, s2, q1, q1]
    simp only [dotL, List.map_cons, List.map_nil]
    grind
  · rw [z]
    have p0 := mul_01 a0 b0 c0 e0
    have p1 := mul_01 a1 b1 c1 e1
    have p2 := mul_01 a2 b2 c2 e2
    have hU := mul_nn (i := (u0 + u1 + u2)) (j := (d0 + d1 + d2)) (l := 0) (h := 3) (l' := 0) (h' := 3) (by decide) (by decide) (by omega) (by omega) (by omega) (by omega)
    generalize (u0 + u1 + u2) * (d0 + d1 + d2) = W at hU ⊢
    omega
theorem good4 {x0 x1 x2 x3 y0 y1 y2 y3 : Int} (hx : ∀ i ∈ [x0, x1, x2, x3], i = 0 ∨ i = 4) (hy : ∀ j ∈ [y0, y1, y2, y3], j = 0 ∨ j = 12) : CovGood 4 [x0, x1, x2, x3] [y0, y1, y2, y3] := by
  obtain ⟨u0, rfl, a0, b0⟩ := bit_of (hx x0 (.head _))
  obtain ⟨u1, rfl, a1, b1⟩ := bit_of (hx x1 (.tail _ (.head _)))
  obtain ⟨u2, rfl, a2, b2⟩ := bit_of (hx x2 (.tail _ (.tail _ (.head _))))
  obtain ⟨u3, rfl, a3, b3⟩ := bit_of (hx x3 (.tail _ (.tail _ (.tail _ (.head _)))))
  obtain ⟨d0, rfl, c0, e0⟩ := bit_of (hy y0 (.head _))
  obtain ⟨d1, rfl, c1, e1⟩ := bit_of (hy y1 (.tail _ (.head _)))
  obtain ⟨d2, rfl, c2, e2⟩ := bit_of (hy y2 (.tail _ (.tail _ (.head _))))
  obtain ⟨d3, rfl, c3, e3⟩ := bit_of (hy y3 (.tail _ (.tail _ (.tail _ (.head _)))))
  have s1 : sumI [4 * u0, 4 * u1, 4 * u2, 4 * u3] = 4 * (u0 + u1 + u2 + u3) := by
    show (4 * u0 + (4 * u1 + (4 * u2 + (4 * u3 + 0)))) = _
    omega
  have s2 : sumI [12 * d0, 12 * d1, 12 * d2, 12 * d3] = 4 * (3 * (d0 + d1 + d2 + d3)) := by
    show (12 * d0 + (12 * d1 + (12 * d2 + (12 * d3 + 0)))) = _
    omega
  have q1 : ∀ u : Int, 4 * u / 4 = u := fun u => Int.mul_ediv_cancel_left u (by decide)
  have q2 : ∀ u : Int, 12 * u / 12 = u := fun u => Int.mul_ediv_cancel_left u (by decide)
  have z : covZ 4 [4 * u0, 4 * u1, 4 * u2, 4 * u3] [12 * d0, 12 * d1, 12 * d2, 12 * d3] = 4 * (4 * (u0 * d0 + u1 * d1 + u2 * d2 + u3 * d3) - (u0 + u1 + u2 + u3) * (d0 + d1 + d2 + d3)) := by
    simp only [covZ, List.zipWith_cons_cons, List.zipWith_nil_left, List.map_cons, List.map_nil, List.sum_cons, List.sum_nil, show (4 : Int) * (4 - 1) = 12 from rfl, q1, q2]
    grind
  refine ⟨by rw [s1]; omega, by rw [s2]; omega, ?_, ?_⟩
  · rw [z, s1, s2, q1, q1]
    simp only [dotL, List.map_cons, List.map_nil]
    grind
  · rw [z]
    have p0 := mul_01 a0 b0 c0 e0
    have p1 := mul_01 a1 b1 c1 e1
    have p2 := mul_01 a2 b2 c2 e2
    have p3 := mul_01 a3 b3 c3 e3
    have hU := mul_nn (i := (u0 + u1 + u2 + u3)) (j := (d0 + d1 + d2 + d3)) (l := 0) (h := 4) (l' := 0) (h' := 4) (by decide) (by decide) (by omega) (by omega) (by omega) (by omega)
    generalize (u0 + u1 + u2 + u3) * (d0 + d1 + d2 + d3) = W at hU ⊢
    omega
theorem good5 {x0 x1 x2 x3 x4 y0 y1 y2 y3 y4 : Int} (hx : ∀ i ∈ [x0, x1, x2, x3, x4], i = 0 ∨ i = 5) (hy : ∀ j ∈ [y0, y1, y2, y3, y4], j = 0 ∨ j = 20) : CovGood 5 [x0, x1, x2, x3, x4] [y0, y1, y2, y3, y4] := by
  obtain ⟨u0, rfl, a0, b0⟩ := bit_of (hx x0 (.head _))
  obtain ⟨u1, rfl, a1, b1⟩ := bit_of (hx x1 (.tail _ (.head _)))
  obtain ⟨u2, rfl, a2, b2⟩ := bit_of (hx x2 (.tail _ (.tail _ (.head _))))
  obtain ⟨u3, rfl, a3, b3⟩ := bit_of (hx x3 (.tail _ (.tail _ (.tail _ (.head _)))))
  obtain ⟨u4, rfl, a4, b4⟩ := bit_of (hx x4 (.tail _ (.tail _ (.tail _ (.tail _ (.head _))))))
  obtain ⟨d0, rfl, c0, e0⟩ := bit_of (hy y0 (.head _))
  obtain ⟨d1, rfl, c1, e1⟩ := bit_of (hy y1 (.tail _ (.head _)))
  obtain ⟨d2, rfl, c2, e2⟩ := bit_of (hy y2 (.tail _ (.tail _ (.head _))))
  obtain ⟨d3, rfl, c3, e3⟩ := bit_of (hy y3 (.tail _ (.tail _ (.tail _ (.head _)))))
  obtain ⟨d4, rfl, c4, e4⟩ := bit_of (hy y4 (.tail _ (.tail _ (.tail _ (.tail _ (.head _))))))
  have s1 : sumI [5 * u0, 5 * u1, 5 * u2, 5 * u3, 5 * u4] = 5 * (u0 + u1 + u2 + u3 + u4) := by
    show (5 * u0 + (5 * u1 + (5 * u2 + (5 * u3 + (5 * u4 + 0))))) = _
    omega
  have s2 : sumI [20 * d0, 20 * d1, 20 * d2, 20 * d3, 20 * d4] = 5 * (4 * (d0 + d1 + d2 + d3 + d4)) := by
    show (20 * d0 + (20 * d1 + (20 * d2 + (20 * d3 + (20 * d4 + 0))))) = _
    omega
  have q1 : ∀ u : Int, 5 * u / 5 = u := fun u => Int.mul_ediv_cancel_left u (by decide)
  have q2 : ∀ u : Int, 20 * u / 20 = u := fun u => Int.mul_ediv_cancel_left u (by decide)
  have z : covZ 5 [5 * u0, 5 * u1, 5 * u2, 5 * u3, 5 * u4] [20 * d0, 20 * d1, 20 * d2, 20 * d3, 20 * d4] = 5 * (5 * (u0 * d0 + u1 * d1 + u2 * d2 + u3 * d3 + u4 * d4) - (u0 + u1 + u2 + u3 + u4) * (d0 + d1 + d2 + d3 + d4)) := by
    simp only [covZ, List.zipWith_cons_cons, List.zipWith_nil_left, List.map_cons, List.map_nil, List.sum_cons, List.sum_nil, show (5 : Int) * (5 - 1) = 20 from rfl, q1, q2]
    grind
  refine ⟨by rw [s1]; omega, by rw [s2]; omega, ?_, ?_⟩
  · rw [z, s1, s2, q1, q1]
    simp only [dotL, List.map_cons, List.map_nil]
    grind
  · rw [z]
    have p0 := mul_01 a0 b0 c0 e0
    have p1 := mul_01 a1 b1 c1 e1
    have p2 := mul_01 a2 b2 c2 e2
    have p3 := mul_01 a3 b3 c3 e3
    have p4 := mul_01 a4 b4 c4 e4
    have hU := mul_nn (i := (u0 + u1 + u2 + u3 + u4)) (j := (d0 + d1 + d2 + d3 + d4)) (l := 0) (h := 5) (l' := 0) (h' := 5) (by decide) (by decide) (by omega) (by omega) (by omega) (by omega)
    generalize (u0 + u1 + u2 + u3 + u4) * (d0 + d1 + d2 + d3 + d4) = W at hU ⊢
    omega

theorem len3 {α : Type} {xs : List α} (h : xs.length = 3) : ∃ a b c, xs = [a, b, c] := by
  match xs, h with
  | [a, b, c], _ => exact ⟨a, b, c, rfl⟩
theorem len4 {α : Type} {xs : List α} (h : xs.length = 4) : ∃ a b c d, xs = [a, b, c, d] := by
  match xs, h with
  | [a, b, c, d], _ => exact ⟨a, b, c, d, rfl⟩
theorem len5 {α : Type} {xs : List α} (h : xs.length = 5) : ∃ a b c d e, xs = [a, b, c, d, e] := by
  match xs, h with
  | [a, b, c, d, e], _ => exact ⟨a, b, c, d, e, rfl⟩

/-- the run of covariance -/
theorem cov_run {is js : List Int} (hlen : is.length = js.length) (h3 : 3 ≤ is.length) (h5 : is.length ≤ 5) (hi : ∀ i ∈ is, i = 0 ∨ i = (is.length : Int)) (hj : ∀ j ∈ js, j = 0 ∨ j = (is.length : Int) * ((is.length : Int) - 1)) :
    (covRun is.length is js).map (fun o => (o.obl, o.fl)) = some (covTold is.length is js) ∧ CovGood is.length is js := by
  rcases (show is.length = 3 ∨ is.length = 4 ∨ is.length = 5 by omega) with h | h | h
  · obtain ⟨x0, x1, x2, rfl⟩ := len3 h
    obtain ⟨y0, y1, y2, rfl⟩ := len3 (hlen ▸ h)
    exact ⟨run3 .., good3 hi hj⟩
  · obtain ⟨x0, x1, x2, x3, rfl⟩ := len4 h
    obtain ⟨y0, y1, y2, y3, rfl⟩ := len4 (hlen ▸ h)
    exact ⟨run4 .., good4 hi hj⟩
  · obtain ⟨x0, x1, x2, x3, x4, rfl⟩ := len5 h
    obtain ⟨y0, y1, y2, y3, y4, rfl⟩ := len5 (hlen ▸ h)
    exact ⟨run5 .., good5 hi hj⟩

theorem intsV_rep {h : Heap} {m : Int} : ∀ {xs : List AV} {is : List Int}, intsV xs = some is → (∀ i ∈ is, 0 ≤ i ∧ i ≤ m) → is.length = xs.length ∧ ∀ (k : Nat) (v : Value) (x : AV), xs[k]? = some x → Rep l X h v x → ∃ y, (is.map fun i => AV.int i 0 m)[k]? = some y ∧ Rep l X h v y
  | [], is, e, _ => by cases e; exact ⟨rfl, fun k v x h => by simp at h⟩
  | x :: xs, is, e, hm => by
    cases x with
    | int i lo hi =>
      simp only [intsV] at e
      split at e
      · rename_i t ht
        cases e
        obtain ⟨h1, h2⟩ := intsV_rep ht fun i hi => hm i (List.mem_cons_of_mem _ hi)
        refine ⟨by simp [h1], fun k v x hk r => ?_⟩
        cases k with
        | zero =>
          simp at hk
          subst hk
          refine ⟨_, rfl, ?_⟩
          cases r with
          | int r1 r2 => exact .int (hm i List.mem_cons_self).1 (hm i List.mem_cons_self).2
        | succ k => exact h2 k v x (by simpa using hk) r
      · cases e
    | _ => simp [intsV] at e
theorem intsV_list {h : Heap} {m : Int} {v : Value} {xs : List AV} {is : List Int} (e : intsV xs = some is) (hm : ∀ i ∈ is, 0 ≤ i ∧ i ≤ m) (r : Rep l X h v (.list xs)) : Rep l X h v (.list (is.map fun i => AV.int i 0 m)) := by
  obtain ⟨h1, h2⟩ := intsV_rep (l := l) (X := X) (h := h) e hm
  cases r with
  | list hl hx hn hv =>
    rename_i a vs
    refine .list hl hx (by simp [hn, h1]) fun i v x e1 e2 => ?_
    have hi : i < xs.length := by
      obtain ⟨q, _⟩ := List.getElem?_eq_some_iff.mp e1
      omega
    obtain ⟨y, q1, q2⟩ := h2 i v _ (List.getElem?_eq_getElem hi) (hv i v _ e1 (List.getElem?_eq_getElem hi))
    rw [e2] at q1
    cases q1
    exact q2

theorem noCall_ok {d : Nat} : CallOk prog w l gv d noCall := fun f as av h => by cases h

/-- covariance answers as told -/
theorem cov_ok {c P : Addr} {d : Nat} (V : GvOk gv) (hl : l < 24) (K : ConstOk gv theConsts) (hB : BltOk gv) (hsp : gv.v "sumprod" = some (.builtin "math.sumprod")) (hg : g = some (c, P)) (F : FnAtT gv dCov c) : CovOk prog w g l gv (d + 1) := by
  obtain ⟨a, o, pm, doc, hv, hob, hd, hcd⟩ := F
  refine ⟨a, o, _, by rw [← name_cov]; exact hv, hob, hd, ?_⟩
  intro X A s v1 v2 xs ys is js hC G O T r1 r2 h1 h2 hlen hn3 hn5 hi hj Q E hQ
  obtain ⟨hrun, g1, g2, g3, g4⟩ := cov_run hlen hn3 hn5 hi hj
  have hnn : (0 : Int) ≤ (is.length : Int) * ((is.length : Int) - 1) := Int.mul_nonneg (by omega) (by omega)
  have r1' := intsV_list (m := is.length) h1 (fun i hm => by rcases hi i hm with q | q <;> omega) r1
  have r2' := intsV_list (m := (is.length : Int) * ((is.length : Int) - 1)) h2 (fun j hm => by rcases hj j hm with q | q <;> omega) r2
  cases hr : covRun is.length is js with
  | none => rw [hr] at hrun; cases hrun
  | some out =>
    obtain ⟨ρ', obl, fl⟩ := out
    rw [hr] at hrun
    simp only [Option.map_some, Option.some.injEq] at hrun
    unfold covTold at hrun
    injection hrun with e1 e2
    subst e1 e2
    refine fn_call (cfg := cfgCov) (g := g) (d := d) (ps := ["x", "y"]) (vs := [v1, v2]) G O T (G.2.1 a o hob) hd (hcd s.heap G.2.1) (bind_cov ..) (by decide +kernel) (by decide) (fun x hx => by cases hx) (.cons r1' (.cons r2' .nil)) hC V
      (ev_ok V (fun h => by cases h) hl K noCall_ok) (fun h => by cases h) (fun _ => sp_ok hB V.obT hsp hg) hr (fun b hb => ?_) (fun v s' k r => ?_) (by decide +kernel) (by decide +kernel) (by decide +kernel)
    · simp only [List.mem_cons, List.not_mem_nil, or_false] at hb
      rcases hb with rfl | rfl
      · simp [g1]
      · simp [g2]
    · refine hQ v s' k ?_
      cases r with
      | fq q1 q2 =>
        rw [g3, div_ofInt (by omega) (small_of (by omega)) (small_of (by omega)) (small_of ?_)]
        · exact .fltI (cmpInt_ofInt (small_of (by omega)))
        · rw [Int.natAbs_mul]
          exact Nat.le_trans (Nat.mul_le_mul (show ((is.length : Int) - 1).natAbs ≤ 4 by omega) g4) (by decide)
end Mine
end

section
namespace Mine
open PySem PySem.Calls PyProof.Rows PySem.W

variable {g : Option (Addr × Addr)} {l : Nat} {X : Addr → Prop} {gv : Gv} {prog : Program} {w : World} {A : Around} {E : Value → Shared → Prop} {s : Shared}

/-- a call by its evaluation -/
noncomputable def callBy (cfg : Cfg) (r : DefRec) (ps : List Str) (n k : Nat) (as : List AV) : Option AV :=
  match ex cfg r.scope.names n k (ps.zip as) r.body with
  | some ⟨_, o, .ret a⟩ => if o.all (!·) then some a else Option.none
  | _ => Option.none

theorem callBy_sound {cfg : Cfg} {r : DefRec} {ps : List Str} {n k : Nat} {d : Nat} (V : GvOk gv) (hl0 : cfg.l0 = true → l = 0) (hl : l < 24) (K : ConstOk gv cfg.consts) (C : CallOk prog w l gv d cfg.call) (hcov : cfg.cov = false) (hsp : cfg.sp = false)
    (hps : ps.all (fun p => stk r.scope.names p) = true) (hnd : ps.Nodup) (hown : ∀ x, cfg.own = some x → x ∉ ps) (hk : r.scope.kind = .function) (hco : r.scope.isCoroutine = false) (hgen : r.scope.isGenerator = false)
    (hbind : ∀ pm code doc (vs : List Value), vs.length = ps.length → bindArgs (docDef r.name r.params r.body r.scope pm code doc) ⟨vs, []⟩ = pure (ps.zip vs))
    {a : Addr} {o : Obj} {pm code doc : Value} (hob : gv.ob a o) (hd : o.data = .func (docDef r.name r.params r.body r.scope pm code doc)) (hcd : ∀ h : Heap, (∀ a o, gv.ob a o → h.get? a = some o) → h.CodeRec code r.name)
    {as : List AV} {av : AV} (h : callBy cfg r ps n k as = some av) (hlen : as.length = ps.length) {vs : List Value} (hC : Cx (d + 1) A) (G : Gd gv s.heap) (O : Old X s.heap) (hr : RepL l X s.heap vs as) {Q : Value → Shared → Prop} (hQ : Post l X s av Q) :
    wpAny (model prog w) A (call (.ref a) vs) Q E s := by
  unfold callBy at h
  split at h
  · rename_i ρ' obl a' hex
    split at h
    · rename_i hall
      cases h
      refine fn_call (cfg := cfg) (g := Option.none) (d := d) (ps := ps) (vs := vs) G O (fun c P h => by cases h) (G.2.1 a o hob) hd (hcd s.heap G.2.1) (hbind _ _ _ vs (by rw [hr.1, hlen])) hps hnd hown hr hC V (ev_ok V hl0 hl K C) (fun h => by rw [hcov] at h; cases h)
        (fun h => by rw [hsp] at h; cases h) hex (fun b hb => ?_) (fun v s' k r => hQ v s' k.to r) hk hco hgen
      have := List.all_eq_true.mp hall b hb
      simpa using this
    · cases h
  · cases h

theorem len1' {α : Type} {xs : List α} (h : xs.length = 1) : ∃ a, xs = [a] := by
  match xs, h with
  | [a], _ => exact ⟨a, rfl⟩
theorem len2' {α : Type} {xs : List α} (h : xs.length = 2) : ∃ a b, xs = [a, b] := by
  match xs, h with
  | [a, b], _ => exact ⟨a, b, rfl⟩

theorem bind_sub (pm code doc : Value) (vs : List Value) (h : vs.length = 2) : bindArgs (docDef dSub.name dSub.params dSub.body dSub.scope pm code doc) ⟨vs, []⟩ = pure ([("ch_a" : Str), "ch_b"].zip vs) := by
  obtain ⟨u, v, rfl⟩ := len2' h
  kernel_rfl
theorem bind_lev (pm code doc : Value) (vs : List Value) (h : vs.length = 3) : bindArgs (docDef dLev.name dLev.params dLev.body dLev.scope pm code doc) ⟨vs, []⟩ = pure ([("a" : Str), "b", "max_cost"].zip vs) := by
  obtain ⟨u, v, t, rfl⟩ := len3 h
  kernel_rfl
theorem bind_word (pm code doc : Value) (vs : List Value) (h : vs.length = 2) : bindArgs (docDef dWord.name dWord.params dWord.body dWord.scope pm code doc) ⟨vs, []⟩ = pure ([("code" : Str), "letter"].zip vs) := by
  obtain ⟨u, v, rfl⟩ := len2' h
  kernel_rfl
theorem bind_table (pm code doc : Value) (vs : List Value) (h : vs.length = 1) : bindArgs (docDef dTable.name dTable.params dTable.body dTable.scope pm code doc) ⟨vs, []⟩ = pure ([("words" : Str)].zip vs) := by
  obtain ⟨u, rfl⟩ := len1' h
  kernel_rfl
theorem bind_cent (pm code doc : Value) (vs : List Value) (h : vs.length = 1) : bindArgs (docDef dCent.name dCent.params dCent.body dCent.scope pm code doc) ⟨vs, []⟩ = pure ([("table" : Str)].zip vs) := by
  obtain ⟨u, rfl⟩ := len1' h
  kernel_rfl
theorem name_sub : dSub.name = "_substitution_cost" := by decide +kernel
theorem name_lev : dLev.name = "_levenshtein_distance" := by decide +kernel
theorem name_word : dWord.name = "_law_word" := by decide +kernel
theorem name_table : dTable.name = "_law_table" := by decide +kernel
theorem name_cent : dCent.name = "_law_centred" := by decide +kernel

/-- _substitution_cost -/
noncomputable def cfgSub : Cfg := { own := Option.none, l0 := false, consts := theConsts, call := noCall }
noncomputable def callSub : Str → List AV → Option AV := fun f as => if f == ("_substitution_cost" : Str) && as.length == 2 then callBy cfgSub dSub ["ch_a", "ch_b"] 10 10 as else Option.none
theorem sub_ok {d : Nat} (V : GvOk gv) (hl : l < 24) (K : ConstOk gv theConsts) (F : FnAt gv dSub) : CallOk prog w l gv (d + 1) callSub := by
  intro f as av h
  unfold callSub at h
  split at h
  · rename_i hf
    simp only [Bool.and_eq_true, beq_iff_eq] at hf
    obtain ⟨rfl, hlen⟩ := hf
    obtain ⟨a, o, pm, code, doc, hv, hob, hd, hcd⟩ := F
    refine ⟨fun q => by subst q; simp at hlen, a, o, _, by rw [← name_sub]; exact hv, hob, hd, fun X A s vs hC G O hr Q E hQ => ?_⟩
    exact callBy_sound (cfg := cfgSub) (r := dSub) (ps := ["ch_a", "ch_b"]) V (fun h => by cases h) hl K noCall_ok rfl rfl (by decide +kernel) (by decide) (fun x hx => by cases hx) (by decide +kernel) (by decide +kernel) (by decide +kernel) bind_sub hob hd hcd h hlen hC G O hr hQ
  · cases h

/-- _levenshtein_distance upon two words -/
noncomputable def distF (a b : Int) : Int := (if a % 2 = b % 2 then 0 else 1) + (if a / 2 % 2 = b / 2 % 2 then 0 else 2) + (if a / 4 % 2 = b / 4 % 2 then 0 else 1)
theorem distF_le (a b : Int) : 0 ≤ distF a b ∧ distF a b ≤ 4 := by
  unfold distF
  split <;> split <;> split <;> omega
noncomputable def cfgLev : Cfg := { own := some "row", l0 := false, consts := theConsts, call := callSub }
noncomputable def levChk (a b : Nat) : Bool := match callBy cfgLev dLev ["a", "b", "max_cost"] 20 40 [.str (wordCs a), .str (wordCs b), lit 4] with
  | some (.int i _ _) => i == distF a b
  | _ => false
theorem lev0 : (List.range 8).all (fun b => levChk 0 b) = true := by decide +kernel
theorem lev1 : (List.range 8).all (fun b => levChk 1 b) = true := by decide +kernel
theorem lev2 : (List.range 8).all (fun b => levChk 2 b) = true := by decide +kernel
theorem lev3 : (List.range 8).all (fun b => levChk 3 b) = true := by decide +kernel
theorem lev4 : (List.range 8).all (fun b => levChk 4 b) = true := by decide +kernel
theorem lev5 : (List.range 8).all (fun b => levChk 5 b) = true := by decide +kernel
theorem lev6 : (List.range 8).all (fun b => levChk 6 b) = true := by decide +kernel
theorem lev7 : (List.range 8).all (fun b => levChk 7 b) = true := by decide +kernel
theorem lev_all {a b : Nat} (ha : a < 8) (hb : b < 8) : levChk a b = true := by
  exact List.all_eq_true.mp (below8 (P := fun a => (List.range 8).all (fun b => levChk a b) = true) lev0 lev1 lev2 lev3 lev4 lev5 lev6 lev7 ha) b (List.mem_range.mpr hb)

noncomputable def lev3V (a b c : AV) : Option AV := match a with
  | .word a => (match b with
    | .word b => (match c with
      | .int _ l h => if l == 4 && h == 4 then some (.int (distF a b) 0 4) else Option.none
      | _ => Option.none)
    | _ => Option.none)
  | _ => Option.none
theorem lev3V_inv {a b c av : AV} (h : lev3V a b c = some av) : ∃ x y i, a = .word x ∧ b = .word y ∧ c = .int i 4 4 ∧ av = .int (distF x y) 0 4 := by
  unfold lev3V at h
  split at h
  · split at h
    · split at h
      · split at h
        · rename_i hc
          simp only [Bool.and_eq_true, beq_iff_eq] at hc
          obtain ⟨rfl, rfl⟩ := hc
          cases h
          exact ⟨_, _, _, rfl, rfl, rfl, rfl⟩
        · cases h
      · cases h
    · cases h
  · cases h
noncomputable def levV (as : List AV) : Option AV := match as with
  | [a, b, c] => lev3V a b c
  | _ => Option.none
noncomputable def callLev : Str → List AV → Option AV := fun f as => if f == ("_levenshtein_distance" : Str) then levV as else Option.none
theorem lev_ok {d : Nat} (V : GvOk gv) (hl : l < 24) (K : ConstOk gv theConsts) (F : FnAt gv dLev) (F' : FnAt gv dSub) : CallOk prog w l gv (d + 2) callLev := by
  intro f as av h
  unfold callLev at h
  split at h
  · rename_i hf
    have hf := eq_of_beq hf
    subst hf
    unfold levV at h
    split at h
    · obtain ⟨a, b, i, rfl, rfl, rfl, rfl⟩ := lev3V_inv h
      · obtain ⟨ad, o, pm, code, doc, hv, hob, hd, hcd⟩ := F
        refine ⟨by simp, ad, o, _, by rw [← name_lev]; exact hv, hob, hd, fun X A s vs hC G O hr Q E hQ => ?_⟩
        obtain ⟨v1, v2, v3, rfl, r1, r2, r3⟩ := hr.inv3
        obtain ⟨_, _, rfl, a0, a8, ea⟩ := r1.inv
        obtain ⟨_, _, rfl, b0, b8, eb⟩ := r2.inv
        obtain ⟨_, rfl, i4, i4'⟩ := r3.inv
        have ei : i = 4 := Int.le_antisymm i4' i4
        subst ei
        have hck := lev_all (a := a.toNat) (b := b.toNat) (by omega) (by omega)
        unfold levChk at hck
        split at hck
        · rename_i k lo hi hcb
          have ek : k = distF a b := by
            have := eq_of_beq hck
            rw [this]
            congr 1 <;> omega
          subst ek
          refine callBy_sound (cfg := cfgLev) (r := dLev) (ps := ["a", "b", "max_cost"]) V (fun h => by cases h) hl K (sub_ok (d := d) V hl K F') rfl rfl (by decide +kernel) (by decide) (fun x hx => by cases hx; decide) (by decide +kernel) (by decide +kernel) (by decide +kernel) bind_lev hob hd hcd hcb rfl hC G O
            (.cons (.str ea) (.cons (.str eb) (.cons (.int (Int.le_refl _) (Int.le_refl _)) .nil))) fun v s' k r => hQ v s' k ?_
          obtain ⟨_, rfl, _, _⟩ := r.inv
          exact .int (distF_le a b).1 (distF_le a b).2
        · cases hck
    · cases h
  · cases h
end Mine
end

section
namespace Mine
open PySem PySem.Calls PyProof.Rows PySem.W

variable {g : Option (Addr × Addr)} {l : Nat} {X : Addr → Prop} {gv : Gv} {prog : Program} {w : World} {A : Around} {E : Value → Shared → Prop} {s : Shared}

theorem CallOk.more {d d' : Nat} {c : Str → List AV → Option AV} (h : CallOk prog w l gv d c) (hd : d ≤ d') : CallOk prog w l gv d' c := fun f as av e => by
  obtain ⟨h1, a, o, fd, h2, h3, h4, h5⟩ := h f as av e
  exact ⟨h1, a, o, fd, h2, h3, h4, fun X A s vs hC => h5 X A s vs (hC.less hd)⟩

/-- _law_word -/
noncomputable def cfgWord : Cfg := { own := Option.none, l0 := true, consts := theConsts, call := noCall }
noncomputable def wordChk (c L : Nat) : Bool := match callBy cfgWord dWord ["code", "letter"] 12 12 [lit c, lit L] with
  | some (.str cs) => cs == (wordCs c).map (· + L)
  | _ => false
theorem word0 : (List.range 24).all (fun L => wordChk 0 L) = true := by decide +kernel
theorem word1 : (List.range 24).all (fun L => wordChk 1 L) = true := by decide +kernel
theorem word2 : (List.range 24).all (fun L => wordChk 2 L) = true := by decide +kernel
theorem word3 : (List.range 24).all (fun L => wordChk 3 L) = true := by decide +kernel
theorem word4 : (List.range 24).all (fun L => wordChk 4 L) = true := by decide +kernel
theorem word5 : (List.range 24).all (fun L => wordChk 5 L) = true := by decide +kernel
theorem word6 : (List.range 24).all (fun L => wordChk 6 L) = true := by decide +kernel
theorem word7 : (List.range 24).all (fun L => wordChk 7 L) = true := by decide +kernel
theorem word_all {c L : Nat} (hc : c < 8) (hL : L < 24) : wordChk c L = true := by
  exact List.all_eq_true.mp (below8 (P := fun c => (List.range 24).all (fun L => wordChk c L) = true) word0 word1 word2 word3 word4 word5 word6 word7 hc) L (List.mem_range.mpr hL)

noncomputable def wordV (as : List AV) : Option AV := match as with
  | [a, b] => (match a with
    | .int c lo hi => (match b with
      | .letter => if 0 ≤ lo && hi ≤ 7 then some (.word c) else Option.none
      | _ => Option.none)
    | _ => Option.none)
  | _ => Option.none
noncomputable def callWord : Str → List AV → Option AV := fun f as => if f == ("_law_word" : Str) then wordV as else Option.none
theorem word_ok {d : Nat} (V : GvOk gv) (hl : l < 24) (K : ConstOk gv theConsts) (F : FnAt gv dWord) : CallOk prog w l gv (d + 1) callWord := by
  intro f as av h
  unfold callWord at h
  split at h
  · rename_i hf
    have hf := eq_of_beq hf
    subst hf
    unfold wordV at h
    split at h
    · split at h
      · rename_i c lo hi
        split at h
        · split at h
          · rename_i hc
            simp only [Bool.and_eq_true, decide_eq_true_eq] at hc
            cases h
            obtain ⟨ad, o, pm, code, doc, hv, hob, hd, hcd⟩ := F
            refine ⟨by simp, ad, o, _, by rw [← name_word]; exact hv, hob, hd, fun X A s vs hC G O hr Q E hQ => ?_⟩
            obtain ⟨v1, v2, rfl, r1, r2⟩ := hr.inv2
            obtain ⟨_, rfl, c1, c2⟩ := r1.inv
            obtain ⟨_, rfl⟩ := r2.inv
            have c0 : 0 ≤ c := Int.le_trans hc.1 c1
            have c8 : c < 8 := Int.lt_of_le_of_lt (Int.le_trans c2 hc.2) (by decide)
            have hck := word_all (c := c.toNat) (L := l) ((Int.toNat_lt c0).mpr c8) hl
            unfold wordChk at hck
            split at hck
            · rename_i cs hcb
              rw [Int.toNat_of_nonneg c0] at hcb
              refine callBy_sound (l := 0) (cfg := cfgWord) (r := dWord) (ps := ["code", "letter"]) V (fun _ => rfl) (by decide) K noCall_ok rfl rfl (by decide +kernel) (by decide) (fun x hx => by cases hx) (by decide +kernel) (by decide +kernel) (by decide +kernel) bind_word hob hd hcd hcb rfl hC G O
                (.cons (.int (Int.le_refl _) (Int.le_refl _)) (.cons (.int (Int.le_refl _) (Int.le_refl _)) .nil)) fun v s' k r => hQ v s' k ?_
              obtain ⟨_, _, rfl, hx⟩ := r.inv
              refine .word c0 c8 ?_
              rw [hx, eq_of_beq hck]
              simp
            · cases hck
          · cases h
        · cases h
      · cases h
    · cases h
  · cases h

/-- the tables -/
noncomputable def cfgTable : Cfg := { own := some "table", l0 := false, consts := theConsts, call := callLev }
noncomputable def cfgCent : Cfg := { own := Option.none, l0 := false, consts := theConsts, call := noCall }
noncomputable def callTable : Str → List AV → Option AV := fun f as => if f == ("_law_table" : Str) && as.length == 1 then callBy cfgTable dTable ["words"] 20 20 as else Option.none
noncomputable def callCent : Str → List AV → Option AV := fun f as => if f == ("_law_centred" : Str) && as.length == 1 then callBy cfgCent dCent ["table"] 20 20 as else Option.none
theorem table_ok {d : Nat} (V : GvOk gv) (hl : l < 24) (K : ConstOk gv theConsts) (F : FnAt gv dTable) (F1 : FnAt gv dLev) (F2 : FnAt gv dSub) : CallOk prog w l gv (d + 3) callTable := by
  intro f as av h
  unfold callTable at h
  split at h
  · rename_i hf
    simp only [Bool.and_eq_true, beq_iff_eq] at hf
    obtain ⟨rfl, hlen⟩ := hf
    obtain ⟨a, o, pm, code, doc, hv, hob, hd, hcd⟩ := F
    refine ⟨fun q => by subst q; simp at hlen, a, o, _, by rw [← name_table]; exact hv, hob, hd, fun X A s vs hC G O hr Q E hQ => ?_⟩
    exact callBy_sound (cfg := cfgTable) (r := dTable) (ps := ["words"]) V (fun h => by cases h) hl K (lev_ok (d := d) V hl K F1 F2) rfl rfl (by decide +kernel) (by decide) (fun x hx => by cases hx; decide) (by decide +kernel) (by decide +kernel) (by decide +kernel) bind_table hob hd hcd h hlen hC G O hr hQ
  · cases h
theorem cent_ok {d : Nat} (V : GvOk gv) (hl : l < 24) (K : ConstOk gv theConsts) (F : FnAt gv dCent) : CallOk prog w l gv (d + 1) callCent := by
  intro f as av h
  unfold callCent at h
  split at h
  · rename_i hf
    simp only [Bool.and_eq_true, beq_iff_eq] at hf
    obtain ⟨rfl, hlen⟩ := hf
    obtain ⟨a, o, pm, code, doc, hv, hob, hd, hcd⟩ := F
    refine ⟨fun q => by subst q; simp at hlen, a, o, _, by rw [← name_cent]; exact hv, hob, hd, fun X A s vs hC G O hr Q E hQ => ?_⟩
    exact callBy_sound (cfg := cfgCent) (r := dCent) (ps := ["table"]) V (fun h => by cases h) hl K noCall_ok rfl rfl (by decide +kernel) (by decide) (fun x hx => by cases hx) (by decide +kernel) (by decide +kernel) (by decide +kernel) bind_cent hob hd hcd h hlen hC G O hr hQ
  · cases h

/-- what the law calls -/
noncomputable def callLaw : Str → List AV → Option AV := fun f as =>
  if f == ("_levenshtein_distance" : Str) then callLev f as
  else if f == ("_law_word" : Str) then callWord f as
  else if f == ("_law_table" : Str) then callTable f as
  else callCent f as
theorem law_calls_ok {d : Nat} (V : GvOk gv) (hl : l < 24) (K : ConstOk gv theConsts) (F1 : FnAt gv dLev) (F2 : FnAt gv dSub) (F3 : FnAt gv dWord) (F4 : FnAt gv dTable) (F5 : FnAt gv dCent) : CallOk prog w l gv (d + 3) callLaw := by
  intro f as av h
  unfold callLaw at h
  split at h
  · exact (lev_ok (d := d) V hl K F1 F2).more (by omega) f as av h
  · split at h
    · exact (word_ok (d := d) V hl K F3).more (by omega) f as av h
    · split at h
      · exact table_ok (d := d) V hl K F4 F1 F2 f as av h
      · exact (cent_ok (d := d) V hl K F5).more (by omega) f as av h
end Mine
end

section
namespace Mine
open PySem PySem.Calls PyProof.Rows PySem.W

/-- the law's two parts -/
noncomputable def cfgA : Cfg := { own := some "cells", l0 := false, consts := theConsts, call := noCall }
noncomputable def cfgB : Cfg := { own := Option.none, l0 := false, consts := theConsts, call := callLaw, cov := true }
noncomputable def partA (n0 n1 : Nat) : Option Out := ex cfgA dLaw.scope.names 20 20 [("script", .bigInts n0 n1)] (dLaw.body.take 4)
noncomputable def partB (cs : List Int) : Option Out := ex cfgB dLaw.scope.names 20 40 [("size", lit cs.length), ("letter", .letter), ("cells", .list (cs.map fun c => .int c 0 63))] (dLaw.body.drop 4)

/-- the marks -/
noncomputable def upB (cs : List Int) (k i : Nat) : Int := ((cs.getD i 0).fdiv (2 ^ k)).fmod 2
noncomputable def dnB (cs : List Int) (m i : Nat) : Int := ((cs.getD i 0).fdiv (8 * 2 ^ m)).fmod 2
noncomputable def fstW (cs : List Int) (i : Nat) : Int := (cs.getD i 0).fmod 8
noncomputable def sndW (cs : List Int) (i : Nat) : Int := (cs.getD i 0).fdiv 8
noncomputable def sumR (n : Nat) (f : Nat → Int) : Int := sumI ((List.range n).map f)
noncomputable def dueT (cs : List Int) (n : Nat) (k m : Nat) : Int := n * (n * countB ((List.range n).map fun i => (upB cs k i == 1) && (dnB cs m i == 1)) - sumR n (upB cs k) * sumR n (dnB cs m))
noncomputable def covT (cs : List Int) (n : Nat) (k m : Nat) : Int := covZ n ((List.range n).map fun i => (n : Int) * upB cs k i) ((List.range n).map fun i => (n : Int) * (n - 1) * dnB cs m i)
noncomputable def oblT (cs : List Int) (n : Nat) (k m : Nat) : List Bool :=
  ((List.range n).map fun i => !((n : Int) * upB cs k i == 0 || (n : Int) * upB cs k i == n)) ++ ((List.range n).map fun i => !((n : Int) * (n - 1) * dnB cs m i == 0 || (n : Int) * (n - 1) * dnB cs m i == (n : Int) * (n - 1))) ++
    [!true || (covT cs n k m != dueT cs n k m)]
noncomputable def wgt (k : Nat) : Int := [1, 2, 1].getD k 0
noncomputable def pairs9 : List (Nat × Nat) := [(0, 0), (0, 1), (0, 2), (1, 0), (1, 1), (1, 2), (2, 0), (2, 1), (2, 2)]
noncomputable def squaresT (cs : List Int) (n : Nat) : Int := pairs9.foldl (fun t p => t + wgt p.1 * wgt p.2 * dueT cs n p.1 p.2 * dueT cs n p.1 p.2) 0
noncomputable def alongT (cs : List Int) (n : Nat) : Int := [0, 1, 2].foldl (fun t k => t + wgt k * dueT cs n k k) 0
noncomputable def apartT (cs : List Int) (n : Nat) : Int := [0, 1, 2].foldl (fun t k => t + wgt k * (sumR n (upB cs k) - sumR n (dnB cs k)) ^ 2) 0
/-- a table of distances -/
noncomputable def tabT (f : Nat → Int) (i j : Nat) : Int := if j < i then distF (f j) (f i) else distF (f i) (f j)
noncomputable def centT (n : Nat) (f : Nat → Int) (i j : Nat) : Int :=
  n * n * tabT f i j - n * (sumR n (tabT f i) + sumR n (tabT f j)) + sumR n fun i => sumR n (tabT f i)
noncomputable def everyT (cs : List Int) (n : Nat) : Int := sumR n fun i => sumR n fun j => distF (fstW cs i) (sndW cs j)
noncomputable def pairedT (cs : List Int) (n : Nat) : Int := sumR n fun i => distF (fstW cs i) (sndW cs i)
noncomputable def productT (cs : List Int) (n : Nat) : Int := sumI ((List.range n).flatMap fun i => (List.range n).map fun j => centT n (fstW cs) i j * centT n (sndW cs) i j)
noncomputable def toldObl (cs : List Int) (n : Nat) : List Bool :=
  (pairs9.flatMap fun p => oblT cs n p.1 p.2) ++ List.replicate (3 * n) false ++ ((List.range n).map fun i => (distF (fstW cs i) (fstW cs i) != 0) || (distF (sndW cs i) (sndW cs i) != 0)) ++
    [2 * everyT cs n - (sumR n fun i => sumR n (tabT (fstW cs) i)) - (sumR n fun i => sumR n (tabT (sndW cs) i)) != 2 * apartT cs n, n * (everyT cs n - n * pairedT cs n) != 2 * alongT cs n]
theorem told3 (c0 c1 c2 : Int) : (partB [c0, c1, c2]).map (fun o => (o.obl, o.fl)) = some (toldObl [c0, c1, c2] 3, .ret (.bool (productT [c0, c1, c2] 3 == 4 * squaresT [c0, c1, c2] 3))) := by kernel_rfl
theorem told4 (c0 c1 c2 c3 : Int) : (partB [c0, c1, c2, c3]).map (fun o => (o.obl, o.fl)) = some (toldObl [c0, c1, c2, c3] 4, .ret (.bool (productT [c0, c1, c2, c3] 4 == 4 * squaresT [c0, c1, c2, c3] 4))) := by kernel_rfl
theorem told5 (c0 c1 c2 c3 c4 : Int) : (partB [c0, c1, c2, c3, c4]).map (fun o => (o.obl, o.fl)) = some (toldObl [c0, c1, c2, c3, c4] 5, .ret (.bool (productT [c0, c1, c2, c3, c4] 5 == 4 * squaresT [c0, c1, c2, c3, c4] 5))) := by kernel_rfl
theorem part0 : (partA 0 0).map (fun o => (o.obl, o.fl)) = some ([], .next) := by kernel_rfl
theorem part1 : (partA 1 1).map (fun o => (o.obl, o.fl)) = some ([], .next) := by kernel_rfl
theorem part2 : (partA 2 63).map (fun o => (o.obl, o.fl)) = some ([], .next) := by kernel_rfl
end Mine
end

section
namespace Mine

/-- sums -/
theorem sumI_append (xs ys : List Int) : sumI (xs ++ ys) = sumI xs + sumI ys := by
  induction xs with
  | nil => simp [sumI]
  | cons x xs ih =>
    show x + sumI (xs ++ ys) = x + sumI xs + sumI ys
    rw [ih]
    omega
theorem sumR_zero (f : Nat → Int) : sumR 0 f = 0 := rfl
theorem sumR_succ (n : Nat) (f : Nat → Int) : sumR (n + 1) f = sumR n f + f n := by
  unfold sumR
  rw [List.range_succ, List.map_append, sumI_append]
  simp [sumI]
theorem sumR_add (n : Nat) (f h : Nat → Int) : sumR n (fun i => f i + h i) = sumR n f + sumR n h := by
  induction n with
  | zero => rfl
  | succ n ih => rw [sumR_succ, sumR_succ, sumR_succ, ih]; omega
theorem sumR_sub (n : Nat) (f h : Nat → Int) : sumR n (fun i => f i - h i) = sumR n f - sumR n h := by
  induction n with
  | zero => rfl
  | succ n ih => rw [sumR_succ, sumR_succ, sumR_succ, ih]; omega
theorem sumR_mul (n : Nat) (c : Int) (f : Nat → Int) : sumR n (fun i => c * f i) = c * sumR n f := by
  induction n with
  | zero => rw [sumR_zero, sumR_zero, Int.mul_zero]
  | succ n ih => rw [sumR_succ, sumR_succ, ih, Int.mul_add]
theorem sumR_const (n : Nat) (c : Int) : sumR n (fun _ => c) = n * c := by
  induction n with
  | zero => rw [sumR_zero]; simp
  | succ n ih =>
    rw [sumR_succ, ih, Int.natCast_add, Int.add_mul]
    simp
theorem sumR_congr {n : Nat} {f h : Nat → Int} (e : ∀ i, i < n → f i = h i) : sumR n f = sumR n h := by
  induction n with
  | zero => rfl
  | succ n ih => rw [sumR_succ, sumR_succ, ih fun i hi => e i (by omega), e n (by omega)]
theorem sumI_flat (n m : Nat) (f : Nat → Nat → Int) : sumI ((List.range n).flatMap fun i => (List.range m).map (f i)) = sumR n fun i => sumR m (f i) := by
  have : ∀ l : List Nat, sumI (l.flatMap fun i => (List.range m).map (f i)) = sumI (l.map fun i => sumR m (f i)) := by
    intro l
    induction l with
    | nil => rfl
    | cons a l ih =>
      rw [List.flatMap_cons, sumI_append, ih]
      rfl
  exact this _

/-- bits -/
noncomputable def IsBit (x : Int) : Prop := x = 0 ∨ x = 1
theorem IsBit.sq {x : Int} (h : IsBit x) : x * x = x := by rcases h with rfl | rfl <;> rfl

/-- a difference of two marks, by a polynomial -/
noncomputable def dd (x y : Int) : Int := x + y - 2 * (x * y)
theorem dd_of {x y : Int} (hx : IsBit x) (hy : IsBit y) : (if x = y then (0 : Int) else 1) = dd x y := by
  rcases hx with rfl | rfl <;> rcases hy with rfl | rfl <;> rfl
theorem dd2_of {x y : Int} (hx : IsBit x) (hy : IsBit y) : (if x = y then (0 : Int) else 2) = 2 * dd x y := by
  rcases hx with rfl | rfl <;> rcases hy with rfl | rfl <;> rfl
theorem mod2_bit (a : Int) : IsBit (a % 2) := by unfold IsBit; omega
theorem distF_dd (a b : Int) : distF a b = dd (a % 2) (b % 2) + 2 * dd (a / 2 % 2) (b / 2 % 2) + dd (a / 4 % 2) (b / 4 % 2) := by
  unfold distF
  rw [dd_of (mod2_bit _) (mod2_bit _), dd2_of (mod2_bit _) (mod2_bit _), dd_of (mod2_bit _) (mod2_bit _)]

noncomputable def Cells (cs : List Int) (n : Nat) : Prop := ∀ i, i < n → 0 ≤ cs.getD i 0 ∧ cs.getD i 0 ≤ 63

section
variable {cs : List Int} {n : Nat}
theorem fdiv_lit (a : Int) {b : Int} (hb : 0 ≤ b) : a.fdiv b = a / b := Int.fdiv_eq_ediv_of_nonneg a hb
theorem fmod_lit (a : Int) {b : Int} (hb : 0 ≤ b) : a.fmod b = a % b := Int.fmod_eq_emod_of_nonneg a hb

theorem up_bit (k i : Nat) : IsBit (upB cs k i) := by
  unfold upB
  rw [fmod_lit _ (by decide)]
  exact mod2_bit _
theorem dn_bit (m i : Nat) : IsBit (dnB cs m i) := by
  unfold dnB
  rw [fmod_lit _ (by decide)]
  exact mod2_bit _
theorem fst_bits (i : Nat) : fstW cs i % 2 = upB cs 0 i ∧ fstW cs i / 2 % 2 = upB cs 1 i ∧ fstW cs i / 4 % 2 = upB cs 2 i := by
  unfold fstW upB
  generalize cs.getD i 0 = c
  rw [show ((2 : Int) ^ 0) = 1 from rfl, show ((2 : Int) ^ 1) = 2 from rfl, show ((2 : Int) ^ 2) = 4 from rfl]
  simp only [fmod_lit _ (show (0 : Int) ≤ 2 by decide), fmod_lit _ (show (0 : Int) ≤ 8 by decide), fdiv_lit _ (show (0 : Int) ≤ 1 by decide), fdiv_lit _ (show (0 : Int) ≤ 2 by decide), fdiv_lit _ (show (0 : Int) ≤ 4 by decide)]
  refine ⟨?_, ?_, ?_⟩
  · rw [Int.ediv_one]
    omega
  · omega
  · omega
theorem snd_bits (i : Nat) : sndW cs i % 2 = dnB cs 0 i ∧ sndW cs i / 2 % 2 = dnB cs 1 i ∧ sndW cs i / 4 % 2 = dnB cs 2 i := by
  unfold sndW dnB
  generalize cs.getD i 0 = c
  rw [show ((8 : Int) * 2 ^ 0) = 8 from rfl, show ((8 : Int) * 2 ^ 1) = 16 from rfl, show ((8 : Int) * 2 ^ 2) = 32 from rfl]
  simp only [fmod_lit _ (show (0 : Int) ≤ 2 by decide), fdiv_lit _ (show (0 : Int) ≤ 8 by decide), fdiv_lit _ (show (0 : Int) ≤ 16 by decide), fdiv_lit _ (show (0 : Int) ≤ 32 by decide)]
  exact ⟨trivial, by rw [Int.ediv_ediv_of_nonneg (by decide)]; rfl, by rw [Int.ediv_ediv_of_nonneg (by decide)]; rfl⟩

/-- three marks' difference -/
noncomputable def d3 (x y : Nat → Nat → Int) (i j : Nat) : Int := dd (x 0 i) (y 0 j) + 2 * dd (x 1 i) (y 1 j) + dd (x 2 i) (y 2 j)
theorem dist_ff (i j : Nat) : distF (fstW cs i) (fstW cs j) = d3 (upB cs) (upB cs) i j := by
  rw [distF_dd, (fst_bits i).1, (fst_bits i).2.1, (fst_bits i).2.2, (fst_bits j).1, (fst_bits j).2.1, (fst_bits j).2.2]
  rfl
theorem dist_ss (i j : Nat) : distF (sndW cs i) (sndW cs j) = d3 (dnB cs) (dnB cs) i j := by
  rw [distF_dd, (snd_bits i).1, (snd_bits i).2.1, (snd_bits i).2.2, (snd_bits j).1, (snd_bits j).2.1, (snd_bits j).2.2]
  rfl
theorem dist_fs (i j : Nat) : distF (fstW cs i) (sndW cs j) = d3 (upB cs) (dnB cs) i j := by
  rw [distF_dd, (fst_bits i).1, (fst_bits i).2.1, (fst_bits i).2.2, (snd_bits j).1, (snd_bits j).2.1, (snd_bits j).2.2]
  rfl
theorem dd_comm (x y : Int) : dd x y = dd y x := by unfold dd; rw [Int.mul_comm y x]; omega
theorem d3_comm (x y : Nat → Nat → Int) (i j : Nat) : d3 x y i j = d3 y x j i := by
  unfold d3
  rw [dd_comm (x 0 i), dd_comm (x 1 i), dd_comm (x 2 i)]
theorem tab_f (i j : Nat) : tabT (fstW cs) i j = d3 (upB cs) (upB cs) i j := by
  unfold tabT
  split
  · rw [dist_ff, d3_comm]
  · rw [dist_ff]
theorem tab_s (i j : Nat) : tabT (sndW cs) i j = d3 (dnB cs) (dnB cs) i j := by
  unfold tabT
  split
  · rw [dist_ss, d3_comm]
  · rw [dist_ss]
theorem dist_self (a : Int) : distF a a = 0 := by simp [distF]

/-- sums of differences -/
theorem sum_dd_row (n : Nat) (a : Int) (y : Nat → Int) : sumR n (fun j => dd a (y j)) = n * a + sumR n y - 2 * (a * sumR n y) := by
  have e : (fun j => dd a (y j)) = fun j => (a + y j) - (2 * a) * y j := by funext j; unfold dd; rw [Int.mul_assoc]
  rw [e, sumR_sub, sumR_add, sumR_const, sumR_mul, Int.mul_assoc]
theorem sum_dd (n : Nat) (x y : Nat → Int) : sumR n (fun i => sumR n fun j => dd (x i) (y j)) = n * sumR n x + n * sumR n y - 2 * (sumR n x * sumR n y) := by
  have e : (fun i => sumR n fun j => dd (x i) (y j)) = fun i => (n * x i + sumR n y) - (2 * sumR n y) * x i := by
    funext i
    rw [sum_dd_row]
    rw [Int.mul_assoc, Int.mul_comm (sumR n y) (x i)]
  rw [e, sumR_sub, sumR_add, sumR_mul, sumR_const, sumR_mul]
  grind
theorem sum_d3 (n : Nat) (x y : Nat → Nat → Int) : sumR n (fun i => sumR n fun j => d3 x y i j) =
    (sumR n fun i => sumR n fun j => dd (x 0 i) (y 0 j)) + 2 * (sumR n fun i => sumR n fun j => dd (x 1 i) (y 1 j)) + (sumR n fun i => sumR n fun j => dd (x 2 i) (y 2 j)) := by
  unfold d3
  simp only [sumR_add, sumR_mul]

theorem count_bits (x y : Nat → Int) (hx : ∀ i, IsBit (x i)) (hy : ∀ i, IsBit (y i)) : countB ((List.range n).map fun i => (x i == 1) && (y i == 1)) = sumR n fun i => x i * y i := by
  have happ : ∀ a b : List Bool, countB (a ++ b) = countB a + countB b := by
    intro a b
    induction a with
    | nil => simp [countB]
    | cons c a ih => simp only [List.cons_append, countB, ih]; omega
  induction n with
  | zero => rfl
  | succ n ih =>
    rw [List.range_succ, List.map_append, happ, ih, sumR_succ]
    congr 1
    rcases hx n with h | h <;> rcases hy n with h' | h' <;> simp [h, h', countB]

/-- n times what goes with what -/
noncomputable def due (n : Nat) (x y : Nat → Int) : Int := n * (n * (sumR n fun i => x i * y i) - sumR n x * sumR n y)
theorem dueT_is (k m : Nat) : dueT cs n k m = due n (upB cs k) (dnB cs m) := by
  unfold dueT due
  rw [count_bits _ _ (fun i => up_bit k i) fun i => dn_bit m i]

/-- covariance tells what is due -/
theorem covT_is (hn : 2 ≤ n) (k m : Nat) : covT cs n k m = dueT cs n k m := by
  rw [dueT_is]
  unfold covT covZ due
  have e1 : ∀ u : Int, (n : Int) * u / n = u := fun u => Int.mul_ediv_cancel_left u (by omega)
  have hpos : (0 : Int) < (n : Int) * ((n : Int) - 1) := Int.mul_pos (by omega) (by omega)
  have e2 : ∀ u : Int, (n : Int) * (n - 1) * u / (n * (n - 1)) = u := fun u => Int.mul_ediv_cancel_left u (by omega)
  have hs : ∀ f : Nat → Int, ((List.range n).map f).sum = sumR n f := fun f => by
    unfold sumR
    generalize (List.range n).map f = l
    induction l with
    | nil => rfl
    | cons a l ih => rw [List.sum_cons, ih]; rfl
  rw [List.map_map, List.map_map, List.zipWith_map, List.zipWith_self]
  simp only [Function.comp_def, e1, e2, hs]

/-- the energy distance -/
theorem energy : 2 * everyT cs n - (sumR n fun i => sumR n (tabT (fstW cs) i)) - (sumR n fun i => sumR n (tabT (sndW cs) i)) = 2 * apartT cs n := by
  have e1 : everyT cs n = sumR n fun i => sumR n fun j => d3 (upB cs) (dnB cs) i j := by
    unfold everyT
    exact sumR_congr fun i _ => sumR_congr fun j _ => dist_fs i j
  have e2 : (sumR n fun i => sumR n (tabT (fstW cs) i)) = sumR n fun i => sumR n fun j => d3 (upB cs) (upB cs) i j := sumR_congr fun i _ => sumR_congr fun j _ => tab_f i j
  have e3 : (sumR n fun i => sumR n (tabT (sndW cs) i)) = sumR n fun i => sumR n fun j => d3 (dnB cs) (dnB cs) i j := sumR_congr fun i _ => sumR_congr fun j _ => tab_s i j
  rw [e1, e2, e3, sum_d3, sum_d3, sum_d3]
  simp only [sum_dd]
  unfold apartT
  simp only [List.foldl_cons, List.foldl_nil, wgt, List.getD_cons_zero, List.getD_cons_succ]
  generalize sumR n (upB cs 0) = a0
  generalize sumR n (upB cs 1) = a1
  generalize sumR n (upB cs 2) = a2
  generalize sumR n (dnB cs 0) = b0
  generalize sumR n (dnB cs 1) = b1
  generalize sumR n (dnB cs 2) = b2
  grind

theorem sum_dd_diag (n : Nat) (x y : Nat → Int) : sumR n (fun i => dd (x i) (y i)) = sumR n x + sumR n y - 2 * sumR n fun i => x i * y i := by
  unfold dd
  rw [sumR_sub, sumR_add, sumR_mul]

/-- how much nearer the own pairs are -/
theorem nearer : (n : Int) * (everyT cs n - n * pairedT cs n) = 2 * alongT cs n := by
  have e1 : everyT cs n = sumR n fun i => sumR n fun j => d3 (upB cs) (dnB cs) i j := by
    unfold everyT
    exact sumR_congr fun i _ => sumR_congr fun j _ => dist_fs i j
  have e2 : pairedT cs n = sumR n fun i => d3 (upB cs) (dnB cs) i i := by
    unfold pairedT
    exact sumR_congr fun i _ => dist_fs i i
  have e3 : (sumR n fun i => d3 (upB cs) (dnB cs) i i) = (sumR n fun i => dd (upB cs 0 i) (dnB cs 0 i)) + 2 * (sumR n fun i => dd (upB cs 1 i) (dnB cs 1 i)) + (sumR n fun i => dd (upB cs 2 i) (dnB cs 2 i)) := by
    unfold d3
    simp only [sumR_add, sumR_mul]
  rw [e1, e2, sum_d3, sum_dd, sum_dd, sum_dd, e3, sum_dd_diag, sum_dd_diag, sum_dd_diag]
  unfold alongT
  simp only [List.foldl_cons, List.foldl_nil, wgt, List.getD_cons_zero, List.getD_cons_succ, dueT_is, due]
  generalize sumR n (upB cs 0) = a0
  generalize sumR n (upB cs 1) = a1
  generalize sumR n (upB cs 2) = a2
  generalize sumR n (dnB cs 0) = b0
  generalize sumR n (dnB cs 1) = b1
  generalize sumR n (dnB cs 2) = b2
  generalize (sumR n fun i => upB cs 0 i * dnB cs 0 i) = c0
  generalize (sumR n fun i => upB cs 1 i * dnB cs 1 i) = c1
  generalize (sumR n fun i => upB cs 2 i * dnB cs 2 i) = c2
  grind

/-- a mark, centred -/
noncomputable def cc (n : Nat) (x : Nat → Int) (i : Nat) : Int := n * x i - sumR n x
theorem cent_is (f : Nat → Int) (x : Nat → Nat → Int) (h : ∀ i j, tabT f i j = d3 x x i j) (i j : Nat) :
    centT n f i j = -2 * (cc n (x 0) i * cc n (x 0) j + 2 * (cc n (x 1) i * cc n (x 1) j) + cc n (x 2) i * cc n (x 2) j) := by
  unfold centT
  have e0 : ∀ i, sumR n (tabT f i) = sumR n fun j => d3 x x i j := fun i => sumR_congr fun j _ => h i j
  have e1 : (sumR n fun i => sumR n (tabT f i)) = sumR n fun i => sumR n fun j => d3 x x i j := sumR_congr fun i _ => e0 i
  have e2 : ∀ i, (sumR n fun j => d3 x x i j) = (n * x 0 i + sumR n (x 0) - 2 * (x 0 i * sumR n (x 0))) + 2 * (n * x 1 i + sumR n (x 1) - 2 * (x 1 i * sumR n (x 1))) + (n * x 2 i + sumR n (x 2) - 2 * (x 2 i * sumR n (x 2))) := fun i => by
    unfold d3
    simp only [sumR_add, sumR_mul, sum_dd_row]
  rw [e0, e0, e1, sum_d3, h, sum_dd, sum_dd, sum_dd, e2, e2]
  clear e0 e1 e2 h
  unfold d3 cc dd
  generalize sumR n (x 0) = a0
  generalize sumR n (x 1) = a1
  generalize sumR n (x 2) = a2
  grind

theorem sum_cc (n : Nat) (x y : Nat → Int) : sumR n (fun i => cc n x i * cc n y i) = due n x y := by
  have e : (fun i => cc n x i * cc n y i) = fun i => ((n : Int) * n * (x i * y i) - (n * sumR n y) * x i) - ((n * sumR n x) * y i - sumR n x * sumR n y) := by
    funext i
    unfold cc
    grind
  rw [e, sumR_sub, sumR_sub, sumR_sub, sumR_mul, sumR_mul, sumR_mul, sumR_const]
  unfold due
  grind

/-- the distance covariance -/
theorem product_is : productT cs n = 4 * squaresT cs n := by
  unfold productT
  rw [sumI_flat]
  have e : ∀ i j, centT n (fstW cs) i j * centT n (sndW cs) i j =
      (4 * (cc n (upB cs 0) i * cc n (dnB cs 0) i)) * (cc n (upB cs 0) j * cc n (dnB cs 0) j) + (8 * (cc n (upB cs 0) i * cc n (dnB cs 1) i)) * (cc n (upB cs 0) j * cc n (dnB cs 1) j) + (4 * (cc n (upB cs 0) i * cc n (dnB cs 2) i)) * (cc n (upB cs 0) j * cc n (dnB cs 2) j)
      + (8 * (cc n (upB cs 1) i * cc n (dnB cs 0) i)) * (cc n (upB cs 1) j * cc n (dnB cs 0) j) + (16 * (cc n (upB cs 1) i * cc n (dnB cs 1) i)) * (cc n (upB cs 1) j * cc n (dnB cs 1) j) + (8 * (cc n (upB cs 1) i * cc n (dnB cs 2) i)) * (cc n (upB cs 1) j * cc n (dnB cs 2) j)
      + (4 * (cc n (upB cs 2) i * cc n (dnB cs 0) i)) * (cc n (upB cs 2) j * cc n (dnB cs 0) j) + (8 * (cc n (upB cs 2) i * cc n (dnB cs 1) i)) * (cc n (upB cs 2) j * cc n (dnB cs 1) j) + (4 * (cc n (upB cs 2) i * cc n (dnB cs 2) i)) * (cc n (upB cs 2) j * cc n (dnB cs 2) j) := by
    intro i j
    rw [cent_is (fstW cs) (upB cs) tab_f, cent_is (sndW cs) (dnB cs) tab_s]
    generalize cc n (upB cs 0) i = p0
    generalize cc n (upB cs 1) i = p1
    generalize cc n (upB cs 2) i = p2
    generalize cc n (upB cs 0) j = p0'
    generalize cc n (upB cs 1) j = p1'
    generalize cc n (upB cs 2) j = p2'
    generalize cc n (dnB cs 0) i = q0
    generalize cc n (dnB cs 1) i = q1
    generalize cc n (dnB cs 2) i = q2
    generalize cc n (dnB cs 0) j = q0'
    generalize cc n (dnB cs 1) j = q1'
    generalize cc n (dnB cs 2) j = q2'
    grind
  have e2 : (sumR n fun i => sumR n fun j => centT n (fstW cs) i j * centT n (sndW cs) i j) = sumR n fun i =>
      (4 * due n (upB cs 0) (dnB cs 0)) * (cc n (upB cs 0) i * cc n (dnB cs 0) i) + (8 * due n (upB cs 0) (dnB cs 1)) * (cc n (upB cs 0) i * cc n (dnB cs 1) i) + (4 * due n (upB cs 0) (dnB cs 2)) * (cc n (upB cs 0) i * cc n (dnB cs 2) i)
      + (8 * due n (upB cs 1) (dnB cs 0)) * (cc n (upB cs 1) i * cc n (dnB cs 0) i) + (16 * due n (upB cs 1) (dnB cs 1)) * (cc n (upB cs 1) i * cc n (dnB cs 1) i) + (8 * due n (upB cs 1) (dnB cs 2)) * (cc n (upB cs 1) i * cc n (dnB cs 2) i)
      + (4 * due n (upB cs 2) (dnB cs 0)) * (cc n (upB cs 2) i * cc n (dnB cs 0) i) + (8 * due n (upB cs 2) (dnB cs 1)) * (cc n (upB cs 2) i * cc n (dnB cs 1) i) + (4 * due n (upB cs 2) (dnB cs 2)) * (cc n (upB cs 2) i * cc n (dnB cs 2) i) := by
    refine sumR_congr fun i _ => ?_
    have e3 : (fun j => centT n (fstW cs) i j * centT n (sndW cs) i j) = _ := funext fun j => e i j
    rw [e3]
    simp only [sumR_add, sumR_mul, sum_cc]
    grind
  rw [e2]
  simp only [sumR_add, sumR_mul, sum_cc]
  unfold squaresT pairs9
  simp only [List.foldl_cons, List.foldl_nil, wgt, List.getD_cons_zero, List.getD_cons_succ, dueT_is]
  grind
end
end Mine
end

section
namespace Mine
open PySem PySem.Calls PyProof.Rows PySem.W

variable {g : Option (Addr × Addr)} {l : Nat} {X X₀ Y : Addr → Prop} {gv : Gv} {prog : Program} {w : World} {A : Around} {E : Value → Shared → Prop} {s s₀ : Shared} {env : Env} {sc : Sc} {ρ : Ro}

theorem told_fine {cs : List Int} {n : Nat} (hn : 2 ≤ n) : Fine (toldObl cs n) := by
  intro b hb
  unfold toldObl at hb
  simp only [List.mem_append, List.mem_flatMap, List.mem_replicate, List.mem_map, List.mem_cons, List.not_mem_nil, or_false] at hb
  rcases hb with (((⟨p, _, hb⟩ | ⟨_, rfl⟩) | ⟨i, _, rfl⟩) | (rfl | rfl))
  · unfold oblT at hb
    simp only [List.mem_append, List.mem_map, List.mem_cons, List.not_mem_nil, or_false] at hb
    rcases hb with ((⟨i, _, rfl⟩ | ⟨i, _, rfl⟩) | rfl)
    · rcases up_bit (cs := cs) p.1 i with h | h <;> simp [h]
    · rcases dn_bit (cs := cs) p.2 i with h | h <;> simp [h]
    · simp [covT_is hn]
  · rfl
  · simp [dist_self]
  · simp [energy]
  · simp [nearer]

theorem execs_append (ys : List Stmt) : ∀ xs : List Stmt, execs (xs ++ ys) env = (execs xs env >>= fun f => match f with | .next => execs ys env | f => pure f)
  | [] => rfl
  | x :: xs => by
    rw [List.cons_append, execs_cons, execs_cons, bind_assoc]
    congr 1
    funext f
    cases f with
    | next => exact execs_append ys xs
    | _ => rfl
theorem wpAny_execs_append {xs ys : List Stmt} {Q : Flow → Shared → Prop} {M : Model} (h : wpAny M A (execs xs env) (fun f s' => match f with | .next => wpAny M A (execs ys env) Q E s' | f => Q f s') E s) : wpAny M A (execs (xs ++ ys) env) Q E s := by
  rw [execs_append]
  refine wpAny_bind (wpAny_mono h (fun f s' h' => ?_) fun _ _ x => x)
  cases f with
  | next => exact h'
  | _ => exact wpAny_pure h'

/-- what the first part leaves -/
noncomputable def leftA (o : Out) : List Bool × Fl × Option AV × Option AV × Option AV := (o.obl, o.fl, o.ro.lookup ("size" : Str), o.ro.lookup ("letter" : Str), o.ro.lookup ("cells" : Str))
theorem left0 : (partA 0 0).map (leftA) = some ([], .next, some (lit 3), some (.anyInt 0 23), some (.list (List.replicate 3 (.anyInt 0 63)))) := by kernel_rfl
theorem left1 : (partA 1 1).map (leftA) = some ([], .next, some (lit 4), some (.anyInt 0 23), some (.list (List.replicate 4 (.anyInt 0 63)))) := by kernel_rfl
theorem left2 : (partA 2 63).map (leftA) = some ([], .next, some (lit 5), some (.anyInt 0 23), some (.list (List.replicate 5 (.anyInt 0 63)))) := by kernel_rfl
theorem left_all (k : Nat) (hk : k ≤ 63) : ∃ n0 n1 n : Nat, n0 ≤ k ∧ k ≤ n1 ∧ 3 ≤ n ∧ n ≤ 5 ∧ (partA n0 n1).map leftA = some ([], .next, some (lit n), some (.anyInt 0 23), some (.list (List.replicate n (.anyInt 0 63)))) := by
  rcases (show k = 0 ∨ k = 1 ∨ 2 ≤ k by omega) with rfl | rfl | h
  · exact ⟨0, 0, 3, by omega, by omega, by omega, by omega, left0⟩
  · exact ⟨1, 1, 4, by omega, by omega, by omega, by omega, left1⟩
  · exact ⟨2, 63, 5, h, hk, by omega, by omega, left2⟩

theorem partB_all {cs : List Int} (h3 : 3 ≤ cs.length) (h5 : cs.length ≤ 5) : (partB cs).map (fun o => (o.obl, o.fl)) = some (toldObl cs cs.length, .ret (.bool (productT cs cs.length == 4 * squaresT cs cs.length))) := by
  rcases (show cs.length = 3 ∨ cs.length = 4 ∨ cs.length = 5 by omega) with h | h | h
  · obtain ⟨c0, c1, c2, rfl⟩ := len3 h
    exact told3 ..
  · obtain ⟨c0, c1, c2, c3, rfl⟩ := len4 h
    exact told4 ..
  · obtain ⟨c0, c1, c2, c3, c4, rfl⟩ := len5 h
    exact told5 ..
theorem partB_good {cs : List Int} (h3 : 3 ≤ cs.length) (h5 : cs.length ≤ 5) : ∃ ρ' o, partB cs = some ⟨ρ', o, .ret (.bool true)⟩ ∧ Fine o := by
  have h := partB_all h3 h5
  have hp : (productT cs cs.length == 4 * squaresT cs cs.length) = true := by simp [product_is]
  rw [hp] at h
  cases e : partB cs with
  | none => rw [e] at h; cases h
  | some out =>
    obtain ⟨ρ', o, fl⟩ := out
    rw [e] at h
    simp only [Option.map_some, Option.some.injEq, Prod.mk.injEq] at h
    obtain ⟨rfl, rfl⟩ := h
    exact ⟨ρ', _, rfl, told_fine (by omega)⟩

/-- the cells as the ints that they hold -/
theorem cells_ints {h : Heap} {n : Nat} {vs : List Value} (hn : vs.length = n) (hv : ∀ (i : Nat) (v : Value) (x : AV), vs[i]? = some v → (List.replicate n (AV.anyInt 0 63))[i]? = some x → Rep l X h v x) :
    ∃ cs : List Int, cs.length = n ∧ ∀ (l' : Nat) (X' : Addr → Prop) (i : Nat) (v : Value) (x : AV), vs[i]? = some v → (cs.map fun c => AV.int c 0 63)[i]? = some x → Rep l' X' h v x := by
  induction vs generalizing n with
  | nil => subst hn; exact ⟨[], rfl, fun _ _ i v x e _ => by simp at e⟩
  | cons v vs ih =>
    cases n with
    | zero => simp at hn
    | succ n =>
      obtain ⟨cs, h1, h2⟩ := ih (n := n) (by simpa using hn) fun i v x e1 e2 => hv (i + 1) v x (by simpa using e1) (by simpa [List.replicate_succ] using e2)
      have r := hv 0 v (.anyInt 0 63) rfl (by simp [List.replicate_succ])
      obtain ⟨i, t, rfl, a, b⟩ := r.inv
      · refine ⟨i :: cs, by simp [h1], fun l' X' k u x e1 e2 => ?_⟩
        cases k with
        | zero =>
          simp at e1 e2
          subst e1 e2
          exact .int a b
        | succ k => exact h2 l' X' k u x (by simpa using e1) (by simpa using e2)

theorem recell {n : Nat} {s' : Shared} (S : Frm g gv s₀ X₀ sc env) (f : Fst g (some "cells") s₀ 0 X₀ Y sc env ρ s') (h1 : ρ.lookup ("size" : Str) = some (lit n)) (h2 : ρ.lookup ("letter" : Str) = some (.anyInt 0 23)) (h3 : ρ.lookup ("cells" : Str) = some (.list (List.replicate n (.anyInt 0 63)))) :
    ∃ (l : Nat) (cs : List Int), l < 24 ∧ cs.length = n ∧ Fst g Option.none s₀ l X₀ (fun _ => False) sc env [("size", lit cs.length), ("letter", .letter), ("cells", .list (cs.map fun c => .int c 0 63))] s' := by
  obtain ⟨v1, H1, r1⟩ := f.loc.var "size" _ h1 (by decide)
  obtain ⟨v2, H2, r2⟩ := f.loc.var "letter" _ h2 (by decide)
  obtain ⟨D, vs, xs, e, H3, hX, hp, hn, hv⟩ := f.loc.own "cells" _ h3 rfl
  cases e
  obtain ⟨t1, rfl, a1, b1⟩ := r1.inv
  · obtain ⟨i2, t2, rfl, a2, b2⟩ := r2.inv
    · obtain ⟨cs, hcs, hrep⟩ := cells_ints (l := 0) (X := fun b => X₀ b ∨ Y b) (h := s'.heap) (n := n) (by simpa using hn) hv
      have hD := f.ownY "cells" _ D h3 rfl H3
      have ei : i2 = ((i2.toNat : Nat) : Int) := by omega
      refine ⟨i2.toNat, cs, by omega, hcs, ⟨f.base, f.fs, ⟨fun x av hx _ => ?_, fun x av _ ho => by cases ho⟩, fun b hb => hb.elim, fun b hb => hb.elim, fun x av a _ ho _ => by cases ho⟩⟩
      simp only [List.lookup_cons, List.lookup_nil] at hx
      split at hx
      · rename_i q
        have q := eq_of_beq q
        subst q
        cases hx
        exact ⟨_, H1, by rw [hcs]; exact .int (Int.le_refl _) (Int.le_refl _)⟩
      · split at hx
        · rename_i q
          have q := eq_of_beq q
          subst q
          cases hx
          refine ⟨_, H2, ?_⟩
          have : Rep i2.toNat (fun b => X₀ b ∨ False) s'.heap (.int ((i2.toNat : Nat) : Int) t2) .letter := .letter
          rwa [← ei] at this
        · split at hx
          · rename_i q
            have q := eq_of_beq q
            subst q
            cases hx
            refine ⟨_, H3, .list hp.isList (fun q => ?_) (by simp [hcs, hn]) (hrep _ _)⟩
            rcases q with q | q
            · obtain ⟨o, e⟩ := S.old D q
              rw [f.yNew D hD] at e; cases e
            · exact q
          · cases hx

theorem bind_law (pm code doc : Value) (u : Value) : bindArgs (docDef dLaw.name dLaw.params dLaw.body dLaw.scope pm code doc) ⟨[u], []⟩ = pure ([("script" : Str)].zip [u]) := by kernel_rfl

/-- the law's call -/
theorem law_call {c P a : Addr} {o : Obj} {pm code doc : Value} (V : GvOk gv) (K : ConstOk gv theConsts) (hB : BltOk gv) (hsp : gv.v "sumprod" = some (.builtin "math.sumprod")) (hg : g = some (c, P)) (F0 : FnAtT gv dCov c) (F1 : FnAt gv dLev) (F2 : FnAt gv dSub) (F3 : FnAt gv dWord)
    (F4 : FnAt gv dTable) (F5 : FnAt gv dCent) (T : TabOk g s.heap) (G : Gd gv s.heap) (hC : Cx 6 A) (ho : s.heap.get? a = some o) (hd : o.data = .func (docDef dLaw.name dLaw.params dLaw.body dLaw.scope pm code doc)) (hcd : s.heap.CodeRec code dLaw.name)
    {L : Addr} {vs : List Value} (hl : s.heap.IsList L vs.toArray) (hi : ∀ v ∈ vs, ∃ i t, v = .int i t) (hlen : vs.length ≤ 63) {Q : Value → Shared → Prop} (hQ : ∀ s', GKeeps g s s' → Q (.bool true) s') :
    wpAny (model prog w) A (call (.ref a) [.ref L]) Q E s := by
  obtain ⟨n0, n1, n, k0, k1, n3, n5, hleft⟩ := left_all vs.length hlen
  have hps : [("script" : Str)].all (fun p => stk dLaw.scope.names p) = true := by decide +kernel
  have hk : dLaw.scope.kind = .function := by decide +kernel
  refine wpAny_call (codeAny_call_cells (fd := docDef dLaw.name dLaw.params dLaw.body dLaw.scope pm code doc) (by have := hC.depth; have e : recursionLimit = 1000 := rfl; omega) ho hd G.1 hcd rfl (bind_law ..) rfl (fun x hx => ?_) (fun s₁ x => ?_) (show dLaw.scope.isCoroutine = false by decide +kernel) (show dLaw.scope.isGenerator = false by decide +kernel) hk)
  · have h3 := zip_fst ["script"] [.ref L] x.1 (List.mem_map.mpr ⟨x, hx, rfl⟩)
    obtain ⟨hloc, _⟩ := stk_kind (List.all_eq_true.mp hps _ h3)
    rcases hloc with q | q
    · exact .inl q
    · obtain ⟨c, h1, _⟩ := cf_cell dLaw.scope.names (s.heap.objs.size + 1) [] x.1 (lookup_mem q)
      exact .inr ⟨q, by show ((cellsFrom (s.heap.objs.size + 1) dLaw.scope.names []).lookup x.1).isSome = true; rw [h1]; rfl⟩
  · obtain ⟨S, f⟩ := frame_opens (g := g) (own := some "cells") (l := 0) (X₀ := fun _ => False) (as := [.bigInts n0 n1]) rfl rfl hk hps (by decide) (fun x hx => by cases hx; decide) G (fun b hb => hb.elim) T V.obT (.cons (.bigInts hl (fun q => q) k0 k1 hi) .nil) x
    have hC' := hC.deeper (callEnvC (docDef dLaw.name dLaw.params dLaw.body dLaw.scope pm code doc) s.heap.objs.size a)
    have hbody : execs dLaw.body (callEnvC (docDef dLaw.name dLaw.params dLaw.body dLaw.scope pm code doc) s.heap.objs.size a) = execs (dLaw.body.take 4 ++ dLaw.body.drop 4) (callEnvC (docDef dLaw.name dLaw.params dLaw.body dLaw.scope pm code doc) s.heap.objs.size a) := by rw [List.take_append_drop]
    rw [hbody]
    refine wpAny_execs_append ?_
    cases hA : partA n0 n1 with
    | none => rw [hA] at hleft; cases hleft
    | some out =>
      obtain ⟨ρA, oA, flA⟩ := out
      rw [hA] at hleft
      simp only [Option.map_some, Option.some.injEq, leftA, Prod.mk.injEq] at hleft
      obtain ⟨rfl, rfl, q1, q2, q3⟩ := hleft
      have RSA := ex_ok (prog := prog) (w := w) (n := 20) S (cfg := cfgA) (l := 0) V (ev_ok V (fun h => by cases h) (by decide) K noCall_ok) (fun h => by cases h) (fun h => by cases h) hC' 20
      refine RSA _ _ _ hA (fun b hb => nomatch hb) _ _ f _ _ fun Y1 s1 f1 t1 => ?_
      obtain ⟨l, cs, hl24, hcs, fB⟩ := recell S f1 q1 q2 q3
      obtain ⟨ρB, oB, hBrun, hfine⟩ := partB_good (cs := cs) (by omega) (by omega)
      have RSB := ex_ok (prog := prog) (w := w) (n := 20) S (cfg := cfgB) (l := l) V (ev_ok V (fun h => by cases h) hl24 K (law_calls_ok (d := 2) V hl24 K F1 F2 F3 F4 F5)) (fun _ => cov_ok (d := 4) V hl24 K hB hsp hg F0) (fun h => by cases h) hC' 40
      refine RSB _ _ _ hBrun hfine _ _ fB _ _ fun Y2 s2 f2 t2 v hv => ?_
      cases hv
      exact hQ s2 f2.base
end Mine
end

section
namespace Mine
open PySem PySem.Calls PyProof.Rows PySem.W

variable {prog : Program} {w : World} {E : Value → Shared → Prop} {view : Program} {loose : List Str} {mean : ExcName → Option Value} {mg mb : Str → Option Value} {s : Shared}

/-- the names of the top as it stands -/
noncomputable def gvOf (mg mb : Str → Option Value) (h : Heap) : Gv where
  v := fun x => match mg x with
    | some v => some v
    | Option.none => mb x
  ob := fun a o => h.get? a = some o ∧ ∀ vs, o ≠ { cls := .none, data := .fields vs }
  mn := mg

theorem gv_gd (T : Top view loose mean mg mb s.heap) : Gd (gvOf mg mb s.heap) s.heap := by
  refine ⟨T.nolimit, fun a o h => h.1, mg, mb, T.g, T.b, fun x v h => ?_, fun x v h => h⟩
  unfold gvOf at h
  simp only at h
  split at h
  · rename_i u e
    cases h
    exact .inl e
  · rename_i e
    exact .inr ⟨e, h⟩

theorem gv_bound {x : Str} {v : Value} (h : mg x = some v) : (gvOf mg mb s.heap).v x = some v := by
  unfold gvOf
  simp only [h]
theorem gv_builtin {x : Str} {v : Value} (T : Top view loose mean mg mb s.heap) (h1 : x ∉ startupNames) (h2 : x ∉ loose) (h3 : x ∉ (recsOf view).map (·.name)) (h4 : x ∉ (litsOf view).map (·.1)) (h5 : x ∉ (clssOf view loose).map (·.name)) (hn : x ≠ "__name__") (h : bootBuiltins x = some v) : (gvOf mg mb s.heap).v x = some v := by
  unfold gvOf
  simp only [T.free x h1 h2 h3 h4 h5, T.builtins x hn, h]

/-- the names looked up among the built-ins -/
noncomputable def bltNames : List Str := ["range", "enumerate", "zip", "list", "float", "int", "bool", "len", "sum", "chr", "min", "isinstance"]
noncomputable def freeOk (view : Program) (loose : List Str) : Bool := bltNames.all fun x => !(startupNames.contains x) && !(loose.contains x) && !(((recsOf view).map (·.name)).contains x) && !(((litsOf view).map (·.1)).contains x) && !(((clssOf view loose).map (·.name)).contains x)
theorem gv_blt {x : Str} {v : Value} (T : Top view loose mean mg mb s.heap) (hf : freeOk view loose = true) (hx : x ∈ bltNames) (hn : x ≠ "__name__") (h : bootBuiltins x = some v) : (gvOf mg mb s.heap).v x = some v := by
  have := List.all_eq_true.mp hf x hx
  simp only [Bool.and_eq_true, Bool.not_eq_true', List.contains_eq_mem, decide_eq_false_iff_not] at this
  obtain ⟨⟨⟨⟨a, b⟩, c⟩, d⟩, e⟩ := this
  exact gv_builtin T a b c d e hn h

theorem gv_ok (T : Top view loose mean mg mb s.heap) (hf : freeOk view loose = true) (hfs : mg "fsum" = some (.builtin "math.fsum")) : GvOk (gvOf mg mb s.heap) where
  range := gv_blt T hf (by decide +kernel) (by decide) (by kernel_rfl)
  enumerate := gv_blt T hf (by decide +kernel) (by decide) (by kernel_rfl)
  zip := gv_blt T hf (by decide +kernel) (by decide) (by kernel_rfl)
  list := gv_blt T hf (by decide +kernel) (by decide) (by kernel_rfl)
  float := gv_blt T hf (by decide +kernel) (by decide) (by kernel_rfl)
  int := gv_blt T hf (by decide +kernel) (by decide) (by kernel_rfl)
  bool := gv_blt T hf (by decide +kernel) (by decide) (by kernel_rfl)
  len := gv_blt T hf (by decide +kernel) (by decide) (by kernel_rfl)
  sum := gv_blt T hf (by decide +kernel) (by decide) (by kernel_rfl)
  chr := gv_blt T hf (by decide +kernel) (by decide) (by kernel_rfl)
  min := gv_blt T hf (by decide +kernel) (by decide) (by kernel_rfl)
  isinstance := gv_blt T hf (by decide +kernel) (by decide) (by kernel_rfl)
  fsum := gv_bound hfs
  obT := fun a o h => h.2

theorem gv_const {x : Str} {i : Int} (T : Top view loose mean mg mb s.heap) (h : valOf view x = some (.int i)) : ∃ t, (gvOf mg mb s.heap).v x = some (.int i t) := by
  obtain ⟨v, e, r⟩ := T.const x _ h
  obtain ⟨t, rfl⟩ := IsDatum.int (v := v) (i := i) r
  exact ⟨t, gv_bound e⟩
theorem gv_consts (T : Top view loose mean mg mb s.heap) (h1 : valOf view "_MOVE_COST" = some (.int 2)) (h2 : valOf view "_CASE_COST" = some (.int 1)) (h3 : valOf view "_MAX_STRING_SIZE" = some (.int 40)) : ConstOk (gvOf mg mb s.heap) theConsts := by
  intro x i h
  unfold theConsts at h
  simp only [List.lookup_cons, List.lookup_nil] at h
  split at h
  · rename_i q
    cases h
    rw [eq_of_beq q]
    exact gv_const T h1
  · split at h
    · rename_i q
      cases h
      rw [eq_of_beq q]
      exact gv_const T h2
    · split at h
      · rename_i q
        cases h
        rw [eq_of_beq q]
        exact gv_const T h3
      · cases h
theorem gv_blts (T : Top view loose mean mg mb s.heap) : BltOk (gvOf mg mb s.heap) := by
  obtain ⟨bm, ob, h1, h2, h3, h4, h5, h6⟩ := T.bmain
  exact ⟨bm, ob, h1, h2, ⟨h3, fun vs q => by rw [q] at h4; cases h4⟩, h4, h5, h6⟩

/-- a def of the top, with its code and its table -/
theorem gv_fn {d : DefRec} (T : Top view loose mean mg mb s.heap) (hd : d ∈ recsOf view) : ∃ a o pm doc c P, mg d.name = some (.ref a) ∧ (gvOf mg mb s.heap).ob a o ∧ o.data = .func (docDef d.name d.params d.body d.scope pm (.ref c) doc) ∧ s.heap.CodeRec (.ref c) d.name ∧ CodeAt s.heap c P #[] ∧
    ∀ h : Heap, (∀ a o, (gvOf mg mb s.heap).ob a o → h.get? a = some o) → h.CodeRec (.ref c) d.name := by
  obtain ⟨a, o, pm, code, doc, h1, h2, h3, h4⟩ := T.fn d hd
  obtain ⟨a', o', fd, c, P, q1, q2, q3, q4, q5, q6⟩ := T.tab d hd
  rw [h1] at q1
  cases q1
  rw [h2] at q2
  cases q2
  rw [h3] at q3
  cases q3
  have hc : code = .ref c := q4
  subst hc
  refine ⟨a, o, pm, doc, c, P, h1, ⟨h2, fun vs q => by rw [q] at h3; cases h3⟩, h3, h4, ⟨q5, q6⟩, fun h k => ?_⟩
  obtain ⟨c', oc, vs, t, e1, e2, e3, e4⟩ := h4
  cases e1
  obtain ⟨⟨o2, vs2, p1, p2, p3, p4⟩, _⟩ := q6
  rw [e2] at p1
  cases p1
  exact ⟨c, oc, vs, t, rfl, k c oc ⟨e2, fun vs q => by rw [q] at p2; cases p2⟩, e3, e4⟩
theorem gv_fnAt {d : DefRec} (T : Top view loose mean mg mb s.heap) (hd : d ∈ recsOf view) : FnAt (gvOf mg mb s.heap) d := by
  obtain ⟨a, o, pm, doc, c, P, h1, h2, h3, _, _, h6⟩ := gv_fn T hd
  exact ⟨a, o, pm, _, doc, gv_bound h1, h2, h3, h6⟩

/-- what stood stands, but for one table that may have grown -/
theorem oldK_of {g : Option (Addr × Addr)} {c P : Addr} {s s' : Shared} (hg : g = some (c, P)) (x : CodeAt s.heap c P #[]) (k : GKeeps g s s') : OldK s.heap s'.heap := by
  obtain ⟨more, y⟩ := k.tab c P hg _ x
  refine ⟨fun b o e => ?_, fun b o e => ?_⟩
  · by_cases hb : b = P
    · subst hb
      have e0 : o = { cls := .none, data := .fields #[] } := Option.some.inj (e.symm.trans x.2.2)
      subst e0
      exact .inr (.inl ⟨x.2.isCodeTable, rfl, #[], more, rfl, y.2.2⟩)
    · exact .inl (k.keep b o (fun ⟨c', q⟩ => by rw [hg] at q; cases q; exact hb rfl) e)
  · exact k.ex (fun c' P' q => by rw [hg] at q; cases q; exact ⟨_, x⟩) e

/-- the defs that the law reaches stand in the top -/
noncomputable def defsOk (view : Program) : Prop := dCov ∈ recsOf view ∧ dLev ∈ recsOf view ∧ dSub ∈ recsOf view ∧ dWord ∈ recsOf view ∧ dTable ∈ recsOf view ∧ dCent ∈ recsOf view ∧ dLaw ∈ recsOf view

theorem law_end {fa L : Addr} {vs : List Value} {ns : List Int} (T : Top view loose mean mg mb s.heap) (hf : freeOk view loose = true) (hfs : mg "fsum" = some (.builtin "math.fsum")) (hsp : mg "sumprod" = some (.builtin "math.sumprod"))
    (h1 : valOf view "_MOVE_COST" = some (.int 2)) (h2 : valOf view "_CASE_COST" = some (.int 1)) (h3 : valOf view "_MAX_STRING_SIZE" = some (.int 40)) (hdefs : defsOk view) (hgens : s.gens = #[]) (hmg : mg dLaw.name = some (.ref fa))
    (hl : s.heap.IsList L vs.toArray) (hI : IntsAre vs ns) (hlen : ns.length ≤ 63) {Q : Value → Shared → Prop} (hQ : ∀ s', OldK s.heap s'.heap → s'.os = s.os → AllBare s'.gens → Q (.bool true) s') :
    wpAny (model prog w) callerA (call (.ref fa) [.ref L]) Q E s := by
  obtain ⟨d0, d1, d2, d3, d4, d5, d6⟩ := hdefs
  obtain ⟨a0, o0, pm0, doc0, c, P, r1, r2, r3, r4, r5, r6⟩ := gv_fn T d0
  obtain ⟨a, o, pm, doc, c', P', q1, q2, q3, q4, q5, q6⟩ := gv_fn T d6
  rw [hmg] at q1
  cases q1
  refine law_call (g := some (c, P)) (gv_ok T hf hfs) (gv_consts T h1 h2 h3) (gv_blts T) (gv_bound hsp) rfl ⟨a0, o0, pm0, doc0, gv_bound r1, r2, r3, r6⟩ (gv_fnAt T d1) (gv_fnAt T d2) (gv_fnAt T d3) (gv_fnAt T d4) (gv_fnAt T d5)
    (fun c' P' q => by cases q; exact ⟨_, r5⟩) (gv_gd T) ⟨rfl, by decide, by decide⟩ q2.1 q3 q4 hl (fun v hv => ?_) (by rw [hI.length]; exact hlen) fun s' k => ?_
  · clear hl hlen
    induction hI with
    | nil => cases hv
    | cons n t r ih =>
      rcases List.mem_cons.mp hv with rfl | hv
      · exact ⟨_, _, rfl⟩
      · exact ih hv
  · refine hQ s' (oldK_of rfl r5 k) ?_ ?_
    · obtain ⟨h', tk, gs, rfl, _⟩ := k
      rfl
    · obtain ⟨h', tk, gs, rfl, _, hb, _⟩ := k
      exact hb (by rw [hgens]; exact fun y hy => by simp at hy)
end Mine
end

open PySem PySem.W PyProof.Rows
set_option maxRecDepth 100000 in
set_option maxHeartbeats 8000000 in
theorem PySem.Challenge.cw_rl0032_01_holds : PySem.Challenge.rw_rl0032_01.Holds := by
  w_on
  o_law
  k_head
  (case hw => w_witness2)
  w_strict (
    k_fill
    intro w s₀ s₁ mg mb G Y fa o pm cd doc dV kV ho hd hcd hD hmg hg args vals as hpre hlay hrd hwl hlo
    have X := (Ground.X G).1
    refine Ground.open G ?_
    intro T B D TE TW
    wrow_args hpre hlay hrd hwl hlo
    have KX := kIn_of Y
    have hfs : mg "fsum" = some (.builtin "math.fsum") := mg_of KX T.g (by kernel_rfl)
    have hsp : mg "sumprod" = some (.builtin "math.sumprod") := mg_of KX T.g (by kernel_rfl)
    refine Mine.law_end T (by decide +kernel) hfs hsp (by kernel_rfl) (by kernel_rfl) (by kernel_rfl) ?_ hg hmg (by assumption) (by assumption) (by omega) fun s' ok os bare => ?_
    · refine ⟨?_, ?_, ?_, ?_, ?_, ?_, ?_⟩
      · exact List.mem_of_find?_eq_some (p := fun d : DefRec => d.name == ("covariance" : PySem.Str)) (by kernel_rfl)
      · exact List.mem_of_find?_eq_some (p := fun d : DefRec => d.name == ("_levenshtein_distance" : PySem.Str)) (by kernel_rfl)
      · exact List.mem_of_find?_eq_some (p := fun d : DefRec => d.name == ("_substitution_cost" : PySem.Str)) (by kernel_rfl)
      · exact List.mem_of_find?_eq_some (p := fun d : DefRec => d.name == ("_law_word" : PySem.Str)) (by kernel_rfl)
      · exact List.mem_of_find?_eq_some (p := fun d : DefRec => d.name == ("_law_table" : PySem.Str)) (by kernel_rfl)
      · exact List.mem_of_find?_eq_some (p := fun d : DefRec => d.name == ("_law_centred" : PySem.Str)) (by kernel_rfl)
      · exact List.mem_of_find?_eq_some (p := fun d : DefRec => d.name == ("law" : PySem.Str)) (by kernel_rfl)
    · refine ⟨.inl ⟨_, _, _, rfl, fun cls => ?_, .bool true, ?_, unshared_nil⟩, ok, os, bare⟩
      · rfl
      · wrow_post)
