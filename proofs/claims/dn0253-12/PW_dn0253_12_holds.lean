import PyProof.Rows.All
import Wide.All
import OpenK.AllK
import Wide.FinOn
import KE.KxBytes
import PySem.Challenge.RW_dn0253_12
set_option Elab.async false
set_option linter.all false
set_option bootstrap.genMatcherCode false
set_option genSizeOf false
section
set_option autoImplicit false
namespace Mine

inductive V where
  | none
  | bool (b : Bool)
  | int (i : Int)
  | str (s : List Nat)
  | bytes
  | tup (xs : List V)
  | list (xs : List V)
  | dict (es : List (List Nat × List Nat))
  | view (es : List (List Nat × List Nat))
  | range (a b c : Int)
  | loc (i : Nat)

inductive Obj where
  | list (xs : List V)
  | dict (es : List (List Nat × List Nat))
    | iter (k : Nat) (p : Option Nat)

inductive K where
  | value | index | type
deriving DecidableEq

inductive Err where
  | exc (k : K)
  | stuck
deriving DecidableEq

noncomputable abbrev R := Except Err
noncomputable def stuck {α : Type} : R α := .error .stuck
noncomputable def raise {α : Type} (k : K) : R α := .error (.exc k)
noncomputable def ofO {α : Type} : Option α → R α
  | some a => .ok a
  | none => stuck

noncomputable abbrev Store := List Obj
noncomputable def big : Nat := 16777216

noncomputable def mapO {α β : Type} (f : α → Option β) : List α → Option (List β)
  | [] => some []
  | x :: xs => match f x with
    | none => none
    | some y => match mapO f xs with
      | none => none
      | some ys => some (y :: ys)
noncomputable def mapR {α β : Type} (f : α → R β) : List α → R (List β)
  | [] => .ok []
  | x :: xs => match f x with
    | .error e => .error e
    | .ok y => match mapR f xs with
      | .error e => .error e
      | .ok ys => .ok (y :: ys)

noncomputable def reso : Nat → Store → V → Option V
  | _, _, .none => some .none
  | _, _, .bool b => some (.bool b)
  | _, _, .int i => some (.int i)
  | _, _, .str s => some (.str s)
  | n + 1, st, .tup xs => (mapO (reso n st) xs).map .tup
  | n + 1, st, .list xs => (mapO (reso n st) xs).map .list
  | n + 1, st, .loc i => match st[i]? with
    | some (.list xs) => (mapO (reso n st) xs).map .list
    | _ => none
  | _, _, _ => none

mutual
noncomputable def V.eqv : V → V → Bool
  | .none, .none => true
  | .bool a, .bool b => a == b
  | .bool a, .int j => (if a then 1 else 0) == j
  | .int i, .bool b => i == (if b then 1 else 0)
  | .int i, .int j => i == j
  | .str x, .str y => x == y
  | .list xs, .list ys => V.eqvs xs ys
  | .tup xs, .tup ys => V.eqvs xs ys
  | _, _ => false
noncomputable def V.eqvs : List V → List V → Bool
  | [], [] => true
  | x :: xs, y :: ys => V.eqv x y && V.eqvs xs ys
  | _, _ => false
end

noncomputable def eqVal (st : Store) (a b : V) : R Bool := match reso 64 st a, reso 64 st b with
  | some x, some y => .ok (V.eqv x y)
  | _, _ => stuck

noncomputable def items (st : Store) : V → Option (List V)
  | .list xs => some xs
  | .loc i => match st[i]? with
    | some (.list xs) => some xs
    | _ => none
  | _ => none
noncomputable def dictOf (st : Store) : V → Option (List (List Nat × List Nat))
  | .dict es => some es
  | .loc i => match st[i]? with
    | some (.dict es) => some es
    | _ => none
  | _ => none

noncomputable def rangeInts (a b c : Int) : List Int :=
  if 0 < c then (List.range ((b - a + c - 1) / c).toNat).map fun i => a + c * (i : Nat)
  else if c < 0 then (List.range ((a - b + (-c) - 1) / (-c)).toNat).map fun i => a + c * (i : Nat)
  else []

noncomputable def iterV (st : Store) : V → Option (List V)
  | .str s => some (s.map fun c => .str [c])
  | .tup xs => some xs
  | .range a b c => some ((rangeInts a b c).map .int)
  | .dict es => some (es.map fun p => .str p.1)
  | v => items st v

noncomputable def truth (st : Store) : V → Option Bool
  | .none => some false
  | .bool b => some b
  | .int i => some (i != 0)
  | .str s => some (!s.isEmpty)
  | .list xs => some (!xs.isEmpty)
  | .loc i => match st[i]? with
    | some (.list xs) => some (!xs.isEmpty)
    | _ => none
  | _ => none

set_option genInjectivity false in
inductive BOp where
  | add | sub | mul | fdiv | mod
set_option genInjectivity false in
inductive COp where
  | eq | ne | lt | gt | le | ge | isin | notin

noncomputable def strOf : V → Option (List Nat)
  | .str s => some s
  | _ => none
noncomputable def intOf : V → Option Int
  | .int i => some i
  | _ => none

noncomputable def intOp (f : Int → Int → R V) (a b : V) : R V := match intOf a with
  | some x => match intOf b with
    | some y => f x y
    | none => stuck
  | none => stuck
noncomputable def addL (st : Store) (a b : V) : R V := match items st a with
  | some xs => match items st b with
    | some ys => if xs.length + ys.length ≤ big then .ok (.list (xs ++ ys)) else stuck
    | none => stuck
  | none => stuck
noncomputable def addV (st : Store) (a b : V) : R V := match a with
  | .int _ => intOp (fun x y => .ok (.int (x + y))) a b
  | .str x => match strOf b with
    | some y => if x.length + y.length ≤ big then .ok (.str (x ++ y)) else stuck
    | none => stuck
  | _ => addL st a b
noncomputable def mulL (st : Store) (a b : V) : R V := match items st a with
  | some xs => match intOf b with
    | some n => if 0 ≤ n ∧ n < 1000 ∧ xs.length ≤ 1000 then .ok (.list (List.replicate n.toNat xs).flatten) else stuck
    | none => stuck
  | none => stuck
noncomputable def binop (st : Store) (op : BOp) (a b : V) : R V := match op with
  | .add => addV st a b
  | .sub => intOp (fun x y => .ok (.int (x - y))) a b
  | .mul => mulL st a b
  | .fdiv => intOp (fun x y => if 0 < y ∧ y < 1000 then .ok (.int (x.fdiv y)) else stuck) a b
  | .mod => intOp (fun x y => if y = 0 then stuck else .ok (.int (x.fmod y))) a b

noncomputable def isIn (st : Store) (a b : V) : R Bool :=
  match a, b with
  | .str [c], .str s => .ok (s.contains c)
  | .str k, .dict es => .ok (es.any fun p => p.1 == k)
  | .str k, b => match dictOf st b with
    | some es => .ok (es.any fun p => p.1 == k)
    | none => match items st b with
      | some xs => match mapO strOf xs with
        | some ss => .ok (ss.contains k)
        | none => stuck
      | none => stuck
  | _, _ => stuck

noncomputable def cmpop (st : Store) (op : COp) (a b : V) : R Bool :=
  match op, a, b with
  | .eq, .bytes, .str _ => .ok false
  | .eq, a, b => eqVal st a b
  | .ne, .bytes, _ => stuck
  | .ne, a, b => match eqVal st a b with
    | .ok r => .ok (!r)
    | .error e => .error e
  | .lt, .int x, .int y => .ok (decide (x < y))
  | .gt, .int x, .int y => .ok (decide (y < x))
  | .le, .int x, .int y => .ok (decide (x ≤ y))
  | .ge, .int x, .int y => .ok (decide (y ≤ x))
  | .isin, a, b => isIn st a b
  | .notin, a, b => match isIn st a b with
    | .ok r => .ok (!r)
    | .error e => .error e
  | _, _, _ => stuck

noncomputable def place (n : Nat) (i : Int) : Option Nat :=
  if 0 ≤ i then (if i < n then some i.toNat else none) else (if -(n : Int) ≤ i then some (n + i).toNat else none)

noncomputable def index (st : Store) (a i : V) : R V :=
  match a, i with
  | .str s, .int i => match place s.length i with
    | some k => match s[k]? with
      | some c => .ok (.str [c])
      | none => stuck
    | none => if i.natAbs ≤ 1000000 then raise .index else stuck
  | .tup xs, .int i => match place xs.length i with
    | some k => ofO xs[k]?
    | none => stuck
  | a, .int i => match items st a with
    | some xs => match place xs.length i with
      | some k => ofO xs[k]?
      | none => stuck
    | none => stuck
  | a, .str k => match dictOf st a with
    | some es => match es.find? (fun p => p.1 == k) with
      | some p => .ok (.str p.2)
      | none => stuck
    | none => stuck
  | _, _ => stuck

noncomputable def clamp (n : Nat) (i : Int) : Nat := if 0 ≤ i then min i.toNat n else (n + i).toNat
noncomputable def sliceL {α : Type} (lo hi : Option Int) (xs : List α) : List α :=
  let n := xs.length
  let l := match lo with | some i => clamp n i | none => 0
  let h := match hi with | some i => clamp n i | none => n
  (xs.drop l).take (h - l)
noncomputable def every {α : Type} (k : Nat) : Nat → List α → List α
  | _, [] => []
  | 0, x :: xs => x :: every k (k - 1) xs
  | n + 1, _ :: xs => every k n xs

set_option genInjectivity false in
inductive Step where
  | one | back | every (k : Nat)

noncomputable def bound : Option V → Option (Option Int)
  | some (.int i) => some (some i)
  | none => some none
  | _ => none
noncomputable def sliceV (st : Store) (a : V) (lo hi : Option V) (sp : Step) : R V :=
  match bound lo, bound hi with
  | some lo', some hi' => match sp with
    | .one => match a with
      | .str s => .ok (.str (sliceL lo' hi' s))
      | a => match items st a with
        | some xs => .ok (.list (sliceL lo' hi' xs))
        | none => stuck
    | _ => stuck
  | _, _ => stuck

noncomputable def splitC (c : Nat) : List Nat → List (List Nat)
  | [] => [[]]
  | x :: xs => if x = c then [] :: splitC c xs else match splitC c xs with
    | y :: ys => (x :: y) :: ys
    | [] => [[x]]
noncomputable def split2 (c : Nat) : List Nat → List (List Nat)
  | [] => [[]]
  | [x] => [[x]]
  | x :: y :: xs => if x = c ∧ y = c then [] :: split2 c xs else match split2 c (y :: xs) with
    | z :: zs => (x :: z) :: zs
    | [] => [[x]]
noncomputable def splitOne (c : Nat) : List Nat → List (List Nat)
  | [] => [[]]
  | x :: xs => if x = c then [[], xs] else match splitOne c xs with
    | y :: ys => (x :: y) :: ys
    | [] => [[x]]
noncomputable def findC (c : Nat) (s : List Nat) : Int := match s.findIdx? (· == c) with
  | some i => (i : Int)
  | none => -1
noncomputable def isSpace (c : Nat) : Bool := c = 32 || (9 ≤ c && c ≤ 13)
noncomputable def strip (s : List Nat) : List Nat := ((s.dropWhile isSpace).reverse.dropWhile isSpace).reverse
noncomputable def plainSign (c : Nat) : Bool := c < 28 || (32 ≤ c && c < 128)
noncomputable def replaceC (c : Nat) (t : List Nat) (s : List Nat) : List Nat := s.flatMap fun x => if x = c then t else [x]
noncomputable def joinL (sep : List Nat) : List (List Nat) → List Nat
  | [] => []
  | [x] => x
  | x :: y :: r => x ++ sep ++ joinL sep (y :: r)

set_option genInjectivity false in
inductive Prim where
  | len | range | sum | min2 | view | listOf | dictOf | tupleOf | isList
  | split | split1 | find | strip | replace (c : Nat) (t : List Nat) | join | get

noncomputable def dput (es : List (List Nat × List Nat)) (k v : List Nat) : List (List Nat × List Nat) :=
  if es.any (fun p => p.1 == k) then es.map fun p => if p.1 = k then (p.1, v) else p else es ++ [(k, v)]

noncomputable def pLen (st : Store) : List V → R V
  | [a] => match strOf a with
    | some s => .ok (.int s.length)
    | none => match items st a with
      | some xs => .ok (.int xs.length)
      | none => stuck
  | _ => stuck
noncomputable def pRange : List V → R V
  | [.int n] => if 0 ≤ n ∧ n ≤ 1000000 then .ok (.range 0 n 1) else stuck
  | _ => stuck
noncomputable def pSum (st : Store) : List V → R V
  | [a] => match items st a with
    | some xs => match mapO intOf xs with
      | some is => .ok (.int is.sum)
      | none => stuck
    | none => stuck
  | _ => stuck
noncomputable def pMin : List V → R V
  | [.int a, .int b] => .ok (.int (if b < a then b else a))
  | _ => stuck
noncomputable def pView : List V → R V
  | [.dict es] => .ok (.view es)
  | _ => stuck
noncomputable def pListOf : List V → R V
  | [.view es] => .ok (.list (es.map fun p => .tup [.str p.1, .str p.2]))
  | _ => stuck
noncomputable def pDictOf (st : Store) : List V → R V
  | _ => stuck
noncomputable def pTupleOf (st : Store) : List V → R V
  | [a] => match items st a with
    | some xs => .ok (.tup xs)
    | none => stuck
  | _ => stuck
noncomputable def pIsList (st : Store) : List V → R V
  | [a] => match items st a with
    | some _ => .ok (.bool true)
    | none => stuck
  | _ => stuck
noncomputable def pSplit : List V → R V
  | [.str s, .str [c]] => if s.length ≤ 1000000 then .ok (.list ((splitC c s).map .str)) else stuck
  | [.str s, .str [c, d]] => if c = d ∧ s.length ≤ 1000000 then .ok (.list ((split2 c s).map .str)) else stuck
  | _ => stuck
noncomputable def pSplit1 : List V → R V
  | [.str s, .str [c], .int n] => if n = 1 ∧ s.length ≤ 1000000 then .ok (.list ((splitOne c s).map .str)) else stuck
  | _ => stuck
noncomputable def pFind : List V → R V
  | [.str s, .str [c]] => .ok (.int (findC c s))
  | _ => stuck
noncomputable def pStrip : List V → R V
  | [.str s] => .ok (.str (strip s))
  | _ => stuck
noncomputable def pReplace (c : Nat) (t : List Nat) : List V → R V
  | [.str s] => if s.length ≤ 1000000 then .ok (.str (replaceC c t s)) else stuck
  | _ => stuck
noncomputable def sumLen : List (List Nat) → Nat
  | [] => 0
  | x :: xs => x.length + sumLen xs
noncomputable def pJoin (st : Store) : List V → R V
  | [.str sep, a] => match items st a with
    | some xs => match mapO strOf xs with
      | some ss => if sep.length ≤ 16 ∧ sumLen ss + ss.length ≤ 1000000 then .ok (.str (joinL sep ss)) else stuck
      | none => stuck
    | none => stuck
  | _ => stuck
noncomputable def pGet (st : Store) : List V → R V
  | [a, .str k, d] => match dictOf st a with
    | some es => match es.find? (fun p => p.1 == k) with
      | some p => .ok (.str p.2)
      | none => .ok d
    | none => stuck
  | _ => stuck

noncomputable def prim (st : Store) : Prim → List V → R V
  | .len => pLen st
  | .range => pRange
  | .sum => pSum st
  | .min2 => pMin
  | .view => pView
  | .listOf => pListOf
  | .dictOf => pDictOf st
  | .tupleOf => pTupleOf st
  | .isList => pIsList st
  | .split => pSplit
  | .split1 => pSplit1
  | .find => pFind
  | .strip => pStrip
  | .replace c t => pReplace c t
  | .join => pJoin st
  | .get => pGet st

noncomputable def methR (st : Store) (p : Prim) (x : V) : R (List V) → R V
  | .error _ => stuck
  | .ok xs => prim st p (x :: xs)

set_option genInjectivity false in
inductive CE where
  | none
  | bool (b : Bool)
  | int (i : Int)
  | str (s : List Nat)
  | bytes
  | var (x : Nat)
  | bin (op : BOp) (a b : CE)
  | not (a : CE)
  | and (a b : CE)
  | or (a b : CE)
  | cmp (op : COp) (a b : CE)
  | ite (t a b : CE)
  | tup (es : List CE)
  | list (es : List CE)
  | idx (a i : CE)
  | slice (a : CE) (lo hi : Option CE) (sp : Step)
  | comp (elt : CE) (k : Option Nat) (it : CE) (cond : Option CE)
  | call (f : Nat) (as : List CE)
  | prim (p : Prim) (as : List CE)
  | meth (p : Prim) (o : CE) (as : List CE)

noncomputable abbrev Vars := List (Option V)
noncomputable abbrev Phi := Nat → Store → List V → R V

noncomputable def bindNew (k : Option Nat) (x : V) : R Vars :=
  match k with
  | none => .ok [some x]
  | some k => match x with
    | .tup xs => if xs.length = k then .ok (xs.map some) else stuck
    | _ => stuck

noncomputable def compLoop (f : V → R (Option V)) : List V → R (List V)
  | [] => .ok []
  | x :: xs => match f x with
    | .error e => .error e
    | .ok o => match compLoop f xs with
      | .error e => .error e
      | .ok ys => .ok (match o with | some y => y :: ys | .none => ys)

mutual
noncomputable def evalE (F : Phi) (st : Store) : CE → Vars → R V
  | .none, _ => .ok .none
  | .bool b, _ => .ok (.bool b)
  | .int i, _ => .ok (.int i)
  | .str s, _ => .ok (.str s)
  | .bytes, _ => .ok .bytes
  | .var x, ρ => match ρ[x]? with
    | some (some v) => .ok v
    | _ => stuck
  | .bin op a b, ρ => match evalE F st a ρ with
    | .error e => .error e
    | .ok x => match evalE F st b ρ with
      | .error e => .error e
      | .ok y => binop st op x y
  | .not a, ρ => match evalE F st a ρ with
    | .error e => .error e
    | .ok x => match truth st x with
      | some b => .ok (.bool !b)
      | .none => stuck
  | .and a b, ρ => match evalE F st a ρ with
    | .error e => .error e
    | .ok x => match truth st x with
      | some true => evalE F st b ρ
      | some false => .ok x
      | .none => stuck
  | .or a b, ρ => match evalE F st a ρ with
    | .error e => .error e
    | .ok x => match truth st x with
      | some true => .ok x
      | some false => evalE F st b ρ
      | .none => stuck
  | .cmp op a b, ρ => match evalE F st a ρ with
    | .error e => .error e
    | .ok x => match evalE F st b ρ with
      | .error e => .error e
      | .ok y => match cmpop st op x y with
        | .error e => .error e
        | .ok r => .ok (.bool r)
  | .ite t a b, ρ => match evalT F st t ρ with
    | .error e => .error e
    | .ok true => evalE F st a ρ
    | .ok false => evalE F st b ρ
  | .tup es, ρ => match evalEs F st es ρ with
    | .error e => .error e
    | .ok xs => .ok (.tup xs)
  | .list es, ρ => match evalEs F st es ρ with
    | .error e => .error e
    | .ok xs => .ok (.list xs)
  | .idx a i, ρ => match evalE F st a ρ with
    | .error e => .error e
    | .ok x => match evalE F st i ρ with
      | .error e => .error e
      | .ok y => index st x y
  | .slice a lo hi sp, ρ => match evalE F st a ρ with
    | .error e => .error e
    | .ok x => match evalO F st lo ρ with
      | .error e => .error e
      | .ok l => match evalO F st hi ρ with
        | .error e => .error e
        | .ok h => sliceV st x l h sp
  | .comp elt k it cond, ρ => match evalE F st it ρ with
    | .error e => .error e
    | .ok s => match iterV st s with
      | .none => stuck
      | some xs => match compLoop (fun x => match bindNew k x with
          | .error e => .error e
          | .ok new => match evalC F st cond (ρ ++ new) with
            | .error e => .error e
            | .ok false => .ok .none
            | .ok true => match evalE F st elt (ρ ++ new) with
              | .error e => .error e
              | .ok y => .ok (some y)) xs with
        | .error _ => stuck
        | .ok ys => if xs.length ≤ big then .ok (.list ys) else stuck
  | .call f as, ρ => match evalEs F st as ρ with
    | .error e => .error e
    | .ok xs => F f st xs
  | .prim p as, ρ => match evalEs F st as ρ with
    | .error e => .error e
    | .ok xs => prim st p xs
  | .meth p o as, ρ => match evalE F st o ρ with
    | .error e => .error e
    | .ok x => methR st p x (evalEs F st as ρ)
noncomputable def evalT (F : Phi) (st : Store) : CE → Vars → R Bool
  | .not a, ρ => match evalT F st a ρ with
    | .error e => .error e
    | .ok b => .ok !b
  | .and a b, ρ => match evalT F st a ρ with
    | .error e => .error e
    | .ok true => evalT F st b ρ
    | .ok false => .ok false
  | .or a b, ρ => match evalT F st a ρ with
    | .error e => .error e
    | .ok true => .ok true
    | .ok false => evalT F st b ρ
  | .cmp op a b, ρ => match evalE F st a ρ with
    | .error e => .error e
    | .ok x => match evalE F st b ρ with
      | .error e => .error e
      | .ok y => cmpop st op x y
  | .ite t a b, ρ => match evalT F st t ρ with
    | .error e => .error e
    | .ok true => evalT F st a ρ
    | .ok false => evalT F st b ρ
  | .var x, ρ => match ρ[x]? with
    | some (some v) => ofO (truth st v)
    | _ => stuck
  | .bool b, _ => .ok b
  | .prim p as, ρ => match evalEs F st as ρ with
    | .error e => .error e
    | .ok xs => match prim st p xs with
      | .error e => .error e
      | .ok v => ofO (truth st v)
  | _, _ => stuck
noncomputable def evalC (F : Phi) (st : Store) : Option CE → Vars → R Bool
  | .none, _ => .ok true
  | some e, ρ => evalT F st e ρ
noncomputable def evalO (F : Phi) (st : Store) : Option CE → Vars → R (Option V)
  | .none, _ => .ok .none
  | some e, ρ => match evalE F st e ρ with
    | .error e => .error e
    | .ok v => .ok (some v)
noncomputable def evalEs (F : Phi) (st : Store) : List CE → Vars → R (List V)
  | [], _ => .ok []
  | e :: es, ρ => match evalE F st e ρ with
    | .error e => .error e
    | .ok x => match evalEs F st es ρ with
      | .error e => .error e
      | .ok xs => .ok (x :: xs)
end

set_option genInjectivity false in
inductive AE where
  | old (e : CE)
  | newl (es : List AE)
  | tup (es : List AE)
  | cat (a b : CE)
  | newd
  | iter (e : CE)

mutual
noncomputable def evalA (F : Phi) : AE → Vars → Store → R (V × Store)
  | .old e, ρ, st => match evalE F st e ρ with
    | .error e => .error e
    | .ok v => .ok (v, st)
  | .newl es, ρ, st => match evalAs F es ρ st with
    | .error e => .error e
    | .ok (vs, st') => .ok (.loc st'.length, st' ++ [.list vs])
  | .tup es, ρ, st => match evalAs F es ρ st with
    | .error e => .error e
    | .ok (vs, st') => .ok (.tup vs, st')
  | .cat a b, ρ, st => match evalE F st a ρ with
    | .error e => .error e
    | .ok x => match evalE F st b ρ with
      | .error e => .error e
      | .ok y => match binop st .add x y with
        | .ok (.list vs) => .ok (.loc st.length, st ++ [.list vs])
        | _ => stuck
  | .newd, _, st => .ok (.loc st.length, st ++ [.dict []])
  | .iter e, ρ, st => match evalE F st e ρ with
    | .ok (.loc k) => match st[k]? with
      | some (.list _) => .ok (.loc st.length, st ++ [.iter k (some 0)])
      | _ => stuck
    | _ => stuck
noncomputable def evalAs (F : Phi) : List AE → Vars → Store → R (List V × Store)
  | [], _, st => .ok ([], st)
  | e :: es, ρ, st => match evalA F e ρ st with
    | .error e => .error e
    | .ok (v, st') => match evalAs F es ρ st' with
      | .error e => .error e
      | .ok (vs, st'') => .ok (v :: vs, st'')
end

set_option genInjectivity false in
inductive Tgt where
  | one (x : Nat)
  | many (xs : List Nat)
deriving DecidableEq

set_option genInjectivity false in
inductive CS where
  | assign (t : Tgt) (e : AE)
  | assign2 (x y : Nat) (e : CE)
  | setItem (o i e : CE)
  | append (o : CE) (e : AE)
  | expr (e : CE)
  | aug (x : Nat) (e : CE)
  | ifs (t : CE) (a b : List CS)
  | for_ (t : Tgt) (it : CE) (body : List CS)
  | while_ (t : CE) (body : List CS)
  | ret (e : CE)
  | cont
  | try_ (body : List CS) (hs : List (K × CS))
  | got (x f y : Nat) (z : CE)
  | retI (f y : Nat)
  | retIs (f y : Nat)

structure St where
  vars : Vars
  store : Store

inductive Out where
  | next (s : St)
  | cont (s : St)
  | ret (v : V) (s : St)
  | exc (k : K) (s : St)
  | stuck

noncomputable def unpackV (st : Store) (k : Nat) : V → R (List V)
  | .tup xs => if xs.length = k then .ok xs else stuck
  | v => match items st v with
    | some xs => if xs.length = k then .ok xs else if xs.length = 1 ∧ k = 2 then raise .value else stuck
    | none => stuck

noncomputable def setVars : List Nat → List V → Vars → Vars
  | x :: xs, v :: vs, ρ => setVars xs vs (ρ.set x (some v))
  | _, _, ρ => ρ

noncomputable def bindT (t : Tgt) (v : V) (s : St) : Out :=
  match t with
  | .one x => .next { s with vars := s.vars.set x (some v) }
  | .many xs => match unpackV s.store xs.length v with
    | .ok vs => .next { s with vars := setVars xs vs s.vars }
    | .error (.exc k) => .exc k s
    | .error .stuck => .stuck

noncomputable def Out.ofErr (s : St) : Err → Out
  | .exc k => .exc k s
  | .stuck => .stuck

noncomputable def forLoop (turn : V → St → Out) : List V → St → Out
  | [], s => .next s
  | x :: xs, s => match turn x s with
    | .next s' => forLoop turn xs s'
    | .cont s' => forLoop turn xs s'
    | o => o
noncomputable def whileLoop (test : St → R Bool) (body : St → Out) : Nat → St → Out
  | 0, _ => .stuck
  | n + 1, s => match test s with
    | .error _ => .stuck
    | .ok false => .next s
    | .ok true => match body s with
      | .next s' => whileLoop test body n s'
      | .cont s' => whileLoop test body n s'
      | .ret v s' => .ret v s'
      | _ => .stuck

noncomputable def augV (a b : V) : R V :=
  match a, b with
  | .str x, .str y => if x.length + y.length ≤ big then .ok (.str (x ++ y)) else stuck
  | .str _, .none => raise .type
  | .str _, .int _ => raise .type
  | .str _, .bytes => raise .type
  | .str _, .list _ => raise .type
  | _, _ => stuck

noncomputable def locOf : V → Option Nat
  | .loc i => some i
  | _ => none

noncomputable def nextIt (st : Store) (j : Nat) : Option (Option V × Store) := match st[j]? with
  | some (.iter _ none) => some (none, st)
  | some (.iter k (some p)) => match st[k]? with
    | some (.list xs) => match xs[p]? with
      | some x => some (some x, st.set j (.iter k (some (p + 1))))
      | none => some (none, st.set j (.iter k none))
    | _ => none
  | _ => none
noncomputable def forIter (turn : V → St → Out) (j : Nat) : Nat → St → Out
  | 0, _ => .stuck
  | n + 1, s => match nextIt s.store j with
    | none => .stuck
    | some (none, st) => .next { s with store := st }
    | some (some x, st) => match turn x { s with store := st } with
      | .next s' => forIter turn j n s'
      | .cont s' => forIter turn j n s'
      | o => o
noncomputable def pV : Option Nat → V
  | some n => .int n
  | none => .none
noncomputable def vP : V → Option Nat
  | .int n => some n.toNat
  | _ => none
noncomputable def callI (F : Phi) (f : Nat) (st : Store) (j : Nat) : Option (R V × Obj) := match F (1000 + f) st [.loc j] with
  | .ok (.tup [r, p]) => match st[j]? with
    | some (.iter k _) => match r with
      | .tup [v] => some (.ok v, .iter k (vP p))
      | .int _ => some (.error (.exc .type), .iter k (vP p))
      | _ => none
    | _ => none
  | _ => none
noncomputable def gotLoop (F : Phi) (f j : Nat) : Nat → Store → Option (List V × Store)
  | 0, st => some ([], st)
  | n + 1, st => match callI F f st j with
    | some (.ok v, o) => match gotLoop F f j n (st.set j o) with
      | some (ys, st') => some (v :: ys, st')
      | none => none
    | _ => none
noncomputable def iterAt (st : Store) : V → Option Nat
  | .loc j => match st[j]? with
    | some (.iter _ _) => some j
    | _ => none
  | _ => none

noncomputable def handle (k : K) (run : CS → St → Out) : List (K × CS) → St → Out
  | [], _ => .stuck
  | (k', c) :: hs, s => if k = k' then run c s else handle k run hs s

noncomputable def fuel : Nat := 100000

mutual
noncomputable def exec (F : Phi) : CS → (Nat → Bool) → St → Out
  | .assign t e, _, s => match evalA F e s.vars s.store with
    | .error e => .ofErr s e
    | .ok (v, st) => bindT t v { s with store := st }
  | .assign2 x y e, _, s => match evalE F s.store e s.vars with
    | .error e => .ofErr s e
    | .ok v => .next { s with vars := (s.vars.set x (some v)).set y (some v) }
  | .setItem o i e, lk, s => match evalE F s.store e s.vars with
    | .error e => .ofErr s e
    | .ok v => match evalE F s.store o s.vars with
      | .error e => .ofErr s e
      | .ok ov => match evalE F s.store i s.vars with
        | .error e => .ofErr s e
        | .ok iv => match locOf ov with
          | .none => .stuck
          | some j => if lk j then .stuck else match s.store[j]?, iv, v with
            | some (.list xs), .int n, v => match place xs.length n with
              | some p => .next { s with store := s.store.set j (.list (xs.set p v)) }
              | .none => .stuck
            | some (.dict es), .str k, .str v => if es.length ≤ 1000000 then .next { s with store := s.store.set j (.dict (dput es k v)) } else .stuck
            | _, _, _ => .stuck
  | .append o e, lk, s => match evalE F s.store o s.vars with
    | .error e => .ofErr s e
    | .ok ov => match locOf ov with
      | .none => .stuck
      | some j => match s.store[j]? with
        | some (.list xs) => match evalA F e s.vars s.store with
          | .error e => .ofErr s e
          | .ok (v, st) => if lk j = false ∧ xs.length ≤ 1000000 then .next { s with store := st.set j (.list (xs ++ [v])) } else .stuck
        | _ => .stuck
  | .expr e, _, s => match evalE F s.store e s.vars with
    | .error e => .ofErr s e
    | .ok _ => .next s
  | .aug x e, _, s => match s.vars[x]? with
    | some (some a) => match evalE F s.store e s.vars with
      | .error e => .ofErr s e
      | .ok b => match augV a b with
        | .error e => .ofErr s e
        | .ok v => .next { s with vars := s.vars.set x (some v) }
    | _ => .stuck
  | .ifs t a b, lk, s => match evalT F s.store t s.vars with
    | .error e => .ofErr s e
    | .ok true => execs F a lk s
    | .ok false => execs F b lk s
  | .for_ t it body, lk, s => match evalE F s.store it s.vars with
    | .error e => .ofErr s e
    | .ok v => match iterV s.store v with
      | .none => match iterAt s.store v with
        | .none => .stuck
        | some j => if lk j then .stuck else forIter (fun x s => match bindT t x s with
          | .next s' => execs F body lk s'
          | o => o) j fuel s
      | some xs => forLoop (fun x s => match bindT t x s with
          | .next s' => execs F body (match v with | .loc j => fun i => i == j || lk i | _ => lk) s'
          | o => o) xs s
  | .while_ t body, lk, s => whileLoop (fun s => evalT F s.store t s.vars) (fun s => execs F body lk s) fuel s
  | .ret e, _, s => match evalE F s.store e s.vars with
    | .error e => .ofErr s e
    | .ok v => .ret v s
  | .cont, _, s => .cont s
  | .try_ body hs, lk, s => match execs F body lk s with
    | .exc k s' => handle k (fun c s => match c with
        | .assign (.one x) (.old (.str v)) => .next { s with vars := s.vars.set x (some (.str v)) }
        | .ret (.str v) => .ret (.str v) s
        | .ret (.tup [.str v, .list []]) => .ret (.tup [.str v, .list []]) s
        | _ => .stuck) hs s'
    | o => o
  | .got x f y z, lk, s => match evalE F s.store z s.vars with
    | .error _ => .stuck
    | .ok v => match iterV s.store v with
      | .none => .stuck
      | some zs => match s.vars[y]? with
        | some (some (.loc j)) => if lk j = true ∨ ¬ zs.length ≤ 1000 then .stuck else match gotLoop F f j zs.length s.store with
          | some (ys, st) => .next ⟨s.vars.set x (some (.list ys)), st⟩
          | .none => .stuck
        | _ => .stuck
  | .retI f y, lk, s => match s.vars[y]? with
    | some (some (.loc j)) => if lk j then .stuck else match callI F f s.store j with
      | some (.ok v, o) => .ret v { s with store := s.store.set j o }
      | some (.error (.exc k), o) => .exc k { s with store := s.store.set j o }
      | _ => .stuck
    | _ => .stuck
  | .retIs f y, lk, s => match s.vars[y]? with
    | some (some (.loc j)) => if lk j then .stuck else match callI F f s.store j with
      | some (.ok v, o) => match eqVal (s.store.set j o) v (.list []) with
        | .ok b => .ret (.bool b) { s with store := s.store.set j o }
        | .error _ => .stuck
      | _ => .stuck
    | _ => .stuck
noncomputable def execs (F : Phi) : List CS → (Nat → Bool) → St → Out
  | [], _, s => .next s
  | c :: cs, lk, s => match exec F c lk s with
    | .next s' => execs F cs lk s'
    | o => o
end

mutual
noncomputable def low (n : Nat) : V → Bool
  | .tup xs => lows n xs
  | .list xs => lows n xs
  | .loc i => decide (i < n)
  | _ => true
noncomputable def lows (n : Nat) : List V → Bool
  | [] => true
  | x :: xs => low n x && lows n xs
end

noncomputable def fin (n : Nat) (st : Store) (v : V) : R V :=
  match v with
  | .loc i => if i < n then .ok (.loc i) else match st[i]? with
    | some (.list xs) => if lows n xs then .ok (.list xs) else stuck
    | some (.dict es) => .ok (.dict es)
    | _ => stuck
  | v => if low n v then .ok v else stuck

set_option genInjectivity false in
structure Fn where
  nargs : Nat
  nvars : Nat
  body : List CS

noncomputable def callFn (F : Phi) (f : Fn) (st : Store) (as : List V) : R V :=
  if as.length = f.nargs then
    match execs F f.body (fun i => decide (i < st.length)) ⟨as.map some ++ List.replicate (f.nvars - f.nargs) none, st⟩ with
    | .ret v s => fin st.length s.store v
    | .exc k _ => .error (.exc k)
    | _ => stuck
  else stuck

noncomputable def itOut (r : V) (k : Nat) : Option Obj → R V
  | some (.iter k' p) => if k' = k then .ok (.tup [r, pV p]) else stuck
  | _ => stuck
noncomputable def callFnI (F : Phi) (f : Fn) (st : Store) (j : Nat) : R V := match st[j]? with
  | some (.iter k _) => if 1 = f.nargs ∧ k < st.length then
      match execs F f.body (fun i => decide (i < st.length) && i != j) ⟨[some (.loc j)] ++ List.replicate (f.nvars - f.nargs) none, st⟩ with
      | .ret v s => match fin st.length s.store v with
        | .ok v' => itOut (.tup [v']) k s.store[j]?
        | .error _ => stuck
      | .exc .type s => itOut (.int 0) k s.store[j]?
      | _ => stuck
    else stuck
  | _ => stuck

noncomputable def phi : List Fn → Phi
  | [], _, _, _ => stuck
  | f :: rest, i, st, as => if i = rest.length then callFn (phi rest) f st as else if i = 1000 + rest.length then (match as with
      | [.loc j] => callFnI (phi rest) f st j
      | _ => stuck) else phi rest i st as

noncomputable def runLaw (fs : List Fn) (ns : List Int) : R V := phi fs (fs.length - 1) [] [.list (ns.map .int)]

theorem evalE_q1 (F : Phi) (st : Store) (w0) : evalE F st .none w0 = .ok .none := rfl
theorem evalE_q2 (F : Phi) (st : Store) (b) (w1) : evalE F st (.bool b) w1 = .ok (.bool b) := rfl
theorem evalE_q3 (F : Phi) (st : Store) (i) (w1) : evalE F st (.int i) w1 = .ok (.int i) := rfl
theorem evalE_q4 (F : Phi) (st : Store) (s) (w1) : evalE F st (.str s) w1 = .ok (.str s) := rfl
theorem evalE_q5 (F : Phi) (st : Store) (w0) : evalE F st .bytes w0 = .ok .bytes := rfl
theorem evalE_q6 (F : Phi) (st : Store) (x) (ρ) : evalE F st (.var x) ρ = match ρ[x]? with
    | some (some v) => .ok v
    | _ => stuck := rfl
theorem evalE_q7 (F : Phi) (st : Store) (op) (a) (b) (ρ) : evalE F st (.bin op a b) ρ = match evalE F st a ρ with
    | .error e => .error e
    | .ok x => match evalE F st b ρ with
      | .error e => .error e
      | .ok y => binop st op x y := rfl
theorem evalE_q8 (F : Phi) (st : Store) (a) (ρ) : evalE F st (.not a) ρ = match evalE F st a ρ with
    | .error e => .error e
    | .ok x => match truth st x with
      | some b => .ok (.bool !b)
      | .none => stuck := rfl
theorem evalE_q9 (F : Phi) (st : Store) (a) (b) (ρ) : evalE F st (.and a b) ρ = match evalE F st a ρ with
    | .error e => .error e
    | .ok x => match truth st x with
      | some true => evalE F st b ρ
      | some false => .ok x
      | .none => stuck := rfl
theorem evalE_q10 (F : Phi) (st : Store) (a) (b) (ρ) : evalE F st (.or a b) ρ = match evalE F st a ρ with
    | .error e => .error e
    | .ok x => match truth st x with
      | some true => .ok x
      | some false => evalE F st b ρ
      | .none => stuck := rfl
theorem evalE_q11 (F : Phi) (st : Store) (op) (a) (b) (ρ) : evalE F st (.cmp op a b) ρ = match evalE F st a ρ with
    | .error e => .error e
    | .ok x => match evalE F st b ρ with
      | .error e => .error e
      | .ok y => match cmpop st op x y with
        | .error e => .error e
        | .ok r => .ok (.bool r) := rfl
theorem evalE_q12 (F : Phi) (st : Store) (t) (a) (b) (ρ) : evalE F st (.ite t a b) ρ = match evalT F st t ρ with
    | .error e => .error e
    | .ok true => evalE F st a ρ
    | .ok false => evalE F st b ρ := rfl
theorem evalE_q13 (F : Phi) (st : Store) (es) (ρ) : evalE F st (.tup es) ρ = match evalEs F st es ρ with
    | .error e => .error e
    | .ok xs => .ok (.tup xs) := rfl
theorem evalE_q14 (F : Phi) (st : Store) (es) (ρ) : evalE F st (.list es) ρ = match evalEs F st es ρ with
    | .error e => .error e
    | .ok xs => .ok (.list xs) := rfl
theorem evalE_q15 (F : Phi) (st : Store) (a) (i) (ρ) : evalE F st (.idx a i) ρ = match evalE F st a ρ with
    | .error e => .error e
    | .ok x => match evalE F st i ρ with
      | .error e => .error e
      | .ok y => index st x y := rfl
theorem evalE_q16 (F : Phi) (st : Store) (a) (lo) (hi) (sp) (ρ) : evalE F st (.slice a lo hi sp) ρ = match evalE F st a ρ with
    | .error e => .error e
    | .ok x => match evalO F st lo ρ with
      | .error e => .error e
      | .ok l => match evalO F st hi ρ with
        | .error e => .error e
        | .ok h => sliceV st x l h sp := rfl
theorem evalE_q17 (F : Phi) (st : Store) (elt) (k) (it) (cond) (ρ) : evalE F st (.comp elt k it cond) ρ = match evalE F st it ρ with
    | .error e => .error e
    | .ok s => match iterV st s with
      | .none => stuck
      | some xs => match compLoop (fun x => match bindNew k x with
          | .error e => .error e
          | .ok new => match evalC F st cond (ρ ++ new) with
            | .error e => .error e
            | .ok false => .ok .none
            | .ok true => match evalE F st elt (ρ ++ new) with
              | .error e => .error e
              | .ok y => .ok (some y)) xs with
        | .error _ => stuck
        | .ok ys => if xs.length ≤ big then .ok (.list ys) else stuck := rfl
theorem evalE_q18 (F : Phi) (st : Store) (f) (as) (ρ) : evalE F st (.call f as) ρ = match evalEs F st as ρ with
    | .error e => .error e
    | .ok xs => F f st xs := rfl
theorem evalE_q19 (F : Phi) (st : Store) (p) (as) (ρ) : evalE F st (.prim p as) ρ = match evalEs F st as ρ with
    | .error e => .error e
    | .ok xs => prim st p xs := rfl
theorem evalE_q20 (F : Phi) (st : Store) (p) (o) (as) (ρ) : evalE F st (.meth p o as) ρ = match evalE F st o ρ with
    | .error e => .error e
    | .ok x => methR st p x (evalEs F st as ρ) := rfl
theorem evalT_q1 (F : Phi) (st : Store) (a) (ρ) : evalT F st (.not a) ρ = match evalT F st a ρ with
    | .error e => .error e
    | .ok b => .ok !b := rfl
theorem evalT_q2 (F : Phi) (st : Store) (a) (b) (ρ) : evalT F st (.and a b) ρ = match evalT F st a ρ with
    | .error e => .error e
    | .ok true => evalT F st b ρ
    | .ok false => .ok false := rfl
theorem evalT_q3 (F : Phi) (st : Store) (a) (b) (ρ) : evalT F st (.or a b) ρ = match evalT F st a ρ with
    | .error e => .error e
    | .ok true => .ok true
    | .ok false => evalT F st b ρ := rfl
theorem evalT_q4 (F : Phi) (st : Store) (op) (a) (b) (ρ) : evalT F st (.cmp op a b) ρ = match evalE F st a ρ with
    | .error e => .error e
    | .ok x => match evalE F st b ρ with
      | .error e => .error e
      | .ok y => cmpop st op x y := rfl
theorem evalT_q5 (F : Phi) (st : Store) (t) (a) (b) (ρ) : evalT F st (.ite t a b) ρ = match evalT F st t ρ with
    | .error e => .error e
    | .ok true => evalT F st a ρ
    | .ok false => evalT F st b ρ := rfl
theorem evalT_q6 (F : Phi) (st : Store) (x) (ρ) : evalT F st (.var x) ρ = match ρ[x]? with
    | some (some v) => ofO (truth st v)
    | _ => stuck := rfl
theorem evalT_q7 (F : Phi) (st : Store) (b) (w1) : evalT F st (.bool b) w1 = .ok b := rfl
theorem evalT_q8 (F : Phi) (st : Store) (p) (as) (ρ) : evalT F st (.prim p as) ρ = match evalEs F st as ρ with
    | .error e => .error e
    | .ok xs => match prim st p xs with
      | .error e => .error e
      | .ok v => ofO (truth st v) := rfl
theorem evalT_q9 (F : Phi) (st : Store) (w0) : evalT F st .none w0 = stuck := rfl
theorem evalT_q10 (F : Phi) (st : Store) (x) (w1) : evalT F st (.int x) w1 = stuck := rfl
theorem evalT_q11 (F : Phi) (st : Store) (x) (w1) : evalT F st (.str x) w1 = stuck := rfl
theorem evalT_q12 (F : Phi) (st : Store) (w0) : evalT F st .bytes w0 = stuck := rfl
theorem evalT_q13 (F : Phi) (st : Store) (x) (y) (z) (w3) : evalT F st (.bin x y z) w3 = stuck := rfl
theorem evalT_q14 (F : Phi) (st : Store) (x) (w1) : evalT F st (.tup x) w1 = stuck := rfl
theorem evalT_q15 (F : Phi) (st : Store) (x) (w1) : evalT F st (.list x) w1 = stuck := rfl
theorem evalT_q16 (F : Phi) (st : Store) (x) (y) (w2) : evalT F st (.idx x y) w2 = stuck := rfl
theorem evalT_q17 (F : Phi) (st : Store) (x) (y) (z) (u) (w4) : evalT F st (.slice x y z u) w4 = stuck := rfl
theorem evalT_q18 (F : Phi) (st : Store) (x) (y) (z) (u) (w4) : evalT F st (.comp x y z u) w4 = stuck := rfl
theorem evalT_q19 (F : Phi) (st : Store) (x) (y) (w2) : evalT F st (.call x y) w2 = stuck := rfl
theorem evalT_q20 (F : Phi) (st : Store) (x) (y) (z) (w3) : evalT F st (.meth x y z) w3 = stuck := rfl
theorem evalC_q1 (F : Phi) (st : Store) (w0) : evalC F st .none w0 = .ok true := rfl
theorem evalC_q2 (F : Phi) (st : Store) (e) (ρ) : evalC F st (some e) ρ = evalT F st e ρ := rfl
theorem evalO_q1 (F : Phi) (st : Store) (w0) : evalO F st .none w0 = .ok .none := rfl
theorem evalO_q2 (F : Phi) (st : Store) (e) (ρ) : evalO F st (some e) ρ = match evalE F st e ρ with
    | .error e => .error e
    | .ok v => .ok (some v) := rfl
theorem evalEs_q1 (F : Phi) (st : Store) (w0) : evalEs F st [] w0 = .ok [] := rfl
theorem evalEs_q2 (F : Phi) (st : Store) (e) (es) (ρ) : evalEs F st (e :: es) ρ = match evalE F st e ρ with
    | .error e => .error e
    | .ok x => match evalEs F st es ρ with
      | .error e => .error e
      | .ok xs => .ok (x :: xs) := rfl
theorem evalA_q1 (F : Phi) (e) (ρ) (st) : evalA F (.old e) ρ st = match evalE F st e ρ with
    | .error e => .error e
    | .ok v => .ok (v, st) := rfl
theorem evalA_q2 (F : Phi) (es) (ρ) (st) : evalA F (.newl es) ρ st = match evalAs F es ρ st with
    | .error e => .error e
    | .ok (vs, st') => .ok (.loc st'.length, st' ++ [.list vs]) := rfl
theorem evalA_q3 (F : Phi) (es) (ρ) (st) : evalA F (.tup es) ρ st = match evalAs F es ρ st with
    | .error e => .error e
    | .ok (vs, st') => .ok (.tup vs, st') := rfl
theorem evalA_q4 (F : Phi) (a) (b) (ρ) (st) : evalA F (.cat a b) ρ st = match evalE F st a ρ with
    | .error e => .error e
    | .ok x => match evalE F st b ρ with
      | .error e => .error e
      | .ok y => match binop st .add x y with
        | .ok (.list vs) => .ok (.loc st.length, st ++ [.list vs])
        | _ => stuck := rfl
theorem evalA_q5 (F : Phi) (w0) (st) : evalA F .newd w0 st = .ok (.loc st.length, st ++ [.dict []]) := rfl
theorem evalA_q6 (F : Phi) (e) (ρ) (st) : evalA F (.iter e) ρ st = match evalE F st e ρ with
    | .ok (.loc k) => match st[k]? with
      | some (.list _) => .ok (.loc st.length, st ++ [.iter k (some 0)])
      | _ => stuck
    | _ => stuck := rfl
theorem evalAs_q1 (F : Phi) (w0) (st) : evalAs F [] w0 st = .ok ([], st) := rfl
theorem evalAs_q2 (F : Phi) (e) (es) (ρ) (st) : evalAs F (e :: es) ρ st = match evalA F e ρ st with
    | .error e => .error e
    | .ok (v, st') => match evalAs F es ρ st' with
      | .error e => .error e
      | .ok (vs, st'') => .ok (v :: vs, st'') := rfl
theorem exec_q1 (F : Phi) (t) (e) (w2) (s) : exec F (.assign t e) w2 s = match evalA F e s.vars s.store with
    | .error e => .ofErr s e
    | .ok (v, st) => bindT t v { s with store := st } := rfl
theorem exec_q2 (F : Phi) (x) (y) (e) (w3) (s) : exec F (.assign2 x y e) w3 s = match evalE F s.store e s.vars with
    | .error e => .ofErr s e
    | .ok v => .next { s with vars := (s.vars.set x (some v)).set y (some v) } := rfl
theorem exec_q3 (F : Phi) (o) (i) (e) (lk) (s) : exec F (.setItem o i e) lk s = match evalE F s.store e s.vars with
    | .error e => .ofErr s e
    | .ok v => match evalE F s.store o s.vars with
      | .error e => .ofErr s e
      | .ok ov => match evalE F s.store i s.vars with
        | .error e => .ofErr s e
        | .ok iv => match locOf ov with
          | .none => .stuck
          | some j => if lk j then .stuck else match s.store[j]?, iv, v with
            | some (.list xs), .int n, v => match place xs.length n with
              | some p => .next { s with store := s.store.set j (.list (xs.set p v)) }
              | .none => .stuck
            | some (.dict es), .str k, .str v => if es.length ≤ 1000000 then .next { s with store := s.store.set j (.dict (dput es k v)) } else .stuck
            | _, _, _ => .stuck := rfl
theorem exec_q4 (F : Phi) (o) (e) (lk) (s) : exec F (.append o e) lk s = match evalE F s.store o s.vars with
    | .error e => .ofErr s e
    | .ok ov => match locOf ov with
      | .none => .stuck
      | some j => match s.store[j]? with
        | some (.list xs) => match evalA F e s.vars s.store with
          | .error e => .ofErr s e
          | .ok (v, st) => if lk j = false ∧ xs.length ≤ 1000000 then .next { s with store := st.set j (.list (xs ++ [v])) } else .stuck
        | _ => .stuck := rfl
theorem exec_q5 (F : Phi) (e) (w1) (s) : exec F (.expr e) w1 s = match evalE F s.store e s.vars with
    | .error e => .ofErr s e
    | .ok _ => .next s := rfl
theorem exec_q6 (F : Phi) (x) (e) (w2) (s) : exec F (.aug x e) w2 s = match s.vars[x]? with
    | some (some a) => match evalE F s.store e s.vars with
      | .error e => .ofErr s e
      | .ok b => match augV a b with
        | .error e => .ofErr s e
        | .ok v => .next { s with vars := s.vars.set x (some v) }
    | _ => .stuck := rfl
theorem exec_q7 (F : Phi) (t) (a) (b) (lk) (s) : exec F (.ifs t a b) lk s = match evalT F s.store t s.vars with
    | .error e => .ofErr s e
    | .ok true => execs F a lk s
    | .ok false => execs F b lk s := rfl
theorem exec_q8 (F : Phi) (t) (it) (body) (lk) (s) : exec F (.for_ t it body) lk s = match evalE F s.store it s.vars with
    | .error e => .ofErr s e
    | .ok v => match iterV s.store v with
      | .none => match iterAt s.store v with
        | .none => .stuck
        | some j => if lk j then .stuck else forIter (fun x s => match bindT t x s with
          | .next s' => execs F body lk s'
          | o => o) j fuel s
      | some xs => forLoop (fun x s => match bindT t x s with
          | .next s' => execs F body (match v with | .loc j => fun i => i == j || lk i | _ => lk) s'
          | o => o) xs s := rfl
theorem exec_q9 (F : Phi) (t) (body) (lk) (s) : exec F (.while_ t body) lk s = whileLoop (fun s => evalT F s.store t s.vars) (fun s => execs F body lk s) fuel s := rfl
theorem exec_q10 (F : Phi) (e) (w1) (s) : exec F (.ret e) w1 s = match evalE F s.store e s.vars with
    | .error e => .ofErr s e
    | .ok v => .ret v s := rfl
theorem exec_q11 (F : Phi) (w0) (s) : exec F .cont w0 s = .cont s := rfl
theorem exec_q12 (F : Phi) (body) (hs) (lk) (s) : exec F (.try_ body hs) lk s = match execs F body lk s with
    | .exc k s' => handle k (fun c s => match c with
        | .assign (.one x) (.old (.str v)) => .next { s with vars := s.vars.set x (some (.str v)) }
        | .ret (.str v) => .ret (.str v) s
        | .ret (.tup [.str v, .list []]) => .ret (.tup [.str v, .list []]) s
        | _ => .stuck) hs s'
    | o => o := rfl
theorem exec_q13 (F : Phi) (x) (f) (y) (z) (lk) (s) : exec F (.got x f y z) lk s = match evalE F s.store z s.vars with
    | .error _ => .stuck
    | .ok v => match iterV s.store v with
      | .none => .stuck
      | some zs => match s.vars[y]? with
        | some (some (.loc j)) => if lk j = true ∨ ¬ zs.length ≤ 1000 then .stuck else match gotLoop F f j zs.length s.store with
          | some (ys, st) => .next ⟨s.vars.set x (some (.list ys)), st⟩
          | .none => .stuck
        | _ => .stuck := rfl
theorem exec_q14 (F : Phi) (f) (y) (lk) (s) : exec F (.retI f y) lk s = match s.vars[y]? with
    | some (some (.loc j)) => if lk j then .stuck else match callI F f s.store j with
      | some (.ok v, o) => .ret v { s with store := s.store.set j o }
      | some (.error (.exc k), o) => .exc k { s with store := s.store.set j o }
      | _ => .stuck
    | _ => .stuck := rfl
theorem exec_q15 (F : Phi) (f) (y) (lk) (s) : exec F (.retIs f y) lk s = match s.vars[y]? with
    | some (some (.loc j)) => if lk j then .stuck else match callI F f s.store j with
      | some (.ok v, o) => match eqVal (s.store.set j o) v (.list []) with
        | .ok b => .ret (.bool b) { s with store := s.store.set j o }
        | .error _ => .stuck
      | _ => .stuck
    | _ => .stuck := rfl
theorem execs_q1 (F : Phi) (w0) (s) : execs F [] w0 s = .next s := rfl
theorem execs_q2 (F : Phi) (c) (cs) (lk) (s) : execs F (c :: cs) lk s = match exec F c lk s with
    | .next s' => execs F cs lk s'
    | o => o := rfl
end Mine

end
section
set_option autoImplicit false
namespace Mine
open PySem (Str Expr Stmt Scope NameKind Const Comprehension ExceptHandler)

set_option genInjectivity false in
structure Cx where
  sc : List (Str × NameKind)
  γ : List (Str × Nat)
  fns : List (Str × Nat)
  n : Nat

noncomputable def cst (s : String) : Str := Str.ofString s
noncomputable def binP : PySem.Operator → Option BOp
  | .Add => some .add
  | .Sub => some .sub
  | .Mult => some .mul
  | .FloorDiv => some .fdiv
  | .Mod => some .mod
  | _ => none
noncomputable def cmpP : PySem.CmpOp → Option COp
  | .Eq => some .eq
  | .NotEq => some .ne
  | .Lt => some .lt
  | .Gt => some .gt
  | .LtE => some .le
  | .GtE => some .ge
  | .In => some .isin
  | .NotIn => some .notin
  | _ => none
noncomputable def nameOf : Expr → Option Str
  | .Name x _ => some x
  | _ => none
noncomputable def namesOf : List Expr → Option (List Str)
  | [] => some []
  | e :: es => match nameOf e, namesOf es with
    | some x, some xs => some (x :: xs)
    | _, _ => none
noncomputable def tgtNames : Expr → Option (Option Nat × List Str)
  | .Name x _ => some (none, [x])
  | .Tuple es _ _ => match namesOf es with
    | some xs => some (some xs.length, xs)
    | none => none
  | _ => none
noncomputable def slots : Nat → List Str → List (Str × Nat)
  | _, [] => []
  | n, x :: xs => (x, n) :: slots (n + 1) xs
noncomputable def nodupB {α : Type} [BEq α] : List α → Bool
  | [] => true
  | x :: xs => !xs.contains x && nodupB xs
noncomputable def relabel (sc : List (Str × NameKind)) (names : List (Str × NameKind)) : List (Str × NameKind) :=
  names.map fun p => if p.2 == .free && sc.lookup p.1 == some .cell then (p.1, .cell) else p
noncomputable def okComp (c : Cx) (scope : Scope) (xs : List Str) : Bool :=
  scope.kind == .function && xs.all (fun x => scope.names.lookup x == some .local) && nodupB xs &&
  scope.names.all (fun p => p.2 != .cell && (p.2 != .local || (scope.names.lookup p.1 == some .local && (p.1 == cst ".0" || xs.contains p.1))) && (p.2 != .free || (c.sc.lookup p.1 == some .cell && scope.names.lookup p.1 == some .free)) && p.2 != .globalExplicit)
noncomputable def cxComp (c : Cx) (scope : Scope) (xs : List Str) : Cx :=
  { c with sc := relabel c.sc scope.names, γ := slots c.n xs ++ (scope.names.filterMap fun p => if p.2 == .free then (c.γ.lookup p.1).map (p.1, ·) else none), n := c.n + xs.length }
noncomputable def okBuiltin (c : Cx) (f : Str) : Bool := c.sc.lookup f == some .globalImplicit && (c.fns.lookup f).isNone

noncomputable def plainBase : Expr → Bool
  | .Call (.Name ..) [] [] _ => false
  | _ => true
noncomputable def slot (c : Cx) (x : Str) : Option Nat := if c.sc.lookup x = some .local ∨ c.sc.lookup x = some .cell then c.γ.lookup x else none
noncomputable def slotsOf (c : Cx) : List Str → Option (List Nat)
  | [] => some []
  | x :: xs => match slot c x, slotsOf c xs with
    | some k, some ks => some (k :: ks)
    | _, _ => none
noncomputable def cT (c : Cx) (t : Expr) : Option Tgt := match t with
  | .Name x _ => match slot c x with
    | some k => some (.one k)
    | none => none
  | .Tuple es _ _ => match namesOf es with
    | some xs => match slotsOf c xs with
      | some ks => if nodupB ks then some (.many ks) else none
      | none => none
    | none => none
  | _ => none
noncomputable def excP (x : Str) : Option K :=
  if x = cst "ValueError" then some .value else if x = cst "IndexError" then some .index else if x = cst "TypeError" then some .type else none
noncomputable def isTupleE : Expr → Bool
  | .Tuple .. => true
  | _ => false

noncomputable def notComp : Expr → Bool
  | .ListComp .. | .SetComp .. | .DictComp .. => false
  | _ => true
noncomputable def okStr (s : Str) : Bool := s.cps.toList.all plainSign && decide (s.cps.toList.length ≤ 1000)
noncomputable def okVar (c : Cx) (x : Str) (k : Nat) : Bool := (c.sc.lookup x == some .local || c.sc.lookup x == some .cell) && !(x == ("__debug__" : Str)) && c.γ.lookup x == some k
noncomputable def okS (v : Str) (s : List Nat) : Bool := v.cps.toList == s && okStr v
inductive HOk (c : Cx) : Stmt → CS → Prop
  | asg {x : Str} {k kd : Nat} {v : Str} {s : List Nat} {p q r : PySem.Pos} : slot c x = some k → okS v s = true → HOk c (.Assign [.Name x p] (.Constant (.str v) kd q) r) (.assign (.one k) (.old (.str s)))
  | ret {kd : Nat} {v : Str} {s : List Nat} {q r : PySem.Pos} : okS v s = true → HOk c (.Return (some (.Constant (.str v) kd q)) r) (.ret (.str s))
  | tup {kd kt : Nat} {v : Str} {s : List Nat} {p q r t : PySem.Pos} : okS v s = true → HOk c (.Return (some (.Tuple [.Constant (.str v) kd p, .List [] q] kt r)) t) (.ret (.tup [.str s, .list []]))
inductive HsOk (c : Cx) : List ExceptHandler → List (K × CS) → Prop
  | nil : HsOk c [] []
  | cons {x : Str} {k : K} {s : Stmt} {cs : CS} {hs : List ExceptHandler} {chs : List (K × CS)} {p q : PySem.Pos} : excP x = some k → okBuiltin c x = true → HOk c s cs → HsOk c hs chs → HsOk c (⟨some (.Name x p), none, [s], q⟩ :: hs) ((k, cs) :: chs)

noncomputable def varsOf (scope : Scope) : List Str := (scope.names.filter fun p => p.2 == .local || p.2 == .cell).map (·.1)
noncomputable def cxOf (scope : Scope) (fns : List (Str × Nat)) : Cx := { sc := scope.names, γ := slots 0 (varsOf scope), fns := fns, n := (varsOf scope).length }
noncomputable def okHead (params : List Str) (scope : Scope) (f : Fn) : Bool :=
  params.isPrefixOf (varsOf scope) && nodupB (scope.names.map (·.1)) && scope.kind == .function && !scope.isCoroutine && !scope.isGenerator && f.nargs == params.length && f.nvars == (varsOf scope).length
end Mine

end
section
set_option autoImplicit false
set_option maxRecDepth 100000
namespace Mine
open PySem PySem.SeqAt PyProof.Rows

theorem bytes_no_str (a : Array UInt8) (t : Tok) (b : Str) (u : Tok) : Gives (Builtin.«bytes.__eq__» ⟨[.bytes a t, .str b u], []⟩) (.val .notImplemented) :=
  .of_wp fun M A E s Q h => by obtain ⟨hp, g, d, tk, os⟩ := s; have f1 := F.sub_str_bytes; wp_walk; exact ⟨_, rfl, h⟩
theorem str_no_bytes (a : Str) (t : Tok) (b : Array UInt8) (u : Tok) : Gives (Builtin.«str.__eq__» ⟨[.str a t, .bytes b u], []⟩) (.val .notImplemented) :=
  .of_wp fun M A E s Q h => by obtain ⟨hp, g, d, tk, os⟩ := s; wp_walk; exact ⟨_, rfl, h⟩
section
variable {prog : Program} {w : World} {A : Around} {s : Shared} {E : Value → Shared → Prop} {Q : Value → Shared → Prop}
theorem bytes_is_str (a : Array UInt8) (t : Tok) (b : Str) (u : Tok) (h : Q (.bool false) s) : wpAny (model prog w) A (compareOp .Eq (.bytes a t) (.str b u)) Q E s :=
  rc_eq_decline_or (k := false) (PySem.W.typeIs_bytes s a t) (typeIs_str s b u) (by decide) F.sub_str_bytes PySem.W.FB.slot_bytes_eq F.slot_str_eq_refl
    (fun _ hq => call_gives PySem.W.FB.slot_bytes_eq (PySem.W.typeIs_bytes s a t) PySem.W.FB.entry_bytes_eq (PySem.W.FB.args_bytes_eq_2 _ _) (bytes_no_str a t b u) hq)
    (fun _ hq => call_gives F.slot_str_eq_refl (typeIs_str s b u) F.entry_str_eq (F.args_str_eq_2 _ _) (str_no_bytes b u a t) hq)
    (fun _ hq => wpAny_of_eq (rfl : isSame (.bytes a t) (.str b u) = pure false) hq) (.inl rfl) h

theorem call_iter_list {l : Addr} {items : Array Value} (hl : s.heap.IsList l items)
    (hQ : Q (.ref s.heap.objs.size) { s with heap := s.heap.push { cls := .type "list_iterator", data := .fields #[.ref l, .int 0 0] } }) :
    wpAny (model prog w) A (call (.builtin "iter") [.ref l]) Q E s := by
  refine PySem.Calls.call_function_entry (by decide +kernel) (by decide +kernel) PySem.W.kdk_entry_iter (PySem.W.kdk_args_iter _) ?_
  unfold Builtin.«iter»
  refine wpAny_bind (m := someArgs "iter" 1 2 _) (wpAny_of_eq (a := [Value.ref l]) (by first | rfl | kernel_rfl!) ?_)
  show wpAny _ _ (pyIter (.ref l) >>= _) _ _ _
  refine wpAny_bind (wpAny_pyIter_list hl ?_)
  exact wpAny_pure ⟨_, rfl, hQ⟩

noncomputable def Ended (h : Heap) (a : Addr) : Prop := ∃ o v, h.get? a = some o ∧ o.cls = .type "list_iterator" ∧ o.data = .fields #[.none, v]
theorem Ended.typeIs {a : Addr} (x : Ended s.heap a) : s.TypeIs (.ref a) "list_iterator" := let ⟨o, _, ho, hc, _⟩ := x; ⟨o, ho, hc⟩
theorem pyIter_self {it : Addr} (hT : s.TypeIs (.ref it) "list_iterator") (h : Q (.ref it) s) : wpAny (model prog w) A (pyIter (.ref it)) Q E s := by
  refine wpAny_pyIter_slot hT slot_listiter_iter (wpAny_call_entry slot_listiter_iter hT entry_listiter_iter ?_ (args_listiter_iter _))
  show wpAny _ _ (ret (.ref it)) _ _ s
  exact wpAny_pure ⟨_, rfl, "list_iterator", _, hT, slot_listiter_next.lookup, h⟩


theorem next_end {it l : Addr} {i : Nat} {items : Array Value} {Q : Option Value → Shared → Prop} (hh : A.handled = none) (hit : s.heap.IsListIter it l i) (hl : s.heap.IsList l items) (hx : items[i]? = none)
    (hQ : ∀ h', (∀ b o, b ≠ it → s.heap.get? b = some o → h'.get? b = some o) → Ended h' it → Q none { s with heap := h' }) : wpAny (model prog w) A (pyNext (.ref it)) Q E s := by
  obtain ⟨o, ho, hc, hd⟩ := id hit
  obtain ⟨ol, hol, _, nl, hdl⟩ := hl
  unfold pyNext
  refine wpAny_bind (wpAny_attempt (wpAny_callSpecial?_slot (name := Str.ofString "__next__") hit.typeIs slot_listiter_next
    (wpAny_call_entry slot_listiter_next hit.typeIs entry_listiter_next ?_ (args_listiter_next _))))
  show wpAny _ _ (field (.ref it) 0 >>= _) _ _ s
  refine wpAny_bind (wpAny_field ho hd (x := .ref l) rfl ?_)
  show wpAny _ _ (if (Value.ref l == Value.none) = true then _ else _) _ _ s
  rw [if_neg (show ¬ ((Value.ref l == Value.none) = true) from Bool.false_ne_true)]
  show wpAny _ _ (field (.ref it) 1 >>= _) _ _ s
  refine wpAny_bind (wpAny_field ho hd (x := .int i 0) rfl ?_)
  show wpAny _ _ (seqItems? (.ref l) >>= _) _ _ s
  refine wpAny_bind (wpAny_seqItems hol hdl ?_)
  simp only [Int.toNat_natCast, hx]
  refine wpAny_bind (wpAny_rule (wpAny_bind (wpAny_setField ho hd (by simp) ?_)))
  show wpAny _ _ (newExc (.type "StopIteration") [] >>= _) _ _ _
  refine wpAny_bind ?_
  simp only [newExc, newTuple]
  refine wpAny_bind (wpAny_newObj_type ?_ (by size_fits))
  refine wpAny_bind (m := firstArgMember _ _) (wpAny_of_eq (a := Value.none) (by first | rfl | (simp only [firstArgMember]; rfl)) ?_)
  refine wpAny_newObj_type ?_ (by size_fits)
  simp only [raiseNew]
  refine wpAny_bind (wpAny_handled ?_)
  rw [show A.in1.handled = none from hh]
  refine wpAny_bind (wpAny_pure (wpAny_throw ?_))
  refine wpAny_bind (wpAny_isInstance (T := "StopIteration") (b := true) ⟨_, Heap.get?_push_size _ rfl, rfl⟩ isSubtype_stop ?_)
  refine wpAny_pure (hQ _ (fun b o' hb e => (((Heap.SameBut.update ..).extBut.push _).push _) b o' hb e) ?_)
  refine ⟨_, .int i 0, Heap.get?_push_of_some _ (Heap.get?_push_of_some _ (Heap.get?_update_self _ ho (Obj.isFreed_of_fields (Obj.data_mapFields hd _)))), (Obj.cls_mapFields ..).trans hc, ?_⟩
  rw [Obj.data_mapFields hd]; simp

theorem next_ended {it : Addr} {Q : Option Value → Shared → Prop} (hh : A.handled = none) (hit : Ended s.heap it)
    (hQ : ∀ h', (∀ b o, s.heap.get? b = some o → h'.get? b = some o) → Q none { s with heap := h' }) : wpAny (model prog w) A (pyNext (.ref it)) Q E s := by
  obtain ⟨o, v, ho, hc, hd⟩ := id hit
  unfold pyNext
  refine wpAny_bind (wpAny_attempt (wpAny_callSpecial?_slot (name := Str.ofString "__next__") hit.typeIs slot_listiter_next
    (wpAny_call_entry slot_listiter_next hit.typeIs entry_listiter_next ?_ (args_listiter_next _))))
  show wpAny _ _ (field (.ref it) 0 >>= _) _ _ s
  refine wpAny_bind (wpAny_field ho hd (x := .none) rfl ?_)
  show wpAny _ _ (if (Value.none == Value.none) = true then _ else _) _ _ s
  rw [if_pos (show (Value.none == Value.none) = true by decide)]
  refine wpAny_bind (wpAny_rule (wpAny_bind ?_))
  show wpAny _ _ (newExc (.type "StopIteration") [] >>= _) _ _ _
  refine wpAny_bind ?_
  simp only [newExc, newTuple]
  refine wpAny_bind (wpAny_newObj_type ?_ (by size_fits))
  refine wpAny_bind (m := firstArgMember _ _) (wpAny_of_eq (a := Value.none) (by first | rfl | (simp only [firstArgMember]; rfl)) ?_)
  refine wpAny_newObj_type ?_ (by size_fits)
  simp only [raiseNew]
  refine wpAny_bind (wpAny_handled ?_)
  rw [show A.in1.handled = none from hh]
  refine wpAny_bind (wpAny_pure (wpAny_throw ?_))
  refine wpAny_bind (wpAny_isInstance (T := "StopIteration") (b := true) ⟨_, Heap.get?_push_size _ rfl, rfl⟩ isSubtype_stop ?_)
  exact wpAny_pure (hQ _ fun b o' e => Heap.get?_push_of_some _ (Heap.get?_push_of_some _ e))


theorem add_raises {x : Str} {t : Tok} {v : Value} {T : String} (hT : s.TypeIs v T) (hh : A.handled = none) (hbf : (Value.type T == Value.type "builtin_function_or_method") = false)
    (hm : (Str.ofString ("can only concatenate str (not \"" ++ shownName T ++ "\") to str")).length ≤ sizeLine)
    (has : ∀ (A' : Around) (E' : Value → Shared → Prop) (Q' : Option Str → Shared → Prop), Q' none s → wpAny (model prog w) A' (asStr? v) Q' E' s)
    (h : ∀ h' tk e, Heap.NewExc s.heap h' e "TypeError" → E (.ref e) { s with heap := h', toks := tk }) : wpAny (model prog w) A (call (.builtin "str.__add__") [.str x t, v]) Q E s := by
  refine wpAny_call_entry F.slot_str_add (typeIs_str s x t) F.entry_str_add ?_ (F.args_str_add_2 _ _)
  show wpAny _ _ (asStr? v >>= _) _ _ s
  refine wpAny_bind (has _ _ _ ?_)
  refine wpAny_bind (wpAny_rule (wpAny_bind (wpAny_typeNameOf' hT hbf ?_)))
  show wpAny _ A.in1 (raiseErrorMade "TypeError" ("can only concatenate str (not \"" ++ shownName T ++ "\") to str")) _ _ _
  exact wpAny_raiseErrorMade plainExc_TypeError hh h hm

theorem ite_no {α : Type} {M : Model} {c : Prop} [Decidable c] {x y : Sem α} {Q : α → Shared → Prop} (hc : ¬ c) (h : wpAny M A y Q E s) : wpAny M A (if c then x else y) Q E s := by rw [if_neg hc]; exact h
theorem iadd_raises {x : Str} {t : Tok} {v : Value} {U : String} (hU : ("str" == U) = false) (hb : s.TypeIs v U)
    (hf : fillsNumberSlot (.type U) "add" = pure false ∨ (fillsNumberSlot (.type U) "add" = pure true ∧ ∀ (Q' : Option Value → Shared → Prop), Q' none s → wpAny (model prog w) A (tryMethod v (dunderR "add") (.str x t)) Q' E s))
    (hc : wpAny (model prog w) A (call (.builtin "str.__add__") [.str x t, v]) Q E s) : wpAny (model prog w) A (inplaceOp .Add (.str x t) v) Q E s := by
  unfold inplaceOp
  refine wpAny_holding ?_
  have hfi : fillsInplaceSlot (.type "str") "add" (Operator.Add == .Add) = pure false := by
    unfold fillsInplaceSlot
    show (typeLookup (.type "str") (dunderI "add") >>= fun fi => pure (fi.isSome && !isSeqSlot fi)) = pure false
    rw [PySem.noI_str_add]; rfl
  have hsi : seqSlot? (.type "str") (dunderI "add") = pure none := by
    unfold seqSlot?
    rw [PySem.noI_str_add]; rfl
  have ha := typeIs_str s x t
  refine wpAny_bind (wpAny_typeOf ha (wpAny_bind (wpAny_of_eq hfi ?_)))
  show wpAny _ A (if false = true then _ else _) Q E s
  rw [if_neg Bool.false_ne_true]
  have h1 : ∀ (Q' : Option Value → Shared → Prop), Q' none s → wpAny (model prog w) A (binaryOp1 "add" (.str x t) v) Q' E s := by
    intro Q' hq
    have hne : (Value.type "str" == Value.type U) = false := by
      have : "str" ≠ U := by simpa using hU
      simpa using this
    unfold binaryOp1
    refine wpAny_bind (wpAny_typeOf ha (wpAny_bind (wpAny_typeOf hb (wpAny_bind (wpAny_of_eq PySem.noFill_str_add ?_)))))
    refine ite_no (by rw [hne]; exact Bool.false_ne_true) ?_
    rcases hf with hf | ⟨hf, hd⟩
    · refine wpAny_bind (wpAny_of_eq hf ?_)
      exact wpAny_pure hq
    · refine wpAny_bind (wpAny_of_eq hf ?_)
      show wpAny _ _ (tryMethod v (dunderR "add") (.str x t) >>= _) _ _ _
      exact wpAny_bind (hd _ (wpAny_pure hq))
  refine wpAny_bind (h1 _ ?_)
  refine wpAny_bind (wpAny_of_eq hsi ?_)
  refine wpAny_bind (wpAny_of_eq PySem.seq_str_add ?_)
  exact wpAny_bind (wpAny_rule hc)

theorem noFill_none_add : fillsNumberSlot (.type "NoneType") "add" = pure false := by
  have h1 : typeLookup (.type "NoneType") (dunder "add") = pure none := by rw [typeLookup_type, builtinLookup_eq_fast]; kernel_rfl
  have h2 : typeLookup (.type "NoneType") (dunderR "add") = pure none := by rw [typeLookup_type, builtinLookup_eq_fast]; kernel_rfl
  simp only [fillsNumberSlot, h1, h2, pure_bind]
  rfl

theorem iadd_none {x : Str} {t : Tok} (hh : A.handled = none) (h : ∀ h' tk e, Heap.NewExc s.heap h' e "TypeError" → E (.ref e) { s with heap := h', toks := tk }) : wpAny (model prog w) A (inplaceOp .Add (.str x t) .none) Q E s :=
  iadd_raises (U := "NoneType") (by decide) rfl (.inl noFill_none_add) (add_raises (T := "NoneType") rfl hh (by decide) (by decide +kernel) (fun A' E' Q' hq => wpAny_of_eq rfl hq) h)
theorem int_declines {x : Str} {t : Tok} {i : Int} {u : Tok} {Q' : Option Value → Shared → Prop} (hq : Q' none s) : wpAny (model prog w) A (tryMethod (.int i u) (dunderR "add") (.str x t)) Q' E s :=
  @wpAny_tryMethod_declines (model prog w) A E s (.int i u) (.str x t) "int" (dunderR "add") "int.__radd__" Q' (PySem.typeIs_int s i u) F.slot_int_radd
    (call_gives (Q := fun v s' => v = .notImplemented ∧ Q' none s') F.slot_int_radd (PySem.typeIs_int s i u) F.entry_int_radd (F.args_int_radd_2 _ _) (AutoIntG4.int___radd___int_str_0 i u x t) ⟨rfl, hq⟩)
theorem iadd_int {x : Str} {t : Tok} {i : Int} {u : Tok} (hh : A.handled = none) (h : ∀ h' tk e, Heap.NewExc s.heap h' e "TypeError" → E (.ref e) { s with heap := h', toks := tk }) : wpAny (model prog w) A (inplaceOp .Add (.str x t) (.int i u)) Q E s := by
  have hT : s.TypeIs (.int i u) "int" := PySem.typeIs_int s i u
  refine iadd_raises (U := "int") (by decide) hT (.inr ⟨F.fills_int_add, fun Q' hq => int_declines hq⟩) ?_
  exact add_raises (T := "int") hT hh (by decide) (by decide +kernel) (fun A' E' Q' hq => wpAny_of_eq rfl hq) h
theorem iadd_bytes {x : Str} {t : Tok} {b : Array UInt8} {u : Tok} (hh : A.handled = none) (h : ∀ h' tk e, Heap.NewExc s.heap h' e "TypeError" → E (.ref e) { s with heap := h', toks := tk }) : wpAny (model prog w) A (inplaceOp .Add (.str x t) (.bytes b u)) Q E s :=
  iadd_raises (U := "bytes") (by decide) (PySem.W.typeIs_bytes s b u) (.inl PySem.W.KBy.noFill_bytes_add) (add_raises (T := "bytes") (PySem.W.typeIs_bytes s b u) hh (by decide) (by decide +kernel) (fun A' E' Q' hq => wpAny_of_eq rfl hq) h)
theorem iadd_list {x : Str} {t : Tok} {a : Addr} {items : Array Value} (hl : s.heap.IsList a items) (hh : A.handled = none) (h : ∀ h' tk e, Heap.NewExc s.heap h' e "TypeError" → E (.ref e) { s with heap := h', toks := tk }) : wpAny (model prog w) A (inplaceOp .Add (.str x t) (.ref a)) Q E s :=
  iadd_raises (U := "list") (by decide) hl.typeIs (.inl noFill_list_add) (add_raises (T := "list") hl.typeIs hh (by decide) (by decide +kernel) (fun A' E' Q' hq => by
    obtain ⟨o, ho, hc, n, hd⟩ := hl
    show wpAny _ _ (load a >>= _) _ _ s
    refine wpAny_bind (wpAny_load ho ?_)
    rw [hd]
    exact wpAny_pure hq) h)

theorem mul_list_n {l : Addr} {vs : List Value} {x : Int} {u : Tok} (hl : s.heap.IsList l vs.toArray) (hlo : 0 ≤ x) (hhi : x < 1000000) (hsz : vs.length * x.toNat ≤ 2 ^ 24)
    (h : Q (.ref s.heap.objs.size) { s with heap := s.heap.push { cls := .type "list", data := .seq (List.replicate x.toNat vs).flatten.toArray } }) :
    wpAny (model prog w) A (binaryOp .Mult (.ref l) (.int x u)) Q E s := by
  obtain ⟨⟨cls, d, data, sl⟩, ho, hcl, k, hd⟩ := id hl
  simp only at hcl hd
  subst hcl hd
  have hsz' : vs.toArray.size * x.toNat ≤ 2 ^ 24 := by simpa using hsz
  refine wpAny_binaryOp_repeat_ref (T := "list") (U := "int") (by decide) ⟨_, ho, rfl⟩ (fun s' => typeIs_int s' x u) noFill_list_mul F.fills_int_mul F.slot_int_rmul repeat_list F.slot_int_index.lookup
    (call_meets F.slot_int_rmul (typeIs_int s x u) F.entry_int_rmul (F.args_int_rmul_2 _ _) (lm_int_rmul_list_any x u l vs.toArray k d sl)
      ⟨ho, rfl, ⟨_, ho, rfl⟩, call_meets F.slot_list_mul ⟨_, ho, rfl⟩ F.entry_list_mul (F.args_list_mul_2 _ _)
        (lm_list_mul_any l vs.toArray k d sl x u (by simp [Builtin.List.listFitsIndex]; omega) (by omega) (by simp [Builtin.List.listTooLong, sizeLine]; omega))
        ⟨ho, ?_⟩⟩)
  rw [listMul_foldl_if]
  exact h
end
end Mine

end
section
set_option autoImplicit false
namespace Mine
open PySem PyProof.Rows

noncomputable def fsOf (l : List Env) : List Addr := l.filterMap (·.frame)

structure Keep (l : List Env) (h h' : Heap) : Prop where
  exact : ∀ b o, h.get? b = some o → b ∉ fsOf l → h'.get? b = some o
  slots : ∀ b o, h.get? b = some o → b ∈ fsOf l → ∃ sl, h'.get? b = some { o with slots := sl }

theorem Keep.refl (l : List Env) (h : Heap) : Keep l h h := ⟨fun _ _ e _ => e, fun _ o e _ => ⟨o.slots, e⟩⟩
theorem Keep.of_keeps {l : List Env} {h h' : Heap} (k : ∀ b o, h.get? b = some o → h'.get? b = some o) : Keep l h h' :=
  ⟨fun b o e _ => k b o e, fun b o e _ => ⟨o.slots, k b o e⟩⟩
theorem Keep.trans {l : List Env} {h₁ h₂ h₃ : Heap} (x : Keep l h₁ h₂) (y : Keep l h₂ h₃) : Keep l h₁ h₃ :=
  ⟨fun b o e hb => y.exact b o (x.exact b o e hb) hb, fun b o e hb => let ⟨_, e₁⟩ := x.slots b o e hb; let ⟨sl, e₂⟩ := y.slots b _ e₁ hb; ⟨sl, e₂⟩⟩
theorem Keep.some {l : List Env} {h h' : Heap} (k : Keep l h h') {b : Addr} {o : PySem.Obj} (e : h.get? b = some o) : ∃ sl, h'.get? b = some { o with slots := sl } := by
  by_cases hb : b ∈ fsOf l
  · exact k.slots b o e hb
  · exact ⟨o.slots, k.exact b o e hb⟩

structure Grow (l : List Env) (s s' : Shared) : Prop where
  gens : s'.gens = s.gens
  os : s'.os = s.os
  toks : s.toks ≤ s'.toks
  keep : Keep l s.heap s'.heap
theorem Grow.refl (l : List Env) (s : Shared) : Grow l s s := ⟨rfl, rfl, Nat.le_refl _, .refl ..⟩
theorem Grow.trans {l : List Env} {s₁ s₂ s₃ : Shared} (x : Grow l s₁ s₂) (y : Grow l s₂ s₃) : Grow l s₁ s₃ :=
  ⟨y.gens.trans x.gens, y.os.trans x.os, Nat.le_trans x.toks y.toks, x.keep.trans y.keep⟩
theorem Grow.heap {l : List Env} {s : Shared} {h' : Heap} {tk : Nat} (k : ∀ b o, s.heap.get? b = some o → h'.get? b = some o) (ht : s.toks ≤ tk) : Grow l s { s with heap := h', toks := tk } :=
  ⟨rfl, rfl, ht, .of_keeps k⟩
theorem Grow.tok {l : List Env} {s : Shared} {tk : Nat} (ht : s.toks ≤ tk) : Grow l s { s with toks := tk } := ⟨rfl, rfl, ht, .refl ..⟩

section
variable (prog : Program) (w : World)
structure OkS (s : List Nat) : Prop where
  len : s.length ≤ big
  plain : ∀ c ∈ s, plainSign c = true
noncomputable def PairsAre : List (List Nat × List Nat) → List (Str × Value) → Prop
  | [], kvs => kvs = []
  | (k, v) :: es, kvs => ∃ t r, kvs = (⟨k.toArray⟩, .str ⟨v.toArray⟩ t) :: r ∧ OkS k ∧ OkS v ∧ PairsAre es r
mutual
noncomputable def Rep (X ad : List Addr) (h : Heap) : V → Value → Prop
  | .none, val => val = .none
  | .bool b, val => val = .bool b
  | .int i, val => ∃ t, val = .int i t
  | .str s, val => ∃ t, val = .str ⟨s.toArray⟩ t ∧ OkS s
  | .bytes, val => ∃ b t, val = .bytes b t
  | .tup xs, val => ∃ a vs, val = .ref a ∧ a ∉ X ∧ h.IsTuple a vs.toArray ∧ xs.length ≤ big ∧ Reps X ad h xs vs
  | .list xs, val => ∃ a vs, val = .ref a ∧ a ∉ X ∧ h.IsList a vs.toArray ∧ xs.length ≤ big ∧ Reps X ad h xs vs
  | .dict es, val => ∃ a kvs, val = .ref a ∧ a ∉ X ∧ h.DictOf (strKind prog w) a kvs ∧ es.length ≤ big ∧ PairsAre es kvs
  | .view es, val => ∃ a d kvs, val = .ref a ∧ a ∉ X ∧ d ∉ X ∧ h.IsItemsView a d ∧ h.DictOf (strKind prog w) d kvs ∧ es.length ≤ big ∧ PairsAre es kvs
  | .range a b c, val => ∃ r t u v, val = .ref r ∧ r ∉ X ∧ IsRange h r a b c t u v ∧ Builtin.Range.small a b c = true ∧ a = 0 ∧ (∃ n : Nat, b = n ∧ n ≤ 1000000) ∧ c = 1
  | .loc i, val => ∃ a, ad[i]? = some a ∧ val = .ref a
noncomputable def Reps (X ad : List Addr) (h : Heap) : List V → List Value → Prop
  | [], vs => vs = []
  | x :: xs, vs => ∃ v r, vs = v :: r ∧ Rep X ad h x v ∧ Reps X ad h xs r
end

theorem Reps.length {X ad : List Addr} {h : Heap} : ∀ {xs : List V} {vs : List Value}, Reps prog w X ad h xs vs → vs.length = xs.length
  | [], _, e => by rw [Reps] at e; rw [e]; rfl
  | x :: xs, _, e => by
    rw [Reps] at e
    obtain ⟨v, r, rfl, _, hr⟩ := e
    simp [Reps.length hr]

end
end Mine
namespace Mine
open PySem PyProof.Rows
section
variable (prog : Program) (w : World)

mutual
theorem Rep.up {X X' ad ad' : List Addr} {h h' : Heap} (hk : ∀ b o, b ∉ X → h.get? b = some o → h'.get? b = some o) (hX : ∀ b o, b ∈ X' → h.get? b = some o → b ∈ X)
    (had : ∀ (i : Nat) (a : Addr), ad[i]? = some a → ad'[i]? = some a) : ∀ {v : V} {val : Value}, Rep prog w X ad h v val → Rep prog w X' ad' h' v val
  | .none, _, r => by rw [Rep] at r ⊢; exact r
  | .bool _, _, r => by rw [Rep] at r ⊢; exact r
  | .int _, _, r => by rw [Rep] at r ⊢; exact r
  | .str _, _, r => by rw [Rep] at r ⊢; exact r
  | .bytes, _, r => by rw [Rep] at r ⊢; exact r
  | .tup xs, _, r => by
    rw [Rep] at r ⊢
    obtain ⟨a, vs, rfl, ha, ⟨o, ho, hc, n, hd⟩, hl, hr⟩ := r
    exact ⟨a, vs, rfl, fun q => ha (hX a o q ho), ⟨o, hk a o ha ho, hc, n, hd⟩, hl, Reps.up hk hX had hr⟩
  | .list xs, _, r => by
    rw [Rep] at r ⊢
    obtain ⟨a, vs, rfl, ha, ⟨o, ho, hc, n, hd⟩, hl, hr⟩ := r
    exact ⟨a, vs, rfl, fun q => ha (hX a o q ho), ⟨o, hk a o ha ho, hc, n, hd⟩, hl, Reps.up hk hX had hr⟩
  | .dict _, _, r => by
    rw [Rep] at r ⊢
    obtain ⟨a, kvs, rfl, ha, ⟨o, es, ep, ho, q⟩, hl, hr⟩ := r
    exact ⟨a, kvs, rfl, fun q => ha (hX a o q ho), ⟨o, es, ep, hk a o ha ho, q⟩, hl, hr⟩
  | .view _, _, r => by
    rw [Rep] at r ⊢
    obtain ⟨a, d, kvs, rfl, ha, hd, ⟨oa, hoa, qa⟩, ⟨o, es, ep, ho, q⟩, hl, hr⟩ := r
    exact ⟨a, d, kvs, rfl, fun q => ha (hX a oa q hoa), fun q => hd (hX d o q ho), ⟨oa, hk a oa ha hoa, qa⟩, ⟨o, es, ep, hk d o hd ho, q⟩, hl, hr⟩
  | .range _ _ _, _, r => by
    rw [Rep] at r ⊢
    obtain ⟨a, t, u, v, rfl, ha, ho, q⟩ := r
    exact ⟨a, t, u, v, rfl, fun q => ha (hX a _ q ho), hk a _ ha ho, q⟩
  | .loc i, _, r => by
    rw [Rep] at r ⊢
    obtain ⟨a, ha, rfl⟩ := r
    exact ⟨a, had i a ha, rfl⟩
theorem Reps.up {X X' ad ad' : List Addr} {h h' : Heap} (hk : ∀ b o, b ∉ X → h.get? b = some o → h'.get? b = some o) (hX : ∀ b o, b ∈ X' → h.get? b = some o → b ∈ X)
    (had : ∀ (i : Nat) (a : Addr), ad[i]? = some a → ad'[i]? = some a) : ∀ {xs : List V} {vs : List Value}, Reps prog w X ad h xs vs → Reps prog w X' ad' h' xs vs
  | [], _, r => by rw [Reps] at r ⊢; exact r
  | x :: xs, _, r => by
    rw [Reps] at r ⊢
    obtain ⟨v, q, rfl, hv, hr⟩ := r
    exact ⟨v, q, rfl, Rep.up hk hX had hv, Reps.up hk hX had hr⟩
end

mutual
theorem Rep.low {X X' ad ad' : List Addr} {h : Heap} {n : Nat} (hX : ∀ b, b ∈ X → b ∈ X') (had : ∀ (i : Nat) (a : Addr), i < n → ad'[i]? = some a → ad[i]? = some a) :
    ∀ {v : V} {val : Value}, Mine.low n v = true → Rep prog w X' ad' h v val → Rep prog w X ad h v val
  | .none, _, _, r => by rw [Rep] at r ⊢; exact r
  | .bool _, _, _, r => by rw [Rep] at r ⊢; exact r
  | .int _, _, _, r => by rw [Rep] at r ⊢; exact r
  | .str _, _, _, r => by rw [Rep] at r ⊢; exact r
  | .bytes, _, _, r => by rw [Rep] at r ⊢; exact r
  | .tup xs, _, hl, r => by
    rw [Rep] at r ⊢
    obtain ⟨a, vs, rfl, ha, q, hl', hr⟩ := r
    exact ⟨a, vs, rfl, fun q => ha (hX a q), q, hl', Reps.low hX had (by simpa [Mine.low] using hl) hr⟩
  | .list xs, _, hl, r => by
    rw [Rep] at r ⊢
    obtain ⟨a, vs, rfl, ha, q, hl', hr⟩ := r
    exact ⟨a, vs, rfl, fun q => ha (hX a q), q, hl', Reps.low hX had (by simpa [Mine.low] using hl) hr⟩
  | .dict _, _, _, r => by
    rw [Rep] at r ⊢
    obtain ⟨a, kvs, rfl, ha, q⟩ := r
    exact ⟨a, kvs, rfl, fun q => ha (hX a q), q⟩
  | .view _, _, _, r => by
    rw [Rep] at r ⊢
    obtain ⟨a, d, kvs, rfl, ha, hd, q⟩ := r
    exact ⟨a, d, kvs, rfl, fun q => ha (hX a q), fun q => hd (hX d q), q⟩
  | .range _ _ _, _, _, r => by
    rw [Rep] at r ⊢
    obtain ⟨a, t, u, v, rfl, ha, q⟩ := r
    exact ⟨a, t, u, v, rfl, fun q => ha (hX a q), q⟩
  | .loc i, _, hl, r => by
    rw [Rep] at r ⊢
    obtain ⟨a, ha, rfl⟩ := r
    exact ⟨a, had i a (by simpa [Mine.low] using hl) ha, rfl⟩
theorem Reps.low {X X' ad ad' : List Addr} {h : Heap} {n : Nat} (hX : ∀ b, b ∈ X → b ∈ X') (had : ∀ (i : Nat) (a : Addr), i < n → ad'[i]? = some a → ad[i]? = some a) :
    ∀ {xs : List V} {vs : List Value}, lows n xs = true → Reps prog w X' ad' h xs vs → Reps prog w X ad h xs vs
  | [], _, _, r => by rw [Reps] at r ⊢; exact r
  | x :: xs, _, hl, r => by
    rw [lows, Bool.and_eq_true] at hl
    rw [Reps] at r ⊢
    obtain ⟨v, q, rfl, hv, hr⟩ := r
    exact ⟨v, q, rfl, Rep.low hX had hl.1 hv, Reps.low hX had hl.2 hr⟩
end

noncomputable def ObjRep (X ad : List Addr) (h : Heap) (o : Mine.Obj) (a : Addr) : Prop := match o with
  | .list xs => ∃ vs, h.PlainList a vs.toArray ∧ xs.length ≤ big ∧ Reps prog w X ad h xs vs
  | .dict es => ∃ kvs, h.DictOf (strKind prog w) a kvs ∧ es.length ≤ big ∧ PairsAre es kvs
  | .iter k p => match p with
    | some i => ∃ la, ad[k]? = some la ∧ h.IsListIter a la i
    | none => Ended h a

theorem ObjRep.up {X X' ad ad' : List Addr} {h h' : Heap} {o : Mine.Obj} {a : Addr} (hk : ∀ b o, b ∉ X → h.get? b = some o → h'.get? b = some o) (hX : ∀ b o, b ∈ X' → h.get? b = some o → b ∈ X)
    (had : ∀ (i : Nat) (a : Addr), ad[i]? = some a → ad'[i]? = some a) (ha : ∀ o, h.get? a = some o → h'.get? a = some o) (r : ObjRep prog w X ad h o a) : ObjRep prog w X' ad' h' o a := by
  cases o with
  | list xs =>
    obtain ⟨vs, q, hl, hr⟩ := r
    exact ⟨vs, q.at ha, hl, Reps.up prog w hk hX had hr⟩
  | dict es =>
    obtain ⟨kvs, ⟨o, es', ep, ho, q⟩, hl, hr⟩ := r
    exact ⟨kvs, ⟨o, es', ep, ha o ho, q⟩, hl, hr⟩
  | iter k p =>
    cases p with
    | some i =>
      obtain ⟨la, h1, ⟨o, ho, q⟩⟩ := r
      exact ⟨la, had k la h1, ⟨o, ha o ho, q⟩⟩
    | none =>
      obtain ⟨o, v, ho, q⟩ := r
      exact ⟨o, v, ha o ho, q⟩

structure HR (base : Heap) (l : List Env) (fx ad : List Addr) (st : Store) (s : Shared) : Prop where
  stays : base.StaysIn s.heap
  frames : s.heap.FunFrames base l
  fsX : ∀ b ∈ fsOf l, b ∈ fx
  one : sysModules ∈ fx
  main : ∃ o, s.heap.get? mainGlobals = some o
  there : ∀ b ∈ ad ++ fx, b = sysModules ∨ ∃ o, s.heap.get? b = some o
  apart : ∀ a ∈ ad, a ∉ fx
  nodup : ad.Nodup
  len : ad.length = st.length
  store : ∀ (i : Nat) (a : Addr) (o : Mine.Obj), ad[i]? = some a → st[i]? = some o → ObjRep prog w (ad ++ fx) ad s.heap o a
  toks : 1 ≤ s.toks
  off : ∀ b ∈ ad ++ fx, b = sysModules ∨ base.get? b = none

theorem HR.fresh_of {base : Heap} {l : List Env} {fx ad : List Addr} {st : Store} {s : Shared} (H : HR prog w base l fx ad st s) {h' : Heap} (hk : ∀ b o, s.heap.get? b = some o → ∃ o', h'.get? b = some o') :
    ∀ b ∈ ad ++ fx, b < h'.objs.size := fun b hb => by
  rcases H.there b hb with rfl | ⟨o, e⟩
  · obtain ⟨o, e⟩ := H.main
    obtain ⟨o', e'⟩ := hk _ _ e
    have h2 : 3 < h'.objs.size := Heap.lt_size e'
    show 1 < h'.objs.size
    omega
  · obtain ⟨o', e'⟩ := hk _ _ e
    exact Heap.lt_size e'
theorem HR.lt {base : Heap} {l : List Env} {fx ad : List Addr} {st : Store} {s : Shared} (H : HR prog w base l fx ad st s) : ∀ b ∈ ad ++ fx, b < s.heap.objs.size := HR.fresh_of prog w H fun _ o e => ⟨o, e⟩

theorem funFrames_keep {base : Heap} {l₀ l : List Env} {h h' : Heap} (k : Keep l₀ h h') (f : h.FunFrames base l) : h'.FunFrames base l :=
  f.of_keeps fun b o e _ => let ⟨_, e'⟩ := k.some e; ⟨_, e', rfl⟩
theorem Rep.grow {base : Heap} {l : List Env} {fx ad : List Addr} {st : Store} {s s' : Shared} {v : V} {val : Value} (H : HR prog w base l fx ad st s) (g : Grow l s s')
    (r : Rep prog w (ad ++ fx) ad s.heap v val) : Rep prog w (ad ++ fx) ad s'.heap v val :=
  Rep.up prog w (fun b o hb e => g.keep.exact b o e fun q => hb (List.mem_append_right _ (H.fsX b q))) (fun _ _ q _ => q) (fun _ _ q => q) r
theorem Reps.grow {base : Heap} {l : List Env} {fx ad : List Addr} {st : Store} {s s' : Shared} {v : List V} {val : List Value} (H : HR prog w base l fx ad st s) (g : Grow l s s')
    (r : Reps prog w (ad ++ fx) ad s.heap v val) : Reps prog w (ad ++ fx) ad s'.heap v val :=
  Reps.up prog w (fun b o hb e => g.keep.exact b o e fun q => hb (List.mem_append_right _ (H.fsX b q))) (fun _ _ q _ => q) (fun _ _ q => q) r
end

inductive XSt (B : Heap) (L e : Addr) (cls : Value) (h : Heap) : Prop
  | fresh (oe : PySem.Obj) (vs : Array Value) (a0 : Value) : h.get? e = some oe → oe.cls = cls → oe.data = .fields vs → vs[1]? = some .none → vs[0]? = some a0 → XSt B L e cls h
  | fly (a0 : Value) : h.TracedAtW B e cls a0 .none → XSt B L e cls h
  | held (a0 : Value) : h.TracedAtW B e cls a0 (rawInt L) → XSt B L e cls h

noncomputable def K.cls : K → Value
  | .value => .type "ValueError"
  | .index => .type "IndexError"
  | .type => .type "TypeError"

structure Raised (l : List Env) (L : Addr) (s₁ : Shared) (k : K) (e : Value) (s' : Shared) : Prop where
  gens : s'.gens = s₁.gens
  os : s'.os = s₁.os
  toks : s₁.toks ≤ s'.toks
  at_ : ∃ a B, e = .ref a ∧ (∀ b o, s₁.heap.get? b = some o → b ∉ fsOf l → B.get? b = some o) ∧ B.StaysIn s'.heap ∧ B.get? a = none ∧ s'.heap.FunFrames B l ∧ XSt B L a k.cls s'.heap
  slots : s₁.heap.UpToSlots s'.heap

end Mine

end
section
set_option autoImplicit false
namespace Mine
open PySem PyProof.Rows

noncomputable def topL (l : List Env) : Addr := match l with
  | e :: _ => e.frame.getD 0
  | [] => 0

structure Post {α β : Type} (l : List Env) (s : Shared) (P : α → β → Heap → Prop) (r : R α) (Q : β → Shared → Prop) (E : Value → Shared → Prop) : Prop where
  ok : ∀ a b s', r = .ok a → Grow l s s' → P a b s'.heap → Q b s'
  exc : ∀ k e s₁ s', r = .error (.exc k) → Grow l s s₁ → Raised l (topL l) s₁ k e s' → E e s'
  ns : r ≠ .error .stuck

section
variable {α β γ δ : Type} {l : List Env} {s : Shared} {P : α → β → Heap → Prop} {r : R α} {Q : β → Shared → Prop} {E : Value → Shared → Prop}
theorem Post.after {s₁ : Shared} (p : Post l s P r Q E) (g : Grow l s s₁) : Post l s₁ P r Q E :=
  ⟨fun a b s' h g' => p.ok a b s' h (g.trans g'), fun k e s₂ s' h g' => p.exc k e s₂ s' h (g.trans g'), p.ns⟩

theorem wpT {M : Model} {A : Around} {t : Sem β} (h : wpAny M A t (fun a s' => s.toks ≤ s'.toks → Q a s') (fun e s' => s.toks ≤ s'.toks → E e s') s) : wpAny M A t Q E s :=
  wpAny_with_toks (Nat.le_refl _) h
end

theorem sizeLine_big : sizeLine = big := rfl

theorem raised_new {l : List Env} {base : Heap} {s : Shared} {h' : Heap} {tk : Nat} {a : Addr} {k : K} {cls : String} (hc : k.cls = .type cls) (x : Heap.NewExc s.heap h' a cls) (ht : s.toks ≤ tk) (f : s.heap.FunFrames base l) :
    Raised l (topL l) s k (.ref a) { s with heap := h', toks := tk } := by
  have hin : ∀ env ∈ l, ∀ b, env.frame = some b → b ∈ fsOf l := fun env he b hb => List.mem_filterMap.mpr ⟨env, he, hb⟩
  refine ⟨rfl, rfl, ht, ⟨a, PySem.W.hideAll s.heap (fsOf l), rfl, fun b o e hb => PySem.W.hideAll_get _ e hb, fun b o e => x.keeps b o (PySem.W.of_hideAll _ e), ?_, ?_, ?_⟩, .of_keeps x.keeps⟩
  · cases q : (PySem.W.hideAll s.heap (fsOf l)).get? a with
    | none => rfl
    | some o => have := PySem.W.of_hideAll _ q; rw [x.new] at this; cases this
  · exact (PySem.W.funFrames_hide f hin).of_keeps fun b o e _ => ⟨o, x.keeps b o e, rfl⟩
  · obtain ⟨ob, t, h1, h2, h3⟩ := x.there
    exact .fresh ob _ t h1 (h2.trans hc.symm) h3 rfl rfl

section
variable {prog : Program} {w : World} {A : Around} {base : Heap} {l : List Env} {fx ad : List Addr} {st : Store} {s : Shared} {Q : Value → Shared → Prop} {E : Value → Shared → Prop}

theorem items_rep (H : HR prog w base l fx ad st s) {v : V} {val : Value} {xs : List V} (r : Rep prog w (ad ++ fx) ad s.heap v val) (h : items st v = some xs) :
    ∃ a vs, val = .ref a ∧ s.heap.IsList a vs.toArray ∧ xs.length ≤ big ∧ Reps prog w (ad ++ fx) ad s.heap xs vs := by
  cases v with
  | list ys => rw [Rep] at r; obtain ⟨a, vs, h1, h2, h3, h4, h5⟩ := r; cases h; exact ⟨a, vs, h1, h3, h4, h5⟩
  | loc i =>
    rw [Rep] at r
    obtain ⟨a, ha, rfl⟩ := r
    simp only [items] at h
    split at h
    · rename_i ys hi
      cases h
      obtain ⟨vs, h1, h2, h3⟩ := H.store i a _ ha hi
      exact ⟨a, vs, rfl, h1.isList, h2, h3⟩
    · cases h
  | _ => cases h
theorem dict_rep (H : HR prog w base l fx ad st s) {v : V} {val : Value} {es : List (List Nat × List Nat)} (r : Rep prog w (ad ++ fx) ad s.heap v val) (h : dictOf st v = some es) :
    ∃ a kvs, val = .ref a ∧ a ≠ sysModules ∧ s.heap.DictOf (strKind prog w) a kvs ∧ es.length ≤ big ∧ PairsAre es kvs := by
  cases v with
  | dict ys => rw [Rep] at r; obtain ⟨a, vs, h1, h2, h3, h4, h5⟩ := r; cases h; exact ⟨a, vs, h1, fun q => h2 (q ▸ List.mem_append_right _ H.one), h3, h4, h5⟩
  | loc i =>
    rw [Rep] at r
    obtain ⟨a, ha, rfl⟩ := r
    simp only [dictOf] at h
    split at h
    · rename_i ys hi
      cases h
      obtain ⟨vs, h1, h2, h3⟩ := H.store i a _ ha hi
      exact ⟨a, vs, rfl, fun q => H.apart a (List.mem_of_getElem? ha) (q ▸ H.one), h1, h2, h3⟩
    · cases h
  | _ => cases h

theorem notin_fresh (H : HR prog w base l fx ad st s) : s.heap.objs.size ∉ ad ++ fx := fun q => Nat.lt_irrefl _ (HR.lt prog w H _ q)
theorem get_push (h : Heap) (o : PySem.Obj) : ∀ b o', h.get? b = some o' → (h.push o).get? b = some o' := fun b o' e => Heap.get?_push_of_some _ e

theorem rep_newlist (H : HR prog w base l fx ad st s) {h' : Heap} {xs : List V} {vs : List Value} {n : Nat} (hk : ∀ b o, s.heap.get? b = some o → h'.get? b = some o)
    (ho : h'.get? s.heap.objs.size = some { cls := .type "list", data := .seq vs.toArray n }) (hl : xs.length ≤ big) (hr : Reps prog w (ad ++ fx) ad s.heap xs vs) :
    Rep prog w (ad ++ fx) ad h' (.list xs) (.ref s.heap.objs.size) := by
  rw [Rep]
  exact ⟨_, vs, rfl, notin_fresh H, ⟨_, ho, rfl, n, rfl⟩, hl, Reps.up prog w (fun b o _ e => hk b o e) (fun _ _ q _ => q) (fun _ _ q => q) hr⟩
theorem rep_newtup (H : HR prog w base l fx ad st s) {h' : Heap} {xs : List V} {vs : List Value} {n : Nat} (hk : ∀ b o, s.heap.get? b = some o → h'.get? b = some o)
    (ho : h'.get? s.heap.objs.size = some { cls := .type "tuple", data := .seq vs.toArray n }) (hl : xs.length ≤ big) (hr : Reps prog w (ad ++ fx) ad s.heap xs vs) :
    Rep prog w (ad ++ fx) ad h' (.tup xs) (.ref s.heap.objs.size) := by
  rw [Rep]
  exact ⟨_, vs, rfl, notin_fresh H, ⟨_, ho, rfl, n, rfl⟩, hl, Reps.up prog w (fun b o _ e => hk b o e) (fun _ _ q _ => q) (fun _ _ q => q) hr⟩

theorem Reps.append {X ad : List Addr} {h : Heap} : ∀ {xs ys : List V} {vs ws : List Value}, Reps prog w X ad h xs vs → Reps prog w X ad h ys ws → Reps prog w X ad h (xs ++ ys) (vs ++ ws)
  | [], _, _, _, e, r => by rw [Reps] at e; subst e; exact r
  | x :: xs, _, _, _, e, r => by
    rw [Reps] at e
    obtain ⟨v, q, rfl, hv, hr⟩ := e
    rw [List.cons_append, Reps]
    exact ⟨v, _, rfl, hv, Reps.append hr r⟩
theorem Reps.get {X ad : List Addr} {h : Heap} : ∀ {xs : List V} {vs : List Value} {i : Nat} {x : V}, Reps prog w X ad h xs vs → xs[i]? = some x → ∃ v, vs[i]? = some v ∧ Rep prog w X ad h x v
  | [], _, _, _, e, r => by simp at r
  | x :: xs, _, 0, _, e, r => by
    rw [Reps] at e
    obtain ⟨v, q, rfl, hv, hr⟩ := e
    simp at r; subst r
    exact ⟨v, rfl, hv⟩
  | x :: xs, _, i + 1, _, e, r => by
    rw [Reps] at e
    obtain ⟨v, q, rfl, hv, hr⟩ := e
    simp only [List.getElem?_cons_succ] at r ⊢
    exact Reps.get hr r
theorem Reps.drop {X ad : List Addr} {h : Heap} : ∀ (n : Nat) {xs : List V} {vs : List Value}, Reps prog w X ad h xs vs → Reps prog w X ad h (xs.drop n) (vs.drop n)
  | 0, _, _, r => r
  | n + 1, [], _, r => by rw [Reps] at r; subst r; simp [Reps]
  | n + 1, x :: xs, _, r => by
    rw [Reps] at r
    obtain ⟨v, q, rfl, hv, hr⟩ := r
    exact Reps.drop n hr
theorem Reps.take {X ad : List Addr} {h : Heap} : ∀ (n : Nat) {xs : List V} {vs : List Value}, Reps prog w X ad h xs vs → Reps prog w X ad h (xs.take n) (vs.take n)
  | 0, _, _, r => by simp [Reps]
  | n + 1, [], _, r => by rw [Reps] at r; subst r; simp [Reps]
  | n + 1, x :: xs, _, r => by
    rw [Reps] at r
    obtain ⟨v, q, rfl, hv, hr⟩ := r
    rw [List.take_succ_cons, List.take_succ_cons, Reps]
    exact ⟨v, _, rfl, hv, Reps.take n hr⟩
theorem Reps.set {X ad : List Addr} {h : Heap} : ∀ (n : Nat) {xs : List V} {vs : List Value} {x : V} {v : Value}, Reps prog w X ad h xs vs → Rep prog w X ad h x v → Reps prog w X ad h (xs.set n x) (vs.set n v)
  | _, [], _, _, _, r, _ => by rw [Reps] at r; subst r; simp [Reps]
  | 0, x :: xs, _, _, _, r, q => by
    rw [Reps] at r
    obtain ⟨v, q', rfl, hv, hr⟩ := r
    simp only [List.set_cons_zero]; rw [Reps]
    exact ⟨_, _, rfl, q, hr⟩
  | n + 1, x :: xs, _, _, _, r, q => by
    rw [Reps] at r
    obtain ⟨v, q', rfl, hv, hr⟩ := r
    simp only [List.set_cons_succ]; rw [Reps]
    exact ⟨_, _, rfl, hv, Reps.set n hr q⟩

theorem add_two_lists {a b : Addr} {vs ws : List Value} (ha : s.heap.IsList a vs.toArray) (hb : s.heap.IsList b ws.toArray) (hsz : vs.length + ws.length ≤ sizeLine)
    (h : Q (.ref s.heap.objs.size) { s with heap := s.heap.push { cls := .type "list", data := .seq (vs ++ ws).toArray } }) : wpAny (model prog w) A (binaryOp .Add (.ref a) (.ref b)) Q E s := by
  obtain ⟨⟨c1, d1, dt1, sl1⟩, h1, rfl, n1, rfl⟩ := ha
  obtain ⟨⟨c2, d2, dt2, sl2⟩, h2, rfl, n2, rfl⟩ := hb
  have e : vs.toArray ++ ws.toArray = (vs ++ ws).toArray := by simp
  exact concat_meets ⟨_, h1, rfl⟩ ⟨_, h2, rfl⟩ noFill_list_add seq_list_add PySem.F.slot_list_add PySem.F.entry_list_add (PySem.F.args_list_add_2 _ _)
    (list_addW a b vs.toArray ws.toArray n1 n2 d1 d2 sl1 sl2 (by simpa using hsz)) ⟨h1, h2, by rw [e]; exact h⟩
end
end Mine

end
section
set_option autoImplicit false
namespace Mine
open PySem PyProof.Rows

theorem OkS.one {s : List Nat} (h : OkS s) {c : Nat} (hc : c ∈ s) : OkS [c] := ⟨by show 1 ≤ 16777216; decide, fun d hd => by rw [List.mem_singleton.mp hd]; exact h.plain c hc⟩
theorem OkS.append {s t : List Nat} (hs : OkS s) (ht : OkS t) (hl : s.length + t.length ≤ big) : OkS (s ++ t) :=
  ⟨by rw [List.length_append]; exact hl, fun c hc => (List.mem_append.mp hc).elim (hs.plain c) (ht.plain c)⟩
theorem OkS.sub {s t : List Nat} (hs : OkS s) (hl : t.length ≤ s.length) (h : ∀ c ∈ t, c ∈ s) : OkS t := ⟨Nat.le_trans hl hs.len, fun c hc => hs.plain c (h c hc)⟩
theorem plain_lt {c : Nat} (h : plainSign c = true) : c < 128 := by
  simp only [plainSign, Bool.or_eq_true, Bool.and_eq_true, decide_eq_true_eq] at h; omega
theorem OkS.strOk {s : List Nat} (h : OkS s) : PyData.strOk ⟨s.toArray⟩ = true := by
  simp only [PyData.strOk, List.all_toArray, List.all_eq_true, decide_eq_true_eq]
  intro c hc; have := plain_lt (h.plain c hc); omega
theorem mkStr_append (s t : List Nat) : (⟨s.toArray⟩ : Str) ++ ⟨t.toArray⟩ = ⟨(s ++ t).toArray⟩ := by
  show Str.mk (s.toArray ++ t.toArray) = _; simp
theorem len_mk (s : List Nat) : (Str.mk s.toArray).length = s.length := by simp [Str.length]
theorem mk_beq (s t : List Nat) : ((⟨s.toArray⟩ : Str) == ⟨t.toArray⟩) = (s == t) := by
  rw [Bool.eq_iff_iff]; simp

section
variable {prog : Program} {w : World} {A : Around} {base : Heap} {l : List Env} {fx ad : List Addr} {st : Store} {s : Shared} {Q : Value → Shared → Prop} {E : Value → Shared → Prop}

noncomputable abbrev RepX (prog : Program) (w : World) (fx ad : List Addr) : V → Value → Heap → Prop := fun v val h => Rep prog w (ad ++ fx) ad h v val

theorem rep_int {X : List Addr} {h : Heap} {i : Int} {t : Tok} : Rep prog w X ad h (.int i) (.int i t) := by rw [Rep]; exact ⟨t, rfl⟩
theorem rep_str {X : List Addr} {h : Heap} {x : List Nat} {t : Tok} (ok : OkS x) : Rep prog w X ad h (.str x) (.str ⟨x.toArray⟩ t) := by rw [Rep]; exact ⟨t, rfl, ok⟩
theorem rep_bool {X : List Addr} {h : Heap} {b : Bool} : Rep prog w X ad h (.bool b) (.bool b) := by rw [Rep]

theorem intOp_snd {f : Int → Int → R V} {a b : V} {va vb : Value} (ra : Rep prog w (ad ++ fx) ad s.heap a va) (rb : Rep prog w (ad ++ fx) ad s.heap b vb) {C : Prop} (ns : intOp f a b ≠ stuck)
    (h : ∀ x y t u, a = .int x → b = .int y → va = .int x t → vb = .int y u → C) : C := by
  cases a with
  | int x =>
    cases b with
    | int y =>
      rw [Rep] at ra rb; obtain ⟨t, rfl⟩ := ra; obtain ⟨u, rfl⟩ := rb
      exact h x y t u rfl rfl rfl rfl
    | _ => exact absurd rfl ns
  | _ => exact absurd rfl ns
theorem addL_snd (H : HR prog w base l fx ad st s) {a b : V} {va vb : Value} (ra : Rep prog w (ad ++ fx) ad s.heap a va) (rb : Rep prog w (ad ++ fx) ad s.heap b vb) (p : Post l s (RepX prog w fx ad) (addL st a b) Q E) :
    wpAny (model prog w) A (binaryOp .Add va vb) Q E s := by
  unfold addL at p
  cases hxs : items st a with
  | none => rw [hxs] at p; exact absurd rfl p.ns
  | some xs =>
    rw [hxs] at p
    cases hys : items st b with
    | none => rw [hys] at p; exact absurd rfl p.ns
    | some ys =>
      rw [hys] at p
      by_cases hb : xs.length + ys.length ≤ big
      · have p' : Post l s (RepX prog w fx ad) (.ok (.list (xs ++ ys))) Q E := by have := p; simp only [if_pos hb] at this; exact this
        obtain ⟨x, vs, rfl, hx, _, rx⟩ := items_rep H ra hxs
        obtain ⟨y, ws, rfl, hy, _, ry⟩ := items_rep H rb hys
        refine add_two_lists hx hy (by rw [Reps.length prog w rx, Reps.length prog w ry]; exact hb) (p'.ok _ _ _ rfl (Grow.heap (get_push _ _) (Nat.le_refl _)) ?_)
        exact rep_newlist H (get_push _ _) (Heap.get?_push_size _ rfl) (by rw [List.length_append]; exact hb) (Reps.append rx ry)
      · exact absurd (if_neg hb) p.ns
theorem reps_rep {X : List Addr} {h : Heap} {xs : List V} {vs : List Value} (r : Reps prog w X ad h xs vs) : ∀ n : Nat, Reps prog w X ad h (List.replicate n xs).flatten (List.replicate n vs).flatten
  | 0 => by show Reps prog w X ad h [] []; rw [Reps]
  | n + 1 => by
    rw [List.replicate_succ, List.replicate_succ, List.flatten_cons, List.flatten_cons]
    exact Reps.append r (reps_rep r n)
theorem len_rep {α : Type} (xs : List α) (n : Nat) : (List.replicate n xs).flatten.length = n * xs.length := by
  induction n with
  | zero => simp
  | succ n ih => rw [List.replicate_succ, List.flatten_cons, List.length_append, ih, Nat.succ_mul, Nat.add_comm]
theorem mulL_snd (H : HR prog w base l fx ad st s) {a b : V} {va vb : Value} (ra : Rep prog w (ad ++ fx) ad s.heap a va) (rb : Rep prog w (ad ++ fx) ad s.heap b vb) (p : Post l s (RepX prog w fx ad) (mulL st a b) Q E) :
    wpAny (model prog w) A (binaryOp .Mult va vb) Q E s := by
  unfold mulL at p
  cases hxs : items st a with
  | none => rw [hxs] at p; exact absurd rfl p.ns
  | some xs =>
    rw [hxs] at p
    cases b with
    | int n =>
      by_cases hc : 0 ≤ n ∧ n < 1000 ∧ xs.length ≤ 1000
      · have p' : Post l s (RepX prog w fx ad) (.ok (.list (List.replicate n.toNat xs).flatten)) Q E := by have := p; simp only [intOf, if_pos hc] at this; exact this
        obtain ⟨x, vs, rfl, hx, _, rx⟩ := items_rep H ra hxs
        have hvl := Reps.length prog w rx
        rw [Rep] at rb; obtain ⟨u, rfl⟩ := rb
        have hm : n.toNat * xs.length ≤ 1000 * 1000 := Nat.mul_le_mul (by omega) hc.2.2
        refine mul_list_n hx hc.1 (by omega) (by rw [hvl, Nat.mul_comm]; omega) (p'.ok _ _ _ rfl (Grow.heap (get_push _ _) (Nat.le_refl _)) ?_)
        exact rep_newlist H (get_push _ _) (Heap.get?_push_size _ rfl) (by rw [len_rep]; simp only [big]; omega) (reps_rep rx _)
      · exact absurd (if_neg hc) p.ns
    | _ => exact absurd rfl p.ns
theorem binop_snd (H : HR prog w base l fx ad st s) {o : Operator} {op : BOp} (ho : binP o = some op) {a b : V} {va vb : Value}
    (ra : Rep prog w (ad ++ fx) ad s.heap a va) (rb : Rep prog w (ad ++ fx) ad s.heap b vb) (p : Post l s (RepX prog w fx ad) (binop st op a b) Q E) :
    wpAny (model prog w) A (binaryOp o va vb) Q E s := by
  cases o <;> cases ho
  · cases a with
    | int x =>
      refine intOp_snd (f := fun x y => .ok (.int (x + y))) ra rb p.ns fun x y t u h1 h2 h3 h4 => ?_
      cases h1
      subst h2 h3 h4
      exact add_int (p.ok _ _ _ rfl (.tok (Nat.le_succ _)) rep_int)
    | str x =>
      cases b with
      | str y =>
        rw [Rep] at ra rb; obtain ⟨t, rfl, hx⟩ := ra; obtain ⟨u, rfl, hy⟩ := rb
        by_cases hb : x.length + y.length ≤ big
        · refine wpT (add_str (fun t' tk htk => ?_) (by rw [len_mk, len_mk]; exact hb))
          rw [mkStr_append]
          exact p.ok _ _ _ (if_pos hb) (.tok htk) (rep_str (hx.append hy hb))
        · exact absurd (if_neg hb) p.ns
      | _ => exact absurd rfl p.ns
    | _ => exact addL_snd H ra rb p
  · refine intOp_snd (f := fun x y => .ok (.int (x - y))) ra rb p.ns fun x y t u h1 h2 h3 h4 => ?_
    subst h1 h2 h3 h4
    exact sub_int (p.ok _ _ _ rfl (.tok (Nat.le_succ _)) rep_int)
  · exact mulL_snd H ra rb p
  · refine intOp_snd (f := fun x y => if y = 0 then stuck else .ok (.int (x.fmod y))) ra rb p.ns fun x y t u h1 h2 h3 h4 => ?_
    subst h1 h2 h3 h4
    by_cases hb : y = 0
    · exact absurd (if_pos hb) p.ns
    · exact mod_int' hb (p.ok _ _ _ (if_neg hb) (.tok (Nat.le_succ _)) rep_int)
  · refine intOp_snd (f := fun x y => if 0 < y ∧ y < 1000 then .ok (.int (x.fdiv y)) else stuck) ra rb p.ns fun x y t u h1 h2 h3 h4 => ?_
    subst h1 h2 h3 h4
    by_cases hb : 0 < y ∧ y < 1000
    · exact floordiv_int (Int.ne_of_gt hb.1) (p.ok _ _ _ (if_pos hb) (.tok (Nat.le_succ _)) rep_int) (.inl (PyProof.noPylong_small (by omega)))
    · exact absurd (if_neg hb) p.ns

theorem truth_snd (H : HR prog w base l fx ad st s) {a : V} {va : Value} {Q : Bool → Shared → Prop} (ra : Rep prog w (ad ++ fx) ad s.heap a va) {b : Bool} (hb : truth st a = some b)
    (h : ∀ s', Grow l s s' → Q b s') : wpAny (model prog w) A (truthy va) Q E s := by
  cases a with
  | none => rw [Rep] at ra; subst ra; cases hb; exact truthy_none (h _ (.refl ..))
  | bool b => rw [Rep] at ra; subst ra; cases hb; exact wpAny_truthy_bool (h _ (.refl ..))
  | int i => rw [Rep] at ra; obtain ⟨t, rfl⟩ := ra; cases hb; exact PyProof.Rows.truthy_int (h _ (.refl ..))
  | str x =>
    rw [Rep] at ra; obtain ⟨t, rfl, hx⟩ := ra; cases hb
    have hl := hx.len
    refine PySem.P.truthy_str (by rw [len_mk]; simp only [big] at hl; omega) ?_
    have e : (((Str.mk x.toArray).length : Int) != 0) = !x.isEmpty := by
      rw [len_mk]; cases x <;> simp <;> omega
    rw [e]
    exact h _ (.tok (by show s.toks ≤ s.toks + 1 + 1; omega))
  | list xs =>
    rw [Rep] at ra; obtain ⟨x, vs, rfl, _, hx, hl, hr⟩ := ra; cases hb
    have hlen := Reps.length prog w hr
    refine wpAny_truthy_list hx (by simp only [big] at hl; simp; omega) ?_
    have e : (!vs.toArray.isEmpty) = !xs.isEmpty := by cases vs <;> cases xs <;> simp_all
    rw [e]
    exact h _ (.tok (by show s.toks ≤ s.toks + 1 + 1; omega))
  | loc i =>
    simp only [truth] at hb
    split at hb
    · rename_i xs hi
      cases hb
      obtain ⟨x, vs, rfl, hx, hl, hr⟩ := items_rep H ra (xs := xs) (by simp [items, hi])
      have hlen := Reps.length prog w hr
      refine wpAny_truthy_list hx (by simp only [big] at hl; simp; omega) ?_
      have e : (!vs.toArray.isEmpty) = !xs.isEmpty := by cases vs <;> cases xs <;> simp_all
      rw [e]
      exact h _ (.tok (by show s.toks ≤ s.toks + 1 + 1; omega))
    · cases hb
  | _ => cases hb
end
end Mine

end
section
set_option autoImplicit false
namespace Mine
open PySem PyProof.Rows

mutual
noncomputable def py : V → PyData
  | .bool b => .bool b
  | .int i => .int i
  | .str s => .str ⟨s.toArray⟩
  | .tup xs => .tuple (pys xs)
  | .list xs => .list (pys xs)
  | _ => .none
noncomputable def pys : List V → List PyData
  | [] => []
  | x :: xs => py x :: pys xs
end
mutual
noncomputable def okV : V → Bool
  | .none | .bool _ | .int _ | .str _ => true
  | .tup xs | .list xs => okVs xs
  | _ => false
noncomputable def okVs : List V → Bool
  | [] => true
  | x :: xs => okV x && okVs xs
end
mutual
theorem eqv_py : ∀ x y : V, okV x = true → okV y = true → V.eqv x y = PyData.eqv (py x) (py y)
  | .none, y, _, hy => by cases y <;> first | (cases hy; done) | rfl
  | .bool _, y, _, hy => by cases y <;> first | (cases hy; done) | rfl
  | .int _, y, _, hy => by cases y <;> first | (cases hy; done) | rfl
  | .str _, y, _, hy => by cases y <;> first | (cases hy; done) | rfl | (show (_ == _) = ((_ : Str) == _); rw [mk_beq])
  | .tup xs, .tup ys, hx, hy => eqvs_py xs ys hx hy
  | .list xs, .list ys, hx, hy => eqvs_py xs ys hx hy
  | .tup _, .none, _, _ | .tup _, .bool _, _, _ | .tup _, .int _, _, _ | .tup _, .str _, _, _ | .tup _, .list _, _, _ => by rfl
  | .list _, .none, _, _ | .list _, .bool _, _, _ | .list _, .int _, _, _ | .list _, .str _, _, _ | .list _, .tup _, _, _ => by rfl
  | .tup _, .bytes, _, hy | .tup _, .dict _, _, hy | .tup _, .view _, _, hy | .tup _, .range .., _, hy | .tup _, .loc _, _, hy => by cases hy
  | .list _, .bytes, _, hy | .list _, .dict _, _, hy | .list _, .view _, _, hy | .list _, .range .., _, hy | .list _, .loc _, _, hy => by cases hy
  | .bytes, _, hx, _ | .dict _, _, hx, _ | .view _, _, hx, _ | .range .., _, hx, _ | .loc _, _, hx, _ => by cases hx
theorem eqvs_py : ∀ xs ys : List V, okVs xs = true → okVs ys = true → V.eqvs xs ys = PyData.eqvAll (pys xs) (pys ys)
  | [], [], _, _ => rfl
  | [], _ :: _, _, _ => rfl
  | _ :: _, [], _, _ => rfl
  | x :: xs, y :: ys, hx, hy => by
    have hx := Bool.and_eq_true_iff.mp hx
    have hy := Bool.and_eq_true_iff.mp hy
    show (V.eqv x y && V.eqvs xs ys) = (PyData.eqv (py x) (py y) && PyData.eqvAll (pys xs) (pys ys))
    rw [eqv_py x y hx.1 hy.1, eqvs_py xs ys hx.2 hy.2]
end

section
variable {prog : Program} {w : World} {A : Around} {base : Heap} {l : List Env} {fx ad : List Addr} {st : Store} {s : Shared} {E : Value → Shared → Prop}

structure ReadOut (h : Heap) (val : Value) (d : V) (n : Nat) : Prop where
  ok : okV d = true
  lay : (py d).canLay0 = true
  depth : (py d).depth ≤ n
  reads : ∃ as, Reads h val (py d) as

theorem reads_list (H : HR prog w base l fx ad st s) {n : Nat} (ih : ∀ v val d, Rep prog w (ad ++ fx) ad s.heap v val → reso n st v = some d → ReadOut s.heap val d n) :
    ∀ (xs : List V) (vs : List Value) (ds : List V), Reps prog w (ad ++ fx) ad s.heap xs vs → mapO (reso n st) xs = some ds →
      okVs ds = true ∧ PyData.canLayAll0 (pys ds) = true ∧ PyData.depthAll (pys ds) ≤ n ∧ ∃ as, ReadsAll s.heap vs (pys ds) as
  | [], vs, ds, r, e => by
    rw [Reps] at r; subst r; simp only [mapO] at e; cases e
    exact ⟨rfl, rfl, Nat.zero_le _, [], .nil⟩
  | x :: xs, vs, ds, r, e => by
    rw [Reps] at r
    obtain ⟨v, q, rfl, hv, hr⟩ := r
    simp only [mapO] at e
    split at e
    · cases e
    · rename_i d hd
      split at e
      · cases e
      · rename_i ds' hds
        cases e
        obtain ⟨a1, a2, a3, as, a4⟩ := ih x v d hv hd
        obtain ⟨b1, b2, b3, bs, b4⟩ := reads_list H ih xs q ds' hr hds
        refine ⟨by simp [okVs, a1, b1], by simp [pys, PyData.canLayAll0, a2, b2], ?_, as ++ bs, .cons a4 b4⟩
        simp only [pys, PyData.depthAll]; omega

theorem reads_of (H : HR prog w base l fx ad st s) : ∀ (n : Nat) (v : V) (val : Value) (d : V), Rep prog w (ad ++ fx) ad s.heap v val → reso n st v = some d → ReadOut s.heap val d n := by
  intro n
  induction n with
  | zero =>
    intro v val d r e
    cases v <;> simp only [reso] at e <;> first | (cases e; done) | skip
    all_goals (rw [Rep] at r)
    · cases e; subst r; exact ⟨rfl, rfl, Nat.zero_le _, [], .none⟩
    · cases e; subst r; exact ⟨rfl, rfl, Nat.zero_le _, [], .bool _⟩
    · cases e; obtain ⟨t, rfl⟩ := r; exact ⟨rfl, rfl, Nat.zero_le _, [], .int _ _⟩
    · cases e; obtain ⟨t, rfl, hx⟩ := r; exact ⟨rfl, hx.strOk, Nat.zero_le _, [], .str _ _⟩
  | succ n ih =>
    intro v val d r e
    cases v <;> simp only [reso] at e <;> first | (cases e; done) | skip
    · cases e; rw [Rep] at r; subst r; exact ⟨rfl, rfl, Nat.zero_le _, [], .none⟩
    · cases e; rw [Rep] at r; subst r; exact ⟨rfl, rfl, Nat.zero_le _, [], .bool _⟩
    · cases e; rw [Rep] at r; obtain ⟨t, rfl⟩ := r; exact ⟨rfl, rfl, Nat.zero_le _, [], .int _ _⟩
    · cases e; rw [Rep] at r; obtain ⟨t, rfl, hx⟩ := r; exact ⟨rfl, hx.strOk, Nat.zero_le _, [], .str _ _⟩
    · rename_i xs
      rw [Rep] at r
      obtain ⟨a, vs, rfl, _, ⟨o, ho, hc, k, hd⟩, _, hr⟩ := r
      obtain ⟨ds, hds, rfl⟩ := Option.map_eq_some_iff.mp e
      obtain ⟨b1, b2, b3, bs, b4⟩ := reads_list H ih xs vs ds hr hds
      refine ⟨b1, b2, ?_, bs, .tuple ho hc hd (by simpa using b4)⟩
      simp only [py, PyData.depth]; omega
    · rename_i xs
      obtain ⟨a, vs, rfl, ⟨o, ho, hc, k, hd⟩, _, hr⟩ := items_rep H r (xs := xs) rfl
      obtain ⟨ds, hds, rfl⟩ := Option.map_eq_some_iff.mp e
      obtain ⟨b1, b2, b3, bs, b4⟩ := reads_list H ih xs vs ds hr hds
      refine ⟨b1, b2, ?_, a :: bs, .list ho hc hd (by simpa using b4)⟩
      simp only [py, PyData.depth]; omega
    · rename_i i
      split at e
      · rename_i xs hi
        obtain ⟨a, vs, rfl, ⟨o, ho, hc, k, hd⟩, _, hr⟩ := items_rep H r (xs := xs) (by simp [items, hi])
        obtain ⟨ds, hds, rfl⟩ := Option.map_eq_some_iff.mp e
        obtain ⟨b1, b2, b3, bs, b4⟩ := reads_list H ih xs vs ds hr hds
        refine ⟨b1, b2, ?_, a :: bs, .list ho hc hd (by simpa using b4)⟩
        simp only [py, PyData.depth]; omega
      · cases e

theorem ReadOut.shaped {h : Heap} {val : Value} {d : V} (x : ReadOut h val d 64) : SeqAt.shaped (py d) = true := by
  simp only [SeqAt.shaped, Bool.and_eq_true, decide_eq_true_eq]; exact ⟨x.lay, x.depth⟩

theorem eq_snd (H : HR prog w base l fx ad st s) (hu : A.units + 64 < cLine) {a b : V} {va vb : Value} {Q : Value → Shared → Prop} (ra : Rep prog w (ad ++ fx) ad s.heap a va) (rb : Rep prog w (ad ++ fx) ad s.heap b vb)
    {r : Bool} (e : eqVal st a b = .ok r) (h : Q (.bool r) s) : wpAny (model prog w) A (compareOp .Eq va vb) Q E s := by
  unfold eqVal at e
  split at e
  · rename_i x y hx hy
    cases e
    have rx := reads_of H 64 _ _ _ ra hx
    have ry := reads_of H 64 _ _ _ rb hy
    obtain ⟨as, rx'⟩ := rx.reads
    obtain ⟨bs, ry'⟩ := ry.reads
    refine SeqAt.compareEq_shaped rx' ry' rx.shaped ry.shaped hu ?_
    rw [← eqv_py x y rx.ok ry.ok]; exact h
  · cases e
theorem ne_snd (H : HR prog w base l fx ad st s) (hu : A.units + 64 < cLine) {a b : V} {va vb : Value} {Q : Value → Shared → Prop} (ra : Rep prog w (ad ++ fx) ad s.heap a va) (rb : Rep prog w (ad ++ fx) ad s.heap b vb)
    {r : Bool} (e : eqVal st a b = .ok r) (hb : a ≠ .bytes) (h : Q (.bool !r) s) : wpAny (model prog w) A (compareOp .NotEq va vb) Q E s := by
  unfold eqVal at e
  split at e
  · rename_i x y hx hy
    cases e
    have rx := reads_of H 64 _ _ _ ra hx
    have ry := reads_of H 64 _ _ _ rb hy
    obtain ⟨as, rx'⟩ := rx.reads
    obtain ⟨bs, ry'⟩ := ry.reads
    refine SeqAt.compareNe_shaped rx' ry' rx.shaped ry.shaped hu ?_
    rw [← eqv_py x y rx.ok ry.ok]; exact h
  · cases e
end
end Mine

end
section
set_option autoImplicit false
namespace Mine
open PySem PyProof.Rows
section
variable {prog : Program} {w : World} {A : Around} {base : Heap} {l : List Env} {fx ad : List Addr} {st : Store} {s : Shared} {E : Value → Shared → Prop} {Q : Value → Shared → Prop}

theorem pairs_any (k : List Nat) : ∀ {es : List (List Nat × List Nat)} {kvs : List (Str × Value)}, PairsAre es kvs → (valueAt kvs (⟨k.toArray⟩ : Str)).isSome = es.any (fun p => p.1 == k)
  | [], _, h => by rw [PairsAre] at h; subst h; rfl
  | (x, y) :: es, _, h => by
    rw [PairsAre] at h
    obtain ⟨t, r, rfl, hx, hy, hr⟩ := h
    have ih := pairs_any k hr
    simp only [valueAt] at ih ⊢
    rw [List.find?_cons, List.any_cons]
    by_cases hk : x = k
    · subst hk; simp
    · have h1 : decide ((⟨x.toArray⟩ : Str) = ⟨k.toArray⟩) = false := by simp [hk]
      have h2 : (x == k) = false := by simp [hk]
      rw [h1, h2]; simpa using ih
theorem pairs_find (k : List Nat) : ∀ {es : List (List Nat × List Nat)} {kvs : List (Str × Value)}, PairsAre es kvs →
    match es.find? (fun p => p.1 == k) with
    | some p => ∃ t, valueAt kvs (⟨k.toArray⟩ : Str) = some (.str ⟨p.2.toArray⟩ t) ∧ OkS p.2
    | none => valueAt kvs (⟨k.toArray⟩ : Str) = none
  | [], _, h => by rw [PairsAre] at h; subst h; rfl
  | (x, y) :: es, _, h => by
    rw [PairsAre] at h
    obtain ⟨t, r, rfl, hx, hy, hr⟩ := h
    have ih := pairs_find k hr
    simp only [valueAt] at ih ⊢
    rw [List.find?_cons, List.find?_cons]
    by_cases hk : x = k
    · subst hk; simp; exact hy
    · have h1 : decide ((⟨x.toArray⟩ : Str) = ⟨k.toArray⟩) = false := by simp [hk]
      have h2 : (x == k) = false := by simp [hk]
      rw [h1, h2]; exact ih

noncomputable def strIs (k : List Nat) : Value → Bool
  | .str y _ => y == ⟨k.toArray⟩
  | _ => false
theorem strs_any (k : List Nat) {X : List Addr} {h : Heap} : ∀ {xs : List V} {vs : List Value} {ss : List (List Nat)}, Reps prog w X ad h xs vs → mapO strOf xs = some ss →
    (vs.any (strIs k) = ss.contains k) ∧ ∀ y ∈ vs, ∃ z t, y = .str z t
  | [], _, _, r, e => by rw [Reps] at r; subst r; simp only [mapO] at e; cases e; exact ⟨rfl, fun _ h => nomatch h⟩
  | x :: xs, _, _, r, e => by
    rw [Reps] at r
    obtain ⟨v, q, rfl, hv, hr⟩ := r
    simp only [mapO] at e
    split at e
    · cases e
    · rename_i y hy
      split at e
      · cases e
      · rename_i ys hys
        cases e
        obtain ⟨ih1, ih2⟩ := strs_any k hr hys
        cases x <;> simp only [strOf] at hy <;> first | (cases hy; done) | skip
        cases hy
        rw [Rep] at hv
        obtain ⟨t, rfl, hx⟩ := hv
        refine ⟨?_, ?_⟩
        · rw [List.any_cons, List.contains_cons, ih1]
          simp only [strIs]
          rw [mk_beq]
          congr 1
          rw [Bool.eq_iff_iff]; simp; exact ⟨Eq.symm, Eq.symm⟩
        · intro z hz
          rcases List.mem_cons.mp hz with rfl | hz
          · exact ⟨_, _, rfl⟩
          · exact ih2 z hz

theorem isIn_snd (H : HR prog w base l fx ad st s) {a b : V} {va vb : Value} (ra : Rep prog w (ad ++ fx) ad s.heap a va) (rb : Rep prog w (ad ++ fx) ad s.heap b vb)
    {r : Bool} (e : isIn st a b = .ok r) (neg : Bool) (h : ∀ s', Grow l s s' → Q (.bool (neg ^^ r)) s') : wpAny (model prog w) A (compareOp (if neg then .NotIn else .In) va vb) Q E s := by
  have fin : ∀ k es, a = .str k → dictOf st b = some es → r = es.any (fun p => p.1 == k) → wpAny (model prog w) A (compareOp (if neg then .NotIn else .In) va vb) Q E s := by
    rintro k es rfl he rfl
    rw [Rep] at ra
    obtain ⟨t, rfl, hk⟩ := ra
    obtain ⟨d, kvs, rfl, hd, hm, _, hp⟩ := dict_rep H rb he
    have hds : (d == sysModules) = false := by simpa using hd
    have hv := pairs_any k hp
    cases neg
    · refine wpAny_in_of (strKind_is prog w _ t) hds hm.mapOf ?_
      rw [hv]; simpa using h _ (.tok (Nat.le_succ _))
    · refine wpAny_notIn_of (strKind_is prog w _ t) hds hm.mapOf ?_
      rw [hv]; simpa using h _ (.tok (Nat.le_succ _))
  unfold isIn at e
  split at e
  · cases e
    rw [Rep] at ra rb
    rename_i c x
    obtain ⟨t, rfl, hc⟩ := ra
    obtain ⟨u, rfl, hx⟩ := rb
    have q := StrLaws.found_one ⟨x.toArray⟩ c
    have q' : decide (c ∈ (Str.mk x.toArray).cps.toList) = x.contains c := by simp [List.contains_iff_mem]
    cases neg
    · refine PySem.SB.contains ?_
      unfold Txt.contains
      rw [show ([c].toArray : Array Nat) = #[c] from rfl, q, q']; simpa using h _ (.refl ..)
    · refine PySem.SB.notContains ?_
      unfold Txt.contains
      rw [show ([c].toArray : Array Nat) = #[c] from rfl, q, q']; simpa using h _ (.refl ..)
  · cases e; exact fin _ _ rfl rfl rfl
  · rename_i k b' hn1
    split at e
    · rename_i es he
      cases e; exact fin _ _ rfl he rfl
    · split at e
      · rename_i xs hxs
        split at e
        · rename_i ss hss
          cases e
          rw [Rep] at ra
          obtain ⟨t, rfl, hk⟩ := ra
          obtain ⟨y, vs, rfl, hy, _, hr⟩ := items_rep H rb hxs
          obtain ⟨h1, h2⟩ := strs_any k hr hss
          have he : ∀ y, y ∈ vs.toArray → SeqAt.EqAt A.in1 s y (.str ⟨k.toArray⟩ t) (strIs k y) := fun y hy => by
            obtain ⟨z, u, rfl⟩ := h2 y (by simpa using hy)
            exact SeqAt.EqAt.str_str z u _ t
          cases neg
          · refine SeqAt.in_listAt (strIs k) hy he ?_
            rw [List.any_toArray, h1]; simpa using h _ (.refl ..)
          · refine SeqAt.notIn_listAt (strIs k) hy he ?_
            rw [List.any_toArray, h1]; simpa using h _ (.refl ..)
        · cases e
      · cases e
  · cases e

theorem cmpop_snd (H : HR prog w base l fx ad st s) (hu : A.units + 64 < cLine) {o : PySem.CmpOp} {op : COp} (ho : cmpP o = some op) {a b : V} {va vb : Value}
    (ra : Rep prog w (ad ++ fx) ad s.heap a va) (rb : Rep prog w (ad ++ fx) ad s.heap b vb) {r : Bool} (e : cmpop st op a b = .ok r) (h : ∀ s', Grow l s s' → Q (.bool r) s') :
    wpAny (model prog w) A (compareOp o va vb) Q E s := by
  unfold cmpop at e
  split at e
  · cases o <;> cases ho
    cases e
    rw [Rep] at ra; rw [Rep] at rb; obtain ⟨b1, t, rfl⟩ := ra; obtain ⟨u, rfl, _⟩ := rb
    exact bytes_is_str _ _ _ _ (h _ (.refl ..))
  · cases o <;> cases ho
    exact eq_snd H hu ra rb e (h _ (.refl ..))
  · cases e
  · cases o <;> cases ho
    split at e
    · rename_i hb _ q he
      cases e
      exact ne_snd H hu ra rb he (fun q => hb q) (h _ (.refl ..))
    · cases e
  · rw [Rep] at ra rb; obtain ⟨t, rfl⟩ := ra; obtain ⟨u, rfl⟩ := rb
    cases o <;> cases ho; cases e
    exact PyProof.Rows.lt_int (h _ (.refl ..))
  · rw [Rep] at ra rb; obtain ⟨t, rfl⟩ := ra; obtain ⟨u, rfl⟩ := rb
    cases o <;> cases ho; cases e
    exact PyProof.Rows.gt_int (h _ (.refl ..))
  · rw [Rep] at ra rb; obtain ⟨t, rfl⟩ := ra; obtain ⟨u, rfl⟩ := rb
    cases o <;> cases ho; cases e
    exact PyProof.Rows.le_int (h _ (.refl ..))
  · rw [Rep] at ra rb; obtain ⟨t, rfl⟩ := ra; obtain ⟨u, rfl⟩ := rb
    cases o <;> cases ho; cases e
    exact PyProof.Rows.ge_int (h _ (.refl ..))
  · cases o <;> cases ho
    exact isIn_snd H ra rb e false (by simpa using h)
  · cases o <;> cases ho
    split at e
    · rename_i q he
      cases e
      exact isIn_snd H ra rb he true (by simpa using h)
    · cases e
  · cases e
end
end Mine

end
section
set_option autoImplicit false
namespace Mine
open PySem PyProof.Rows

theorem clamp_clip (n : Nat) (i : Int) : clamp n i = clipAt n i := by
  unfold clamp clipAt
  by_cases h : 0 ≤ i
  · rw [if_pos h, if_neg (Int.not_lt.mpr h)]
    obtain ⟨k, rfl⟩ := Int.eq_ofNat_of_zero_le h
    show min k n = _
    rcases Nat.le_total k n with q | q
    · rw [Nat.min_eq_left q, Int.min_eq_left (Int.ofNat_le.mpr q), Int.max_eq_right (Int.natCast_nonneg _)]; rfl
    · rw [Nat.min_eq_right q, Int.min_eq_right (Int.ofNat_le.mpr q), Int.max_eq_right (Int.natCast_nonneg _)]; rfl
  · rw [if_neg h, if_pos (Int.not_le.mp h), Int.add_comm, Int.min_eq_left (by omega)]
    by_cases h2 : 0 ≤ i + n
    · rw [Int.max_eq_right h2]
    · rw [Int.max_eq_left (by omega), Int.toNat_of_nonpos (by omega)]; rfl
theorem sliceL_eq {α : Type} (lo hi : Option Int) (xs : List α) :
    sliceL lo hi xs = (xs.drop (lo.elim 0 (clipAt xs.length))).take (hi.elim xs.length (clipAt xs.length) - lo.elim 0 (clipAt xs.length)) := by
  unfold sliceL
  cases lo <;> cases hi <;> simp only [Option.elim, clamp_clip]
theorem strIdx_plain (lo hi : Option Int) (n : Nat) :
    Builtin.Str.strSliceIndices lo hi 1 n = (List.range (hi.elim n (clipAt n) - lo.elim 0 (clipAt n))).map (fun k => lo.elim 0 (clipAt n) + k) := by
  have e : Builtin.Str.strSliceIndices lo hi 1 n = sliceRange (sliceBounds lo hi none n).1 (sliceBounds lo hi none n).2.1 1 := rfl
  rw [e, sliceBounds_plain]
  exact sliceRange_one _ _
theorem place_eq (n : Nat) (i : Int) : place n i = seqIndex? i n := by
  unfold place seqIndex?
  by_cases h : 0 ≤ i
  · rw [if_pos h]
    have h' : ¬ i < 0 := by omega
    simp only [h', if_false]
    by_cases h2 : i < n
    · rw [if_pos h2, if_pos (by simp [h, h2])]
    · rw [if_neg h2, if_neg (by simp [h2])]
  · rw [if_neg h]
    have h' : i < 0 := by omega
    simp only [h', if_true]
    by_cases h2 : -(n : Int) ≤ i
    · rw [if_pos h2, if_pos (by simp; omega)]; congr 1; omega
    · rw [if_neg h2, if_neg (by simp; omega)]
theorem place_lt {n : Nat} {i : Int} {k : Nat} (h : place n i = some k) : k < n ∧ -(n : Int) ≤ i ∧ i < n := by
  unfold place at h
  split at h <;> split at h <;> simp at h <;> omega
section
variable {prog : Program} {w : World} {A : Around} {base : Heap} {l : List Env} {fx ad : List Addr} {st : Store} {s : Shared} {E : Value → Shared → Prop} {Q : Value → Shared → Prop} {value slice : Expr}

noncomputable def notSlice : Expr → Bool
  | .Slice .. => false
  | _ => true
theorem subscripted_plain (h : notSlice slice = true) (o i : Value) : subscripted slice false o i = operate [o, i] (getItem o i) := by
  cases slice <;> first | rfl | cases h

theorem getItem_list_at {a : Addr} {vs : List Value} {i : Int} {t : Tok} {k : Nat} {x : Value} (hl : s.heap.IsList a vs.toArray) (hb : vs.length ≤ big) (hk : place vs.length i = some k) (hx : vs[k]? = some x) (h : Q x s) :
    wpAny (model prog w) A (getItem (.ref a) (.int i t)) Q E s := by
  obtain ⟨h1, h2, h3⟩ := place_lt hk
  simp only [big] at hb
  by_cases h0 : 0 ≤ i
  · unfold place at hk
    rw [if_pos h0, if_pos h3] at hk; cases hk
    exact wpAny_getItem_list hl h0 (by omega) (by simpa using hx) h
  · unfold place at hk
    rw [if_neg h0, if_pos h2] at hk; cases hk
    refine wpAny_getItem_list_neg hl (by omega) (by simpa using h2) (by omega) ?_ h
    have e : (i + (vs.toArray.size : Int)).toNat = ((vs.length : Int) + i).toNat := by simp; omega
    rw [e]; simpa using hx

theorem index_snd (H : HR prog w base l fx ad st s) (hh : A.handled = none) (hsl : notSlice slice = true) {a i : V} {va vi : Value}
    (ra : Rep prog w (ad ++ fx) ad s.heap a va) (ri : Rep prog w (ad ++ fx) ad s.heap i vi) (p : Post l s (RepX prog w fx ad) (index st a i) Q E) :
    wpAny (model prog w) A (subscriptTail value slice va vi) Q E s := by
  have sub := subscripted_plain hsl va vi
  unfold index at p
  split at p
  · rename_i x i
    rw [Rep] at ra; rw [Rep] at ri; obtain ⟨t, rfl, hx⟩ := ra; obtain ⟨u, rfl⟩ := ri
    refine tail_any (typeIs_str s _ t) PySem.F.slot_str_getitem.lookup ?_ sub
    have hl := hx.len
    simp only [big] at hl
    split at p
    · rename_i k hk
      obtain ⟨h1, h2, h3⟩ := place_lt hk
      split at p
      · rename_i c hc
        refine PySem.P.getItem_str (c := c) (by simp; omega) ?_ (p.ok _ _ _ rfl (.tok (Nat.le_succ _)) (rep_str (hx.one (List.mem_of_getElem? hc))))
        rw [len_mk, ← place_eq, hk]; simpa using hc
      · exact absurd rfl p.ns
    · rename_i hk
      split at p
      · rename_i hb
        refine wpT (getItem_meets (typeIs_str s _ t) (by decide) PySem.F.slot_str_getitem PySem.F.entry_str_getitem (PySem.F.args_str_getitem_2 _ _)
          (raises_str_getitem ⟨x.toArray⟩ i t u (by simp; omega) (by rw [len_mk, ← place_eq, hk]; rfl)) ⟨hh, fun h' tk e x => ?_⟩)
        intro htk
        exact p.exc .index _ s _ rfl (.refl ..) (raised_new rfl x htk H.frames)
      · exact absurd rfl p.ns
  · rename_i xs i
    rw [Rep] at ra; rw [Rep] at ri; obtain ⟨x, vs, rfl, _, hx, hb, hr⟩ := ra; obtain ⟨u, rfl⟩ := ri
    have hl := Reps.length prog w hr
    refine tail_any hx.typeIs PySem.F.slot_tuple_getitem.lookup ?_ sub
    split at p
    · rename_i k hk
      obtain ⟨h1, h2, h3⟩ := place_lt hk
      simp only [big] at hb
      cases hy : xs[k]? with
      | none => rw [hy] at p; exact absurd rfl p.ns
      | some y =>
        rw [hy] at p
        obtain ⟨v, hv, rv⟩ := Reps.get hr hy
        refine PyProof.Rows.getItem_tuple (j := k) hx (by omega) (by omega) ?_ (by simpa using hv) (p.ok _ _ _ rfl (.refl ..) rv)
        rw [← place_eq]; simp only [List.size_toArray]; rw [hl]; exact hk
    · exact absurd rfl p.ns
  · rename_i i h1 h2
    rw [Rep] at ri; obtain ⟨u, rfl⟩ := ri
    split at p
    · rename_i xs hxs
      obtain ⟨x, vs, rfl, hx, hb, hr⟩ := items_rep H ra hxs
      have hl := Reps.length prog w hr
      refine tail_any hx.typeIs PySem.F.slot_list_getitem.lookup ?_ sub
      split at p
      · rename_i k hk
        cases hy : xs[k]? with
        | none => rw [hy] at p; exact absurd rfl p.ns
        | some y =>
          rw [hy] at p
          obtain ⟨v, hv, rv⟩ := Reps.get hr hy
          exact getItem_list_at hx (by rw [hl]; exact hb) (by rw [hl]; exact hk) hv (p.ok _ _ _ rfl (.refl ..) rv)
      · exact absurd rfl p.ns
    · exact absurd rfl p.ns
  · rename_i k
    rw [Rep] at ri; obtain ⟨u, rfl, hk⟩ := ri
    split at p
    · rename_i es hes
      obtain ⟨d, kvs, rfl, _, hm, _, hp⟩ := dict_rep H ra hes
      refine tail_any hm.typeIs PySem.F.slot_dict_getitem.lookup ?_ sub
      have q := pairs_find k hp
      split at p
      · rename_i y hy
        rw [hy] at q
        obtain ⟨t, hv, ok⟩ := q
        exact wpAny_getItem_of (strKind_is prog w _ u) hm.mapOf hv (p.ok _ _ _ rfl (.tok (Nat.le_succ _)) (rep_str ok))
      · exact absurd rfl p.ns
    · exact absurd rfl p.ns
  · exact absurd rfl p.ns
end
end Mine

end
section
set_option autoImplicit false
namespace Mine
open PySem PyProof.Rows

section
variable {prog : Program} {w : World} {A : Around} {base : Heap} {l : List Env} {fx ad : List Addr} {st : Store} {s : Shared} {E : Value → Shared → Prop} {Q : Value → Shared → Prop} {value : Expr}

noncomputable def PartIs (o : Option V) (v : Value) : Prop := match o with
  | none => v = .none
  | some (.int i) => ∃ t, v = .int i t
  | some _ => True

theorem sliceL_len {α : Type} (lo hi : Option Int) (xs : List α) : (sliceL lo hi xs).length ≤ xs.length := by
  rw [sliceL_eq]; simp; omega
theorem sliceL_mem {α : Type} (lo hi : Option Int) (xs : List α) : ∀ c ∈ sliceL lo hi xs, c ∈ xs := fun c hc => by
  rw [sliceL_eq] at hc; exact List.mem_of_mem_drop (List.mem_of_mem_take hc)
theorem sliceL_whole {α : Type} (lo hi : Option Int) (xs : List α) (h : (sliceL lo hi xs).length = xs.length) : sliceL lo hi xs = xs := by
  rw [sliceL_eq] at h ⊢
  generalize lo.elim 0 (clipAt xs.length) = a at *
  generalize hi.elim xs.length (clipAt xs.length) = b at *
  simp only [List.length_take, List.length_drop] at h
  have ha : a = 0 ∨ xs.length = 0 := by omega
  rcases ha with rfl | h0
  · rw [List.drop_zero]; exact List.take_of_length_le (by omega)
  · have : xs = [] := List.length_eq_zero_iff.mp h0
    subst this; simp

theorem str_slice {x : List Nat} (hx : OkS x) {t : Tok} {sl : Addr} {lo hi : Option (Int × Tok)} (hs : s.heap.IsSlice sl lo hi none)
    (h : ∀ t' tk, s.toks ≤ tk → Q (.str ⟨(sliceL (lo.map (·.1)) (hi.map (·.1)) x).toArray⟩ t') { s with toks := tk }) : wpAny (model prog w) A (getItem (.str ⟨x.toArray⟩ t) (.ref sl)) Q E s := by
  refine wpAny_getItem_str_slice hs rfl ?_
  have e : ((slicePicked ⟨x.toArray⟩ lo hi none).filterMap ((Str.mk x.toArray).cps[·]?)) = sliceL (lo.map (·.1)) (hi.map (·.1)) x := by
    unfold slicePicked
    show (Builtin.Str.strSliceIndices (lo.map (·.1)) (hi.map (·.1)) 1 _).filterMap _ = _
    rw [len_mk, strIdx_plain, sliceL_eq]
    exact pick_run x.toArray _ _
  have el : (slicePicked ⟨x.toArray⟩ lo hi none).length = (sliceL (lo.map (·.1)) (hi.map (·.1)) x).length ∨ True := .inr trivial
  unfold sliceMade
  split
  · rename_i hc
    show Q _ s
    have hw : sliceL (lo.map (·.1)) (hi.map (·.1)) x = x := by
      apply sliceL_whole
      have hc' : (slicePicked ⟨x.toArray⟩ lo hi none).length = x.length := by
        simp only [Bool.and_eq_true, beq_iff_eq] at hc; rw [hc.2, len_mk]
      unfold slicePicked at hc'
      have hc'' : (Builtin.Str.strSliceIndices (lo.map (·.1)) (hi.map (·.1)) 1 (Str.mk x.toArray).length).length = x.length := hc'
      rw [len_mk, strIdx_plain] at hc''
      simp only [List.length_map, List.length_range] at hc''
      rw [sliceL_eq]
      simp only [List.length_take, List.length_drop]
      have hb : (hi.map (·.1)).elim x.length (clipAt x.length) ≤ x.length := by
        cases hi with
        | none => exact Nat.le_refl _
        | some p => show clipAt x.length p.1 ≤ x.length; unfold clipAt; omega
      omega
    have := h t s.toks (Nat.le_refl _)
    rw [hw] at this; exact this
  · rw [e]
    refine ⟨?_, ?_⟩
    · rw [len_mk]; exact Nat.le_trans (sliceL_len _ _ _) hx.len
    · exact h _ _ (Nat.le_succ _)

theorem list_slice {a sl : Addr} {vs : List Value} (hl : s.heap.IsList a vs.toArray) (hb : vs.length ≤ big) {vl vu vst : Value} {lo hi sp : Option Int} (hs : s.heap.IsSliceOf sl vl vu vst)
    (pl : IsPart vl lo) (pu : IsPart vu hi) (ps : IsPart vst sp) (h0 : sp ≠ some 0) {ws : List Value} (e : slicePick vs.toArray lo hi sp = ws.toArray)
    (h : Q (.ref s.heap.objs.size) { s with heap := s.heap.push { cls := .type "list", data := .seq ws.toArray } }) : wpAny (model prog w) A (getItem (.ref a) (.ref sl)) Q E s := by
  refine wpAny_getItem_list_slice hl hs pl pu ps h0 ?_ (by rw [List.size_toArray]; exact hb)
  rw [e]; exact h

theorem part_str {o : Option V} {v : Value} {i : Option Int} (h : PartIs o v) (e : bound o = some i) :
    ∃ p, v = partValue p ∧ p.map (·.1) = i ∧ IsPart v i := by
  cases o with
  | none =>
    cases e
    have h' : v = .none := h
    exact ⟨none, h', rfl, h' ▸ .none⟩
  | some x =>
    cases x <;> simp [bound] at e
    subst e
    obtain ⟨t, rfl⟩ := h
    exact ⟨some (_, t), rfl, rfl, .int _ _⟩

theorem slice_snd (H : HR prog w base l fx ad st s) {lower upper step : Option Expr} {pp : Pos} {a : V} {va : Value} {lo hi : Option V} {sp : Step} {vl vu vst : Value} {sl : Addr}
    (ra : Rep prog w (ad ++ fx) ad s.heap a va) (hl : PartIs lo vl) (hu : PartIs hi vu)
    (hsp : match sp with | .one => vst = .none ∧ step = none | .back => (∃ t, vst = .int (-1) t) | .every k => ∃ t, vst = .int (k : Int) t)
    (hs : s.heap.get? sl = some { cls := .type "slice", data := .fields #[vl, vu, vst] }) (p : Post l s (RepX prog w fx ad) (sliceV st a lo hi sp) Q E) :
    wpAny (model prog w) A (subscriptTail value (.Slice lower upper step pp) va (.ref sl)) Q E s := by
  have sub : ∃ ops, subscripted (.Slice lower upper step pp) false va (.ref sl) = operate ops (getItem va (.ref sl)) := by
    cases step <;> exact ⟨_, rfl⟩
  obtain ⟨ops, sub⟩ := sub
  have hsl : s.heap.IsSliceOf sl vl vu vst := ⟨_, hs, rfl, rfl⟩
  unfold sliceV at p
  split at p
  · rename_i lo' hi' elo ehi
    obtain ⟨plo, rfl, hplo, ilo⟩ := part_str hl elo
    obtain ⟨phi', rfl, hphi, ihi⟩ := part_str hu ehi
    split at p
    · obtain ⟨rfl, _⟩ := hsp
      split at p
      · rename_i x
        rw [Rep] at ra; obtain ⟨t, rfl, hx⟩ := ra
        refine tail_any (typeIs_str s _ t) PySem.F.slot_str_getitem.lookup (str_slice hx (lo := plo) (hi := phi') ⟨_, hs, rfl, rfl⟩ fun t' tk htk => ?_) sub
        rw [hplo, hphi]
        exact p.ok _ _ _ rfl (.tok htk) (rep_str (hx.sub (sliceL_len _ _ _) (sliceL_mem _ _ _)))
      · split at p
        · rename_i xs hxs
          obtain ⟨x, vs, rfl, hx, hb, hr⟩ := items_rep H ra hxs
          have hlen := Reps.length prog w hr
          refine tail_any hx.typeIs PySem.F.slot_list_getitem.lookup (list_slice hx (by rw [hlen]; exact hb) hsl ilo ihi .none (by intro q; cases q) (ws := sliceL lo' hi' vs) ?_ (p.ok _ _ _ rfl (Grow.heap (get_push _ _) (Nat.le_refl _)) ?_)) sub
          · rw [slicePick_plain, sliceL_eq]; simp
          · refine rep_newlist H (get_push _ _) (Heap.get?_push_size _ rfl) (Nat.le_trans (sliceL_len _ _ _) hb) ?_
            rw [sliceL_eq, sliceL_eq, hlen]
            exact Reps.take _ (Reps.drop _ hr)
        · exact absurd rfl p.ns
    · exact absurd rfl p.ns
  · exact absurd rfl p.ns
end
end Mine

end
section
set_option autoImplicit false
namespace Mine
open PySem PyProof.Rows PySem.Builtin.Str PySem.StrLaws

theorem mk_inj {a b : Str} (h : a.cps.toList = b.cps.toList) : a = b := Str.ext' (Array.toList_inj.mp h)
theorem mk_eq (a : Str) : a = ⟨a.cps.toList.toArray⟩ := mk_inj rfl

theorem join_eq (sep : List Nat) : ∀ (xs : List (List Nat)), (Str.join ⟨sep.toArray⟩ (xs.map fun x => ⟨x.toArray⟩)).cps.toList = joinL sep xs
  | [] => rfl
  | [x] => by simp [Str.join, joinL]
  | x :: y :: r => by
    have ih := join_eq sep (y :: r)
    simp only [List.map_cons] at ih ⊢
    show ((⟨x.toArray⟩ : Str) ++ ⟨sep.toArray⟩ ++ Str.join ⟨sep.toArray⟩ (⟨y.toArray⟩ :: r.map fun x => ⟨x.toArray⟩)).cps.toList = _
    rw [Str.cps_append, Array.toList_append, ih, Str.cps_append, Array.toList_append]
    rfl

theorem isSpace_plain {c : Nat} (h : plainSign c = true) : Unicode.isSpace c = isSpace c := by
  have hl := plain_lt h
  have key : ∀ c : Fin 128, plainSign c.val = true → Unicode.isSpace c.val = isSpace c.val := by decide +kernel
  exact key ⟨c, hl⟩ h
theorem takeWhile_congr {p q : Nat → Bool} : ∀ {l : List Nat}, (∀ c ∈ l, p c = q c) → l.takeWhile p = l.takeWhile q
  | [], _ => rfl
  | x :: xs, h => by
    rw [List.takeWhile_cons, List.takeWhile_cons, h x (List.mem_cons_self ..), takeWhile_congr fun c hc => h c (List.mem_cons_of_mem _ hc)]
theorem drop_takeWhile {p : Nat → Bool} : ∀ (l : List Nat), l.drop (l.takeWhile p).length = l.dropWhile p
  | [] => rfl
  | x :: xs => by
    rw [List.takeWhile_cons, List.dropWhile_cons]
    cases p x with
    | true => simpa using drop_takeWhile xs
    | false => rfl
theorem strip_eq {s : List Nat} (hs : OkS s) : (Txt.strip ⟨s.toArray⟩).cps.toList = strip s := by
  unfold Txt.strip
  rw [stripBy_eq, strSub_toList]
  have e1 : stripLo Unicode.isSpace true ⟨s.toArray⟩ = (s.takeWhile isSpace).length := by
    unfold stripLo
    simp only [if_true]
    rw [takeWhile_congr (q := isSpace) fun c hc => isSpace_plain (hs.plain c (by simpa using hc))]
  rw [e1]
  have e2 : stripHi Unicode.isSpace true ⟨s.toArray⟩ (s.takeWhile isSpace).length = s.length - ((s.dropWhile isSpace).reverse.takeWhile isSpace).length := by
    unfold stripHi
    simp only [if_true, len_mk]
    rw [drop_takeWhile, takeWhile_congr (q := isSpace) fun c hc => isSpace_plain (hs.plain c ((List.dropWhile_suffix _).sublist.subset (List.mem_reverse.mp hc)))]
  rw [e2, show (Str.mk s.toArray).cps.toList = s from by simp, drop_takeWhile]
  unfold strip
  have hl : (s.dropWhile isSpace).length = s.length - (s.takeWhile isSpace).length := by rw [← drop_takeWhile, List.length_drop]
  rw [← drop_takeWhile (l := (s.dropWhile isSpace).reverse)]
  generalize hd : s.dropWhile isSpace = d at *
  generalize (d.reverse.takeWhile isSpace).length = n
  rw [List.drop_reverse, List.reverse_reverse]
  congr 1
  omega
end Mine

end
section
set_option autoImplicit false
namespace Mine
open PySem PyProof.Rows

section
variable {prog : Program} {w : World} {A : Around} {base : Heap} {l : List Env} {fx ad : List Addr} {st : Store} {s : Shared} {E : Value → Shared → Prop} {Q : Value → Shared → Prop}

theorem reps_one {X : List Addr} {h : Heap} {a : V} {vals : List Value} (r : Reps prog w X ad h [a] vals) : ∃ v, vals = [v] ∧ Rep prog w X ad h a v := by
  rw [Reps] at r; obtain ⟨v, q, rfl, hv, hr⟩ := r; rw [Reps] at hr; subst hr; exact ⟨v, rfl, hv⟩
theorem reps_two {X : List Addr} {h : Heap} {a b : V} {vals : List Value} (r : Reps prog w X ad h [a, b] vals) : ∃ v u, vals = [v, u] ∧ Rep prog w X ad h a v ∧ Rep prog w X ad h b u := by
  rw [Reps] at r; obtain ⟨v, q, rfl, hv, hr⟩ := r; obtain ⟨u, rfl, hu⟩ := reps_one hr; exact ⟨v, u, rfl, hv, hu⟩
theorem len_snd (H : HR prog w base l fx ad st s) {xs : List V} {vals : List Value} (hr : Reps prog w (ad ++ fx) ad s.heap xs vals) (p : Post l s (RepX prog w fx ad) (pLen st xs) Q E) :
    wpAny (model prog w) A (call (.builtin "len") vals) Q E s := by
  unfold pLen at p
  split at p
  · rename_i a
    obtain ⟨v, rfl, hv⟩ := reps_one hr
    split at p
    · rename_i x hx
      cases a <;> simp only [strOf] at hx <;> first | (cases hx; done) | skip
      cases hx
      rw [Rep] at hv; obtain ⟨t, rfl, ok⟩ := hv
      have hl := ok.len
      simp only [big] at hl
      refine PySem.P.len_str (by rw [len_mk]; omega) ?_
      rw [len_mk]
      exact p.ok _ _ _ rfl (.tok (by show s.toks ≤ s.toks + 1 + 1; omega)) rep_int
    · split at p
      · rename_i ys hys
        obtain ⟨x, vs, rfl, hx, hb, hr⟩ := items_rep H hv hys
        have hl := Reps.length prog w hr
        simp only [big] at hb
        refine PySem.Calls.call_len_list hx (by rw [List.size_toArray]; omega) ?_
        have e : ((vs.toArray.size : Nat) : Int) = (ys.length : Int) := by rw [List.size_toArray, hl]
        rw [e]
        exact p.ok _ _ _ rfl (.tok (by show s.toks ≤ s.toks + 1 + 1; omega)) rep_int
      · exact absurd rfl p.ns
  · exact absurd rfl p.ns

theorem rangeSize_n (n : Nat) : Builtin.Range.rangeSize 0 (n : Int) 1 = n := by
  unfold Builtin.Range.rangeSize
  rw [if_pos (by decide)]
  cases n with
  | zero => rfl
  | succ k => rw [if_pos (Int.natCast_succ_pos k), Int.sub_zero, Int.ediv_one, Int.sub_add_cancel]
theorem tupleOf_snd (H : HR prog w base l fx ad st s) {xs : List V} {vals : List Value} (hr : Reps prog w (ad ++ fx) ad s.heap xs vals) (p : Post l s (RepX prog w fx ad) (pTupleOf st xs) Q E) :
    wpAny (model prog w) A (call (.type "tuple") vals) Q E s := by
  unfold pTupleOf at p
  split at p
  · obtain ⟨v, rfl, hv⟩ := reps_one hr
    split at p
    · rename_i ys hys
      obtain ⟨x, vs, rfl, hx, hb, hr⟩ := items_rep H hv hys
      have hl := Reps.length prog w hr
      refine call_tuple_list hx (fun h' hk => p.ok _ _ _ rfl (Grow.heap (fun b o e => get_push _ _ b o (hk b o e)) (Nat.le_refl _)) ?_) (by rw [List.size_toArray, hl]; exact hb)
      show Rep _ _ _ _ _ _ _
      rw [Rep]
      refine ⟨_, vs, rfl, fun q => ?_, ⟨_, Heap.get?_push_size _ rfl, rfl, _, rfl⟩, hb, Reps.up prog w (fun b o _ e => get_push _ _ b o (hk b o e)) (fun _ _ q _ => q) (fun _ _ q => q) hr⟩
      exact Nat.lt_irrefl _ (HR.fresh_of prog w H (fun b o e => ⟨o, hk b o e⟩) _ q)
    · exact absurd rfl p.ns
  · exact absurd rfl p.ns

end
end Mine

end
section
set_option autoImplicit false
namespace Mine
open PySem PyProof.Rows

section
variable {prog : Program} {w : World} {A : Around} {base : Heap} {l : List Env} {fx ad : List Addr} {st : Store} {s : Shared} {E : Value → Shared → Prop} {Q : Value → Shared → Prop}

theorem strip_sub (x : List Nat) : (strip x).length ≤ x.length ∧ ∀ c ∈ strip x, c ∈ x := by
  unfold strip
  have h1 := (List.dropWhile_suffix (l := x) isSpace).sublist
  have h2 := (List.dropWhile_suffix (l := (x.dropWhile isSpace).reverse) isSpace).sublist
  refine ⟨?_, fun c hc => ?_⟩
  · have := h1.length_le; have := h2.length_le; simp at *; omega
  · exact h1.subset (List.mem_reverse.mp (h2.subset (List.mem_reverse.mp hc)))
theorem strip_snd (H : HR prog w base l fx ad st s) {xs : List V} {vals : List Value} (hr : Reps prog w (ad ++ fx) ad s.heap xs vals) (p : Post l s (RepX prog w fx ad) (pStrip xs) Q E) :
    wpAny (model prog w) A (call (.builtin "str.strip") vals) Q E s := by
  unfold pStrip at p
  split at p
  · rename_i x
    obtain ⟨v, rfl, hv⟩ := reps_one hr
    rw [Rep] at hv; obtain ⟨t, rfl, okx⟩ := hv
    refine wpT (PySem.SC.strip (fun t' k htk => ?_) (by rw [len_mk]; exact okx.len))
    have e : Txt.strip ⟨x.toArray⟩ = ⟨(strip x).toArray⟩ := mk_inj (by rw [strip_eq okx])
    rw [e]
    exact p.ok _ _ _ rfl (.tok htk) (rep_str (okx.sub (strip_sub x).1 (strip_sub x).2))
  · exact absurd rfl p.ns

theorem strs_rep {X : List Addr} {h : Heap} : ∀ {xs : List V} {vs : List Value} {ss : List (List Nat)}, Reps prog w X ad h xs vs → mapO strOf xs = some ss → StrsAre vs (ss.map fun x => ⟨x.toArray⟩) ∧ ∀ x ∈ ss, OkS x
  | [], _, _, r, e => by rw [Reps] at r; subst r; simp only [mapO] at e; cases e; exact ⟨.nil, fun _ h => nomatch h⟩
  | x :: xs, _, _, r, e => by
    rw [Reps] at r
    obtain ⟨v, q, rfl, hv, hr⟩ := r
    simp only [mapO] at e
    split at e
    · cases e
    · rename_i y hy
      split at e
      · cases e
      · rename_i ys hys
        cases e
        cases x <;> simp only [strOf] at hy <;> first | (cases hy; done) | skip
        cases hy
        rw [Rep] at hv; obtain ⟨t, rfl, ok⟩ := hv
        obtain ⟨ih1, ih2⟩ := strs_rep hr hys
        refine ⟨.cons _ _ ih1, fun z hz => ?_⟩
        rcases List.mem_cons.mp hz with rfl | hz
        · exact ok
        · exact ih2 z hz
theorem sumLen_eq : ∀ ss : List (List Nat), ((ss.map fun x => (⟨x.toArray⟩ : Str)).map (·.length)).sum = sumLen ss
  | [] => rfl
  | x :: xs => by simp only [List.map_cons, List.sum_cons, sumLen, len_mk, sumLen_eq xs]
theorem joinL_len (sep : List Nat) (hs : sep.length ≤ 16) : ∀ ss : List (List Nat), (joinL sep ss).length ≤ sumLen ss + 16 * ss.length
  | [] => by simp [joinL, sumLen]
  | [x] => by simp [joinL, sumLen]
  | x :: y :: r => by
    have ih := joinL_len sep hs (y :: r)
    simp only [joinL, sumLen, List.length_append, List.length_cons] at ih ⊢; omega
theorem joinL_mem (sep : List Nat) : ∀ (ss : List (List Nat)) (c : Nat), c ∈ joinL sep ss → c ∈ sep ∨ ∃ x ∈ ss, c ∈ x
  | [], c, h => by simp [joinL] at h
  | [x], c, h => by simp [joinL] at h; exact .inr ⟨x, List.mem_cons_self .., h⟩
  | x :: y :: r, c, h => by
    simp only [joinL, List.mem_append] at h
    rcases h with (h | h) | h
    · exact .inr ⟨x, List.mem_cons_self .., h⟩
    · exact .inl h
    · rcases joinL_mem sep (y :: r) c h with h | ⟨z, hz, h⟩
      · exact .inl h
      · exact .inr ⟨z, List.mem_cons_of_mem _ hz, h⟩
theorem join_snd (H : HR prog w base l fx ad st s) {xs : List V} {vals : List Value} (hr : Reps prog w (ad ++ fx) ad s.heap xs vals) (p : Post l s (RepX prog w fx ad) (pJoin st xs) Q E) :
    wpAny (model prog w) A (call (.builtin "str.join") vals) Q E s := by
  unfold pJoin at p
  split at p
  · rename_i sep a
    obtain ⟨v, u, rfl, hv, hu⟩ := reps_two hr
    rw [Rep] at hv; obtain ⟨t, rfl, oks⟩ := hv
    split at p
    · rename_i ys hys
      split at p
      · rename_i ss hss
        split at p
        · rename_i hb
          obtain ⟨x, vs, rfl, hx, hl, hr⟩ := items_rep H hu hys
          obtain ⟨h1, h2⟩ := strs_rep hr hss
          refine wpT (join_listW hx (by simpa using h1) (by rw [len_mk]; exact hb.1) (by rw [sumLen_eq, List.length_map]; omega) fun t' k htk => ?_)
          have e : Txt.join ⟨sep.toArray⟩ (ss.map fun x => (⟨x.toArray⟩ : Str)) = ⟨(joinL sep ss).toArray⟩ := mk_inj (by
            unfold Txt.join; rw [StrLaws.glued_eq_join, join_eq])
          rw [e]
          refine p.ok _ _ _ rfl (.tok htk) (rep_str ⟨?_, fun c hc => ?_⟩)
          · have := joinL_len sep hb.1 ss; simp only [big]; omega
          · rcases joinL_mem sep ss c hc with h | ⟨z, hz, h⟩
            · exact oks.plain c h
            · exact (h2 z hz).plain c h
        · exact absurd rfl p.ns
      · exact absurd rfl p.ns
    · exact absurd rfl p.ns
  · exact absurd rfl p.ns

end
end Mine

end
section
set_option autoImplicit false
namespace Mine
open PySem PyProof.Rows

noncomputable def bnames : List Str := [cst "len", cst "range", cst "sum", cst "min", cst "list", cst "dict", cst "tuple", cst "isinstance", cst "iter", cst "ValueError", cst "IndexError", cst "TypeError"]

structure GOk (base : Heap) (mg mb : Str → Option Value) : Prop where
  g : base.Ns mainGlobals mg
  b : base.Ns builtinsNs mb
  nolimit : base.NoLimit
  bi : ∀ x ∈ bnames, mg x = none ∧ mb x = bootBuiltins x

structure EnvOk (rank : Nat) (c : Cx) (A : Around) (env : Env) (l : List Env) : Prop where
  kind : env.scope.kind = .function
  names : env.scope.names = c.sc
  globals : env.globals = mainGlobals
  builtins : env.builtins = builtinsNs
  frame : env.frame = some (topL l)
  cons : ∃ e0 outer, l = e0 :: outer ∧ e0.frame = some (topL l)
  frames : A.frames = some l
  handled : A.handled = none
  depth : A.depth + rank < 900
  units : A.units + 10 * rank + 200 < cLine

section
variable (prog : Program) (w : World)
structure VR (c : Cx) (env : Env) (fx ad : List Addr) (ρ : Vars) (h : Heap) : Prop where
  loc : env.locals ∈ fx ∧ env.locals ≠ sysModules
  ns : ∃ m, h.Ns env.locals m ∧ ∀ x k d, c.sc.lookup x = some .local → c.γ.lookup x = some k → ρ[k]? = some (some d) → ∃ v, m x = some v ∧ Rep prog w (ad ++ fx) ad h d v
  cell : ∀ x, c.sc.lookup x = some .cell → ∃ a v, env.cells.lookup x = some a ∧ (a ∈ fx ∧ a ≠ sysModules) ∧ a ≠ env.locals ∧ h.IsCell a v ∧
    ∀ k d, c.γ.lookup x = some k → ρ[k]? = some (some d) → ∃ u, v = some u ∧ Rep prog w (ad ++ fx) ad h d u
  apart : ∀ x y a, env.cells.lookup x = some a → env.cells.lookup y = some a → x = y
  len : ρ.length = c.n
end

theorem ns_keep {l : List Env} {h h' : Heap} (k : Keep l h h') {a : Addr} {m : Str → Option Value} (x : h.Ns a m) : h'.Ns a m := by
  obtain ⟨o, es, ep, ho, hd, r⟩ := x
  obtain ⟨sl, e⟩ := k.some ho
  exact ⟨_, es, ep, e, hd, r⟩
theorem cell_keep {l : List Env} {h h' : Heap} (k : Keep l h h') {a : Addr} {v : Option Value} (x : h.IsCell a v) : h'.IsCell a v := by
  obtain ⟨o, ho, hd⟩ := x
  obtain ⟨sl, e⟩ := k.some ho
  exact ⟨_, e, hd⟩

section
variable {prog : Program} {w : World} {base : Heap} {l : List Env} {fx ad : List Addr} {st : Store} {s s' : Shared}

theorem HR.grow (H : HR prog w base l fx ad st s) (g : Grow l s s') : HR prog w base l fx ad st s' where
  stays := fun b o e => by
    have e1 := H.stays b o e
    by_cases hb : b ∈ fsOf l
    · obtain ⟨env, he, hf⟩ := List.mem_filterMap.mp hb
      have : base.get? b = none := (H.frames.mem hb).1
      rw [this] at e; cases e
    · exact g.keep.exact b o e1 hb
  frames := funFrames_keep g.keep H.frames
  fsX := H.fsX
  one := H.one
  main := let ⟨o, e⟩ := H.main; let ⟨_, e'⟩ := g.keep.some e; ⟨_, e'⟩
  there := fun b hb => (H.there b hb).imp id fun ⟨o, e⟩ => let ⟨_, e'⟩ := g.keep.some e; ⟨_, e'⟩
  apart := H.apart
  nodup := H.nodup
  len := H.len
  store := fun i a o ha ho => (H.store i a o ha ho).up prog w (fun b o hb e => g.keep.exact b o e fun q => hb (List.mem_append_right _ (H.fsX b q))) (fun _ _ q _ => q) (fun _ _ q => q)
    fun o e => g.keep.exact a o e fun q => H.apart a (List.mem_of_getElem? ha) (H.fsX a q)
  toks := Nat.le_trans H.toks g.toks
  off := H.off

theorem VR.grow {c : Cx} {env : Env} {ρ : Vars} (H : HR prog w base l fx ad st s) (V : VR prog w c env fx ad ρ s.heap) (g : Grow l s s') : VR prog w c env fx ad ρ s'.heap where
  loc := V.loc
  ns := let ⟨m, h1, h2⟩ := V.ns; ⟨m, ns_keep g.keep h1, fun x k d a b e => let ⟨v, hv, hr⟩ := h2 x k d a b e; ⟨v, hv, Rep.grow prog w H g hr⟩⟩
  cell := fun x hx => let ⟨a, v, h1, h2, h3, h4, h5⟩ := V.cell x hx
    ⟨a, v, h1, h2, h3, cell_keep g.keep h4, fun k d a b => let ⟨u, hu, hr⟩ := h5 k d a b; ⟨u, hu, Rep.grow prog w H g hr⟩⟩
  apart := V.apart
  len := V.len
end

section
variable {prog : Program} {w : World} {A : Around} {base : Heap} {mg mb : Str → Option Value} {l : List Env} {fx ad : List Addr} {st : Store} {s : Shared} {E : Value → Shared → Prop} {Q : Value → Shared → Prop}
  {rank : Nat} {c : Cx} {env : Env} {ρ : Vars}

theorem notDebug {x : Str} (h : x ∈ bnames) : (x == ("__debug__" : Str)) = false := by
  have : ∀ y ∈ bnames, (y == ("__debug__" : Str)) = false := by decide +kernel
  exact this x h

theorem load_builtin {A' : Around} (G : GOk base mg mb) (K : EnvOk rank c A env l) (H : HR prog w base l fx ad st s) {x : Str} {pos : Pos} {v : Value} (hx : x ∈ bnames) (hk : c.sc.lookup x = some .globalImplicit)
    (hv : bootBuiltins x = some v) (h : Q v s) : wpAny (model prog w) A' (eval (.Name x pos) env) Q E s := by
  obtain ⟨h1, h2⟩ := G.bi x hx
  refine Calls.Name_function_global K.kind (by unfold Env.kindOf; rw [K.names]; exact hk) ?_ (notDebug hx)
  refine Calls.loadGlobal_builtin (mg := mg) (mb := mb) (by rw [K.globals]; exact G.g.keeps H.stays) h1 (by rw [K.builtins]; exact G.b.keeps H.stays) (h2.trans hv) h
theorem load_var (K : EnvOk rank c A env l) (H : HR prog w base l fx ad st s) (Vr : VR prog w c env fx ad ρ s.heap) {x : Str} {pos : Pos} {k : Nat} (hk : c.sc.lookup x = some .local ∨ c.sc.lookup x = some .cell)
    (hγ : c.γ.lookup x = some k) {d : V} (hd : ρ[k]? = some (some d)) (hdb : (x == ("__debug__" : Str)) = false) (h : ∀ v, Rep prog w (ad ++ fx) ad s.heap d v → Q v s) : wpAny (model prog w) A (eval (.Name x pos) env) Q E s := by
  have hkind : env.kindOf x = c.sc.lookup x := by unfold Env.kindOf; rw [K.names]
  rcases hk with hk | hk
  · obtain ⟨m, h1, h2⟩ := Vr.ns
    obtain ⟨v, hv, hr⟩ := h2 x k d hk hγ hd
    exact wpAny_Name (wpAny_loadName_local K.kind (hkind.trans hk) h1 hv (h v hr)) hdb
  · obtain ⟨a, v, h1, h2, h3, h4, h5⟩ := Vr.cell x hk
    obtain ⟨u, rfl, hr⟩ := h5 k d hγ hd
    exact wpAny_Name (wpAny_loadName_cell K.kind (hkind.trans hk) h1 h4 (h u hr)) hdb
end
end Mine

end
section
set_option autoImplicit false
namespace Mine
open PySem PyProof.Rows

noncomputable abbrev RepsX (prog : Program) (w : World) (fx ad : List Addr) : List V → List Value → Heap → Prop := fun xs vs h => Reps prog w (ad ++ fx) ad h xs vs
noncomputable abbrev IsBool : Bool → Bool → Heap → Prop := fun a b _ => b = a
noncomputable abbrev RepO (prog : Program) (w : World) (fx ad : List Addr) : Option V → Value → Heap → Prop := fun o v h => match o with
  | none => v = .none
  | some x => Rep prog w (ad ++ fx) ad h x v

section
variable (prog : Program) (w : World) (base : Heap) (mg : Str → Option Value) (fns : List (Str × Nat)) (rank : Nat) (F : Phi)

noncomputable def FOk : Prop := ∀ x i, fns.lookup x = some i → ∃ fa o fd, mg x = some (.ref fa) ∧ base.get? fa = some o ∧ o.data = .func fd ∧ (x == ("__debug__" : Str)) = false ∧
  ∀ (A : Around) (l : List Env) (fx ad : List Addr) (st : Store) (s : Shared) (vals : List Value) (xs : List V) (Q : Value → Shared → Prop) (E : Value → Shared → Prop),
    A.frames = some l → (∃ e0 outer, l = e0 :: outer ∧ e0.frame = some (topL l)) → A.handled = none → A.depth + rank < 900 → A.units + 10 * rank + 200 < cLine → HR prog w base l fx ad st s →
    Reps prog w (ad ++ fx) ad s.heap xs vals → Post l s (RepX prog w fx ad) (F i st xs) Q E → wpAny (model prog w) A (call (.ref fa) vals) Q E s

noncomputable def SndE (c : Cx) (e : Expr) (ce : CE) : Prop := ∀ (A : Around) (env : Env) (l : List Env) (fx ad : List Addr) (ρ : Vars) (st : Store) (s : Shared) (Q : Value → Shared → Prop) (E : Value → Shared → Prop),
  EnvOk rank c A env l → HR prog w base l fx ad st s → VR prog w c env fx ad ρ s.heap → Post l s (RepX prog w fx ad) (evalE F st ce ρ) Q E → wpAny (model prog w) A (eval e env) Q E s
noncomputable def SndT (c : Cx) (e : Expr) (ce : CE) : Prop := ∀ (A : Around) (env : Env) (l : List Env) (fx ad : List Addr) (ρ : Vars) (st : Store) (s : Shared) (Q : Bool → Shared → Prop) (E : Value → Shared → Prop),
  EnvOk rank c A env l → HR prog w base l fx ad st s → VR prog w c env fx ad ρ s.heap → Post l s IsBool (evalT F st ce ρ) Q E → wpAny (model prog w) A (isTrue e env (eval e env)) Q E s
noncomputable def SndEs (c : Cx) (es : List Expr) (ces : List CE) : Prop := ∀ (A : Around) (env : Env) (l : List Env) (fx ad : List Addr) (ρ : Vars) (st : Store) (s : Shared) (pos : Pos) (Q : List Value → Shared → Prop) (E : Value → Shared → Prop),
  EnvOk rank c A env l → HR prog w base l fx ad st s → VR prog w c env fx ad ρ s.heap → Post l s (RepsX prog w fx ad) (evalEs F st ces ρ) Q E → wpAny (model prog w) A (spliced (backTo pos (starEach es env))) Q E s
noncomputable def SndO (c : Cx) (e : Option Expr) (ce : Option CE) : Prop := ∀ (A : Around) (env : Env) (l : List Env) (fx ad : List Addr) (ρ : Vars) (st : Store) (s : Shared) (Q : Value → Shared → Prop) (E : Value → Shared → Prop),
  EnvOk rank c A env l → HR prog w base l fx ad st s → VR prog w c env fx ad ρ s.heap → Post l s (RepO prog w fx ad) (evalO F st ce ρ) Q E → wpAny (model prog w) A (evalPart e env) Q E s
end

theorem seqK {α β γ δ : Type} {l : List Env} {s : Shared} {P : α → β → Heap → Prop} {r : R α} {Q : β → Shared → Prop} {E : Value → Shared → Prop} {M : Model} {A : Around} {t₁ : Sem δ} {P₁ : γ → δ → Heap → Prop}
    {Kk : δ → Shared → Prop} (p : Post l s P r Q E) (r₁ : R γ) (he : ∀ e, r₁ = .error e → r = .error e) (h₁ : ∀ Q' : δ → Shared → Prop, Post l s P₁ r₁ Q' E → wpAny M A t₁ Q' E s)
    (h₂ : ∀ a b s₁, r₁ = .ok a → Grow l s s₁ → P₁ a b s₁.heap → Post l s₁ P r Q E → Kk b s₁) : wpAny M A t₁ Kk E s := by
  refine h₁ _ ⟨fun a b s₁ e g pb => h₂ a b s₁ e g pb (p.after g), fun k e s₁ s' h g x => p.exc k e s₁ s' (he _ h) g x, fun h => p.ns (he _ h)⟩

theorem cmpop_not_exc {st : Store} {op : COp} {a b : V} {e : Err} (h : cmpop st op a b = .error e) : e = .stuck := by
  have he : ∀ x y e, eqVal st x y = .error e → e = .stuck := by
    intro x y e h
    unfold eqVal at h
    split at h
    · cases h
    · cases h; rfl
  have hi : ∀ x y e, isIn st x y = .error e → e = .stuck := by
    intro x y e h
    unfold isIn at h
    repeat' split at h
    all_goals first | (cases h; done) | (cases h; rfl)
  unfold cmpop at h
  repeat' split at h
  all_goals first
    | exact he _ _ _ h
    | exact hi _ _ _ h
    | (cases h; done)
    | (cases h; first | rfl | (rename_i h'; exact he _ _ _ h') | (rename_i h'; exact hi _ _ _ h'))

section
variable {prog : Program} {w : World} {base : Heap} {mg mb : Str → Option Value} {fns : List (Str × Nat)} {rank : Nat} {F : Phi} {c : Cx}

theorem snd_none {k : Nat} {p : Pos} : SndE prog w base rank F c (.Constant .none k p) .none := fun A env l fx ad ρ st s Q E K H Vr P => by
  (first | rw [evalE_q1] at P | rw [evalE_q2] at P | rw [evalE_q3] at P | rw [evalE_q4] at P | rw [evalE_q5] at P | rw [evalE_q6] at P | rw [evalE_q7] at P | rw [evalE_q8] at P | rw [evalE_q9] at P | rw [evalE_q10] at P | rw [evalE_q11] at P | rw [evalE_q12] at P | rw [evalE_q13] at P | rw [evalE_q14] at P | rw [evalE_q15] at P | rw [evalE_q16] at P | rw [evalE_q17] at P | rw [evalE_q18] at P | rw [evalE_q19] at P | rw [evalE_q20] at P)
  exact wpAny_Constant_none (P.ok _ _ _ rfl (.refl ..) (by show Rep _ _ _ _ _ _ _; rw [Rep]))
theorem snd_bool {b : Bool} {k : Nat} {p : Pos} : SndE prog w base rank F c (.Constant (.bool b) k p) (.bool b) := fun A env l fx ad ρ st s Q E K H Vr P => by
  (first | rw [evalE_q1] at P | rw [evalE_q2] at P | rw [evalE_q3] at P | rw [evalE_q4] at P | rw [evalE_q5] at P | rw [evalE_q6] at P | rw [evalE_q7] at P | rw [evalE_q8] at P | rw [evalE_q9] at P | rw [evalE_q10] at P | rw [evalE_q11] at P | rw [evalE_q12] at P | rw [evalE_q13] at P | rw [evalE_q14] at P | rw [evalE_q15] at P | rw [evalE_q16] at P | rw [evalE_q17] at P | rw [evalE_q18] at P | rw [evalE_q19] at P | rw [evalE_q20] at P)
  exact wpAny_Constant_bool (P.ok _ _ _ rfl (.refl ..) rep_bool)
theorem snd_int {i : Int} {k : Nat} {p : Pos} : SndE prog w base rank F c (.Constant (.int i) k p) (.int i) := fun A env l fx ad ρ st s Q E K H Vr P => by
  (first | rw [evalE_q1] at P | rw [evalE_q2] at P | rw [evalE_q3] at P | rw [evalE_q4] at P | rw [evalE_q5] at P | rw [evalE_q6] at P | rw [evalE_q7] at P | rw [evalE_q8] at P | rw [evalE_q9] at P | rw [evalE_q10] at P | rw [evalE_q11] at P | rw [evalE_q12] at P | rw [evalE_q13] at P | rw [evalE_q14] at P | rw [evalE_q15] at P | rw [evalE_q16] at P | rw [evalE_q17] at P | rw [evalE_q18] at P | rw [evalE_q19] at P | rw [evalE_q20] at P)
  exact wpAny_Constant_int (P.ok _ _ _ rfl (.tok (Nat.le_succ _)) rep_int)
theorem snd_str {x : Str} {k : Nat} {p : Pos} (h : x.cps.toList.all plainSign = true ∧ x.cps.toList.length ≤ 1000) : SndE prog w base rank F c (.Constant (.str x) k p) (.str x.cps.toList) := fun A env l fx ad ρ st s Q E K H Vr P => by
  (first | rw [evalE_q1] at P | rw [evalE_q2] at P | rw [evalE_q3] at P | rw [evalE_q4] at P | rw [evalE_q5] at P | rw [evalE_q6] at P | rw [evalE_q7] at P | rw [evalE_q8] at P | rw [evalE_q9] at P | rw [evalE_q10] at P | rw [evalE_q11] at P | rw [evalE_q12] at P | rw [evalE_q13] at P | rw [evalE_q14] at P | rw [evalE_q15] at P | rw [evalE_q16] at P | rw [evalE_q17] at P | rw [evalE_q18] at P | rw [evalE_q19] at P | rw [evalE_q20] at P)
  refine wpAny_Constant_str (P.ok _ _ _ rfl (.tok (Nat.le_succ _)) ?_)
  have := rep_str (prog := prog) (w := w) (X := ad ++ fx) (ad := ad) (h := s.heap) (t := s.toks) (x := x.cps.toList) ⟨by simp only [big]; omega, fun c hc => List.all_eq_true.mp h.1 c hc⟩
  rwa [← mk_eq x] at this
theorem snd_bytes {b : List UInt8} {k : Nat} {p : Pos} : SndE prog w base rank F c (.Constant (.bytes b) k p) .bytes := fun A env l fx ad ρ st s Q E K H Vr P => by
  (first | rw [evalE_q1] at P | rw [evalE_q2] at P | rw [evalE_q3] at P | rw [evalE_q4] at P | rw [evalE_q5] at P | rw [evalE_q6] at P | rw [evalE_q7] at P | rw [evalE_q8] at P | rw [evalE_q9] at P | rw [evalE_q10] at P | rw [evalE_q11] at P | rw [evalE_q12] at P | rw [evalE_q13] at P | rw [evalE_q14] at P | rw [evalE_q15] at P | rw [evalE_q16] at P | rw [evalE_q17] at P | rw [evalE_q18] at P | rw [evalE_q19] at P | rw [evalE_q20] at P)
  have : Q (.bytes b.toArray s.toks) { s with toks := s.toks + 1 } := P.ok _ _ _ rfl (.tok (Nat.le_succ _)) (by show Rep _ _ _ _ _ _ _; rw [Rep]; exact ⟨_, _, rfl⟩)
  exact fun _ _ _ => this
theorem snd_var {x : Str} {p : Pos} {k : Nat} (hk : c.sc.lookup x = some .local ∨ c.sc.lookup x = some .cell) (hd : (x == ("__debug__" : Str)) = false) (hγ : c.γ.lookup x = some k) :
    SndE prog w base rank F c (.Name x p) (.var k) := fun A env l fx ad ρ st s Q E K H Vr P => by
  (first | rw [evalE_q1] at P | rw [evalE_q2] at P | rw [evalE_q3] at P | rw [evalE_q4] at P | rw [evalE_q5] at P | rw [evalE_q6] at P | rw [evalE_q7] at P | rw [evalE_q8] at P | rw [evalE_q9] at P | rw [evalE_q10] at P | rw [evalE_q11] at P | rw [evalE_q12] at P | rw [evalE_q13] at P | rw [evalE_q14] at P | rw [evalE_q15] at P | rw [evalE_q16] at P | rw [evalE_q17] at P | rw [evalE_q18] at P | rw [evalE_q19] at P | rw [evalE_q20] at P)
  split at P
  · rename_i v hv
    exact load_var K H Vr hk hγ hv hd fun val hr => P.ok _ _ _ rfl (.refl ..) hr
  · exact absurd rfl P.ns
theorem snd_bin {e1 e2 : Expr} {o : Operator} {op : BOp} {p : Pos} {a b : CE} (ho : binP o = some op) (ha : SndE prog w base rank F c e1 a) (hb : SndE prog w base rank F c e2 b) :
    SndE prog w base rank F c (.BinOp e1 o e2 p) (.bin op a b) := fun A env l fx ad ρ st s Q E K H Vr P => by
  (first | rw [evalE_q1] at P | rw [evalE_q2] at P | rw [evalE_q3] at P | rw [evalE_q4] at P | rw [evalE_q5] at P | rw [evalE_q6] at P | rw [evalE_q7] at P | rw [evalE_q8] at P | rw [evalE_q9] at P | rw [evalE_q10] at P | rw [evalE_q11] at P | rw [evalE_q12] at P | rw [evalE_q13] at P | rw [evalE_q14] at P | rw [evalE_q15] at P | rw [evalE_q16] at P | rw [evalE_q17] at P | rw [evalE_q18] at P | rw [evalE_q19] at P | rw [evalE_q20] at P)
  refine wpAny_BinOp (seqK P (evalE F st a ρ) (fun e h => by rw [h]) (fun Q' => ha A env l fx ad ρ st s Q' E K H Vr) fun x vx s₁ e g rx P₁ => ?_)
  simp only [e] at P₁
  refine seqK P₁ (evalE F st b ρ) (fun e h => by rw [h]) (fun Q' => hb A env l fx ad ρ st s₁ Q' E K (H.grow g) (Vr.grow H g)) fun y vy s₂ e g₂ ry P₂ => ?_
  simp only [e] at P₂
  exact binop_snd ((H.grow g).grow g₂) ho (Rep.grow prog w (H.grow g) g₂ rx) ry P₂
theorem snd_neg {i : Int} {k : Nat} {p p' : Pos} : SndE prog w base rank F c (.UnaryOp .USub (.Constant (.int i) k p) p') (.int (-i)) := fun A env l fx ad ρ st s Q E K H Vr P => by
  (first | rw [evalE_q1] at P | rw [evalE_q2] at P | rw [evalE_q3] at P | rw [evalE_q4] at P | rw [evalE_q5] at P | rw [evalE_q6] at P | rw [evalE_q7] at P | rw [evalE_q8] at P | rw [evalE_q9] at P | rw [evalE_q10] at P | rw [evalE_q11] at P | rw [evalE_q12] at P | rw [evalE_q13] at P | rw [evalE_q14] at P | rw [evalE_q15] at P | rw [evalE_q16] at P | rw [evalE_q17] at P | rw [evalE_q18] at P | rw [evalE_q19] at P | rw [evalE_q20] at P)
  refine wpAny_UnaryOp (wpAny_Constant_int (PyProof.Rows.neg_int ?_))
  exact P.ok _ _ _ rfl (.tok (by show s.toks ≤ s.toks + 1 + 1; omega)) rep_int
theorem snd_cmp_core {e1 e2 : Expr} {o : PySem.CmpOp} {op : COp} {a b : CE} (ho : cmpP o = some op) (ha : SndE prog w base rank F c e1 a) (hb : SndE prog w base rank F c e2 b)
    {A : Around} {env : Env} {l : List Env} {fx ad : List Addr} {ρ : Vars} {st : Store} {s : Shared} {α β : Type} {Pp : α → β → Heap → Prop} {Q : β → Shared → Prop} {E : Value → Shared → Prop} {f : Bool → α} {Kk : Value → Shared → Prop}
    (K : EnvOk rank c A env l) (H : HR prog w base l fx ad st s) (Vr : VR prog w c env fx ad ρ s.heap)
    (P : Post l s Pp (match evalE F st a ρ with
      | .error e => .error e
      | .ok x => match evalE F st b ρ with
        | .error e => .error e
        | .ok y => match cmpop st op x y with
          | .error e => .error e
          | .ok r => .ok (f r)) Q E)
    (hk : ∀ r s', Grow l s s' → (∀ b, Pp (f r) b s'.heap → Q b s') → Kk (.bool r) s') :
    wpAny (model prog w) A (eval e1 env) (fun a s₁ => wpAny (model prog w) A (eval e2 env) (fun b s₂ => wpAny (model prog w) A (compareOp o a b) Kk E s₂) E s₁) E s := by
  have hu := K.units
  refine seqK P (evalE F st a ρ) (fun e h => by rw [h]) (fun Q' => ha A env l fx ad ρ st s Q' E K H Vr) fun x vx s₁ e g rx P₁ => ?_
  simp only [e] at P₁
  refine seqK P₁ (evalE F st b ρ) (fun e h => by rw [h]) (fun Q' => hb A env l fx ad ρ st s₁ Q' E K (H.grow g) (Vr.grow H g)) fun y vy s₂ e g₂ ry P₂ => ?_
  simp only [e] at P₂
  split at P₂
  · rename_i er her
    rw [cmpop_not_exc her] at P₂
    exact absurd rfl P₂.ns
  · rename_i r hr
    exact cmpop_snd ((H.grow g).grow g₂) (by omega) ho (Rep.grow prog w (H.grow g) g₂ rx) ry hr fun s' g' => hk r s' ((g.trans g₂).trans g') fun b hb => P₂.ok _ _ _ rfl g' hb
theorem snt_cmp {e1 e2 : Expr} {o : PySem.CmpOp} {op : COp} {p : Pos} {a b : CE} (ho : cmpP o = some op) (ha : SndE prog w base rank F c e1 a) (hb : SndE prog w base rank F c e2 b) (hm : behindInMarks o e2 = false) :
    SndT prog w base rank F c (.Compare e1 [o] [e2] p) (.cmp op a b) := fun A env l fx ad ρ st s Q E K H Vr P => by
  (first | rw [evalT_q1] at P | rw [evalT_q2] at P | rw [evalT_q3] at P | rw [evalT_q4] at P | rw [evalT_q5] at P | rw [evalT_q6] at P | rw [evalT_q7] at P | rw [evalT_q8] at P | rw [evalT_q9] at P | rw [evalT_q10] at P | rw [evalT_q11] at P | rw [evalT_q12] at P | rw [evalT_q13] at P | rw [evalT_q14] at P | rw [evalT_q15] at P | rw [evalT_q16] at P | rw [evalT_q17] at P | rw [evalT_q18] at P | rw [evalT_q19] at P | rw [evalT_q20] at P)
  have e : ∀ x y, cmpop st op x y = match cmpop st op x y with | .error e => .error e | .ok r => .ok r := fun x y => by cases cmpop st op x y <;> rfl
  refine wpAny_isTrue_Compare1 (snd_cmp_core (f := fun r => r) ho ha hb K H Vr (Q := Q) (Pp := IsBool) ?_ fun r s' g h => wpAny_truthy_bool (h _ rfl)) hm
  have : ∀ x y, (match cmpop st op x y with | .error e => (.error e : R Bool) | .ok r => .ok r) = cmpop st op x y := fun x y => (e x y).symm
  simp only [this]
  exact P
theorem snt_plain {e1 : Expr} {a : CE} (ha : SndE prog w base rank F c e1 a) (he : ∀ env whole, isTrue e1 env whole = (do let v ← whole; standAt e1.pos; holding [v] (truthy v)))
    (hT : ∀ st ρ, evalT F st a ρ = stuck ∨ evalT F st a ρ = match evalE F st a ρ with | .error e => .error e | .ok v => ofO (truth st v)) : SndT prog w base rank F c e1 a := fun A env l fx ad ρ st s Q E K H Vr P => by
  rcases hT st ρ with h | h
  · rw [h] at P; exact absurd rfl P.ns
  rw [h] at P
  refine isTrue_plain (seqK P (evalE F st a ρ) (fun e h => by rw [h]) (fun Q' => ha A env l fx ad ρ st s Q' E K H Vr) fun x vx s₁ e g rx P₁ => ?_) (he _ _)
  simp only [e] at P₁
  cases hb : truth st x with
  | none => rw [hb] at P₁; exact absurd rfl P₁.ns
  | some b => rw [hb] at P₁; exact truth_snd (H.grow g) rx hb fun s' g' => P₁.ok _ _ _ rfl g' rfl
theorem snt_and {e1 e2 : Expr} {es : List Expr} {p : Pos} {a b : CE} (ha : SndT prog w base rank F c e1 a) (hb : ∀ p, SndT prog w base rank F c (.BoolOp .And (e2 :: es) p) b) :
    SndT prog w base rank F c (.BoolOp .And (e1 :: e2 :: es) p) (.and a b) := fun A env l fx ad ρ st s Q E K H Vr P => by
  (first | rw [evalT_q1] at P | rw [evalT_q2] at P | rw [evalT_q3] at P | rw [evalT_q4] at P | rw [evalT_q5] at P | rw [evalT_q6] at P | rw [evalT_q7] at P | rw [evalT_q8] at P | rw [evalT_q9] at P | rw [evalT_q10] at P | rw [evalT_q11] at P | rw [evalT_q12] at P | rw [evalT_q13] at P | rw [evalT_q14] at P | rw [evalT_q15] at P | rw [evalT_q16] at P | rw [evalT_q17] at P | rw [evalT_q18] at P | rw [evalT_q19] at P | rw [evalT_q20] at P)
  refine isTrue_and (seqK P (evalT F st a ρ) (fun e h => by rw [h]) (fun Q' => ha A env l fx ad ρ st s Q' E K H Vr) fun x vx s₁ e g rx P₁ => ?_)
  cases rx
  simp only [e] at P₁
  cases x
  · exact P₁.ok _ _ _ rfl (.refl ..) rfl
  · exact hb p A env l fx ad ρ st s₁ Q E K (H.grow g) (Vr.grow H g) P₁
theorem snt_one {o : PySem.BoolOp} {e1 : Expr} {p : Pos} {a : CE} (ha : SndT prog w base rank F c e1 a) : SndT prog w base rank F c (.BoolOp o [e1] p) a := fun A env l fx ad ρ st s Q E K H Vr P => by
  have fin : ∀ x, x = evalT F st a ρ → True := fun _ _ => trivial
  cases o
  · refine isTrue_and (seqK P (evalT F st a ρ) (fun e h => h) (fun Q' => ha A env l fx ad ρ st s Q' E K H Vr) fun x vx s₁ e g rx P₁ => ?_)
    cases rx
    cases x
    · exact P₁.ok _ _ _ e (.refl ..) rfl
    · exact isTrue_and_nil (P₁.ok _ _ _ e (.refl ..) rfl)
  · refine isTrue_or (seqK P (evalT F st a ρ) (fun e h => h) (fun Q' => ha A env l fx ad ρ st s Q' E K H Vr) fun x vx s₁ e g rx P₁ => ?_)
    cases rx
    cases x
    · exact isTrue_or_nil (P₁.ok _ _ _ e (.refl ..) rfl)
    · exact P₁.ok _ _ _ e (.refl ..) rfl

theorem snds_nil : SndEs prog w base rank F c [] [] := fun A env l fx ad ρ st s pos Q E K H Vr P => by
  (first | rw [evalEs_q1] at P | rw [evalEs_q2] at P)
  exact args_nil (P.ok _ _ _ rfl (.refl ..) (by show Reps _ _ _ _ _ _ _; rw [Reps]))
noncomputable def NotStar (e : Expr) : Prop := ∀ rest env, starEach (e :: rest) env = (false, eval e env) :: starEach rest env
theorem snds_cons {e : Expr} {es : List Expr} {a : CE} {as : List CE} (hn : NotStar e) (ha : SndE prog w base rank F c e a) (has : SndEs prog w base rank F c es as) : SndEs prog w base rank F c (e :: es) (a :: as) :=
    fun A env l fx ad ρ st s pos Q E K H Vr P => by
  (first | rw [evalEs_q1] at P | rw [evalEs_q2] at P)
  refine args_cons (seqK P (evalE F st a ρ) (fun e h => by rw [h]) (fun Q' => ha A env l fx ad ρ st s Q' E K H Vr) fun x vx s₁ e g rx P₁ => ?_) (hn _ _)
  simp only [e] at P₁
  refine seqK P₁ (evalEs F st as ρ) (fun e h => by rw [h]) (fun Q' => has A env l fx ad ρ st s₁ pos Q' E K (H.grow g) (Vr.grow H g)) fun y vy s₂ e g₂ ry P₂ => ?_
  simp only [e] at P₂
  refine P₂.ok _ _ _ rfl (.refl ..) ?_
  show Reps _ _ _ _ _ _ _
  rw [Reps]
  exact ⟨vx, vy, rfl, Rep.grow prog w (H.grow g) g₂ rx, ry⟩
end
end Mine

end
section
set_option autoImplicit false
namespace Mine
open PySem PyProof.Rows

section
variable {M : Model} {A : Around} {E : Value → Shared → Prop} {s : Shared}
theorem evalArgs_all {f : Value} {trees : List (Bool × Sem Value)} {Q : Args → Shared → Prop} (h : trees.any (·.1) = false) (hs : wpAny M A (spliced trees) (fun vs s' => Q ⟨vs, []⟩ s') E s) :
    wpAny M A (evalArgs f true trees []) Q E s := by
  match trees, h, hs with
  | [], h, hs =>
    unfold evalArgs
    show wpAny M A (spliced [] >>= _) Q E s
    refine wpAny_bind (wpAny_mono hs (fun vs s' h' => wpAny_bind (wpAny_pure ?_)) fun _ _ x => x)
    refine wpAny_holding ?_
    exact wpAny_bind (wpAny_pure (wpAny_bind (wpAny_pure (wpAny_pure h'))))
  | (b, x) :: rest, h, hs =>
    simp only [List.any_cons, Bool.or_eq_false_iff] at h
    obtain ⟨rfl, _⟩ := h
    exact Calls.evalArgs_plain hs
noncomputable def BVal (v : Value) : Prop := (∃ id, v = .builtin id) ∨ ∃ T, v = .type T
theorem callWith_any {f : Value} (hf : BVal f) {pos : Pos} {first : List Value} {trees : List (Bool × Sem Value)} {Q : Value → Shared → Prop} (h : trees.any (·.1) = false)
    (hs : wpAny M A (spliced trees) (fun vs s' => wpAny M A (call f (first ++ vs)) Q E s') E s) : wpAny M A (callWith pos f first trees []) Q E s := by
  rcases hf with ⟨id, rfl⟩ | ⟨T, rfl⟩
  · exact Calls.callWith_builtin h (evalArgs_all h hs)
  · exact PyProof.Rows.callWith_type h (evalArgs_all h hs)
theorem plain_trees {es : List Expr} (h : ∀ e ∈ es, NotStar e) (env : Env) (pos : Pos) : backTo pos (starEach es env) = es.map fun e => (false, eval e env) := by
  induction es with
  | nil => rfl
  | cons e es ih =>
    rw [h e (List.mem_cons_self ..)]
    show (false, eval e env) :: backTo pos (starEach es env) = _
    rw [ih fun x hx => h x (List.mem_cons_of_mem _ hx)]; rfl
theorem plain_any {es : List Expr} (h : ∀ e ∈ es, NotStar e) (env : Env) (pos : Pos) : (backTo pos (starEach es env)).any (·.1) = false := by
  rw [plain_trees h]; simp
end

theorem attributeBase_plain {o : Expr} (h : plainBase o = true) (name : Str) (env : Env) (whole : Sem Value) : attributeBase o name env whole = whole := by
  cases o with
  | Call f args kws p =>
    cases f with
    | Name x q =>
      cases args with
      | nil =>
        cases kws with
        | nil => cases h
        | cons => rfl
      | cons => rfl
    | _ => rfl
  | _ => rfl

section
variable {prog : Program} {w : World} {base : Heap} {mg mb : Str → Option Value} {fns : List (Str × Nat)} {rank : Nat} {F : Phi} {c : Cx}

theorem snd_tup {es : List Expr} {as : List CE} {k : Nat} {p : Pos} (has : SndEs prog w base rank F c es as) (hl : as.length ≤ 1000) : SndE prog w base rank F c (.Tuple es k p) (.tup as) :=
    fun A env l fx ad ρ st s Q E K H Vr P => by
  (first | rw [evalE_q1] at P | rw [evalE_q2] at P | rw [evalE_q3] at P | rw [evalE_q4] at P | rw [evalE_q5] at P | rw [evalE_q6] at P | rw [evalE_q7] at P | rw [evalE_q8] at P | rw [evalE_q9] at P | rw [evalE_q10] at P | rw [evalE_q11] at P | rw [evalE_q12] at P | rw [evalE_q13] at P | rw [evalE_q14] at P | rw [evalE_q15] at P | rw [evalE_q16] at P | rw [evalE_q17] at P | rw [evalE_q18] at P | rw [evalE_q19] at P | rw [evalE_q20] at P)
  refine wpAny_Tuple (seqK P (evalEs F st as ρ) (fun e h => by rw [h]) (fun Q' => has A env l fx ad ρ st s p Q' E K H Vr) fun x vx s₁ e g rx P₁ => ?_)
  have hlen : x.length ≤ 1000 := by
    have : ∀ (as : List CE) x, evalEs F st as ρ = .ok x → x.length = as.length := by
      intro as
      induction as with
      | nil => intro x h; (first | rw [evalEs_q1] at h | rw [evalEs_q2] at h); cases h; rfl
      | cons a as ih =>
        intro x h
        (first | rw [evalEs_q1] at h | rw [evalEs_q2] at h)
        split at h
        · cases h
        · split at h
          · cases h
          · rename_i h2; cases h; simp [ih _ h2]
    rw [this _ _ e]; exact hl
  simp only [e] at P₁
  refine ⟨by rw [Reps.length prog w rx, sizeLine_big]; simp only [big]; omega, P₁.ok _ _ _ rfl (Grow.heap (get_push _ _) (Nat.le_refl _)) ?_⟩
  exact rep_newtup (H.grow g) (get_push _ _) (Heap.get?_push_size _ rfl) (by simp only [big]; omega) rx
theorem evalEs_len {st : Store} {ρ : Vars} : ∀ (as : List CE) x, evalEs F st as ρ = .ok x → x.length = as.length := by
  intro as
  induction as with
  | nil => intro x h; (first | rw [evalEs_q1] at h | rw [evalEs_q2] at h); cases h; rfl
  | cons a as ih =>
    intro x h
    (first | rw [evalEs_q1] at h | rw [evalEs_q2] at h)
    split at h
    · cases h
    · split at h
      · cases h
      · rename_i h2; cases h; simp [ih _ h2]
theorem snd_list {es : List Expr} {as : List CE} {p : Pos} (has : SndEs prog w base rank F c es as) (hl : as.length ≤ 1000) : SndE prog w base rank F c (.List es p) (.list as) :=
    fun A env l fx ad ρ st s Q E K H Vr P => by
  (first | rw [evalE_q1] at P | rw [evalE_q2] at P | rw [evalE_q3] at P | rw [evalE_q4] at P | rw [evalE_q5] at P | rw [evalE_q6] at P | rw [evalE_q7] at P | rw [evalE_q8] at P | rw [evalE_q9] at P | rw [evalE_q10] at P | rw [evalE_q11] at P | rw [evalE_q12] at P | rw [evalE_q13] at P | rw [evalE_q14] at P | rw [evalE_q15] at P | rw [evalE_q16] at P | rw [evalE_q17] at P | rw [evalE_q18] at P | rw [evalE_q19] at P | rw [evalE_q20] at P)
  refine wpAny_List (seqK P (evalEs F st as ρ) (fun e h => by rw [h]) (fun Q' => has A env l fx ad ρ st s p Q' E K H Vr) fun x vx s₁ e g rx P₁ => ?_)
  have hlen : x.length ≤ 1000 := by rw [evalEs_len _ _ e]; exact hl
  simp only [e] at P₁
  refine ⟨by rw [Reps.length prog w rx, sizeLine_big]; simp only [big]; omega, P₁.ok _ _ _ rfl (Grow.heap (get_push _ _) (Nat.le_refl _)) ?_⟩
  exact rep_newlist (H.grow g) (get_push _ _) (Heap.get?_push_size _ rfl) (by simp only [big]; omega) rx
theorem snd_idx {e1 e2 : Expr} {p : Pos} {a b : CE} (hn : notSlice e2 = true) (ha : SndE prog w base rank F c e1 a) (hb : SndE prog w base rank F c e2 b) :
    SndE prog w base rank F c (.Subscript e1 e2 p) (.idx a b) := fun A env l fx ad ρ st s Q E K H Vr P => by
  (first | rw [evalE_q1] at P | rw [evalE_q2] at P | rw [evalE_q3] at P | rw [evalE_q4] at P | rw [evalE_q5] at P | rw [evalE_q6] at P | rw [evalE_q7] at P | rw [evalE_q8] at P | rw [evalE_q9] at P | rw [evalE_q10] at P | rw [evalE_q11] at P | rw [evalE_q12] at P | rw [evalE_q13] at P | rw [evalE_q14] at P | rw [evalE_q15] at P | rw [evalE_q16] at P | rw [evalE_q17] at P | rw [evalE_q18] at P | rw [evalE_q19] at P | rw [evalE_q20] at P)
  refine Subscript_ (seqK P (evalE F st a ρ) (fun e h => by rw [h]) (fun Q' => ha A env l fx ad ρ st s Q' E K H Vr) fun x vx s₁ e g rx P₁ => ?_)
  simp only [e] at P₁
  refine seqK P₁ (evalE F st b ρ) (fun e h => by rw [h]) (fun Q' => hb A env l fx ad ρ st s₁ Q' E K (H.grow g) (Vr.grow H g)) fun y vy s₂ e g₂ ry P₂ => ?_
  simp only [e] at P₂
  exact index_snd ((H.grow g).grow g₂) K.handled hn (Rep.grow prog w (H.grow g) g₂ rx) ry P₂

theorem sndo_none : SndO prog w base rank F c none none := fun A env l fx ad ρ st s Q E K H Vr P => by
  (first | rw [evalO_q1] at P | rw [evalO_q2] at P)
  exact wpAny_pure (P.ok _ _ _ rfl (.refl ..) rfl)
theorem sndo_some {e1 : Expr} {a : CE} (ha : SndE prog w base rank F c e1 a) : SndO prog w base rank F c (some e1) (some a) := fun A env l fx ad ρ st s Q E K H Vr P => by
  (first | rw [evalO_q1] at P | rw [evalO_q2] at P)
  refine seqK (t₁ := eval e1 env) P (evalE F st a ρ) (fun e h => by rw [h]) (fun Q' => ha A env l fx ad ρ st s Q' E K H Vr) fun x vx s₁ e g rx P₁ => ?_
  simp only [e] at P₁
  exact P₁.ok _ _ _ rfl (.refl ..) rx
theorem part_of {o : Option V} {v : Value} {h : Heap} {fx ad : List Addr} (r : RepO prog w fx ad o v h) : PartIs o v := by
  cases o with
  | none => exact r
  | some x =>
    cases x with
    | int i => have r' : Rep prog w (ad ++ fx) ad h (.int i) v := r; rw [Rep] at r'; exact r'
    | _ => trivial
noncomputable def StepIs (step : Option Expr) (sp : Step) : Prop := match sp with
  | .one => step = none
  | .back => ∃ k p p', step = some (.UnaryOp .USub (.Constant (.int 1) k p) p')
  | .every n => ∃ i k p, step = some (.Constant (.int i) k p) ∧ i = n
theorem snd_slice {e1 : Expr} {lo hi step : Option Expr} {pp p : Pos} {a : CE} {clo chi : Option CE} {sp : Step} (hs : StepIs step sp) (ha : SndE prog w base rank F c e1 a)
    (hlo : SndO prog w base rank F c lo clo) (hhi : SndO prog w base rank F c hi chi) :
    SndE prog w base rank F c (.Subscript e1 (.Slice lo hi step pp) p) (.slice a clo chi sp) := fun A env l fx ad ρ st s Q E K H Vr P => by
  (first | rw [evalE_q1] at P | rw [evalE_q2] at P | rw [evalE_q3] at P | rw [evalE_q4] at P | rw [evalE_q5] at P | rw [evalE_q6] at P | rw [evalE_q7] at P | rw [evalE_q8] at P | rw [evalE_q9] at P | rw [evalE_q10] at P | rw [evalE_q11] at P | rw [evalE_q12] at P | rw [evalE_q13] at P | rw [evalE_q14] at P | rw [evalE_q15] at P | rw [evalE_q16] at P | rw [evalE_q17] at P | rw [evalE_q18] at P | rw [evalE_q19] at P | rw [evalE_q20] at P)
  refine Subscript_ (seqK P (evalE F st a ρ) (fun e h => by rw [h]) (fun Q' => ha A env l fx ad ρ st s Q' E K H Vr) fun x vx s₁ e g rx P₁ => ?_)
  simp only [e] at P₁
  have H₁ := H.grow g
  refine wpAny_Slice (seqK P₁ (evalO F st clo ρ) (fun e h => by rw [h]) (fun Q' => hlo A env l fx ad ρ st s₁ Q' E K H₁ (Vr.grow H g)) fun y vy s₂ e g₂ ry P₂ => ?_)
  simp only [e] at P₂
  have H₂ := H₁.grow g₂
  refine seqK P₂ (evalO F st chi ρ) (fun e h => by rw [h]) (fun Q' => hhi A env l fx ad ρ st s₂ Q' E K H₂ ((Vr.grow H g).grow H₁ g₂)) fun z vz s₃ e g₃ rz P₃ => ?_
  simp only [e] at P₃
  have H₃ := H₂.grow g₃
  have ra : Rep prog w (ad ++ fx) ad s₃.heap x vx := Rep.grow prog w H₂ g₃ (Rep.grow prog w H₁ g₂ rx)
  have py := part_of ry
  have pz := part_of rz
  have fin : ∀ (vst : Value) (tk : Nat), s₃.toks ≤ tk → (match (generalizing := false) sp with | .one => vst = .none ∧ step = none | .back => (∃ t, vst = .int (-1) t) | .every k => ∃ t, vst = .int (k : Int) t) →
      wpAny (model prog w) A (subscriptTail e1 (.Slice lo hi step pp) vx (.ref s₃.heap.objs.size)) Q E
        { s₃ with heap := s₃.heap.push { cls := .type "slice", data := .fields #[vy, vz, vst] }, toks := tk } := by
    intro vst tk htk hv
    have g4 : Grow l s₃ { s₃ with heap := s₃.heap.push { cls := .type "slice", data := .fields #[vy, vz, vst] }, toks := tk } := Grow.heap (get_push _ _) htk
    exact slice_snd (H₃.grow g4) (Rep.grow prog w H₃ g4 ra) py pz hv (Heap.get?_push_size _ rfl) (P₃.after g4)
  cases sp with
  | one =>
    have hs' : step = none := hs
    subst hs'
    exact wpAny_pure (fin .none s₃.toks (Nat.le_refl _) ⟨rfl, rfl⟩)
  | back =>
    obtain ⟨k, p1, p2, rfl⟩ := hs
    exact wpAny_UnaryOp (wpAny_Constant_int (PyProof.Rows.neg_int (fin _ (s₃.toks + 1 + 1) (by omega) ⟨_, rfl⟩)))
  | every n =>
    obtain ⟨i, k, p1, rfl, rfl⟩ := hs
    exact wpAny_Constant_int (k := k) (pos := p1) (fin _ (s₃.toks + 1) (by omega) ⟨_, rfl⟩)

theorem snd_call {x : Str} {i : Nat} {es : List Expr} {as : List CE} {p pos : Pos} (G : GOk base mg mb) (hF : FOk prog w base mg fns rank F) (hx : fns.lookup x = some i) (hk : c.sc.lookup x = some .globalImplicit)
    (hn : ∀ e ∈ es, NotStar e) (has : SndEs prog w base rank F c es as) : SndE prog w base rank F c (.Call (.Name x p) es [] pos) (.call i as) := fun A env l fx ad ρ st s Q E K H Vr P => by
  (first | rw [evalE_q1] at P | rw [evalE_q2] at P | rw [evalE_q3] at P | rw [evalE_q4] at P | rw [evalE_q5] at P | rw [evalE_q6] at P | rw [evalE_q7] at P | rw [evalE_q8] at P | rw [evalE_q9] at P | rw [evalE_q10] at P | rw [evalE_q11] at P | rw [evalE_q12] at P | rw [evalE_q13] at P | rw [evalE_q14] at P | rw [evalE_q15] at P | rw [evalE_q16] at P | rw [evalE_q17] at P | rw [evalE_q18] at P | rw [evalE_q19] at P | rw [evalE_q20] at P)
  obtain ⟨fa, o, fd, hm, hg, hd, hdb, hcall⟩ := hF x i hx
  refine Call_ ?_
  refine Calls.Name_function_global K.kind (by unfold Env.kindOf; rw [K.names]; exact hk) ?_ hdb
  refine Calls.loadGlobal_global (mg := mg) (by rw [K.globals]; exact G.g.keeps H.stays) hm ?_
  refine Calls.callWith_function (o := o) (fd := fd) (evalArgs_all (plain_any hn env pos) ?_)
  refine seqK P (evalEs F st as ρ) (fun e h => by rw [h]) (fun Q' => has A env l fx ad ρ st s pos Q' E K H Vr) fun xs vs s₁ e g rx P₁ => ?_
  simp only [e] at P₁
  refine ⟨⟨(H.grow g).stays _ _ hg, hd⟩, ?_⟩
  exact hcall A l fx ad st s₁ vs xs Q E K.frames K.cons K.handled K.depth K.units (H.grow g) rx P₁

noncomputable def PrimOk (prog : Program) (w : World) (base : Heap) (p : Prim) (v : Value) : Prop :=
  ∀ (A : Around) (l : List Env) (fx ad : List Addr) (st : Store) (s : Shared) (xs : List V) (vals : List Value) (Q : Value → Shared → Prop) (E : Value → Shared → Prop), A.handled = none → HR prog w base l fx ad st s →
    Reps prog w (ad ++ fx) ad s.heap xs vals → Post l s (RepX prog w fx ad) (prim st p xs) Q E → wpAny (model prog w) A (call v vals) Q E s

theorem boot_len : bootBuiltins (cst "len") = some (.builtin "len") := (by boot_by_name : bootBuiltins (Str.ofString "len") = some (.builtin "len"))
theorem boot_tuple : bootBuiltins (cst "tuple") = some (.type "tuple") := (by boot_by_name : bootBuiltins (Str.ofString "tuple") = some (.type "tuple"))
theorem boot_value : bootBuiltins (cst "ValueError") = some (.type "ValueError") := (by boot_by_name : bootBuiltins (Str.ofString "ValueError") = some (.type "ValueError"))
theorem boot_index : bootBuiltins (cst "IndexError") = some (.type "IndexError") := (by boot_by_name : bootBuiltins (Str.ofString "IndexError") = some (.type "IndexError"))
theorem boot_type : bootBuiltins (cst "TypeError") = some (.type "TypeError") := (by boot_by_name : bootBuiltins (Str.ofString "TypeError") = some (.type "TypeError"))

theorem okBuiltin_kind {x : Str} (h : okBuiltin c x = true) : c.sc.lookup x = some .globalImplicit := by
  simp only [okBuiltin, Bool.and_eq_true, beq_iff_eq] at h; exact h.1

noncomputable def SndL (prog : Program) (w : World) (base : Heap) (rank : Nat) (F : Phi) (c : Cx) (es : List Expr) (as : List CE) : Prop := SndEs prog w base rank F c es as ∧ ∀ e ∈ es, NotStar e
theorem sl_nil : SndL prog w base rank F c [] [] := ⟨snds_nil, fun e he => absurd he List.not_mem_nil⟩
theorem sl_cons {e : Expr} {es : List Expr} {a : CE} {as : List CE} (hn : NotStar e) (ha : SndE prog w base rank F c e a) (has : SndL prog w base rank F c es as) : SndL prog w base rank F c (e :: es) (a :: as) :=
  ⟨snds_cons hn ha has.1, fun x hx => by
    rcases List.mem_cons.mp hx with rfl | hx
    · exact hn
    · exact has.2 x hx⟩
theorem snd_prim_core {x : Str} {v : Value} {pr : Prim} {es : List Expr} {as : List CE} {p pos : Pos} (hv : bootBuiltins x = some v) (hx : x ∈ bnames) (bv : BVal v) (ok : PrimOk prog w base pr v) (G : GOk base mg mb) (hk : okBuiltin c x = true)
    (has : SndL prog w base rank F c es as) : SndE prog w base rank F c (.Call (.Name x p) es [] pos) (.prim pr as) := fun A env l fx ad ρ st s Q E K H Vr P => by
  (first | rw [evalE_q1] at P | rw [evalE_q2] at P | rw [evalE_q3] at P | rw [evalE_q4] at P | rw [evalE_q5] at P | rw [evalE_q6] at P | rw [evalE_q7] at P | rw [evalE_q8] at P | rw [evalE_q9] at P | rw [evalE_q10] at P | rw [evalE_q11] at P | rw [evalE_q12] at P | rw [evalE_q13] at P | rw [evalE_q14] at P | rw [evalE_q15] at P | rw [evalE_q16] at P | rw [evalE_q17] at P | rw [evalE_q18] at P | rw [evalE_q19] at P | rw [evalE_q20] at P)
  refine Call_ (load_builtin G K H hx (okBuiltin_kind hk) hv ?_)
  refine callWith_any bv (plain_any has.2 env pos) ?_
  refine seqK P (evalEs F st as ρ) (fun e h => by rw [h]) (fun Q' => has.1 A env l fx ad ρ st s pos Q' E K H Vr) fun xs vs s₁ e g rx P₁ => ?_
  simp only [e] at P₁
  exact ok A l fx ad st s₁ xs vs Q E K.handled (H.grow g) rx P₁
theorem snd_len {es : List Expr} {as : List CE} {p pos : Pos} (G : GOk base mg mb) (hk : okBuiltin c (cst "len") = true) (has : SndL prog w base rank F c es as) : SndE prog w base rank F c (.Call (.Name (cst "len") p) es [] pos) (.prim .len as) :=
  snd_prim_core boot_len (by simp [bnames]) (.inl ⟨_, rfl⟩) (fun A l fx ad st s xs vals Q E hh H r P => len_snd H r P) G hk has
theorem snd_tupleOf {es : List Expr} {as : List CE} {p pos : Pos} (G : GOk base mg mb) (hk : okBuiltin c (cst "tuple") = true) (has : SndL prog w base rank F c es as) : SndE prog w base rank F c (.Call (.Name (cst "tuple") p) es [] pos) (.prim .tupleOf as) :=
  snd_prim_core boot_tuple (by simp [bnames]) (.inr ⟨_, rfl⟩) (fun A l fx ad st s xs vals Q E hh H r P => tupleOf_snd H r P) G hk has

theorem str_recv {st : Store} {p : Prim} {x : V} {xs : List V} (hp : p = .split ∨ p = .split1 ∨ p = .find ∨ p = .strip ∨ p = .join ∨ ∃ c t, p = .replace c t) (h : prim st p (x :: xs) ≠ stuck) : ∃ t, x = .str t := by
  cases x with
  | str t => exact ⟨t, rfl⟩
  | _ =>
    exfalso
    apply h
    rcases hp with rfl | rfl | rfl | rfl | rfl | ⟨c, t, rfl⟩ <;> first | rfl | (cases xs <;> first | rfl | (rename_i ys; cases ys <;> first | rfl | (rename_i zs; cases zs <;> rfl)))
theorem recv_str {st : Store} {fx ad : List Addr} {h : Heap} {s : Shared} {t : List Nat} {v : Value} (r : Rep prog w (ad ++ fx) ad h (.str t) v) : s.TypeIs v "str" ∧ ∀ a, v = .ref a → ∃ ob, s.heap.get? a = some ob ∧ ob.dict = none := by
  rw [Rep] at r
  obtain ⟨t', rfl, _⟩ := r
  exact ⟨typeIs_str _ _ _, fun _ e => nomatch e⟩

theorem snd_meth_core {m : Str} {id T : String} {pr : Prim} {e1 : Expr} {es : List Expr} {a : CE} {as : List CE} {ap pos : Pos} (pa : PlainAttrs T) (sl : Slot T m id) (ty : typeOf (.builtin id) = pure (.type "method_descriptor"))
    (hrecv : ∀ (l : List Env) (fx ad : List Addr) (st : Store) (s : Shared) (x : V) (xs : List V) (v : Value), HR prog w base l fx ad st s → Rep prog w (ad ++ fx) ad s.heap x v → prim st pr (x :: xs) ≠ stuck →
      s.TypeIs v T ∧ ∀ a, v = .ref a → ∃ ob, s.heap.get? a = some ob ∧ ob.dict = none)
    (ok : PrimOk prog w base pr (.builtin id)) (hb : plainBase e1 = true) (hl : ap.endLine = pos.line) (hlen : es.length < 20)
    (hn : ∀ e ∈ es, NotStar e) (ha : SndE prog w base rank F c e1 a) (has : SndEs prog w base rank F c es as) : SndE prog w base rank F c (.Call (.Attribute e1 m ap) es [] pos) (.meth pr a as) := fun A env l fx ad ρ st s Q E K H Vr P => by
  (first | rw [evalE_q1] at P | rw [evalE_q2] at P | rw [evalE_q3] at P | rw [evalE_q4] at P | rw [evalE_q5] at P | rw [evalE_q6] at P | rw [evalE_q7] at P | rw [evalE_q8] at P | rw [evalE_q9] at P | rw [evalE_q10] at P | rw [evalE_q11] at P | rw [evalE_q12] at P | rw [evalE_q13] at P | rw [evalE_q14] at P | rw [evalE_q15] at P | rw [evalE_q16] at P | rw [evalE_q17] at P | rw [evalE_q18] at P | rw [evalE_q19] at P | rw [evalE_q20] at P)
  refine wpAny_Call_method_late (attributeBase_plain hb _ _ _) ?_ (by rw [hl]; exact beq_self_eq_true _) rfl ?_
  · rw [plain_trees hn]
    simp only [List.all_map, Bool.and_eq_true, decide_eq_true_eq]
    refine ⟨⟨?_, rfl⟩, by simp; omega⟩
    simp
  refine seqK P (evalE F st a ρ) (fun e h => by rw [h]) (fun Q' => ha A env l fx ad ρ st s Q' E K H Vr) fun x vx s₁ e g rx P₁ => ?_
  simp only [e] at P₁
  cases hxs : evalEs F st as ρ with
  | error er => rw [hxs] at P₁; exact absurd rfl P₁.ns
  | ok xs =>
    rw [hxs] at P₁
    have P₂ : Post l s₁ (RepX prog w fx ad) (prim st pr (x :: xs)) Q E := P₁
    obtain ⟨h1, h2⟩ := hrecv l fx ad st s₁ x xs vx (H.grow g) rx P₂.ns
    refine ⟨T, id, pa, sl, ty, h1, h2, ?_⟩
    refine callWith_any (.inl ⟨_, rfl⟩) (plain_any hn env pos) ?_
    refine has A env l fx ad ρ st s₁ pos _ E K (H.grow g) (Vr.grow H g) ⟨fun xs' vs s₂ e2 g₂ rxs => ?_, (fun k ex s₂ s' h2 => by rw [hxs] at h2; cases h2), (fun h2 => by rw [hxs] at h2; cases h2)⟩
    rw [hxs] at e2; cases e2
    refine ok A l fx ad st s₂ (x :: xs) (vx :: vs) Q E K.handled ((H.grow g).grow g₂) ?_ (P₂.after g₂)
    rw [Reps]
    exact ⟨vx, vs, rfl, Rep.grow prog w (H.grow g) g₂ rx, rxs⟩

theorem snd_strip {e1 : Expr} {es : List Expr} {a : CE} {as : List CE} {ap pos : Pos} (hb : plainBase e1 = true) (hl : ap.endLine = pos.line) (hlen : es.length < 20) (ha : SndE prog w base rank F c e1 a) (has : SndL prog w base rank F c es as) : SndE prog w base rank F c (.Call (.Attribute e1 (cst "strip") ap) es [] pos) (.meth .strip a as) :=
  snd_meth_core PySem.F.plainAttrs_str PySem.F.slot_str_strip PySem.F.type_str_strip (fun l fx ad st s x xs v H r h => by obtain ⟨t, rfl⟩ := str_recv (by simp) h; exact recv_str (st := st) r) (fun A l fx ad st s xs vals Q E hh H r P => strip_snd H r P) hb hl hlen has.2 ha has.1
theorem snd_join {e1 : Expr} {es : List Expr} {a : CE} {as : List CE} {ap pos : Pos} (hb : plainBase e1 = true) (hl : ap.endLine = pos.line) (hlen : es.length < 20) (ha : SndE prog w base rank F c e1 a) (has : SndL prog w base rank F c es as) : SndE prog w base rank F c (.Call (.Attribute e1 (cst "join") ap) es [] pos) (.meth .join a as) :=
  snd_meth_core PySem.F.plainAttrs_str PySem.F.slot_str_join PySem.F.type_str_join (fun l fx ad st s x xs v H r h => by obtain ⟨t, rfl⟩ := str_recv (by simp) h; exact recv_str (st := st) r) (fun A l fx ad st s xs vals Q E hh H r P => join_snd H r P) hb hl hlen has.2 ha has.1
end
end Mine

end
section
set_option autoImplicit false
namespace Mine
open PySem PyProof.Rows

noncomputable def ownNames : List String := ["enumerate", "zip", "dict_itemiterator", "dict_reverseitemiterator", "odict_iterator", "itertools.zip_longest", "itertools.pairwise"]

section
variable (prog : Program) (w : World)
structure IterOk (X ad : List Addr) (xs : List V) (h₀ : Heap) (v : V) (I : Addr) (fp : List Addr) (P : Nat → Value → Prop) (St : Nat → Heap → Prop) : Prop where
  walk : ∀ A : Around, A.handled = none → Walks prog w A I fp [I] xs.length P St
  obj : ∀ i h, St i h → ∃ o n, h.get? I = some o ∧ o.cls = .type n ∧ ownNames.contains n = false
  foot : ∀ b ∈ fp, b = I ∨ ((∃ o, h₀.get? b = some o) ∧ (b ∈ X → ∃ j, v = .loc j ∧ ad[j]? = some b))
  item : ∀ i x val, P i val → xs[i]? = some x → Rep prog w X ad h₀ x val
  big : xs.length ≤ Mine.big
end

section
variable {prog : Program} {w : World} {A : Around} {base : Heap} {l : List Env} {fx ad : List Addr} {st : Store} {s : Shared} {E : Value → Shared → Prop}

set_option backward.match.sparseCases true in
theorem go_none {I : Addr} {o : PySem.Obj} {n : String} {target : Expr} {v : Value} {Q : Unit → Shared → Prop} (ho : s.heap.get? I = some o) (hc : o.cls = .type n) (hn : ownNames.contains n = false) (h : Q () s) :
    wpAny (model prog w) A (letOwnedTupleGo target (.ref I) v) Q E s := by
  have key : ∀ T : Addr, wpAny (model prog w) A (do
      let o ← load I
      match o.cls, o.data with
      | .type n, .fields vs =>
        if ["enumerate", "zip", "dict_itemiterator", "dict_reverseitemiterator", "odict_iterator", "itertools.zip_longest", "itertools.pairwise"].contains n && vs[0]? == some (rawInt T) then
          rule "for.unpacks-the-owned-tuple"
          updateField I 0 .none
      | _, _ => pure ()) Q E s := by
    intro T
    refine wpAny_bind (wpAny_load ho ?_)
    rw [hc]
    cases hd : o.data with
    | fields vs =>
      dsimp only
      rw [if_neg]
      · exact wpAny_pure h
      · intro q
        rw [show (["enumerate", "zip", "dict_itemiterator", "dict_reverseitemiterator", "odict_iterator", "itertools.zip_longest", "itertools.pairwise"].contains n) = false from hn, Bool.false_and] at q
        cases q
    | _ => exact wpAny_pure h
  unfold letOwnedTupleGo
  split
  · cases v with
    | ref T => exact key T
    | _ => exact wpAny_pure h
  · cases v with
    | ref T => exact key T
    | _ => exact wpAny_pure h
  · exact wpAny_pure h

theorem rangeInts_n (n : Nat) : rangeInts 0 (n : Int) 1 = (List.range n).map fun i : Nat => (i : Int) := by
  unfold rangeInts
  rw [if_pos (by decide), Int.sub_zero, Int.add_sub_cancel, Int.ediv_one, Int.toNat_natCast]
  exact List.map_congr_left fun i _ => by rw [Int.zero_add, Int.one_mul]


theorem iter_snd (H : HR prog w base l fx ad st s) {v : V} {val : Value} {xs : List V} {Q : Value → Shared → Prop} (r : Rep prog w (ad ++ fx) ad s.heap v val) (h : iterV st v = some xs)
    (hQ : ∀ o fp P St, IterOk prog w (ad ++ fx) ad xs s.heap v s.heap.objs.size fp P St → St 0 (s.heap.push o) → Q (.ref s.heap.objs.size) { s with heap := s.heap.push o }) :
    wpAny (model prog w) A (pyIter val) Q E s := by
  have lst : ∀ a vs, val = .ref a → s.heap.IsList a vs.toArray → xs.length ≤ Mine.big → Reps prog w (ad ++ fx) ad s.heap xs vs → (a ∈ ad ++ fx → ∃ j, v = .loc j ∧ ad[j]? = some a) → wpAny (model prog w) A (pyIter val) Q E s := by
    rintro a vs rfl hl hb hr hX
    have hlen := Reps.length prog w hr
    have hne : a ≠ s.heap.objs.size := by obtain ⟨o, ho, _⟩ := hl; exact Nat.ne_of_lt (Heap.lt_size ho)
    refine wpAny_pyIter_list hl (hQ _ [s.heap.objs.size, a] (fun i v => vs.toArray[i]? = some v) (fun i h => h.IsListIter s.heap.objs.size a i ∧ h.IsList a vs.toArray) ⟨fun A' hA => ?_, ?_, ?_, ?_, hb⟩ ?_)
    · have := Walks.list (prog := prog) (w := w) hA s.heap.objs.size a hne vs.toArray
      simpa [hlen] using this
    · rintro i h ⟨⟨o, ho, hc, _⟩, _⟩
      exact ⟨o, _, ho, hc, by decide⟩
    · intro b hb
      simp only [List.mem_cons, List.not_mem_nil, or_false] at hb
      rcases hb with rfl | rfl
      · exact .inl rfl
      · exact .inr ⟨let ⟨o, ho, _⟩ := hl; ⟨o, ho⟩, hX⟩
    · intro i x v hv hx
      obtain ⟨v', hv', r'⟩ := Reps.get hr hx
      rw [List.getElem?_toArray, hv'] at hv
      cases hv; exact r'
    · exact ⟨⟨_, Heap.get?_push_size _ rfl, rfl, rfl⟩, hl.at fun o e => get_push _ _ _ _ e⟩
  cases v with
  | list ys =>
    rw [Rep] at r; obtain ⟨a, vs, h1, h2, h3, h4, h5⟩ := r; cases h
    exact lst a vs h1 h3 h4 h5 fun q => absurd q h2
  | loc j =>
    have h' : items st (.loc j) = some xs := h
    obtain ⟨a, vs, h1, h3, h4, h5⟩ := items_rep H r h'
    rw [Rep] at r; obtain ⟨a', ha', e⟩ := r
    refine lst a vs h1 h3 h4 h5 fun q => ⟨j, rfl, ?_⟩
    rw [h1] at e; injection e with e; rw [e]; exact ha'
  | tup ys =>
    rw [Rep] at r; obtain ⟨a, vs, rfl, h2, hl, hb, hr⟩ := r; cases h
    have hlen := Reps.length prog w hr
    have hne : a ≠ s.heap.objs.size := by obtain ⟨o, ho, _⟩ := hl; exact Nat.ne_of_lt (Heap.lt_size ho)
    refine wpAny_pyIter_tuple hl (hQ _ [s.heap.objs.size, a] (fun i v => vs.toArray[i]? = some v) (fun i h => h.IsTupleIter s.heap.objs.size a i ∧ h.IsTuple a vs.toArray) ⟨fun A' hA => ?_, ?_, ?_, ?_, hb⟩ ?_)
    · have := Walks.tuple (prog := prog) (w := w) hA s.heap.objs.size a hne vs.toArray
      simpa [hlen] using this
    · rintro i h ⟨⟨o, ho, hc, _⟩, _⟩
      exact ⟨o, _, ho, hc, by decide⟩
    · intro b hb
      simp only [List.mem_cons, List.not_mem_nil, or_false] at hb
      rcases hb with rfl | rfl
      · exact .inl rfl
      · exact .inr ⟨let ⟨o, ho, _⟩ := hl; ⟨o, ho⟩, fun q => absurd q h2⟩
    · intro i x v hv hx
      obtain ⟨v', hv', r'⟩ := Reps.get hr hx
      rw [List.getElem?_toArray, hv'] at hv
      cases hv; exact r'
    · exact ⟨⟨_, Heap.get?_push_size _ rfl, rfl, rfl⟩, hl.at fun o e => get_push _ _ _ _ e⟩
  | str x =>
    rw [Rep] at r; obtain ⟨t, rfl, ok⟩ := r; cases h
    have ha : (Str.mk x.toArray).cps.all (· < 128) = true := by
      simp only [List.all_toArray, List.all_eq_true, decide_eq_true_eq]
      exact fun c hc => plain_lt (ok.plain c hc)
    refine wpAny_pyIter_ascii ha (hQ _ [s.heap.objs.size] (SignAt ⟨x.toArray⟩) (fun i h => h.IsStrIter s.heap.objs.size "str_ascii_iterator" ⟨x.toArray⟩ t i) ⟨fun A' hA => ?_, ?_, ?_, ?_, ?_⟩ ⟨_, Heap.get?_push_size _ rfl, rfl, rfl⟩)
    · have := Walks.strAscii (prog := prog) (w := w) hA s.heap.objs.size ⟨x.toArray⟩ t
      simpa using this
    · rintro i h ⟨o, ho, hc, _⟩
      exact ⟨o, _, ho, hc, by decide⟩
    · intro b hb
      exact .inl (by simpa using hb)
    · rintro i y v ⟨c, u, hc, rfl⟩ hy
      have hc' : x[i]? = some c := by simpa using hc
      simp only [List.getElem?_map, Option.map_eq_some_iff] at hy
      obtain ⟨c', hc2, rfl⟩ := hy
      rw [hc'] at hc2; cases hc2
      exact rep_str (ok.one (List.mem_of_getElem? hc'))
    · simpa using ok.len
  | range a b c =>
    rw [Rep] at r; obtain ⟨r0, t, u, v', rfl, hX, hr, hs, ha, hb, hc⟩ := r; cases h
    obtain ⟨n, rfl, hn⟩ := hb
    subst ha hc
    have hlen : ((rangeInts 0 (n : Int) 1).length : Int) = Builtin.Range.rangeSize 0 (n : Int) 1 := by rw [rangeSize_n, rangeInts_n, List.length_map, List.length_range]
    refine wpAny_pyIter_range hr hs (hQ _ [s.heap.objs.size] (fun i v => ∃ t, v = .int (0 + i * 1) t) (fun i h => IsRangeIter h s.heap.objs.size (0 + (i : Nat) * 1) (((rangeInts 0 (n : Int) 1).length : Int) - (i : Nat)) 1) ⟨fun A' hA => ?_, ?_, ?_, ?_, ?_⟩ ?_)
    · have := Walks.range (prog := prog) (w := w) hA s.heap.objs.size 0 1 (rangeInts 0 (n : Int) 1).length
      simpa using this
    · intro i h hi
      exact ⟨_, _, hi, rfl, by decide⟩
    · intro b hb
      exact .inl (by simpa using hb)
    · rintro i y v ⟨t, rfl⟩ hy
      rw [rangeInts_n, List.map_map, List.getElem?_map, Option.map_eq_some_iff] at hy
      obtain ⟨z, hz, rfl⟩ := hy
      have hz' : z = i := by
        obtain ⟨_, hz⟩ := List.getElem?_eq_some_iff.mp hz
        rw [← hz, List.getElem_range]
      subst hz'
      have e : (0 : Int) + (z : Int) * 1 = z := by rw [Int.zero_add, Int.mul_one]
      rw [e]
      exact rep_int
    · rw [List.length_map, rangeInts_n, List.length_map, List.length_range]; exact Nat.le_trans hn (by decide)
    · show IsRangeIter _ _ _ _ _
      have e1 : (0 : Int) + ((0 : Nat) : Int) * 1 = 0 := by simp
      have e2 : ((rangeInts 0 (n : Int) 1).length : Int) - ((0 : Nat) : Int) = Builtin.Range.rangeSize 0 (n : Int) 1 := by rw [hlen]; simp
      rw [e1, e2]
      exact Heap.get?_push_size _ rfl
  | dict es =>
    obtain ⟨d, kvs, rfl, hne1, hd, hb, hp⟩ := dict_rep H r (es := es) rfl
    rw [Rep] at r; obtain ⟨d', kvs', e, hX, _⟩ := r; injection e with e; subst e
    cases h
    obtain ⟨ep, hat⟩ := hd.dictAt
    have hne : d ≠ s.heap.objs.size := by obtain ⟨o, _, ho, _⟩ := hat; exact Nat.ne_of_lt (Heap.lt_size ho)
    have hkeys : ∀ {es : List (List Nat × List Nat)} {kvs : List (Str × Value)}, PairsAre es kvs → kvs.length = es.length ∧ ∀ (i : Nat) (p : List Nat × List Nat) (k : Str) (v : Value), es[i]? = some p → kvs[i]? = some (k, v) → k = ⟨p.1.toArray⟩ ∧ OkS p.1 := by
      intro es
      induction es with
      | nil => intro kvs h; rw [PairsAre] at h; subst h; exact ⟨rfl, fun i p k v h => by simp at h⟩
      | cons q es ih =>
        obtain ⟨q1, q2⟩ := q
        intro kvs h
        rw [PairsAre] at h
        obtain ⟨t, rr, rfl, o1, o2, hr⟩ := h
        obtain ⟨l1, l2⟩ := ih hr
        refine ⟨by simp [l1], fun i p k v h1 h2 => ?_⟩
        cases i with
        | zero => simp at h1 h2; obtain ⟨rfl, _⟩ := h2; subst h1; exact ⟨rfl, o1⟩
        | succ i => simp only [List.getElem?_cons_succ] at h1 h2; exact l2 i p k v h1 h2
    obtain ⟨k1, k2⟩ := hkeys hp
    refine wpAny_pyIter_dict (by simpa using hne1) hat (hQ _ [s.heap.objs.size, d] (fun i v => ∃ k x, kvs[i]? = some (k, x) ∧ (strKind prog w).is k v = true)
      (fun i h => h.IsKeyIter s.heap.objs.size d i kvs.length ep ∧ h.DictAt (strKind prog w) d kvs ep) ⟨fun A' hA => ?_, ?_, ?_, ?_, ?_⟩ ?_)
    · have := Walks.dictKeys (prog := prog) (w := w) (knd := strKind prog w) hA s.heap.objs.size d hne kvs ep
      simpa [k1] using this
    · rintro i h ⟨⟨o, ho, hc, _⟩, _⟩
      exact ⟨o, _, ho, hc, by decide⟩
    · intro b hb
      simp only [List.mem_cons, List.not_mem_nil, or_false] at hb
      rcases hb with rfl | rfl
      · exact .inl rfl
      · exact .inr ⟨let ⟨o, _, ho, _⟩ := hat; ⟨o, ho⟩, fun q => absurd q hX⟩
    · rintro i y v ⟨k, x, hk, hv⟩ hy
      simp only [List.getElem?_map, Option.map_eq_some_iff] at hy
      obtain ⟨p, hp', rfl⟩ := hy
      obtain ⟨rfl, ok⟩ := k2 i p k x hp' hk
      obtain ⟨t, rfl⟩ := Value.isStrOf_shape hv
      exact rep_str ok
    · simpa using hb
    · exact ⟨⟨_, Heap.get?_push_size _ rfl, rfl, rfl⟩, hat.push _⟩
  | _ => cases h
end
end Mine

end
section
set_option autoImplicit false
namespace Mine
open PySem PyProof.Rows

structure CxOk (c : Cx) : Prop where
  inj : ∀ x y k, c.γ.lookup x = some k → c.γ.lookup y = some k → x = y
  lt : ∀ x k, c.γ.lookup x = some k → k < c.n

theorem funFrames_put {base h h' : Heap} {a : Addr} (hs : Heap.SameBut a h h') (ho : ∃ o, h'.get? a = some o ∧ ∀ vs, o.data ≠ .fields vs) : ∀ {l : List Env}, h.FunFrames base l → h'.FunFrames base l
  | [], _ => trivial
  | env :: rest, hl => by
    obtain ⟨hk, ⟨L, o, hf, hn, hL, hd⟩, hr⟩ := hl
    refine ⟨hk, ?_, funFrames_put hs ho hr⟩
    by_cases e : L = a
    · subst e; obtain ⟨o', h1, h2⟩ := ho; exact ⟨L, o', hf, hn, h1, h2⟩
    · exact ⟨L, o, hf, hn, (hs.2 L e).trans hL, hd⟩

section
variable {prog : Program} {w : World} {A : Around} {base : Heap} {mg mb : Str → Option Value} {l : List Env} {fx ad : List Addr} {st : Store} {s : Shared} {E : Value → Shared → Prop}

theorem HR.put (H : HR prog w base l fx ad st s) {a : Addr} (ha : a ∈ fx) (ha' : a ≠ sysModules) {h' : Heap} {tk : Nat} (hs : Heap.SameBut a s.heap h')
    (ho : ∃ o, h'.get? a = some o ∧ ∀ vs, o.data ≠ .fields vs) (ht : s.toks ≤ tk) : HR prog w base l fx ad st { s with heap := h', toks := tk } where
  stays := fun b o e => by
    have hne : b ≠ a := by
      rintro rfl
      rcases H.off b (List.mem_append_right _ ha) with h | h
      · exact ha' h
      · rw [h] at e; cases e
    exact (hs.2 b hne).trans (H.stays b o e)
  frames := funFrames_put hs ho H.frames
  fsX := H.fsX
  one := H.one
  main := by
    obtain ⟨o, e⟩ := H.main
    by_cases q : mainGlobals = a
    · obtain ⟨o', h1, _⟩ := ho; exact ⟨o', by rw [q]; exact h1⟩
    · exact ⟨o, (hs.2 _ q).trans e⟩
  there := fun b hb => (H.there b hb).imp id fun ⟨o, e⟩ => by
    by_cases q : b = a
    · obtain ⟨o', h1, _⟩ := ho; exact ⟨o', by rw [q]; exact h1⟩
    · exact ⟨o, (hs.2 _ q).trans e⟩
  apart := H.apart
  nodup := H.nodup
  len := H.len
  store := fun i b o hb ho' => (H.store i b o hb ho').up prog w (fun c o hc e => (hs.2 c fun q => hc (q ▸ List.mem_append_right _ ha)).trans e) (fun _ _ q _ => q) (fun _ _ q => q)
    fun o e => (hs.2 b fun q => H.apart b (List.mem_of_getElem? hb) (q ▸ ha)).trans e
  toks := Nat.le_trans H.toks ht
  off := H.off

theorem Rep.put {v : V} {val : Value} {h h' : Heap} {a : Addr} (ha : a ∈ fx) (hs : Heap.SameBut a h h') (r : Rep prog w (ad ++ fx) ad h v val) : Rep prog w (ad ++ fx) ad h' v val :=
  Rep.up prog w (fun b o hb e => (hs.2 b fun q => hb (q ▸ List.mem_append_right _ ha)).trans e) (fun _ _ q _ => q) (fun _ _ q => q) r

theorem ns_notfields {h : Heap} {a : Addr} {m : Str → Option Value} (x : h.Ns a m) : ∃ o, h.get? a = some o ∧ ∀ vs, o.data ≠ .fields vs := by
  obtain ⟨o, es, ep, ho, hd, _⟩ := x
  exact ⟨o, ho, fun vs q => by rw [hd] at q; cases q⟩
theorem cell_notfields {h : Heap} {a : Addr} {v : Option Value} (x : h.IsCell a v) : ∃ o, h.get? a = some o ∧ ∀ vs, o.data ≠ .fields vs := by
  obtain ⟨o, ho, hd⟩ := x
  exact ⟨o, ho, fun vs q => by rw [hd] at q; cases q⟩

theorem set_get {ρ : Vars} {k j : Nat} {d e : V} (h : (ρ.set k (some d))[j]? = some (some e)) : (j = k ∧ e = d) ∨ (j ≠ k ∧ ρ[j]? = some (some e)) := by
  by_cases q : j = k
  · subst q
    rw [List.getElem?_set] at h
    simp only [if_true] at h
    split at h
    · simp at h; exact .inl ⟨rfl, h.symm⟩
    · simp at h
  · rw [List.getElem?_set_ne (Ne.symm q)] at h
    exact .inr ⟨q, h⟩

theorem store_var {A' : Around} {rank : Nat} {c : Cx} {env : Env} {ρ : Vars} (C : CxOk c) (K : EnvOk rank c A env l) (H : HR prog w base l fx ad st s) (Vr : VR prog w c env fx ad ρ s.heap) {x : Str} {k : Nat} {d : V} {v : Value}
    (hk : c.sc.lookup x = some .local ∨ c.sc.lookup x = some .cell) (hγ : c.γ.lookup x = some k) (r : Rep prog w (ad ++ fx) ad s.heap d v) {Q : Unit → Shared → Prop}
    (hQ : ∀ a h' tk, (c.sc.lookup x = some .local → a = env.locals) ∧ (c.sc.lookup x = some .cell → env.cells.lookup x = some a) → a ∈ fx → a ≠ sysModules → Heap.SameBut a s.heap h' → s.toks ≤ tk → HR prog w base l fx ad st { s with heap := h', toks := tk } →
      VR prog w c env fx ad (ρ.set k (some d)) h' → Q () { s with heap := h', toks := tk }) : wpAny (model prog w) A' (storeName env x v) Q E s := by
  have hkind : env.kindOf x = c.sc.lookup x := by unfold Env.kindOf; rw [K.names]
  obtain ⟨m, hn, hm⟩ := Vr.ns
  rcases hk with hk | hk
  · refine wpAny_storeName_local (hkind.trans hk) hn (fun h' hn' hs' => ?_) (by rw [K.kind]; rfl)
    refine hQ env.locals h' (s.toks + 1) ⟨fun _ => rfl, (fun q => by rw [hk] at q; cases q)⟩ Vr.loc.1 Vr.loc.2 hs' (Nat.le_succ _) (H.put Vr.loc.1 Vr.loc.2 hs' (ns_notfields hn') (Nat.le_succ _)) ⟨Vr.loc, ⟨_, hn', fun y j e hy hj he => ?_⟩, fun y hy => ?_, Vr.apart, by rw [List.length_set]; exact Vr.len⟩
    · rcases set_get he with ⟨rfl, rfl⟩ | ⟨hne, he⟩
      · have := C.inj _ _ _ hj hγ; subst this
        exact ⟨v, by simp, Rep.put Vr.loc.1 hs' r⟩
      · have hxy : y ≠ x := by rintro rfl; rw [hγ] at hj; cases hj; exact hne rfl
        obtain ⟨u, hu, hr⟩ := hm y j e hy hj he
        exact ⟨u, by simp [hxy, hu], Rep.put Vr.loc.1 hs' hr⟩
    · obtain ⟨a, u, h1, h2, h3, h4, h5⟩ := Vr.cell y hy
      refine ⟨a, u, h1, h2, h3, let ⟨o, ho, hd⟩ := h4; ⟨o, (hs'.2 a h3).trans ho, hd⟩, fun j e hj he => ?_⟩
      rcases set_get he with ⟨rfl, rfl⟩ | ⟨hne, he⟩
      · have := C.inj _ _ _ hj hγ; subst this
        rw [hk] at hy; cases hy
      · obtain ⟨u', hu, hr⟩ := h5 j e hj he
        exact ⟨u', hu, Rep.put Vr.loc.1 hs' hr⟩
  · obtain ⟨a, u, h1, h2, h3, h4, h5⟩ := Vr.cell x hk
    refine wpAny_storeName_cell K.kind (hkind.trans hk) h1 h4 fun h' hc' hs' => ?_
    refine hQ a h' s.toks ⟨(fun q => by rw [hk] at q; cases q), fun _ => h1⟩ h2.1 h2.2 hs' (Nat.le_refl _) (H.put h2.1 h2.2 hs' (cell_notfields hc') (Nat.le_refl _)) ⟨Vr.loc, ⟨m, hn.sameBut hs' (Ne.symm h3), fun y j e hy hj he => ?_⟩, fun y hy => ?_, Vr.apart, by rw [List.length_set]; exact Vr.len⟩
    · rcases set_get he with ⟨rfl, rfl⟩ | ⟨hne, he⟩
      · have := C.inj _ _ _ hj hγ; subst this
        rw [hk] at hy; cases hy
      · obtain ⟨u, hu, hr⟩ := hm y j e hy hj he
        exact ⟨u, hu, Rep.put h2.1 hs' hr⟩
    · by_cases hxy : y = x
      · subst hxy
        refine ⟨a, some v, h1, h2, h3, hc', fun j e hj he => ?_⟩
        rw [hγ] at hj; cases hj
        rcases set_get he with ⟨_, rfl⟩ | ⟨hne, he⟩
        · exact ⟨v, rfl, Rep.put h2.1 hs' r⟩
        · exact absurd rfl hne
      · obtain ⟨a', u', g1, g2, g3, g4, g5⟩ := Vr.cell y hy
        have hne : a' ≠ a := by rintro rfl; exact hxy (Vr.apart _ _ _ g1 h1)
        refine ⟨a', u', g1, g2, g3, let ⟨o, ho, hd⟩ := g4; ⟨o, (hs'.2 a' hne).trans ho, hd⟩, fun j e hj he => ?_⟩
        rcases set_get he with ⟨rfl, rfl⟩ | ⟨hne', he⟩
        · exact absurd (C.inj _ _ _ hj hγ) hxy
        · obtain ⟨u'', hu, hr⟩ := g5 j e hj he
          exact ⟨u'', hu, Rep.put h2.1 hs' hr⟩

structure Puts (W : Addr → Prop) (s s' : Shared) : Prop where
  gens : s'.gens = s.gens
  os : s'.os = s.os
  toks : s.toks ≤ s'.toks
  keep : ∀ b o, ¬ W b → s.heap.get? b = some o → s'.heap.get? b = some o
theorem Puts.refl (W : Addr → Prop) (s : Shared) : Puts W s s := ⟨rfl, rfl, Nat.le_refl _, fun _ _ _ e => e⟩
theorem Puts.trans {W : Addr → Prop} {s₁ s₂ s₃ : Shared} (x : Puts W s₁ s₂) (y : Puts W s₂ s₃) : Puts W s₁ s₃ :=
  ⟨y.gens.trans x.gens, y.os.trans x.os, Nat.le_trans x.toks y.toks, fun b o h e => y.keep b o h (x.keep b o h e)⟩

theorem namesOf_assign {es : List Expr} {xs : List Str} (h : namesOf es = some xs) (env : Env) : ∃ ps : List Pos, ps.length = xs.length ∧ assignEach es env = (xs.zip ps).map fun p => (false, assign (.Name p.1 p.2) env) := by
  induction es generalizing xs with
  | nil => cases h; exact ⟨[], rfl, rfl⟩
  | cons e es ih =>
    rw [namesOf] at h
    split at h
    · rename_i x ys hx hy
      cases h
      obtain ⟨ps, hl, hp⟩ := ih hy
      cases e with
      | Name y p =>
        cases hx
        refine ⟨p :: ps, by simp [hl], ?_⟩
        show (false, assign (.Name x p) env) :: assignEach es env = _
        rw [hp]; rfl
      | _ => cases hx
    · cases h

theorem store_vars {A' : Around} {rank : Nat} {c : Cx} {env : Env} (C : CxOk c) (K : EnvOk rank c A env l) {W : Addr → Prop} {Q : Unit → Shared → Prop} :
    ∀ (xs : List Str) (ps : List Pos) (ks : List Nat) (ds : List V) (vs : List Value) (ρ : Vars) (s : Shared), ps.length = xs.length → ds.length = xs.length → slotsOf c xs = some ks →
    (∀ x ∈ xs, (c.sc.lookup x = some .local → W env.locals) ∧ (c.sc.lookup x = some .cell → ∀ a, env.cells.lookup x = some a → W a)) →
    HR prog w base l fx ad st s → VR prog w c env fx ad ρ s.heap → Reps prog w (ad ++ fx) ad s.heap ds vs →
    (∀ s', Puts W s s' → HR prog w base l fx ad st s' → VR prog w c env fx ad (setVars ks ds ρ) s'.heap → Q () s') →
    wpAny (model prog w) A' (assignInOrder (((xs.zip ps).map fun p => (false, assign (.Name p.1 p.2) env)).map (·.2)) vs) Q E s := by
  intro xs
  induction xs with
  | nil =>
    intro ps ks ds vs ρ s hps hds hks hW H Vr hr hQ
    rw [slotsOf] at hks; cases hks
    exact assignInOrder_nil (hQ s (.refl ..) H (by simpa [setVars] using Vr))
  | cons x xs ih =>
    intro ps ks ds vs ρ s hps hds hks hW H Vr hr hQ
    rw [slotsOf] at hks
    split at hks
    · rename_i k ks' hk hks'
      cases hks
      cases ps with
      | nil => cases hps
      | cons p ps =>
      cases ds with
      | nil => cases hds
      | cons d ds =>
      rw [Reps] at hr
      obtain ⟨v, vr, rfl, r, hr⟩ := hr
      unfold slot at hk
      split at hk
      · rename_i hkind
        refine assignInOrder_cons ?_
        refine wpAny_assign_Name (store_var C K H Vr hkind hk r fun a h' tk hloc ha ha' hs ht H' Vr' => ?_)
        have hWa : W a := by
          rcases hkind with q | q
          · rw [hloc.1 q]; exact (hW x (List.mem_cons_self ..)).1 q
          · exact (hW x (List.mem_cons_self ..)).2 q a (hloc.2 q)
        have hput : Puts W s { s with heap := h', toks := tk } := ⟨rfl, rfl, ht, fun b o hb e => (hs.2 b fun q => hb (q ▸ hWa)).trans e⟩
        refine ih ps ks' ds vr (ρ.set k (some d)) _ (by simpa using hps) (by simpa using hds) hks' (fun y hy => hW y (List.mem_cons_of_mem _ hy)) H' Vr' ?_ fun s' hp H'' Vr'' => ?_
        · exact Reps.up prog w (fun b o hb e => (hs.2 b fun q => hb (q ▸ List.mem_append_right _ ha)).trans e) (fun _ _ q _ => q) (fun _ _ q => q) hr
        · exact hQ s' (hput.trans hp) H'' Vr''
      · cases hk
    · cases hks
end
end Mine

end
section
set_option autoImplicit false
namespace Mine
open PySem PyProof.Rows

section
variable {prog : Program} {w : World} {A : Around} {base : Heap} {mg mb : Str → Option Value} {l : List Env} {fx ad : List Addr} {st : Store} {s s' : Shared} {E : Value → Shared → Prop}

theorem HR.enter (H : HR prog w base l fx ad st s) (g : Grow l s s') (new : List Addr) (hnew : ∀ b ∈ new, s.heap.get? b = none) (hth : ∀ b ∈ new, ∃ o, s'.heap.get? b = some o) :
    HR prog w base l (new ++ fx) ad st s' := by
  have Hg := H.grow g
  refine { Hg with
    fsX := fun b hb => List.mem_append_right _ (H.fsX b hb)
    one := List.mem_append_right _ H.one
    there := fun b hb => ?_
    apart := fun a ha hm => ?_
    store := fun i a o ha ho => ?_
    off := fun b hb => ?_ }
  · rcases List.mem_append.mp hb with h | h
    · exact Hg.there b (List.mem_append_left _ h)
    · rcases List.mem_append.mp h with h | h
      · exact .inr (hth b h)
      · exact Hg.there b (List.mem_append_right _ h)
  · rcases List.mem_append.mp hm with h | h
    · rcases H.there a (List.mem_append_left _ ha) with q | ⟨o, q⟩
      · exact H.apart a ha (q ▸ H.one)
      · rw [hnew a h] at q; cases q
    · exact H.apart a ha h
  · refine (H.store i a o ha ho).up prog w (fun b o hb e => g.keep.exact b o e fun q => hb (List.mem_append_right _ (H.fsX b q))) (fun b o hb e => ?_) (fun _ _ q => q) fun o e => g.keep.exact a o e fun q => H.apart a (List.mem_of_getElem? ha) (H.fsX a q)
    rcases List.mem_append.mp hb with h | h
    · exact List.mem_append_left _ h
    · rcases List.mem_append.mp h with h | h
      · rw [hnew b h] at e; cases e
      · exact List.mem_append_right _ h
  · rcases List.mem_append.mp hb with h | h
    · exact H.off b (List.mem_append_left _ h)
    · rcases List.mem_append.mp h with h | h
      · right
        cases q : base.get? b with
        | none => rfl
        | some o => have := H.stays b o q; rw [hnew b h] at this; cases this
      · exact H.off b (List.mem_append_right _ h)

theorem Rep.enter (H : HR prog w base l fx ad st s) (g : Grow l s s') {new : List Addr} (hnew : ∀ b ∈ new, s.heap.get? b = none) {v : V} {val : Value} (r : Rep prog w (ad ++ fx) ad s.heap v val) :
    Rep prog w (ad ++ (new ++ fx)) ad s'.heap v val := by
  refine Rep.up prog w (fun b o hb e => g.keep.exact b o e fun q => hb (List.mem_append_right _ (H.fsX b q))) (fun b o hb e => ?_) (fun _ _ q => q) r
  rcases List.mem_append.mp hb with h | h
  · exact List.mem_append_left _ h
  · rcases List.mem_append.mp h with h | h
    · rw [hnew b h] at e; cases e
    · exact List.mem_append_right _ h

theorem nodupB_mem {α : Type} [BEq α] [LawfulBEq α] {x : α} {xs : List α} (h : nodupB (x :: xs) = true) : x ∉ xs ∧ nodupB xs = true := by
  rw [nodupB, Bool.and_eq_true] at h
  refine ⟨fun q => ?_, h.2⟩
  have : xs.contains x = true := by simpa using q
  rw [this] at h
  exact absurd h.1 (by simp)
theorem slots_lookup {xs : List Str} : ∀ {n : Nat} {x : Str} {k : Nat}, (slots n xs).lookup x = some k → n ≤ k ∧ xs[k - n]? = some x := by
  induction xs with
  | nil => intro n x k h; simp [slots] at h
  | cons y ys ih =>
    intro n x k h
    rw [slots, List.lookup_cons] at h
    split at h
    · rename_i e
      cases h
      have : x = y := by simpa using e
      subst this
      exact ⟨Nat.le_refl _, by simp⟩
    · obtain ⟨h1, h2⟩ := ih h
      refine ⟨by omega, ?_⟩
      have e : k - n = (k - (n + 1)) + 1 := by omega
      rw [e, List.getElem?_cons_succ]; exact h2
theorem slots_some {xs : List Str} : ∀ {n i : Nat} {x : Str}, nodupB xs = true → xs[i]? = some x → (slots n xs).lookup x = some (n + i) := by
  induction xs with
  | nil => intro n i x _ h; simp at h
  | cons y ys ih =>
    intro n i x hd h
    obtain ⟨h1, h2⟩ := nodupB_mem hd
    rw [slots, List.lookup_cons]
    cases i with
    | zero => simp at h; subst h; simp
    | succ i =>
      simp only [List.getElem?_cons_succ] at h
      have hne : (x == y) = false := by simp; rintro rfl; exact h1 (List.mem_of_getElem? h)
      rw [hne]
      have := ih (n := n + 1) h2 h
      exact this.trans (by rw [Nat.add_assoc, Nat.add_comm 1 i])
theorem lookup_append' {xs ys : List (Str × Nat)} {x : Str} : (xs ++ ys).lookup x = (xs.lookup x).or (ys.lookup x) := by
  induction xs with
  | nil => simp
  | cons p xs ih =>
    obtain ⟨a, b⟩ := p
    rw [List.cons_append, List.lookup_cons, List.lookup_cons]
    split <;> simp [ih]
theorem lookup_free {γ : List (Str × Nat)} {names : List (Str × NameKind)} {x : Str} {k : Nat}
    (h : (names.filterMap fun p => if p.2 == .free then (γ.lookup p.1).map (p.1, ·) else none).lookup x = some k) : γ.lookup x = some k ∧ ∃ p ∈ names, p.1 = x ∧ p.2 = .free := by
  induction names with
  | nil => simp at h
  | cons p names ih =>
    rw [List.filterMap_cons] at h
    split at h
    · obtain ⟨h1, q, hq, h2⟩ := ih h
      exact ⟨h1, q, List.mem_cons_of_mem _ hq, h2⟩
    · rename_i b hb
      split at hb
      · rename_i hf
        rw [Option.map_eq_some_iff] at hb
        obtain ⟨j, hj, rfl⟩ := hb
        rw [List.lookup_cons] at h
        split at h
        · rename_i e
          cases h
          have : x = p.1 := by simpa using e
          subst this
          exact ⟨hj, p, List.mem_cons_self .., rfl, by simpa using hf⟩
        · obtain ⟨h1, q, hq, h2⟩ := ih h
          exact ⟨h1, q, List.mem_cons_of_mem _ hq, h2⟩
      · cases hb
theorem lookup_mem {β : Type} {names : List (Str × β)} {x : Str} {k : β} (h : names.lookup x = some k) : (x, k) ∈ names := by
  induction names with
  | nil => simp at h
  | cons p names ih =>
    obtain ⟨a, b⟩ := p
    rw [List.lookup_cons] at h
    split at h
    · rename_i e; cases h; have : x = a := by simpa using e
      subst this; exact List.mem_cons_self ..
    · exact List.mem_cons_of_mem _ (ih h)
theorem relabel_lookup {sc names : List (Str × NameKind)} {x : Str} : (relabel sc names).lookup x = match names.lookup x with
    | some .free => if sc.lookup x == some .cell then some .cell else some .free
    | o => o := by
  induction names with
  | nil => rfl
  | cons p names ih =>
    obtain ⟨a, b⟩ := p
    unfold relabel at ih ⊢
    rw [List.map_cons, List.lookup_cons]
    cases hx : x == a with
    | true =>
      have : x = a := by simpa using hx
      subst this
      by_cases hc : (b == NameKind.free && sc.lookup x == some .cell) = true
      · rw [if_pos hc, List.lookup_cons, hx]
        rw [Bool.and_eq_true] at hc
        have hb : b = .free := by simpa using hc.1
        subst hb
        simp only [hc.2, if_true]
      · rw [if_neg hc, List.lookup_cons, hx]
        simp only
        cases b <;> simp_all
    | false =>
      by_cases hc : (b == NameKind.free && sc.lookup a == some .cell) = true
      · rw [if_pos hc, List.lookup_cons, hx]; exact ih
      · rw [if_neg hc, List.lookup_cons, hx]; exact ih

structure CompOk (c : Cx) (scope : Scope) (xs : List Str) : Prop where
  kind : scope.kind = .function
  loc : ∀ x ∈ xs, scope.names.lookup x = some .local
  nodup : nodupB xs = true
  nocell : ∀ p ∈ scope.names, p.2 ≠ .cell
  local_ : ∀ p ∈ scope.names, p.2 = .local → scope.names.lookup p.1 = some .local ∧ (p.1 = cst ".0" ∨ p.1 ∈ xs)
  free : ∀ p ∈ scope.names, p.2 = .free → c.sc.lookup p.1 = some .cell ∧ scope.names.lookup p.1 = some .free
theorem compOk {c : Cx} {scope : Scope} {xs : List Str} (h : okComp c scope xs = true) : CompOk c scope xs := by
  unfold okComp at h
  simp only [Bool.and_eq_true, List.all_eq_true, beq_iff_eq] at h
  obtain ⟨⟨⟨h1, h2⟩, h3⟩, h4⟩ := h
  refine ⟨h1, h2, h3, fun p hp q => ?_, fun p hp q => ?_, fun p hp q => ?_⟩
  · have := (h4 p hp).1.1.1
    rw [q] at this; simp at this
  · have := (h4 p hp).1.1.2
    rw [q] at this
    simpa using this
  · have := (h4 p hp).1.2
    rw [q] at this
    simpa using this

theorem CompOk.γ_new {c : Cx} {scope : Scope} {xs : List Str} (h : CompOk c scope xs) {i : Nat} {x : Str} (hx : xs[i]? = some x) : (cxComp c scope xs).γ.lookup x = some (c.n + i) := by
  show List.lookup x (slots c.n xs ++ _) = _
  rw [lookup_append', slots_some h.nodup hx]; rfl
theorem CompOk.γ_cases {c : Cx} {scope : Scope} {xs : List Str} (h : CompOk c scope xs) {x : Str} {k : Nat} (hk : (cxComp c scope xs).γ.lookup x = some k) :
    (c.n ≤ k ∧ xs[k - c.n]? = some x) ∨ (c.γ.lookup x = some k ∧ scope.names.lookup x = some .free ∧ x ∉ xs) := by
  have hk' : (slots c.n xs ++ (scope.names.filterMap fun p => if p.2 == .free then (c.γ.lookup p.1).map (p.1, ·) else none)).lookup x = some k := hk
  rw [lookup_append'] at hk'
  cases hs : (slots c.n xs).lookup x with
  | some j =>
    rw [hs] at hk'
    simp only [Option.or] at hk'
    cases hk'
    exact .inl (slots_lookup hs)
  | none =>
    rw [hs] at hk'
    obtain ⟨h1, p, hp, rfl, hf⟩ := lookup_free (by simpa using hk')
    have hfree := (h.free p hp hf).2
    refine .inr ⟨h1, hfree, fun q => ?_⟩
    rw [h.loc _ q] at hfree; cases hfree
theorem CompOk.cx {c : Cx} {scope : Scope} {xs : List Str} (h : CompOk c scope xs) (C : CxOk c) : CxOk (cxComp c scope xs) where
  inj := fun x y k hx hy => by
    rcases h.γ_cases hx with ⟨h1, h2⟩ | ⟨h1, h2, _⟩
    · rcases h.γ_cases hy with ⟨g1, g2⟩ | ⟨g1, g2, _⟩
      · rw [h2] at g2; cases g2; rfl
      · have := C.lt _ _ g1; omega
    · rcases h.γ_cases hy with ⟨g1, g2⟩ | ⟨g1, g2, _⟩
      · have := C.lt _ _ h1; omega
      · exact C.inj _ _ _ h1 g1
  lt := fun x k hx => by
    show k < c.n + xs.length
    rcases h.γ_cases hx with ⟨h1, h2⟩ | ⟨h1, h2, _⟩
    · have := (List.getElem?_eq_some_iff.mp h2).1; omega
    · have := C.lt _ _ h1; omega
theorem CompOk.sc_local {c : Cx} {scope : Scope} {xs : List Str} (h : CompOk c scope xs) {x : Str} (hx : x ∈ xs) : (cxComp c scope xs).sc.lookup x = some .local := by
  show (relabel c.sc scope.names).lookup x = _
  rw [relabel_lookup, h.loc x hx]
theorem CompOk.slots {c : Cx} {scope : Scope} {xs : List Str} (h : CompOk c scope xs) : slotsOf (cxComp c scope xs) xs = some (List.range' c.n xs.length) := by
  have : ∀ (ys : List Str) (j : Nat), (∀ i x, ys[i]? = some x → xs[j + i]? = some x) → slotsOf (cxComp c scope xs) ys = some (List.range' (c.n + j) ys.length) := by
    intro ys
    induction ys with
    | nil => intro j _; rfl
    | cons y ys ih =>
      intro j hj
      have h0 := hj 0 y rfl
      have h1 := ih (j + 1) fun i x hx => by have := hj (i + 1) x (by simpa using hx); rw [show j + 1 + i = j + (i + 1) by omega]; exact this
      rw [slotsOf, slot, if_pos (.inl (h.sc_local (List.mem_of_getElem? h0))), h.γ_new (i := j) (by simpa using h0), h1]
      simp only [List.length_cons, List.range'_succ]
      rfl
  simpa using this xs 0 fun i x hx => by simpa using hx

theorem closureFor_comp {c : Cx} {scope : Scope} {xs : List Str} (h : CompOk c scope xs) {env : Env} (hc : ∀ x, c.sc.lookup x = some .cell → ∃ a, env.cells.lookup x = some a) :
    ∃ cl, closureFor scope env = pure cl ∧ (∀ x a, cl.lookup x = some a → env.cells.lookup x = some a) ∧ ∀ x, scope.names.lookup x = some .free → cl.lookup x = env.cells.lookup x := by
  have key : ∀ (names : List (Str × NameKind)) (cs : List (Str × Addr)), (∀ p ∈ names, p.2 = .free → ∃ a, env.cells.lookup p.1 = some a) → (∀ x a, cs.lookup x = some a → env.cells.lookup x = some a) →
      ∃ cl, (forIn names cs fun (x : Str × NameKind) (r : List (Str × Addr)) => if (x.2 == NameKind.free) = true then (do let a ← cellOf env x.1; pure (ForInStep.yield ((x.1, a) :: r))) else pure (ForInStep.yield r) : Sem (List (Str × Addr))) = pure cl ∧
        (∀ x a, cl.lookup x = some a → env.cells.lookup x = some a) ∧ (∀ p ∈ names, p.2 = .free → ∃ a, cl.lookup p.1 = some a) ∧ ∀ x, (∃ a, cs.lookup x = some a) → ∃ a, cl.lookup x = some a := by
    intro names
    induction names with
    | nil => intro cs _ hcs; exact ⟨cs, rfl, hcs, (fun p hp => absurd hp (List.not_mem_nil)), fun x h => h⟩
    | cons p names ih =>
      intro cs hn hcs
      rw [List.forIn_cons]
      by_cases hf : (p.2 == NameKind.free) = true
      · have hf' : p.2 = .free := by simpa using hf
        obtain ⟨a, ha⟩ := hn p (List.mem_cons_self ..) hf'
        obtain ⟨cl, h1, h2, h3, h4⟩ := ih ((p.1, a) :: cs) (fun q hq => hn q (List.mem_cons_of_mem _ hq)) fun x b hx => by
          rw [List.lookup_cons] at hx
          split at hx
          · rename_i e; cases hx; have : x = p.1 := by simpa using e
            rw [this]; exact ha
          · exact hcs x b hx
        refine ⟨cl, ?_, h2, fun q hq hqf => ?_, fun x hx => h4 x ?_⟩
        · rw [if_pos hf]
          have e : cellOf env p.1 = pure a := by unfold cellOf; rw [ha]
          rw [e]
          exact h1
        · rcases List.mem_cons.mp hq with rfl | hq
          · exact h4 _ ⟨a, by rw [List.lookup_cons]; simp⟩
          · exact h3 q hq hqf
        · obtain ⟨b, hb⟩ := hx
          rw [List.lookup_cons]; split
          · exact ⟨a, rfl⟩
          · exact ⟨b, hb⟩
      · obtain ⟨cl, h1, h2, h3, h4⟩ := ih cs (fun q hq => hn q (List.mem_cons_of_mem _ hq)) hcs
        refine ⟨cl, ?_, h2, fun q hq hqf => ?_, h4⟩
        · rw [if_neg hf]; exact h1
        · rcases List.mem_cons.mp hq with rfl | hq
          · exact absurd (by simpa using hqf) hf
          · exact h3 q hq hqf
  obtain ⟨cl, h1, h2, h3, _⟩ := key scope.names [] (fun p hp hf => hc _ (h.free p hp hf).1) (fun x a q => by simp at q)
  refine ⟨cl, ?_, h2, fun x hx => ?_⟩
  · unfold closureFor
    show (do let r ← forIn scope.names [] _; pure r) = _
    have e : (forIn scope.names ([] : List (Str × Addr)) fun (x : Str × NameKind) (r : List (Str × Addr)) => if (x.2 == NameKind.free) = true then (do let a ← cellOf env x.1; pure (ForInStep.yield ((x.1, a) :: r))) else pure (ForInStep.yield r) : Sem (List (Str × Addr))) = pure cl := h1
    rw [show (forIn scope.names ([] : List (Str × Addr)) _ : Sem (List (Str × Addr))) = pure cl from e]
    rfl
  · obtain ⟨a, ha⟩ := h3 (x, .free) (lookup_mem hx) rfl
    rw [ha, h2 x a ha]

theorem VR.comp {c : Cx} {scope : Scope} {xs : List Str} (ok : CompOk c scope xs) (C : CxOk c) {env : Env} {ρ : Vars} (H : HR prog w base l fx ad st s) (Vr : VR prog w c env fx ad ρ s.heap) (g : Grow l s s') {new : List Addr} {Cc : Addr} {cl : List (Str × Addr)}
    (hnew : ∀ b ∈ new, s.heap.get? b = none) (hC : Cc ∈ new) (hCs : Cc ≠ sysModules) {m : Str → Option Value} (hn : s'.heap.Ns Cc m) (h1 : ∀ x a, cl.lookup x = some a → env.cells.lookup x = some a)
    (h2 : ∀ x, scope.names.lookup x = some .free → cl.lookup x = env.cells.lookup x) :
    VR prog w (cxComp c scope xs) (compEnvC scope cl Cc env) (new ++ fx) ad (ρ ++ List.replicate xs.length none) s'.heap where
  loc := ⟨List.mem_append_left _ hC, hCs⟩
  ns := ⟨m, hn, fun x k d hx hk hd => by
    exfalso
    have hx' : (relabel c.sc scope.names).lookup x = some .local := hx
    rw [relabel_lookup] at hx'
    rcases ok.γ_cases hk with ⟨g1, g2⟩ | ⟨g1, g2, _⟩
    · rw [List.getElem?_append_right (by rw [Vr.len]; exact g1)] at hd
      rw [List.getElem?_replicate] at hd
      split at hd <;> simp at hd
    · rw [g2] at hx'
      simp only at hx'
      split at hx' <;> cases hx'⟩
  cell := fun x hx => by
    have hx' : (relabel c.sc scope.names).lookup x = some .cell := hx
    rw [relabel_lookup] at hx'
    have hfree : scope.names.lookup x = some .free ∧ c.sc.lookup x = some .cell := by
      cases hl : scope.names.lookup x with
      | none => rw [hl] at hx'; cases hx'
      | some k =>
        rw [hl] at hx'
        cases k <;> simp only at hx' <;> first
          | (cases hx'; done)
          | (cases hx'; exact absurd rfl (ok.nocell _ (lookup_mem hl)))
          | (refine ⟨rfl, ?_⟩; split at hx'; (rename_i q; simpa using q); cases hx')
    obtain ⟨a, v, g1, g2, g3, g4, g5⟩ := Vr.cell x hfree.2
    refine ⟨a, v, (h2 x hfree.1).trans g1, ⟨List.mem_append_right _ g2.1, g2.2⟩, fun q => ?_, cell_keep g.keep g4, fun k d hk hd => ?_⟩
    · obtain ⟨o, ho, _⟩ := g4
      have : s.heap.get? Cc = none := hnew _ hC
      have q' : a = Cc := q
      rw [q', this] at ho; cases ho
    · rcases ok.γ_cases hk with ⟨e1, e2⟩ | ⟨e1, e2, _⟩
      · have := ok.loc x (List.mem_of_getElem? e2)
        rw [this] at hfree; cases hfree.1
      · have hlt := C.lt _ _ e1
        rw [List.getElem?_append_left (by rw [Vr.len]; exact hlt)] at hd
        obtain ⟨u, hu, hr⟩ := g5 k d e1 hd
        exact ⟨u, hu, Rep.enter H g hnew hr⟩
  apart := fun x y a hx hy => Vr.apart x y a (h1 x a hx) (h1 y a hy)
  len := by rw [List.length_append, List.length_replicate, Vr.len]; rfl

theorem relabel_eq {c : Cx} {rank : Nat} {env : Env} (K : EnvOk rank c A env l) (scope : Scope) : (PySem.relabel scope env).names = relabel c.sc scope.names := by
  unfold PySem.relabel relabel
  simp only
  congr 1
  funext p
  obtain ⟨n, k⟩ := p
  have : env.kindOf n = c.sc.lookup n := by unfold Env.kindOf; rw [K.names]
  simp only [this, K.kind]
  simp
theorem EnvOk.comp {c : Cx} {rank : Nat} {env : Env} (K : EnvOk rank c A env l) {scope : Scope} {xs : List Str} (ok : CompOk c scope xs) (cl : List (Str × Addr)) (Cc : Addr) :
    EnvOk rank (cxComp c scope xs) A (compEnvC scope cl Cc env) l :=
  { K with kind := ok.kind, names := relabel_eq K scope }
end
end Mine

end
section
set_option autoImplicit false
namespace Mine
open PySem PyProof.Rows

theorem setVars_range : ∀ (ds : List V) (ρ : Vars), setVars (List.range' ρ.length ds.length) ds (ρ ++ List.replicate ds.length none) = ρ ++ ds.map some
  | [], ρ => by simp [setVars]
  | d :: ds, ρ => by
    rw [List.length_cons, List.range'_succ, setVars]
    have e : (ρ ++ List.replicate (ds.length + 1) none).set ρ.length (some d) = (ρ ++ [some d]) ++ List.replicate ds.length none := by
      rw [List.replicate_succ, List.set_append_right _ _ (Nat.le_refl _)]
      simp
    rw [e]
    have := setVars_range ds (ρ ++ [some d])
    rw [List.length_append] at this
    simp only [List.length_singleton] at this
    rw [this]; simp

noncomputable def turnF (F : Phi) (st : Store) (ρ : Vars) (k : Option Nat) (elt : CE) (cond : Option CE) (x : V) : R (Option V) := match bindNew k x with
  | .error e => .error e
  | .ok new => match evalC F st cond (ρ ++ new) with
    | .error e => .error e
    | .ok false => .ok .none
    | .ok true => match evalE F st elt (ρ ++ new) with
      | .error e => .error e
      | .ok y => .ok (some y)

section
variable {prog : Program} {w : World} {A : Around} {base : Heap} {l : List Env} {fx ad : List Addr} {st : Store} {s s' : Shared} {E : Value → Shared → Prop} {rank : Nat} {F : Phi}

theorem comp_bind {c : Cx} {env : Env} {ρ : Vars} {t : Expr} {k : Option Nat} {xs : List Str} (ht : tgtNames t = some (k, xs)) (C : CxOk c) (K : EnvOk rank c A env l) (H : HR prog w base l fx ad st s)
    (Vr : VR prog w c env fx ad (ρ ++ List.replicate xs.length none) s.heap) (hs : slotsOf c xs = some (List.range' ρ.length xs.length)) (hl : ∀ x ∈ xs, c.sc.lookup x = some .local)
    {x : V} {v : Value} {new : Vars} (r : Rep prog w (ad ++ fx) ad s.heap x v) (hb : bindNew k x = .ok new) {Q : Unit → Shared → Prop}
    (hQ : ∀ s', Puts (· = env.locals) s s' → HR prog w base l fx ad st s' → VR prog w c env fx ad (ρ ++ new) s'.heap → Q () s') : wpAny (model prog w) A (assign t env v) Q E s := by
  have hW : ∀ x ∈ xs, (c.sc.lookup x = some .local → (fun b => b = env.locals) env.locals) ∧ (c.sc.lookup x = some .cell → ∀ a, env.cells.lookup x = some a → (fun b => b = env.locals) a) :=
    fun x hx => ⟨fun _ => rfl, fun q => by rw [hl x hx] at q; cases q⟩
  cases t with
  | Name y p =>
    cases ht
    cases hb
    have h1 : slot c y = some ρ.length := by
      rw [slotsOf] at hs
      split at hs
      · rename_i k ks hk hks; simp at hs; rw [hk, hs.1]
      · cases hs
    unfold slot at h1
    split at h1
    · rename_i hk
      refine wpAny_assign_Name (store_var C K H Vr hk h1 r fun a h' tk hloc ha ha' hsb htk H' Vr' => ?_)
      have e := hloc.1 (hl y (List.mem_singleton.mpr rfl))
      refine hQ _ ⟨rfl, rfl, htk, fun b o hb' q => (hsb.2 b fun z => hb' (z.trans e)).trans q⟩ H' ?_
      · have e2 : (ρ ++ [none]).set ρ.length (some x) = ρ ++ [some x] := by rw [List.set_append_right _ _ (Nat.le_refl _)]; simp
        have Vr2 : VR prog w c env fx ad ((ρ ++ [none]).set ρ.length (some x)) h' := Vr'
        rw [e2] at Vr2; exact Vr2
    · cases h1
  | Tuple es kk p =>
    rw [tgtNames] at ht
    split at ht
    · rename_i ys hys
      cases ht
      unfold bindNew at hb
      cases x with
      | tup ds =>
        simp only at hb
        split at hb
        · rename_i hlen
          cases hb
          rw [Rep] at r
          obtain ⟨a, vs, rfl, hX, htup, hbig, hr⟩ := r
          obtain ⟨ps, hps, hae⟩ := namesOf_assign hys env
          have hvl := Reps.length prog w hr
          refine wpAny_assign_Tuple K.handled htup (by rw [hae]; simp [hps, hvl, hlen]) (by rw [hae]; simp) fun h' he => ?_
          have hk : ∀ b o, s.heap.get? b = some o → h'.get? b = some o := fun b o e => he b o (Nat.ne_of_lt (Heap.lt_size e)) e
          have g : Grow l s { s with heap := h' } := Grow.heap (tk := s.toks) hk (Nat.le_refl _)
          rw [hae]
          refine store_vars (W := fun b => b = env.locals) C K xs ps _ ds vs.toArray.toList _ _ hps hlen hs hW (H.grow g) (Vr.grow H g) (Reps.grow prog w H g hr) fun s' hp H' Vr' => ?_
          refine hQ s' ⟨hp.gens, hp.os, hp.toks, fun b o hb q => hp.keep b o hb (hk b o q)⟩ H' ?_
          have := setVars_range ds ρ
          rw [hlen] at this
          rwa [this] at Vr'
        · cases hb
      | _ => cases hb
    · cases ht
  | _ => cases ht

theorem Grow.of_puts {W : Addr → Prop} {s₀ : Shared} (g : Grow l s₀ s) (p : Puts W s s') (hW : ∀ b, W b → s₀.heap.get? b = none) (hf : ∀ b, W b → b ∉ fsOf l) : Grow l s₀ s' where
  gens := p.gens.trans g.gens
  os := p.os.trans g.os
  toks := Nat.le_trans g.toks p.toks
  keep := ⟨fun b o e hb => p.keep b o (fun q => by rw [hW b q] at e; cases e) (g.keep.exact b o e hb), fun b o e hb => by
    obtain ⟨sl, e1⟩ := g.keep.slots b o e hb
    exact ⟨sl, p.keep b _ (fun q => hf b q hb) e1⟩⟩

structure LoopSt (prog : Program) (w : World) (l : List Env) (fx ad : List Addr) (s₁ : Shared) (I D Cc : Addr) (St : Nat → Heap → Prop) (i : Nat) (acc : List V) (s' : Shared) : Prop where
  g : Grow l s₁ s'
  st : St i s'.heap
  acc : ∃ vs : List Value, s'.heap.PlainList D vs.toArray ∧ Reps prog w (ad ++ ([Cc, D, I] ++ fx)) ad s'.heap acc vs
  ns : ∃ m, s'.heap.Ns Cc m

theorem LoopSt.grow {s₁ : Shared} {I D Cc : Addr} {St : Nat → Heap → Prop} {i : Nat} {acc : List V} (H₁ : HR prog w base l fx ad st s₁) (L : LoopSt prog w l fx ad s₁ I D Cc St i acc s) (g : Grow l s s') (hnew : ∀ b ∈ [Cc, D, I], s₁.heap.get? b = none)
    (hfr : ∀ h h', St i h → (∀ b o, b ∉ fsOf l → h.get? b = some o → h'.get? b = some o) → St i h') : LoopSt prog w l fx ad s₁ I D Cc St i acc s' where
  g := L.g.trans g
  st := hfr _ _ L.st fun b o hb e => g.keep.exact b o e hb
  acc := by
    obtain ⟨vs, h1, h2⟩ := L.acc
    have hD : D ∉ fsOf l := fun q => by
      obtain ⟨_, o, e, _⟩ := H₁.frames.mem q
      rw [hnew D (by simp)] at e; cases e
    exact ⟨vs, h1.at fun o e => g.keep.exact _ o e hD, Reps.up prog w (fun b o hb e => g.keep.exact b o e fun q => hb (List.mem_append_right _ (List.mem_append_right _ (H₁.fsX b q)))) (fun _ _ q _ => q) (fun _ _ q => q) h2⟩
  ns := let ⟨m, h⟩ := L.ns; ⟨m, ns_keep g.keep h⟩

section loop
variable {c : Cx} {scope : Scope} {xs : List Str} {env : Env} {ρ : Vars} {cl : List (Str × Addr)} {s₁ : Shared} {t elt : Expr} {k : Option Nat} {ce : CE} {cond : Option CE} {ys : List V} {v : V} {I D Cc : Addr} {fp : List Addr} {P : Nat → Value → Prop} {St : Nat → Heap → Prop}

structure LoopFix (prog : Program) (w : World) (A : Around) (base : Heap) (l : List Env) (fx ad : List Addr) (st : Store) (rank : Nat) (F : Phi) (c : Cx) (scope : Scope) (xs : List Str) (env : Env) (ρ : Vars) (cl : List (Str × Addr)) (s₁ : Shared)
    (t elt : Expr) (k : Option Nat) (ce : CE) (ys : List V) (v : V) (I D Cc : Addr) (fp : List Addr) (P : Nat → Value → Prop) (St : Nat → Heap → Prop) : Prop where
  ok : CompOk c scope xs
  C : CxOk c
  K : EnvOk rank c A env l
  H : HR prog w base l fx ad st s₁
  Vr : VR prog w c env fx ad ρ s₁.heap
  h1 : ∀ x a, cl.lookup x = some a → env.cells.lookup x = some a
  h2 : ∀ x, scope.names.lookup x = some .free → cl.lookup x = env.cells.lookup x
  ht : tgtNames t = some (k, xs)
  it : IterOk prog w (ad ++ fx) ad ys s₁.heap v I fp P St
  new : ∀ b ∈ [Cc, D, I], s₁.heap.get? b = none
  sys : Cc ≠ sysModules
  CD : Cc ≠ D
  CI : Cc ≠ I
  DI : D ≠ I
  elt : SndE prog w base rank F (cxComp c scope xs) elt ce

theorem LoopFix.fs (X : LoopFix prog w A base l fx ad st rank F c scope xs env ρ cl s₁ t elt k ce ys v I D Cc fp P St) : ∀ b ∈ [Cc, D, I], b ∉ fsOf l := fun b hb q => by
  obtain ⟨_, o, e, _⟩ := X.H.frames.mem q
  rw [X.new b hb] at e; cases e
theorem LoopFix.frame (X : LoopFix prog w A base l fx ad st rank F c scope xs env ρ cl s₁ t elt k ce ys v I D Cc fp P St) {i : Nat} (h h' : Heap) (hst : St i h) (hk : ∀ b ∈ fp, ∀ o, h.get? b = some o → h'.get? b = some o) : St i h' :=
  (X.it.walk A X.K.handled).frame i h h' hst hk
theorem LoopFix.foot (X : LoopFix prog w A base l fx ad st rank F c scope xs env ρ cl s₁ t elt k ce ys v I D Cc fp P St) {b : Addr} (hb : b ∈ fp) : b ∉ fsOf l ∧ b ≠ Cc ∧ b ≠ D := by
  rcases X.it.foot b hb with rfl | ⟨⟨o, ho⟩, hX⟩
  · exact ⟨X.fs _ (by simp), Ne.symm X.CI, Ne.symm X.DI⟩
  · refine ⟨fun q => ?_, fun q => ?_, fun q => ?_⟩
    · obtain ⟨j, rfl, hj⟩ := hX (List.mem_append_right _ (X.H.fsX b q))
      exact X.H.apart b (List.mem_of_getElem? hj) (X.H.fsX b q)
    · rw [q, X.new Cc (by simp)] at ho; cases ho
    · rw [q, X.new D (by simp)] at ho; cases ho

theorem comp_push (X : LoopFix prog w A base l fx ad st rank F c scope xs env ρ cl s₁ t elt k ce ys v I D Cc fp P St) {i : Nat} {acc : List V} {y : V} {b : Value} {s₄ : Shared} (L4 : LoopSt prog w l fx ad s₁ I D Cc St i acc s₄)
    (r : Rep prog w (ad ++ ([Cc, D, I] ++ fx)) ad s₄.heap y b) (hacc : acc.length ≤ i) (hi : i ≤ ys.length) {Q : Value → Shared → Prop}
    (hK : ∀ q s₅, LoopSt prog w l fx ad s₁ I D Cc St i (acc ++ [y]) s₅ → Q q s₅) : wpAny (model prog w) A (call (.builtin "list.append") [.ref D, b]) Q E s₄ := by
  obtain ⟨vs, h1, h2⟩ := L4.acc
  have hvl := Reps.length prog w h2
  have hbig := X.it.big
  refine wpT (wpAny_list_append_plain h1 (fun h' hp hs ht => ?_) (by rw [List.size_toArray, sizeLine_big]; omega))
  have hDX : D ∈ ad ++ ([Cc, D, I] ++ fx) := List.mem_append_right _ (List.mem_append_left _ (by simp))
  have up : ∀ b o, b ∉ ad ++ ([Cc, D, I] ++ fx) → s₄.heap.get? b = some o → h'.get? b = some o := fun b o hb e => (hs.2 b fun q => hb (q ▸ hDX)).trans e
  refine hK _ _ ⟨?_, ?_, ⟨vs ++ [b], ?_, ?_⟩, ?_⟩
  · refine Grow.of_puts (W := (· = D)) L4.g ⟨rfl, rfl, Nat.le_refl _, fun b o hb e => (hs.2 b hb).trans e⟩ (fun b q => q ▸ X.new D (by simp)) fun b q => q ▸ X.fs D (by simp)
  · exact X.frame _ _ L4.st fun b hb o e => (hs.2 b (X.foot hb).2.2).trans e
  · simpa using hp
  · exact Reps.append (Reps.up prog w up (fun _ _ q _ => q) (fun _ _ q => q) h2) (by rw [Reps]; exact ⟨b, [], rfl, Rep.up prog w up (fun _ _ q _ => q) (fun _ _ q => q) r, by rw [Reps]⟩)
  · obtain ⟨m, hm⟩ := L4.ns
    exact ⟨m, hm.sameBut hs X.CD⟩

theorem comp_elt (X : LoopFix prog w A base l fx ad st rank F c scope xs env ρ cl s₁ t elt k ce ys v I D Cc fp P St) {i : Nat} {acc : List V} {new : Vars} {y : V} (L : LoopSt prog w l fx ad s₁ I D Cc St i acc s)
    (Vr' : VR prog w (cxComp c scope xs) (compEnvC scope cl Cc env) ([Cc, D, I] ++ fx) ad (ρ ++ new) s.heap) (he : evalE F st ce (ρ ++ new) = .ok y) (hacc : acc.length ≤ i) (hi : i ≤ ys.length) {Kk : Unit → Shared → Prop} (u : Unit)
    (hK : ∀ s₅, LoopSt prog w l fx ad s₁ I D Cc St i (acc ++ [y]) s₅ → Kk u s₅) :
    wpAny (model prog w) A (eval elt (compEnvC scope cl Cc env)) (fun x s₄ => wpAny (model prog w) A (call (.builtin "list.append") [.ref D, x]) (fun _ s₅ => Kk u s₅) E s₄) E s := by
  have hth : ∀ b ∈ [Cc, D, I], ∃ o, s.heap.get? b = some o := by
    intro b hb
    simp only [List.mem_cons, List.not_mem_nil, or_false] at hb
    rcases hb with rfl | rfl | rfl
    · obtain ⟨m, o, _, _, ho, _⟩ := L.ns; exact ⟨o, ho⟩
    · obtain ⟨vs, ⟨n, ho⟩, _⟩ := L.acc; exact ⟨_, ho⟩
    · obtain ⟨o, n, ho, _⟩ := X.it.obj _ _ L.st; exact ⟨o, ho⟩
  have H' := X.H.enter L.g [Cc, D, I] X.new hth
  refine X.elt A _ l ([Cc, D, I] ++ fx) ad (ρ ++ new) st s _ E (X.K.comp X.ok cl Cc) H' Vr' ⟨fun a b s₄ e g r => ?_, (fun k e s₂ s' h => by rw [he] at h; cases h), (fun h => by rw [he] at h; cases h)⟩
  rw [he] at e; cases e
  have L4 := L.grow X.H g X.new fun h h' hst hk => X.frame h h' hst fun b hb o e => hk b o (X.foot hb).1 e
  exact comp_push X L4 r hacc hi fun _ s₅ => hK s₅

theorem comp_item (X : LoopFix prog w A base l fx ad st rank F c scope xs env ρ cl s₁ t elt k ce ys v I D Cc fp P St) {i : Nat} {acc : List V} {new : Vars} {x : V} (L : LoopSt prog w l fx ad s₁ I D Cc St i acc s)
    (hx : ys[i]? = some x) (hb : bindNew k x = .ok new) {Kk : Shared → Prop} {R : Option Value → Shared → Prop}
    (hK : ∀ s₂, LoopSt prog w l fx ad s₁ I D Cc St (i + 1) acc s₂ → VR prog w (cxComp c scope xs) (compEnvC scope cl Cc env) ([Cc, D, I] ++ fx) ad (ρ ++ new) s₂.heap → Kk s₂)
    (hR : ∀ v s', (wpAny (model prog w) A (letOwnedTupleGo t (.ref I) v) (fun _ s₀ => wpAny (model prog w) A (assign t (compEnvC scope cl Cc env) v) (fun _ s₂ => Kk s₂) E s₀) E s') → R (some v) s') :
    wpAny (model prog w) A (pyNext (.ref I)) R E s := by
  have hi := (List.getElem?_eq_some_iff.mp hx).1
  refine wpT ((X.it.walk A X.K.handled).item i s _ _ hi L.st fun val h' tk hP hst hk htk => hR val _ ?_)
  obtain ⟨o, n, ho, hc, hn⟩ := X.it.obj _ _ hst
  refine go_none ho hc hn ?_
  have g1 : Grow l s₁ { s with heap := h', toks := tk } := Grow.of_puts (W := (· = I)) L.g ⟨rfl, rfl, htk, fun b o hb e => hk b o (by simpa using hb) e⟩ (fun b q => q ▸ X.new I (by simp)) fun b q => q ▸ X.fs I (by simp)
  obtain ⟨m, hm⟩ := L.ns
  obtain ⟨vs, hpl, hacc⟩ := L.acc
  have hm' : h'.Ns Cc m := hm.at' fun o e => hk Cc o (by simpa using X.CI) e
  have hpl' : h'.PlainList D vs.toArray := hpl.at fun o e => hk D o (by simpa using X.DI) e
  have hth : ∀ b ∈ [Cc, D, I], ∃ o, h'.get? b = some o := by
    intro b hb
    simp only [List.mem_cons, List.not_mem_nil, or_false] at hb
    rcases hb with rfl | rfl | rfl
    · obtain ⟨o, _, _, ho, _⟩ := hm'; exact ⟨o, ho⟩
    · obtain ⟨n, ho⟩ := hpl'; exact ⟨_, ho⟩
    · exact ⟨o, ho⟩
  have H' := X.H.enter g1 [Cc, D, I] X.new hth
  have Vr' := VR.comp (s' := { s with heap := h', toks := tk }) X.ok X.C X.H X.Vr g1 (new := [Cc, D, I]) (Cc := Cc) (cl := cl) X.new (by simp) X.sys hm' X.h1 X.h2
  have r := Rep.enter (s' := { s with heap := h', toks := tk }) X.H g1 X.new (X.it.item i x val hP hx)
  refine comp_bind X.ht (X.ok.cx X.C) (X.K.comp X.ok cl Cc) H' Vr' (by rw [X.Vr.len]; exact X.ok.slots) (fun x hx => X.ok.sc_local hx) r hb fun s₂ hp H₂ Vr₂ => hK s₂ ?_ Vr₂
  have hIX : I ∈ ad ++ ([Cc, D, I] ++ fx) := List.mem_append_right _ (List.mem_append_left _ (by simp))
  have hCX : Cc ∈ ad ++ ([Cc, D, I] ++ fx) := List.mem_append_right _ (List.mem_append_left _ (by simp))
  refine ⟨Grow.of_puts (W := (· = Cc)) g1 hp (fun b q => q ▸ X.new Cc (by simp)) fun b q => q ▸ X.fs Cc (by simp), ?_, ⟨vs, ?_, ?_⟩, ?_⟩
  · exact X.frame _ _ hst fun b hb o e => hp.keep b o (X.foot hb).2.1 e
  · exact hpl'.at fun o e => hp.keep D o (Ne.symm X.CD) e
  · refine Reps.up prog w (fun b o hb e => hp.keep b o (fun q => hb (q ▸ hCX)) (hk b o (fun q => hb ?_) e)) (fun _ _ q _ => q) (fun _ _ q => q) hacc
    have : b = I := by simpa using q
    exact this ▸ hIX
  · obtain ⟨m, h, _⟩ := Vr₂.ns
    exact ⟨m, h⟩

noncomputable def LoopInv (prog : Program) (w : World) (l : List Env) (fx ad : List Addr) (st : Store) (F : Phi) (ρ : Vars) (s₁ : Shared) (k : Option Nat) (ce : CE) (cond : Option CE) (ys : List V) (I D Cc : Addr) (St : Nat → Heap → Prop) (zs : List V) (n : Nat) (s' : Shared) : Prop :=
  ∃ i acc rest, n = ys.length - i ∧ i ≤ ys.length ∧ acc.length ≤ i ∧ LoopSt prog w l fx ad s₁ I D Cc St i acc s' ∧ compLoop (turnF F st ρ k ce cond) (ys.drop i) = .ok rest ∧ zs = acc ++ rest

theorem drop_cons {α : Type} {ys : List α} {i : Nat} {x : α} (h : ys[i]? = some x) : ys.drop i = x :: ys.drop (i + 1) := by
  obtain ⟨h1, rfl⟩ := List.getElem?_eq_some_iff.mp h
  exact List.drop_eq_getElem_cons h1

theorem compLoop_cons {f : V → R (Option V)} {x : V} {xs rest : List V} (h : compLoop f (x :: xs) = .ok rest) : ∃ o r, f x = .ok o ∧ compLoop f xs = .ok r ∧ rest = o.toList ++ r := by
  rw [compLoop] at h
  split at h
  · cases h
  · rename_i o ho
    split at h
    · cases h
    · rename_i r hr
      cases h
      refine ⟨o, r, ho, hr, ?_⟩
      cases o <;> rfl

theorem comp_done (X : LoopFix prog w A base l fx ad st rank F c scope xs env ρ cl s₁ t elt k ce ys v I D Cc fp P St) {acc : List V} (L : LoopSt prog w l fx ad s₁ I D Cc St ys.length acc s) {Q : Option Value → Shared → Prop}
    (hQ : ∀ s', LoopSt prog w l fx ad s₁ I D Cc (fun _ _ => True) 0 acc s' → Q none s') : wpAny (model prog w) A (pyNext (.ref I)) Q E s := by
  refine wpT ((X.it.walk A X.K.handled).done s _ _ L.st fun h' tk hk htk => hQ _ ?_)
  obtain ⟨m, hm⟩ := L.ns
  obtain ⟨vs, hpl, hacc⟩ := L.acc
  have hIX : I ∈ ad ++ ([Cc, D, I] ++ fx) := List.mem_append_right _ (List.mem_append_left _ (by simp))
  obtain ⟨o, n, ho, _⟩ := X.it.obj _ _ L.st
  refine ⟨?_, trivial, ⟨vs, hpl.at fun o e => hk D o (by simpa using X.DI) e, ?_⟩, ⟨m, hm.at' fun o e => hk Cc o (by simpa using X.CI) e⟩⟩
  · have hne : ∀ b o, s₁.heap.get? b = some o → b ∉ [I] := by
      intro b o e q
      have : b = I := by simpa using q
      rw [this, X.new I (by simp)] at e
      cases e
    exact ⟨L.g.gens, L.g.os, Nat.le_trans L.g.toks htk, ⟨fun b o e hb => hk b o (hne b o e) (L.g.keep.exact b o e hb),
      fun b o e hb => let ⟨sl, e'⟩ := L.g.keep.slots b o e hb; ⟨sl, hk b _ (hne b o e) e'⟩⟩⟩
  · refine Reps.up prog w (fun b o hb e => hk b o (fun q => hb ?_) e) (fun _ _ q _ => q) (fun _ _ q => q) hacc
    have : b = I := by simpa using q
    exact this ▸ hIX

theorem comp_loop (X : LoopFix prog w A base l fx ad st rank F c scope xs env ρ cl s₁ t elt k ce ys v I D Cc fp P St) {ifs : List Expr} (hc : (ifs = [] ∧ cond = none) ∨ ∃ e ct, ifs = [e] ∧ cond = some ct ∧ SndT prog w base rank F (cxComp c scope xs) e ct)
    {zs : List V} {iter : Expr} {pos : Pos} {R : Result → Shared → Prop} (hR : ∀ s', LoopSt prog w l fx ad s₁ I D Cc (fun _ _ => True) 0 zs s' → R (.ok .next) s') {n : Nat} (h : LoopInv prog w l fx ad st F ρ s₁ k ce cond ys I D Cc St zs n s) :
    codeAny (model prog w) A (.compLoop (.ListComp elt [⟨t, iter, ifs, 0⟩] scope pos) 0 (.ref I) (.ref D) (compEnvC scope cl Cc env)) R s := by
  have hth : ∀ {i : Nat} {acc : List V} {s : Shared}, LoopSt prog w l fx ad s₁ I D Cc St i acc s → ∀ b ∈ [Cc, D, I], ∃ o, s.heap.get? b = some o := by
    intro i acc s L b hb
    simp only [List.mem_cons, List.not_mem_nil, or_false] at hb
    rcases hb with rfl | rfl | rfl
    · obtain ⟨m, o, _, _, ho, _⟩ := L.ns; exact ⟨o, ho⟩
    · obtain ⟨vs, ⟨n, ho⟩, _⟩ := L.acc; exact ⟨_, ho⟩
    · obtain ⟨o, n, ho, _⟩ := X.it.obj _ _ L.st; exact ⟨o, ho⟩
  have fin : ∀ (i : Nat) (acc rest : List V) (s : Shared) (E' : Value → Shared → Prop) (Q : Option Value → Shared → Prop), ¬ i < ys.length → i ≤ ys.length → LoopSt prog w l fx ad s₁ I D Cc St i acc s →
      compLoop (turnF F st ρ k ce cond) (ys.drop i) = .ok rest → zs = acc ++ rest → (∀ s', R (.ok .next) s' → Q none s') → wpAny (model prog w) A (pyNext (.ref I)) Q E' s := by
    intro i acc rest s E' Q h1 h2 L hr hz hQ
    have e : i = ys.length := by omega
    subst e
    rw [List.drop_length] at hr
    cases hr
    rw [List.append_nil] at hz
    subst hz
    exact comp_done X L fun s' L' => hQ s' (hR s' L')
  rcases hc with ⟨rfl, rfl⟩ | ⟨e, ct, rfl, rfl, hct⟩
  · refine PySem.W.kcp_loop (LoopInv prog w l fx ad st F ρ s₁ k ce none ys I D Cc St zs) ?_ n h
    rintro n s ⟨i, acc, rest, rfl, hi, hacc, L, hr, hz⟩
    by_cases hlt : i < ys.length
    · obtain ⟨x, hx⟩ : ∃ x, ys[i]? = some x := ⟨ys[i], by simp [hlt]⟩
      rw [drop_cons hx] at hr
      obtain ⟨o, r, ho, hr', rfl⟩ := compLoop_cons hr
      unfold turnF at ho
      split at ho
      · cases ho
      rename_i new hb
      simp only [evalC_q1, evalC_q2] at ho
      split at ho
      · cases ho
      rename_i y hy
      cases ho
      refine comp_item X L hx hb (Kk := fun s₂ => wpAny (model prog w) A (eval elt (compEnvC scope cl Cc env)) (fun x s₄ => wpAny (model prog w) A (call (.builtin "list.append") [.ref D, x]) (fun _ s₅ => ∃ m, m < ys.length - i ∧ LoopInv prog w l fx ad st F ρ s₁ k ce none ys I D Cc St zs m s₅) _ s₄) _ s₂) (fun s₂ L₂ Vr₂ => ?_) fun v s' h => h
      refine comp_elt X (Kk := fun _ s₅ => ∃ m, m < ys.length - i ∧ LoopInv prog w l fx ad st F ρ s₁ k ce none ys I D Cc St zs m s₅) L₂ Vr₂ hy (by omega) hlt () fun s₅ L₅ => ?_
      exact ⟨ys.length - (i + 1), by omega, i + 1, acc ++ [y], r, rfl, hlt, by simp; omega, L₅, hr', by rw [hz]; simp⟩
    · exact fin i acc rest s _ _ hlt hi L hr hz fun s' h => h
  · refine PySem.W.kct_loop (LoopInv prog w l fx ad st F ρ s₁ k ce (some ct) ys I D Cc St zs) ?_ n h
    rintro n s ⟨i, acc, rest, rfl, hi, hacc, L, hr, hz⟩
    by_cases hlt : i < ys.length
    · obtain ⟨x, hx⟩ : ∃ x, ys[i]? = some x := ⟨ys[i], by simp [hlt]⟩
      rw [drop_cons hx] at hr
      obtain ⟨o, r, ho, hr', rfl⟩ := compLoop_cons hr
      unfold turnF at ho
      split at ho
      · cases ho
      rename_i new hb
      simp only [evalC_q1, evalC_q2] at ho
      refine comp_item X L hx hb (Kk := fun s₂ => wpAny (model prog w) A (isTrue e (compEnvC scope cl Cc env) (eval e (compEnvC scope cl Cc env))) (fun ok s₃ => if ok = true then wpAny (model prog w) A (eval elt (compEnvC scope cl Cc env)) (fun x s₄ => wpAny (model prog w) A (call (.builtin "list.append") [.ref D, x]) (fun _ s₅ => ∃ m, m < ys.length - i ∧ LoopInv prog w l fx ad st F ρ s₁ k ce (some ct) ys I D Cc St zs m s₅) _ s₄) _ s₃
        else ∃ m, m < ys.length - i ∧ LoopInv prog w l fx ad st F ρ s₁ k ce (some ct) ys I D Cc St zs m s₃) _ s₂) (fun s₂ L₂ Vr₂ => ?_) fun v s' h => h
      have H₂ := X.H.enter L₂.g [Cc, D, I] X.new (hth L₂)
      have K' := X.K.comp X.ok cl Cc
      refine hct A _ l ([Cc, D, I] ++ fx) ad (ρ ++ new) st s₂ _ _ K' H₂ Vr₂ ⟨fun a b s₃ ea g rb => ?_, (fun k e s₂ s' h => by rw [h] at ho; cases ho), (fun h => by rw [h] at ho; cases ho)⟩
      cases rb
      have L₃ := L₂.grow X.H g X.new fun h h' hst hk => X.frame h h' hst fun b hb o e => hk b o (X.foot hb).1 e
      rw [ea] at ho
      cases a with
      | false =>
        cases ho
        exact ⟨ys.length - (i + 1), by omega, i + 1, acc, r, rfl, hlt, by omega, L₃, hr', by rw [hz]; rfl⟩
      | true =>
        simp only at ho
        split at ho
        · cases ho
        rename_i y hy
        cases ho
        refine comp_elt X (Kk := fun _ s₅ => ∃ m, m < ys.length - i ∧ LoopInv prog w l fx ad st F ρ s₁ k ce (some ct) ys I D Cc St zs m s₅) L₃ (Vr₂.grow H₂ g) hy (by omega) hlt () fun s₅ L₅ => ?_
        exact ⟨ys.length - (i + 1), by omega, i + 1, acc ++ [y], r, rfl, hlt, by simp; omega, L₅, hr', by rw [hz]; simp⟩
    · exact fin i acc rest s _ _ hlt hi L hr hz fun s' h => h
end loop
end
end Mine

end
section
set_option autoImplicit false
namespace Mine
open PySem PyProof.Rows

section
variable {prog : Program} {w : World} {A : Around} {base : Heap} {l : List Env} {fx ad : List Addr} {st : Store} {s s' : Shared} {E : Value → Shared → Prop} {rank : Nat} {F : Phi}

theorem compLoop_len {f : V → R (Option V)} : ∀ {xs ys : List V}, compLoop f xs = .ok ys → ys.length ≤ xs.length
  | [], _, h => by cases h; exact Nat.le_refl _
  | x :: xs, ys, h => by
    obtain ⟨o, r, _, hr, rfl⟩ := compLoop_cons h
    have := compLoop_len hr
    cases o <;> simp <;> omega

structure CompEndSt (prog : Program) (w : World) (l : List Env) (fx ad : List Addr) (s₁ : Shared) (zs : List V) (D Cc : Addr) (s' : Shared) : Prop where
  g : Grow l s₁ s'
  ns : ∃ m, s'.heap.Ns Cc m
  newC : s₁.heap.get? Cc = none
  newD : s₁.heap.get? D = none
  CD : Cc ≠ D
  sysC : Cc ≠ sysModules
  sysD : D ≠ sysModules
  list : ∃ vs : List Value, s'.heap.PlainList D vs.toArray ∧ Reps prog w (ad ++ ([Cc] ++ fx)) ad s'.heap zs vs

theorem comp_start0 {c : Cx} {scope : Scope} {xs : List Str} {env : Env} {ρ : Vars} {cl : List (Str × Addr)} {s₁ : Shared} {t elt elt0 iter : Expr} {k : Option Nat} {ce : CE} {ys : List V} {v : V} {val : Value} {ifs : List Expr} {pos : Pos}
    {R : Value → Addr → Result → Shared → Prop} (ok : CompOk c scope xs) (C : CxOk c) (K : EnvOk rank c A env l) (H : HR prog w base l fx ad st s₁) (Vr : VR prog w c env fx ad ρ s₁.heap)
    (h1 : ∀ x a, cl.lookup x = some a → env.cells.lookup x = some a) (h2 : ∀ x, scope.names.lookup x = some .free → cl.lookup x = env.cells.lookup x) (ht : tgtNames t = some (k, xs))
    (helt : SndE prog w base rank F (cxComp c scope xs) elt0 ce)
    (r : Rep prog w (ad ++ fx) ad s₁.heap v val) (hit : iterV st v = some ys)
    (loop : ∀ fp P St D Cc s', LoopFix prog w A base l fx ad st rank F c scope xs env ρ cl s₁ t elt0 k ce ys v s₁.heap.objs.size D Cc fp P St → D ≠ sysModules → LoopSt prog w l fx ad s₁ s₁.heap.objs.size D Cc St 0 [] s' →
      codeAny (model prog w) A (.compLoop (.ListComp elt [⟨t, iter, ifs, 0⟩] scope pos) 0 (.ref s₁.heap.objs.size) (.ref D) (compEnvC scope cl Cc env)) (R (.ref D) Cc) s') :
    wpAny (model prog w) A (pyIter val) (fun it s₂ => wpAny (model prog w) A (newList []) (fun acc s₃ =>
      wpAny (model prog w) A (newFunctionEnv scope env.globals cl [] env.qual none .none (some env)) (fun cenv s₄ =>
        codeAny (model prog w) A (.compStart (.ListComp elt [⟨t, iter, ifs, 0⟩] scope pos) 0 it acc { cenv with scope := PySem.relabel scope env }) (R acc cenv.locals) s₄) E s₃) E s₂) E s₁ := by
  refine iter_snd H r hit fun o fp P St IT hst => ?_
  refine wpAny_newObj_type (wpAny_newFunctionEnv ok.nocell (by intro y hy; simp at hy) (fun h₁ hns₁ hsb₁ => ?_) ok.kind)
  dsimp only at hns₁ hsb₁ ⊢
  generalize hH1 : s₁.heap.push o = H1 at hst hns₁ hsb₁ ⊢
  generalize hH2 : H1.push { cls := .type "list", dict := none, data := .seq ([] : List Value).toArray } = H2 at hns₁ hsb₁ ⊢
  have hD : H1.objs.size = s₁.heap.objs.size + 1 := by rw [← hH1, Heap.size_push]
  have hC : H2.objs.size = s₁.heap.objs.size + 2 := by rw [← hH2, Heap.size_push, hD]
  have k1 : ∀ b o', s₁.heap.get? b = some o' → H1.get? b = some o' := fun b o' e => hH1 ▸ Heap.get?_push_of_some _ e
  have k2 : ∀ b o', H1.get? b = some o' → H2.get? b = some o' := fun b o' e => hH2 ▸ Heap.get?_push_of_some _ e
  have k3 : ∀ b o', H2.get? b = some o' → h₁.get? b = some o' := fun b o' e => hsb₁.extBut b o' (Nat.ne_of_lt (Heap.lt_size e)) (Heap.get?_push_of_some _ e)
  have g : ∀ tk, s₁.toks ≤ tk → Grow l s₁ { s₁ with heap := h₁, toks := tk } := fun tk htk => Grow.heap (fun b o' e => k3 b o' (k2 b o' (k1 b o' e))) htk
  have fresh : ∀ b, s₁.heap.objs.size ≤ b → s₁.heap.get? b = none := fun b hb => by
    cases e : s₁.heap.get? b with
    | none => rfl
    | some o' => exact absurd (Heap.lt_size e) (Nat.not_lt.mpr hb)
  have hnew : ∀ b ∈ [H2.objs.size, H1.objs.size, s₁.heap.objs.size], s₁.heap.get? b = none := by
    intro b hb
    simp only [List.mem_cons, List.not_mem_nil, or_false] at hb
    rcases hb with rfl | rfl | rfl
    · exact fresh _ (by omega)
    · exact fresh _ (by omega)
    · exact fresh _ (Nat.le_refl _)
  have hbig : 3 < s₁.heap.objs.size := let ⟨o', e⟩ := H.main; Heap.lt_size e
  have hsys : H2.objs.size ≠ sysModules := by
    show ¬ H2.objs.size = 1
    omega
  have hsysD : H1.objs.size ≠ sysModules := by
    show ¬ H1.objs.size = 1
    omega
  have X : LoopFix prog w A base l fx ad st rank F c scope xs env ρ cl s₁ t elt0 k ce ys v s₁.heap.objs.size H1.objs.size H2.objs.size fp P St :=
    ⟨ok, C, K, H, Vr, h1, h2, ht, IT, hnew, hsys, (show ¬ H2.objs.size = H1.objs.size by omega), (show ¬ H2.objs.size = s₁.heap.objs.size by omega), (show ¬ H1.objs.size = s₁.heap.objs.size by omega), helt⟩
  have hst₁ : St 0 h₁ := X.frame _ _ hst fun b _ o' e => k3 b o' (k2 b o' e)
  have hpl : h₁.PlainList H1.objs.size ([] : List Value).toArray := ⟨_, k3 _ _ (hH2 ▸ Heap.get?_push_size _ rfl)⟩
  have loop := loop _ _ _ _ _ { s₁ with heap := h₁, toks := s₁.toks + ([] : List (Str × Value)).length } X hsysD ⟨g _ (Nat.le_add_right _ _), hst₁, ⟨[], hpl, by rw [Reps]⟩, ⟨_, hns₁⟩⟩
  exact codeAny_compStart_list loop ((IT.walk A K.handled).self 0 _ _ _ hst₁ loop)

theorem comp_end {c : Cx} {scope : Scope} {xs : List Str} {env : Env} {ρ : Vars} {cl : List (Str × Addr)} {s₁ : Shared} {t elt : Expr} {k : Option Nat} {ce : CE} {ys zs : List V} {v : V} {I D Cc : Addr} {fp : List Addr} {P : Nat → Value → Prop} {St : Nat → Heap → Prop}
    (X : LoopFix prog w A base l fx ad st rank F c scope xs env ρ cl s₁ t elt k ce ys v I D Cc fp P St) (hsysD : D ≠ sysModules) (L : LoopSt prog w l fx ad s₁ I D Cc (fun _ _ => True) 0 zs s) : CompEndSt prog w l fx ad s₁ zs D Cc s := by
  obtain ⟨vs, hp, hr⟩ := L.acc
  refine ⟨L.g, L.ns, X.new _ (by simp), X.new _ (by simp), X.CD, X.sys, hsysD, vs, hp, ?_⟩
  refine Reps.up prog w (fun b o hb e => e) (fun b o hb e => ?_) (fun _ _ q => q) hr
  simp only [List.mem_append, List.mem_cons, List.not_mem_nil, or_false] at hb ⊢
  rcases hb with q | q | q
  · exact .inl q
  · exact .inr (.inl (.inl q))
  · exact .inr (.inr q)

theorem comp_start {c : Cx} {scope : Scope} {xs : List Str} {env : Env} {ρ : Vars} {cl : List (Str × Addr)} {s₁ : Shared} {t elt iter : Expr} {k : Option Nat} {ce : CE} {cond : Option CE} {ys zs : List V} {v : V} {val : Value} {ifs : List Expr} {pos : Pos}
    {R : Value → Addr → Result → Shared → Prop} (ok : CompOk c scope xs) (C : CxOk c) (K : EnvOk rank c A env l) (H : HR prog w base l fx ad st s₁) (Vr : VR prog w c env fx ad ρ s₁.heap)
    (h1 : ∀ x a, cl.lookup x = some a → env.cells.lookup x = some a) (h2 : ∀ x, scope.names.lookup x = some .free → cl.lookup x = env.cells.lookup x) (ht : tgtNames t = some (k, xs))
    (helt : SndE prog w base rank F (cxComp c scope xs) elt ce) (hc : (ifs = [] ∧ cond = none) ∨ ∃ e ct, ifs = [e] ∧ cond = some ct ∧ SndT prog w base rank F (cxComp c scope xs) e ct)
    (r : Rep prog w (ad ++ fx) ad s₁.heap v val) (hit : iterV st v = some ys) (hz : compLoop (turnF F st ρ k ce cond) ys = .ok zs)
    (hR : ∀ D Cc s', CompEndSt prog w l fx ad s₁ zs D Cc s' → R (.ref D) Cc (.ok .next) s') :
    wpAny (model prog w) A (pyIter val) (fun it s₂ => wpAny (model prog w) A (newList []) (fun acc s₃ =>
      wpAny (model prog w) A (newFunctionEnv scope env.globals cl [] env.qual none .none (some env)) (fun cenv s₄ =>
        codeAny (model prog w) A (.compStart (.ListComp elt [⟨t, iter, ifs, 0⟩] scope pos) 0 it acc { cenv with scope := PySem.relabel scope env }) (R acc cenv.locals) s₄) E s₃) E s₂) E s₁ := by
  exact comp_start0 ok C K H Vr h1 h2 ht helt r hit fun fp P St D Cc s' X hsysD L =>
    comp_loop X hc (zs := zs) (n := ys.length) (fun s' L => hR _ _ s' (comp_end X hsysD L)) ⟨0, [], zs, rfl, Nat.zero_le _, Nat.le_refl _, L, by rw [List.drop_zero]; exact hz, rfl⟩

theorem CompEndSt.rep {s₁ : Shared} {zs : List V} {D Cc : Addr} (H : HR prog w base l fx ad st s₁) (S : CompEndSt prog w l fx ad s₁ zs D Cc s') (hl : zs.length ≤ Mine.big) : Rep prog w (ad ++ ([Cc] ++ fx)) ad s'.heap (.list zs) (.ref D) := by
  obtain ⟨vs, hp, hr⟩ := S.list
  rw [Rep]
  refine ⟨D, vs, rfl, fun q => ?_, hp.isList, hl, hr⟩
  have hd := S.newD
  rcases List.mem_append.mp q with q | q
  · rcases H.there D (List.mem_append_left _ q) with h | ⟨o, h⟩
    · exact H.apart D q (h ▸ H.one)
    · rw [hd] at h; cases h
  · rcases List.mem_append.mp q with q | q
    · exact S.CD (List.mem_singleton.mp q).symm
    · rcases H.there D (List.mem_append_right _ q) with h | ⟨o, h⟩
      · exact S.sysD h
      · rw [hd] at h; cases h

theorem snd_comp {c : Cx} {scope : Scope} {xs : List Str} {t elt iter : Expr} {k : Option Nat} {ce cit : CE} {cond : Option CE} {ifs : List Expr} {pos : Pos} (ok : CompOk c scope xs) (C : CxOk c) (ht : tgtNames t = some (k, xs))
    (hfs : ∀ env x, foldedSetIterable iter env x = pure x) (hiter : SndE prog w base rank F c iter cit)
    (helt : SndE prog w base rank F (cxComp c scope xs) elt ce) (hc : (ifs = [] ∧ cond = none) ∨ ∃ e ct, ifs = [e] ∧ cond = some ct ∧ SndT prog w base rank F (cxComp c scope xs) e ct) :
    SndE prog w base rank F c (.ListComp elt [⟨t, iter, ifs, 0⟩] scope pos) (.comp ce k cit cond) := fun A env l fx ad ρ st s Q E K H Vr P => by
  have P' : Post l s (RepX prog w fx ad) (match evalE F st cit ρ with
    | .error e => .error e
    | .ok s => match iterV st s with
      | .none => stuck
      | some xs => match compLoop (turnF F st ρ k ce cond) xs with
        | .error _ => stuck
        | .ok ys => if xs.length ≤ big then .ok (.list ys) else stuck) Q E := by (first | rw [evalE_q1] at P | rw [evalE_q2] at P | rw [evalE_q3] at P | rw [evalE_q4] at P | rw [evalE_q5] at P | rw [evalE_q6] at P | rw [evalE_q7] at P | rw [evalE_q8] at P | rw [evalE_q9] at P | rw [evalE_q10] at P | rw [evalE_q11] at P | rw [evalE_q12] at P | rw [evalE_q13] at P | rw [evalE_q14] at P | rw [evalE_q15] at P | rw [evalE_q16] at P | rw [evalE_q17] at P | rw [evalE_q18] at P | rw [evalE_q19] at P | rw [evalE_q20] at P); exact P
  obtain ⟨cl, hcl, h1, h2⟩ := closureFor_comp ok (env := env) fun x hx => let ⟨a, _, h, _⟩ := Vr.cell x hx; ⟨a, h⟩
  rw [eval_ListComp]
  refine wpAny_comprehension_free (use := none) rfl (hfs env) hcl ok.kind (fun p hp hl => (ok.local_ p hp hl).1) ?_
  refine seqK P' (evalE F st cit ρ) (fun e h => by rw [h]) (fun Q' => hiter A env l fx ad ρ st s Q' E K H Vr) fun v val s₁ e g r P₁ => ?_
  simp only [e] at P₁
  split at P₁
  · exact absurd rfl P₁.ns
  rename_i ys hys
  split at P₁
  · exact absurd rfl P₁.ns
  rename_i zs hzs
  split at P₁
  · rename_i hbig
    refine comp_start (R := fun acc C => compPost (model prog w) A E none Q acc C) ok C K (H.grow g) (Vr.grow H g) h1 h2 ht helt hc r hys hzs fun D Cc s' S => ?_
    obtain ⟨m, hm⟩ := S.ns
    refine ⟨m, hm, fun h' hs => P₁.ok _ _ _ rfl ?_ ?_⟩
    · refine Grow.of_puts (W := (· = Cc)) S.g ⟨rfl, rfl, Nat.le_refl _, fun b o hb e => (hs.2 b hb).trans e⟩ (fun b q => q ▸ S.newC) fun b q hb => ?_
      · subst q
        obtain ⟨_, o, e, _⟩ := (H.grow g).frames.mem hb
        rw [S.newC] at e; cases e
    · have := S.rep (H.grow g) (Nat.le_trans (compLoop_len hzs) hbig)
      refine Rep.up prog w (fun b o hb e => (hs.2 b fun q => hb (q ▸ List.mem_append_right _ (List.mem_append_left _ (by simp)))).trans e) (fun b o hb e => ?_) (fun _ _ q => q) this
      rcases List.mem_append.mp hb with q | q
      · exact List.mem_append_left _ q
      · exact List.mem_append_right _ (List.mem_append_right _ q)
  · exact absurd rfl P₁.ns
end
end Mine

end
section
set_option autoImplicit false
namespace Mine
open PySem PyProof.Rows
section
variable {prog : Program} {w : World} {base : Heap} {mg mb : Str → Option Value} {rank : Nat} {F : Phi} {c : Cx}
theorem okS_is {v : Str} {s : List Nat} (h : okS v s = true) : v.cps.toList = s ∧ okStr v = true := by
  simp only [okS, Bool.and_eq_true, beq_iff_eq] at h; exact h
theorem snd_s {x : Str} {s : List Nat} {k : Nat} {p : Pos} (h : okS x s = true) : SndE prog w base rank F c (.Constant (.str x) k p) (.str s) := by
  obtain ⟨rfl, h2⟩ := okS_is h
  unfold okStr at h2
  rw [Bool.and_eq_true, decide_eq_true_eq] at h2
  exact snd_str h2
theorem snd_v {x : Str} {p : Pos} {k : Nat} (h : okVar c x k = true) : SndE prog w base rank F c (.Name x p) (.var k) := by
  simp only [okVar, Bool.and_eq_true, Bool.or_eq_true, beq_iff_eq, Bool.not_eq_true'] at h
  exact snd_var h.1.1 h.1.2 h.2
theorem snt_v {x : Str} {p : Pos} {k : Nat} (h : okVar c x k = true) : SndT prog w base rank F c (.Name x p) (.var k) := by
  refine snt_plain (snd_v h) (fun _ _ => rfl) fun st ρ => .inr ?_
  ((first | rw [evalT_q1] | rw [evalT_q2] | rw [evalT_q3] | rw [evalT_q4] | rw [evalT_q5] | rw [evalT_q6] | rw [evalT_q7] | rw [evalT_q8] | rw [evalT_q9] | rw [evalT_q10] | rw [evalT_q11] | rw [evalT_q12] | rw [evalT_q13] | rw [evalT_q14] | rw [evalT_q15] | rw [evalT_q16] | rw [evalT_q17] | rw [evalT_q18] | rw [evalT_q19] | rw [evalT_q20]); (first | rw [evalE_q1] | rw [evalE_q2] | rw [evalE_q3] | rw [evalE_q4] | rw [evalE_q5] | rw [evalE_q6] | rw [evalE_q7] | rw [evalE_q8] | rw [evalE_q9] | rw [evalE_q10] | rw [evalE_q11] | rw [evalE_q12] | rw [evalE_q13] | rw [evalE_q14] | rw [evalE_q15] | rw [evalE_q16] | rw [evalE_q17] | rw [evalE_q18] | rw [evalE_q19] | rw [evalE_q20]))
  split <;> simp_all
  rfl
theorem snd_call' {x : Str} {i : Nat} {es : List Expr} {as : List CE} {p pos : Pos} (G : GOk base mg mb) (hF : FOk prog w base mg c.fns rank F) (hx : c.fns.lookup x = some i) (hk : c.sc.lookup x = some .globalImplicit)
    (has : SndL prog w base rank F c es as) : SndE prog w base rank F c (.Call (.Name x p) es [] pos) (.call i as) := snd_call G hF hx hk has.2 has.1
theorem snd_tupL {es : List Expr} {as : List CE} {k : Nat} {p : Pos} (hl : as.length ≤ 1000) (has : SndL prog w base rank F c es as) : SndE prog w base rank F c (.Tuple es k p) (.tup as) := snd_tup has.1 hl
theorem snd_listL {es : List Expr} {as : List CE} {p : Pos} (hl : as.length ≤ 1000) (has : SndL prog w base rank F c es as) : SndE prog w base rank F c (.List es p) (.list as) := snd_list has.1 hl
theorem snd_comp0 {scope : Scope} {xs : List Str} {t elt iter : Expr} {k : Option Nat} {ce cit : CE} {pos : Pos} (ok : okComp c scope xs = true) (C : CxOk c) (ht : tgtNames t = some (k, xs))
    (hfs : ∀ env x, foldedSetIterable iter env x = pure x) (hiter : SndE prog w base rank F c iter cit)
    (helt : CxOk (cxComp c scope xs) → SndE prog w base rank F (cxComp c scope xs) elt ce) : SndE prog w base rank F c (.ListComp elt [⟨t, iter, [], 0⟩] scope pos) (.comp ce k cit none) :=
  snd_comp (compOk ok) C ht hfs hiter (helt ((compOk ok).cx C)) (.inl ⟨rfl, rfl⟩)
end
end Mine

end
section
set_option autoImplicit false
namespace Mine
open PySem PyProof.Rows

noncomputable def Ext (ad ad' : List Addr) (s : Shared) : Prop := ∃ new, ad' = ad ++ new ∧ ∀ a ∈ new, s.heap.get? a = none
theorem Ext.refl (ad : List Addr) (s : Shared) : Ext ad ad s := ⟨[], (List.append_nil _).symm, fun _ h => absurd h List.not_mem_nil⟩
theorem Ext.trans {ad ad' ad'' : List Addr} {s s' : Shared} (x : Ext ad ad' s) (y : Ext ad' ad'' s') (h : ∀ b o, s.heap.get? b = some o → ∃ o', s'.heap.get? b = some o') : Ext ad ad'' s := by
  obtain ⟨n1, rfl, h1⟩ := x
  obtain ⟨n2, rfl, h2⟩ := y
  refine ⟨n1 ++ n2, List.append_assoc .., fun a ha => ?_⟩
  rcases List.mem_append.mp ha with q | q
  · exact h1 a q
  · cases e : s.heap.get? a with
    | none => rfl
    | some o => obtain ⟨o', e'⟩ := h a o e; rw [h2 a q] at e'; cases e'
theorem Ext.get {ad ad' : List Addr} {s : Shared} (x : Ext ad ad' s) {i : Nat} {a : Addr} (h : ad[i]? = some a) : ad'[i]? = some a := by
  obtain ⟨n1, rfl, _⟩ := x
  rw [List.getElem?_append_left (List.getElem?_eq_some_iff.mp h).1]; exact h
theorem Grow.there {l : List Env} {s s' : Shared} (g : Grow l s s') : ∀ b o, s.heap.get? b = some o → ∃ o', s'.heap.get? b = some o' := fun b o e => let ⟨_, e'⟩ := g.keep.some e; ⟨_, e'⟩

structure Go (l : List Env) (ow ad : List Addr) (lk : Nat → Bool) (s : Shared) (ad' : List Addr) (s' : Shared) : Prop where
  gens : s'.gens = s.gens
  os : s'.os = s.os
  toks : s.toks ≤ s'.toks
  ext : Ext ad ad' s
  there : ∀ b o, s.heap.get? b = some o → ∃ o', s'.heap.get? b = some o'
  exact : ∀ b o, s.heap.get? b = some o → b ∉ fsOf l → b ∉ ow → (∀ j : Nat, ad[j]? = some b → lk j = true) → s'.heap.get? b = some o
  slots : ∀ b o, s.heap.get? b = some o → b ∈ fsOf l → b ∉ ow → ∃ sl, s'.heap.get? b = some { o with slots := sl }

theorem Go.refl (l : List Env) (ow ad : List Addr) (lk : Nat → Bool) (s : Shared) : Go l ow ad lk s ad s :=
  ⟨rfl, rfl, Nat.le_refl _, .refl .., fun _ o e => ⟨o, e⟩, fun _ _ e _ _ _ => e, fun _ o e _ _ => ⟨o.slots, e⟩⟩
theorem Go.trans {l : List Env} {ow ad ad₁ ad₂ : List Addr} {lk : Nat → Bool} {s₁ s₂ s₃ : Shared} (x : Go l ow ad lk s₁ ad₁ s₂) (y : Go l ow ad₁ lk s₂ ad₂ s₃) : Go l ow ad lk s₁ ad₂ s₃ where
  gens := y.gens.trans x.gens
  os := y.os.trans x.os
  toks := Nat.le_trans x.toks y.toks
  ext := x.ext.trans y.ext x.there
  there := fun b o e => let ⟨_, e'⟩ := x.there b o e; y.there b _ e'
  exact := fun b o e h1 h2 h3 => by
    refine y.exact b o (x.exact b o e h1 h2 h3) h1 h2 fun j hj => ?_
    obtain ⟨new, rfl, hn⟩ := x.ext
    by_cases hlt : j < ad.length
    · rw [List.getElem?_append_left hlt] at hj; exact h3 j hj
    · rw [List.getElem?_append_right (by omega)] at hj
      rw [hn b (List.mem_of_getElem? hj)] at e; cases e
  slots := fun b o e h1 h2 => by
    obtain ⟨sl, e1⟩ := x.slots b o e h1 h2
    obtain ⟨sl', e2⟩ := y.slots b _ e1 h1 h2
    exact ⟨sl', e2⟩
theorem Go.of_grow {l : List Env} {ow ad ad' : List Addr} {lk : Nat → Bool} {s s' : Shared} (g : Grow l s s') (x : Ext ad ad' s) : Go l ow ad lk s ad' s' :=
  ⟨g.gens, g.os, g.toks, x, g.there, fun b o e h1 _ _ => g.keep.exact b o e h1, fun b o e h1 _ => g.keep.slots b o e h1⟩
theorem Go.lock {l : List Env} {ow ad ad' : List Addr} {lk lk' : Nat → Bool} {s s' : Shared} (x : Go l ow ad lk' s ad' s') (h : ∀ j, lk j = true → lk' j = true) : Go l ow ad lk s ad' s' :=
  { x with exact := fun b o e h1 h2 h3 => x.exact b o e h1 h2 fun j hj => h j (h3 j hj) }

structure Own (env : Env) (ow fx : List Addr) : Prop where
  sub : ∀ b ∈ ow, b ∈ fx ∧ b ≠ sysModules
  loc : env.locals ∈ ow
  cell : ∀ x a, env.cells.lookup x = some a → a ∈ ow

section
variable {prog : Program} {w : World} {base : Heap} {l : List Env} {fx ow ad ad' : List Addr} {st : Store} {s s' : Shared} {lk : Nat → Bool}

theorem Go.of_puts (x : Puts (· ∈ ow) s s') (H' : HR prog w base l fx ad st s') (hs : ∀ b ∈ ow, b ∈ fx ∧ b ≠ sysModules) : Go l ow ad lk s ad s' where
  gens := x.gens
  os := x.os
  toks := x.toks
  ext := .refl ..
  there := fun b o e => by
    by_cases q : b ∈ ow
    · rcases H'.there b (List.mem_append_right _ (hs b q).1) with h | h
      · exact absurd h (hs b q).2
      · exact h
    · exact ⟨o, x.keep b o q e⟩
  exact := fun b o e _ h2 _ => x.keep b o h2 e
  slots := fun b o e _ h2 => ⟨o.slots, x.keep b o h2 e⟩

theorem Rep.ext (H : HR prog w base l fx ad st s) (g : Grow l s s') (x : Ext ad ad' s) {v : V} {val : Value} (r : Rep prog w (ad ++ fx) ad s.heap v val) : Rep prog w (ad' ++ fx) ad' s'.heap v val := by
  refine Rep.up prog w (fun b o hb e => g.keep.exact b o e fun q => hb (List.mem_append_right _ (H.fsX b q))) (fun b o hb e => ?_) (fun i a h => x.get h) r
  obtain ⟨new, rfl, hn⟩ := x
  rcases List.mem_append.mp hb with h | h
  · rcases List.mem_append.mp h with h | h
    · exact List.mem_append_left _ h
    · rw [hn b h] at e; cases e
  · exact List.mem_append_right _ h
theorem Reps.ext (H : HR prog w base l fx ad st s) (g : Grow l s s') (x : Ext ad ad' s) {v : List V} {val : List Value} (r : Reps prog w (ad ++ fx) ad s.heap v val) : Reps prog w (ad' ++ fx) ad' s'.heap v val := by
  refine Reps.up prog w (fun b o hb e => g.keep.exact b o e fun q => hb (List.mem_append_right _ (H.fsX b q))) (fun b o hb e => ?_) (fun i a h => x.get h) r
  obtain ⟨new, rfl, hn⟩ := x
  rcases List.mem_append.mp hb with h | h
  · rcases List.mem_append.mp h with h | h
    · exact List.mem_append_left _ h
    · rw [hn b h] at e; cases e
  · exact List.mem_append_right _ h
theorem VR.ext {c : Cx} {env : Env} {ρ : Vars} (H : HR prog w base l fx ad st s) (Vr : VR prog w c env fx ad ρ s.heap) (g : Grow l s s') (x : Ext ad ad' s) : VR prog w c env fx ad' ρ s'.heap where
  loc := Vr.loc
  ns := let ⟨m, h1, h2⟩ := Vr.ns; ⟨m, ns_keep g.keep h1, fun y k d a b e => let ⟨v, hv, hr⟩ := h2 y k d a b e; ⟨v, hv, Rep.ext H g x hr⟩⟩
  cell := fun y hy => let ⟨a, v, h1, h2, h3, h4, h5⟩ := Vr.cell y hy
    ⟨a, v, h1, h2, h3, cell_keep g.keep h4, fun k d a b => let ⟨u, hu, hr⟩ := h5 k d a b; ⟨u, hu, Rep.ext H g x hr⟩⟩
  apart := Vr.apart
  len := Vr.len

theorem HR.alloc (H : HR prog w base l fx ad st s) {ob : PySem.Obj} {o : Mine.Obj} (hob : ObjRep prog w ((ad ++ [s.heap.objs.size]) ++ fx) (ad ++ [s.heap.objs.size]) (s.heap.push ob) o s.heap.objs.size) :
    HR prog w base l fx (ad ++ [s.heap.objs.size]) (st ++ [o]) { s with heap := s.heap.push ob } := by
  have g : Grow l s { s with heap := s.heap.push ob } := Grow.heap (tk := s.toks) (get_push _ _) (Nat.le_refl _)
  have Hg := H.grow g
  have hnone : s.heap.get? s.heap.objs.size = none := Heap.get?_none_of_le (Nat.le_refl _)
  have x : Ext ad (ad ++ [s.heap.objs.size]) s := ⟨_, rfl, fun a ha => by rw [List.mem_singleton.mp ha]; exact hnone⟩
  have hth : ∃ o, (s.heap.push ob).get? s.heap.objs.size = some o := by
    cases o with
    | list xs => obtain ⟨vs, ⟨n, h⟩, _⟩ := hob; exact ⟨_, h⟩
    | dict es => obtain ⟨kvs, ⟨o, _, _, h, _⟩, _⟩ := hob; exact ⟨_, h⟩
    | iter k p =>
      cases p with
      | some i => obtain ⟨la, _, ⟨o, h, _⟩⟩ := hob; exact ⟨_, h⟩
      | none => obtain ⟨o, v, h, _⟩ := hob; exact ⟨_, h⟩
  have hnx : s.heap.objs.size ∉ fx := fun q => notin_fresh H (List.mem_append_right _ q)
  refine { Hg with
    there := fun b hb => ?_
    apart := fun a ha => ?_
    nodup := ?_
    len := by simp [H.len]
    store := fun i a o' ha ho => ?_
    off := fun b hb => ?_ }
  · rcases List.mem_append.mp hb with h | h
    · rcases List.mem_append.mp h with h | h
      · exact Hg.there b (List.mem_append_left _ h)
      · rw [List.mem_singleton.mp h]; exact .inr hth
    · exact Hg.there b (List.mem_append_right _ h)
  · rcases List.mem_append.mp ha with h | h
    · exact H.apart a h
    · rw [List.mem_singleton.mp h]; exact hnx
  · rw [List.nodup_append]
    refine ⟨H.nodup, by simp, fun a ha b hb q => ?_⟩
    rw [List.mem_singleton.mp hb] at q
    exact notin_fresh H (List.mem_append_left _ (q ▸ ha))
  · by_cases hlt : i < ad.length
    · rw [List.getElem?_append_left hlt] at ha
      rw [List.getElem?_append_left (by rw [← H.len]; exact hlt)] at ho
      refine (H.store i a o' ha ho).up prog w (fun b o hb e => g.keep.exact b o e fun q => hb (List.mem_append_right _ (H.fsX b q))) (fun b o hb e => ?_) (fun i a h => x.get h)
        fun o e => get_push _ _ _ _ e
      rcases List.mem_append.mp hb with h | h
      · rcases List.mem_append.mp h with h | h
        · exact List.mem_append_left _ h
        · rw [List.mem_singleton.mp h, hnone] at e; cases e
      · exact List.mem_append_right _ h
    · have hi : i = ad.length := by
        have := (List.getElem?_eq_some_iff.mp ha).1
        simp at this; omega
      subst hi
      rw [List.getElem?_append_right (Nat.le_refl _)] at ha
      rw [H.len, List.getElem?_append_right (Nat.le_refl _)] at ho
      simp at ha ho
      subst ha; subst ho
      exact hob
  · rcases List.mem_append.mp hb with h | h
    · rcases List.mem_append.mp h with h | h
      · exact H.off b (List.mem_append_left _ h)
      · rw [List.mem_singleton.mp h]; exact .inr H.stays.fresh
    · exact H.off b (List.mem_append_right _ h)
end

section
variable (prog : Program) (w : World) (base : Heap) (rank : Nat) (F : Phi)

structure PostA (l : List Env) (fx ad : List Addr) (s : Shared) (r : R (V × Store)) (Q : Value → Shared → Prop) (E : Value → Shared → Prop) : Prop where
  ok : ∀ v st' ad' s' val, r = .ok (v, st') → Grow l s s' → Ext ad ad' s → HR prog w base l fx ad' st' s' → Rep prog w (ad' ++ fx) ad' s'.heap v val → Q val s'
  exc : ∀ k e s₁ s', r = .error (.exc k) → Grow l s s₁ → Raised l (topL l) s₁ k e s' → E e s'
  ns : r ≠ .error .stuck
structure PostAs (l : List Env) (fx ad : List Addr) (s : Shared) (r : R (List V × Store)) (Q : List Value → Shared → Prop) (E : Value → Shared → Prop) : Prop where
  ok : ∀ v st' ad' s' val, r = .ok (v, st') → Grow l s s' → Ext ad ad' s → HR prog w base l fx ad' st' s' → Reps prog w (ad' ++ fx) ad' s'.heap v val → Q val s'
  exc : ∀ k e s₁ s', r = .error (.exc k) → Grow l s s₁ → Raised l (topL l) s₁ k e s' → E e s'
  ns : r ≠ .error .stuck

noncomputable def SndA (c : Cx) (e : Expr) (ae : AE) : Prop := ∀ (A : Around) (env : Env) (l : List Env) (fx ad : List Addr) (ρ : Vars) (st : Store) (s : Shared) (Q : Value → Shared → Prop) (E : Value → Shared → Prop),
  EnvOk rank c A env l → HR prog w base l fx ad st s → VR prog w c env fx ad ρ s.heap → PostA prog w base l fx ad s (evalA F ae ρ st) Q E → wpAny (model prog w) A (eval e env) Q E s
noncomputable def SndAs (c : Cx) (es : List Expr) (aes : List AE) : Prop := ∀ (A : Around) (env : Env) (l : List Env) (fx ad : List Addr) (ρ : Vars) (st : Store) (s : Shared) (pos : Pos) (Q : List Value → Shared → Prop) (E : Value → Shared → Prop),
  EnvOk rank c A env l → HR prog w base l fx ad st s → VR prog w c env fx ad ρ s.heap → PostAs prog w base l fx ad s (evalAs F aes ρ st) Q E → wpAny (model prog w) A (spliced (backTo pos (starEach es env))) Q E s
end

section
variable {prog : Program} {w : World} {base : Heap} {mg mb : Str → Option Value} {rank : Nat} {F : Phi} {c : Cx}

theorem snda_old {e : Expr} {ce : CE} (h : SndE prog w base rank F c e ce) : SndA prog w base rank F c e (.old ce) := fun A env l fx ad ρ st s Q E K H Vr P => by
  (first | rw [evalA_q1] at P | rw [evalA_q2] at P | rw [evalA_q3] at P | rw [evalA_q4] at P | rw [evalA_q5] at P)
  refine h A env l fx ad ρ st s Q E K H Vr ⟨fun a b s' e g r => ?_, fun k e s₁ s' h g x => ?_, fun h => ?_⟩
  · rw [e] at P; exact P.ok _ _ _ _ _ rfl g (.refl ..) (H.grow g) r
  · rw [h] at P; exact P.exc k e s₁ s' rfl g x
  · rw [h] at P; exact P.ns rfl
theorem sndas_nil : SndAs prog w base rank F c [] [] := fun A env l fx ad ρ st s pos Q E K H Vr P => by
  (first | rw [evalAs_q1] at P | rw [evalAs_q2] at P)
  exact args_nil (P.ok _ _ _ _ _ rfl (.refl ..) (.refl ..) H (by rw [Reps]))
theorem sndas_cons {e : Expr} {es : List Expr} {a : AE} {as : List AE} (hn : NotStar e) (ha : SndA prog w base rank F c e a) (has : SndAs prog w base rank F c es as) : SndAs prog w base rank F c (e :: es) (a :: as) :=
    fun A env l fx ad ρ st s pos Q E K H Vr P => by
  (first | rw [evalAs_q1] at P | rw [evalAs_q2] at P)
  refine args_cons (ha A env l fx ad ρ st s _ E K H Vr ⟨fun v st' ad' s₁ val e g x H₁ r => ?_, fun k e s₁ s' h g x => ?_, fun h => ?_⟩) (hn _ _)
  · simp only [e] at P
    refine has A env l fx ad' ρ st' s₁ pos _ E K H₁ (Vr.ext H g x) ⟨fun vs st'' ad'' s₂ vals e g₂ x₂ H₂ rs => ?_, fun k e s₁ s' h g₂ x => ?_, fun h => ?_⟩
    · rw [e] at P
      refine P.ok _ _ _ _ _ rfl (g.trans g₂) (x.trans x₂ g.there) H₂ ?_
      rw [Reps]
      exact ⟨val, vals, rfl, Rep.ext H₁ g₂ x₂ r, rs⟩
    · rw [h] at P; exact P.exc k e s₁ s' rfl (g.trans g₂) x
    · rw [h] at P; exact P.ns rfl
  · rw [h] at P; exact P.exc k e s₁ s' rfl g x
  · rw [h] at P; exact P.ns rfl
theorem evalAs_len {ρ : Vars} : ∀ (as : List AE) st x st', evalAs F as ρ st = .ok (x, st') → x.length = as.length := by
  intro as
  induction as with
  | nil => intro st x st' h; (first | rw [evalAs_q1] at h | rw [evalAs_q2] at h); cases h; rfl
  | cons a as ih =>
    intro st x st' h
    (first | rw [evalAs_q1] at h | rw [evalAs_q2] at h)
    split at h
    · cases h
    · split at h
      · cases h
      · rename_i h2; cases h; simp [ih _ _ _ h2]
theorem snda_newl {es : List Expr} {as : List AE} {p : Pos} (hl : as.length ≤ 1000) (has : SndAs prog w base rank F c es as) : SndA prog w base rank F c (.List es p) (.newl as) := fun A env l fx ad ρ st s Q E K H Vr P => by
  (first | rw [evalA_q1] at P | rw [evalA_q2] at P | rw [evalA_q3] at P | rw [evalA_q4] at P | rw [evalA_q5] at P)
  refine wpAny_List (has A env l fx ad ρ st s p _ E K H Vr ⟨fun vs st' ad' s₁ vals e g x H₁ rs => ?_, fun k e s₁ s' h g x => ?_, fun h => ?_⟩)
  · have hlen : vs.length ≤ 1000 := by rw [evalAs_len _ _ _ _ e]; exact hl
    rw [e] at P
    have hvl := Reps.length prog w rs
    refine ⟨by rw [hvl, sizeLine_big]; simp only [big]; omega, ?_⟩
    have hnone : s₁.heap.get? s₁.heap.objs.size = none := Heap.get?_none_of_le (Nat.le_refl _)
    have x2 : Ext ad' (ad' ++ [s₁.heap.objs.size]) s₁ := ⟨_, rfl, fun a ha => by rw [List.mem_singleton.mp ha]; exact hnone⟩
    have g2 : Grow l s₁ { s₁ with heap := s₁.heap.push { cls := .type "list", data := .seq vals.toArray } } := Grow.heap (tk := s₁.toks) (get_push _ _) (Nat.le_refl _)
    refine P.ok _ _ _ _ _ rfl (g.trans g2) (x.trans x2 g.there) (H₁.alloc (o := .list vs) ⟨vals, ⟨0, Heap.get?_push_size _ rfl⟩, by simp only [big]; omega, Reps.ext H₁ g2 x2 rs⟩) ?_
    rw [Rep]
    exact ⟨s₁.heap.objs.size, by rw [← H₁.len]; simp, rfl⟩
  · rw [h] at P; exact P.exc k e s₁ s' rfl g x
  · rw [h] at P; exact P.ns rfl
theorem boot_iter' : bootBuiltins (cst "iter") = some (.builtin "iter") := (by boot_by_name : bootBuiltins (Str.ofString "iter") = some (.builtin "iter"))
theorem snda_iter {e : Expr} {p pos : Pos} {ce : CE} (G : GOk base mg mb) (hk : okBuiltin c (cst "iter") = true) (hn : NotStar e) (he : SndE prog w base rank F c e ce) :
    SndA prog w base rank F c (.Call (.Name (cst "iter") p) [e] [] pos) (.iter ce) := fun A env l fx ad ρ st s Q E K H Vr P => by
  rw [evalA_q6] at P
  have hns : ∀ e' ∈ [e], NotStar e' := fun e' he' => by rw [List.mem_singleton.mp he']; exact hn
  refine Call_ (load_builtin G K H (by simp [bnames]) (okBuiltin_kind hk) boot_iter' ?_)
  refine callWith_any (.inl ⟨_, rfl⟩) (plain_any hns env pos) ?_
  refine args_cons (he A env l fx ad ρ st s _ E K H Vr ⟨fun v val s₁ e g r => args_nil ?_, fun k e s₁ s' h g x => ?_, fun h => ?_⟩) (hn _ _)
  · rw [e] at P
    cases v with
    | loc k =>
      simp only at P
      cases hst : st[k]? with
      | none => rw [hst] at P; exact absurd rfl P.ns
      | some ob =>
        rw [hst] at P
        cases ob with
        | list xs =>
          have H₁ := H.grow g
          have r' : Rep prog w (ad ++ fx) ad s₁.heap (.loc k) val := r
          rw [Rep] at r'
          obtain ⟨a, ha, rfl⟩ := r'
          obtain ⟨vs, hp, _, _⟩ := H₁.store k a _ ha hst
          refine call_iter_list hp.isList ?_
          have hnone : s₁.heap.get? s₁.heap.objs.size = none := Heap.get?_none_of_le (Nat.le_refl _)
          have x2 : Ext ad (ad ++ [s₁.heap.objs.size]) s₁ := ⟨_, rfl, fun a ha => by rw [List.mem_singleton.mp ha]; exact hnone⟩
          have g2 : Grow l s₁ { s₁ with heap := s₁.heap.push { cls := .type "list_iterator", data := .fields #[.ref a, .int 0 0] } } := Grow.heap (tk := s₁.toks) (get_push _ _) (Nat.le_refl _)
          refine P.ok _ _ _ _ _ rfl (g.trans g2) ((Ext.refl ad s).trans x2 g.there) (H₁.alloc (o := .iter k (some 0)) ⟨a, x2.get ha, ⟨_, Heap.get?_push_size _ rfl, rfl, rfl⟩⟩) ?_
          rw [Rep]
          exact ⟨s₁.heap.objs.size, by rw [← H₁.len]; simp, rfl⟩
        | _ => exact absurd rfl P.ns
    | _ => exact absurd rfl P.ns
  · rw [h] at P; exact absurd rfl P.ns
  · rw [h] at P; exact absurd rfl P.ns
end
end Mine

end
section
set_option autoImplicit false
namespace Mine
open PySem PyProof.Rows

section
variable {prog : Program} {w : World} {base : Heap} {mg mb : Str → Option Value} {rank : Nat} {F : Phi} {c : Cx}

end

structure Way (l : List Env) (s₁ : Shared) (k : K) (e : Value) (s' : Shared) (Z : Heap → Addr → Prop) : Prop where
  gens : s'.gens = s₁.gens
  os : s'.os = s₁.os
  toks : s₁.toks ≤ s'.toks
  slots : s₁.heap.UpToSlots s'.heap
  at_ : ∃ a B, e = .ref a ∧ (∀ b o, s₁.heap.get? b = some o → b ∉ fsOf l → B.get? b = some o) ∧ Z B a

section
variable {prog : Program} {w : World} {A : Around} {base : Heap} {l outer : List Env} {fx ad : List Addr} {st : Store} {s s₁ s' : Shared} {E : Value → Shared → Prop} {env : Env} {k : K} {e : Value} {L : Addr}

noncomputable abbrev FlyZ (l : List Env) (k : K) (s' : Shared) : Heap → Addr → Prop := fun B a => ∃ a0, Heap.FlyingW B l a k.cls a0 s'.heap
noncomputable abbrev HeldZ (l : List Env) (k : K) (L : Addr) (s' : Shared) : Heap → Addr → Prop := fun B a => ∃ a0, Heap.HeldW B l a k.cls a0 L s'.heap

theorem Way.grow {Z : Heap → Addr → Prop} (H : HR prog w base l fx ad st s₁) (x : Way l s₁ k e s' Z) (hZ : ∀ B a, Z B a → B.StaysIn s'.heap) : Grow l s₁ s' := by
  obtain ⟨a, B, _, hB, hz⟩ := x.at_
  refine ⟨x.gens, x.os, x.toks, ⟨fun b o e hb => hZ B a hz b o (hB b o e hb), fun b o e hb => ?_⟩⟩
  obtain ⟨_, o', e', hd⟩ := H.frames.mem hb
  rw [e] at e'; cases e'
  exact x.slots b o e hd
theorem Way.raised_held (x : Way l s₁ k e s' (HeldZ l k L s')) : Raised l L s₁ k e s' := by
  obtain ⟨a, B, h1, hB, a0, f1, f2, f3, f4⟩ := x.at_
  exact ⟨x.gens, x.os, x.toks, ⟨a, B, h1, hB, f1, f2, f3, .held a0 f4⟩, x.slots⟩
theorem note_raised {M : Model} (hfr : A.frames = some (env :: outer)) (hf : env.frame = some L) (x : Raised (env :: outer) L s₁ k e s) {Q : Unit → Shared → Prop}
    (hQ : ∀ s', Way (env :: outer) s₁ k e s' (HeldZ (env :: outer) k L s') → Q () s') : wpAny M A (noteFrame e env) Q E s := by
  obtain ⟨a, B, rfl, hB, f1, f2, f3, xs⟩ := x.at_
  have fin : ∀ h' a0, Heap.HeldW B (env :: outer) a k.cls a0 L h' → s.heap.UpToSlots h' → Q () { s with heap := h' } := fun h' a0 hh hu =>
    hQ _ ⟨x.gens, x.os, x.toks, x.slots.trans hu, a, B, rfl, hB, a0, hh⟩
  cases xs with
  | fresh oe vs a0 he hc hd h1 h0 =>
    unfold noteFrame
    simp only [hf]
    refine wpAny_bind (wpAny_field he hd h1 ?_)
    rw [if_neg (by decide)]
    refine wpAny_entryW hfr f3 hf he f1 f2 hd (Array.getElem?_eq_some_iff.mp h1).1 h0 fun h' hN => ?_
    obtain ⟨k1, k2, k3, k4⟩ := hN
    rw [hc] at k3
    exact fin h' a0 ⟨k1, f2, k2, k3⟩ k4
  | fly a0 ht => exact wpAny_looks_onW hfr hf ⟨f1, f2, f3, ht⟩ fun h' hh hu => fin h' a0 hh hu
  | held a0 ht => exact wpAny_noteFrame_againW hf ht (fin s.heap a0 ⟨f1, f2, f3, ht⟩ (.refl _))

theorem land_held {M : Model} (x : Way l s₁ k e s (HeldZ l k L s)) {Q : Unit → Shared → Prop} (hQ : ∀ s', Way l s₁ k e s' (FlyZ l k s') → Q () s') : wpAny M A (setFlight e none) Q E s := by
  obtain ⟨a, B, rfl, hB, a0, hh⟩ := x.at_
  exact wpAny_landsW hh fun h' hf hu => hQ _ ⟨x.gens, x.os, x.toks, x.slots.trans hu, a, B, rfl, hB, a0, hf⟩
theorem land_again {M : Model} (x : Way l s₁ k e s (FlyZ l k s)) {Q : Unit → Shared → Prop} (hQ : ∀ s', Way l s₁ k e s' (FlyZ l k s') → Q () s') : wpAny M A (setFlight e none) Q E s := by
  obtain ⟨a, B, rfl, hB, a0, hh⟩ := x.at_
  exact lands_againW hh fun h' hf hu => hQ _ ⟨x.gens, x.os, x.toks, x.slots.trans hu, a, B, rfl, hB, a0, hf⟩

theorem came_back {M : Model} (hf : env.frame = some L) (x : Way l s₁ k e s (HeldZ l k L s)) (hE : ∀ s', Way l s₁ k e s' (HeldZ l k L s') → E e s') : cameBackBy M A env E e s := by
  obtain ⟨a, B, rfl, hB, a0, f1, f2, f3, oe, vs, T, oT, ts, he, hcls, hd, h1, hnT, hTe, hT, hdT, h3⟩ := x.at_
  have hsz3 : 3 < ts.size := (Array.getElem?_eq_some_iff.mp h3).1
  unfold cameBackBy
  refine wpAny_bind (wpAny_field he hd h1 ?_)
  rw [if_neg (by simp)]
  have other : ∀ b, b ≠ T → (s.heap.update T (Obj.mapFields (·.setIfInBounds 3 (env.frame.elim Value.none fun f => rawInt f)))).get? b = s.heap.get? b := fun b hb => Heap.get?_update_other _ _ (Ne.symm hb)
  have noRecord : ∀ b o, s.heap.get? b = some o → (∀ vs, o.data ≠ .fields vs) → b ≠ T := fun b o hb hnf q => by
    rw [q, hT] at hb; injection hb with hb; subst hb; exact hnf ts hdT
  unfold setFlight
  refine wpAny_bind (wpAny_field he hd h1 ?_)
  rw [if_pos (show (Value.ref T != Value.none) = true from by simp)]
  refine wpAny_setField hT hdT hsz3 (hE _ ⟨x.gens, x.os, x.toks, x.slots.trans fun b o hb hn => ⟨o.slots, (other b (noRecord b o hb hn)).trans hb⟩, a, B, rfl, hB, a0, ?_, f2, ?_, ?_⟩)
  · exact fun b o hbo => (other b fun q => by rw [q, hnT] at hbo; cases hbo).trans (f1 b o hbo)
  · exact f3.of_keeps fun b o hb hnf => ⟨o, (other b (noRecord b o hb hnf)).trans hb, rfl⟩
  · exact ⟨oe, vs, T, _, _, (other a (Ne.symm hTe)).trans he, hcls, hd, h1, hnT, hTe, Heap.get?_update_self _ hT (Obj.isFreed_of_fields (Obj.data_mapFields hdT _)), Obj.data_mapFields hdT _, by simp [hsz3, hf]⟩
theorem loop_raised {M : Model} (hfr : A.frames = some (env :: outer)) (hf : env.frame = some L) (x : Raised (env :: outer) L s₁ k e s) (hE : ∀ s', Raised (env :: outer) L s₁ k e s' → E e s') :
    notedBy M A env (fun e s' => cameBackBy M A env E e s') e s :=
  note_raised hfr hf x fun s' y => came_back hf y fun s'' z => hE s'' z.raised_held
end
end Mine

end
section
set_option autoImplicit false
namespace Mine
open PySem PyProof.Rows

section
variable (prog : Program) (w : World) (base : Heap) (rank : Nat) (F : Phi)

structure PostS (c : Cx) (env : Env) (l : List Env) (ow fx ad : List Addr) (lk : Nat → Bool) (s : Shared) (r : Out) (Q : Flow → Shared → Prop) (E : Value → Shared → Prop) : Prop where
  next : ∀ σ' ad' s', r = .next σ' → Go l ow ad lk s ad' s' → HR prog w base l fx ad' σ'.store s' → VR prog w c env fx ad' σ'.vars s'.heap → Q .next s'
  cont : ∀ σ' ad' s', r = .cont σ' → Go l ow ad lk s ad' s' → HR prog w base l fx ad' σ'.store s' → VR prog w c env fx ad' σ'.vars s'.heap → Q .cont s'
  ret : ∀ v σ' ad' s' val, r = .ret v σ' → Go l ow ad lk s ad' s' → HR prog w base l fx ad' σ'.store s' → Rep prog w (ad' ++ fx) ad' s'.heap v val → Q (.ret val) s'
  exc : ∀ k σ' ad' s₁ s' e, r = .exc k σ' → Go l ow ad lk s ad' s₁ → HR prog w base l fx ad' σ'.store s₁ → VR prog w c env fx ad' σ'.vars s₁.heap → Raised l (topL l) s₁ k e s' → E e s'
  ns : r ≠ .stuck

noncomputable def SndS (c : Cx) (stm : Stmt) (cs : CS) : Prop := ∀ (A : Around) (env : Env) (outer : List Env) (fx ow ad : List Addr) (lk : Nat → Bool) (σ : St) (s : Shared) (Q : Flow → Shared → Prop) (E : Value → Shared → Prop),
  EnvOk rank c A env (env :: outer) → Own env ow fx → HR prog w base (env :: outer) fx ad σ.store s → VR prog w c env fx ad σ.vars s.heap → PostS prog w base c env (env :: outer) ow fx ad lk s (exec F cs lk σ) Q E →
  wpAny (model prog w) A (PySem.exec stm env) Q E s
noncomputable def SndSs (c : Cx) (stms : List Stmt) (css : List CS) : Prop := ∀ (A : Around) (env : Env) (outer : List Env) (fx ow ad : List Addr) (lk : Nat → Bool) (σ : St) (s : Shared) (Q : Flow → Shared → Prop) (E : Value → Shared → Prop),
  EnvOk rank c A env (env :: outer) → Own env ow fx → HR prog w base (env :: outer) fx ad σ.store s → VR prog w c env fx ad σ.vars s.heap → PostS prog w base c env (env :: outer) ow fx ad lk s (execs F css lk σ) Q E →
  wpAny (model prog w) A (PySem.execs stms env) Q E s
end

section
variable {prog : Program} {w : World} {base : Heap} {rank : Nat} {F : Phi} {c : Cx} {env : Env} {l : List Env} {ow fx ad ad₁ : List Addr} {lk : Nat → Bool} {s s₁ s' : Shared} {r : Out} {Q : Flow → Shared → Prop} {E : Value → Shared → Prop} {st : Store}

theorem PostS.after (P : PostS prog w base c env l ow fx ad lk s r Q E) (g : Go l ow ad lk s ad₁ s₁) : PostS prog w base c env l ow fx ad₁ lk s₁ r Q E where
  next := fun σ' ad' s' e g' => P.next σ' ad' s' e (g.trans g')
  cont := fun σ' ad' s' e g' => P.cont σ' ad' s' e (g.trans g')
  ret := fun v σ' ad' s' val e g' => P.ret v σ' ad' s' val e (g.trans g')
  exc := fun k σ' ad' s₂ s' x e g' => P.exc k σ' ad' s₂ s' x e (g.trans g')
  ns := P.ns

theorem seqS {M : Model} {A : Around} {γ δ : Type} {t₁ : Sem δ} {P₁ : γ → δ → Heap → Prop} {Kk : δ → Shared → Prop} {σ : St} (P : PostS prog w base c env l ow fx ad lk s r Q E) (H : HR prog w base l fx ad σ.store s)
    (Vr : VR prog w c env fx ad σ.vars s.heap) (r₁ : R γ) (he : ∀ e, r₁ = .error e → r = Out.ofErr σ e) (h₁ : ∀ Q' : δ → Shared → Prop, Post l s P₁ r₁ Q' E → wpAny M A t₁ Q' E s)
    (h₂ : ∀ a b s₁, r₁ = .ok a → Grow l s s₁ → P₁ a b s₁.heap → PostS prog w base c env l ow fx ad lk s₁ r Q E → Kk b s₁) : wpAny M A t₁ Kk E s := by
  refine h₁ _ ⟨fun a b s₁ e g pb => h₂ a b s₁ e g pb (P.after (.of_grow g (.refl ..))), fun k e s₁ s' h g x => ?_, fun h => ?_⟩
  · exact P.exc k σ ad s₁ s' e (he _ h) (.of_grow g (.refl ..)) (H.grow g) (Vr.grow H g) x
  · exact P.ns (he _ h)
theorem seqA {M : Model} {A : Around} {t₁ : Sem Value} {Kk : Value → Shared → Prop} {σ : St} (P : PostS prog w base c env l ow fx ad lk s r Q E) (H : HR prog w base l fx ad σ.store s)
    (Vr : VR prog w c env fx ad σ.vars s.heap) (r₁ : R (V × Store)) (he : ∀ e, r₁ = .error e → r = Out.ofErr σ e) (h₁ : ∀ Q' : Value → Shared → Prop, PostA prog w base l fx ad s r₁ Q' E → wpAny M A t₁ Q' E s)
    (h₂ : ∀ v st' ad' b s₁, r₁ = .ok (v, st') → Grow l s s₁ → Ext ad ad' s → HR prog w base l fx ad' st' s₁ → VR prog w c env fx ad' σ.vars s₁.heap → Rep prog w (ad' ++ fx) ad' s₁.heap v b → PostS prog w base c env l ow fx ad' lk s₁ r Q E → Kk b s₁) : wpAny M A t₁ Kk E s := by
  refine h₁ _ ⟨fun v st' ad' s₁ b e g x H₁ rb => h₂ v st' ad' b s₁ e g x H₁ (Vr.ext H g x) rb (P.after (.of_grow g x)), fun k e s₁ s' h g x => ?_, fun h => ?_⟩
  · exact P.exc k σ ad s₁ s' e (he _ h) (.of_grow g (.refl ..)) (H.grow g) (Vr.grow H g) x
  · exact P.ns (he _ h)

theorem funFrames_but {base h h' : Heap} : ∀ {l : List Env}, (∀ b ∈ fsOf l, ∀ o, h.get? b = some o → h'.get? b = some o) → h.FunFrames base l → h'.FunFrames base l
  | [], _, _ => trivial
  | env :: rest, hk, hl => by
    obtain ⟨h1, ⟨L, o, hf, hn, hL, hd⟩, hr⟩ := hl
    refine ⟨h1, ⟨L, o, hf, hn, hk L ?_ o hL, hd⟩, funFrames_but (fun b hb => hk b ?_) hr⟩
    · unfold fsOf; rw [List.filterMap_cons, hf]; exact List.mem_cons_self ..
    · unfold fsOf at hb ⊢; rw [List.filterMap_cons, hf]; exact List.mem_cons_of_mem _ hb

theorem HR.leave {new : List Addr} (H : HR prog w base l (new ++ fx) ad st s) {h' : Heap} {tk : Nat} (hfs : ∀ b ∈ fsOf l, b ∈ fx) (hsys : sysModules ∈ fx) (hnx : ∀ b ∈ new, b ∉ fx) (hm : mainGlobals ∉ new) (hk : ∀ b o, b ∉ new → s.heap.get? b = some o → h'.get? b = some o)
    (ht : s.toks ≤ tk) : HR prog w base l fx ad st { s with heap := h', toks := tk } where
  stays := fun b o e => hk b o (fun q => by
    rcases H.off b (List.mem_append_right _ (List.mem_append_left _ q)) with h | h
    · exact hnx b q (h ▸ hsys)
    · rw [h] at e; cases e) (H.stays b o e)
  frames := funFrames_but (fun b hb o e => hk b o (fun q => hnx b q (hfs b hb)) e) H.frames
  fsX := hfs
  one := hsys
  main := let ⟨o, e⟩ := H.main; ⟨o, hk _ o hm e⟩
  there := fun b hb => by
    have hn : b ∉ new := fun q => by
      rcases List.mem_append.mp hb with h | h
      · exact H.apart b h (List.mem_append_left _ q)
      · exact hnx b q h
    rcases H.there b (by rcases List.mem_append.mp hb with h | h; exact List.mem_append_left _ h; exact List.mem_append_right _ (List.mem_append_right _ h)) with h | ⟨o, h⟩
    · exact .inl h
    · exact .inr ⟨o, hk b o hn h⟩
  apart := fun a ha q => H.apart a ha (List.mem_append_right _ q)
  nodup := H.nodup
  len := H.len
  store := fun i a o ha ho => (H.store i a o ha ho).up prog w (fun b o hb e => hk b o (fun q => hb (List.mem_append_right _ (List.mem_append_left _ q))) e)
    (fun b o hb e => by rcases List.mem_append.mp hb with h | h; exact List.mem_append_left _ h; exact List.mem_append_right _ (List.mem_append_right _ h)) (fun _ _ q => q)
    fun o e => hk a o (fun q => H.apart a (List.mem_of_getElem? ha) (List.mem_append_left _ q)) e
  toks := Nat.le_trans H.toks ht
  off := fun b hb => H.off b (by rcases List.mem_append.mp hb with h | h; exact List.mem_append_left _ h; exact List.mem_append_right _ (List.mem_append_right _ h))
theorem Rep.leave {new : List Addr} {h h' : Heap} (hk : ∀ b o, b ∉ new → h.get? b = some o → h'.get? b = some o) {v : V} {val : Value} (r : Rep prog w (ad ++ (new ++ fx)) ad h v val) : Rep prog w (ad ++ fx) ad h' v val :=
  Rep.up prog w (fun b o hb e => hk b o (fun q => hb (List.mem_append_right _ (List.mem_append_left _ q))) e)
    (fun b o hb e => by rcases List.mem_append.mp hb with h | h; exact List.mem_append_left _ h; exact List.mem_append_right _ (List.mem_append_right _ h)) (fun _ _ q => q) r
theorem VR.leave {new : List Addr} {ρ : Vars} {h h' : Heap} (O : Own env ow fx) (Vr : VR prog w c env (new ++ fx) ad ρ h) (hnx : ∀ b ∈ new, b ∉ fx) (hk : ∀ b o, b ∉ new → h.get? b = some o → h'.get? b = some o) : VR prog w c env fx ad ρ h' where
  loc := ⟨(O.sub _ O.loc).1, Vr.loc.2⟩
  ns := let ⟨m, h1, h2⟩ := Vr.ns; ⟨m, h1.at' fun o e => hk _ o (fun q => hnx _ q (O.sub _ O.loc).1) e, fun y k d a b e => let ⟨v, hv, hr⟩ := h2 y k d a b e; ⟨v, hv, hr.leave hk⟩⟩
  cell := fun y hy => by
    obtain ⟨a, v, h1, h2, h3, ⟨o, ho, hd⟩, h5⟩ := Vr.cell y hy
    have ha := (O.sub _ (O.cell y a h1)).1
    exact ⟨a, v, h1, ⟨ha, h2.2⟩, h3, ⟨o, hk a o (fun q => hnx a q ha) ho, hd⟩, fun k d a b => let ⟨u, hu, hr⟩ := h5 k d a b; ⟨u, hu, hr.leave hk⟩⟩
  apart := Vr.apart
  len := Vr.len
theorem VR.wide {new : List Addr} {ρ : Vars} (H : HR prog w base l fx ad st s) (Vr : VR prog w c env fx ad ρ s.heap) (g : Grow l s s') (hnew : ∀ b ∈ new, s.heap.get? b = none) : VR prog w c env (new ++ fx) ad ρ s'.heap where
  loc := ⟨List.mem_append_right _ Vr.loc.1, Vr.loc.2⟩
  ns := let ⟨m, h1, h2⟩ := Vr.ns; ⟨m, ns_keep g.keep h1, fun y k d a b e => let ⟨v, hv, hr⟩ := h2 y k d a b e; ⟨v, hv, Rep.enter H g hnew hr⟩⟩
  cell := fun y hy => let ⟨a, v, h1, h2, h3, h4, h5⟩ := Vr.cell y hy
    ⟨a, v, h1, ⟨List.mem_append_right _ h2.1, h2.2⟩, h3, cell_keep g.keep h4, fun k d a b => let ⟨u, hu, hr⟩ := h5 k d a b; ⟨u, hu, Rep.enter H g hnew hr⟩⟩
  apart := Vr.apart
  len := Vr.len
theorem Own.wide (O : Own env ow fx) (new : List Addr) : Own env ow (new ++ fx) := ⟨fun b hb => ⟨List.mem_append_right _ (O.sub b hb).1, (O.sub b hb).2⟩, O.loc, O.cell⟩

theorem HR.step {a : Addr} (H : HR prog w base l fx ad st s) (ha : a ∈ fx) (ha' : a ≠ sysModules) (haf : a ∉ fsOf l) {h' : Heap} {tk : Nat} (hk : ∀ b o, b ≠ a → s.heap.get? b = some o → h'.get? b = some o)
    (ho : ∃ o, h'.get? a = some o) (ht : s.toks ≤ tk) : HR prog w base l fx ad st { s with heap := h', toks := tk } where
  stays := fun b o e => hk b o (by
    rintro rfl
    rcases H.off b (List.mem_append_right _ ha) with h | h
    · exact ha' h
    · rw [h] at e; cases e) (H.stays b o e)
  frames := funFrames_but (fun b hb o e => hk b o (fun q => haf (q ▸ hb)) e) H.frames
  fsX := H.fsX
  one := H.one
  main := by
    obtain ⟨o, e⟩ := H.main
    by_cases q : mainGlobals = a
    · obtain ⟨o', h1⟩ := ho; exact ⟨o', by rw [q]; exact h1⟩
    · exact ⟨o, hk _ o q e⟩
  there := fun b hb => (H.there b hb).imp id fun ⟨o, e⟩ => by
    by_cases q : b = a
    · obtain ⟨o', h1⟩ := ho; exact ⟨o', by rw [q]; exact h1⟩
    · exact ⟨o, hk _ o q e⟩
  apart := H.apart
  nodup := H.nodup
  len := H.len
  store := fun i b o hb ho' => (H.store i b o hb ho').up prog w (fun c o hc e => hk c o (fun q => hc (q ▸ List.mem_append_right _ ha)) e) (fun _ _ q _ => q) (fun _ _ q => q)
    fun o e => hk b o (fun q => H.apart b (List.mem_of_getElem? hb) (q ▸ ha)) e
  toks := Nat.le_trans H.toks ht
  off := H.off
theorem VR.step {a : Addr} {ρ : Vars} (Vr : VR prog w c env fx ad ρ s.heap) (O : Own env ow fx) (ha : a ∈ fx) (hao : a ∉ ow) {h' : Heap} (hk : ∀ b o, b ≠ a → s.heap.get? b = some o → h'.get? b = some o) : VR prog w c env fx ad ρ h' := by
  have up : ∀ {v : V} {val : Value}, Rep prog w (ad ++ fx) ad s.heap v val → Rep prog w (ad ++ fx) ad h' v val := fun r =>
    Rep.up prog w (fun c o hc e => hk c o (fun q => hc (q ▸ List.mem_append_right _ ha)) e) (fun _ _ q _ => q) (fun _ _ q => q) r
  exact {
    loc := Vr.loc
    ns := let ⟨m, h1, h2⟩ := Vr.ns; ⟨m, h1.at' fun o e => hk _ o (fun q => hao (q ▸ O.loc)) e, fun y k d a b e => let ⟨v, hv, hr⟩ := h2 y k d a b e; ⟨v, hv, up hr⟩⟩
    cell := fun y hy => by
      obtain ⟨b, v, h1, h2, h3, ⟨o, ho, hd⟩, h5⟩ := Vr.cell y hy
      exact ⟨b, v, h1, h2, h3, ⟨o, hk b o (fun q => hao (q ▸ O.cell y b h1)) ho, hd⟩, fun k d a b => let ⟨u, hu, hr⟩ := h5 k d a b; ⟨u, hu, up hr⟩⟩
    apart := Vr.apart
    len := Vr.len }

theorem HR.set {j : Nat} {a : Addr} {o' : Mine.Obj} (H : HR prog w base l fx ad st s) (hj : ad[j]? = some a) {h' : Heap} {tk : Nat} (hs : ∀ b o, b ≠ a → s.heap.get? b = some o → h'.get? b = some o) (hob : ObjRep prog w (ad ++ fx) ad h' o' a) (ht : s.toks ≤ tk) :
    HR prog w base l fx ad (st.set j o') { s with heap := h', toks := tk } := by
  have hax : a ∈ ad := List.mem_of_getElem? hj
  have hafx : a ∉ fx := H.apart a hax
  have hth : ∃ o, h'.get? a = some o := by
    cases o' with
    | list xs => obtain ⟨vs, ⟨n, h⟩, _⟩ := hob; exact ⟨_, h⟩
    | dict es => obtain ⟨kvs, ⟨o, _, _, h, _⟩, _⟩ := hob; exact ⟨_, h⟩
    | iter k p =>
      cases p with
      | some i => obtain ⟨la, _, ⟨o, h, _⟩⟩ := hob; exact ⟨_, h⟩
      | none => obtain ⟨o, v, h, _⟩ := hob; exact ⟨_, h⟩
  exact {
    stays := fun b o e => hs b o (by
      rintro rfl
      rcases H.off b (List.mem_append_left _ hax) with h | h
      · exact hafx (h ▸ H.one)
      · rw [h] at e; cases e) (H.stays b o e)
    frames := funFrames_but (fun b hb o e => hs b o (fun q => hafx (q ▸ H.fsX b hb)) e) H.frames
    fsX := H.fsX
    one := H.one
    main := by
      obtain ⟨o, e⟩ := H.main
      by_cases q : mainGlobals = a
      · obtain ⟨o', h1⟩ := hth; exact ⟨o', by rw [q]; exact h1⟩
      · exact ⟨o, hs _ o q e⟩
    there := fun b hb => (H.there b hb).imp id fun ⟨o, e⟩ => by
      by_cases q : b = a
      · obtain ⟨o', h1⟩ := hth; exact ⟨o', by rw [q]; exact h1⟩
      · exact ⟨o, hs _ o q e⟩
    apart := H.apart
    nodup := H.nodup
    len := by rw [List.length_set]; exact H.len
    store := fun i b o hb ho => by
      by_cases q : i = j
      · subst q
        rw [hj] at hb; cases hb
        rw [List.getElem?_set] at ho
        simp only [if_true] at ho
        split at ho
        · cases ho; exact hob
        · cases ho
      · rw [List.getElem?_set_ne (Ne.symm q)] at ho
        have hne : b ≠ a := by
          rintro rfl
          have h1 := List.getElem?_eq_some_iff.mp hj
          have h2 := List.getElem?_eq_some_iff.mp hb
          obtain ⟨l1, e1⟩ := h1
          obtain ⟨l2, e2⟩ := h2
          exact q ((List.getElem_inj H.nodup).mp (e2.trans e1.symm))
        exact (H.store i b o hb ho).up prog w (fun c o hc e => hs c o (fun q => hc (q ▸ List.mem_append_left _ hax)) e) (fun _ _ q _ => q) (fun _ _ q => q) fun o e => hs b o hne e
    toks := Nat.le_trans H.toks ht
    off := H.off }
theorem Rep.set {a : Addr} {h h' : Heap} (ha : a ∈ ad) (hs : ∀ b o, b ≠ a → h.get? b = some o → h'.get? b = some o) {v : V} {val : Value} (r : Rep prog w (ad ++ fx) ad h v val) : Rep prog w (ad ++ fx) ad h' v val :=
  Rep.up prog w (fun c o hc e => hs c o (fun q => hc (q ▸ List.mem_append_left _ ha)) e) (fun _ _ q _ => q) (fun _ _ q => q) r
theorem Reps.set' {a : Addr} {h h' : Heap} (ha : a ∈ ad) (hs : ∀ b o, b ≠ a → h.get? b = some o → h'.get? b = some o) {v : List V} {val : List Value} (r : Reps prog w (ad ++ fx) ad h v val) : Reps prog w (ad ++ fx) ad h' v val :=
  Reps.up prog w (fun c o hc e => hs c o (fun q => hc (q ▸ List.mem_append_left _ ha)) e) (fun _ _ q _ => q) (fun _ _ q => q) r
theorem VR.set {a : Addr} {ρ : Vars} (H : HR prog w base l fx ad st s) (Vr : VR prog w c env fx ad ρ s.heap) (ha : a ∈ ad) {h' : Heap} (hs : ∀ b o, b ≠ a → s.heap.get? b = some o → h'.get? b = some o) : VR prog w c env fx ad ρ h' where
  loc := Vr.loc
  ns := let ⟨m, h1, h2⟩ := Vr.ns; ⟨m, h1.at' fun o e => hs _ o (fun q => H.apart a ha (q ▸ Vr.loc.1)) e, fun y k d a b e => let ⟨v, hv, hr⟩ := h2 y k d a b e; ⟨v, hv, hr.set ha hs⟩⟩
  cell := fun y hy => by
    obtain ⟨b, v, h1, h2, h3, ⟨o, ho, hd⟩, h5⟩ := Vr.cell y hy
    exact ⟨b, v, h1, h2, h3, ⟨o, hs b o (fun q => H.apart a ha (q ▸ h2.1)) ho, hd⟩, fun k d a b => let ⟨u, hu, hr⟩ := h5 k d a b; ⟨u, hu, hr.set ha hs⟩⟩
  apart := Vr.apart
  len := Vr.len
theorem Go.set {j : Nat} {a : Addr} (H : HR prog w base l fx ad st s) (hj : ad[j]? = some a) (hlk : lk j = false) {h' : Heap} {tk : Nat} (hs : ∀ b o, b ≠ a → s.heap.get? b = some o → h'.get? b = some o) (hth : ∃ o, h'.get? a = some o) (ht : s.toks ≤ tk) :
    Go l ow ad lk s ad { s with heap := h', toks := tk } where
  gens := rfl
  os := rfl
  toks := ht
  ext := .refl ..
  there := fun b o e => by
    by_cases q : b = a
    · obtain ⟨o', h1⟩ := hth; exact ⟨o', by rw [q]; exact h1⟩
    · exact ⟨o, hs _ o q e⟩
  exact := fun b o e _ _ h3 => hs b o (by rintro rfl; rw [h3 j hj] at hlk; cases hlk) e
  slots := fun b o e h1 _ => ⟨o.slots, hs b o (by rintro rfl; exact H.apart b (List.mem_of_getElem? hj) (H.fsX b h1)) e⟩
end
end Mine

end
section
set_option autoImplicit false
namespace Mine
open PySem PyProof.Rows

section
variable {prog : Program} {w : World} {A : Around} {E : Value → Shared → Prop} {s : Shared}

theorem unpack_list {l : Addr} {items : Array Value} {targets : List (Bool × (Value → Sem Unit))} {Q : Unit → Shared → Prop} (hh : A.handled = none) (hl : s.heap.IsList l items) (hn : targets.length = items.size) (hstar : targets.findIdx? (·.1) = none)
    (h : ∀ h', Heap.ExtBut s.heap.objs.size s.heap h' → wpAny (model prog w) A (assignInOrder (targets.map (·.2)) items.toList) Q E { s with heap := h' }) : wpAny (model prog w) A (unpack (.ref l) targets) Q E s := by
  unfold unpack
  rw [hn, hstar]
  exact wpAny_bind (wpAny_holding (PySem.W.kun_itemsOf hh hl h))
theorem unpack_few {l : Addr} {x : Value} {targets : List (Bool × (Value → Sem Unit))} {Q : Unit → Shared → Prop} (hh : A.handled = none) (hl : s.heap.IsList l #[x]) (hn : targets.length = 2) (hstar : targets.findIdx? (·.1) = none)
    (h : ∀ h₁ h' tk e, (∀ b o, s.heap.get? b = some o → h₁.get? b = some o) → Heap.NewExc h₁ h' e "ValueError" → s.toks ≤ tk → E (.ref e) { s with heap := h', toks := tk }) : wpAny (model prog w) A (unpack (.ref l) targets) Q E s := by
  have hlt : l ≠ s.heap.objs.size := by obtain ⟨o, ho, _⟩ := hl; exact Nat.ne_of_lt (Heap.lt_size ho)
  unfold unpack
  rw [hn, hstar]
  refine wpAny_bind (wpAny_holding ?_)
  unfold unpackItems
  refine wpAny_bind ?_
  · unfold notIterableAtAll
    refine wpAny_bind (wpAny_specialOf hl.typeIs slot_list_iter.lookup ?_)
    refine wpAny_pure ?_
    simp only [Bool.false_eq_true, if_false]
    refine wpAny_bind (wpAny_holding (wpAny_pyIter_list hl ?_))
    have hit : (s.heap.push { cls := .type "list_iterator", data := .fields #[.ref l, .int 0 0] }).IsListIter s.heap.objs.size l 0 := ⟨_, Heap.get?_push_size _ rfl, rfl, rfl⟩
    have hl1 : (s.heap.push { cls := .type "list_iterator", data := .fields #[.ref l, .int 0 0] }).IsList l #[x] := hl.push _
    refine wpAny_bind (wpAny_holding ?_)
    show wpAny _ _ (draw (.ref s.heap.objs.size) 2) _ _ _
    show wpAny _ _ (pyNext (.ref s.heap.objs.size) >>= _) _ _ _
    refine wpAny_bind (wpAny_pyNext_list_item hit hl1 (x := x) rfl fun h₁ hit₁ hs₁ => ?_)
    refine wpAny_bind (wpAny_holding ?_)
    show wpAny _ _ (pyNext (.ref s.heap.objs.size) >>= _) _ _ _
    have hl₁ : h₁.IsList l #[x] := hl1.extBut hs₁.extBut hlt
    refine wpAny_bind (wpAny_pyNext_list_end hh hit₁ hl₁ rfl fun h₂ he₂ => ?_)
    refine wpAny_pure (wpAny_pure ?_)
    rw [if_pos (by simp)]
    refine wpAny_bind (wpAny_rule ?_)
    refine wpAny_bind ?_
    refine wpT ?_
    refine wpAny_raiseErrorMade plainExc_ValueError hh (fun h' tk e hx htk => ?_) ?_
    rotate_left
    · show (Str.ofString (toString "not enough values to unpack (expected " ++ toString 2 ++ toString ", got " ++ toString 1 ++ toString ")")).length ≤ sizeLine
      decide +kernel
    refine h h₂ h' tk e (fun b o q => ?_) hx htk
    have hne : b ≠ s.heap.objs.size := Nat.ne_of_lt (Heap.lt_size q)
    exact he₂ b o hne (hs₁.extBut b o hne (Heap.get?_push_of_some _ q))
end

section
variable {prog : Program} {w : World} {base : Heap} {rank : Nat} {F : Phi} {c : Cx} {env : Env} {outer : List Env} {ow fx ad : List Addr} {lk : Nat → Bool} {s : Shared} {A : Around} {E : Value → Shared → Prop}

theorem slot_kind {x : Str} {k : Nat} (h : slot c x = some k) : (c.sc.lookup x = some .local ∨ c.sc.lookup x = some .cell) ∧ c.γ.lookup x = some k := by
  unfold slot at h
  split at h
  · rename_i q; exact ⟨q, h⟩
  · cases h

theorem bind_snd {t : Expr} {tg : Tgt} (hT : cT c t = some tg) (C : CxOk c) (K : EnvOk rank c A env (env :: outer)) (O : Own env ow fx) {σ : St} (H : HR prog w base (env :: outer) fx ad σ.store s) (Vr : VR prog w c env fx ad σ.vars s.heap)
    {v : V} {val : Value} (r : Rep prog w (ad ++ fx) ad s.heap v val) {Kk : Unit → Shared → Prop}
    (hK : ∀ σ' s', bindT tg v σ = .next σ' → Go (env :: outer) ow ad lk s ad s' → HR prog w base (env :: outer) fx ad σ'.store s' → VR prog w c env fx ad σ'.vars s'.heap → Kk () s')
    (hE : ∀ k s₁ s' e, bindT tg v σ = .exc k σ → Go (env :: outer) ow ad lk s ad s₁ → HR prog w base (env :: outer) fx ad σ.store s₁ → VR prog w c env fx ad σ.vars s₁.heap → Raised (env :: outer) (topL (env :: outer)) s₁ k e s' → E e s')
    (ns : bindT tg v σ ≠ .stuck) : wpAny (model prog w) A (assign t env val) Kk E s := by
  have hW : ∀ x : Str, (c.sc.lookup x = some .local → (fun b => b ∈ ow) env.locals) ∧ (c.sc.lookup x = some .cell → ∀ a, env.cells.lookup x = some a → (fun b => b ∈ ow) a) := fun x => ⟨fun _ => O.loc, fun _ a ha => O.cell x a ha⟩
  cases t with
  | Name x p =>
    rw [cT] at hT
    split at hT
    · rename_i k hk
      cases hT
      obtain ⟨hk1, hk2⟩ := slot_kind hk
      refine wpAny_assign_Name (store_var C K H Vr hk1 hk2 r fun a h' tk hloc ha ha' hsb htk H' Vr' => ?_)
      have hao : a ∈ ow := by
        rcases hk1 with q | q
        · rw [hloc.1 q]; exact O.loc
        · exact O.cell x a (hloc.2 q)
      exact hK ⟨σ.vars.set k (some v), σ.store⟩ _ rfl (Go.of_puts (fx := fx) (base := base) (prog := prog) (w := w) ⟨rfl, rfl, htk, fun b o hb e => (hsb.2 b fun q => hb (q ▸ hao)).trans e⟩ H' O.sub) H' Vr'
    · cases hT
  | Tuple es kk p =>
    rw [cT] at hT
    split at hT
    · rename_i xs hxs
      split at hT
      · rename_i ks hks
        split at hT
        · rename_i hnd
          cases hT
          have hkl : ks.length = xs.length := by
            have : ∀ (xs : List Str) (ks : List Nat), slotsOf c xs = some ks → ks.length = xs.length := by
              intro xs
              induction xs with
              | nil => intro ks h; rw [slotsOf] at h; cases h; rfl
              | cons x xs ih =>
                intro ks h
                rw [slotsOf] at h
                split at h
                · rename_i k ks' _ h2; cases h; simp [ih _ h2]
                · cases h
            exact this xs ks hks
          obtain ⟨ps, hps, hae⟩ := namesOf_assign hxs env
          have hael : (assignEach es env).length = xs.length := by rw [hae]; simp [hps]
          have haes : (assignEach es env).findIdx? (·.1) = none := by rw [hae]; simp
          have fin : ∀ (ds : List V) (vs : List Value) (h' : Heap), ds.length = xs.length → unpackV σ.store ks.length v = .ok ds → Reps prog w (ad ++ fx) ad s.heap ds vs → (∀ b o, s.heap.get? b = some o → h'.get? b = some o) →
              wpAny (model prog w) A (assignInOrder ((assignEach es env).map (·.2)) vs) Kk E { s with heap := h' } := by
            intro ds vs h' hds hun hr hk
            have g : Grow (env :: outer) s { s with heap := h' } := Grow.heap (tk := s.toks) hk (Nat.le_refl _)
            rw [hae]
            refine store_vars (W := fun b => b ∈ ow) C K xs ps ks ds vs σ.vars _ hps hds hks (fun x _ => hW x) (H.grow g) (Vr.grow H g) (Reps.grow prog w H g hr) fun s' hp H' Vr' => ?_
            refine hK ⟨setVars ks ds σ.vars, σ.store⟩ s' (by simp only [bindT, hun]) ((Go.of_grow g (.refl ..)).trans (Go.of_puts hp H' O.sub)) H' Vr'
          rw [PyProof.Rows.assign_Tuple]
          refine wpAny_bind (wpAny_standAt ?_)
          have lst : ∀ ys, items σ.store v = some ys → unpackV σ.store ks.length v = (if ys.length = ks.length then .ok ys else if ys.length = 1 ∧ ks.length = 2 then raise .value else stuck) → wpAny (model prog w) A (unpack val (assignEach es env)) Kk E s := by
            intro ys hys hun
            obtain ⟨a, vs, rfl, hl, hbig, hr⟩ := items_rep H r hys
            have hvl := Reps.length prog w hr
            by_cases h1 : ys.length = ks.length
            · rw [if_pos h1] at hun
              exact unpack_list K.handled hl (by rw [hael]; simp; omega) haes fun h' he => fin ys vs.toArray.toList h' (by omega) hun (by simpa using hr) fun b o e => he b o (Nat.ne_of_lt (Heap.lt_size e)) e
            · rw [if_neg h1] at hun
              by_cases h2 : ys.length = 1 ∧ ks.length = 2
              · rw [if_pos h2] at hun
                obtain ⟨x, rfl⟩ : ∃ x, vs = [x] := by
                  match vs, (by omega : vs.length = 1) with
                  | [x], _ => exact ⟨x, rfl⟩
                refine unpack_few K.handled hl (by omega) haes fun h₁ h' tk e hk hx htk => ?_
                have g : Grow (env :: outer) s { s with heap := h₁ } := Grow.heap (tk := s.toks) hk (Nat.le_refl _)
                have H₁ := H.grow g
                exact hE .value { s with heap := h₁ } _ _ (by simp only [bindT, hun, raise]) (.of_grow g (.refl ..)) H₁ (Vr.grow H g) (raised_new (s := { s with heap := h₁ }) rfl hx htk H₁.frames)
              · rw [if_neg h2] at hun
                exact absurd (by simp only [bindT, hun, stuck]) ns
          cases v with
          | tup ds =>
            by_cases h1 : ds.length = ks.length
            · rw [Rep] at r
              obtain ⟨a, vs, rfl, hX, htup, hbig, hr⟩ := r
              have hvl := Reps.length prog w hr
              exact wpAny_unpack_tuple K.handled htup (by rw [hael]; simp; omega) haes fun h' he => fin ds vs.toArray.toList h' (by omega) (by simp only [unpackV]; rw [if_pos h1]) (by simpa using hr) fun b o e => he b o (Nat.ne_of_lt (Heap.lt_size e)) e
            · exact absurd (by simp only [bindT, unpackV]; rw [if_neg h1]; rfl) ns
          | list ys => exact lst ys rfl rfl
          | loc j =>
            cases hi : items σ.store (.loc j) with
            | some ys => exact lst ys hi (by simp only [unpackV, hi])
            | none => exact absurd (by simp only [bindT, unpackV, hi, stuck]) ns
          | _ => exact absurd rfl ns
        · cases hT
      · cases hT
    · cases hT
  | _ => simp [cT] at hT
end
end Mine

end
section
set_option autoImplicit false
namespace Mine
open PySem PyProof.Rows

section
variable {prog : Program} {w : World} {base : Heap} {mg mb : Str → Option Value} {rank : Nat} {F : Phi} {c : Cx}

theorem ss_nil : SndSs prog w base rank F c [] [] := fun A env outer fx ow ad lk σ s Q E K O H Vr P => by
  (first | rw [execs_q1] at P | rw [execs_q2] at P)
  exact wpAny_execs_nil (P.next σ ad s rfl (.refl ..) H Vr)
theorem ss_cons {stm : Stmt} {stms : List Stmt} {cs : CS} {css : List CS} (h1 : SndS prog w base rank F c stm cs) (h2 : SndSs prog w base rank F c stms css) : SndSs prog w base rank F c (stm :: stms) (cs :: css) :=
    fun A env outer fx ow ad lk σ s Q E K O H Vr P => by
  (first | rw [execs_q1] at P | rw [execs_q2] at P)
  refine wpAny_execs_cons (h1 A env outer fx ow ad lk σ s _ E K O H Vr ⟨fun σ' ad' s' e g H' Vr' => ?_, fun σ' ad' s' e g H' Vr' => ?_, fun v σ' ad' s' val e g H' r => ?_, fun k σ' ad' s₁ s' x e g H' Vr' y => ?_, fun h => ?_⟩)
  · rw [e] at P
    exact h2 A env outer fx ow ad' lk σ' s' Q E K O H' Vr' (P.after g)
  · rw [e] at P; exact P.cont σ' ad' s' rfl g H' Vr'
  · rw [e] at P; exact P.ret v σ' ad' s' val rfl g H' r
  · rw [e] at P; exact P.exc k σ' ad' s₁ s' x rfl g H' Vr' y
  · rw [h] at P; exact P.ns rfl

theorem s_if {t : Expr} {a b : List Stmt} {p : Pos} {ct : CE} {ca cb : List CS} (ht : SndT prog w base rank F c t ct) (ha : SndSs prog w base rank F c a ca) (hb : SndSs prog w base rank F c b cb) :
    SndS prog w base rank F c (.If t a b p) (.ifs ct ca cb) := fun A env outer fx ow ad lk σ s Q E K O H Vr P => by
  (first | rw [exec_q1] at P | rw [exec_q2] at P | rw [exec_q3] at P | rw [exec_q4] at P | rw [exec_q5] at P | rw [exec_q6] at P | rw [exec_q7] at P | rw [exec_q8] at P | rw [exec_q9] at P | rw [exec_q10] at P | rw [exec_q11] at P | rw [exec_q12] at P)
  refine wpAny_If (seqS P H Vr (evalT F σ.store ct σ.vars) (fun e h => by rw [h]) (fun Q' => ht A env _ fx ad σ.vars σ.store s Q' E K H Vr) fun x vx s₁ e g rx P₁ => ?_)
  cases rx
  simp only [e] at P₁
  cases x
  · exact hb A env outer fx ow ad lk σ s₁ Q E K O (H.grow g) (Vr.grow H g) P₁
  · exact ha A env outer fx ow ad lk σ s₁ Q E K O (H.grow g) (Vr.grow H g) P₁
theorem s_ret {e1 : Expr} {p : Pos} {a : CE} (ha : SndE prog w base rank F c e1 a) : SndS prog w base rank F c (.Return (some e1) p) (.ret a) := fun A env outer fx ow ad lk σ s Q E K O H Vr P => by
  (first | rw [exec_q1] at P | rw [exec_q2] at P | rw [exec_q3] at P | rw [exec_q4] at P | rw [exec_q5] at P | rw [exec_q6] at P | rw [exec_q7] at P | rw [exec_q8] at P | rw [exec_q9] at P | rw [exec_q10] at P | rw [exec_q11] at P | rw [exec_q12] at P)
  refine wpAny_Return_some (seqS P H Vr (evalE F σ.store a σ.vars) (fun e h => by rw [h]) (fun Q' => ha A env _ fx ad σ.vars σ.store s Q' E K H Vr) fun x vx s₁ e g rx P₁ => ?_)
  simp only [e] at P₁
  exact P₁.ret x σ ad s₁ vx rfl (.refl ..) (H.grow g) rx
theorem s_cont {p : Pos} : SndS prog w base rank F c (.Continue p) .cont := fun A env outer fx ow ad lk σ s Q E K O H Vr P => by
  (first | rw [exec_q1] at P | rw [exec_q2] at P | rw [exec_q3] at P | rw [exec_q4] at P | rw [exec_q5] at P | rw [exec_q6] at P | rw [exec_q7] at P | rw [exec_q8] at P | rw [exec_q9] at P | rw [exec_q10] at P | rw [exec_q11] at P | rw [exec_q12] at P)
  exact wpAny_Continue (P.cont σ ad s rfl (.refl ..) H Vr)
theorem swaps_false {v : Expr} (h : notComp v = true) (t : Option Expr) (line : Nat) (env : Env) : swapsWith v t line env = pure false := by
  cases v <;> first | rfl | cases h

theorem s_assign_name {x : Str} {p pos : Pos} {v : Expr} {tg : Tgt} {ae : AE} (hsw : ∀ (env : Env) (A : Around) (l : List Env), EnvOk rank c A env l → swapsWith v (some (.Name x p)) pos.line env = pure false) (hT : cT c (.Name x p) = some tg) (C : CxOk c) (ha : SndA prog w base rank F c v ae) :
    SndS prog w base rank F c (.Assign [.Name x p] v pos) (.assign tg ae) := fun A env outer fx ow ad lk σ s Q E K O H Vr P => by
  (first | rw [exec_q1] at P | rw [exec_q2] at P | rw [exec_q3] at P | rw [exec_q4] at P | rw [exec_q5] at P | rw [exec_q6] at P | rw [exec_q7] at P | rw [exec_q8] at P | rw [exec_q9] at P | rw [exec_q10] at P | rw [exec_q11] at P | rw [exec_q12] at P)
  refine wpAny_Assign_stores (seqA P H Vr (evalA F ae σ.vars σ.store) (fun e h => by rw [h]) (fun Q' => ha A env _ fx ad σ.vars σ.store s Q' E K H Vr) fun a st' ad' b s₁ e g xx H₁ Vr₁ r P₁ => ?_) (hsw env A _ K) (by cases v <;> rfl)
  simp only [e] at P₁
  show wpAny (model prog w) A (assign (.Name x p) env b) _ E s₁
  exact bind_snd (t := .Name x p) (σ := ⟨σ.vars, st'⟩) (lk := lk) hT C K O H₁ Vr₁ r (fun σ' s' e g H' Vr' => P₁.next σ' ad' s' e g H' Vr') (fun k s₂ s' ex e g H' Vr' y => P₁.exc k _ ad' s₂ s' ex e g H' Vr' y) P₁.ns
theorem s_assign_tup {es : List Expr} {k : Nat} {p pos : Pos} {v : Expr} {tg : Tgt} {ae : AE} (hnt : isTupleE v = false) (hT : cT c (.Tuple es k p) = some tg) (C : CxOk c) (ha : SndA prog w base rank F c v ae) :
    SndS prog w base rank F c (.Assign [.Tuple es k p] v pos) (.assign tg ae) := fun A env outer fx ow ad lk σ s Q E K O H Vr P => by
  (first | rw [exec_q1] at P | rw [exec_q2] at P | rw [exec_q3] at P | rw [exec_q4] at P | rw [exec_q5] at P | rw [exec_q6] at P | rw [exec_q7] at P | rw [exec_q8] at P | rw [exec_q9] at P | rw [exec_q10] at P | rw [exec_q11] at P | rw [exec_q12] at P)
  refine wpAny_Assign_stores (seqA P H Vr (evalA F ae σ.vars σ.store) (fun e h => by rw [h]) (fun Q' => ha A env _ fx ad σ.vars σ.store s Q' E K H Vr) fun a st' ad' b s₁ e g x H₁ Vr₁ r P₁ => ?_) ?_ ?_
  · simp only [e] at P₁
    show wpAny (model prog w) A (assign (.Tuple es k p) env b) _ E s₁
    exact bind_snd (σ := ⟨σ.vars, st'⟩) (lk := lk) hT C K O H₁ Vr₁ r (fun σ' s' e g H' Vr' => P₁.next σ' ad' s' e g H' Vr') (fun k s₂ s' ex e g H' Vr' y => P₁.exc k _ ad' s₂ s' ex e g H' Vr' y) P₁.ns
  · cases v <;> rfl
  · cases v <;> first | rfl | cases hnt
theorem s_assign_two {x y : Str} {p q pos : Pos} {v : Expr} {i j : Nat} {a : CE} (hx : slot c x = some i) (hy : slot c y = some j) (C : CxOk c) (ha : SndE prog w base rank F c v a) :
    SndS prog w base rank F c (.Assign [.Name x p, .Name y q] v pos) (.assign2 i j a) := fun A env outer fx ow ad lk σ s Q E K O H Vr P => by
  (first | rw [exec_q1] at P | rw [exec_q2] at P | rw [exec_q3] at P | rw [exec_q4] at P | rw [exec_q5] at P | rw [exec_q6] at P | rw [exec_q7] at P | rw [exec_q8] at P | rw [exec_q9] at P | rw [exec_q10] at P | rw [exec_q11] at P | rw [exec_q12] at P)
  refine wpAny_Assign_two (seqS P H Vr (evalE F σ.store a σ.vars) (fun e h => by rw [h]) (fun Q' => ha A env _ fx ad σ.vars σ.store s Q' E K H Vr) fun d val s₁ e g r P₁ => ?_)
  simp only [e] at P₁
  refine bind_snd (t := .Name x p) (tg := .one i) (σ := σ) (lk := lk) (by rw [cT, hx]) C K O (H.grow g) (Vr.grow H g) r (fun σ₁ s₂ e₁ g₁ H₂ Vr₂ => ?_) (fun k s₂ s' ex e => by cases e) (by simp [bindT])
  cases e₁
  have r2 : Rep prog w (ad ++ fx) ad s₂.heap d val := by
    refine Rep.up prog w (fun b o hb e => g₁.exact b o e (fun q => hb (List.mem_append_right _ (H.fsX b q))) (fun q => hb (List.mem_append_right _ (O.sub b q).1)) fun j hj => absurd (List.mem_append_left _ (List.mem_of_getElem? hj)) hb) (fun _ _ q _ => q) (fun _ _ q => q) r
  refine bind_snd (t := .Name y q) (tg := .one j) (σ := ⟨σ.vars.set i (some d), σ.store⟩) (lk := lk) (by rw [cT, hy]) C K O H₂ Vr₂ r2 (fun σ₂ s₃ e₂ g₂ H₃ Vr₃ => ?_) (fun k s₂ s' ex e => by cases e) (by simp [bindT])
  cases e₂
  exact P₁.next _ ad s₃ rfl (g₁.trans g₂) H₃ Vr₃

theorem dput_stored {es : List (List Nat × List Nat)} {kvs : List (Str × Value)} {k v : List Nat} {t : Tok} (hk : OkS k) (hv : OkS v) (hp : PairsAre es kvs) : PairsAre (dput es k v) (stored kvs (⟨k.toArray⟩ : Str) (.str ⟨v.toArray⟩ t)) := by
  have hany : ∀ {es : List (List Nat × List Nat)} {kvs : List (Str × Value)}, PairsAre es kvs → kvs.any (fun kv => kv.1 = (⟨k.toArray⟩ : Str)) = es.any (fun p => p.1 == k) := by
    intro es
    induction es with
    | nil => intro kvs h; rw [PairsAre] at h; subst h; rfl
    | cons q es ih =>
      obtain ⟨q1, q2⟩ := q
      intro kvs h
      rw [PairsAre] at h
      obtain ⟨t, rr, rfl, _, _, hr⟩ := h
      rw [List.any_cons, List.any_cons, ih hr]
      congr 1
      rw [Bool.eq_iff_iff]; simp
  have hmap : ∀ {es : List (List Nat × List Nat)} {kvs : List (Str × Value)}, PairsAre es kvs → PairsAre (es.map fun p => if p.1 = k then (p.1, v) else p) (kvs.map fun kv => if kv.1 = (⟨k.toArray⟩ : Str) then (kv.1, .str ⟨v.toArray⟩ t) else kv) := by
    intro es
    induction es with
    | nil => intro kvs h; rw [PairsAre] at h; subst h; rfl
    | cons q es ih =>
      obtain ⟨q1, q2⟩ := q
      intro kvs h
      rw [PairsAre] at h
      obtain ⟨t', rr, rfl, o1, o2, hr⟩ := h
      rw [List.map_cons, List.map_cons]
      by_cases e : q1 = k
      · subst e
        simp only [if_true]
        rw [PairsAre]
        exact ⟨t, _, rfl, o1, hv, ih hr⟩
      · have e' : ¬ (⟨q1.toArray⟩ : Str) = ⟨k.toArray⟩ := by simpa using e
        simp only [e, e', if_false]
        rw [PairsAre]
        exact ⟨t', _, rfl, o1, o2, ih hr⟩
  have happ : ∀ {es : List (List Nat × List Nat)} {kvs : List (Str × Value)}, PairsAre es kvs → PairsAre (es ++ [(k, v)]) (kvs ++ [((⟨k.toArray⟩ : Str), .str ⟨v.toArray⟩ t)]) := by
    intro es
    induction es with
    | nil => intro kvs h; rw [PairsAre] at h; subst h; exact ⟨t, [], rfl, hk, hv, rfl⟩
    | cons q es ih =>
      obtain ⟨q1, q2⟩ := q
      intro kvs h
      rw [PairsAre] at h
      obtain ⟨t', rr, rfl, o1, o2, hr⟩ := h
      rw [List.cons_append, List.cons_append, PairsAre]
      exact ⟨t', _, rfl, o1, o2, ih hr⟩
  unfold dput stored
  rw [hany hp]
  split
  · exact hmap hp
  · exact happ hp

theorem s_set {o i v : Expr} {p pos : Pos} {co ci ce : CE} (hsw : notComp v = true) (ho : SndE prog w base rank F c o co) (hi : SndE prog w base rank F c i ci) (hv : SndE prog w base rank F c v ce) :
    SndS prog w base rank F c (.Assign [.Subscript o i p] v pos) (.setItem co ci ce) := fun A env outer fx ow ad lk σ s Q E K O H Vr P => by
  (first | rw [exec_q1] at P | rw [exec_q2] at P | rw [exec_q3] at P | rw [exec_q4] at P | rw [exec_q5] at P | rw [exec_q6] at P | rw [exec_q7] at P | rw [exec_q8] at P | rw [exec_q9] at P | rw [exec_q10] at P | rw [exec_q11] at P | rw [exec_q12] at P)
  refine wpAny_Assign_Subscript (seqS P H Vr (evalE F σ.store ce σ.vars) (fun e h => by rw [h]) (fun Q' => hv A env _ fx ad σ.vars σ.store s Q' E K H Vr) fun d vd s₁ e g rd P₁ => ?_) (swaps_false hsw _ _ _)
  simp only [e] at P₁
  have H₁ := H.grow g; have Vr₁ := Vr.grow H g
  refine seqS P₁ H₁ Vr₁ (evalE F σ.store co σ.vars) (fun e h => by rw [h]) (fun Q' => ho A env _ fx ad σ.vars σ.store s₁ Q' E K H₁ Vr₁) fun ov vo s₂ e g₂ ro P₂ => ?_
  simp only [e] at P₂
  have H₂ := H₁.grow g₂; have Vr₂ := Vr₁.grow H₁ g₂
  refine seqS P₂ H₂ Vr₂ (evalE F σ.store ci σ.vars) (fun e h => by rw [h]) (fun Q' => hi A env _ fx ad σ.vars σ.store s₂ Q' E K H₂ Vr₂) fun iv vi s₃ e g₃ ri₀ P₃ => ?_
  simp only [e] at P₃
  have ri : Rep prog w (ad ++ fx) ad s₃.heap iv vi := ri₀
  have H₃ := H₂.grow g₃; have Vr₃ := Vr₂.grow H₂ g₃
  have rd' : Rep prog w (ad ++ fx) ad s₃.heap d vd := Rep.grow prog w H₂ g₃ (Rep.grow prog w H₁ g₂ rd)
  have ro' : Rep prog w (ad ++ fx) ad s₃.heap ov vo := Rep.grow prog w H₂ g₃ ro
  cases ov with
  | loc j =>
    simp only [locOf] at P₃
    split at P₃
    · exact absurd rfl P₃.ns
    rename_i hlk
    have hlk' : lk j = false := by simpa using hlk
    rw [Rep] at ro'
    obtain ⟨a, haj, rfl⟩ := ro'
    have hax : a ∈ ad := List.mem_of_getElem? haj
    cases hst : σ.store[j]? with
    | none => rw [hst] at P₃; exact absurd rfl P₃.ns
    | some ob =>
    rw [hst] at P₃
    cases ob with
    | iter k p => exact absurd rfl P₃.ns
    | list xs =>
      cases iv with
      | int n =>
      simp only at P₃
      rw [Rep] at ri
      obtain ⟨t, rfl⟩ := ri
      split at P₃
      · rename_i pl hpl
        obtain ⟨vs, ⟨nn, hget⟩, hbig, hr⟩ := H₃.store j a _ haj hst
        have hvl := Reps.length prog w hr
        obtain ⟨hp1, hp2, hp3⟩ := place_lt hpl
        have hget' : s₃.heap.get? a = some (PySem.W.listOf vs.toArray nn) := hget
        simp only [big] at hbig
        have fin : ∀ (m : Nat), m = pl → Q .next { s₃ with heap := s₃.heap.update a (Obj.mapSeq fun x => x.setIfInBounds m vd) } := by
          rintro m rfl
          have hself := Heap.get?_update_self (Obj.mapSeq fun x => x.setIfInBounds m vd) hget rfl
          have hs : ∀ b o, b ≠ a → s₃.heap.get? b = some o → (s₃.heap.update a (Obj.mapSeq fun x => x.setIfInBounds m vd)).get? b = some o := fun b o hb e => (Heap.get?_update_other _ _ (Ne.symm hb)).trans e
          have hlist : (vs.toArray.setIfInBounds m vd) = (vs.set m vd).toArray := by simp
          refine P₃.next _ ad _ rfl (Go.set H₃ haj hlk' hs ⟨_, hself⟩ (Nat.le_refl _)) (H₃.set haj hs ⟨vs.set m vd, ⟨_, by rw [← hlist]; exact hself⟩, by rw [List.length_set]; simp only [big]; omega, Reps.set m (Reps.set' hax hs hr) (Rep.set hax hs rd')⟩ (Nat.le_refl _)) (Vr₃.set H₃ hax hs)
        by_cases h0 : 0 ≤ n
        · refine PySem.W.ki_setAt hget' h0 (by omega) (by simp; omega) (fin _ ?_)
          unfold place at hpl
          rw [if_pos h0, if_pos hp3] at hpl; cases hpl; rfl
        · refine PySem.W.ki_setBack hget' (by omega) (by simp; omega) (by omega) (fin _ ?_)
          unfold place at hpl
          rw [if_neg h0, if_pos hp2] at hpl; cases hpl
          simp only [List.size_toArray, hvl]; omega
      · exact absurd rfl P₃.ns
      | _ => exact absurd rfl P₃.ns
    | dict es =>
      obtain ⟨k, rfl⟩ : ∃ k, iv = .str k := by cases iv <;> first | exact ⟨_, rfl⟩ | exact absurd rfl P₃.ns
      obtain ⟨v', rfl⟩ : ∃ k, d = .str k := by cases d <;> first | exact ⟨_, rfl⟩ | exact absurd rfl P₃.ns
      simp only at P₃
      rw [Rep] at ri rd'
      obtain ⟨t, rfl, okk⟩ := ri
      obtain ⟨t', rfl, okv⟩ := rd'
      split at P₃
      · rename_i hlen
        obtain ⟨kvs, hd, hbig, hp⟩ := H₃.store j a _ haj hst
        have hkl : kvs.length = es.length := by
          have : ∀ {es : List (List Nat × List Nat)} {kvs : List (Str × Value)}, PairsAre es kvs → kvs.length = es.length := by
            intro es
            induction es with
            | nil => intro kvs h; rw [PairsAre] at h; subst h; rfl
            | cons q es ih => obtain ⟨q1, q2⟩ := q; intro kvs h; rw [PairsAre] at h; obtain ⟨t, rr, rfl, _, _, hr⟩ := h; simp [ih hr]
          exact this hp
        refine wpAny_setItem_pairs (knd := strKind prog w) (k := (⟨k.toArray⟩ : Str)) (by simp [PySem.strKind, Value.isStrOf]) hd (fun h' hd' hs' => ?_) (by rw [sizeLine_big]; simp only [big]; omega)
        have hs : ∀ b o, b ≠ a → s₃.heap.get? b = some o → h'.get? b = some o := fun b o hb e => (hs'.2 b hb).trans e
        have hlen2 : (dput es k v').length ≤ es.length + 1 := by unfold dput; split <;> simp
        refine P₃.next _ ad _ rfl (Go.set H₃ haj hlk' hs (let ⟨o, _, _, ho, _⟩ := hd'; ⟨o, ho⟩) (Nat.le_succ _)) (H₃.set haj hs ⟨_, hd', by simp only [big]; omega, dput_stored okk okv hp⟩ (Nat.le_succ _)) (Vr₃.set H₃ hax hs)
      · exact absurd rfl P₃.ns
  | _ => exact absurd rfl P₃.ns
end
end Mine

end
section
set_option autoImplicit false
namespace Mine
open PySem PyProof.Rows

section
variable {prog : Program} {w : World} {base : Heap} {mg mb : Str → Option Value} {rank : Nat} {F : Phi} {c : Cx}

mutual
theorem evalA_pre {ρ : Vars} : ∀ (e : AE) (st : Store) (v : V) (st' : Store), evalA F e ρ st = .ok (v, st') → ∃ ex, st' = st ++ ex
  | .old e, st, v, st', h => by
    (first | rw [evalA_q1] at h | rw [evalA_q2] at h | rw [evalA_q3] at h | rw [evalA_q4] at h | rw [evalA_q5] at h)
    split at h
    · cases h
    · cases h; exact ⟨[], (List.append_nil _).symm⟩
  | .newl es, st, v, st', h => by
    (first | rw [evalA_q1] at h | rw [evalA_q2] at h | rw [evalA_q3] at h | rw [evalA_q4] at h | rw [evalA_q5] at h)
    split at h
    · cases h
    · rename_i vs st1 h1
      cases h
      obtain ⟨ex, rfl⟩ := evalAs_pre es st vs st1 h1
      exact ⟨ex ++ [_], List.append_assoc ..⟩
  | .tup es, st, v, st', h => by
    (first | rw [evalA_q1] at h | rw [evalA_q2] at h | rw [evalA_q3] at h | rw [evalA_q4] at h | rw [evalA_q5] at h)
    split at h
    · cases h
    · rename_i vs st1 h1
      cases h
      exact evalAs_pre es st _ _ h1
  | .cat a b, st, v, st', h => by
    (first | rw [evalA_q1] at h | rw [evalA_q2] at h | rw [evalA_q3] at h | rw [evalA_q4] at h | rw [evalA_q5] at h)
    split at h
    · cases h
    · split at h
      · cases h
      · split at h
        · cases h; exact ⟨_, rfl⟩
        · cases h
  | .newd, st, v, st', h => by
    (first | rw [evalA_q1] at h | rw [evalA_q2] at h | rw [evalA_q3] at h | rw [evalA_q4] at h | rw [evalA_q5] at h)
    cases h; exact ⟨_, rfl⟩
  | .iter e, st, v, st', h => by
    rw [evalA_q6] at h
    split at h
    · split at h
      · cases h; exact ⟨_, rfl⟩
      · cases h
    · cases h
theorem evalAs_pre {ρ : Vars} : ∀ (es : List AE) (st : Store) (v : List V) (st' : Store), evalAs F es ρ st = .ok (v, st') → ∃ ex, st' = st ++ ex
  | [], st, v, st', h => by
    (first | rw [evalAs_q1] at h | rw [evalAs_q2] at h)
    cases h; exact ⟨[], (List.append_nil _).symm⟩
  | e :: es, st, v, st', h => by
    (first | rw [evalAs_q1] at h | rw [evalAs_q2] at h)
    split at h
    · cases h
    · rename_i v1 st1 h1
      split at h
      · cases h
      · rename_i vs st2 h2
        cases h
        obtain ⟨ex, rfl⟩ := evalA_pre e st v1 st1 h1
        obtain ⟨ex2, rfl⟩ := evalAs_pre es _ _ _ h2
        exact ⟨ex ++ ex2, List.append_assoc ..⟩
end

theorem s_append {o a : Expr} {ap p pos : Pos} {co : CE} {ae : AE} (hb : plainBase o = true) (hl : ap.endLine = p.line) (hn : NotStar a) (ho : SndE prog w base rank F c o co) (ha : SndA prog w base rank F c a ae) :
    SndS prog w base rank F c (.Expr (.Call (.Attribute o (cst "append") ap) [a] [] p) pos) (.append co ae) := fun A env outer fx ow ad lk σ s Q E K O H Vr P => by
  (first | rw [exec_q1] at P | rw [exec_q2] at P | rw [exec_q3] at P | rw [exec_q4] at P | rw [exec_q5] at P | rw [exec_q6] at P | rw [exec_q7] at P | rw [exec_q8] at P | rw [exec_q9] at P | rw [exec_q10] at P | rw [exec_q11] at P | rw [exec_q12] at P)
  have hns : ∀ e ∈ [a], NotStar e := fun e he => by rw [List.mem_singleton.mp he]; exact hn
  refine wpAny_Expr_any ?_ (by unfold interactive; rw [K.kind]; rfl) rfl
  refine wpAny_Call_method_late (attributeBase_plain hb _ _ _) ?_ (by rw [hl]; exact beq_self_eq_true _) rfl ?_
  · rw [plain_trees hns]; rfl
  refine seqS P H Vr (evalE F σ.store co σ.vars) (fun e h => by rw [h]) (fun Q' => ho A env _ fx ad σ.vars σ.store s Q' E K H Vr) fun ov vo s₁ e g ro P₁ => ?_
  simp only [e] at P₁
  have H₁ := H.grow g; have Vr₁ := Vr.grow H g
  cases ov with
  | loc j =>
    simp only [locOf] at P₁
    cases hst : σ.store[j]? with
    | none => rw [hst] at P₁; exact absurd rfl P₁.ns
    | some ob =>
      rw [hst] at P₁
      cases ob with
      | dict es => exact absurd rfl P₁.ns
      | iter k p => exact absurd rfl P₁.ns
      | list xs =>
        simp only at P₁
        have ro' : Rep prog w (ad ++ fx) ad s₁.heap (.loc j) vo := ro
        rw [Rep] at ro'
        obtain ⟨a', haj, rfl⟩ := ro'
        obtain ⟨vs, hpl, hbig, hr⟩ := H₁.store j a' _ haj hst
        refine ⟨"list", "list.append", PySem.F.plainAttrs_list, PySem.F.slot_list_append, PySem.F.type_list_append, hpl.isList.typeIs, fun b e => ?_, ?_⟩
        · obtain ⟨n, h1⟩ := hpl; cases e; exact ⟨_, h1, rfl⟩
        refine callWith_any (.inl ⟨_, rfl⟩) (plain_any hns env p) ?_
        refine args_cons (seqA P₁ H₁ Vr₁ (evalA F ae σ.vars σ.store) (fun e h => by rw [h]) (fun Q' => ha A env _ fx ad σ.vars σ.store s₁ Q' E K H₁ Vr₁) fun v st' ad' val s₂ e g₂ x H₂ Vr₂ rv P₂ => args_nil ?_) (hn _ _)
        simp only [e] at P₂
        split at P₂
        · rename_i hc
          obtain ⟨hlk, hlen⟩ := hc
          obtain ⟨ex, rfl⟩ := evalA_pre _ _ _ _ e
          have haj' := x.get haj
          have hax : a' ∈ ad' := List.mem_of_getElem? haj'
          have hst' : (σ.store ++ ex)[j]? = some (.list xs) := by rw [List.getElem?_append_left (List.getElem?_eq_some_iff.mp hst).1]; exact hst
          obtain ⟨vs2, hpl2, hbig2, hr2⟩ := H₂.store j a' _ haj' hst'
          have hvl := Reps.length prog w hr2
          refine wpT (wpAny_list_append_plain hpl2 (fun h' hp' hs' htk => ?_) (by rw [List.size_toArray, sizeLine_big]; simp only [big]; omega))
          have hs : ∀ b o, b ≠ a' → s₂.heap.get? b = some o → h'.get? b = some o := fun b o hb e => (hs'.2 b hb).trans e
          refine P₂.next _ ad' _ rfl (Go.set H₂ haj' hlk hs (let ⟨n, h1⟩ := hp'; ⟨_, h1⟩) (Nat.le_refl _))
            (H₂.set haj' hs ⟨vs2 ++ [val], by simpa using hp', by simp only [List.length_append, List.length_singleton, big]; omega, Reps.append (Reps.set' hax hs hr2) (by rw [Reps]; exact ⟨val, [], rfl, Rep.set hax hs rv, by rw [Reps]⟩)⟩ (Nat.le_refl _))
            (Vr₂.set H₂ hax hs)
        · exact absurd rfl P₂.ns
  | _ => exact absurd rfl P₁.ns

theorem load_name {A A' : Around} {l : List Env} {fx ad : List Addr} {st : Store} {s : Shared} {ρ : Vars} {env : Env} {Q E : Value → Shared → Prop} (K : EnvOk rank c A' env l) (H : HR prog w base l fx ad st s) (Vr : VR prog w c env fx ad ρ s.heap) {x : Str} {k : Nat}
    (hk : c.sc.lookup x = some .local ∨ c.sc.lookup x = some .cell) (hγ : c.γ.lookup x = some k) {d : V} (hd : ρ[k]? = some (some d)) (h : ∀ v, Rep prog w (ad ++ fx) ad s.heap d v → Q v s) : wpAny (model prog w) A (loadName env x) Q E s := by
  have hkind : env.kindOf x = c.sc.lookup x := by unfold Env.kindOf; rw [K.names]
  rcases hk with hk | hk
  · obtain ⟨m, h1, h2⟩ := Vr.ns
    obtain ⟨v, hv, hr⟩ := h2 x k d hk hγ hd
    exact wpAny_loadName_local K.kind (hkind.trans hk) h1 hv (h v hr)
  · obtain ⟨a, v, h1, h2, h3, h4, h5⟩ := Vr.cell x hk
    obtain ⟨u, rfl, hr⟩ := h5 k d hγ hd
    exact wpAny_loadName_cell K.kind (hkind.trans hk) h1 h4 (h u hr)

theorem s_aug {x : Str} {p pos : Pos} {v : Expr} {k : Nat} {ce : CE} (hx : slot c x = some k) (C : CxOk c) (hv : SndE prog w base rank F c v ce) : SndS prog w base rank F c (.AugAssign (.Name x p) .Add v pos) (.aug k ce) :=
    fun A env outer fx ow ad lk σ s Q E K O H Vr P => by
  (first | rw [exec_q1] at P | rw [exec_q2] at P | rw [exec_q3] at P | rw [exec_q4] at P | rw [exec_q5] at P | rw [exec_q6] at P | rw [exec_q7] at P | rw [exec_q8] at P | rw [exec_q9] at P | rw [exec_q10] at P | rw [exec_q11] at P | rw [exec_q12] at P)
  obtain ⟨hk1, hk2⟩ := slot_kind hx
  split at P
  · rename_i d hd
    refine wpAny_AugAssign_Name (load_name K H Vr hk1 hk2 hd fun old rold => ?_)
    refine seqS P H Vr (evalE F σ.store ce σ.vars) (fun e h => by rw [h]) (fun Q' => hv A env _ fx ad σ.vars σ.store s Q' E K H Vr) fun d2 v2 s₁ e g r2 P₁ => ?_
    simp only [e] at P₁
    have H₁ := H.grow g; have Vr₁ := Vr.grow H g
    have rold' := Rep.grow prog w H g rold
    unfold augV at P₁
    split at P₁
    · rename_i er her
      have rz : ∀ h' tk e, Heap.NewExc s₁.heap h' e "TypeError" → s₁.toks ≤ tk → er = .exc .type → E (.ref e) { s₁ with heap := h', toks := tk } := by
        rintro h' tk e x htk rfl
        exact P₁.exc .type σ ad s₁ _ _ rfl (.refl ..) H₁ Vr₁ (raised_new rfl x htk H₁.frames)
      split at her
      · split at her <;> cases her
        exact absurd rfl P₁.ns
      · cases her
        have r2' : Rep prog w (ad ++ fx) ad s₁.heap .none v2 := r2
        rw [Rep] at rold'; rw [Rep] at r2'
        obtain ⟨t, rfl, ok1⟩ := rold'
        subst r2'
        exact wpT (iadd_none K.handled fun h' tk e x htk => rz h' tk e x htk rfl)
      · cases her
        rename_i i
        have r2' : Rep prog w (ad ++ fx) ad s₁.heap (.int i) v2 := r2
        rw [Rep] at rold'; rw [Rep] at r2'
        obtain ⟨t, rfl, ok1⟩ := rold'
        obtain ⟨t', rfl⟩ := r2'
        exact wpT (iadd_int K.handled fun h' tk e x htk => rz h' tk e x htk rfl)
      · cases her
        have r2' : Rep prog w (ad ++ fx) ad s₁.heap .bytes v2 := r2
        rw [Rep] at rold'; rw [Rep] at r2'
        obtain ⟨t, rfl, ok1⟩ := rold'
        obtain ⟨b, t', rfl⟩ := r2'
        exact wpT (iadd_bytes K.handled fun h' tk e x htk => rz h' tk e x htk rfl)
      · cases her
        rename_i xs
        have r2' : Rep prog w (ad ++ fx) ad s₁.heap (.list xs) v2 := r2
        rw [Rep] at rold'; rw [Rep] at r2'
        obtain ⟨t, rfl, ok1⟩ := rold'
        obtain ⟨a, vs, rfl, _, hl, _⟩ := r2'
        exact wpT (iadd_list hl K.handled fun h' tk e x htk => rz h' tk e x htk rfl)
      · cases her; exact absurd rfl P₁.ns
    · rename_i r hr
      split at hr
      · rename_i a b
        split at hr
        · rename_i hb
          cases hr
          have r2' : Rep prog w (ad ++ fx) ad s₁.heap (.str b) v2 := r2
          rw [Rep] at rold' r2'
          obtain ⟨t, rfl, ok1⟩ := rold'
          obtain ⟨t', rfl, ok2⟩ := r2'
          refine wpT (PyProof.Rows.iadd_str (fun t'' tk htk => ?_) (by rw [len_mk, len_mk]; exact hb))
          rw [mkStr_append]
          have g2 : Grow (env :: outer) s₁ { s₁ with toks := tk } := .tok htk
          have P₂ := P₁.after (.of_grow g2 (.refl ..))
          refine store_var C K (H₁.grow g2) (Vr₁.grow H₁ g2) hk1 hk2 (rep_str (ok1.append ok2 hb)) fun a' h' tk' hloc ha ha' hsb htk' H' Vr' => ?_
          have hao : a' ∈ ow := by
            rcases hk1 with q | q
            · rw [hloc.1 q]; exact O.loc
            · exact O.cell x a' (hloc.2 q)
          exact P₂.next ⟨σ.vars.set k (some (.str (a ++ b))), σ.store⟩ ad _ rfl (Go.of_puts (fx := fx) (base := base) (prog := prog) (w := w) ⟨rfl, rfl, htk', fun b o hb e => (hsb.2 b fun q => hb (q ▸ hao)).trans e⟩ H' O.sub) H' Vr'
        · cases hr
      all_goals cases hr
  · exact absurd rfl P.ns
end
end Mine

end
section
set_option autoImplicit false
namespace Mine
open PySem PyProof.Rows

section
variable {prog : Program} {w : World} {base : Heap} {mg mb : Str → Option Value} {rank : Nat} {F : Phi} {c : Cx}

noncomputable def turnOf (F : Phi) (t : Tgt) (body : List CS) (lk : Nat → Bool) (x : V) (s : St) : Out := match bindT t x s with
  | .next s' => execs F body lk s'
  | o => o
noncomputable def lockOf (lk : Nat → Bool) : V → Nat → Bool
  | .loc j => fun i => i == j || lk i
  | _ => lk
theorem lockOf_le {lk : Nat → Bool} {v : V} {j : Nat} (h : lk j = true) : lockOf lk v j = true := by
  cases v <;> simp [lockOf, h]

theorem next_snd {A : Around} {l : List Env} {ow fx ad : List Addr} {lk : Nat → Bool} {st st' : Store} {s : Shared} {E : Value → Shared → Prop} (hh : A.handled = none) (H : HR prog w base l fx ad st s) {j : Nat} {it : Addr} (hj : ad[j]? = some it) (hlk : lk j = false)
    {o : Option V} (hn : nextIt st j = some (o, st')) {Q : Option Value → Shared → Prop}
    (hQ : ∀ r s', Go l ow ad lk s ad s' → HR prog w base l fx ad st' s' → (∀ env ρ, VR prog w c env fx ad ρ s.heap → VR prog w c env fx ad ρ s'.heap) → (match o with | none => r = none | some x => ∃ v, r = some v ∧ Rep prog w (ad ++ fx) ad s'.heap x v) →
      (∃ ob, s'.heap.get? it = some ob ∧ ob.cls = .type "list_iterator") → Q r s') : wpAny (model prog w) A (pyNext (.ref it)) Q E s := by
  have hin : it ∈ ad := List.mem_of_getElem? hj
  unfold nextIt at hn
  split at hn
  · rename_i k hst
    cases hn
    have hE : Ended s.heap it := H.store j it _ hj hst
    refine next_ended hh hE fun h' hk => ?_
    have g : Grow l s { s with heap := h' } := Grow.heap (tk := s.toks) hk (Nat.le_refl _)
    refine hQ _ _ (.of_grow g (.refl ..)) (H.grow g) (fun env ρ V => V.grow H g) rfl ?_
    obtain ⟨ob, v, h1, h2, _⟩ := hE
    exact ⟨ob, hk _ _ h1, h2⟩
  · rename_i k p hst
    obtain ⟨la, hla, hit⟩ : ∃ la, ad[k]? = some la ∧ s.heap.IsListIter it la p := H.store j it _ hj hst
    split at hn
    · rename_i xs hxs
      obtain ⟨vs, hpl, hbig, hr⟩ := H.store k la _ hla hxs
      split at hn
      · rename_i x hx
        cases hn
        obtain ⟨v, hv, rv⟩ := Reps.get hr hx
        refine wpAny_pyNext_list_item hit hpl.isList (by simpa using hv) fun h' hit' hs' => ?_
        have hs : ∀ b o, b ≠ it → s.heap.get? b = some o → h'.get? b = some o := fun b o hb e => (hs'.2 b hb).trans e
        obtain ⟨ob, h1, h2, h3⟩ := id hit'
        exact hQ _ _ (Go.set H hj hlk hs ⟨ob, h1⟩ (Nat.le_refl _)) (H.set (tk := s.toks) hj hs (o' := .iter k (some (p + 1))) ⟨la, hla, hit'⟩ (Nat.le_refl _)) (fun env ρ V => V.set H hin hs) ⟨v, rfl, Rep.set hin hs rv⟩ ⟨ob, h1, h2⟩
      · rename_i hx
        cases hn
        have hx' : vs.toArray[p]? = none := by
          have hl := Reps.length prog w hr
          rw [List.getElem?_eq_none_iff] at hx
          simp; omega
        refine next_end hh hit hpl.isList hx' fun h' hs hE => ?_
        obtain ⟨ob, v, h1, h2, _⟩ := id hE
        exact hQ _ _ (Go.set H hj hlk hs ⟨ob, h1⟩ (Nat.le_refl _)) (H.set (tk := s.toks) hj hs (o' := .iter k none) hE (Nat.le_refl _)) (fun env ρ V => V.set H hin hs) rfl ⟨ob, h1, h2⟩
    · cases hn
  · cases hn

theorem for_iter {t : Expr} {body : List Stmt} {tg : Tgt} {cb : List CS} (hT : cT c t = some tg) (C : CxOk c) (hb : SndSs prog w base rank F c body cb) {A : Around} {env : Env} {outer : List Env} {fx ow ad : List Addr} {lk : Nat → Bool} {σ : St} {s₁ : Shared}
    {Q : Flow → Shared → Prop} {E : Value → Shared → Prop} (K : EnvOk rank c A env (env :: outer)) (O : Own env ow fx) (H₁ : HR prog w base (env :: outer) fx ad σ.store s₁) (Vr₁ : VR prog w c env fx ad σ.vars s₁.heap) {v : V} {val : Value}
    (r : Rep prog w (ad ++ fx) ad s₁.heap v val) {j : Nat} (hit : iterAt σ.store v = some j) (hlk : lk j = false) {T : V → St → Out} (hTT : T = turnOf F tg cb lk) (P : PostS prog w base c env (env :: outer) ow fx ad lk s₁ (forIter T j fuel σ) Q E) :
    wpAny (model prog w) A (pyIter val) (fun it s₂ => codeAny (model prog w) A (.forLoop t it body [] env) (fun r s' => match r with | .ok f => Q f s' | .error e => cameBackBy (model prog w) A env E e s') s₂) E s₁ := by
  subst hTT
  have hf := K.frame
  obtain ⟨it, k, p, rfl, hj, hst⟩ : ∃ it k p, val = .ref it ∧ ad[j]? = some it ∧ σ.store[j]? = some (.iter k p) := by
    unfold iterAt at hit
    split at hit
    · rename_i j'
      rw [Rep] at r
      obtain ⟨a, ha, rfl⟩ := r
      split at hit
      · rename_i k p hst
        cases hit
        exact ⟨a, k, p, rfl, ha, hst⟩
      · cases hit
    · cases hit
  have hTy : s₁.TypeIs (.ref it) "list_iterator" := by
    have := H₁.store j it _ hj hst
    cases p with
    | some i => obtain ⟨la, _, q⟩ := this; exact q.typeIs
    | none => exact Ended.typeIs this
  refine pyIter_self hTy ?_
  refine codeAny_forLoop_any
    (fun n s' => ∃ ad' σ', Go (env :: outer) ow ad lk s₁ ad' s' ∧ HR prog w base (env :: outer) fx ad' σ'.store s' ∧ VR prog w c env fx ad' σ'.vars s'.heap ∧
      forIter (turnOf F tg cb lk) j n σ' = forIter (turnOf F tg cb lk) j fuel σ) ?_ fuel ⟨ad, σ, .refl .., H₁, Vr₁, rfl⟩
  rintro n s' ⟨ad', σ', G, H', Vr', hl⟩
  cases n with
  | zero => exact absurd hl.symm P.ns
  | succ n =>
    rw [forIter] at hl
    cases hn : nextIt σ'.store j with
    | none => rw [hn] at hl; exact absurd hl.symm P.ns
    | some q =>
      obtain ⟨o, st'⟩ := q
      rw [hn] at hl
      refine next_snd (c := c) (ow := ow) (lk := lk) K.handled H' (G.ext.get hj) hlk hn fun r s₂ G2 H2 V2 ho hob => ?_
      have Vr2 := V2 env _ Vr'
      cases o with
      | none =>
        cases ho
        exact wpAny_execs_nil (P.next _ ad' s₂ hl.symm (G.trans G2) H2 Vr2)
      | some x =>
        obtain ⟨vx, rfl, rx⟩ := ho
        obtain ⟨ob, hob1, hob2⟩ := hob
        refine go_none hob1 hob2 (by decide) ?_
        simp only at hl
        have exc : ∀ (k : Mine.K) (σ'' : Mine.St) (ad'' : List Addr) (s4 s5 : Shared) (ex : Value), turnOf F tg cb lk x { σ' with store := st' } = .exc k σ'' → Go (env :: outer) ow ad' lk s₂ ad'' s4 → HR prog w base (env :: outer) fx ad'' σ''.store s4 →
            VR prog w c env fx ad'' σ''.vars s4.heap → Raised (env :: outer) (topL (env :: outer)) s4 k ex s5 → notedBy (model prog w) A env (fun e s' => cameBackBy (model prog w) A env E e s') ex s5 := by
          intro k σ'' ad'' s4 s5 ex hr G' H'' Vr'' y
          refine loop_raised K.frames hf y fun s6 y' => ?_
          rw [hr] at hl
          exact P.exc k σ'' ad'' s4 s6 ex hl.symm ((G.trans G2).trans G') H'' Vr'' y'
        refine bind_snd (lk := lk) (σ := { σ' with store := st' }) hT C K O H2 Vr2 rx (fun σ4 s4 e4 G6 H4 Vr4 => ?_) (fun k s4 s5 ex e4 G6 H4 Vr4 y => ?_) (fun h => ?_)
        · have et : turnOf F tg cb lk x { σ' with store := st' } = execs F cb lk σ4 := by unfold turnOf; rw [e4]
          have G46 := (G.trans G2).trans G6
          refine hb A env outer fx ow ad' lk σ4 s4 _ _ K O H4 Vr4 ⟨fun σ5 ad5 s5 e5 G7 H5 Vr5 => ?_, fun σ5 ad5 s5 e5 G7 H5 Vr5 => ?_, fun v5 σ5 ad5 s5 val5 e5 G7 H5 r5 => ?_, fun k σ5 ad5 s5 s6 ex e5 G7 H5 Vr5 y => ?_, fun h => ?_⟩
          · rw [et, e5] at hl; exact ⟨n, Nat.lt_succ_self _, ad5, σ5, G46.trans G7, H5, Vr5, hl⟩
          · rw [et, e5] at hl; exact ⟨n, Nat.lt_succ_self _, ad5, σ5, G46.trans G7, H5, Vr5, hl⟩
          · rw [et, e5] at hl; exact P.ret v5 σ5 ad5 s5 val5 hl.symm (G46.trans G7) H5 r5
          · exact exc k σ5 ad5 s5 s6 ex (et.trans e5) (G6.trans G7) H5 Vr5 y
          · rw [et, h] at hl; exact P.ns hl.symm
        · have et : turnOf F tg cb lk x { σ' with store := st' } = .exc k { σ' with store := st' } := by unfold turnOf; rw [e4]
          exact exc k _ ad' s4 s5 ex et G6 H4 Vr4 y
        · have et : turnOf F tg cb lk x { σ' with store := st' } = .stuck := by unfold turnOf; rw [h]
          rw [et] at hl; exact P.ns hl.symm

theorem s_for {t it : Expr} {body : List Stmt} {pos : Pos} {tg : Tgt} {ci : CE} {cb : List CS} (hfs : ∀ env x, foldedSetIterable it env x = pure x) (hT : cT c t = some tg) (C : CxOk c) (hi : SndE prog w base rank F c it ci) (hb : SndSs prog w base rank F c body cb) :
    SndS prog w base rank F c (.For t it body [] pos) (.for_ tg ci cb) := fun A env outer fx ow ad lk σ s Q E K O H Vr P => by
  (first | rw [exec_q1] at P | rw [exec_q2] at P | rw [exec_q3] at P | rw [exec_q4] at P | rw [exec_q5] at P | rw [exec_q6] at P | rw [exec_q7] at P | rw [exec_q8] at P | rw [exec_q9] at P | rw [exec_q10] at P | rw [exec_q11] at P | rw [exec_q12] at P)
  have hf := K.frame
  refine wpAny_For (seqS P H Vr (evalE F σ.store ci σ.vars) (fun e h => by rw [h]) (fun Q' => hi A env _ fx ad σ.vars σ.store s Q' E K H Vr) fun v val s₁ e g r P₁ => ?_) (hfs env)
  simp only [e] at P₁
  have H₁ := H.grow g; have Vr₁ := Vr.grow H g
  cases hys : iterV σ.store v with
  | none =>
    rw [hys] at P₁
    simp only at P₁
    cases hit : iterAt σ.store v with
    | none => rw [hit] at P₁; exact absurd rfl P₁.ns
    | some j =>
      rw [hit] at P₁
      simp only at P₁
      cases hlk : lk j with
      | true => rw [hlk] at P₁; exact absurd rfl P₁.ns
      | false =>
        rw [if_neg (by rw [hlk]; exact Bool.false_ne_true)] at P₁
        exact for_iter hT C hb K O H₁ Vr₁ r hit hlk rfl P₁
  | some ys =>
  rw [hys] at P₁
  have P₂ : PostS prog w base c env (env :: outer) ow fx ad lk s₁ (forLoop (turnOf F tg cb (lockOf lk v)) ys σ) Q E := by
    have e2 : (forLoop (turnOf F tg cb (lockOf lk v)) ys σ) = _ := rfl
    cases v <;> exact P₁
  refine iter_snd H₁ r hys fun o fp Pr St IT hst => ?_
  generalize hI : s₁.heap.objs.size = I at IT hst ⊢
  have hnone : s₁.heap.get? I = none := by rw [← hI]; exact Heap.get?_none_of_le (Nat.le_refl _)
  have g2 : Grow (env :: outer) s₁ { s₁ with heap := s₁.heap.push o } := Grow.heap (tk := s₁.toks) (get_push _ _) (Nat.le_refl _)
  have hIo : ∃ o', (s₁.heap.push o).get? I = some o' := by obtain ⟨o', _, h, _⟩ := IT.obj _ _ hst; exact ⟨o', h⟩
  have hnew : ∀ b ∈ [I], s₁.heap.get? b = none := fun b hb => by rw [List.mem_singleton.mp hb]; exact hnone
  have H₂ : HR prog w base (env :: outer) ([I] ++ fx) ad σ.store { s₁ with heap := s₁.heap.push o } := H₁.enter g2 [I] hnew fun b hb => by rw [List.mem_singleton.mp hb]; exact hIo
  have Vr₂ : VR prog w c env ([I] ++ fx) ad σ.vars (s₁.heap.push o) := VR.wide (s' := { s₁ with heap := s₁.heap.push o }) H₁ Vr₁ g2 hnew
  have O₂ := O.wide [I]
  have hIfs : I ∉ fsOf (env :: outer) := fun q => by obtain ⟨_, o', e', _⟩ := H₁.frames.mem q; rw [hnone] at e'; cases e'
  have hthI : ∀ b ∈ fx, b ≠ sysModules → b ≠ I := fun b hb hs q => by
    rcases H₁.there b (List.mem_append_right _ hb) with h | ⟨o', h⟩
    · exact hs h
    · rw [q, hnone] at h; cases h
  have hbig : 3 < s₁.heap.objs.size := let ⟨o', e⟩ := H₁.main; Heap.lt_size e
  have hIsys : I ≠ sysModules := by show ¬ I = 1; omega
  have hImain : I ≠ mainGlobals := by
    obtain ⟨o', e⟩ := H₁.main
    intro q; rw [← q, hnone] at e; cases e
  have hIow : I ∉ ow := fun q => hthI I (O.sub I q).1 (O.sub I q).2 rfl
  have hIfx : ∀ b ∈ [I], b ∉ fx := fun b hb q => by
    have hb' := List.mem_singleton.mp hb
    rw [hb'] at q
    exact hthI I q hIsys rfl
  have out : ∀ {ad' : List Addr} {st' : Store} {s' : Shared}, HR prog w base (env :: outer) ([I] ++ fx) ad' st' s' → HR prog w base (env :: outer) fx ad' st' s' := fun H' => by
    have := H'.leave (h' := _) (tk := _) H₁.fsX H₁.one hIfx (fun q => hImain (List.mem_singleton.mp q).symm) (fun b o _ e => e) (Nat.le_refl _)
    exact this
  have outV : ∀ {ad' : List Addr} {ρ : Vars} {h : Heap}, VR prog w c env ([I] ++ fx) ad' ρ h → VR prog w c env fx ad' ρ h := fun V' => V'.leave O hIfx fun b o _ e => e
  have outR : ∀ {ad' : List Addr} {h : Heap} {v : V} {val : Value}, Rep prog w (ad' ++ ([I] ++ fx)) ad' h v val → Rep prog w (ad' ++ fx) ad' h v val := fun r' => r'.leave fun b o _ e => e
  generalize hs₂ : ({ s₁ with heap := s₁.heap.push o } : Shared) = s₂ at g2 H₂
  have hp₂ : s₂.heap = s₁.heap.push o := by rw [← hs₂]
  have up₂ : ∀ b o', s₁.heap.get? b = some o' → s₂.heap.get? b = some o' := fun b o' e => by rw [hp₂]; exact get_push _ _ _ _ e
  have thI : ∃ o', s₂.heap.get? I = some o' := by rw [hp₂]; exact hIo
  have from2 : ∀ b o', s₂.heap.get? b = some o' → b = I ∨ ∃ o'', s₁.heap.get? b = some o'' := by
    intro b o' e
    rw [hp₂] at e
    by_cases q : b = I
    · exact .inl q
    · right
      have hlt := Heap.lt_size e
      rw [Heap.size_push] at hlt
      have hne : b ≠ s₁.heap.objs.size := by rw [hI]; exact q
      refine ⟨o', ?_⟩
      rwa [Heap.get?_push_ne _ _ _ hne] at e
  have W := IT.walk A K.handled
  have foot : ∀ {ad' : List Addr}, Ext ad ad' s₂ → ∀ b ∈ fp, b ∉ fsOf (env :: outer) ∧ b ∉ ow ∧ ∀ j : Nat, ad'[j]? = some b → lockOf lk v j = true := by
    intro ad' x b hb
    rcases IT.foot b hb with rfl | ⟨⟨o', ho'⟩, hX⟩
    · refine ⟨hIfs, hIow, fun j hj => ?_⟩
      exfalso
      obtain ⟨new, rfl, hn⟩ := x
      rcases List.mem_append.mp (List.mem_of_getElem? hj) with q | q
      · rcases H₁.there b (List.mem_append_left _ q) with h | ⟨o'', h⟩
        · exact hIsys h
        · rw [hnone] at h; cases h
      · obtain ⟨o'', h⟩ := thI
        rw [hn _ q] at h; cases h
    · refine ⟨fun q => ?_, fun q => ?_, fun j hj => ?_⟩
      · obtain ⟨j, _, hj⟩ := hX (List.mem_append_right _ (H₁.fsX b q))
        exact H₁.apart b (List.mem_of_getElem? hj) (H₁.fsX b q)
      · obtain ⟨j, _, hj⟩ := hX (List.mem_append_right _ (O.sub b q).1)
        exact H₁.apart b (List.mem_of_getElem? hj) (O.sub b q).1
      · obtain ⟨new, rfl, hn⟩ := x
        by_cases hlt : j < ad.length
        · rw [List.getElem?_append_left hlt] at hj
          obtain ⟨j', rfl, hj'⟩ := hX (List.mem_append_left _ (List.mem_of_getElem? hj))
          have : j = j' := by
            obtain ⟨l1, e1⟩ := List.getElem?_eq_some_iff.mp hj
            obtain ⟨l2, e2⟩ := List.getElem?_eq_some_iff.mp hj'
            exact (List.getElem_inj H₁.nodup).mp (e1.trans e2.symm)
          subst this
          simp [lockOf]
        · rw [List.getElem?_append_right (by omega)] at hj
          have := up₂ b o' ho'
          rw [hn b (List.mem_of_getElem? hj)] at this; cases this
  refine codeAny_forLoop_any
    (fun n s' => ∃ i ad' σ', n = ys.length - i ∧ i ≤ ys.length ∧ Go (env :: outer) ow ad lk s₁ ad' s' ∧ Ext ad ad' s₂ ∧ HR prog w base (env :: outer) ([I] ++ fx) ad' σ'.store s' ∧ VR prog w c env ([I] ++ fx) ad' σ'.vars s'.heap ∧ St i s'.heap ∧
      forLoop (turnOf F tg cb (lockOf lk v)) (ys.drop i) σ' = forLoop (turnOf F tg cb (lockOf lk v)) ys σ) ?_ ys.length ⟨0, ad, σ, rfl, Nat.zero_le _, .of_grow g2 (.refl ..), .refl .., H₂, by rw [hp₂]; exact Vr₂, by rw [hp₂]; exact hst, rfl⟩
  rintro n s' ⟨i, ad', σ', rfl, hi', G, X, H', Vr', hst', hloop⟩
  have nI : ∀ b o', s₁.heap.get? b = some o' → b ≠ I := fun b o' e q => by rw [q, hnone] at e; cases e
  by_cases hlt : i < ys.length
  · obtain ⟨x, hx⟩ : ∃ x, ys[i]? = some x := ⟨ys[i], by simp [hlt]⟩
    rw [drop_cons hx, forLoop] at hloop
    refine wpT (W.item i s' _ _ hlt hst' fun vi h' tk hP hst2 hk htk => ?_)
    obtain ⟨oI, n, hoI, hcI, hnI⟩ := IT.obj _ _ hst2
    refine go_none hoI hcI hnI ?_
    have hk' : ∀ b o, b ≠ I → s'.heap.get? b = some o → h'.get? b = some o := fun b o hb e => hk b o (by simpa using hb) e
    generalize hs₃ : ({ s' with heap := h', toks := tk } : Shared) = s₃
    have hp₃ : s₃.heap = h' := by rw [← hs₃]
    have H3 : HR prog w base (env :: outer) ([I] ++ fx) ad' σ'.store s₃ := by rw [← hs₃]; exact H'.step (List.mem_append_left _ (List.mem_singleton.mpr rfl)) hIsys hIfs hk' ⟨oI, hoI⟩ htk
    have Vr3 : VR prog w c env ([I] ++ fx) ad' σ'.vars s₃.heap := by rw [hp₃]; exact Vr'.step O₂ (List.mem_append_left _ (List.mem_singleton.mpr rfl)) hIow hk'
    have G4 : Go (env :: outer) ow ad lk s₁ ad' s₃ := by
      rw [← hs₃]
      refine ⟨G.gens, G.os, Nat.le_trans G.toks htk, G.ext, fun b o' e => ?_, fun b o' e h1 h2 h3 => hk' b o' (nI b o' e) (G.exact b o' e h1 h2 h3), fun b o' e h1 h2 => ?_⟩
      · obtain ⟨o'', e''⟩ := G.there b _ e
        exact ⟨o'', hk' b o'' (nI b o' e) e''⟩
      · obtain ⟨sl, e''⟩ := G.slots b _ e h1 h2
        exact ⟨sl, hk' b _ (nI b o' e) e''⟩
    have rx : Rep prog w (ad' ++ ([I] ++ fx)) ad' s₃.heap x vi := by
      refine Rep.up prog w (fun b o hb e => G4.exact b o e (fun q => hb (List.mem_append_right _ (H₁.fsX b q))) (fun q => hb (List.mem_append_right _ (O.sub b q).1))
        fun j hj => absurd (List.mem_append_left _ (List.mem_of_getElem? hj)) hb) (fun b o hb e => ?_) (fun i a h => G.ext.get h) (IT.item i x vi hP hx)
      obtain ⟨new, rfl, hn⟩ := G.ext
      rcases List.mem_append.mp hb with q | q
      · rcases List.mem_append.mp q with q | q
        · exact List.mem_append_left _ q
        · rw [hn b q] at e; cases e
      · rcases List.mem_append.mp q with q | q
        · rw [List.mem_singleton.mp q, hnone] at e; cases e
        · exact List.mem_append_right _ q
    have hst3 : St (i + 1) s₃.heap := by rw [hp₃]; exact hst2
    have th3 : ∀ b o', s₂.heap.get? b = some o' → ∃ o'', s₃.heap.get? b = some o'' := by
      intro b o' e
      rcases from2 b o' e with rfl | ⟨o'', e''⟩
      · rw [hp₃]; exact ⟨oI, hoI⟩
      · exact G4.there b o'' e''
    have lift : ∀ {ad'' : List Addr} {s'' : Shared}, Go (env :: outer) ow ad' (lockOf lk v) s₃ ad'' s'' → Go (env :: outer) ow ad lk s₁ ad'' s'' ∧ Ext ad ad'' s₂ ∧ St (i + 1) s''.heap := by
      intro ad'' s'' G'
      refine ⟨G4.trans (G'.lock fun j h => lockOf_le h), X.trans G'.ext th3, ?_⟩
      refine W.frame _ _ _ hst3 fun b hb o' e => ?_
      obtain ⟨f1, f2, f3⟩ := foot X b hb
      exact G'.exact b o' e f1 f2 f3
    have turn : ∀ (r : Out) (ad'' : List Addr) (σ'' : Mine.St) (s'' : Shared), r = turnOf F tg cb (lockOf lk v) x σ' → (r = .next σ'' ∨ r = .cont σ'') → Go (env :: outer) ow ad' (lockOf lk v) s₃ ad'' s'' → HR prog w base (env :: outer) ([I] ++ fx) ad'' σ''.store s'' →
        VR prog w c env ([I] ++ fx) ad'' σ''.vars s''.heap → ∃ m, m < ys.length - i ∧ ∃ i ad' σ', m = ys.length - i ∧ i ≤ ys.length ∧ Go (env :: outer) ow ad lk s₁ ad' s'' ∧ Ext ad ad' s₂ ∧ HR prog w base (env :: outer) ([I] ++ fx) ad' σ'.store s'' ∧ VR prog w c env ([I] ++ fx) ad' σ'.vars s''.heap ∧ St i s''.heap ∧
          forLoop (turnOf F tg cb (lockOf lk v)) (ys.drop i) σ' = forLoop (turnOf F tg cb (lockOf lk v)) ys σ := by
      intro r ad'' σ'' s'' hr hrr G' H'' Vr''
      obtain ⟨l1, l2, l3⟩ := lift G'
      refine ⟨ys.length - (i + 1), by omega, i + 1, ad'', σ'', rfl, hlt, l1, l2, H'', Vr'', l3, ?_⟩
      rw [← hloop, ← hr]
      rcases hrr with rfl | rfl <;> rfl
    have exc : ∀ (k : Mine.K) (σ'' : Mine.St) (ad'' : List Addr) (s4 s5 : Shared) (ex : Value), turnOf F tg cb (lockOf lk v) x σ' = .exc k σ'' → Go (env :: outer) ow ad' (lockOf lk v) s₃ ad'' s4 → HR prog w base (env :: outer) ([I] ++ fx) ad'' σ''.store s4 →
        VR prog w c env ([I] ++ fx) ad'' σ''.vars s4.heap → Raised (env :: outer) (topL (env :: outer)) s4 k ex s5 → notedBy (model prog w) A env (fun e s' => cameBackBy (model prog w) A env E e s') ex s5 := by
      intro k σ'' ad'' s4 s5 ex hr G' H'' Vr'' y
      refine loop_raised K.frames hf y fun s6 y' => ?_
      rw [hr] at hloop
      exact P₂.exc k σ'' ad'' s4 s6 ex (by rw [← hloop]) (lift G').1 (out H'') (outV Vr'') y'
    refine bind_snd (lk := lockOf lk v) hT C K O₂ H3 Vr3 rx (fun σ4 s4 e4 G6 H4 Vr4 => ?_) (fun k s4 s5 ex e4 G6 H4 Vr4 y => ?_) (fun h => ?_)
    · have et : turnOf F tg cb (lockOf lk v) x σ' = execs F cb (lockOf lk v) σ4 := by unfold turnOf; rw [e4]
      refine hb A env outer ([I] ++ fx) ow ad' (lockOf lk v) σ4 s4 _ _ K O₂ H4 Vr4 ⟨fun σ5 ad5 s5 e5 G7 H5 Vr5 => ?_, fun σ5 ad5 s5 e5 G7 H5 Vr5 => ?_, fun v5 σ5 ad5 s5 val5 e5 G7 H5 r5 => ?_, fun k σ5 ad5 s5 s6 ex e5 G7 H5 Vr5 y => ?_, fun h => ?_⟩
      · exact turn _ ad5 σ5 s5 (et.trans e5 ▸ rfl) (.inl (et.trans e5)) (G6.trans G7) H5 Vr5
      · exact turn _ ad5 σ5 s5 (et.trans e5 ▸ rfl) (.inr (et.trans e5)) (G6.trans G7) H5 Vr5
      · rw [et, e5] at hloop
        exact P₂.ret v5 σ5 ad5 s5 val5 (by rw [← hloop]) (lift (G6.trans G7)).1 (out H5) (outR r5)
      · exact exc k σ5 ad5 s5 s6 ex (et.trans e5) (G6.trans G7) H5 Vr5 y
      · rw [et, h] at hloop
        exact P₂.ns (by rw [← hloop])
    · have et : turnOf F tg cb (lockOf lk v) x σ' = .exc k σ' := by unfold turnOf; rw [e4]
      exact exc k σ' ad' s4 s5 ex et G6 H4 Vr4 y
    · have et : turnOf F tg cb (lockOf lk v) x σ' = .stuck := by unfold turnOf; rw [h]
      rw [et] at hloop
      exact P₂.ns (by rw [← hloop])
  · have e0 : i = ys.length := by omega
    subst e0
    rw [List.drop_length, forLoop] at hloop
    refine wpT (W.done s' _ _ hst' fun h' tk hk htk => ?_)
    have hk' : ∀ b o, b ≠ I → s'.heap.get? b = some o → h'.get? b = some o := fun b o hb e => hk b o (by simpa using hb) e
    refine wpAny_execs_nil (P₂.next σ' ad' _ hloop.symm ?_ (H'.leave H₁.fsX H₁.one hIfx (fun q => hImain (List.mem_singleton.mp q).symm) hk htk) (Vr'.leave O hIfx hk))
    refine ⟨G.gens, G.os, Nat.le_trans G.toks htk, G.ext, fun b o' e => ?_, fun b o' e h1 h2 h3 => hk' b o' (nI b o' e) (G.exact b o' e h1 h2 h3), fun b o' e h1 h2 => ?_⟩
    · obtain ⟨o'', e''⟩ := G.there b _ e
      exact ⟨o'', hk' b o'' (nI b o' e) e''⟩
    · obtain ⟨sl, e''⟩ := G.slots b _ e h1 h2
      exact ⟨sl, hk' b _ (nI b o' e) e''⟩
end
end Mine

end
section
set_option autoImplicit false
namespace Mine
open PySem PyProof.Rows

section
variable {prog : Program} {w : World} {base : Heap} {mg mb : Str → Option Value} {rank : Nat} {F : Phi} {c : Cx}

theorem s_while {t : Expr} {body : List Stmt} {pos : Pos} {ct : CE} {cb : List CS} (ht : SndT prog w base rank F c t ct) (hb : SndSs prog w base rank F c body cb) :
    SndS prog w base rank F c (.While t body [] pos) (.while_ ct cb) := fun A env outer fx ow ad lk σ s Q E K O H Vr P => by
  (first | rw [exec_q1] at P | rw [exec_q2] at P | rw [exec_q3] at P | rw [exec_q4] at P | rw [exec_q5] at P | rw [exec_q6] at P | rw [exec_q7] at P | rw [exec_q8] at P | rw [exec_q9] at P | rw [exec_q10] at P | rw [exec_q11] at P | rw [exec_q12] at P)
  refine wpAny_While ?_
  refine codeAny_whileLoop
    (fun n s' => ∃ ad' σ', Go (env :: outer) ow ad lk s ad' s' ∧ HR prog w base (env :: outer) fx ad' σ'.store s' ∧ VR prog w c env fx ad' σ'.vars s'.heap ∧
      whileLoop (fun s => evalT F s.store ct s.vars) (fun s => execs F cb lk s) n σ' = whileLoop (fun s => evalT F s.store ct s.vars) (fun s => execs F cb lk s) fuel σ) ?_ fuel ⟨ad, σ, .refl .., H, Vr, rfl⟩
  rintro n s' ⟨ad', σ', G, H', Vr', hl⟩
  cases n with
  | zero => exact absurd hl.symm P.ns
  | succ n =>
    rw [whileLoop] at hl
    refine ht A env _ fx ad' σ'.vars σ'.store s' _ _ K H' Vr' ⟨fun a b s₂ ea g rb => ?_, fun k e s₁ s'' h g x => ?_, fun h => ?_⟩
    · cases rb
      simp only [ea] at hl
      have G2 : Go (env :: outer) ow ad lk s ad' s₂ := G.trans (.of_grow g (.refl ..))
      cases a with
      | false =>
        simp only at hl
        exact wpAny_execs_nil (P.next σ' ad' s₂ hl.symm G2 (H'.grow g) (Vr'.grow H' g))
      | true =>
        simp only at hl
        refine hb A env outer fx ow ad' lk σ' s₂ _ _ K O (H'.grow g) (Vr'.grow H' g) ⟨fun σ5 ad5 s5 e5 G7 H5 Vr5 => ?_, fun σ5 ad5 s5 e5 G7 H5 Vr5 => ?_, fun v5 σ5 ad5 s5 val5 e5 G7 H5 r5 => ?_, fun k σ5 ad5 s5 s6 ex e5 G7 H5 Vr5 y => ?_, fun h => ?_⟩
        · rw [e5] at hl; exact ⟨n, Nat.lt_succ_self _, ad5, σ5, G2.trans G7, H5, Vr5, hl⟩
        · rw [e5] at hl; exact ⟨n, Nat.lt_succ_self _, ad5, σ5, G2.trans G7, H5, Vr5, hl⟩
        · rw [e5] at hl; exact P.ret v5 σ5 ad5 s5 val5 hl.symm (G2.trans G7) H5 r5
        · rw [e5] at hl; exact absurd hl.symm P.ns
        · rw [h] at hl; exact absurd hl.symm P.ns
    · rw [h] at hl; exact absurd hl.symm P.ns
    · rw [h] at hl; exact absurd hl.symm P.ns

theorem evalE_comp {st : Store} {ρ : Vars} {elt it : CE} {k : Option Nat} {cond : Option CE} : evalE F st (.comp elt k it cond) ρ = match evalE F st it ρ with
    | .error e => .error e
    | .ok s => match iterV st s with
      | .none => stuck
      | some xs => match compLoop (turnF F st ρ k elt cond) xs with
        | .error _ => stuck
        | .ok ys => if xs.length ≤ big then .ok (.list ys) else stuck := by (first | rw [evalE_q1] | rw [evalE_q2] | rw [evalE_q3] | rw [evalE_q4] | rw [evalE_q5] | rw [evalE_q6] | rw [evalE_q7] | rw [evalE_q8] | rw [evalE_q9] | rw [evalE_q10] | rw [evalE_q11] | rw [evalE_q12] | rw [evalE_q13] | rw [evalE_q14] | rw [evalE_q15] | rw [evalE_q16] | rw [evalE_q17] | rw [evalE_q18] | rw [evalE_q19] | rw [evalE_q20]); rfl

theorem comp_store {A : Around} {env : Env} {outer : List Env} {fx ow ad : List Addr} {lk : Nat → Bool} {st : Store} {ρ : Vars} {s₁ s' : Shared} {zs : List V} {D Cc : Addr} {x : Str} {kx : Nat} {px : Pos} {Q : Flow → Shared → Prop} {E : Value → Shared → Prop} (C : CxOk c) (K : EnvOk rank c A env (env :: outer)) (O : Own env ow fx)
    (hk1 : c.sc.lookup x = some .local ∨ c.sc.lookup x = some .cell) (hk2 : c.γ.lookup x = some kx) (H₁ : HR prog w base (env :: outer) fx ad st s₁) (Vr₁ : VR prog w c env fx ad ρ s₁.heap) (S : CompEndSt prog w (env :: outer) fx ad s₁ zs D Cc s') (hbig : zs.length ≤ Mine.big)
    (hQ : ∀ s'', Go (env :: outer) ow ad lk s₁ ad s'' → HR prog w base (env :: outer) fx ad st s'' → VR prog w c env fx ad (ρ.set kx (some (.list zs))) s''.heap → Q .next s'') :
    compPost (model prog w) A E (some (assign (.Name x px) env)) (fun _ s' => Q .next s') (.ref D) Cc (.ok .next) s' := by
  show wpAny _ A (assign (.Name x px) env (.ref D)) _ _ _
  obtain ⟨m, hm⟩ := S.ns
  have hnew : ∀ b ∈ [Cc], s₁.heap.get? b = none := fun b hb => by rw [List.mem_singleton.mp hb]; exact S.newC
  have hth : ∀ b ∈ [Cc], ∃ o, s'.heap.get? b = some o := fun b hb => by rw [List.mem_singleton.mp hb]; obtain ⟨o, _, _, ho, _⟩ := hm; exact ⟨o, ho⟩
  have H2 := H₁.enter S.g [Cc] hnew hth
  have Vr2 := Vr₁.wide H₁ S.g hnew
  have nC : ∀ b o', s₁.heap.get? b = some o' → b ≠ Cc := fun b o' e q => by rw [q, S.newC] at e; cases e
  have hCow : Cc ∉ ow := fun q => by
    rcases H₁.there Cc (List.mem_append_right _ (O.sub Cc q).1) with h | ⟨o', h⟩
    · exact S.sysC h
    · exact nC _ _ h rfl
  have hCfx : ∀ b ∈ [Cc], b ∉ fx := fun b hb q => by
    rw [List.mem_singleton.mp hb] at q
    rcases H₁.there Cc (List.mem_append_right _ q) with h | ⟨o', h⟩
    · exact S.sysC h
    · exact nC _ _ h rfl
  have hCm : mainGlobals ∉ [Cc] := fun q => by obtain ⟨o', e⟩ := H₁.main; exact nC _ _ e (List.mem_singleton.mp q)
  refine wpAny_assign_Name (store_var C K H2 Vr2 hk1 hk2 (S.rep H₁ hbig) fun a h' tk hloc ha ha' hsb htk H3 Vr3 => ?_)
  have hao : a ∈ ow := by
    rcases hk1 with q | q
    · rw [hloc.1 q]; exact O.loc
    · exact O.cell x a (hloc.2 q)
  have haC : Cc ≠ a := fun q => hCow (q ▸ hao)
  refine ⟨m, hm.sameBut hsb haC, fun h'' hs'' => ?_⟩
  have hk : ∀ b o, b ∉ [Cc] → h'.get? b = some o → h''.get? b = some o := fun b o hb e => (hs''.2 b (by simpa using hb)).trans e
  have H4 := H3.leave (h' := h'') (tk := tk) H₁.fsX H₁.one hCfx hCm hk (Nat.le_refl _)
  have Vr4 := Vr3.leave O hCfx hk
  refine hQ _ ?_ H4 Vr4
  refine ⟨S.g.gens, S.g.os, Nat.le_trans S.g.toks htk, .refl .., fun b o' e => ?_, fun b o' e h1 h2 h3 => ?_, fun b o' e h1 h2 => ?_⟩
  · by_cases q : b ∈ ow
    · rcases H4.there b (List.mem_append_right _ (O.sub b q).1) with h | h
      · exact absurd h (O.sub b q).2
      · exact h
    · obtain ⟨o2, e2⟩ := S.g.there b o' e
      have e3 : h'.get? b = some o2 := (hsb.2 b fun z => q (z ▸ hao)).trans e2
      exact ⟨o2, hk b o2 (by simpa using nC b o' e) e3⟩
  · have e2 := S.g.keep.exact b o' e h1
    have e3 : h'.get? b = some o' := (hsb.2 b fun z => h2 (z ▸ hao)).trans e2
    exact hk b o' (by simpa using nC b o' e) e3
  · obtain ⟨sl, e2⟩ := S.g.keep.slots b o' e h1
    have e3 : h'.get? b = some _ := (hsb.2 b fun z => h2 (z ▸ hao)).trans e2
    exact ⟨sl, hk b _ (by simpa using nC b o' e) e3⟩
theorem s_assign_comp {x : Str} {px pos cp : Pos} {elt t it : Expr} {ifs : List Expr} {scope : Scope} {tg : Tgt} {xs : List Str} {k : Option Nat} {cit ce' : CE} {cf : Option CE} (C : CxOk c) (hT : cT c (.Name x px) = some tg)
    (ok : CompOk c scope xs) (htg : tgtNames t = some (k, xs)) (hfs : ∀ env x, foldedSetIterable it env x = pure x) (sit : SndE prog w base rank F c it cit) (selt : SndE prog w base rank F (cxComp c scope xs) elt ce')
    (scond : (ifs = [] ∧ cf = none) ∨ ∃ e ct, ifs = [e] ∧ cf = some ct ∧ SndT prog w base rank F (cxComp c scope xs) e ct) :
    SndS prog w base rank F c (.Assign [.Name x px] (.ListComp elt [⟨t, it, ifs, 0⟩] scope cp) pos) (.assign tg (.old (.comp ce' k cit cf))) := fun A env outer fx ow ad lk σ s Q E K O H Vr P => by
  have hsw : swapsWith (.ListComp elt [⟨t, it, ifs, 0⟩] scope cp) (some (.Name x px)) pos.line env = pure (env.blockKind == .function && env.kindOf x == some .local && px.line == cp.line && !(scope.names.any fun (n, k) => n == x && (k == .local || k == .cell))) := rfl
  cases hb : (env.blockKind == .function && env.kindOf x == some .local && px.line == cp.line && !(scope.names.any fun (n, k) => n == x && (k == .local || k == .cell))) with
  | false =>
    rw [hb] at hsw
    (first | rw [exec_q1] at P | rw [exec_q2] at P | rw [exec_q3] at P | rw [exec_q4] at P | rw [exec_q5] at P | rw [exec_q6] at P | rw [exec_q7] at P | rw [exec_q8] at P | rw [exec_q9] at P | rw [exec_q10] at P | rw [exec_q11] at P | rw [exec_q12] at P)
    refine wpAny_Assign_stores (seqA P H Vr (evalA F (.old (.comp ce' k cit cf)) σ.vars σ.store) (fun e h => by rw [h]) (fun Q' => snda_old (snd_comp ok C htg hfs sit selt scond) A env _ fx ad σ.vars σ.store s Q' E K H Vr) fun a st' ad' b s₁ e g xx H₁ Vr₁ r P₁ => ?_) hsw rfl
    simp only [e] at P₁
    show wpAny (model prog w) A (assign (.Name x px) env b) _ E s₁
    exact bind_snd (t := .Name x px) (σ := ⟨σ.vars, st'⟩) (lk := lk) hT C K O H₁ Vr₁ r (fun σ' s' e g H' Vr' => P₁.next σ' ad' s' e g H' Vr') (fun k s₂ s' ex e g H' Vr' y => P₁.exc k _ ad' s₂ s' ex e g H' Vr' y) P₁.ns
  | true =>
    rw [hb] at hsw
    obtain ⟨kx, hkx, rfl⟩ : ∃ kx, slot c x = some kx ∧ tg = .one kx := by
      rw [cT] at hT
      split at hT
      · rename_i kx hk; cases hT; exact ⟨kx, hk, rfl⟩
      · cases hT
    obtain ⟨hk1, hk2⟩ := slot_kind hkx
    have C' := ok.cx C
    have P' : PostS prog w base c env (env :: outer) ow fx ad lk s (match evalE F σ.store cit σ.vars with
      | .error e => .ofErr σ e
      | .ok v => match iterV σ.store v with
        | .none => .stuck
        | some ys => match compLoop (turnF F σ.store σ.vars k ce' cf) ys with
          | .error _ => .stuck
          | .ok zs => if ys.length ≤ big then .next ⟨σ.vars.set kx (some (.list zs)), σ.store⟩ else .stuck) Q E := by
      have e : (match evalE F σ.store cit σ.vars with
        | .error e => .ofErr σ e
        | .ok v => match iterV σ.store v with
          | .none => .stuck
          | some ys => match compLoop (turnF F σ.store σ.vars k ce' cf) ys with
            | .error _ => .stuck
            | .ok zs => if ys.length ≤ big then .next ⟨σ.vars.set kx (some (.list zs)), σ.store⟩ else .stuck) = exec F (.assign (.one kx) (.old (.comp ce' k cit cf))) lk σ := by
        ((first | rw [exec_q1] | rw [exec_q2] | rw [exec_q3] | rw [exec_q4] | rw [exec_q5] | rw [exec_q6] | rw [exec_q7] | rw [exec_q8] | rw [exec_q9] | rw [exec_q10] | rw [exec_q11] | rw [exec_q12]); (first | rw [evalA_q1] | rw [evalA_q2] | rw [evalA_q3] | rw [evalA_q4] | rw [evalA_q5]); rw [evalE_comp])
        cases h1 : evalE F σ.store cit σ.vars with
        | error e => rfl
        | ok v =>
          simp only
          cases h2 : iterV σ.store v with
          | none => rfl
          | some ys =>
            simp only
            cases h3 : compLoop (turnF F σ.store σ.vars k ce' cf) ys with
            | error e => rfl
            | ok zs =>
              simp only
              split <;> rfl
      rw [e]; exact P
    obtain ⟨cl, hcl, h1, h2⟩ := closureFor_comp ok (env := env) fun y hy => let ⟨a, _, h, _⟩ := Vr.cell y hy; ⟨a, h⟩
    rw [exec_Assign_Name_used _ _ _ _ hsw]
    refine wpAny_bind (wpAny_standAt (wpAny_bind ?_))
    show wpAny _ A (do let _ ← comprehension (.ListComp elt [⟨t, it, ifs, 0⟩] scope cp) scope env _ (newList []) false (eval it env) (some (assign (.Name x px) env))) _ _ s
    refine wpAny_bind (wpAny_mono (wpAny_comprehension_free (use := some (assign (.Name x px) env)) (Q := fun _ s' => Q .next s') rfl (fun y => hfs env y) hcl ok.kind (fun p hp hl => (ok.local_ p hp hl).1) ?_) (fun _ s' hq => wpAny_pure (wpAny_pure hq)) fun _ _ e => e)
    refine seqS P' H Vr (evalE F σ.store cit σ.vars) (fun e h => by rw [h]) (fun Q' => sit A env _ fx ad σ.vars σ.store s Q' E K H Vr) fun v val s₁ e g r P₁ => ?_
    simp only [e] at P₁
    have H₁ := H.grow g; have Vr₁ := Vr.grow H g
    split at P₁
    · exact absurd rfl P₁.ns
    rename_i ys hys
    split at P₁
    · exact absurd rfl P₁.ns
    rename_i zs hzs
    split at P₁
    · rename_i hbig
      refine comp_start (R := fun acc Cc => compPost (model prog w) A E (some (assign (.Name x px) env)) (fun _ s' => Q .next s') acc Cc) ok C K H₁ Vr₁ h1 h2 htg selt scond r hys hzs fun D Cc s' S => ?_
      exact comp_store C K O hk1 hk2 H₁ Vr₁ S (Nat.le_trans (compLoop_len hzs) hbig) fun s'' g4 H4 Vr4 => P₁.next _ ad _ rfl g4 H4 Vr4
    · exact absurd rfl P₁.ns
theorem s_ac0 {x : Str} {px pos cp : Pos} {elt t it : Expr} {scope : Scope} {tg : Tgt} {xs : List Str} {k : Option Nat} {cit ce' : CE} (C : CxOk c) (hT : cT c (.Name x px) = some tg)
    (ok : okComp c scope xs = true) (htg : tgtNames t = some (k, xs)) (hfs : ∀ env x, foldedSetIterable it env x = pure x) (sit : SndE prog w base rank F c it cit) (selt : CxOk (cxComp c scope xs) → SndE prog w base rank F (cxComp c scope xs) elt ce') :
    SndS prog w base rank F c (.Assign [.Name x px] (.ListComp elt [⟨t, it, [], 0⟩] scope cp) pos) (.assign tg (.old (.comp ce' k cit none))) :=
  s_assign_comp C hT (compOk ok) htg hfs sit (selt ((compOk ok).cx C)) (.inl ⟨rfl, rfl⟩)
theorem s_as {x : Str} {p pos : Pos} {v : Expr} {tg : Tgt} {ae : AE} (hc : notComp v = true) (hT : cT c (.Name x p) = some tg) (C : CxOk c) (ha : SndA prog w base rank F c v ae) : SndS prog w base rank F c (.Assign [.Name x p] v pos) (.assign tg ae) :=
  s_assign_name (fun env A l K => swaps_false hc _ _ _) hT C ha
end
theorem nc_const {v : Const} {k : Nat} {p : Pos} : notComp (.Constant v k p) = true := rfl
theorem ns_const {v : Const} {k : Nat} {p : Pos} : NotStar (.Constant v k p) := fun _ _ => rfl
theorem pb_const {v : Const} {k : Nat} {p : Pos} : plainBase (.Constant v k p) = true := rfl
theorem bm_const {v : Const} {k : Nat} {p : Pos} {q : CmpOp} : behindInMarks q (.Constant v k p) = false := rfl
theorem ns_name {nm : Str} {p : Pos} : NotStar (.Name nm p) := fun _ _ => rfl
theorem nl_name {nm : Str} {p : Pos} : notSlice (.Name nm p) = true := rfl
theorem pb_name {nm : Str} {p : Pos} : plainBase (.Name nm p) = true := rfl
theorem fs_name {nm : Str} {p : Pos} : ∀ (env : Env) (x : Value), foldedSetIterable (.Name nm p) env x = pure x := fun _ _ => rfl
theorem bm_name {nm : Str} {p : Pos} {q : CmpOp} : behindInMarks q (.Name nm p) = false := rfl
theorem nc_bin {a b : Expr} {o : Operator} {p : Pos} : notComp (.BinOp a o b p) = true := rfl
theorem ns_bin {a b : Expr} {o : Operator} {p : Pos} : NotStar (.BinOp a o b p) := fun _ _ => rfl
theorem nl_bin {a b : Expr} {o : Operator} {p : Pos} : notSlice (.BinOp a o b p) = true := rfl
theorem bm_bin {a b : Expr} {o : Operator} {p : Pos} {q : CmpOp} : behindInMarks q (.BinOp a o b p) = false := rfl
theorem nl_un {a : Expr} {o : UnaryOp} {p : Pos} : notSlice (.UnaryOp o a p) = true := rfl
theorem nc_list {es : List Expr} {p : Pos} : notComp (.List es p) = true := rfl
theorem ns_list {es : List Expr} {p : Pos} : NotStar (.List es p) := fun _ _ => rfl
theorem nc_sub {a b : Expr} {p : Pos} : notComp (.Subscript a b p) = true := rfl
theorem ns_sub {a b : Expr} {p : Pos} : NotStar (.Subscript a b p) := fun _ _ => rfl
theorem pb_sub {a b : Expr} {p : Pos} : plainBase (.Subscript a b p) = true := rfl
theorem nc_call {f : Expr} {as : List Expr} {ks : List Keyword} {p : Pos} : notComp (.Call f as ks p) = true := rfl
theorem nt_call {f : Expr} {as : List Expr} {ks : List Keyword} {p : Pos} : isTupleE (.Call f as ks p) = false := rfl
theorem ns_call {f : Expr} {as : List Expr} {ks : List Keyword} {p : Pos} : NotStar (.Call f as ks p) := fun _ _ => rfl
theorem bm_call {f : Expr} {as : List Expr} {ks : List Keyword} {p : Pos} {q : CmpOp} : behindInMarks q (.Call f as ks p) = false := rfl
end Mine

end
section
set_option autoImplicit false
namespace Mine
open PySem PyProof.Rows

noncomputable def K.name : K → String
  | .value => "ValueError"
  | .index => "IndexError"
  | .type => "TypeError"
theorem K.cls_name (k : K) : k.cls = .type k.name := by cases k <;> rfl
theorem K.boot (k : K) : bootBuiltins (cst k.name) = some (.type k.name) := by
  cases k
  · exact boot_value
  · exact boot_index
  · exact boot_type
theorem K.mem (k : K) : cst k.name ∈ bnames := by cases k <;> simp [K.name, bnames]
theorem K.exc (k : K) : isSubtype (.type k.name) (.type "BaseException") = pure true := by
  cases k <;> (show isSubtype (.type _) (.type _) = _; rw [isSubtype_type]; kernel_rfl)
theorem K.nt (k : K) : isSubtype (.type ((Manifest.find? k.name).elim "type" fun x => x.metatype)) (.type "tuple") = pure false := by
  cases k <;> (show isSubtype (.type _) (.type _) = _; rw [isSubtype_type]; kernel_rfl)
theorem K.sub (k k' : K) : isSubtype (.type k.name) (.type k'.name) = pure (decide (k = k')) := by
  cases k <;> cases k' <;> (show isSubtype (.type _) (.type _) = _; rw [isSubtype_type]; kernel_rfl)
theorem excP_name {x : Str} {k : K} (h : excP x = some k) : x = cst k.name := by
  unfold excP at h
  split at h
  · rename_i q; cases h; exact q
  · split at h
    · rename_i q; cases h; exact q
    · split at h
      · rename_i q; cases h; exact q
      · cases h

section
variable {prog : Program} {w : World} {base : Heap} {mg mb : Str → Option Value} {rank : Nat} {F : Phi} {c : Cx}

theorem okStr_is {v : Str} (h : okStr v = true) : OkS v.cps.toList := by
  simp only [okStr, Bool.and_eq_true, decide_eq_true_eq] at h
  exact ⟨by simp only [big]; omega, fun c hc => List.all_eq_true.mp h.1 c hc⟩
theorem rep_const {X ad : List Addr} {h : Heap} {v : Str} {t : Tok} (ok : okStr v = true) : Rep prog w X ad h (.str v.cps.toList) (.str v t) := by
  have := rep_str (prog := prog) (w := w) (X := X) (ad := ad) (h := h) (t := t) (okStr_is ok)
  rwa [← mk_eq v] at this

noncomputable def runH (c : CS) (s : St) : Out := match c with
  | .assign (.one x) (.old (.str v)) => .next { s with vars := s.vars.set x (some (.str v)) }
  | .ret (.str v) => .ret (.str v) s
  | .ret (.tup [.str v, .list []]) => .ret (.tup [.str v, .list []]) s
  | _ => .stuck

theorem suite_snd {stm : Stmt} {cs : CS} (C : CxOk c) (hs : HOk c stm cs) {A A' : Around} {env : Env} {outer : List Env} {fx ow ad : List Addr} {lk : Nat → Bool} {σ : St} {s : Shared} {Q : Flow → Shared → Prop} {E E' : Value → Shared → Prop}
    (K : EnvOk rank c A env (env :: outer)) (O : Own env ow fx) (H : HR prog w base (env :: outer) fx ad σ.store s) (Vr : VR prog w c env fx ad σ.vars s.heap) (P : PostS prog w base c env (env :: outer) ow fx ad lk s (runH cs σ) Q E) :
    wpAny (model prog w) A' (PySem.execs [stm] env) Q E' s := by
  cases hs with
  | @asg x k kd v sv px pv pos hk ok =>
    obtain ⟨rfl, ok2⟩ := okS_is ok
    have P' : PostS prog w base c env (env :: outer) ow fx ad lk s (.next { σ with vars := σ.vars.set k (some (.str v.cps.toList)) }) Q E := P
    obtain ⟨hk1, hk2⟩ := slot_kind hk
    refine wpAny_execs_cons (wpAny_Assign_Name (wpAny_Constant_str ?_) rfl)
    have g2 : Grow (env :: outer) s { s with toks := s.toks + 1 } := .tok (Nat.le_succ _)
    refine store_var C K (H.grow g2) (Vr.grow H g2) hk1 hk2 (rep_const ok2) fun a' h' tk' hloc ha ha' hsb htk' H' Vr' => ?_
    have hao : a' ∈ ow := by
      rcases hk1 with q | q
      · rw [hloc.1 q]; exact O.loc
      · exact O.cell x a' (hloc.2 q)
    refine wpAny_execs_nil (P'.next _ ad _ rfl ((Go.of_grow g2 (.refl ..)).trans (Go.of_puts (fx := fx) (base := base) (prog := prog) (w := w) ⟨rfl, rfl, htk', fun b o hb e => (hsb.2 b fun q => hb (q ▸ hao)).trans e⟩ H' O.sub)) H' Vr')
  | @ret kd v sv pv pos ok =>
    obtain ⟨rfl, ok2⟩ := okS_is ok
    have P' : PostS prog w base c env (env :: outer) ow fx ad lk s (.ret (.str v.cps.toList) σ) Q E := P
    have g2 : Grow (env :: outer) s { s with toks := s.toks + 1 } := .tok (Nat.le_succ _)
    exact wpAny_execs_cons (wpAny_Return_some (wpAny_Constant_str (P'.ret _ _ ad _ _ rfl (.of_grow g2 (.refl ..)) (H.grow g2) (rep_const ok2))))
  | @tup kd kt v sv pv pl pt pos ok =>
    obtain ⟨rfl, ok2⟩ := okS_is ok
    have P' : PostS prog w base c env (env :: outer) ow fx ad lk s (.ret (.tup [.str v.cps.toList, .list []]) σ) Q E := P
    refine wpAny_execs_cons (wpAny_Return_some (wpAny_Tuple (args_cons (wpAny_Constant_str (args_cons (wpAny_List (args_nil ⟨by simp, args_nil ⟨by rw [sizeLine_big]; simp [big], ?_⟩⟩)))))))
    have g1 : Grow (env :: outer) s { s with toks := s.toks + 1 } := .tok (Nat.le_succ _)
    have H1 := H.grow g1
    have g2 : Grow (env :: outer) { s with toks := s.toks + 1 } { s with heap := s.heap.push { cls := .type "list", data := .seq ([] : List Value).toArray }, toks := s.toks + 1 } := Grow.heap (get_push _ _) (Nat.le_refl _)
    have H2 := H1.grow g2
    have rl : Rep prog w (ad ++ fx) ad (s.heap.push { cls := .type "list", data := .seq ([] : List Value).toArray }) (.list []) (.ref s.heap.objs.size) := rep_newlist (s := { s with toks := s.toks + 1 }) H1 (get_push _ _) (Heap.get?_push_size _ rfl) (Nat.zero_le _) (by rw [Reps])
    have g3 : Grow (env :: outer) { s with heap := s.heap.push { cls := .type "list", data := .seq ([] : List Value).toArray }, toks := s.toks + 1 }
      { s with heap := (s.heap.push { cls := .type "list", data := .seq ([] : List Value).toArray }).push { cls := .type "tuple", data := .seq ([.str v s.toks, .ref s.heap.objs.size] : List Value).toArray }, toks := s.toks + 1 } := Grow.heap (get_push _ _) (Nat.le_refl _)
    refine P'.ret _ _ ad _ _ rfl (.of_grow ((g1.trans g2).trans g3) (.refl ..)) (H2.grow g3) ?_
    refine rep_newtup H2 (get_push _ _) (Heap.get?_push_size _ rfl) (by simp [big]) ?_
    rw [Reps]
    refine ⟨_, _, rfl, rep_const ok2, ?_⟩
    rw [Reps]
    exact ⟨_, [], rfl, rl, by rw [Reps]⟩

theorem handle_snd (G : GOk base mg mb) (C : CxOk c) {A : Around} {env : Env} {outer : List Env} {fx ow ad : List Addr} {lk : Nat → Bool} {σ : St} {s₁ : Shared} {Q : Flow → Shared → Prop} {E : Value → Shared → Prop} {k : K} {e : Value}
    (K : EnvOk rank c A env (env :: outer)) (O : Own env ow fx) (H : HR prog w base (env :: outer) fx ad σ.store s₁) (Vr : VR prog w c env fx ad σ.vars s₁.heap) :
    ∀ (hs : List ExceptHandler) (chs : List (Mine.K × CS)) (s : Shared), HsOk c hs chs → Way (env :: outer) s₁ k e s (FlyZ (env :: outer) k s) → PostS prog w base c env (env :: outer) ow fx ad lk s₁ (handle k runH chs σ) Q E →
      wpAny (model prog w) A (handleBy e env hs) Q E s := by
  intro hs chs s h
  induction h generalizing s with
  | nil => intro _ P; exact absurd rfl P.ns
  | @cons y k' stm cs hs chs' py pos hk' hok hcs hchs ih =>
    intro x P
    have hy := excP_name hk'
    subst hy
    obtain ⟨a, B, rfl, hB, a0, hf⟩ := id x.at_
    have g : Grow (env :: outer) s₁ s := x.grow H fun B a ⟨_, h⟩ => h.1
    refine wpAny_handleBy_builtin (X := k.name) (T := k'.name) (b := decide (k = k')) k'.exc k'.nt (k.sub k') ?_
    refine load_builtin G K (H.grow g) k'.mem (okBuiltin_kind hok) k'.boot ⟨rfl, ?_, ?_⟩
    · obtain ⟨ob, h1, h2⟩ := hf.there
      exact ⟨ob, h1, h2.trans k.cls_name⟩
    · rw [handle] at P
      by_cases hkk : k = k'
      · rw [if_pos hkk] at P
        rw [if_pos (by simpa using hkk)]
        refine land_again x fun s₂ x2 => ?_
        have g2 : Grow (env :: outer) s₁ s₂ := x2.grow H fun B a ⟨_, h⟩ => h.1
        exact suite_snd C hcs K O (H.grow g2) (Vr.grow H g2) (P.after (.of_grow g2 (.refl ..)))
      · rw [if_neg hkk] at P
        rw [if_neg (by simpa using hkk)]
        exact ih s x P

theorem s_try (G : GOk base mg mb) (C : CxOk c) {body : List Stmt} {h0 : ExceptHandler} {hs : List ExceptHandler} {pos : Pos} {cb : List CS} {chs : List (Mine.K × CS)} (hb : SndSs prog w base rank F c body cb) (hh : HsOk c (h0 :: hs) chs) :
    SndS prog w base rank F c (.Try body (h0 :: hs) [] [] pos) (.try_ cb chs) := fun A env outer fx ow ad lk σ s Q E K O H Vr P => by
  have P' : PostS prog w base c env (env :: outer) ow fx ad lk s (match execs F cb lk σ with
    | .exc k s' => handle k runH chs s'
    | o => o) Q E := by (first | rw [exec_q1] at P | rw [exec_q2] at P | rw [exec_q3] at P | rw [exec_q4] at P | rw [exec_q5] at P | rw [exec_q6] at P | rw [exec_q7] at P | rw [exec_q8] at P | rw [exec_q9] at P | rw [exec_q10] at P | rw [exec_q11] at P | rw [exec_q12] at P); exact P
  refine wpAny_Try_except (hb A env outer fx ow ad lk σ s _ _ K O H Vr ⟨fun σ5 ad5 s5 e5 G7 H5 Vr5 => ?_, fun σ5 ad5 s5 e5 G7 H5 Vr5 => ?_, fun v5 σ5 ad5 s5 val5 e5 G7 H5 r5 => ?_, fun k σ5 ad5 s5 s6 ex e5 G7 H5 Vr5 y => ?_, fun h => ?_⟩)
  · rw [e5] at P'; exact wpAny_execs_nil (P'.next σ5 ad5 s5 rfl G7 H5 Vr5)
  · rw [e5] at P'; exact P'.cont σ5 ad5 s5 rfl G7 H5 Vr5
  · rw [e5] at P'; exact P'.ret v5 σ5 ad5 s5 val5 rfl G7 H5 r5
  · rw [e5] at P'
    refine note_raised K.frames K.frame y fun s7 y7 => ?_
    refine land_held y7 fun s8 y8 => ?_
    exact handle_snd G C K O H5 Vr5 _ _ s8 hh y8 (P'.after G7)
  · rw [h] at P'; exact P'.ns rfl

end
end Mine

end
section
set_option autoImplicit false
namespace Mine
open PySem PyProof.Rows

noncomputable def BindOk (d : DefRec) : Prop := ∀ (pm code doc : Value) (vals : List Value), vals.length = d.params.args.length →
  bindArgs (PySem.Calls.docDef d.name d.params d.body d.scope pm code doc) ⟨vals, []⟩ = pure ((d.params.args.map (·.arg)).zip vals)

section
variable {prog : Program} {w : World} {base : Heap} {mg mb : Str → Option Value} {l : List Env} {fx ad : List Addr} {st : Store} {s s₁ s' : Shared}

theorem nodup_lookup {names : List (Str × NameKind)} (hn : nodupB (names.map (·.1)) = true) {x : Str} {k : NameKind} (h : (x, k) ∈ names) : names.lookup x = some k := by
  induction names with
  | nil => exact absurd h List.not_mem_nil
  | cons p names ih =>
    obtain ⟨a, b⟩ := p
    rw [List.map_cons] at hn
    obtain ⟨h1, h2⟩ := nodupB_mem hn
    rw [List.lookup_cons]
    rcases List.mem_cons.mp h with q | q
    · cases q; simp
    · have hne : (x == a) = false := by
        simp
        rintro rfl
        exact h1 (List.mem_map.mpr ⟨(x, k), q, rfl⟩)
      rw [hne]; exact ih h2 q
theorem cellsFrom_some {x : Str} : ∀ {names : List (Str × NameKind)} {n : Nat} {acc : List (Str × Addr)}, ((x, NameKind.cell) ∈ names ∨ ∃ a, acc.lookup x = some a) → ∃ a, (cellsFrom n names acc).lookup x = some a := by
  intro names
  induction names with
  | nil =>
    intro n acc h
    rcases h with h | h
    · exact absurd h List.not_mem_nil
    · exact h
  | cons p names ih =>
    obtain ⟨a, b⟩ := p
    intro n acc h
    unfold cellsFrom
    split
    · rename_i hb
      refine ih ?_
      rcases h with h | ⟨a', h⟩
      · rcases List.mem_cons.mp h with q | q
        · cases q; exact .inr ⟨n, by rw [List.lookup_cons]; simp⟩
        · exact .inl q
      · right
        rw [List.lookup_cons]; split
        · exact ⟨n, rfl⟩
        · exact ⟨a', h⟩
    · rename_i hb
      refine ih ?_
      rcases h with h | h
      · rcases List.mem_cons.mp h with q | q
        · cases q; exact absurd rfl hb
        · exact .inl q
      · exact .inr h

theorem HR.call {env : Env} {ow : List Addr} (H : HR prog w base l fx ad st s) (hk : ∀ b o, s.heap.get? b = some o → s₁.heap.get? b = some o) (ht : 1 ≤ s₁.toks) (hnew : ∀ b ∈ ow, s.heap.get? b = none) (hth : ∀ b ∈ ow, ∃ o, s₁.heap.get? b = some o)
    {L : Addr} (hf : env.frame = some L) (hL : L ∈ ow) (hkind : env.scope.kind = .function) {m : Str → Option Value} (hn : s₁.heap.Ns L m) : HR prog w base (env :: l) (ow ++ fx) ad st s₁ where
  stays := fun b o e => hk b o (H.stays b o e)
  frames := by
    obtain ⟨o, ho, hd⟩ := ns_notfields hn
    refine ⟨by rw [hkind]; decide, ⟨L, o, hf, ?_, ho, hd⟩, H.frames.of_keeps fun b o e _ => ⟨o, hk b o e, rfl⟩⟩
    cases q : base.get? L with
    | none => rfl
    | some o' => have := H.stays L o' q; rw [hnew L hL] at this; cases this
  fsX := fun b hb => by
    unfold fsOf at hb
    rw [List.filterMap_cons, hf] at hb
    rcases List.mem_cons.mp hb with q | q
    · rw [q]; exact List.mem_append_left _ hL
    · exact List.mem_append_right _ (H.fsX b q)
  one := List.mem_append_right _ H.one
  main := let ⟨o, e⟩ := H.main; ⟨o, hk _ o e⟩
  there := fun b hb => by
    rcases List.mem_append.mp hb with h | h
    · exact (H.there b (List.mem_append_left _ h)).imp id fun ⟨o, e⟩ => ⟨o, hk b o e⟩
    · rcases List.mem_append.mp h with h | h
      · exact .inr (hth b h)
      · exact (H.there b (List.mem_append_right _ h)).imp id fun ⟨o, e⟩ => ⟨o, hk b o e⟩
  apart := fun a ha hm => by
    rcases List.mem_append.mp hm with h | h
    · rcases H.there a (List.mem_append_left _ ha) with q | ⟨o, q⟩
      · exact H.apart a ha (q ▸ H.one)
      · rw [hnew a h] at q; cases q
    · exact H.apart a ha h
  nodup := H.nodup
  len := H.len
  store := fun i a o ha ho => by
    refine (H.store i a o ha ho).up prog w (fun b o _ e => hk b o e) (fun b o hb e => ?_) (fun _ _ q => q) fun o e => hk a o e
    rcases List.mem_append.mp hb with h | h
    · exact List.mem_append_left _ h
    · rcases List.mem_append.mp h with h | h
      · rw [hnew b h] at e; cases e
      · exact List.mem_append_right _ h
  toks := ht
  off := fun b hb => by
    rcases List.mem_append.mp hb with h | h
    · exact H.off b (List.mem_append_left _ h)
    · rcases List.mem_append.mp h with h | h
      · right
        cases q : base.get? b with
        | none => rfl
        | some o => have := H.stays b o q; rw [hnew b h] at this; cases this
      · exact H.off b (List.mem_append_right _ h)
theorem Reps.call {ow : List Addr} (H : HR prog w base l fx ad st s) (hk : ∀ b o, s.heap.get? b = some o → s₁.heap.get? b = some o) (hnew : ∀ b ∈ ow, s.heap.get? b = none) {xs : List V} {vs : List Value} (r : Reps prog w (ad ++ fx) ad s.heap xs vs) :
    Reps prog w (ad ++ (ow ++ fx)) ad s₁.heap xs vs := by
  refine Reps.up prog w (fun b o _ e => hk b o e) (fun b o hb e => ?_) (fun _ _ q => q) r
  rcases List.mem_append.mp hb with h | h
  · exact List.mem_append_left _ h
  · rcases List.mem_append.mp h with h | h
    · rw [hnew b h] at e; cases e
    · exact List.mem_append_right _ h

theorem bindL_get (kf : Str → Option NameKind) : ∀ (ps : List Str) (vs : List Value) (m : Str → Option Value) (i : Nat) (x : Str) (v : Value), nodupB ps = true → ps[i]? = some x → vs[i]? = some v → kf x = some .local → bindL kf (ps.zip vs) m x = some v := by
  have keep : ∀ (ps : List Str) (vs : List Value) (m : Str → Option Value) (x : Str), x ∉ ps → bindL kf (ps.zip vs) m x = m x := by
    intro ps
    induction ps with
    | nil => intro vs m x _; simp [bindL]
    | cons p ps ih =>
      intro vs m x hx
      cases vs with
      | nil => simp [bindL]
      | cons v vs =>
        rw [List.zip_cons_cons, bindL, ih _ _ _ fun q => hx (List.mem_cons_of_mem _ q)]
        have hne : x ≠ p := fun q => hx (q ▸ List.mem_cons_self ..)
        split <;> simp [hne]
  intro ps
  induction ps with
  | nil => intro vs m i x v _ h; simp at h
  | cons p ps ih =>
    intro vs m i x v hd hx hv hk
    obtain ⟨d1, d2⟩ := nodupB_mem hd
    cases vs with
    | nil => simp at hv
    | cons u vs =>
      rw [List.zip_cons_cons, bindL]
      cases i with
      | zero =>
        simp at hx hv; subst hx; subst hv
        rw [keep _ _ _ _ d1, if_pos hk]; simp
      | succ i =>
        simp only [List.getElem?_cons_succ] at hx hv
        exact ih vs _ i x v d2 hx hv hk
theorem bindC_get (kf : Str → Option NameKind) : ∀ (ps : List Str) (vs : List Value) (m : Str → Option Value) (i : Nat) (x : Str) (v : Value), nodupB ps = true → ps[i]? = some x → vs[i]? = some v → kf x = some .cell → bindC kf (ps.zip vs) m x = some v := by
  have keep : ∀ (ps : List Str) (vs : List Value) (m : Str → Option Value) (x : Str), x ∉ ps → bindC kf (ps.zip vs) m x = m x := by
    intro ps
    induction ps with
    | nil => intro vs m x _; simp [bindC]
    | cons p ps ih =>
      intro vs m x hx
      cases vs with
      | nil => simp [bindC]
      | cons v vs =>
        rw [List.zip_cons_cons, bindC, ih _ _ _ fun q => hx (List.mem_cons_of_mem _ q)]
        have hne : x ≠ p := fun q => hx (q ▸ List.mem_cons_self ..)
        split <;> simp [hne]
  intro ps
  induction ps with
  | nil => intro vs m i x v _ h; simp at h
  | cons p ps ih =>
    intro vs m i x v hd hx hv hk
    obtain ⟨d1, d2⟩ := nodupB_mem hd
    cases vs with
    | nil => simp at hv
    | cons u vs =>
      rw [List.zip_cons_cons, bindC]
      cases i with
      | zero =>
        simp at hx hv; subst hx; subst hv
        rw [keep _ _ _ _ d1, if_neg (by rw [hk]; decide)]; simp
      | succ i =>
        simp only [List.getElem?_cons_succ] at hx hv
        exact ih vs _ i x v d2 hx hv hk

theorem nodupB_prefix {α : Type} [BEq α] [LawfulBEq α] : ∀ {ps xs : List α}, ps <+: xs → nodupB xs = true → nodupB ps = true := by
  intro ps
  induction ps with
  | nil => intro xs _ _; rfl
  | cons p ps ih =>
    intro xs h hd
    obtain ⟨t, rfl⟩ := h
    obtain ⟨d1, d2⟩ := nodupB_mem hd
    rw [nodupB, ih (List.prefix_append ps t) d2]
    have : ps.contains p = false := by
      rw [Bool.eq_false_iff]; intro q
      exact d1 (List.mem_append_left _ (by simpa using q))
    rw [this]; rfl
theorem nodupB_filter {names : List (Str × NameKind)} (q : Str × NameKind → Bool) : nodupB (names.map (·.1)) = true → nodupB ((names.filter q).map (·.1)) = true := by
  induction names with
  | nil => intro _; rfl
  | cons p names ih =>
    intro h
    rw [List.map_cons] at h
    obtain ⟨d1, d2⟩ := nodupB_mem h
    rw [List.filter_cons]
    split
    · rw [List.map_cons, nodupB, ih d2]
      have : ((names.filter q).map (·.1)).contains p.1 = false := by
        rw [Bool.eq_false_iff]; intro z
        have z' : p.1 ∈ (names.filter q).map (·.1) := by simpa using z
        obtain ⟨r, hr, e⟩ := List.mem_map.mp z'
        exact d1 (List.mem_map.mpr ⟨r, (List.mem_filter.mp hr).1, e⟩)
      rw [this]; rfl
    · exact ih d2
end
end Mine

end
section
set_option autoImplicit false
namespace Mine
open PySem PyProof.Rows

noncomputable abbrev but (j : Nat) : Nat → Bool := fun i => i != j

section
variable (prog : Program) (w : World) (base : Heap) (mg : Str → Option Value) (fns : List (Str × Nat)) (rank : Nat) (F : Phi)
structure PostI (l : List Env) (fx ad : List Addr) (st : Store) (j : Nat) (s : Shared) (r : Option (R V × Mine.Obj)) (Q : Value → Shared → Prop) (E : Value → Shared → Prop) : Prop where
  ok : ∀ v o val s', r = some (.ok v, o) → Go l [] ad (but j) s ad s' → HR prog w base l fx ad (st.set j o) s' → Rep prog w (ad ++ fx) ad s'.heap v val → Q val s'
  exc : ∀ k o e s₁ s', r = some (.error (.exc k), o) → Go l [] ad (but j) s ad s₁ → HR prog w base l fx ad (st.set j o) s₁ → Raised l (topL l) s₁ k e s' → E e s'
  ns : (∃ v o, r = some (.ok v, o)) ∨ ∃ k o, r = some (.error (.exc k), o)

noncomputable def FOkI : Prop := ∀ x i, fns.lookup x = some i → ∃ fa o fd, mg x = some (.ref fa) ∧ base.get? fa = some o ∧ o.data = .func fd ∧ (x == ("__debug__" : Str)) = false ∧
  ∀ (A : Around) (l : List Env) (fx ad : List Addr) (st : Store) (s : Shared) (j : Nat) (it : Addr) (Q : Value → Shared → Prop) (E : Value → Shared → Prop),
    A.frames = some l → (∃ e0 outer, l = e0 :: outer ∧ e0.frame = some (topL l)) → A.handled = none → A.depth + rank < 900 → A.units + 10 * rank + 200 < cLine → HR prog w base l fx ad st s →
    ad[j]? = some it → PostI prog w base l fx ad st j s (callI F i st j) Q E → wpAny (model prog w) A (call (.ref fa) [.ref it]) Q E s
end

section
variable {prog : Program} {w : World} {base : Heap} {mg mb : Str → Option Value} {rank : Nat} {F : Phi} {c : Cx} {l : List Env} {ow fx ad ad' : List Addr} {st : Store} {s s' : Shared} {j : Nat} {lk : Nat → Bool}

theorem Go.of_it (g : Go l [] ad (but j) s ad' s') (hlk : lk j = false) : Go l ow ad lk s ad' s' where
  gens := g.gens
  os := g.os
  toks := g.toks
  ext := g.ext
  there := g.there
  exact := fun b o e h1 h2 h3 => g.exact b o e h1 List.not_mem_nil fun i hi => by
    have := h3 i hi
    have hne : i ≠ j := by rintro rfl; rw [hlk] at this; cases this
    simpa using hne
  slots := fun b o e h1 h2 => g.slots b o e h1 List.not_mem_nil
theorem Go.off (H : HR prog w base l fx ad st s) (g : Go l [] ad (but j) s ad' s') {b : Addr} {o : PySem.Obj} (hb : b ∉ ad) (e : s.heap.get? b = some o) : ∃ sl, s'.heap.get? b = some { o with slots := sl } := by
  by_cases hf : b ∈ fsOf l
  · exact g.slots b o e hf List.not_mem_nil
  · exact ⟨o.slots, g.exact b o e hf List.not_mem_nil fun i hi => absurd (List.mem_of_getElem? hi) hb⟩
theorem Go.far (H : HR prog w base l fx ad st s) (g : Go l [] ad (but j) s ad' s') : ∀ b o, b ∉ ad ++ fx → s.heap.get? b = some o → s'.heap.get? b = some o := fun b o hb e =>
  g.exact b o e (fun q => hb (List.mem_append_right _ (H.fsX b q))) List.not_mem_nil fun i hi => absurd (List.mem_append_left _ (List.mem_of_getElem? hi)) hb
theorem VR.of_it {env : Env} {ρ : Vars} (H : HR prog w base l fx ad st s) (V : VR prog w c env fx ad ρ s.heap) (g : Go l [] ad (but j) s ad s') : VR prog w c env fx ad ρ s'.heap where
  loc := V.loc
  ns := by
    obtain ⟨m, ⟨o, es, ep, ho, hd, r⟩, h2⟩ := V.ns
    obtain ⟨sl, e⟩ := g.off H (fun q => H.apart _ q V.loc.1) ho
    exact ⟨m, ⟨_, es, ep, e, hd, r⟩, fun x k d a b e => let ⟨v, hv, hr⟩ := h2 x k d a b e; ⟨v, hv, Rep.up prog w (g.far H) (fun _ _ q _ => q) (fun _ _ q => q) hr⟩⟩
  cell := fun x hx => by
    obtain ⟨a, v, h1, h2, h3, ⟨o, ho, hd⟩, h5⟩ := V.cell x hx
    obtain ⟨sl, e⟩ := g.off H (fun q => H.apart _ q h2.1) ho
    exact ⟨a, v, h1, h2, h3, ⟨_, e, hd⟩, fun k d a b => let ⟨u, hu, hr⟩ := h5 k d a b; ⟨u, hu, Rep.up prog w (g.far H) (fun _ _ q _ => q) (fun _ _ q => q) hr⟩⟩
  apart := V.apart
  len := V.len

theorem okVar_is {x : Str} {k : Nat} (h : okVar c x k = true) : (c.sc.lookup x = some .local ∨ c.sc.lookup x = some .cell) ∧ (x == ("__debug__" : Str)) = false ∧ c.γ.lookup x = some k := by
  simp only [okVar, Bool.and_eq_true, Bool.or_eq_true, beq_iff_eq, Bool.not_eq_true'] at h
  exact ⟨h.1.1, h.1.2, h.2⟩

theorem call_it {A : Around} {env : Env} {ρ : Vars} {x y : Str} {i k : Nat} {p q pos : Pos} {Q E : Value → Shared → Prop} (G : GOk base mg mb) (hF : FOkI prog w base mg c.fns rank F) (hx : c.fns.lookup x = some i) (hk : c.sc.lookup x = some .globalImplicit) (hy : okVar c y k = true)
    (K : EnvOk rank c A env l) (H : HR prog w base l fx ad st s) (Vr : VR prog w c env fx ad ρ s.heap) (hρ : ρ[k]? = some (some (.loc j))) (P : PostI prog w base l fx ad st j s (callI F i st j) Q E) :
    wpAny (model prog w) A (eval (.Call (.Name x p) [.Name y q] [] pos) env) Q E s := by
  obtain ⟨fa, o, fd, hm, hg, hd, hdb, hcall⟩ := hF x i hx
  have hn : ∀ e ∈ [Expr.Name y q], NotStar e := fun e he => by rw [List.mem_singleton.mp he]; exact fun _ _ => rfl
  refine Call_ ?_
  refine Calls.Name_function_global K.kind (by unfold Env.kindOf; rw [K.names]; exact hk) ?_ hdb
  refine Calls.loadGlobal_global (mg := mg) (by rw [K.globals]; exact G.g.keeps H.stays) hm ?_
  refine Calls.callWith_function (o := o) (fd := fd) (evalArgs_all (plain_any hn env pos) ?_)
  obtain ⟨v1, v2, v3⟩ := okVar_is hy
  refine args_cons (load_var K H Vr v1 v3 hρ v2 fun val r => args_nil ?_) rfl
  rw [Rep] at r
  obtain ⟨it, hit, rfl⟩ := r
  refine ⟨⟨H.stays _ _ hg, hd⟩, ?_⟩
  exact hcall A l fx ad st s j it Q E K.frames K.cons K.handled K.depth K.units H hit P

theorem s_retI {x y : Str} {i k : Nat} {p q pos pr : Pos} (G : GOk base mg mb) (hF : FOkI prog w base mg c.fns rank F) (hx : c.fns.lookup x = some i) (hk : c.sc.lookup x = some .globalImplicit) (hy : okVar c y k = true) :
    SndS prog w base rank F c (.Return (some (.Call (.Name x p) [.Name y q] [] pos)) pr) (.retI i k) := fun A env outer fx ow ad lk σ s Q E K O H Vr P => by
  rw [exec_q14] at P
  split at P
  · rename_i j hj
    cases hlk : lk j with
    | true => rw [if_pos hlk] at P; exact absurd rfl P.ns
    | false =>
      rw [if_neg (by rw [hlk]; exact Bool.false_ne_true)] at P
      refine wpAny_Return_some (call_it G hF hx hk hy K H Vr hj ⟨fun v o val s' e g H' r => ?_, fun kk o e s₁ s' h g H' y => ?_, ?_⟩)
      · rw [e] at P
        exact P.ret v _ ad s' val rfl (g.of_it hlk) H' r
      · rw [h] at P
        exact P.exc kk _ ad s₁ s' e rfl (g.of_it hlk) H' (Vr.of_it H g) y
      · cases h : callI F i σ.store j with
        | none => rw [h] at P; exact absurd rfl P.ns
        | some qq =>
          obtain ⟨rv, o⟩ := qq
          cases rv with
          | ok v => exact .inl ⟨v, o, rfl⟩
          | error er =>
            cases er with
            | exc kk => exact .inr ⟨kk, o, rfl⟩
            | stuck => rw [h] at P; exact absurd rfl P.ns
  · exact absurd rfl P.ns

theorem s_retIs {x y : Str} {i k : Nat} {p q pos pr pl pc : Pos} (G : GOk base mg mb) (hF : FOkI prog w base mg c.fns rank F) (hx : c.fns.lookup x = some i) (hk : c.sc.lookup x = some .globalImplicit) (hy : okVar c y k = true) :
    SndS prog w base rank F c (.Return (some (.Compare (.Call (.Name x p) [.Name y q] [] pos) [.Eq] [.List [] pl] pc)) pr) (.retIs i k) := fun A env outer fx ow ad lk σ s Q E K O H Vr P => by
  rw [exec_q15] at P
  split at P
  · rename_i j hj
    cases hlk : lk j with
    | true => rw [if_pos hlk] at P; exact absurd rfl P.ns
    | false =>
      rw [if_neg (by rw [hlk]; exact Bool.false_ne_true)] at P
      refine wpAny_Return_some (wpAny_Compare1 (call_it G hF hx hk hy K H Vr hj ⟨fun v o val s' e g H' r => ?_, fun kk o e s₁ s' h g H' y => ?_, ?_⟩) rfl)
      · simp only [e] at P
        refine wpAny_List (args_nil ⟨by simp, ?_⟩)
        have g2 : Grow (env :: outer) s' { s' with heap := s'.heap.push { cls := .type "list", data := .seq ([] : List Value).toArray } } := Grow.heap (tk := s'.toks) (get_push _ _) (Nat.le_refl _)
        have H2 := H'.grow g2
        have rl : Rep prog w (ad ++ fx) ad (s'.heap.push { cls := .type "list", data := .seq ([] : List Value).toArray }) (.list []) (.ref s'.heap.objs.size) := rep_newlist H' (get_push _ _) (Heap.get?_push_size _ rfl) (Nat.zero_le _) (by rw [Reps])
        have hu := K.units
        cases hb : eqVal (σ.store.set j o) v (.list []) with
        | error er => rw [hb] at P; exact absurd rfl P.ns
        | ok b =>
          rw [hb] at P
          refine eq_snd H2 (by omega) (Rep.grow prog w H' g2 r) rl hb ?_
          exact P.ret (.bool b) _ ad _ _ rfl ((g.of_it hlk).trans (.of_grow g2 (.refl ..))) H2 rep_bool
      · rw [h] at P; exact absurd rfl P.ns
      · cases h : callI F i σ.store j with
        | none => rw [h] at P; exact absurd rfl P.ns
        | some qq =>
          obtain ⟨rv, o⟩ := qq
          cases rv with
          | ok v => exact .inl ⟨v, o, rfl⟩
          | error er =>
            cases er with
            | exc kk => exact .inr ⟨kk, o, rfl⟩
            | stuck => rw [h] at P; exact absurd rfl P.ns
  · exact absurd rfl P.ns
end
end Mine

end
section
set_option autoImplicit false
namespace Mine
open PySem PyProof.Rows

section
variable {prog : Program} {w : World} {A : Around} {base : Heap} {mg mb : Str → Option Value} {l : List Env} {fx ad : List Addr} {st : Store} {s s' : Shared} {E : Value → Shared → Prop} {rank : Nat} {F : Phi}

theorem HR.it_there (H : HR prog w base l fx ad st s) {j : Nat} {it : Addr} (hj : ad[j]? = some it) : ∃ o, s.heap.get? it = some o :=
  (H.there it (List.mem_append_left _ (List.mem_of_getElem? hj))).elim (fun h => absurd (h ▸ H.one) (H.apart it (List.mem_of_getElem? hj))) id

theorem back_it {j k : Nat} {p : Option Nat} {it : Addr} {X' adx : List Addr} {h' : Heap} {tk : Nat} (H : HR prog w base l fx ad st s) (hj : ad[j]? = some it) (hx : ∀ a, adx[k]? = some a → ad[k]? = some a)
    (hob : ObjRep prog w X' adx h' (.iter k p) it) (htk : s.toks ≤ tk) :
    ∃ s₁ : Shared, s₁.gens = s.gens ∧ s₁.os = s.os ∧ s₁.toks = tk ∧ (∀ b, b ≠ it → s₁.heap.get? b = s.heap.get? b) ∧ (∀ o, s₁.heap.get? it = some o → h'.get? it = some o) ∧ Go l [] ad (but j) s ad s₁ ∧ HR prog w base l fx ad (st.set j (.iter k p)) s₁ := by
  obtain ⟨ob, hob1, hdat⟩ : ∃ ob, h'.get? it = some ob ∧ ∃ vs, ob.data = .fields vs := by
    cases p with
    | some i => obtain ⟨la, _, ⟨o, h, _, hd⟩⟩ := hob; exact ⟨o, h, _, hd⟩
    | none => obtain ⟨o, v, h, _, hd⟩ := hob; exact ⟨o, h, _, hd⟩
  obtain ⟨vs, hd⟩ := hdat
  obtain ⟨o0, ho0⟩ := H.it_there hj
  have hself := Heap.get?_update_self (fun _ => ob) ho0 (Obj.isFreed_of_fields hd)
  have hoth : ∀ b, b ≠ it → (s.heap.update it fun _ => ob).get? b = s.heap.get? b := fun b hb => Heap.get?_update_other _ _ (Ne.symm hb)
  have hs : ∀ b o, b ≠ it → s.heap.get? b = some o → (s.heap.update it fun _ => ob).get? b = some o := fun b o hb e => (hoth b hb).trans e
  have hob' : ObjRep prog w (ad ++ fx) ad (s.heap.update it fun _ => ob) (.iter k p) it := by
    cases p with
    | some i =>
      obtain ⟨la, hla, ⟨o, h, hc, hd⟩⟩ := hob
      rw [hob1] at h; cases h
      exact ⟨la, hx la hla, ⟨_, hself, hc, hd⟩⟩
    | none =>
      obtain ⟨o, v, h, hc, hd⟩ := hob
      rw [hob1] at h; cases h
      exact ⟨_, v, hself, hc, hd⟩
  refine ⟨{ s with heap := s.heap.update it fun _ => ob, toks := tk }, rfl, rfl, rfl, hoth, fun o e => ?_, ?_, H.set hj hs hob' htk⟩
  · rw [hself] at e; cases e; exact hob1
  · exact Go.set H hj (by simp) hs ⟨_, hself⟩ htk


section loop
variable {c : Cx} {scope : Scope} {xs : List Str} {env : Env} {ρ : Vars} {cl : List (Str × Addr)} {s₁ : Shared} {t elt : Expr} {k : Option Nat} {ce : CE} {ys : List V} {v : V} {I D Cc : Addr} {fp : List Addr} {P : Nat → Value → Prop} {St : Nat → Heap → Prop}

theorem LoopFix.setIt (X : LoopFix prog w A base l fx ad st rank F c scope xs env ρ cl s₁ t elt k ce ys v I D Cc fp P St) {j : Nat} {it : Addr} {o' : Mine.Obj} {s₂ : Shared} (hj : ad[j]? = some it) (hs : ∀ b, b ≠ it → s₂.heap.get? b = s₁.heap.get? b)
    (H2 : HR prog w base l fx ad (st.set j o') s₂) : LoopFix prog w A base l fx ad (st.set j o') rank F c scope xs env ρ cl s₂ t elt k ce ys v I D Cc fp P St := by
  have hin := List.mem_of_getElem? hj
  obtain ⟨oi, hoi⟩ := X.H.it_there hj
  have hs' : ∀ b o, b ≠ it → s₁.heap.get? b = some o → s₂.heap.get? b = some o := fun b o hb e => (hs b hb).trans e
  exact {
    ok := X.ok
    C := X.C
    K := X.K
    H := H2
    Vr := X.Vr.set X.H hin hs'
    h1 := X.h1
    h2 := X.h2
    ht := X.ht
    it := ⟨X.it.walk, X.it.obj, fun b hb => (X.it.foot b hb).imp id fun ⟨⟨o, ho⟩, h⟩ => ⟨by
      by_cases q : b = it
      · rw [q]; exact H2.it_there hj
      · exact ⟨o, hs' b o q ho⟩, h⟩, fun i x val hp hx => Rep.set hin hs' (X.it.item i x val hp hx), X.it.big⟩
    new := fun b hb => by
      rw [hs b (by rintro rfl; rw [X.new b hb] at hoi; cases hoi)]; exact X.new b hb
    sys := X.sys
    CD := X.CD
    CI := X.CI
    DI := X.DI
    elt := X.elt }

theorem callI_is {F : Phi} {f j : Nat} {st : Store} {y : R V} {o : Mine.Obj} (h : callI F f st j = some (y, o)) : ∃ k p q, o = .iter k p ∧ st[j]? = some (.iter k q) := by
  unfold callI at h
  split at h
  · split at h
    · rename_i hst
      split at h
      · cases h; exact ⟨_, _, _, rfl, hst⟩
      · cases h; exact ⟨_, _, _, rfl, hst⟩
      · cases h
    · cases h
  · cases h
theorem gotLoop_succ {F : Phi} {f j n : Nat} {st stE : Store} {zs : List V} (h : gotLoop F f j (n + 1) st = some (zs, stE)) : ∃ y o r, callI F f st j = some (.ok y, o) ∧ gotLoop F f j n (st.set j o) = some (r, stE) ∧ zs = y :: r := by
  rw [gotLoop] at h
  split at h
  · rename_i y o hc
    split at h
    · rename_i r st' hr
      cases h
      exact ⟨y, o, r, hc, hr, rfl⟩
    · cases h
  · cases h
theorem gotLoop_len {F : Phi} {f j : Nat} : ∀ {n : Nat} {st stE : Store} {zs : List V}, gotLoop F f j n st = some (zs, stE) → zs.length = n
  | 0, _, _, _, h => by cases h; rfl
  | n + 1, _, _, _, h => by
    obtain ⟨y, o, r, _, hr, rfl⟩ := gotLoop_succ h
    rw [List.length_cons, gotLoop_len hr]

theorem got_elt (X : LoopFix prog w A base l fx ad st rank F c scope xs env ρ cl s₁ t elt k ce ys v I D Cc fp P St) (G : GOk base mg mb) (hF : FOkI prog w base mg c.fns rank F) {f y : Str} {fi ky j : Nat} {it : Addr} {pf py pc : Pos} (hf : c.fns.lookup f = some fi)
    (hk : (cxComp c scope xs).sc.lookup f = some .globalImplicit) (hy : okVar (cxComp c scope xs) y ky = true) {i : Nat} {acc : List V} {new : Vars} {z : V} {o : Mine.Obj} (L : LoopSt prog w l fx ad s₁ I D Cc St i acc s)
    (Vr' : VR prog w (cxComp c scope xs) (compEnvC scope cl Cc env) ([Cc, D, I] ++ fx) ad (ρ ++ new) s.heap) (hρ : ρ[ky]? = some (some (.loc j))) (hj : ad[j]? = some it) (hvj : v ≠ .loc j) (hc : callI F fi st j = some (.ok z, o)) (hacc : acc.length ≤ i) (hi : i ≤ ys.length)
    {Kk : Shared → Prop} (hK : ∀ s₂ s₅, LoopFix prog w A base l fx ad (st.set j o) rank F c scope xs env ρ cl s₂ t elt k ce ys v I D Cc fp P St → Go l [] ad (but j) s₁ ad s₂ → LoopSt prog w l fx ad s₂ I D Cc St i (acc ++ [z]) s₅ → Kk s₅) :
    wpAny (model prog w) A (eval (.Call (.Name f pf) [.Name y py] [] pc) (compEnvC scope cl Cc env)) (fun x s₄ => wpAny (model prog w) A (call (.builtin "list.append") [.ref D, x]) (fun _ s₅ => Kk s₅) E s₄) E s := by
  have hth : ∀ b ∈ [Cc, D, I], ∃ o, s.heap.get? b = some o := by
    intro b hb
    simp only [List.mem_cons, List.not_mem_nil, or_false] at hb
    rcases hb with rfl | rfl | rfl
    · obtain ⟨m, o, _, _, ho, _⟩ := L.ns; exact ⟨o, ho⟩
    · obtain ⟨vs, ⟨n, ho⟩, _⟩ := L.acc; exact ⟨_, ho⟩
    · obtain ⟨o, n, ho, _⟩ := X.it.obj _ _ L.st; exact ⟨o, ho⟩
  have H' := X.H.enter L.g [Cc, D, I] X.new hth
  have hρ' : (ρ ++ new)[ky]? = some (some (.loc j)) := by rw [List.getElem?_append_left (List.getElem?_eq_some_iff.mp hρ).1]; exact hρ
  refine call_it (c := cxComp c scope xs) G hF hf hk hy (X.K.comp X.ok cl Cc) H' Vr' hρ' ⟨fun v' o' val s₄ e g H4 r => ?_, (fun kk o' e s₂ s' h => by rw [hc] at h; cases h), .inl ⟨z, o, hc⟩⟩
  rw [hc] at e; cases e
  obtain ⟨kk, p, q, rfl, hst⟩ := callI_is hc
  have hlt : j < st.length := (List.getElem?_eq_some_iff.mp hst).1
  have hso : (st.set j (.iter kk p))[j]? = some (.iter kk p) := by rw [List.getElem?_set_self hlt]
  obtain ⟨s₂, a1, a2, a3, a4, a5, a6, a7⟩ := back_it (tk := s₄.toks) X.H hj (fun a ha => ha) (H4.store j it _ hj hso) (Nat.le_trans L.g.toks g.toks)
  have hin := List.mem_of_getElem? hj
  have notit : ∀ b i, ad[i]? = some b → b ≠ it → but j i = true := fun b i hi hb => by
    have : i ≠ j := by rintro rfl; rw [hj] at hi; cases hi; exact hb rfl
    simpa using this
  have ex4 : ∀ b o, b ≠ it → b ∉ fsOf l → s.heap.get? b = some o → s₄.heap.get? b = some o := fun b o hb hn e => g.exact b o e hn List.not_mem_nil fun i hi => notit b i hi hb
  have newit : ∀ b ∈ [Cc, D, I], b ≠ it := fun b hb q => by
    obtain ⟨o, ho⟩ := X.H.it_there hj
    rw [← q, X.new b hb] at ho; cases ho
  have X2 := X.setIt hj a4 a7
  have L4 : LoopSt prog w l fx ad s₂ I D Cc St i acc s₄ := by
    refine ⟨⟨?_, ?_, Nat.le_of_eq a3, ⟨fun b o e hb => ?_, fun b o e hb => ?_⟩⟩, ?_, ?_, ?_⟩
    · exact g.gens.trans (L.g.gens.trans a1.symm)
    · exact g.os.trans (L.g.os.trans a2.symm)
    · by_cases q : b = it
      · subst q; exact a5 o e
      · rw [a4 b q] at e
        exact ex4 b o q hb (L.g.keep.exact b o e hb)
    · have q : b ≠ it := by rintro rfl; exact X.H.apart b hin (X.H.fsX b hb)
      rw [a4 b q] at e
      obtain ⟨sl, e2⟩ := L.g.keep.slots b o e hb
      obtain ⟨sl2, e3⟩ := g.slots b _ e2 hb List.not_mem_nil
      exact ⟨sl2, e3⟩
    · refine X.frame _ _ L.st fun b hb o e => ex4 b o ?_ (X.foot hb).1 e
      rintro rfl
      rcases X.it.foot b hb with q | ⟨_, h⟩
      · exact newit I (by simp) q.symm
      · obtain ⟨j', e1, e2⟩ := h (List.mem_append_left _ hin)
        have : j' = j := by
          obtain ⟨l1, e3⟩ := List.getElem?_eq_some_iff.mp hj
          obtain ⟨l2, e4⟩ := List.getElem?_eq_some_iff.mp e2
          exact (List.getElem_inj X.H.nodup).mp (e4.trans e3.symm)
        exact hvj (this ▸ e1)
    · obtain ⟨vs, h1, h2⟩ := L.acc
      refine ⟨vs, h1.at fun o e => ex4 D o (newit D (by simp)) (X.fs D (by simp)) e, Reps.up prog w (fun b o hb e => ?_) (fun _ _ q _ => q) (fun _ _ q => q) h2⟩
      refine ex4 b o (fun q => hb (List.mem_append_left _ (q ▸ hin))) (fun q => hb (List.mem_append_right _ (List.mem_append_right _ (X.H.fsX b q)))) e
    · obtain ⟨m, hm⟩ := L.ns
      exact ⟨m, hm.at' fun o e => ex4 Cc o (newit Cc (by simp)) (X.fs Cc (by simp)) e⟩
  exact comp_push X2 L4 r hacc hi fun _ s₅ L5 => hK s₂ s₅ X2 a6 L5

noncomputable def GotInv (prog : Program) (w : World) (A : Around) (base : Heap) (l : List Env) (fx ad : List Addr) (rank : Nat) (F : Phi) (c : Cx) (scope : Scope) (xs : List Str) (env : Env) (ρ : Vars) (cl : List (Str × Addr)) (s₁ : Shared) (t elt : Expr) (ce : CE) (ys : List V) (v : V) (I D Cc : Addr) (fp : List Addr)
    (P : Nat → Value → Prop) (St : Nat → Heap → Prop) (f j : Nat) (stE : Store) (zs : List V) (n : Nat) (s' : Shared) : Prop :=
  ∃ i acc rest st s₂, n = ys.length - i ∧ i ≤ ys.length ∧ acc.length ≤ i ∧ LoopFix prog w A base l fx ad st rank F c scope xs env ρ cl s₂ t elt none ce ys v I D Cc fp P St ∧ Go l [] ad (but j) s₁ ad s₂ ∧
    LoopSt prog w l fx ad s₂ I D Cc St i acc s' ∧ gotLoop F f j (ys.length - i) st = some (rest, stE) ∧ zs = acc ++ rest

theorem got_loop (G : GOk base mg mb) (hF : FOkI prog w base mg c.fns rank F) {f y : Str} {fi ky j : Nat} {it : Addr} {pf py pc pos : Pos} {iter : Expr} (hf : c.fns.lookup f = some fi)
    (hk : (cxComp c scope xs).sc.lookup f = some .globalImplicit) (hy : okVar (cxComp c scope xs) y ky = true) (hρ : ρ[ky]? = some (some (.loc j))) (hj : ad[j]? = some it) (hvj : ys ≠ [] → v ≠ .loc j) {stE : Store} {zs : List V} {R : Result → Shared → Prop}
    (hR : ∀ s₂ s', LoopFix prog w A base l fx ad stE rank F c scope xs env ρ cl s₂ t elt none ce ys v I D Cc fp P St → Go l [] ad (but j) s₁ ad s₂ → LoopSt prog w l fx ad s₂ I D Cc (fun _ _ => True) 0 zs s' → R (.ok .next) s')
    {n : Nat} (h : GotInv prog w A base l fx ad rank F c scope xs env ρ cl s₁ t elt ce ys v I D Cc fp P St fi j stE zs n s) :
    codeAny (model prog w) A (.compLoop (.ListComp (.Call (.Name f pf) [.Name y py] [] pc) [⟨t, iter, [], 0⟩] scope pos) 0 (.ref I) (.ref D) (compEnvC scope cl Cc env)) R s := by
  refine PySem.W.kcp_loop (GotInv prog w A base l fx ad rank F c scope xs env ρ cl s₁ t elt ce ys v I D Cc fp P St fi j stE zs) ?_ n h
  rintro n s ⟨i, acc, rest, st, s₂, rfl, hi, hacc, X, g, L, hr, hz⟩
  by_cases hlt : i < ys.length
  · obtain ⟨x, hx⟩ : ∃ x, ys[i]? = some x := ⟨ys[i], by simp [hlt]⟩
    have hv : v ≠ .loc j := hvj fun q => by rw [q] at hlt; exact absurd hlt (Nat.not_lt_zero _)
    rw [show ys.length - i = (ys.length - (i + 1)) + 1 by omega] at hr
    obtain ⟨z, o, r, hc, hr', rfl⟩ := gotLoop_succ hr
    refine comp_item X L hx (new := [some x]) rfl (Kk := fun s₃ => wpAny (model prog w) A (eval (.Call (.Name f pf) [.Name y py] [] pc) (compEnvC scope cl Cc env)) (fun x s₄ => wpAny (model prog w) A (call (.builtin "list.append") [.ref D, x])
      (fun _ s₅ => ∃ m, m < ys.length - i ∧ GotInv prog w A base l fx ad rank F c scope xs env ρ cl s₁ t elt ce ys v I D Cc fp P St fi j stE zs m s₅) _ s₄) _ s₃) (fun s₃ L₃ Vr₃ => ?_) fun v s' h => h
    refine got_elt X G hF hf hk hy L₃ Vr₃ hρ hj hv hc (by omega) hlt fun s₄ s₅ X' g' L' => ?_
    exact ⟨ys.length - (i + 1), by omega, i + 1, acc ++ [z], r, _, s₄, rfl, hlt, by simp; omega, X', g.trans g', L', hr', by rw [hz]; simp⟩
  · have e : i = ys.length := by omega
    subst e
    rw [Nat.sub_self] at hr
    cases hr
    rw [List.append_nil] at hz
    subst hz
    exact comp_done X L fun s' L' => hR s₂ s' X g L'
end loop
end

noncomputable def okGot (c : Cx) (scope : Scope) (wv x f y : Str) (kx fi ky : Nat) (px cp : Pos) : Bool := okComp c scope [wv] && c.sc.lookup x == some .local && c.γ.lookup x == some kx && px.line == cp.line && !(scope.names.any fun (n, k) => n == x && (k == .local || k == .cell)) &&
  c.fns.lookup f == some fi && (cxComp c scope [wv]).sc.lookup f == some .globalImplicit && okVar (cxComp c scope [wv]) y ky

section
variable {prog : Program} {w : World} {base : Heap} {mg mb : Str → Option Value} {rank : Nat} {F : Phi} {c : Cx}
theorem s_got {x f y wv : Str} {kx fi ky : Nat} {px pf py pc wp cp pos : Pos} {it : Expr} {scope : Scope} {cit : CE} (G : GOk base mg mb) (hF : FOkI prog w base mg c.fns rank F) (C : CxOk c) (hok : okGot c scope wv x f y kx fi ky px cp = true)
    (hfs : ∀ env x, foldedSetIterable it env x = pure x) (sit : SndE prog w base rank F c it cit) :
    SndS prog w base rank F c (.Assign [.Name x px] (.ListComp (.Call (.Name f pf) [.Name y py] [] pc) [⟨.Name wv wp, it, [], 0⟩] scope cp) pos) (.got kx fi ky cit) := fun A env outer fx ow ad lk σ s Q E K O H Vr P => by
  unfold okGot at hok
  simp only [Bool.and_eq_true, beq_iff_eq] at hok
  obtain ⟨⟨⟨⟨⟨⟨⟨hcomp, hx1⟩, hx2⟩, hline⟩, hnm⟩, hf⟩, hk⟩, hy⟩ := hok
  have ok := compOk hcomp
  have hsw : swapsWith (.ListComp (.Call (.Name f pf) [.Name y py] [] pc) [⟨.Name wv wp, it, [], 0⟩] scope cp) (some (.Name x px)) pos.line env = pure (env.blockKind == .function && env.kindOf x == some .local && px.line == cp.line && !(scope.names.any fun (n, k) => n == x && (k == .local || k == .cell))) := rfl
  have hb : (env.blockKind == .function && env.kindOf x == some .local && px.line == cp.line && !(scope.names.any fun (n, k) => n == x && (k == .local || k == .cell))) = true := by
    have h1 : env.blockKind = .function := by unfold Env.blockKind; rw [K.kind]; rfl
    have h2 : env.kindOf x = some .local := by unfold Env.kindOf; rw [K.names]; exact hx1
    rw [h1, h2, hline, hnm]; simp
  rw [hb] at hsw
  rw [exec_q13] at P
  obtain ⟨cl, hcl, h1, h2⟩ := closureFor_comp ok (env := env) fun y hy => let ⟨a, _, h, _⟩ := Vr.cell y hy; ⟨a, h⟩
  rw [exec_Assign_Name_used _ _ _ _ hsw]
  refine wpAny_bind (wpAny_standAt (wpAny_bind ?_))
  show wpAny _ A (do let _ ← comprehension (.ListComp (.Call (.Name f pf) [.Name y py] [] pc) [⟨.Name wv wp, it, [], 0⟩] scope cp) scope env _ (newList []) false (eval it env) (some (assign (.Name x px) env))) _ _ s
  refine wpAny_bind (wpAny_mono (wpAny_comprehension_free (use := some (assign (.Name x px) env)) (Q := fun _ s' => Q .next s') rfl (fun y => hfs env y) hcl ok.kind (fun p hp hl => (ok.local_ p hp hl).1) ?_) (fun _ s' hq => wpAny_pure (wpAny_pure hq)) fun _ _ e => e)
  refine sit A env _ fx ad σ.vars σ.store s _ E K H Vr ⟨fun v val s₁ e g r => ?_, fun k e s₁ s' h g x => ?_, fun h => ?_⟩
  · simp only [e] at P
    have H₁ := H.grow g; have Vr₁ := Vr.grow H g
    cases hys : iterV σ.store v with
    | none => rw [hys] at P; exact absurd rfl P.ns
    | some ys =>
      rw [hys] at P
      simp only at P
      split at P
      · rename_i j hρ
        split at P
        · exact absurd rfl P.ns
        · rename_i hlk
          rw [not_or] at hlk
          have hlk1 : lk j = false := by simpa using hlk.1
          have hlen : ys.length ≤ 1000 := by simpa using hlk.2
          cases hgot : gotLoop F fi j ys.length σ.store with
          | none => rw [hgot] at P; exact absurd rfl P.ns
          | some q =>
            obtain ⟨zs, stE⟩ := q
            rw [hgot] at P
            simp only at P
            obtain ⟨it', hit'⟩ : ∃ it', ad[j]? = some it' := by
              obtain ⟨v1, v2, v3⟩ := okVar_is hy
              rcases v1 with v1 | v1
              · exfalso
                rcases ok.γ_cases v3 with ⟨e1, e2⟩ | ⟨e1, e2, _⟩
                · have hl := Vr.len
                  have := (List.getElem?_eq_some_iff.mp hρ).1
                  omega
                · have v1' : (PySem.relabel scope env).names.lookup y = some .local := by rw [relabel_eq K scope]; exact v1
                  have v1'' : (Mine.relabel c.sc scope.names).lookup y = some .local := v1
                  rw [relabel_lookup, e2] at v1''
                  simp only at v1''
                  split at v1'' <;> cases v1''
              · have hfree : c.sc.lookup y = some .cell ∧ c.γ.lookup y = some ky := by
                  rcases ok.γ_cases v3 with ⟨e1, e2⟩ | ⟨e1, e2, _⟩
                  · have hl := Vr.len
                    have := (List.getElem?_eq_some_iff.mp hρ).1
                    omega
                  · exact ⟨(ok.free (y, .free) (lookup_mem e2) rfl).1, e1⟩
                obtain ⟨a, u, g1, g2, g3, g4, g5⟩ := Vr.cell y hfree.1
                obtain ⟨u', hu, hr⟩ := g5 ky _ hfree.2 hρ
                rw [Rep] at hr
                obtain ⟨it', h, _⟩ := hr
                exact ⟨it', h⟩
            have hvj : ys ≠ [] → v ≠ .loc j := by
              rintro hne rfl
              obtain ⟨y0, yr, rfl⟩ := List.exists_cons_of_ne_nil hne
              obtain ⟨z, o, r', hc, _, _⟩ := gotLoop_succ hgot
              obtain ⟨kk, p, q, _, hst⟩ := callI_is hc
              have : items σ.store (.loc j) = some (y0 :: yr) := hys
              simp only [items, hst] at this
              cases this
            refine comp_start0 (F := F) (elt0 := .Constant .none 0 wp) (ce := .none) (k := none) (xs := [wv]) (R := fun acc Cc => compPost (model prog w) A E (some (assign (.Name x px) env)) (fun _ s' => Q .next s') acc Cc) ok C K H₁ Vr₁ h1 h2 rfl snd_none r hys fun fp Pr St D Cc s' X hsysD L => ?_
            refine got_loop (zs := zs) (stE := stE) (n := ys.length) G hF hf hk hy hρ hit' hvj (fun s₂ s₃ X2 g2 L2 => ?_) ⟨0, [], zs, _, s₁, rfl, Nat.zero_le _, Nat.le_refl _, X, .refl .., L, by rw [Nat.sub_zero]; exact hgot, rfl⟩
            have S := comp_end X2 hsysD L2
            exact comp_store (lk := lk) C K O (.inl hx1) hx2 X2.H X2.Vr S (by rw [gotLoop_len hgot]; simp only [big]; omega) fun s'' g4 H4 Vr4 => P.next _ ad _ rfl ((Go.of_grow g (.refl ..)).trans ((g2.of_it hlk1).trans g4)) H4 Vr4
      · exact absurd rfl P.ns
  · rw [h] at P; exact absurd rfl P.ns
  · rw [h] at P; exact absurd rfl P.ns
end
end Mine

end
section
set_option autoImplicit false
namespace Mine
open PySem PyProof.Rows

section
variable {prog : Program} {w : World} {base : Heap} {mg mb : Str → Option Value} {l l' : List Env} {fx ow ad ad' : List Addr} {st st' : Store} {s s₁ s' : Shared} {rank : Nat} {F : Phi}

theorem fin_rep (H : HR prog w base l fx ad st s) (H' : HR prog w base l' (ow ++ fx) ad' st' s') (x : Ext ad ad' s) {v v' : V} {val : Value} (r : Rep prog w (ad' ++ (ow ++ fx)) ad' s'.heap v val)
    (h : fin st.length st' v = .ok v') : Rep prog w (ad ++ fx) ad s'.heap v' val := by
  have hX : ∀ b, b ∈ ad ++ fx → b ∈ ad' ++ (ow ++ fx) := fun b hb => by
    obtain ⟨new, rfl, _⟩ := x
    rcases List.mem_append.mp hb with q | q
    · exact List.mem_append_left _ (List.mem_append_left _ q)
    · exact List.mem_append_right _ (List.mem_append_right _ q)
  have had : ∀ (i : Nat) (a : Addr), i < st.length → ad'[i]? = some a → ad[i]? = some a := fun i a hi ha => by
    obtain ⟨new, rfl, _⟩ := x
    rwa [List.getElem?_append_left (by rw [H.len]; exact hi)] at ha
  have new : ∀ (i : Nat) (a : Addr), ¬ i < st.length → ad'[i]? = some a → a ∉ ad ++ fx := fun i a hi ha q => by
    have hne : a ≠ sysModules := fun z => H'.apart a (List.mem_of_getElem? ha) (z ▸ H'.one)
    have hth := H.there a q
    obtain ⟨new, rfl, hn⟩ := x
    rw [List.getElem?_append_right (by rw [H.len]; omega)] at ha
    rcases hth with z | ⟨o, z⟩
    · exact hne z
    · rw [hn a (List.mem_of_getElem? ha)] at z; cases z
  unfold fin at h
  split at h
  · rename_i i
    split at h
    · rename_i hi
      cases h
      rw [Rep] at r ⊢
      obtain ⟨a, ha, rfl⟩ := r
      exact ⟨a, had i a hi ha, rfl⟩
    · rename_i hi
      rw [Rep] at r
      obtain ⟨a, ha, rfl⟩ := r
      split at h
      · rename_i xs hst
        split at h
        · rename_i hl
          cases h
          obtain ⟨vs, hp, hb, hr⟩ := H'.store i a _ ha hst
          rw [Rep]
          exact ⟨a, vs, rfl, new i a hi ha, hp.isList, hb, Reps.low prog w hX had hl hr⟩
        · cases h
      · rename_i es hst
        cases h
        obtain ⟨kvs, hd, hb, hr⟩ := H'.store i a _ ha hst
        rw [Rep]
        exact ⟨a, kvs, rfl, new i a hi ha, hd, hb, hr⟩
      · cases h
  · split at h
    · rename_i hl
      cases h
      exact Rep.low prog w hX had hl r
    · cases h

theorem fin_not_exc {n : Nat} {st : Store} {v : V} {k : K} : fin n st v ≠ .error (.exc k) := by
  unfold fin
  intro h
  split at h
  · split at h
    · cases h
    · split at h
      · split at h <;> cases h
      · cases h
      · cases h
  · split at h <;> cases h

theorem head_parts {fns : List (Str × Nat)} {params : List Str} {scope : Scope} {f : Fn} (h : okHead params scope f = true) :
    ∃ vars b, vars = (scope.names.filter fun p => p.2 == .local || p.2 == .cell).map (·.1) ∧ params <+: vars ∧ nodupB (scope.names.map (·.1)) = true ∧ scope.kind = .function ∧ scope.isCoroutine = false ∧ scope.isGenerator = false ∧
      cxOf scope fns = { sc := scope.names, γ := slots 0 vars, fns := fns, n := vars.length } ∧ f = ⟨params.length, vars.length, b⟩ := by
  simp only [okHead, Bool.and_eq_true, beq_iff_eq, Bool.not_eq_true', List.isPrefixOf_iff_prefix] at h
  obtain ⟨⟨⟨⟨⟨⟨h1, h2⟩, h3⟩, h4⟩, h5⟩, h6⟩, h7⟩ := h
  refine ⟨varsOf scope, f.body, rfl, h1, h2, h3, h4, h5, rfl, ?_⟩
  cases f
  simp only at h6 h7
  rw [h6, h7]
noncomputable def BodyOk (prog : Program) (w : World) (base : Heap) (mg mb : Str → Option Value) (scope : Scope) (fns : List (Str × Nat)) (body : List Stmt) (b : List CS) : Prop :=
  ∀ (rank : Nat) (F : Phi), GOk base mg mb → FOk prog w base mg fns rank F → FOkI prog w base mg fns rank F → CxOk (cxOf scope fns) → SndSs prog w base rank F (cxOf scope fns) body b

theorem newEnv_one {M : Model} {A : Around} {E : Value → Shared → Prop} {scope : Scope} {globals : Addr} {p : Str} {v : Value} {qual : Str} {func : Option Addr} {code : Value} {builtins : Addr} {Q : Env → Shared → Prop}
    (hk : scope.kind = .function) (hp : scope.names.lookup p = some .local)
    (hQ : ∀ env, env = newEnv scope s.heap.objs.size globals (cellsFrom (s.heap.objs.size + 1) scope.names []) qual func code none builtins →
      ∀ s', InCallC s env.locals (bindL env.kindOf [(p, v)] fun _ => none) env.cells (bindC env.kindOf [(p, v)] fun _ => none) s' → s'.toks = s.toks + 1 → Q env s') :
    wpAny M A (newFunctionEnv scope globals [] [(p, v)] qual func code none builtins) Q E s := by
  simp only [newFunctionEnv, Option.isSome_none, Bool.false_eq_true, if_false]
  refine wpAny_bind (wpAny_alloc ?_)
  refine wpAny_bind (wpAny_layCells _ (fun name kind cells => by cases hkc : kind == NameKind.cell <;> simp [hkc]) _ _ _ _ ?_)
  have ok := cellsFrom_ok scope.names (s.heap.push { cls := .type "frame", data := .dict #[] }) (s.heap.objs.size + 1) [] ⟨fun _ _ hm => (nomatch hm), List.Pairwise.nil⟩ (by rw [Heap.size_push]; exact Nat.le_refl _)
  rw [Heap.size_push] at ok
  rw [show ({ s with heap := s.heap.push { cls := .type "frame", data := .dict #[] } } : Shared).heap.objs.size = s.heap.objs.size + 1 from Heap.size_push ..]
  generalize henv : newEnv scope s.heap.objs.size globals (cellsFrom (s.heap.objs.size + 1) scope.names []) qual func code none builtins = env
  have hQ' := hQ env henv.symm
  have hloc : env.locals = s.heap.objs.size := by rw [← henv]; rfl
  have hcells : env.cells = cellsFrom (s.heap.objs.size + 1) scope.names [] := by rw [← henv]; rfl
  have hkind : env.kindOf p = some .local := by rw [← henv]; exact hp
  have hsk : env.scope.kind = .function := by rw [← henv]; exact hk
  have henv' : ({ scope, locals := s.heap.objs.size, globals, cells := cellsFrom (s.heap.objs.size + 1) scope.names [], qual, func, code, frame := some s.heap.objs.size, builtins } : Env) = env := henv
  rw [henv']
  have hns : (pushCells (s.heap.push { cls := .type "frame", data := .dict #[] }) scope.names).Ns env.locals fun _ => none := by rw [hloc]; exact (Heap.Ns.new s.heap (.type "frame")).keeps (pushCells_keeps _ _)
  have hold : ∀ b o, s.heap.get? b = some o → (pushCells (s.heap.push { cls := .type "frame", data := .dict #[] }) scope.names).get? b = some o := fun b o e => pushCells_keeps _ _ b o (Heap.get?_push_of_some _ e)
  refine wpAny_bind ?_
  rw [List.forIn_cons]
  refine wpAny_bind (wpAny_bind (wpAny_storeName_local hkind hns (fun h' hn' hs' => ?_) (by rw [hsk]; rfl)))
  refine wpAny_pure ?_
  refine wpAny_pure (wpAny_pure (hQ' _ ⟨⟨⟨_, _, rfl⟩, ?_, fun b o e => ?_, by rw [hloc]; exact Nat.le_refl _⟩, fun n c hc => ?_, by rw [hcells]; exact ok.apart, fun n c hm => ?_⟩ rfl))
  · unfold bindL bindL
    rw [if_pos hkind]; exact hn'
  · exact hs'.extBut b o (by rw [hloc]; exact Nat.ne_of_lt (Heap.lt_size e)) (hold b o e)
  · unfold bindC bindC
    rw [if_pos hkind]
    rw [hcells] at hc
    have h1 := ok.empty n c (mem_of_lookup hc)
    refine h1.1.sameBut hs' ?_
    rw [hloc]; exact Nat.ne_of_gt h1.2
  · rw [hcells] at hm
    rw [hloc]; exact (ok.empty n c hm).2


noncomputable def Out2 (l : List Env) (s s₂ : Shared) (k : K) (e : Value) (s₄ : Shared) : Prop := ∀ s₃ : Shared, s₃.gens = s₂.gens → s₃.os = s₂.os → s₃.toks ≤ s₂.toks →
  (∀ b o, s₃.heap.get? b = some o → (∃ o', s.heap.get? b = some o') ∧ (b ∉ fsOf l → s₂.heap.get? b = some o) ∧ ∃ sl, s₂.heap.get? b = some { o with slots := sl }) → Raised l (topL l) s₃ k e s₄

theorem fn_gen {t : Nat} {lk : Nat → Bool} (G : GOk base mg mb) {d : DefRec} {fns : List (Str × Nat)} {f : Fn} (hhd : okHead (d.params.args.map (·.arg)) d.scope f = true) (hbd : BodyOk prog w base mg mb d.scope fns d.body f.body) (hF : FOk prog w base mg fns rank F) (hI : FOkI prog w base mg fns rank F) (hb : BindOk d)
    {fa : Addr} {o : PySem.Obj} {pm code doc : Value} (ho : base.get? fa = some o) (hd : o.data = .func (PySem.Calls.docDef d.name d.params d.body d.scope pm code doc)) (hcd : base.CodeRec code d.name)
    {A : Around} (hfr : A.frames = some l) (hh : A.handled = none) (hdp : A.depth + (rank + 1) < 900) (hun : A.units + 10 * (rank + 1) + 200 < cLine) (H : HR prog w base l fx ad st { s with toks := t }) {xs : List V} {vals : List Value}
    (hent : 1 ≤ s.toks ∨ ∃ a, d.params.args = [a] ∧ d.scope.names.lookup a.arg = some .local) (r : Reps prog w (ad ++ fx) ad s.heap xs vals) {R : Result → Shared → Prop}
    (hlen : xs.length = f.nargs) {X : Out} (hX : execs F f.body lk ⟨xs.map some ++ List.replicate (f.nvars - f.nargs) none, st⟩ = X)
    (hok : ∀ v val σ' ad' s', X = .ret v σ' → Go l [] ad lk s ad' s' → (∃ l' ow, HR prog w base l' (ow ++ fx) ad' σ'.store s' ∧ Rep prog w (ad' ++ (ow ++ fx)) ad' s'.heap v val) → R (.ok (.ret val)) s')
    (hex : ∀ k e σ' ad' s₂ s', X = .exc k σ' → Go l [] ad lk s ad' s₂ → (∃ l' ow, HR prog w base l' (ow ++ fx) ad' σ'.store s₂) → s'.gens = s.gens → s'.os = s.os → Out2 l s s₂ k e s' → R (.error e) s')
    (ns : (∃ v σ', X = .ret v σ') ∨ ∃ k σ', X = .exc k σ') : codeAny (model prog w) A (.call (.ref fa) ⟨vals, []⟩) R s := by
  obtain ⟨vars, b, hvars, hpre, hnd, hkind, hco, hgen, hcx, rfl⟩ := head_parts (fns := fns) hhd
  have hbody := hbd rank F G hF hI
  rw [hcx] at hbody
  have hlen : xs.length = (d.params.args.map (·.arg)).length := hlen
  have hcall : execs F b lk ⟨xs.map some ++ List.replicate (vars.length - (d.params.args.map (·.arg)).length) none, st⟩ = X := hX
  have hvl := Reps.length prog w r
  have hvn : nodupB vars = true := by rw [hvars]; exact nodupB_filter _ hnd
  have hplen : (d.params.args.map (·.arg)).length ≤ vars.length := hpre.length_le
  have hmem : ∀ x ∈ vars, d.scope.names.lookup x = some .local ∨ d.scope.names.lookup x = some .cell := by
    intro x hx
    rw [hvars] at hx
    obtain ⟨p, hp, rfl⟩ := List.mem_map.mp hx
    obtain ⟨h1, h2⟩ := List.mem_filter.mp hp
    rw [nodup_lookup hnd (k := p.2) h1]
    simpa using h2
  refine codeAny_call_function (by show A.depth < 1000; omega) (H.stays _ _ ho) hd hco hgen rfl (hcd.keeps H.stays) ?_
  rw [hb pm code doc vals (by rw [hvl, hlen]; simp)]
  have key : ∀ env, env = newEnv d.scope s.heap.objs.size mainGlobals (cellsFrom (s.heap.objs.size + 1) d.scope.names []) (d.name ++ ".<locals>.") (some fa) code none builtinsNs →
      ∀ s₁, InCallC s env.locals (bindL env.kindOf ((d.params.args.map (·.arg)).zip vals) fun _ => none) env.cells (bindC env.kindOf ((d.params.args.map (·.arg)).zip vals) fun _ => none) s₁ → s.toks ≤ s₁.toks → 1 ≤ s₁.toks →
      s₁.heap.NoLimit ∧ codeAny (model prog w) A (.func d.body env) R s₁ := by
    intro env he s₁ ic htk hone
    have hloc : env.locals = s.heap.objs.size := by rw [he]; rfl
    have hframe : env.frame = some s.heap.objs.size := by rw [he]; rfl
    have hnames : env.scope.names = d.scope.names := by rw [he]; rfl
    have henvk : env.scope.kind = .function := by rw [he]; exact hkind
    have hcells : env.cells = cellsFrom (s.heap.objs.size + 1) d.scope.names [] := by rw [he]; rfl
    have hglob : env.globals = mainGlobals := by rw [he]; rfl
    have hbui : env.builtins = builtinsNs := by rw [he]; rfl
    clear he
    refine ⟨(G.nolimit.keeps H.stays).keeps ic.toInCall.keep, codeAny_func ?_⟩
    generalize how : (env.locals :: env.cells.filterMap fun p => env.cells.lookup p.1) = ow
    have hbig : 3 < s.heap.objs.size := let ⟨o', e⟩ := H.main; Heap.lt_size e
    have own : ∀ b' ∈ ow, b' = env.locals ∨ ∃ x, env.cells.lookup x = some b' := by
      intro b' hb'
      rw [← how] at hb'
      rcases List.mem_cons.mp hb' with q | q
      · exact .inl q
      · obtain ⟨p, _, hp⟩ := List.mem_filterMap.mp q
        exact .inr ⟨p.1, hp⟩
    have above : ∀ x a, env.cells.lookup x = some a → s.heap.objs.size < a := fun x a hx => by
      have := ic.above x a (mem_of_lookup hx)
      rw [hloc] at this; exact this
    have hge : ∀ b' ∈ ow, s.heap.objs.size ≤ b' := fun b' hb' => by
      rcases own b' hb' with q | ⟨x, hx⟩
      · rw [q, hloc]; exact Nat.le_refl _
      · exact Nat.le_of_lt (above x b' hx)
    have hnew : ∀ b' ∈ ow, s.heap.get? b' = none := fun b' hb' => Heap.get?_none_of_le (hge b' hb')
    have hth : ∀ b' ∈ ow, ∃ o, s₁.heap.get? b' = some o := fun b' hb' => by
      rcases own b' hb' with q | ⟨x, hx⟩
      · obtain ⟨o, _, _, h1, _⟩ := ic.toInCall.ns; rw [q]; exact ⟨o, h1⟩
      · obtain ⟨o, h1, _⟩ := ic.cell x b' hx; exact ⟨o, h1⟩
    have hL : env.locals ∈ ow := by rw [← how]; exact List.mem_cons_self ..
    have hownc : ∀ x a, env.cells.lookup x = some a → a ∈ ow := fun x a hx => by
      rw [← how]
      exact List.mem_cons_of_mem _ (List.mem_filterMap.mpr ⟨(x, a), mem_of_lookup hx, hx⟩)
    have hsys : ∀ b' ∈ ow, b' ≠ sysModules := fun b' hb' => by
      have h1 : s.heap.objs.size ≤ b' := hge b' hb'
      intro h2
      have h3 : (b' : Nat) = 1 := h2
      rw [h3] at h1
      omega
    have keep := ic.toInCall.keep
    have H₁ : HR prog w base (env :: l) (ow ++ fx) ad st s₁ := H.call keep hone hnew hth (L := s.heap.objs.size) hframe (hloc ▸ hL) henvk (hloc ▸ ic.toInCall.ns)
    have r₁ := Reps.call H keep hnew r
    have O : Own env ow (ow ++ fx) := ⟨fun b' hb' => ⟨List.mem_append_left _ hb', hsys b' hb'⟩, hL, hownc⟩
    have hkf : ∀ x, env.kindOf x = d.scope.names.lookup x := fun x => by unfold Env.kindOf; rw [hnames]
    have C : CxOk { sc := d.scope.names, γ := slots 0 vars, fns := fns, n := vars.length } := by
      refine ⟨fun x y k hx hy => ?_, fun x k hx => ?_⟩
      · have h1 := (slots_lookup hx).2
        have h2 := (slots_lookup hy).2
        rw [h1] at h2; cases h2; rfl
      · have := (List.getElem?_eq_some_iff.mp (slots_lookup hx).2).1
        simpa using this
    have arg : ∀ (x : Str) (k : Nat) (dd : V), (slots 0 vars).lookup x = some k → (xs.map some ++ List.replicate (vars.length - (d.params.args.map (·.arg)).length) none)[k]? = some (some dd) →
        ∃ v, (d.params.args.map (·.arg))[k]? = some x ∧ vals[k]? = some v ∧ Rep prog w (ad ++ (ow ++ fx)) ad s₁.heap dd v := by
      intro x k dd hx hk
      by_cases hlt : k < xs.length
      · rw [List.getElem?_append_left (by simpa using hlt), List.getElem?_map] at hk
        have hk' : xs[k]? = some dd := by
          cases e : xs[k]? with
          | none => rw [e] at hk; cases hk
          | some y => rw [e] at hk; cases hk; rfl
        obtain ⟨v, hv, hr⟩ := Reps.get r₁ hk'
        refine ⟨v, ?_, hv, hr⟩
        have h1 := (slots_lookup hx).2
        obtain ⟨t, ht⟩ := hpre
        rw [← ht, Nat.sub_zero, List.getElem?_append_left (by rw [← hlen]; exact hlt)] at h1
        exact h1
      · rw [List.getElem?_append_right (by simpa using hlt), List.getElem?_replicate] at hk
        split at hk <;> simp at hk
    have hpn : nodupB (d.params.args.map (·.arg)) = true := nodupB_prefix hpre hvn
    have Vr : VR prog w { sc := d.scope.names, γ := slots 0 vars, fns := fns, n := vars.length } env (ow ++ fx) ad (xs.map some ++ List.replicate (vars.length - (d.params.args.map (·.arg)).length) none) s₁.heap := by
      refine ⟨⟨List.mem_append_left _ hL, hsys _ hL⟩, ⟨_, ic.toInCall.ns, fun x k dd hx hk hdd => ?_⟩, fun x hx => ?_, fun x y a hx hy => ?_, ?_⟩
      · obtain ⟨v, h1, h2, h3⟩ := arg x k dd hk hdd
        exact ⟨v, bindL_get _ _ _ _ k x v hpn h1 h2 ((hkf x).trans hx), h3⟩
      · obtain ⟨a, ha⟩ := cellsFrom_some (n := s.heap.objs.size + 1) (acc := []) (.inl (lookup_mem hx))
        have ha' : env.cells.lookup x = some a := by rw [hcells]; exact ha
        refine ⟨a, _, ha', ⟨List.mem_append_left _ (hownc x a ha'), hsys _ (hownc x a ha')⟩, ?_, ic.cell x a ha', fun k dd hk hdd => ?_⟩
        · rw [hloc]; exact Nat.ne_of_gt (above x a ha')
        · obtain ⟨v, h1, h2, h3⟩ := arg x k dd hk hdd
          exact ⟨v, bindC_get _ _ _ _ k x v hpn h1 h2 ((hkf x).trans hx), h3⟩
      · exact name_of_addr ic.apart (mem_of_lookup hx) (mem_of_lookup hy)
      · show (xs.map some ++ _).length = vars.length
        rw [List.length_append, List.length_map, List.length_replicate]; omega
    have top : topL (env :: l) = s.heap.objs.size := by show env.frame.getD 0 = _; rw [hframe]; rfl
    have K : EnvOk rank { sc := d.scope.names, γ := slots 0 vars, fns := fns, n := vars.length } (A.deeper env) env (env :: l) := {
      kind := henvk
      names := hnames
      globals := hglob
      builtins := hbui
      frame := by rw [top]; exact hframe
      cons := ⟨env, l, rfl, by rw [top]; exact hframe⟩
      frames := by show A.frames.map (env :: ·) = _; rw [hfr]; rfl
      handled := hh
      depth := by show A.depth + 1 + rank < 900; omega
      units := by show A.units + 3 + 10 * rank + 200 < cLine; omega }
    have extO : ∀ {ad' : List Addr}, Ext ad ad' s₁ → Ext ad ad' s := fun ⟨new, e, hn⟩ => ⟨new, e, fun a ha => by
      cases q : s.heap.get? a with
      | none => rfl
      | some o' => have := keep a o' q; rw [hn a ha] at this; cases this⟩
    have outG : ∀ {ad' : List Addr} {s' : Shared}, Go (env :: l) ow ad lk s₁ ad' s' → Go l [] ad lk s ad' s' := by
      intro ad' s' g
      obtain ⟨h₁, tk₁, e₁⟩ := ic.toInCall.same
      have nb : ∀ b' o', s.heap.get? b' = some o' → b' ∉ ow := fun b' o' e q => by rw [hnew b' q] at e; cases e
      have fsc : ∀ b', b' ∈ fsOf (env :: l) → b' = s.heap.objs.size ∨ b' ∈ fsOf l := fun b' hb' => by
        unfold fsOf at hb' ⊢
        rw [List.filterMap_cons, hframe] at hb'
        exact (List.mem_cons.mp hb').imp id id
      have nL : ∀ b' o', s.heap.get? b' = some o' → b' ≠ s.heap.objs.size := fun b' o' e => Nat.ne_of_lt (Heap.lt_size e)
      refine ⟨g.gens.trans (by rw [e₁]), g.os.trans (by rw [e₁]), Nat.le_trans htk g.toks, extO g.ext, fun b' o' e => g.there b' o' (keep b' o' e), fun b' o' e hb' _ hl => ?_, fun b' o' e hb' _ => ?_⟩
      · exact g.exact b' o' (keep b' o' e) (fun q => (fsc b' q).elim (nL b' o' e) hb') (nb b' o' e) hl
      · refine g.slots b' o' (keep b' o' e) ?_ (nb b' o' e)
        unfold fsOf at hb' ⊢
        rw [List.filterMap_cons, hframe]; exact List.mem_cons_of_mem _ hb'
    have body := hbody C
    refine body (A.deeper env) env l (ow ++ fx) ow ad lk ⟨xs.map some ++ List.replicate (vars.length - (d.params.args.map (·.arg)).length) none, st⟩ s₁ _ _ K O H₁ Vr
      ⟨fun σ' ad' s' e g H' Vr' => ?_, fun σ' ad' s' e g H' Vr' => ?_, fun v σ' ad' s' val e g H' rv => ?_, fun k σ' ad' s₂ s' ex e g H' Vr' y => ?_, fun e => ?_⟩
    · rw [hcall] at e; subst e; rcases ns with ⟨_, _, q⟩ | ⟨_, _, q⟩ <;> cases q
    · rw [hcall] at e; subst e; rcases ns with ⟨_, _, q⟩ | ⟨_, _, q⟩ <;> cases q
    · rw [hcall] at e
      exact hok v val σ' ad' s' e (outG g) ⟨env :: l, ow, H', rv⟩
    · rw [hcall] at e
      unfold leaving
      refine wpAny_bind (note_raised K.frames K.frame y fun s₃ y₃ => ?_)
      refine land_held y₃ fun s₄ y₄ => ?_
      have g2 := outG g
      refine hex k ex σ' ad' s₂ s₄ e g2 ⟨env :: l, ow, H'⟩ (y₄.gens.trans g2.gens) (y₄.os.trans g2.os) fun s₅ e1 e2 e3 e4 => ?_
      obtain ⟨a, B, h1, hB, a0, f1, f2, f3, f4⟩ := y₄.at_
      refine ⟨y₄.gens.trans e1.symm, y₄.os.trans e2.symm, Nat.le_trans e3 y₄.toks, ⟨a, B, h1, fun b' o' e' hb' => ?_, f1, f2, f3.2.2, .fly a0 f4⟩, fun b' o' e' hnf => ?_⟩
      · obtain ⟨⟨o2, he2⟩, q2, _⟩ := e4 b' o' e'
        refine hB b' o' (q2 hb') fun q => ?_
        unfold fsOf at q hb'
        rw [List.filterMap_cons, hframe] at q
        rcases List.mem_cons.mp q with z | z
        · exact Nat.ne_of_lt (Heap.lt_size he2) z
        · exact hb' z
      · obtain ⟨_, _, sl, e2⟩ := e4 b' o' e'
        obtain ⟨sl2, e3⟩ := y₄.slots b' _ e2 hnf
        exact ⟨sl2, e3⟩
    · rw [hcall] at e; subst e; rcases ns with ⟨_, _, q⟩ | ⟨_, _, q⟩ <;> cases q
  refine wpAny_pure ?_
  rcases hent with hent | ⟨a, ha, hloc⟩
  rotate_left
  · obtain ⟨v, rfl⟩ : ∃ v, vals = [v] := by
      match vals, (by rw [hvl, hlen, ha]; rfl : vals.length = 1) with
      | [v], _ => exact ⟨v, rfl⟩
    have hz : (d.params.args.map (·.arg)).zip [v] = [(a.arg, v)] := by rw [ha]; rfl
    rw [hz] at key ⊢
    exact newEnv_one hkind hloc fun env he s₁ ic htk => key env he s₁ ic (by omega) (by omega)
  refine wpT (wpAny_newFunctionEnv_cells hkind (fun x hx => ?_) fun env he s₁ ic htk => key env he s₁ ic htk (Nat.le_trans hent htk))
  · have hx' : x.1 ∈ d.params.args.map (·.arg) := (List.of_mem_zip (show (x.1, x.2) ∈ _ from hx)).1
    have hxv : x.1 ∈ vars := hpre.subset hx'
    rcases hmem _ hxv with h | h
    · exact .inl h
    · refine .inr ⟨h, ?_⟩
      obtain ⟨a, ha⟩ := cellsFrom_some (n := s.heap.objs.size + 1) (acc := []) (.inl (lookup_mem h))
      have ha' : (List.lookup x.1 (cellsFrom (s.heap.objs.size + 1) (PySem.Calls.docDef d.name d.params d.body d.scope pm code doc).scope.names [])) = some a := ha
      rw [ha']; rfl

theorem fn_snd {t : Nat} (G : GOk base mg mb) {d : DefRec} {fns : List (Str × Nat)} {f : Fn} (hhd : okHead (d.params.args.map (·.arg)) d.scope f = true) (hbd : BodyOk prog w base mg mb d.scope fns d.body f.body) (hF : FOk prog w base mg fns rank F) (hI : FOkI prog w base mg fns rank F) (hb : BindOk d)
    {fa : Addr} {o : PySem.Obj} {pm code doc : Value} (ho : base.get? fa = some o) (hd : o.data = .func (PySem.Calls.docDef d.name d.params d.body d.scope pm code doc)) (hcd : base.CodeRec code d.name)
    {A : Around} (hfr : A.frames = some l) (hh : A.handled = none) (hdp : A.depth + (rank + 1) < 900) (hun : A.units + 10 * (rank + 1) + 200 < cLine) (H : HR prog w base l fx ad st { s with toks := t }) {xs : List V} {vals : List Value}
    (hent : 1 ≤ s.toks ∨ ∃ a, d.params.args = [a] ∧ d.scope.names.lookup a.arg = some .local) (r : Reps prog w (ad ++ fx) ad s.heap xs vals) {R : Result → Shared → Prop}
    (hok : ∀ v val s', callFn F f st xs = .ok v → Grow l s s' → Rep prog w (ad ++ fx) ad s'.heap v val → R (.ok (.ret val)) s')
    (hex : ∀ k e s', callFn F f st xs = .error (.exc k) → Raised l (topL l) s k e s' → R (.error e) s')
    (ns : callFn F f st xs ≠ .error .stuck) : codeAny (model prog w) A (.call (.ref fa) ⟨vals, []⟩) R s := by
  by_cases hlen : xs.length = f.nargs
  rotate_left
  · exact (ns (by unfold callFn; rw [if_neg hlen]; rfl)).elim
  have hcall : callFn F f st xs = match execs F f.body (fun i => decide (i < st.length)) ⟨xs.map some ++ List.replicate (f.nvars - f.nargs) none, st⟩ with
    | .ret v s => fin st.length s.store v
    | .exc k _ => .error (.exc k)
    | _ => stuck := by unfold callFn; rw [if_pos hlen] <;> rfl
  have all : ∀ (b : Addr) (j : Nat), ad[j]? = some b → decide (j < st.length) = true := fun b j hj => by
    have := (List.getElem?_eq_some_iff.mp hj).1
    rw [H.len] at this
    simpa using this
  generalize hX : execs F f.body (fun i => decide (i < st.length)) ⟨xs.map some ++ List.replicate (f.nvars - f.nargs) none, st⟩ = X at hcall
  refine fn_gen (lk := fun i => decide (i < st.length)) G hhd hbd hF hI hb ho hd hcd hfr hh hdp hun H hent r hlen hX (fun v val σ' ad' s' e g hr => ?_) (fun k e σ' ad' s₂ s' h g hr e1 e2 y => ?_) ?_
  · subst e
    obtain ⟨l', ow, H', rv⟩ := hr
    simp only at hcall
    cases hfin : fin st.length σ'.store v with
    | ok v' => exact hok v' val s' (hcall.trans hfin) ⟨g.gens, g.os, g.toks, ⟨fun b o e hb => g.exact b o e hb List.not_mem_nil (all b), fun b o e hb => g.slots b o e hb List.not_mem_nil⟩⟩ (fin_rep H H' g.ext rv hfin)
    | error er =>
      cases er with
      | stuck => exact absurd (hcall.trans hfin) ns
      | exc k => exact absurd hfin fin_not_exc
  · subst h
    refine hex k e s' hcall (y s g.gens.symm g.os.symm g.toks fun b o e => ⟨⟨o, e⟩, fun hb => g.exact b o e hb List.not_mem_nil (all b), ?_⟩)
    by_cases hb : b ∈ fsOf l
    · exact g.slots b o e hb List.not_mem_nil
    · exact ⟨o.slots, g.exact b o e hb List.not_mem_nil (all b)⟩
  · cases X with
    | ret v σ' => exact .inl ⟨v, σ', rfl⟩
    | exc k σ' => exact .inr ⟨k, σ', rfl⟩
    | _ => exact absurd hcall ns

theorem fn_sndI (G : GOk base mg mb) {d : DefRec} {fns : List (Str × Nat)} {f : Fn} (hhd : okHead (d.params.args.map (·.arg)) d.scope f = true) (hbd : BodyOk prog w base mg mb d.scope fns d.body f.body) (hF : FOk prog w base mg fns rank F) (hI : FOkI prog w base mg fns rank F) (hb : BindOk d)
    {fa : Addr} {o : PySem.Obj} {pm code doc : Value} (ho : base.get? fa = some o) (hd : o.data = .func (PySem.Calls.docDef d.name d.params d.body d.scope pm code doc)) (hcd : base.CodeRec code d.name)
    {A : Around} (hfr : A.frames = some l) (hh : A.handled = none) (hdp : A.depth + (rank + 1) < 900) (hun : A.units + 10 * (rank + 1) + 200 < cLine) (H : HR prog w base l fx ad st s) {j : Nat} {it : Addr} (hj : ad[j]? = some it) {F' : Phi} {i : Nat}
    (hphi : F' (1000 + i) st [.loc j] = callFnI F f st j) {Q : Value → Shared → Prop} {E : Value → Shared → Prop}
    (P : PostI prog w base l fx ad st j s (callI F' i st j) Q E) : codeAny (model prog w) A (.call (.ref fa) ⟨[.ref it], []⟩) (fun r s' => match r with | .ok (.ret v) => Q v s' | .ok _ => False | .error e => E e s') s := by
  unfold callI at P
  rw [hphi] at P
  unfold callFnI at P
  cases hst : st[j]? with
  | none => rw [hst] at P; rcases P.ns with ⟨_, _, q⟩ | ⟨_, _, q⟩ <;> cases q
  | some ob =>
    cases ob with
    | iter k q0 =>
      rw [hst] at P
      simp only at P
      by_cases hk : 1 = f.nargs ∧ k < st.length
      rotate_left
      · rw [if_neg hk] at P; rcases P.ns with ⟨_, _, q⟩ | ⟨_, _, q⟩ <;> cases q
      rw [if_pos hk] at P
      have hlen : [V.loc j].length = f.nargs := hk.1
      have r : Reps prog w (ad ++ fx) ad s.heap [.loc j] [.ref it] := by
        rw [Reps]; refine ⟨_, [], rfl, ?_, by rw [Reps]⟩
        rw [Rep]; exact ⟨it, hj, rfl⟩
      generalize hX : execs F f.body (fun i => decide (i < st.length) && i != j) ⟨[some (.loc j)] ++ List.replicate (f.nvars - f.nargs) none, st⟩ = X at P
      have exact : ∀ {ad' : List Addr} {s' : Shared}, Go l [] ad (fun i => decide (i < st.length) && i != j) s ad' s' → ∀ b o, b ≠ it → b ∉ fsOf l → s.heap.get? b = some o → s'.heap.get? b = some o := fun g b o hb hf e => g.exact b o e hf List.not_mem_nil fun i hi => by
        have h1 := (List.getElem?_eq_some_iff.mp hi).1
        rw [H.len] at h1
        have h2 : i ≠ j := by rintro rfl; rw [hj] at hi; cases hi; exact hb rfl
        simp [h1, h2]
      refine fn_gen (t := s.toks) G hhd hbd hF hI hb ho hd hcd hfr hh hdp hun H (.inl H.toks) r hlen hX (fun v val σ' ad' s' e g hr => ?_) (fun kk e σ' ad' s₂ s' h g hr e1 e2 y => ?_) ?_
      · subst e
        obtain ⟨l', ow, H', rv⟩ := hr
        simp only at P
        cases hfin : fin st.length σ'.store v with
        | error er => rw [hfin] at P; rcases P.ns with ⟨_, _, q⟩ | ⟨_, _, q⟩ <;> cases q
        | ok v' =>
          rw [hfin] at P
          simp only at P
          cases hso : σ'.store[j]? with
          | none => rw [hso] at P; rcases P.ns with ⟨_, _, q⟩ | ⟨_, _, q⟩ <;> cases q
          | some oo =>
            cases oo with
            | iter k' p =>
              rw [hso] at P
              by_cases hkk : k' = k
              rotate_left
              · simp only [itOut, if_neg hkk] at P; rcases P.ns with ⟨_, _, q⟩ | ⟨_, _, q⟩ <;> cases q
              subst hkk
              have hvp : vP (pV p) = p := by cases p <;> simp [pV, vP]
              simp only [itOut, if_true, hvp] at P
              obtain ⟨new, hnew, hnn⟩ := g.ext
              have hj' : ad'[j]? = some it := g.ext.get hj
              obtain ⟨s₁, a1, a2, a3, a4, a5, a6, a7⟩ := back_it (tk := s'.toks) H hj (fun a ha => by rw [hnew, List.getElem?_append_left (by rw [H.len]; exact hk.2)] at ha; exact ha) (H'.store j it _ hj' hso) g.toks
              have hits : ∃ o, s₁.heap.get? it = some o := a7.there it (List.mem_append_left _ (List.mem_of_getElem? hj)) |>.elim (fun h => absurd (h ▸ H.one) (H.apart it (List.mem_of_getElem? hj))) id
              have gr : Grow l s₁ s' := by
                refine ⟨g.gens.trans a1.symm, g.os.trans a2.symm, Nat.le_of_eq a3, ⟨fun b o e hb => ?_, fun b o e hb => ?_⟩⟩
                · by_cases q : b = it
                  · subst q; exact a5 o e
                  · rw [a4 b q] at e; exact exact g b o q hb e
                · have q : b ≠ it := by rintro rfl; exact H.apart b (List.mem_of_getElem? hj) (H.fsX b hb)
                  rw [a4 b q] at e; exact g.slots b o e hb List.not_mem_nil
              refine P.ok v' _ val s' rfl (a6.trans (.of_grow gr (.refl ..))) (a7.grow gr) (fin_rep H H' g.ext rv hfin)
            | _ => rw [hso] at P; rcases P.ns with ⟨_, _, q⟩ | ⟨_, _, q⟩ <;> cases q
      · subst h
        obtain ⟨l', ow, H'⟩ := hr
        cases kk with
        | type =>
          simp only at P
          cases hso : σ'.store[j]? with
          | none => rw [hso] at P; rcases P.ns with ⟨_, _, q⟩ | ⟨_, _, q⟩ <;> cases q
          | some oo =>
            cases oo with
            | iter k' p =>
              rw [hso] at P
              by_cases hkk : k' = k
              rotate_left
              · simp only [itOut, if_neg hkk] at P; rcases P.ns with ⟨_, _, q⟩ | ⟨_, _, q⟩ <;> cases q
              subst hkk
              have hvp : vP (pV p) = p := by cases p <;> simp [pV, vP]
              simp only [itOut, if_true, hvp] at P
              obtain ⟨new, hnew, hnn⟩ := g.ext
              have hj' : ad'[j]? = some it := g.ext.get hj
              obtain ⟨s₁, a1, a2, a3, a4, a5, a6, a7⟩ := back_it (tk := s₂.toks) H hj (fun a ha => by rw [hnew, List.getElem?_append_left (by rw [H.len]; exact hk.2)] at ha; exact ha) (H'.store j it _ hj' hso) g.toks
              refine P.exc .type _ e s₁ s' rfl a6 a7 (y s₁ (a1.trans g.gens.symm) (a2.trans g.os.symm) (Nat.le_of_eq a3) fun b o e => ?_)
              by_cases q : b = it
              · subst q
                obtain ⟨o0, ho0⟩ : ∃ o0, s.heap.get? b = some o0 := (H.there b (List.mem_append_left _ (List.mem_of_getElem? hj))).elim (fun h => absurd (h ▸ H.one) (H.apart b (List.mem_of_getElem? hj))) id
                exact ⟨⟨o0, ho0⟩, fun _ => a5 o e, o.slots, a5 o e⟩
              · rw [a4 b q] at e
                refine ⟨⟨o, e⟩, fun hb => exact g b o q hb e, ?_⟩
                by_cases hb : b ∈ fsOf l
                · exact g.slots b o e hb List.not_mem_nil
                · exact ⟨o.slots, exact g b o q hb e⟩
            | _ => rw [hso] at P; rcases P.ns with ⟨_, _, q⟩ | ⟨_, _, q⟩ <;> cases q
        | _ => rcases P.ns with ⟨_, _, q⟩ | ⟨_, _, q⟩ <;> cases q
      · cases X with
        | ret v σ' => exact .inl ⟨v, σ', rfl⟩
        | exc k σ' => exact .inr ⟨k, σ', rfl⟩
        | _ => rcases P.ns with ⟨_, _, q⟩ | ⟨_, _, q⟩ <;> cases q
    | _ => rw [hst] at P; rcases P.ns with ⟨_, _, q⟩ | ⟨_, _, q⟩ <;> cases q
end
end Mine

end
section
set_option autoImplicit false
namespace Mine
open PySem PySem.W PyProof.Rows

section
variable {prog : Program} {w : World} {base : Heap} {mg mb : Str → Option Value}

noncomputable def DefAt (base : Heap) (mg : Str → Option Value) (d : DefRec) : Prop := ∃ fa o pm code doc, mg d.name = some (.ref fa) ∧ base.get? fa = some o ∧ o.data = .func (PySem.Calls.docDef d.name d.params d.body d.scope pm code doc) ∧ base.CodeRec code d.name

inductive DefsOk (prog : Program) (w : World) (base : Heap) (mg mb : Str → Option Value) : List DefRec → List (Str × Nat) → List Fn → List (Str × Nat) → List Fn → Prop
  | nil {fns : List (Str × Nat)} {fs : List Fn} : DefsOk prog w base mg mb [] fns fs fns fs
  | cons {d : DefRec} {f : Fn} {ds : List DefRec} {fns fns' : List (Str × Nat)} {fs fs' : List Fn} : (d.name == ("__debug__" : Str)) = false → okHead (d.params.args.map (·.arg)) d.scope f = true → BodyOk prog w base mg mb d.scope fns d.body f.body →
    DefsOk prog w base mg mb ds ((d.name, fs.length) :: fns) (f :: fs) fns' fs' → DefsOk prog w base mg mb (d :: ds) fns fs fns' fs'
theorem phi_cons (f : Fn) (rest : List Fn) (i : Nat) (st : Store) (as : List V) : phi (f :: rest) i st as = if i = rest.length then callFn (phi rest) f st as else if i = 1000 + rest.length then (match as with
      | [.loc j] => callFnI (phi rest) f st j
      | _ => stuck) else phi rest i st as := rfl
theorem defs_le {ds : List DefRec} {fns : List (Str × Nat)} {fs : List Fn} {fns' : List (Str × Nat)} {fs' : List Fn} (h : DefsOk prog w base mg mb ds fns fs fns' fs') : fs.length ≤ fs'.length := by
  induction h with
  | nil => exact Nat.le_refl _
  | cons _ _ _ _ ih => simp only [List.length_cons] at ih; omega
theorem fok_all (G : GOk base mg mb) {ds : List DefRec} {fns : List (Str × Nat)} {fs : List Fn} {fns' : List (Str × Nat)} {fs' : List Fn} (h : DefsOk prog w base mg mb ds fns fs fns' fs') : (∀ d ∈ ds, DefAt base mg d ∧ BindOk d) → fs'.length ≤ 20 →
    FOk prog w base mg fns fs.length (phi fs) → FOkI prog w base mg fns fs.length (phi fs) → (∀ x i, fns.lookup x = some i → i < fs.length) → FOk prog w base mg fns' fs'.length (phi fs') ∧ FOkI prog w base mg fns' fs'.length (phi fs') ∧ ∀ x i, fns'.lookup x = some i → i < fs'.length := by
  induction h with
  | nil => intro _ _ hF hI hi; exact ⟨hF, hI, hi⟩
  | @cons d f ds fns fns' fs fs' hdb hhd hbd hrest ih =>
    intro hd h20 hF hI hi
    have hle := defs_le hrest
    simp only [List.length_cons] at hle
    refine ih (fun x hx => hd x (List.mem_cons_of_mem _ hx)) h20 (fun x i hx => ?_) (fun x i hx => ?_) (fun x i hx => ?_)
    · rw [List.lookup_cons] at hx
      split at hx
      · rename_i e
        cases hx
        have hxn : x = d.name := by simpa using e
        subst hxn
        obtain ⟨⟨fa, o, pm, code, doc, h1, h2, h3, h4⟩, hb⟩ := hd d (List.mem_cons_self ..)
        refine ⟨fa, o, _, h1, h2, h3, hdb, fun A l fx ad st s vals xs Q E ha hc hh hdp hun H r P => ?_⟩
        have hphi : phi (f :: fs) fs.length st xs = callFn (phi fs) f st xs := by rw [phi_cons, if_pos rfl]
        rw [hphi] at P
        refine wpAny_call ?_
        refine fn_snd (t := s.toks) (rank := fs.length) G hhd hbd hF hI hb h2 h3 h4 ha hh (by simpa using hdp) (by simpa using hun) H (.inl H.toks) r ?_ ?_ P.ns
        · intro v val s' e g rv
          exact P.ok v val s' e g rv
        · intro k e s' he y
          exact P.exc k e s s' he (.refl ..) y
      · obtain ⟨fa, o, fd, h1, h2, h3, h4, h5⟩ := hF x i hx
        refine ⟨fa, o, fd, h1, h2, h3, h4, fun A l fx ad st s vals xs Q E a b c dd e H r P => h5 A l fx ad st s vals xs Q E a b c (by simp at dd; omega) (by simp at e; omega) H r ?_⟩
        have hlt := hi x i hx
        have hphi : phi (f :: fs) i st xs = phi fs i st xs := by rw [phi_cons, if_neg (Nat.ne_of_lt hlt), if_neg (by omega)]
        rw [hphi] at P; exact P
    · rw [List.lookup_cons] at hx
      split at hx
      · rename_i e
        cases hx
        have hxn : x = d.name := by simpa using e
        subst hxn
        obtain ⟨⟨fa, o, pm, code, doc, h1, h2, h3, h4⟩, hb⟩ := hd d (List.mem_cons_self ..)
        refine ⟨fa, o, _, h1, h2, h3, hdb, fun A l fx ad st s j it Q E ha hc hh hdp hun H hj P => ?_⟩
        have hphi : phi (f :: fs) (1000 + fs.length) st [.loc j] = callFnI (phi fs) f st j := by rw [phi_cons, if_neg (by omega), if_pos rfl]
        refine wpAny_call ?_
        exact fn_sndI (rank := fs.length) G hhd hbd hF hI hb h2 h3 h4 ha hh (by simpa using hdp) (by simpa using hun) H hj hphi P
      · obtain ⟨fa, o, fd, h1, h2, h3, h4, h5⟩ := hI x i hx
        refine ⟨fa, o, fd, h1, h2, h3, h4, fun A l fx ad st s j it Q E a b c dd e H hj P => h5 A l fx ad st s j it Q E a b c (by simp at dd; omega) (by simp at e; omega) H hj ?_⟩
        have hlt := hi x i hx
        have hphi : callI (phi (f :: fs)) i st j = callI (phi fs) i st j := by
          unfold callI
          rw [show phi (f :: fs) (1000 + i) st [.loc j] = phi fs (1000 + i) st [.loc j] by rw [phi_cons, if_neg (by omega), if_neg (by omega)]]
        rw [hphi] at P; exact P
    · rw [List.lookup_cons] at hx
      split at hx
      · cases hx; simp
      · have := hi x i hx; simp; omega

theorem ints_reps {X ad : List Addr} {h : Heap} : ∀ {vals : List Value} {ns : List Int}, IntsAre vals ns → Reps prog w X ad h (ns.map .int) vals
  | _, _, .nil => by rw [List.map_nil, Reps]
  | _, _, .cons n t i => by rw [List.map_cons, Reps]; exact ⟨_, _, rfl, rep_int, ints_reps i⟩

noncomputable def freeOf (p : Program) (loose : List Str) : Bool := bnames.all fun x => !startupNames.contains x && !loose.contains x && !((recsOf p).map (·.name)).contains x && !((litsOf p).map (·.1)).contains x && !((clssOf p loose).map (·.name)).contains x

theorem law_run {p : Program} {loose : List Str} {mean : ExcName → Option Value} {s₁ : Shared} (T : Top p loose mean mg mb s₁.heap) (hfree : freeOf p loose = true) {ds0 : List DefRec} {dl : DefRec} (hds : ∀ d ∈ ds0, d ∈ recsOf p) (hbind : ∀ d ∈ ds0, BindOk d) (hbl : BindOk dl)
    {fns0 : List (Str × Nat)} {fs0 : List Fn} {f : Fn} (hc0 : DefsOk prog w s₁.heap mg mb ds0 [] [] fns0 fs0) (hhl : okHead (dl.params.args.map (·.arg)) dl.scope f = true) (hbl' : BodyOk prog w s₁.heap mg mb dl.scope fns0 dl.body f.body) (hn : fs0.length ≤ 20)
    (hone : ∃ a, dl.params.args = [a] ∧ dl.scope.names.lookup a.arg = some .local)
    {fa : Addr} {o : PySem.Obj} {pm code doc : Value} (ho : s₁.heap.get? fa = some o) (hd : o.data = .func (PySem.Calls.docDef dl.name dl.params dl.body dl.scope pm code doc)) (hcd : s₁.heap.CodeRec code dl.name)
    {a : Addr} {vals : List Value} {ns : List Int} (hl : s₁.heap.IsList a vals.toArray) (hi : IntsAre vals ns) (ha : a ≠ sysModules) (hlen : ns.length ≤ 63) (hlaw : runLaw (f :: fs0) ns = .ok (.bool true))
    {R : Result → Shared → Prop} (hR : ∀ s', s'.gens = s₁.gens → s'.os = s₁.os → (∀ b o, s₁.heap.get? b = some o → s'.heap.get? b = some o) → R (.ok (.ret (.bool true))) s') : codeAny (model prog w) callerA (.call (.ref fa) ⟨[.ref a], []⟩) R s₁ := by
  have G : GOk s₁.heap mg mb := by
    refine ⟨T.g, T.b, T.nolimit, fun x hx => ?_⟩
    unfold freeOf at hfree
    have := List.all_eq_true.mp hfree x hx
    simp only [Bool.and_eq_true, Bool.not_eq_true'] at this
    obtain ⟨⟨⟨⟨f1, f2⟩, f3⟩, f4⟩, f5⟩ := this
    refine ⟨T.free x ?_ ?_ ?_ ?_ ?_, T.builtins x ?_⟩
    · simpa using f1
    · simpa using f2
    · simpa using f3
    · simpa using f4
    · simpa using f5
    · have : ∀ y ∈ bnames, y ≠ ("__name__" : Str) := by decide +kernel
      exact this x hx
  obtain ⟨hF, hIF, _⟩ := fok_all (prog := prog) (w := w) G hc0 (fun d hd => ⟨T.fn d (hds d hd), hbind d hd⟩) hn (fun x i hx => by simp at hx) (fun x i hx => by simp at hx) (fun x i hx => by simp at hx)
  have H : HR prog w s₁.heap [] [sysModules] [] [] { s₁ with toks := 1 } := {
    stays := fun _ _ e => e
    frames := trivial
    fsX := fun b hb => absurd hb List.not_mem_nil
    one := List.mem_singleton.mpr rfl
    main := by obtain ⟨o, _, _, h, _⟩ := T.g; exact ⟨o, h⟩
    there := fun b hb => .inl (List.mem_singleton.mp hb)
    apart := fun a ha => absurd ha List.not_mem_nil
    nodup := List.nodup_nil
    len := rfl
    store := fun i a o h => by simp at h
    toks := Nat.le_refl _
    off := fun b hb => .inl (List.mem_singleton.mp hb) }
  have hvl : vals.length = ns.length := by
    have := Reps.length prog w (ints_reps (prog := prog) (w := w) (X := []) (ad := []) (h := s₁.heap) hi)
    simpa using this
  have hcall : callFn (phi fs0) f [] [.list (ns.map .int)] = .ok (.bool true) := by
    have : runLaw (f :: fs0) ns = callFn (phi fs0) f [] [.list (ns.map .int)] := by
      unfold runLaw
      show phi (f :: fs0) ((f :: fs0).length - 1) [] _ = _
      rw [phi_cons, if_pos (by simp)]
    rw [← this]; exact hlaw
  refine fn_snd (t := 1) (rank := fs0.length) (l := []) (fx := [sysModules]) (ad := []) (st := []) (xs := [.list (ns.map .int)]) G hhl hbl' hF hIF hbl ho hd hcd rfl rfl (by show 1 + 300 + (fs0.length + 1) < 900; omega) (by show 4 + 10 * (fs0.length + 1) + 200 < 9900; omega) H (.inr hone) ?_ ?_ ?_ (by rw [hcall]; intro h; cases h)
  · rw [Reps]
    refine ⟨_, [], rfl, ?_, by rw [Reps]⟩
    rw [Rep]
    exact ⟨a, vals, rfl, fun q => ha (List.mem_singleton.mp q), hl, by simp only [big]; simp; omega, ints_reps hi⟩
  · intro v val s' e g rv
    rw [hcall] at e
    cases e
    rw [Rep] at rv
    subst rv
    exact hR s' g.gens g.os fun b o e => g.keep.exact b o e List.not_mem_nil
  · intro k e s' he
    rw [hcall] at he; cases he
end
end Mine

end
section
set_option autoImplicit false
namespace Mine
open PySem PySem.W PyProof.Rows

noncomputable def okDef (d : DefRec) : Bool := d.params.posonlyargs.isEmpty && d.params.kwonlyargs.isEmpty && d.params.vararg.isNone && d.params.kwarg.isNone && nodupB (d.params.args.map (·.arg))

theorem zip_lookup : ∀ {ps : List Str} {vs : List Value}, nodupB ps = true → vs.length = ps.length → (∀ p ∈ ps, (List.lookup p (ps.zip vs)).isNone = false) ∧ ps.filterMap (fun n => (List.lookup n (ps.zip vs)).map (n, ·)) = ps.zip vs := by
  intro ps
  induction ps with
  | nil => intro vs _ _; exact ⟨fun p hp => absurd hp List.not_mem_nil, rfl⟩
  | cons p ps ih =>
    intro vs hd hl
    cases vs with
    | nil => cases hl
    | cons v vs =>
      obtain ⟨d1, d2⟩ := nodupB_mem hd
      obtain ⟨i1, i2⟩ := ih (vs := vs) d2 (by simpa using hl)
      have hne : ∀ q ∈ ps, (q == p) = false := fun q hq => by simp; rintro rfl; exact d1 hq
      refine ⟨fun q hq => ?_, ?_⟩
      · rw [List.zip_cons_cons, List.lookup_cons]
        rcases List.mem_cons.mp hq with rfl | hq
        · simp
        · rw [hne q hq]; exact i1 q hq
      · rw [List.zip_cons_cons, List.filterMap_cons, List.lookup_cons]
        simp only [beq_self_eq_true, Option.map_some]
        congr 1
        have cong : ∀ (qs : List Str) (f g : Str → Option (Str × Value)), (∀ q ∈ qs, f q = g q) → qs.filterMap f = qs.filterMap g := by
          intro qs
          induction qs with
          | nil => intro f g _; rfl
          | cons q qs ih =>
            intro f g h
            rw [List.filterMap_cons, List.filterMap_cons, h q (List.mem_cons_self ..), ih f g fun r hr => h r (List.mem_cons_of_mem _ hr)]
        refine Eq.trans (cong _ _ _ fun q hq => ?_) i2
        rw [List.lookup_cons, hne q hq]

theorem bind_ok {d : DefRec} (h : okDef d = true) : BindOk d := by
  unfold okDef at h
  simp only [Bool.and_eq_true] at h
  obtain ⟨⟨⟨⟨h1, h2⟩, h3⟩, h4⟩, h5⟩ := h
  intro pm code doc vals hl
  have e1 : d.params.posonlyargs = [] := by simpa using h1
  have e2 : d.params.kwonlyargs = [] := by simpa using h2
  have e3 : d.params.vararg = none := by simpa using h3
  have e4 : d.params.kwarg = none := by simpa using h4
  obtain ⟨z1, z2⟩ := zip_lookup (ps := d.params.args.map (·.arg)) (vs := vals) h5 (by simpa using hl)
  have z3 : (d.params.args.map (·.arg)).filter (fun n => (List.lookup n ((d.params.args.map (·.arg)).zip vals)).isNone) = [] := by
    rw [List.filter_eq_nil_iff]
    intro q hq; rw [z1 q hq]; simp
  unfold bindArgs PySem.Calls.docDef
  simp only [e1, e2, e3, e4, List.map_nil, List.nil_append, List.append_nil]
  have hs : seqItems? Value.none = pure none := rfl
  have hgt : ¬ vals.length > (d.params.args.map (·.arg)).length := by simp; omega
  simp only [List.forIn_nil, pure_bind, hs, Option.getD_none, Array.toList_empty, List.length_nil, Nat.sub_zero, List.drop_zero, decide_eq_false hgt, Bool.false_and, Bool.false_eq_true, if_false, List.take_length, z3, List.isEmpty_nil, Bool.not_true,
    List.drop_length, List.drop_nil, List.zip_nil_right, z2]
end Mine
namespace Mine
open PySem PySem.W PyProof.Rows
section
variable {prog : Program} {w : World} {mg mb : Str → Option Value}

theorem post_true (l : OpenLaw) (args : List WData) : l.row.claim.post args (ofPy (.bool true)) args = true := by
  refine postW_of (r := l.row.toRowW) (X := true) ?_ ?_ rfl
  · rfl
  · simp [OpenLaw.row, WTm.value, same, ofPy]

theorem law_good {p : Program} {loose : List Str} {mean : ExcName → Option Value} {s₁ : Shared} (T : Top p loose mean mg mb s₁.heap) (hg : s₁.gens = #[]) {dl : DefRec} (hok : (freeOf p loose && (recsOf p).dropLast.all okDef && okDef dl && (match dl.params.args with | [a] => dl.scope.names.lookup a.arg == some .local | _ => false)) = true)
    {fns0 : List (Str × Nat)} {fs0 : List Fn} {f : Fn} (hc0 : DefsOk prog w s₁.heap mg mb (recsOf p).dropLast [] [] fns0 fs0) (hhl : okHead (dl.params.args.map (·.arg)) dl.scope f = true) (hbl' : BodyOk prog w s₁.heap mg mb dl.scope fns0 dl.body f.body) (hn : fs0.length ≤ 20)
    (hlast : (recsOf p).getLast? = some dl) {fa : Addr} (hmg : mg dl.name = some (.ref fa))
    {a : Addr} {vals : List Value} {ns : List Int} (hl : s₁.heap.IsList a vals.toArray) (hi : IntsAre vals ns) {as bs : List Addr} {cl : Str → Option Addr}
    (r0 : Reads s₁.heap (.ref a) (PyData.list (ns.map PyData.int)) as) (hlo : ∀ a ∈ as ++ bs, (a == sysModules) = false) (hlen : ¬ ((63 : Nat) : Int) < (ns.length : Int)) (hlaw : ns.length ≤ 63 → runLaw (f :: fs0) ns = .ok (.bool true))
    {c : ClaimW} {args : List WData} (hraise : ∀ cls, c.raises args cls = false) (hpost : c.post args (ofPy (.bool true)) args = true) :
    codeAny (model prog w) callerA (.call (.ref fa) ⟨[.ref a], []⟩) (GoodWG c cl mean args s₁) s₁ := by
  simp only [Bool.and_eq_true] at hok
  obtain ⟨⟨⟨h1, h2⟩, h3⟩, h4⟩ := hok
  have hlen' : ns.length ≤ 63 := by omega
  obtain ⟨fa', o, pm, code, doc, g1, ho, hd, hcd⟩ := T.fn dl (List.mem_of_getLast? hlast)
  rw [hmg] at g1
  cases g1
  refine law_run T h1 (ds0 := (recsOf p).dropLast) (fun d hd => (List.dropLast_subset _) hd) (fun d hd => bind_ok (List.all_eq_true.mp h2 d hd)) (bind_ok h3) hc0 hhl hbl' hn ?_ ho hd hcd hl hi ?_ hlen' (hlaw hlen') fun s' hg' ho' hk => ?_
  · split at h4
    · rename_i a ha
      exact ⟨a, ha, by simpa using h4⟩
    · cases h4
  · cases r0
    simpa using hlo a (List.mem_append_left _ (List.mem_cons_self ..))
  · exact ⟨.inl ⟨.bool true, ofPy (.bool true), [], rfl, hraise, readsW_of_reads (.bool true), hpost, fun _ => ⟨List.nodup_nil, fun a ha => absurd ha List.not_mem_nil⟩⟩, .of_keep hk, ho', .of_eq (hg'.trans hg)⟩
end
end Mine

end
section
set_option autoImplicit false
namespace Mine
noncomputable def f12_0_b0 : List CS :=
  [CS.ifs
                (CE.var 3)
                [CS.aug 2 (CE.var 5),
                 CS.assign (Tgt.one 3) (AE.old (CE.bool false)),
                 CS.cont]
                [],
              CS.ifs
                (CE.var 4)
                [CS.ifs
                   (CE.cmp (COp.eq) (CE.var 5) (CE.str [92]))
                   [CS.assign (Tgt.one 3) (AE.old (CE.bool true)), CS.cont]
                   [CS.ifs
                      (CE.cmp (COp.eq) (CE.var 5) (CE.str [34]))
                      [CS.assign (Tgt.one 4) (AE.old (CE.bool false))]
                      []],
                 CS.aug 2 (CE.var 5),
                 CS.cont]
                [],
              CS.ifs
                (CE.cmp (COp.eq) (CE.var 5) (CE.str [44]))
                [CS.append (CE.var 1) (AE.old (CE.var 2)),
                 CS.assign (Tgt.one 2) (AE.old (CE.str [])),
                 CS.cont]
                [],
              CS.ifs
                (CE.cmp (COp.eq) (CE.var 5) (CE.str [34]))
                [CS.assign (Tgt.one 4) (AE.old (CE.bool true))]
                [],
              CS.aug 2 (CE.var 5)]
noncomputable def f12_0 : Fn :=
  { nargs := 1,
    nvars := 6,
    body := [CS.assign (Tgt.one 1) (AE.newl []),
             CS.assign (Tgt.one 2) (AE.old (CE.str [])),
             CS.assign2 3 4 (CE.bool false),
             CS.for_
               (Tgt.one 5)
               (CE.var 0)
               f12_0_b0,
             CS.ifs (CE.var 2) [CS.append (CE.var 1) (AE.old (CE.var 2))] [],
             CS.ret (CE.comp (CE.meth (Prim.strip) (CE.var 6) []) none (CE.var 1) none)] }
noncomputable def f12_1_b0 : List CS :=
  [CS.ifs
                (CE.cmp (COp.eq) (CE.idx (CE.var 0) (CE.var 1)) (CE.str [92]))
                [CS.assign
                   (Tgt.one 1)
                   (AE.old (CE.bin (BOp.add) (CE.var 1) (CE.int 1)))]
                [],
              CS.assign
                (Tgt.one 2)
                (AE.old
                  (CE.bin
                    (BOp.add)
                    (CE.var 2)
                    (CE.meth
                      (Prim.join)
                      (CE.str [])
                      [CE.slice
                         (CE.var 0)
                         (some (CE.var 1))
                         (some (CE.bin (BOp.add) (CE.var 1) (CE.int 1)))
                         (Step.one)]))),
              CS.assign
                (Tgt.one 1)
                (AE.old (CE.bin (BOp.add) (CE.var 1) (CE.int 1)))]
noncomputable def f12_1 : Fn :=
  { nargs := 1,
    nvars := 3,
    body := [CS.assign (Tgt.one 1) (AE.old (CE.int 0)),
             CS.assign (Tgt.one 2) (AE.old (CE.str [])),
             CS.while_
               (CE.and
                 (CE.cmp (COp.lt) (CE.var 1) (CE.prim (Prim.len) [CE.var 0]))
                 (CE.cmp (COp.ne) (CE.idx (CE.var 0) (CE.var 1)) (CE.str [34])))
               f12_1_b0,
             CS.ret
               (CE.tup
                 [CE.bin
                    (BOp.add)
                    (CE.var 2)
                    (CE.meth
                      (Prim.join)
                      (CE.str [])
                      [CE.slice
                         (CE.var 0)
                         (some (CE.var 1))
                         (some (CE.bin (BOp.add) (CE.var 1) (CE.int 1)))
                         (Step.one)]),
                  CE.bin (BOp.add) (CE.var 1) (CE.int 1)])] }
noncomputable def f12_2_b0 : List CS :=
  [CS.assign
                (Tgt.one 2)
                (AE.old (CE.bin (BOp.sub) (CE.var 2) (CE.int 1)))]
noncomputable def f12_2_b1 : List CS :=
  [CS.assign
                (Tgt.one 1)
                (AE.old (CE.bin (BOp.add) (CE.var 1) (CE.int 1)))]
noncomputable def f12_2 : Fn :=
  { nargs := 1,
    nvars := 3,
    body := [CS.assign (Tgt.one 1) (AE.old (CE.int 0)),
             CS.assign (Tgt.one 2) (AE.old (CE.prim (Prim.len) [CE.var 0])),
             CS.while_
               (CE.and
                 (CE.cmp (COp.lt) (CE.var 1) (CE.var 2))
                 (CE.cmp (COp.isin) (CE.idx (CE.var 0) (CE.var 1)) (CE.str [32, 10])))
               f12_2_b1,
             CS.while_
               (CE.and
                 (CE.cmp (COp.lt) (CE.var 1) (CE.var 2))
                 (CE.cmp
                   (COp.isin)
                   (CE.idx (CE.var 0) (CE.bin (BOp.sub) (CE.var 2) (CE.int 1)))
                   (CE.str [32, 10])))
               f12_2_b0,
             CS.ret (CE.slice (CE.var 0) (some (CE.var 1)) (some (CE.var 2)) (Step.one))] }
noncomputable def f12_3_b0 : List CS :=
  [CS.assign (Tgt.one 3) (AE.old (CE.idx (CE.var 0) (CE.var 2))),
              CS.assign
                (Tgt.one 2)
                (AE.old (CE.bin (BOp.add) (CE.var 2) (CE.int 1))),
              CS.ifs
                (CE.cmp (COp.eq) (CE.var 3) (CE.str [44]))
                [CS.append (CE.var 1) (AE.old (CE.str []))]
                [CS.ifs
                   (CE.cmp (COp.eq) (CE.var 3) (CE.str [34]))
                   [CS.assign
                      (Tgt.many [4, 5])
                      (AE.old
                        (CE.call 1 [CE.slice (CE.var 0) (some (CE.var 2)) none (Step.one)])),
                    CS.setItem
                      (CE.var 1)
                      (CE.int (-1))
                      (CE.bin
                        (BOp.add)
                        (CE.bin (BOp.add) (CE.idx (CE.var 1) (CE.int (-1))) (CE.var 3))
                        (CE.var 4)),
                    CS.assign
                      (Tgt.one 2)
                      (AE.old (CE.bin (BOp.add) (CE.var 2) (CE.var 5)))]
                   [CS.setItem
                      (CE.var 1)
                      (CE.int (-1))
                      (CE.bin (BOp.add) (CE.idx (CE.var 1) (CE.int (-1))) (CE.var 3))]]]
noncomputable def f12_3 : Fn :=
  { nargs := 1,
    nvars := 6,
    body := [CS.assign (Tgt.one 1) (AE.newl [AE.old (CE.str [])]),
             CS.assign (Tgt.one 2) (AE.old (CE.int 0)),
             CS.while_
               (CE.cmp (COp.lt) (CE.var 2) (CE.prim (Prim.len) [CE.var 0]))
               f12_3_b0,
             CS.ifs
               (CE.cmp (COp.eq) (CE.idx (CE.var 1) (CE.int (-1))) (CE.str []))
               [CS.assign
                  (Tgt.one 1)
                  (AE.old (CE.slice (CE.var 1) none (some (CE.int (-1))) (Step.one)))]
               [],
             CS.ret (CE.comp (CE.call 2 [CE.var 6]) none (CE.var 1) none)] }
noncomputable def f12_4_b0 : List CS :=
  [CS.retI 0 0]
noncomputable def f12_4 : Fn :=
  { nargs := 1,
    nvars := 1,
    body := [CS.try_
               f12_4_b0
               [(K.type, CS.ret (CE.str [84, 121, 112, 101, 69, 114, 114, 111, 114]))]] }
noncomputable def f12_5_b0 : List CS :=
  [CS.assign (Tgt.one 5) (AE.old (CE.bin (BOp.mod) (CE.var 4) (CE.int 13))),
   CS.ifs
     (CE.cmp (COp.lt) (CE.var 5) (CE.int 11))
     [CS.append (CE.var 2) (AE.old (CE.idx (CE.var 1) (CE.var 5))),
      CS.append (CE.idx (CE.var 3) (CE.int (-1))) (AE.old (CE.idx (CE.var 1) (CE.var 5)))]
     [CS.append (CE.var 2) (AE.old (CE.idx (CE.list [CE.var 4, CE.none, CE.bytes, CE.list [CE.str [44]]]) (CE.bin (BOp.mod) (CE.bin (BOp.fdiv) (CE.var 4) (CE.int 13)) (CE.int 4)))),
      CS.append (CE.var 3) (AE.newl [])]]
noncomputable def f12_5 : Fn :=
  { nargs := 1,
    nvars := 9,
    body := [CS.assign (Tgt.one 0) (AE.old (CE.slice (CE.var 0) none (some (CE.int 63)) (Step.one))),
             CS.assign (Tgt.one 1) (AE.old (CE.list [CE.str [97], CE.str [44], CE.str [34], CE.str [92], CE.str [32], CE.str [], CE.str [98, 32, 99], CE.str [44, 32], CE.str [34, 34], CE.str [92, 44], CE.str [32, 10, 44]])),
             CS.assign (Tgt.one 2) (AE.newl []),
             CS.assign (Tgt.one 3) (AE.newl [AE.newl []]),
             CS.for_ (Tgt.one 4) (CE.var 0) f12_5_b0,
             CS.assign (Tgt.one 6) (AE.old (CE.comp (CE.call 3 [CE.var 9]) none (CE.var 3) none)),
             CS.ifs (CE.cmp (COp.ne) (CE.comp (CE.call 0 [CE.var 9]) none (CE.var 3) none) (CE.var 6)) [CS.ret (CE.bool false)] [],
             CS.ifs (CE.cmp (COp.ne) (CE.comp (CE.call 0 [CE.prim (Prim.tupleOf) [CE.var 9]]) none (CE.var 3) none) (CE.var 6)) [CS.ret (CE.bool false)] [],
             CS.assign (Tgt.one 7) (AE.iter (CE.var 2)),
             CS.got 8 4 7 (CE.var 3),
             CS.ifs
               (CE.cmp (COp.ne) (CE.var 8)
                 (CE.bin (BOp.add)
                   (CE.bin (BOp.mul) (CE.list [CE.str [84, 121, 112, 101, 69, 114, 114, 111, 114]]) (CE.bin (BOp.sub) (CE.prim (Prim.len) [CE.var 3]) (CE.int 1)))
                   (CE.slice (CE.var 6) (some (CE.int (-1))) none (Step.one))))
               [CS.ret (CE.bool false)]
               [],
             CS.retIs 0 7] }
end Mine

end
section
set_option autoImplicit false
namespace Mine
open PySem PySem.W PyProof.Rows
set_option maxRecDepth 100000
set_option maxHeartbeats 8000000
noncomputable def ds12 : List DefRec := recsOf PySem.Challenge.pw_dn0253_12
theorem ln12 : ds12.length = 6 := by decide +kernel
noncomputable def d12_0 : DefRec := ds12[0]'(by rw [ln12]; decide)
noncomputable def d12_1 : DefRec := ds12[1]'(by rw [ln12]; decide)
noncomputable def d12_2 : DefRec := ds12[2]'(by rw [ln12]; decide)
noncomputable def d12_3 : DefRec := ds12[3]'(by rw [ln12]; decide)
noncomputable def d12_4 : DefRec := ds12[4]'(by rw [ln12]; decide)
noncomputable def d12_5 : DefRec := ds12[5]'(by rw [ln12]; decide)
theorem w12_0 {prog : Program} {w : World} {base : Heap} {mg mb : Str → Option Value} : BodyOk prog w base mg mb d12_0.scope [] d12_0.body f12_0.body := by
  intro rank F G hF hI C
  refine ss_cons ?_ ?_
  · refine s_as ?_ ?_ ?_ ?_
    · exact nc_list
    · exact (by decide +kernel)
    · exact C
    refine snda_newl ?_ ?_
    · exact (by decide)
    exact sndas_nil
  refine ss_cons ?_ ?_
  · refine s_as ?_ ?_ ?_ ?_
    · exact nc_const
    · exact (by decide +kernel)
    · exact C
    refine snda_old ?_
    refine snd_s ?_
    exact (by decide +kernel)
  refine ss_cons ?_ ?_
  · refine s_assign_two ?_ ?_ ?_ ?_
    · exact (by decide +kernel)
    · exact (by decide +kernel)
    · exact C
    exact snd_bool
  refine ss_cons ?_ ?_
  · refine s_for ?_ ?_ ?_ ?_ ?_
    · exact fs_name
    · exact (by decide +kernel)
    · exact C
    · refine snd_v ?_
      exact (by decide +kernel)
    refine ss_cons ?_ ?_
    · refine s_if ?_ ?_ ?_
      · refine snt_v ?_
        exact (by decide +kernel)
      · refine ss_cons ?_ ?_
        · refine s_aug ?_ ?_ ?_
          · exact (by decide +kernel)
          · exact C
          refine snd_v ?_
          exact (by decide +kernel)
        refine ss_cons ?_ ?_
        · refine s_as ?_ ?_ ?_ ?_
          · exact nc_const
          · exact (by decide +kernel)
          · exact C
          refine snda_old ?_
          exact snd_bool
        refine ss_cons ?_ ?_
        · exact s_cont
        exact ss_nil
      exact ss_nil
    refine ss_cons ?_ ?_
    · refine s_if ?_ ?_ ?_
      · refine snt_v ?_
        exact (by decide +kernel)
      · refine ss_cons ?_ ?_
        · refine s_if ?_ ?_ ?_
          · refine snt_cmp ?_ ?_ ?_ ?_
            · exact rfl
            · refine snd_v ?_
              exact (by decide +kernel)
            · refine snd_s ?_
              exact (by decide +kernel)
            exact bm_const
          · refine ss_cons ?_ ?_
            · refine s_as ?_ ?_ ?_ ?_
              · exact nc_const
              · exact (by decide +kernel)
              · exact C
              refine snda_old ?_
              exact snd_bool
            refine ss_cons ?_ ?_
            · exact s_cont
            exact ss_nil
          refine ss_cons ?_ ?_
          · refine s_if ?_ ?_ ?_
            · refine snt_cmp ?_ ?_ ?_ ?_
              · exact rfl
              · refine snd_v ?_
                exact (by decide +kernel)
              · refine snd_s ?_
                exact (by decide +kernel)
              exact bm_const
            · refine ss_cons ?_ ?_
              · refine s_as ?_ ?_ ?_ ?_
                · exact nc_const
                · exact (by decide +kernel)
                · exact C
                refine snda_old ?_
                exact snd_bool
              exact ss_nil
            exact ss_nil
          exact ss_nil
        refine ss_cons ?_ ?_
        · refine s_aug ?_ ?_ ?_
          · exact (by decide +kernel)
          · exact C
          refine snd_v ?_
          exact (by decide +kernel)
        refine ss_cons ?_ ?_
        · exact s_cont
        exact ss_nil
      exact ss_nil
    refine ss_cons ?_ ?_
    · refine s_if ?_ ?_ ?_
      · refine snt_cmp ?_ ?_ ?_ ?_
        · exact rfl
        · refine snd_v ?_
          exact (by decide +kernel)
        · refine snd_s ?_
          exact (by decide +kernel)
        exact bm_const
      · refine ss_cons ?_ ?_
        · refine s_append ?_ ?_ ?_ ?_ ?_
          · exact pb_name
          · exact rfl
          · exact ns_name
          · refine snd_v ?_
            exact (by decide +kernel)
          refine snda_old ?_
          refine snd_v ?_
          exact (by decide +kernel)
        refine ss_cons ?_ ?_
        · refine s_as ?_ ?_ ?_ ?_
          · exact nc_const
          · exact (by decide +kernel)
          · exact C
          refine snda_old ?_
          refine snd_s ?_
          exact (by decide +kernel)
        refine ss_cons ?_ ?_
        · exact s_cont
        exact ss_nil
      exact ss_nil
    refine ss_cons ?_ ?_
    · refine s_if ?_ ?_ ?_
      · refine snt_cmp ?_ ?_ ?_ ?_
        · exact rfl
        · refine snd_v ?_
          exact (by decide +kernel)
        · refine snd_s ?_
          exact (by decide +kernel)
        exact bm_const
      · refine ss_cons ?_ ?_
        · refine s_as ?_ ?_ ?_ ?_
          · exact nc_const
          · exact (by decide +kernel)
          · exact C
          refine snda_old ?_
          exact snd_bool
        exact ss_nil
      exact ss_nil
    refine ss_cons ?_ ?_
    · refine s_aug ?_ ?_ ?_
      · exact (by decide +kernel)
      · exact C
      refine snd_v ?_
      exact (by decide +kernel)
    exact ss_nil
  refine ss_cons ?_ ?_
  · refine s_if ?_ ?_ ?_
    · refine snt_v ?_
      exact (by decide +kernel)
    · refine ss_cons ?_ ?_
      · refine s_append ?_ ?_ ?_ ?_ ?_
        · exact pb_name
        · exact rfl
        · exact ns_name
        · refine snd_v ?_
          exact (by decide +kernel)
        refine snda_old ?_
        refine snd_v ?_
        exact (by decide +kernel)
      exact ss_nil
    exact ss_nil
  refine ss_cons ?_ ?_
  · refine s_ret ?_
    refine snd_comp0 ?_ ?_ rfl ?_ ?_ ?_
    · exact (by decide +kernel)
    · exact C
    · exact fs_name
    · refine snd_v ?_
      exact (by decide +kernel)
    intro C
    refine snd_strip ?_ ?_ ?_ ?_ ?_
    · exact pb_name
    · exact rfl
    · exact (by decide)
    · refine snd_v ?_
      exact (by decide +kernel)
    exact sl_nil
  exact ss_nil
theorem w12_1 {prog : Program} {w : World} {base : Heap} {mg mb : Str → Option Value} : BodyOk prog w base mg mb d12_1.scope [(Str.ofString "parse_http_list", 0)] d12_1.body f12_1.body := by
  intro rank F G hF hI C
  refine ss_cons ?_ ?_
  · refine s_as ?_ ?_ ?_ ?_
    · exact nc_const
    · exact (by decide +kernel)
    · exact C
    refine snda_old ?_
    exact snd_int
  refine ss_cons ?_ ?_
  · refine s_as ?_ ?_ ?_ ?_
    · exact nc_const
    · exact (by decide +kernel)
    · exact C
    refine snda_old ?_
    refine snd_s ?_
    exact (by decide +kernel)
  refine ss_cons ?_ ?_
  · refine s_while ?_ ?_
    · refine snt_and ?_ ?_
      · refine snt_cmp ?_ ?_ ?_ ?_
        · exact rfl
        · refine snd_v ?_
          exact (by decide +kernel)
        · refine snd_len G ?_ ?_
          · exact (by decide +kernel)
          refine sl_cons ?_ ?_ ?_
          · exact ns_name
          · refine snd_v ?_
            exact (by decide +kernel)
          exact sl_nil
        exact bm_call
      intro _
      refine snt_one ?_
      refine snt_cmp ?_ ?_ ?_ ?_
      · exact rfl
      · refine snd_idx ?_ ?_ ?_
        · exact nl_name
        · refine snd_v ?_
          exact (by decide +kernel)
        refine snd_v ?_
        exact (by decide +kernel)
      · refine snd_s ?_
        exact (by decide +kernel)
      exact bm_const
    refine ss_cons ?_ ?_
    · refine s_if ?_ ?_ ?_
      · refine snt_cmp ?_ ?_ ?_ ?_
        · exact rfl
        · refine snd_idx ?_ ?_ ?_
          · exact nl_name
          · refine snd_v ?_
            exact (by decide +kernel)
          refine snd_v ?_
          exact (by decide +kernel)
        · refine snd_s ?_
          exact (by decide +kernel)
        exact bm_const
      · refine ss_cons ?_ ?_
        · refine s_as ?_ ?_ ?_ ?_
          · exact nc_bin
          · exact (by decide +kernel)
          · exact C
          refine snda_old ?_
          refine snd_bin ?_ ?_ ?_
          · exact rfl
          · refine snd_v ?_
            exact (by decide +kernel)
          exact snd_int
        exact ss_nil
      exact ss_nil
    refine ss_cons ?_ ?_
    · refine s_as ?_ ?_ ?_ ?_
      · exact nc_bin
      · exact (by decide +kernel)
      · exact C
      refine snda_old ?_
      refine snd_bin ?_ ?_ ?_
      · exact rfl
      · refine snd_v ?_
        exact (by decide +kernel)
      refine snd_join ?_ ?_ ?_ ?_ ?_
      · exact pb_const
      · exact rfl
      · exact (by decide)
      · refine snd_s ?_
        exact (by decide +kernel)
      refine sl_cons ?_ ?_ ?_
      · exact ns_sub
      · refine snd_slice (sp := Step.one) ?_ ?_ ?_ ?_
        · exact rfl
        · refine snd_v ?_
          exact (by decide +kernel)
        · refine sndo_some ?_
          refine snd_v ?_
          exact (by decide +kernel)
        refine sndo_some ?_
        refine snd_bin ?_ ?_ ?_
        · exact rfl
        · refine snd_v ?_
          exact (by decide +kernel)
        exact snd_int
      exact sl_nil
    refine ss_cons ?_ ?_
    · refine s_as ?_ ?_ ?_ ?_
      · exact nc_bin
      · exact (by decide +kernel)
      · exact C
      refine snda_old ?_
      refine snd_bin ?_ ?_ ?_
      · exact rfl
      · refine snd_v ?_
        exact (by decide +kernel)
      exact snd_int
    exact ss_nil
  refine ss_cons ?_ ?_
  · refine s_ret ?_
    refine snd_tupL ?_ ?_
    · exact (by decide)
    refine sl_cons ?_ ?_ ?_
    · exact ns_bin
    · refine snd_bin ?_ ?_ ?_
      · exact rfl
      · refine snd_v ?_
        exact (by decide +kernel)
      refine snd_join ?_ ?_ ?_ ?_ ?_
      · exact pb_const
      · exact rfl
      · exact (by decide)
      · refine snd_s ?_
        exact (by decide +kernel)
      refine sl_cons ?_ ?_ ?_
      · exact ns_sub
      · refine snd_slice (sp := Step.one) ?_ ?_ ?_ ?_
        · exact rfl
        · refine snd_v ?_
          exact (by decide +kernel)
        · refine sndo_some ?_
          refine snd_v ?_
          exact (by decide +kernel)
        refine sndo_some ?_
        refine snd_bin ?_ ?_ ?_
        · exact rfl
        · refine snd_v ?_
          exact (by decide +kernel)
        exact snd_int
      exact sl_nil
    refine sl_cons ?_ ?_ ?_
    · exact ns_bin
    · refine snd_bin ?_ ?_ ?_
      · exact rfl
      · refine snd_v ?_
        exact (by decide +kernel)
      exact snd_int
    exact sl_nil
  exact ss_nil
theorem w12_2 {prog : Program} {w : World} {base : Heap} {mg mb : Str → Option Value} : BodyOk prog w base mg mb d12_2.scope [(Str.ofString "_law_quoted", 1), (Str.ofString "parse_http_list", 0)] d12_2.body f12_2.body := by
  intro rank F G hF hI C
  refine ss_cons ?_ ?_
  · refine s_as ?_ ?_ ?_ ?_
    · exact nc_const
    · exact (by decide +kernel)
    · exact C
    refine snda_old ?_
    exact snd_int
  refine ss_cons ?_ ?_
  · refine s_as ?_ ?_ ?_ ?_
    · exact nc_call
    · exact (by decide +kernel)
    · exact C
    refine snda_old ?_
    refine snd_len G ?_ ?_
    · exact (by decide +kernel)
    refine sl_cons ?_ ?_ ?_
    · exact ns_name
    · refine snd_v ?_
      exact (by decide +kernel)
    exact sl_nil
  refine ss_cons ?_ ?_
  · refine s_while ?_ ?_
    · refine snt_and ?_ ?_
      · refine snt_cmp ?_ ?_ ?_ ?_
        · exact rfl
        · refine snd_v ?_
          exact (by decide +kernel)
        · refine snd_v ?_
          exact (by decide +kernel)
        exact bm_name
      intro _
      refine snt_one ?_
      refine snt_cmp ?_ ?_ ?_ ?_
      · exact rfl
      · refine snd_idx ?_ ?_ ?_
        · exact nl_name
        · refine snd_v ?_
          exact (by decide +kernel)
        refine snd_v ?_
        exact (by decide +kernel)
      · refine snd_s ?_
        exact (by decide +kernel)
      exact bm_const
    refine ss_cons ?_ ?_
    · refine s_as ?_ ?_ ?_ ?_
      · exact nc_bin
      · exact (by decide +kernel)
      · exact C
      refine snda_old ?_
      refine snd_bin ?_ ?_ ?_
      · exact rfl
      · refine snd_v ?_
        exact (by decide +kernel)
      exact snd_int
    exact ss_nil
  refine ss_cons ?_ ?_
  · refine s_while ?_ ?_
    · refine snt_and ?_ ?_
      · refine snt_cmp ?_ ?_ ?_ ?_
        · exact rfl
        · refine snd_v ?_
          exact (by decide +kernel)
        · refine snd_v ?_
          exact (by decide +kernel)
        exact bm_name
      intro _
      refine snt_one ?_
      refine snt_cmp ?_ ?_ ?_ ?_
      · exact rfl
      · refine snd_idx ?_ ?_ ?_
        · exact nl_bin
        · refine snd_v ?_
          exact (by decide +kernel)
        refine snd_bin ?_ ?_ ?_
        · exact rfl
        · refine snd_v ?_
          exact (by decide +kernel)
        exact snd_int
      · refine snd_s ?_
        exact (by decide +kernel)
      exact bm_const
    refine ss_cons ?_ ?_
    · refine s_as ?_ ?_ ?_ ?_
      · exact nc_bin
      · exact (by decide +kernel)
      · exact C
      refine snda_old ?_
      refine snd_bin ?_ ?_ ?_
      · exact rfl
      · refine snd_v ?_
        exact (by decide +kernel)
      exact snd_int
    exact ss_nil
  refine ss_cons ?_ ?_
  · refine s_ret ?_
    refine snd_slice (sp := Step.one) ?_ ?_ ?_ ?_
    · exact rfl
    · refine snd_v ?_
      exact (by decide +kernel)
    · refine sndo_some ?_
      refine snd_v ?_
      exact (by decide +kernel)
    refine sndo_some ?_
    refine snd_v ?_
    exact (by decide +kernel)
  exact ss_nil
theorem w12_3 {prog : Program} {w : World} {base : Heap} {mg mb : Str → Option Value} : BodyOk prog w base mg mb d12_3.scope [(Str.ofString "_law_trim", 2), (Str.ofString "_law_quoted", 1), (Str.ofString "parse_http_list", 0)] d12_3.body f12_3.body := by
  intro rank F G hF hI C
  refine ss_cons ?_ ?_
  · refine s_as ?_ ?_ ?_ ?_
    · exact nc_list
    · exact (by decide +kernel)
    · exact C
    refine snda_newl ?_ ?_
    · exact (by decide)
    refine sndas_cons ?_ ?_ ?_
    · exact ns_const
    · refine snda_old ?_
      refine snd_s ?_
      exact (by decide +kernel)
    exact sndas_nil
  refine ss_cons ?_ ?_
  · refine s_as ?_ ?_ ?_ ?_
    · exact nc_const
    · exact (by decide +kernel)
    · exact C
    refine snda_old ?_
    exact snd_int
  refine ss_cons ?_ ?_
  · refine s_while ?_ ?_
    · refine snt_cmp ?_ ?_ ?_ ?_
      · exact rfl
      · refine snd_v ?_
        exact (by decide +kernel)
      · refine snd_len G ?_ ?_
        · exact (by decide +kernel)
        refine sl_cons ?_ ?_ ?_
        · exact ns_name
        · refine snd_v ?_
          exact (by decide +kernel)
        exact sl_nil
      exact bm_call
    refine ss_cons ?_ ?_
    · refine s_as ?_ ?_ ?_ ?_
      · exact nc_sub
      · exact (by decide +kernel)
      · exact C
      refine snda_old ?_
      refine snd_idx ?_ ?_ ?_
      · exact nl_name
      · refine snd_v ?_
        exact (by decide +kernel)
      refine snd_v ?_
      exact (by decide +kernel)
    refine ss_cons ?_ ?_
    · refine s_as ?_ ?_ ?_ ?_
      · exact nc_bin
      · exact (by decide +kernel)
      · exact C
      refine snda_old ?_
      refine snd_bin ?_ ?_ ?_
      · exact rfl
      · refine snd_v ?_
        exact (by decide +kernel)
      exact snd_int
    refine ss_cons ?_ ?_
    · refine s_if ?_ ?_ ?_
      · refine snt_cmp ?_ ?_ ?_ ?_
        · exact rfl
        · refine snd_v ?_
          exact (by decide +kernel)
        · refine snd_s ?_
          exact (by decide +kernel)
        exact bm_const
      · refine ss_cons ?_ ?_
        · refine s_append ?_ ?_ ?_ ?_ ?_
          · exact pb_name
          · exact rfl
          · exact ns_const
          · refine snd_v ?_
            exact (by decide +kernel)
          refine snda_old ?_
          refine snd_s ?_
          exact (by decide +kernel)
        exact ss_nil
      refine ss_cons ?_ ?_
      · refine s_if ?_ ?_ ?_
        · refine snt_cmp ?_ ?_ ?_ ?_
          · exact rfl
          · refine snd_v ?_
            exact (by decide +kernel)
          · refine snd_s ?_
            exact (by decide +kernel)
          exact bm_const
        · refine ss_cons ?_ ?_
          · refine s_assign_tup ?_ ?_ ?_ ?_
            · exact nt_call
            · exact (by decide +kernel)
            · exact C
            refine snda_old ?_
            refine snd_call' G hF ?_ ?_ ?_
            · exact (by decide +kernel)
            · exact (by decide +kernel)
            refine sl_cons ?_ ?_ ?_
            · exact ns_sub
            · refine snd_slice (sp := Step.one) ?_ ?_ ?_ ?_
              · exact rfl
              · refine snd_v ?_
                exact (by decide +kernel)
              · refine sndo_some ?_
                refine snd_v ?_
                exact (by decide +kernel)
              exact sndo_none
            exact sl_nil
          refine ss_cons ?_ ?_
          · refine s_set ?_ ?_ ?_ ?_
            · exact nc_bin
            · refine snd_v ?_
              exact (by decide +kernel)
            · exact snd_neg
            refine snd_bin ?_ ?_ ?_
            · exact rfl
            · refine snd_bin ?_ ?_ ?_
              · exact rfl
              · refine snd_idx ?_ ?_ ?_
                · exact nl_un
                · refine snd_v ?_
                  exact (by decide +kernel)
                exact snd_neg
              refine snd_v ?_
              exact (by decide +kernel)
            refine snd_v ?_
            exact (by decide +kernel)
          refine ss_cons ?_ ?_
          · refine s_as ?_ ?_ ?_ ?_
            · exact nc_bin
            · exact (by decide +kernel)
            · exact C
            refine snda_old ?_
            refine snd_bin ?_ ?_ ?_
            · exact rfl
            · refine snd_v ?_
              exact (by decide +kernel)
            refine snd_v ?_
            exact (by decide +kernel)
          exact ss_nil
        refine ss_cons ?_ ?_
        · refine s_set ?_ ?_ ?_ ?_
          · exact nc_bin
          · refine snd_v ?_
            exact (by decide +kernel)
          · exact snd_neg
          refine snd_bin ?_ ?_ ?_
          · exact rfl
          · refine snd_idx ?_ ?_ ?_
            · exact nl_un
            · refine snd_v ?_
              exact (by decide +kernel)
            exact snd_neg
          refine snd_v ?_
          exact (by decide +kernel)
        exact ss_nil
      exact ss_nil
    exact ss_nil
  refine ss_cons ?_ ?_
  · refine s_if ?_ ?_ ?_
    · refine snt_cmp ?_ ?_ ?_ ?_
      · exact rfl
      · refine snd_idx ?_ ?_ ?_
        · exact nl_un
        · refine snd_v ?_
          exact (by decide +kernel)
        exact snd_neg
      · refine snd_s ?_
        exact (by decide +kernel)
      exact bm_const
    · refine ss_cons ?_ ?_
      · refine s_as ?_ ?_ ?_ ?_
        · exact nc_sub
        · exact (by decide +kernel)
        · exact C
        refine snda_old ?_
        refine snd_slice (sp := Step.one) ?_ ?_ ?_ ?_
        · exact rfl
        · refine snd_v ?_
          exact (by decide +kernel)
        · exact sndo_none
        refine sndo_some ?_
        exact snd_neg
      exact ss_nil
    exact ss_nil
  refine ss_cons ?_ ?_
  · refine s_ret ?_
    refine snd_comp0 ?_ ?_ rfl ?_ ?_ ?_
    · exact (by decide +kernel)
    · exact C
    · exact fs_name
    · refine snd_v ?_
      exact (by decide +kernel)
    intro C
    refine snd_call' G hF ?_ ?_ ?_
    · exact (by decide +kernel)
    · exact (by decide +kernel)
    refine sl_cons ?_ ?_ ?_
    · exact ns_name
    · refine snd_v ?_
      exact (by decide +kernel)
    exact sl_nil
  exact ss_nil
theorem w12_4 {prog : Program} {w : World} {base : Heap} {mg mb : Str → Option Value} : BodyOk prog w base mg mb d12_4.scope [(Str.ofString "_law_read", 3), (Str.ofString "_law_trim", 2), (Str.ofString "_law_quoted", 1), (Str.ofString "parse_http_list", 0)] d12_4.body f12_4.body := by
  intro rank F G hF hI C
  refine ss_cons ?_ ?_
  · refine s_try G ?_ ?_ ?_
    · exact C
    · refine ss_cons ?_ ?_
      · refine s_retI G hI ?_ ?_ ?_
        · exact (by decide +kernel)
        · exact (by decide +kernel)
        exact (by decide +kernel)
      exact ss_nil
    refine .cons ?_ ?_ ?_ ?_
    · exact (by decide +kernel)
    · exact (by decide +kernel)
    · refine .ret ?_
      exact (by decide +kernel)
    exact .nil
  exact ss_nil
theorem w12_5 {prog : Program} {w : World} {base : Heap} {mg mb : Str → Option Value} : BodyOk prog w base mg mb d12_5.scope [(Str.ofString "_law_try", 4), (Str.ofString "_law_read", 3), (Str.ofString "_law_trim", 2), (Str.ofString "_law_quoted", 1), (Str.ofString "parse_http_list", 0)] d12_5.body f12_5.body := by
  intro rank F G hF hI C
  refine ss_cons ?_ ?_
  · refine s_as ?_ ?_ ?_ ?_
    · exact nc_sub
    · exact (by decide +kernel)
    · exact C
    refine snda_old ?_
    refine snd_slice (sp := Step.one) ?_ ?_ ?_ ?_
    · exact rfl
    · refine snd_v ?_
      exact (by decide +kernel)
    · exact sndo_none
    refine sndo_some ?_
    exact snd_int
  refine ss_cons ?_ ?_
  · refine s_as ?_ ?_ ?_ ?_
    · exact nc_list
    · exact (by decide +kernel)
    · exact C
    refine snda_old ?_
    refine snd_listL ?_ ?_
    · exact (by decide)
    refine sl_cons ?_ ?_ ?_
    · exact ns_const
    · refine snd_s ?_
      exact (by decide +kernel)
    refine sl_cons ?_ ?_ ?_
    · exact ns_const
    · refine snd_s ?_
      exact (by decide +kernel)
    refine sl_cons ?_ ?_ ?_
    · exact ns_const
    · refine snd_s ?_
      exact (by decide +kernel)
    refine sl_cons ?_ ?_ ?_
    · exact ns_const
    · refine snd_s ?_
      exact (by decide +kernel)
    refine sl_cons ?_ ?_ ?_
    · exact ns_const
    · refine snd_s ?_
      exact (by decide +kernel)
    refine sl_cons ?_ ?_ ?_
    · exact ns_const
    · refine snd_s ?_
      exact (by decide +kernel)
    refine sl_cons ?_ ?_ ?_
    · exact ns_const
    · refine snd_s ?_
      exact (by decide +kernel)
    refine sl_cons ?_ ?_ ?_
    · exact ns_const
    · refine snd_s ?_
      exact (by decide +kernel)
    refine sl_cons ?_ ?_ ?_
    · exact ns_const
    · refine snd_s ?_
      exact (by decide +kernel)
    refine sl_cons ?_ ?_ ?_
    · exact ns_const
    · refine snd_s ?_
      exact (by decide +kernel)
    refine sl_cons ?_ ?_ ?_
    · exact ns_const
    · refine snd_s ?_
      exact (by decide +kernel)
    exact sl_nil
  refine ss_cons ?_ ?_
  · refine s_as ?_ ?_ ?_ ?_
    · exact nc_list
    · exact (by decide +kernel)
    · exact C
    refine snda_newl ?_ ?_
    · exact (by decide)
    exact sndas_nil
  refine ss_cons ?_ ?_
  · refine s_as ?_ ?_ ?_ ?_
    · exact nc_list
    · exact (by decide +kernel)
    · exact C
    refine snda_newl ?_ ?_
    · exact (by decide)
    refine sndas_cons ?_ ?_ ?_
    · exact ns_list
    · refine snda_newl ?_ ?_
      · exact (by decide)
      exact sndas_nil
    exact sndas_nil
  refine ss_cons ?_ ?_
  · refine s_for ?_ ?_ ?_ ?_ ?_
    · exact fs_name
    · exact (by decide +kernel)
    · exact C
    · refine snd_v ?_
      exact (by decide +kernel)
    refine ss_cons ?_ ?_
    · refine s_as ?_ ?_ ?_ ?_
      · exact nc_bin
      · exact (by decide +kernel)
      · exact C
      refine snda_old ?_
      refine snd_bin ?_ ?_ ?_
      · exact rfl
      · refine snd_v ?_
        exact (by decide +kernel)
      exact snd_int
    refine ss_cons ?_ ?_
    · refine s_if ?_ ?_ ?_
      · refine snt_cmp ?_ ?_ ?_ ?_
        · exact rfl
        · refine snd_v ?_
          exact (by decide +kernel)
        · exact snd_int
        exact bm_const
      · refine ss_cons ?_ ?_
        · refine s_append ?_ ?_ ?_ ?_ ?_
          · exact pb_name
          · exact rfl
          · exact ns_sub
          · refine snd_v ?_
            exact (by decide +kernel)
          refine snda_old ?_
          refine snd_idx ?_ ?_ ?_
          · exact nl_name
          · refine snd_v ?_
            exact (by decide +kernel)
          refine snd_v ?_
          exact (by decide +kernel)
        refine ss_cons ?_ ?_
        · refine s_append ?_ ?_ ?_ ?_ ?_
          · exact pb_sub
          · exact rfl
          · exact ns_sub
          · refine snd_idx ?_ ?_ ?_
            · exact nl_un
            · refine snd_v ?_
              exact (by decide +kernel)
            exact snd_neg
          refine snda_old ?_
          refine snd_idx ?_ ?_ ?_
          · exact nl_name
          · refine snd_v ?_
            exact (by decide +kernel)
          refine snd_v ?_
          exact (by decide +kernel)
        exact ss_nil
      refine ss_cons ?_ ?_
      · refine s_append ?_ ?_ ?_ ?_ ?_
        · exact pb_name
        · exact rfl
        · exact ns_sub
        · refine snd_v ?_
          exact (by decide +kernel)
        refine snda_old ?_
        refine snd_idx ?_ ?_ ?_
        · exact nl_bin
        · refine snd_listL ?_ ?_
          · exact (by decide)
          refine sl_cons ?_ ?_ ?_
          · exact ns_name
          · refine snd_v ?_
            exact (by decide +kernel)
          refine sl_cons ?_ ?_ ?_
          · exact ns_const
          · exact snd_none
          refine sl_cons ?_ ?_ ?_
          · exact ns_const
          · exact snd_bytes
          refine sl_cons ?_ ?_ ?_
          · exact ns_list
          · refine snd_listL ?_ ?_
            · exact (by decide)
            refine sl_cons ?_ ?_ ?_
            · exact ns_const
            · refine snd_s ?_
              exact (by decide +kernel)
            exact sl_nil
          exact sl_nil
        refine snd_bin ?_ ?_ ?_
        · exact rfl
        · refine snd_bin ?_ ?_ ?_
          · exact rfl
          · refine snd_v ?_
            exact (by decide +kernel)
          exact snd_int
        exact snd_int
      refine ss_cons ?_ ?_
      · refine s_append ?_ ?_ ?_ ?_ ?_
        · exact pb_name
        · exact rfl
        · exact ns_list
        · refine snd_v ?_
          exact (by decide +kernel)
        refine snda_newl ?_ ?_
        · exact (by decide)
        exact sndas_nil
      exact ss_nil
    exact ss_nil
  refine ss_cons ?_ ?_
  · refine s_ac0 ?_ ?_ ?_ rfl ?_ ?_ ?_
    · exact C
    · exact (by decide +kernel)
    · exact (by decide +kernel)
    · exact fs_name
    · refine snd_v ?_
      exact (by decide +kernel)
    intro C
    refine snd_call' G hF ?_ ?_ ?_
    · exact (by decide +kernel)
    · exact (by decide +kernel)
    refine sl_cons ?_ ?_ ?_
    · exact ns_name
    · refine snd_v ?_
      exact (by decide +kernel)
    exact sl_nil
  refine ss_cons ?_ ?_
  · refine s_if ?_ ?_ ?_
    · refine snt_cmp ?_ ?_ ?_ ?_
      · exact rfl
      · refine snd_comp0 ?_ ?_ rfl ?_ ?_ ?_
        · exact (by decide +kernel)
        · exact C
        · exact fs_name
        · refine snd_v ?_
          exact (by decide +kernel)
        intro C
        refine snd_call' G hF ?_ ?_ ?_
        · exact (by decide +kernel)
        · exact (by decide +kernel)
        refine sl_cons ?_ ?_ ?_
        · exact ns_name
        · refine snd_v ?_
          exact (by decide +kernel)
        exact sl_nil
      · refine snd_v ?_
        exact (by decide +kernel)
      exact bm_name
    · refine ss_cons ?_ ?_
      · refine s_ret ?_
        exact snd_bool
      exact ss_nil
    exact ss_nil
  refine ss_cons ?_ ?_
  · refine s_if ?_ ?_ ?_
    · refine snt_cmp ?_ ?_ ?_ ?_
      · exact rfl
      · refine snd_comp0 ?_ ?_ rfl ?_ ?_ ?_
        · exact (by decide +kernel)
        · exact C
        · exact fs_name
        · refine snd_v ?_
          exact (by decide +kernel)
        intro C
        refine snd_call' G hF ?_ ?_ ?_
        · exact (by decide +kernel)
        · exact (by decide +kernel)
        refine sl_cons ?_ ?_ ?_
        · exact ns_call
        · refine snd_tupleOf G ?_ ?_
          · exact (by decide +kernel)
          refine sl_cons ?_ ?_ ?_
          · exact ns_name
          · refine snd_v ?_
            exact (by decide +kernel)
          exact sl_nil
        exact sl_nil
      · refine snd_v ?_
        exact (by decide +kernel)
      exact bm_name
    · refine ss_cons ?_ ?_
      · refine s_ret ?_
        exact snd_bool
      exact ss_nil
    exact ss_nil
  refine ss_cons ?_ ?_
  · refine s_as ?_ ?_ ?_ ?_
    · exact nc_call
    · exact (by decide +kernel)
    · exact C
    refine snda_iter G ?_ ?_ ?_
    · exact (by decide +kernel)
    · exact ns_name
    refine snd_v ?_
    exact (by decide +kernel)
  refine ss_cons ?_ ?_
  · refine s_got G hI ?_ ?_ ?_ ?_
    · exact C
    · exact (by decide +kernel)
    · exact fs_name
    refine snd_v ?_
    exact (by decide +kernel)
  refine ss_cons ?_ ?_
  · refine s_if ?_ ?_ ?_
    · refine snt_cmp ?_ ?_ ?_ ?_
      · exact rfl
      · refine snd_v ?_
        exact (by decide +kernel)
      · refine snd_bin ?_ ?_ ?_
        · exact rfl
        · refine snd_bin ?_ ?_ ?_
          · exact rfl
          · refine snd_listL ?_ ?_
            · exact (by decide)
            refine sl_cons ?_ ?_ ?_
            · exact ns_const
            · refine snd_s ?_
              exact (by decide +kernel)
            exact sl_nil
          refine snd_bin ?_ ?_ ?_
          · exact rfl
          · refine snd_len G ?_ ?_
            · exact (by decide +kernel)
            refine sl_cons ?_ ?_ ?_
            · exact ns_name
            · refine snd_v ?_
              exact (by decide +kernel)
            exact sl_nil
          exact snd_int
        refine snd_slice (sp := Step.one) ?_ ?_ ?_ ?_
        · exact rfl
        · refine snd_v ?_
          exact (by decide +kernel)
        · refine sndo_some ?_
          exact snd_neg
        exact sndo_none
      exact bm_bin
    · refine ss_cons ?_ ?_
      · refine s_ret ?_
        exact snd_bool
      exact ss_nil
    exact ss_nil
  refine ss_cons ?_ ?_
  · refine s_retIs G hI ?_ ?_ ?_
    · exact (by decide +kernel)
    · exact (by decide +kernel)
    exact (by decide +kernel)
  exact ss_nil
end Mine

end
section
set_option autoImplicit false
namespace Mine

@[simp] theorem get_last (st : Store) (o : Obj) : (st ++ [o])[st.length]? = some o := by simp
@[simp] theorem set_last (st : Store) (o o' : Obj) : (st ++ [o]).set st.length o' = st ++ [o'] := by simp

noncomputable def bindR {α β : Type} (r : R α) (f : α → R β) : R β := match r with
  | .error e => .error e
  | .ok a => f a
@[simp] theorem bindR_ok {α β : Type} (a : α) (f : α → R β) : bindR (.ok a) f = f a := rfl
@[simp] theorem bindR_err {α β : Type} (e : Err) (f : α → R β) : bindR (.error e) f = .error e := rfl
noncomputable def outR {α : Type} (r : R α) (s : St) (f : α → Out) : Out := match r with
  | .error e => .ofErr s e
  | .ok a => f a
@[simp] theorem outR_ok {α : Type} (a : α) (s : St) (f : α → Out) : outR (.ok a) s f = f a := rfl
@[simp] theorem outR_err {α : Type} (e : Err) (s : St) (f : α → Out) : outR (.error e) s f = .ofErr s e := rfl
@[simp] theorem ofErr_exc (s : St) (k : K) : Out.ofErr s (.exc k) = .exc k s := rfl
@[simp] theorem raise_eq {α : Type} (k : K) : (raise k : R α) = .error (.exc k) := rfl
noncomputable def thenO (o : Out) (f : St → Out) : Out := match o with
  | .next s => f s
  | o => o
@[simp] theorem thenO_next (s : St) (f : St → Out) : thenO (.next s) f = f s := rfl
@[simp] theorem thenO_cont (s : St) (f : St → Out) : thenO (.cont s) f = .cont s := rfl
@[simp] theorem thenO_ret (v : V) (s : St) (f : St → Out) : thenO (.ret v s) f = .ret v s := rfl
@[simp] theorem thenO_exc (k : K) (s : St) (f : St → Out) : thenO (.exc k s) f = .exc k s := rfl
noncomputable def getV (ρ : Vars) (x : Nat) : R V := match ρ[x]? with
  | some (some v) => .ok v
  | _ => stuck
@[simp] theorem getV_zero (v : V) (ρ : Vars) : getV (some v :: ρ) 0 = .ok v := rfl
@[simp] theorem getV_succ (o : Option V) (ρ : Vars) (n : Nat) : getV (o :: ρ) (n + 1) = getV ρ n := rfl

section
variable (F : Phi) (st : Store) (ρ : Vars)
@[simp] theorem e_none : evalE F st .none ρ = .ok .none := by (first | rw [evalE_q1] | rw [evalE_q2] | rw [evalE_q3] | rw [evalE_q4] | rw [evalE_q5] | rw [evalE_q6] | rw [evalE_q7] | rw [evalE_q8] | rw [evalE_q9] | rw [evalE_q10] | rw [evalE_q11] | rw [evalE_q12] | rw [evalE_q13] | rw [evalE_q14] | rw [evalE_q15] | rw [evalE_q16] | rw [evalE_q17] | rw [evalE_q18] | rw [evalE_q19] | rw [evalE_q20])
@[simp] theorem e_bool (b : Bool) : evalE F st (.bool b) ρ = .ok (.bool b) := by (first | rw [evalE_q1] | rw [evalE_q2] | rw [evalE_q3] | rw [evalE_q4] | rw [evalE_q5] | rw [evalE_q6] | rw [evalE_q7] | rw [evalE_q8] | rw [evalE_q9] | rw [evalE_q10] | rw [evalE_q11] | rw [evalE_q12] | rw [evalE_q13] | rw [evalE_q14] | rw [evalE_q15] | rw [evalE_q16] | rw [evalE_q17] | rw [evalE_q18] | rw [evalE_q19] | rw [evalE_q20])
@[simp] theorem e_int (i : Int) : evalE F st (.int i) ρ = .ok (.int i) := by (first | rw [evalE_q1] | rw [evalE_q2] | rw [evalE_q3] | rw [evalE_q4] | rw [evalE_q5] | rw [evalE_q6] | rw [evalE_q7] | rw [evalE_q8] | rw [evalE_q9] | rw [evalE_q10] | rw [evalE_q11] | rw [evalE_q12] | rw [evalE_q13] | rw [evalE_q14] | rw [evalE_q15] | rw [evalE_q16] | rw [evalE_q17] | rw [evalE_q18] | rw [evalE_q19] | rw [evalE_q20])
@[simp] theorem e_str (s : List Nat) : evalE F st (.str s) ρ = .ok (.str s) := by (first | rw [evalE_q1] | rw [evalE_q2] | rw [evalE_q3] | rw [evalE_q4] | rw [evalE_q5] | rw [evalE_q6] | rw [evalE_q7] | rw [evalE_q8] | rw [evalE_q9] | rw [evalE_q10] | rw [evalE_q11] | rw [evalE_q12] | rw [evalE_q13] | rw [evalE_q14] | rw [evalE_q15] | rw [evalE_q16] | rw [evalE_q17] | rw [evalE_q18] | rw [evalE_q19] | rw [evalE_q20])
@[simp] theorem e_bytes : evalE F st .bytes ρ = .ok .bytes := by (first | rw [evalE_q1] | rw [evalE_q2] | rw [evalE_q3] | rw [evalE_q4] | rw [evalE_q5] | rw [evalE_q6] | rw [evalE_q7] | rw [evalE_q8] | rw [evalE_q9] | rw [evalE_q10] | rw [evalE_q11] | rw [evalE_q12] | rw [evalE_q13] | rw [evalE_q14] | rw [evalE_q15] | rw [evalE_q16] | rw [evalE_q17] | rw [evalE_q18] | rw [evalE_q19] | rw [evalE_q20])
@[simp] theorem e_var (x : Nat) : evalE F st (.var x) ρ = getV ρ x := by (first | rw [evalE_q1] | rw [evalE_q2] | rw [evalE_q3] | rw [evalE_q4] | rw [evalE_q5] | rw [evalE_q6] | rw [evalE_q7] | rw [evalE_q8] | rw [evalE_q9] | rw [evalE_q10] | rw [evalE_q11] | rw [evalE_q12] | rw [evalE_q13] | rw [evalE_q14] | rw [evalE_q15] | rw [evalE_q16] | rw [evalE_q17] | rw [evalE_q18] | rw [evalE_q19] | rw [evalE_q20]); rfl
@[simp] theorem e_bin (op : BOp) (a b : CE) : evalE F st (.bin op a b) ρ = bindR (evalE F st a ρ) fun x => bindR (evalE F st b ρ) fun y => binop st op x y := by
  (first | rw [evalE_q1] | rw [evalE_q2] | rw [evalE_q3] | rw [evalE_q4] | rw [evalE_q5] | rw [evalE_q6] | rw [evalE_q7] | rw [evalE_q8] | rw [evalE_q9] | rw [evalE_q10] | rw [evalE_q11] | rw [evalE_q12] | rw [evalE_q13] | rw [evalE_q14] | rw [evalE_q15] | rw [evalE_q16] | rw [evalE_q17] | rw [evalE_q18] | rw [evalE_q19] | rw [evalE_q20])
  cases evalE F st a ρ with
  | error e => rfl
  | ok x =>
    simp only [bindR]
    cases evalE F st b ρ with
    | error e => rfl
    | ok y => rfl
@[simp] theorem e_cmp (op : COp) (a b : CE) : evalE F st (.cmp op a b) ρ = bindR (evalE F st a ρ) fun x => bindR (evalE F st b ρ) fun y => bindR (cmpop st op x y) fun r => .ok (.bool r) := by
  (first | rw [evalE_q1] | rw [evalE_q2] | rw [evalE_q3] | rw [evalE_q4] | rw [evalE_q5] | rw [evalE_q6] | rw [evalE_q7] | rw [evalE_q8] | rw [evalE_q9] | rw [evalE_q10] | rw [evalE_q11] | rw [evalE_q12] | rw [evalE_q13] | rw [evalE_q14] | rw [evalE_q15] | rw [evalE_q16] | rw [evalE_q17] | rw [evalE_q18] | rw [evalE_q19] | rw [evalE_q20])
  cases evalE F st a ρ with
  | error e => rfl
  | ok x =>
    simp only [bindR]
    cases evalE F st b ρ with
    | error e => rfl
    | ok y => 
      simp only
      cases cmpop st op x y <;> rfl
@[simp] theorem e_not (a : CE) : evalE F st (.not a) ρ = bindR (evalE F st a ρ) fun x => bindR (ofO (truth st x)) fun b => .ok (.bool !b) := by
  (first | rw [evalE_q1] | rw [evalE_q2] | rw [evalE_q3] | rw [evalE_q4] | rw [evalE_q5] | rw [evalE_q6] | rw [evalE_q7] | rw [evalE_q8] | rw [evalE_q9] | rw [evalE_q10] | rw [evalE_q11] | rw [evalE_q12] | rw [evalE_q13] | rw [evalE_q14] | rw [evalE_q15] | rw [evalE_q16] | rw [evalE_q17] | rw [evalE_q18] | rw [evalE_q19] | rw [evalE_q20])
  cases evalE F st a ρ with
  | error e => rfl
  | ok x => simp only [bindR]; cases truth st x <;> rfl
@[simp] theorem e_and (a b : CE) : evalE F st (.and a b) ρ = bindR (evalE F st a ρ) fun x => bindR (ofO (truth st x)) fun t => if t then evalE F st b ρ else .ok x := by
  (first | rw [evalE_q1] | rw [evalE_q2] | rw [evalE_q3] | rw [evalE_q4] | rw [evalE_q5] | rw [evalE_q6] | rw [evalE_q7] | rw [evalE_q8] | rw [evalE_q9] | rw [evalE_q10] | rw [evalE_q11] | rw [evalE_q12] | rw [evalE_q13] | rw [evalE_q14] | rw [evalE_q15] | rw [evalE_q16] | rw [evalE_q17] | rw [evalE_q18] | rw [evalE_q19] | rw [evalE_q20])
  cases evalE F st a ρ with
  | error e => rfl
  | ok x => simp only [bindR]; cases h : truth st x with
    | none => rfl
    | some t => cases t <;> rfl
@[simp] theorem e_or (a b : CE) : evalE F st (.or a b) ρ = bindR (evalE F st a ρ) fun x => bindR (ofO (truth st x)) fun t => if t then .ok x else evalE F st b ρ := by
  (first | rw [evalE_q1] | rw [evalE_q2] | rw [evalE_q3] | rw [evalE_q4] | rw [evalE_q5] | rw [evalE_q6] | rw [evalE_q7] | rw [evalE_q8] | rw [evalE_q9] | rw [evalE_q10] | rw [evalE_q11] | rw [evalE_q12] | rw [evalE_q13] | rw [evalE_q14] | rw [evalE_q15] | rw [evalE_q16] | rw [evalE_q17] | rw [evalE_q18] | rw [evalE_q19] | rw [evalE_q20])
  cases evalE F st a ρ with
  | error e => rfl
  | ok x => simp only [bindR]; cases h : truth st x with
    | none => rfl
    | some t => cases t <;> rfl
@[simp] theorem e_ite (t a b : CE) : evalE F st (.ite t a b) ρ = bindR (evalT F st t ρ) fun c => if c then evalE F st a ρ else evalE F st b ρ := by
  (first | rw [evalE_q1] | rw [evalE_q2] | rw [evalE_q3] | rw [evalE_q4] | rw [evalE_q5] | rw [evalE_q6] | rw [evalE_q7] | rw [evalE_q8] | rw [evalE_q9] | rw [evalE_q10] | rw [evalE_q11] | rw [evalE_q12] | rw [evalE_q13] | rw [evalE_q14] | rw [evalE_q15] | rw [evalE_q16] | rw [evalE_q17] | rw [evalE_q18] | rw [evalE_q19] | rw [evalE_q20])
  cases evalT F st t ρ with
  | error e => rfl
  | ok x => cases x <;> rfl
@[simp] theorem e_tup (es : List CE) : evalE F st (.tup es) ρ = bindR (evalEs F st es ρ) fun xs => .ok (.tup xs) := by
  (first | rw [evalE_q1] | rw [evalE_q2] | rw [evalE_q3] | rw [evalE_q4] | rw [evalE_q5] | rw [evalE_q6] | rw [evalE_q7] | rw [evalE_q8] | rw [evalE_q9] | rw [evalE_q10] | rw [evalE_q11] | rw [evalE_q12] | rw [evalE_q13] | rw [evalE_q14] | rw [evalE_q15] | rw [evalE_q16] | rw [evalE_q17] | rw [evalE_q18] | rw [evalE_q19] | rw [evalE_q20])
  cases evalEs F st es ρ <;> rfl
@[simp] theorem e_list (es : List CE) : evalE F st (.list es) ρ = bindR (evalEs F st es ρ) fun xs => .ok (.list xs) := by
  (first | rw [evalE_q1] | rw [evalE_q2] | rw [evalE_q3] | rw [evalE_q4] | rw [evalE_q5] | rw [evalE_q6] | rw [evalE_q7] | rw [evalE_q8] | rw [evalE_q9] | rw [evalE_q10] | rw [evalE_q11] | rw [evalE_q12] | rw [evalE_q13] | rw [evalE_q14] | rw [evalE_q15] | rw [evalE_q16] | rw [evalE_q17] | rw [evalE_q18] | rw [evalE_q19] | rw [evalE_q20])
  cases evalEs F st es ρ <;> rfl
@[simp] theorem e_idx (a i : CE) : evalE F st (.idx a i) ρ = bindR (evalE F st a ρ) fun x => bindR (evalE F st i ρ) fun y => index st x y := by
  (first | rw [evalE_q1] | rw [evalE_q2] | rw [evalE_q3] | rw [evalE_q4] | rw [evalE_q5] | rw [evalE_q6] | rw [evalE_q7] | rw [evalE_q8] | rw [evalE_q9] | rw [evalE_q10] | rw [evalE_q11] | rw [evalE_q12] | rw [evalE_q13] | rw [evalE_q14] | rw [evalE_q15] | rw [evalE_q16] | rw [evalE_q17] | rw [evalE_q18] | rw [evalE_q19] | rw [evalE_q20])
  cases evalE F st a ρ with
  | error e => rfl
  | ok x =>
    simp only [bindR]
    cases evalE F st i ρ with
    | error e => rfl
    | ok y => rfl
@[simp] theorem e_slice (a : CE) (lo hi : Option CE) (sp : Step) : evalE F st (.slice a lo hi sp) ρ = bindR (evalE F st a ρ) fun x => bindR (evalO F st lo ρ) fun l => bindR (evalO F st hi ρ) fun h => sliceV st x l h sp := by
  (first | rw [evalE_q1] | rw [evalE_q2] | rw [evalE_q3] | rw [evalE_q4] | rw [evalE_q5] | rw [evalE_q6] | rw [evalE_q7] | rw [evalE_q8] | rw [evalE_q9] | rw [evalE_q10] | rw [evalE_q11] | rw [evalE_q12] | rw [evalE_q13] | rw [evalE_q14] | rw [evalE_q15] | rw [evalE_q16] | rw [evalE_q17] | rw [evalE_q18] | rw [evalE_q19] | rw [evalE_q20])
  cases evalE F st a ρ with
  | error e => rfl
  | ok x =>
    simp only [bindR]
    cases evalO F st lo ρ with
    | error e => rfl
    | ok y =>
      simp only
      cases evalO F st hi ρ <;> rfl
@[simp] theorem e_call (f : Nat) (as : List CE) : evalE F st (.call f as) ρ = bindR (evalEs F st as ρ) fun xs => F f st xs := by
  (first | rw [evalE_q1] | rw [evalE_q2] | rw [evalE_q3] | rw [evalE_q4] | rw [evalE_q5] | rw [evalE_q6] | rw [evalE_q7] | rw [evalE_q8] | rw [evalE_q9] | rw [evalE_q10] | rw [evalE_q11] | rw [evalE_q12] | rw [evalE_q13] | rw [evalE_q14] | rw [evalE_q15] | rw [evalE_q16] | rw [evalE_q17] | rw [evalE_q18] | rw [evalE_q19] | rw [evalE_q20])
  cases evalEs F st as ρ <;> rfl
@[simp] theorem e_prim (p : Prim) (as : List CE) : evalE F st (.prim p as) ρ = bindR (evalEs F st as ρ) fun xs => prim st p xs := by
  (first | rw [evalE_q1] | rw [evalE_q2] | rw [evalE_q3] | rw [evalE_q4] | rw [evalE_q5] | rw [evalE_q6] | rw [evalE_q7] | rw [evalE_q8] | rw [evalE_q9] | rw [evalE_q10] | rw [evalE_q11] | rw [evalE_q12] | rw [evalE_q13] | rw [evalE_q14] | rw [evalE_q15] | rw [evalE_q16] | rw [evalE_q17] | rw [evalE_q18] | rw [evalE_q19] | rw [evalE_q20])
  cases evalEs F st as ρ <;> rfl
@[simp] theorem e_meth (p : Prim) (o : CE) (as : List CE) : evalE F st (.meth p o as) ρ = bindR (evalE F st o ρ) fun x => methR st p x (evalEs F st as ρ) := by
  (first | rw [evalE_q1] | rw [evalE_q2] | rw [evalE_q3] | rw [evalE_q4] | rw [evalE_q5] | rw [evalE_q6] | rw [evalE_q7] | rw [evalE_q8] | rw [evalE_q9] | rw [evalE_q10] | rw [evalE_q11] | rw [evalE_q12] | rw [evalE_q13] | rw [evalE_q14] | rw [evalE_q15] | rw [evalE_q16] | rw [evalE_q17] | rw [evalE_q18] | rw [evalE_q19] | rw [evalE_q20])
  cases evalE F st o ρ <;> rfl
@[simp] theorem methR_ok (p : Prim) (x : V) (xs : List V) : methR st p x (.ok xs) = prim st p (x :: xs) := rfl
@[simp] theorem eo_none : evalO F st none ρ = .ok none := by (first | rw [evalO_q1] | rw [evalO_q2])
@[simp] theorem eo_some (e : CE) : evalO F st (some e) ρ = bindR (evalE F st e ρ) fun v => .ok (some v) := by
  (first | rw [evalO_q1] | rw [evalO_q2])
  cases evalE F st e ρ <;> rfl
@[simp] theorem es_nil : evalEs F st [] ρ = .ok [] := by (first | rw [evalEs_q1] | rw [evalEs_q2])
@[simp] theorem es_cons (e : CE) (es : List CE) : evalEs F st (e :: es) ρ = bindR (evalE F st e ρ) fun x => bindR (evalEs F st es ρ) fun xs => .ok (x :: xs) := by
  (first | rw [evalEs_q1] | rw [evalEs_q2])
  cases evalE F st e ρ with
  | error e => rfl
  | ok x =>
    simp only [bindR]
    cases evalEs F st es ρ with
    | error e => rfl
    | ok y => rfl
@[simp] theorem ec_none : evalC F st none ρ = .ok true := by (first | rw [evalC_q1] | rw [evalC_q2])
@[simp] theorem ec_some (e : CE) : evalC F st (some e) ρ = evalT F st e ρ := by (first | rw [evalC_q1] | rw [evalC_q2])
@[simp] theorem t_not (a : CE) : evalT F st (.not a) ρ = bindR (evalT F st a ρ) fun b => .ok !b := by
  (first | rw [evalT_q1] | rw [evalT_q2] | rw [evalT_q3] | rw [evalT_q4] | rw [evalT_q5] | rw [evalT_q6] | rw [evalT_q7] | rw [evalT_q8] | rw [evalT_q9] | rw [evalT_q10] | rw [evalT_q11] | rw [evalT_q12] | rw [evalT_q13] | rw [evalT_q14] | rw [evalT_q15] | rw [evalT_q16] | rw [evalT_q17] | rw [evalT_q18] | rw [evalT_q19] | rw [evalT_q20])
  cases evalT F st a ρ <;> rfl
@[simp] theorem t_and (a b : CE) : evalT F st (.and a b) ρ = bindR (evalT F st a ρ) fun t => if t then evalT F st b ρ else .ok false := by
  (first | rw [evalT_q1] | rw [evalT_q2] | rw [evalT_q3] | rw [evalT_q4] | rw [evalT_q5] | rw [evalT_q6] | rw [evalT_q7] | rw [evalT_q8] | rw [evalT_q9] | rw [evalT_q10] | rw [evalT_q11] | rw [evalT_q12] | rw [evalT_q13] | rw [evalT_q14] | rw [evalT_q15] | rw [evalT_q16] | rw [evalT_q17] | rw [evalT_q18] | rw [evalT_q19] | rw [evalT_q20])
  cases evalT F st a ρ with
  | error e => rfl
  | ok x => cases x <;> rfl
@[simp] theorem t_or (a b : CE) : evalT F st (.or a b) ρ = bindR (evalT F st a ρ) fun t => if t then .ok true else evalT F st b ρ := by
  (first | rw [evalT_q1] | rw [evalT_q2] | rw [evalT_q3] | rw [evalT_q4] | rw [evalT_q5] | rw [evalT_q6] | rw [evalT_q7] | rw [evalT_q8] | rw [evalT_q9] | rw [evalT_q10] | rw [evalT_q11] | rw [evalT_q12] | rw [evalT_q13] | rw [evalT_q14] | rw [evalT_q15] | rw [evalT_q16] | rw [evalT_q17] | rw [evalT_q18] | rw [evalT_q19] | rw [evalT_q20])
  cases evalT F st a ρ with
  | error e => rfl
  | ok x => cases x <;> rfl
@[simp] theorem t_cmp (op : COp) (a b : CE) : evalT F st (.cmp op a b) ρ = bindR (evalE F st a ρ) fun x => bindR (evalE F st b ρ) fun y => cmpop st op x y := by
  (first | rw [evalT_q1] | rw [evalT_q2] | rw [evalT_q3] | rw [evalT_q4] | rw [evalT_q5] | rw [evalT_q6] | rw [evalT_q7] | rw [evalT_q8] | rw [evalT_q9] | rw [evalT_q10] | rw [evalT_q11] | rw [evalT_q12] | rw [evalT_q13] | rw [evalT_q14] | rw [evalT_q15] | rw [evalT_q16] | rw [evalT_q17] | rw [evalT_q18] | rw [evalT_q19] | rw [evalT_q20])
  cases evalE F st a ρ with
  | error e => rfl
  | ok x =>
    simp only [bindR]
    cases evalE F st b ρ with
    | error e => rfl
    | ok y => rfl
@[simp] theorem t_ite (t a b : CE) : evalT F st (.ite t a b) ρ = bindR (evalT F st t ρ) fun c => if c then evalT F st a ρ else evalT F st b ρ := by
  (first | rw [evalT_q1] | rw [evalT_q2] | rw [evalT_q3] | rw [evalT_q4] | rw [evalT_q5] | rw [evalT_q6] | rw [evalT_q7] | rw [evalT_q8] | rw [evalT_q9] | rw [evalT_q10] | rw [evalT_q11] | rw [evalT_q12] | rw [evalT_q13] | rw [evalT_q14] | rw [evalT_q15] | rw [evalT_q16] | rw [evalT_q17] | rw [evalT_q18] | rw [evalT_q19] | rw [evalT_q20])
  cases evalT F st t ρ with
  | error e => rfl
  | ok x => cases x <;> rfl
@[simp] theorem t_var (x : Nat) : evalT F st (.var x) ρ = bindR (getV ρ x) fun v => ofO (truth st v) := by
  (first | rw [evalT_q1] | rw [evalT_q2] | rw [evalT_q3] | rw [evalT_q4] | rw [evalT_q5] | rw [evalT_q6] | rw [evalT_q7] | rw [evalT_q8] | rw [evalT_q9] | rw [evalT_q10] | rw [evalT_q11] | rw [evalT_q12] | rw [evalT_q13] | rw [evalT_q14] | rw [evalT_q15] | rw [evalT_q16] | rw [evalT_q17] | rw [evalT_q18] | rw [evalT_q19] | rw [evalT_q20]); unfold getV; split <;> simp_all <;> rfl
@[simp] theorem t_bool (b : Bool) : evalT F st (.bool b) ρ = .ok b := by (first | rw [evalT_q1] | rw [evalT_q2] | rw [evalT_q3] | rw [evalT_q4] | rw [evalT_q5] | rw [evalT_q6] | rw [evalT_q7] | rw [evalT_q8] | rw [evalT_q9] | rw [evalT_q10] | rw [evalT_q11] | rw [evalT_q12] | rw [evalT_q13] | rw [evalT_q14] | rw [evalT_q15] | rw [evalT_q16] | rw [evalT_q17] | rw [evalT_q18] | rw [evalT_q19] | rw [evalT_q20])
@[simp] theorem t_prim (p : Prim) (as : List CE) : evalT F st (.prim p as) ρ = bindR (evalEs F st as ρ) fun xs => bindR (prim st p xs) fun v => ofO (truth st v) := by
  (first | rw [evalT_q1] | rw [evalT_q2] | rw [evalT_q3] | rw [evalT_q4] | rw [evalT_q5] | rw [evalT_q6] | rw [evalT_q7] | rw [evalT_q8] | rw [evalT_q9] | rw [evalT_q10] | rw [evalT_q11] | rw [evalT_q12] | rw [evalT_q13] | rw [evalT_q14] | rw [evalT_q15] | rw [evalT_q16] | rw [evalT_q17] | rw [evalT_q18] | rw [evalT_q19] | rw [evalT_q20])
  cases evalEs F st as ρ with
  | error e => rfl
  | ok x =>
    simp only [bindR]
    cases prim st p x with
    | error e => rfl
    | ok y => rfl
@[simp] theorem ofO_some {α : Type} (a : α) : ofO (some a) = .ok a := rfl

theorem compLoop_congr {f g : V → R (Option V)} (h : ∀ x, f x = g x) (xs : List V) : compLoop f xs = compLoop g xs := by
  have : f = g := funext h
  rw [this]
noncomputable def turnC (k : Option Nat) (elt : CE) (cond : Option CE) (x : V) : R (Option V) := bindR (bindNew k x) fun new => bindR (evalC F st cond (ρ ++ new)) fun c => if c then bindR (evalE F st elt (ρ ++ new)) fun y => .ok (some y) else .ok none
theorem e_comp (elt it : CE) (k : Option Nat) (cond : Option CE) : evalE F st (.comp elt k it cond) ρ = bindR (evalE F st it ρ) fun s => match iterV st s with
    | .none => stuck
    | some xs => match compLoop (turnC F st ρ k elt cond) xs with
      | .error _ => stuck
      | .ok ys => if xs.length ≤ big then .ok (.list ys) else stuck := by
  (first | rw [evalE_q1] | rw [evalE_q2] | rw [evalE_q3] | rw [evalE_q4] | rw [evalE_q5] | rw [evalE_q6] | rw [evalE_q7] | rw [evalE_q8] | rw [evalE_q9] | rw [evalE_q10] | rw [evalE_q11] | rw [evalE_q12] | rw [evalE_q13] | rw [evalE_q14] | rw [evalE_q15] | rw [evalE_q16] | rw [evalE_q17] | rw [evalE_q18] | rw [evalE_q19] | rw [evalE_q20])
  cases evalE F st it ρ with
  | error e => rfl
  | ok s =>
    simp only [bindR]
    cases iterV st s with
    | none => rfl
    | some xs =>
      simp only
      rw [compLoop_congr (g := turnC F st ρ k elt cond) (h := fun x => ?_)]
      rotate_left
      · unfold turnC bindR
        cases bindNew k x with
        | error e => rfl
        | ok new =>
          simp only
          cases evalC F st cond (ρ ++ new) with
          | error e => rfl
          | ok c =>
            cases c with
            | false => rfl
            | true =>
              simp only [if_true]
              cases evalE F st elt (ρ ++ new) <;> rfl
      all_goals (cases compLoop (turnC F st ρ k elt cond) xs <;> rfl)
end
theorem comp_eq {F : Phi} {st : Store} {ρ : Vars} {k : Option Nat} {elt : CE} {cond : Option CE} {α : Type} (xs : List α) (g : α → V) (f : α → Option V) (h : ∀ x ∈ xs, turnC F st ρ k elt cond (g x) = .ok (f x)) :
    compLoop (turnC F st ρ k elt cond) (xs.map g) = .ok (xs.filterMap f) := by
  induction xs with
  | nil => rfl
  | cons x xs ih =>
    rw [List.map_cons, compLoop, h x (List.mem_cons_self ..), ih fun y hy => h y (List.mem_cons_of_mem _ hy)]
    simp only [List.filterMap_cons]
    cases f x <;> rfl

section
variable (F : Phi) (ρ : Vars) (st : Store) (lk : Nat → Bool) (s : St)
@[simp] theorem a_old (e : CE) : evalA F (.old e) ρ st = bindR (evalE F st e ρ) fun v => .ok (v, st) := by
  (first | rw [evalA_q1] | rw [evalA_q2] | rw [evalA_q3] | rw [evalA_q4] | rw [evalA_q5])
  cases evalE F st e ρ <;> rfl
@[simp] theorem a_newl (es : List AE) : evalA F (.newl es) ρ st = bindR (evalAs F es ρ st) fun p => .ok (.loc p.2.length, p.2 ++ [.list p.1]) := by
  (first | rw [evalA_q1] | rw [evalA_q2] | rw [evalA_q3] | rw [evalA_q4] | rw [evalA_q5])
  cases evalAs F es ρ st <;> rfl
@[simp] theorem a_tup (es : List AE) : evalA F (.tup es) ρ st = bindR (evalAs F es ρ st) fun p => .ok (.tup p.1, p.2) := by
  (first | rw [evalA_q1] | rw [evalA_q2] | rw [evalA_q3] | rw [evalA_q4] | rw [evalA_q5])
  cases evalAs F es ρ st <;> rfl
@[simp] theorem a_newd : evalA F .newd ρ st = .ok (.loc st.length, st ++ [.dict []]) := by (first | rw [evalA_q1] | rw [evalA_q2] | rw [evalA_q3] | rw [evalA_q4] | rw [evalA_q5])
@[simp] theorem as_nil : evalAs F [] ρ st = .ok ([], st) := by (first | rw [evalAs_q1] | rw [evalAs_q2])
@[simp] theorem as_cons (e : AE) (es : List AE) : evalAs F (e :: es) ρ st = bindR (evalA F e ρ st) fun p => bindR (evalAs F es ρ p.2) fun q => .ok (p.1 :: q.1, q.2) := by
  (first | rw [evalAs_q1] | rw [evalAs_q2])
  cases evalA F e ρ st with
  | error e => rfl
  | ok x =>
    obtain ⟨v, s1⟩ := x
    simp only [bindR]
    cases evalAs F es ρ s1 <;> rfl
@[simp] theorem x_nil : execs F [] lk s = .next s := by (first | rw [execs_q1] | rw [execs_q2])
@[simp] theorem x_cons (c : CS) (cs : List CS) : execs F (c :: cs) lk s = thenO (exec F c lk s) fun s' => execs F cs lk s' := by
  (first | rw [execs_q1] | rw [execs_q2])
  cases exec F c lk s <;> rfl
@[simp] theorem x_assign (t : Tgt) (e : AE) : exec F (.assign t e) lk s = outR (evalA F e s.vars s.store) s fun p => bindT t p.1 { s with store := p.2 } := by
  (first | rw [exec_q1] | rw [exec_q2] | rw [exec_q3] | rw [exec_q4] | rw [exec_q5] | rw [exec_q6] | rw [exec_q7] | rw [exec_q8] | rw [exec_q9] | rw [exec_q10] | rw [exec_q11] | rw [exec_q12])
  cases evalA F e s.vars s.store <;> rfl
@[simp] theorem x_assign2 (x y : Nat) (e : CE) : exec F (.assign2 x y e) lk s = outR (evalE F s.store e s.vars) s fun v => .next { s with vars := (s.vars.set x (some v)).set y (some v) } := by
  (first | rw [exec_q1] | rw [exec_q2] | rw [exec_q3] | rw [exec_q4] | rw [exec_q5] | rw [exec_q6] | rw [exec_q7] | rw [exec_q8] | rw [exec_q9] | rw [exec_q10] | rw [exec_q11] | rw [exec_q12])
  cases evalE F s.store e s.vars <;> rfl
@[simp] theorem x_ifs (t : CE) (a b : List CS) : exec F (.ifs t a b) lk s = outR (evalT F s.store t s.vars) s fun c => if c then execs F a lk s else execs F b lk s := by
  (first | rw [exec_q1] | rw [exec_q2] | rw [exec_q3] | rw [exec_q4] | rw [exec_q5] | rw [exec_q6] | rw [exec_q7] | rw [exec_q8] | rw [exec_q9] | rw [exec_q10] | rw [exec_q11] | rw [exec_q12])
  cases evalT F s.store t s.vars with
  | error e => rfl
  | ok x => cases x <;> rfl
@[simp] theorem x_ret (e : CE) : exec F (.ret e) lk s = outR (evalE F s.store e s.vars) s fun v => .ret v s := by
  (first | rw [exec_q1] | rw [exec_q2] | rw [exec_q3] | rw [exec_q4] | rw [exec_q5] | rw [exec_q6] | rw [exec_q7] | rw [exec_q8] | rw [exec_q9] | rw [exec_q10] | rw [exec_q11] | rw [exec_q12])
  cases evalE F s.store e s.vars <;> rfl
@[simp] theorem x_cont : exec F .cont lk s = .cont s := by (first | rw [exec_q1] | rw [exec_q2] | rw [exec_q3] | rw [exec_q4] | rw [exec_q5] | rw [exec_q6] | rw [exec_q7] | rw [exec_q8] | rw [exec_q9] | rw [exec_q10] | rw [exec_q11] | rw [exec_q12])
@[simp] theorem x_expr (e : CE) : exec F (.expr e) lk s = outR (evalE F s.store e s.vars) s fun _ => .next s := by
  (first | rw [exec_q1] | rw [exec_q2] | rw [exec_q3] | rw [exec_q4] | rw [exec_q5] | rw [exec_q6] | rw [exec_q7] | rw [exec_q8] | rw [exec_q9] | rw [exec_q10] | rw [exec_q11] | rw [exec_q12])
  cases evalE F s.store e s.vars <;> rfl
@[simp] theorem x_aug (x : Nat) (e : CE) : exec F (.aug x e) lk s = match s.vars[x]? with
    | some (some a) => outR (evalE F s.store e s.vars) s fun b => outR (augV a b) s fun v => .next { s with vars := s.vars.set x (some v) }
    | _ => .stuck := by
  (first | rw [exec_q1] | rw [exec_q2] | rw [exec_q3] | rw [exec_q4] | rw [exec_q5] | rw [exec_q6] | rw [exec_q7] | rw [exec_q8] | rw [exec_q9] | rw [exec_q10] | rw [exec_q11] | rw [exec_q12])
  cases s.vars[x]? with
  | none => rfl
  | some o =>
    cases o with
    | none => rfl
    | some a =>
      cases h : evalE F s.store e s.vars with
      | error e => simp only [h]; rfl
      | ok b =>
        simp only [h, outR]
        cases augV a b <;> rfl
noncomputable def setO (lk : Nat → Bool) (s : St) (v ov iv : V) : Out := match locOf ov with
  | .none => .stuck
  | some j => if lk j then .stuck else match s.store[j]?, iv, v with
    | some (.list xs), .int n, v => match place xs.length n with
      | some p => .next { s with store := s.store.set j (.list (xs.set p v)) }
      | .none => .stuck
    | some (.dict es), .str k, .str v => if es.length ≤ 1000000 then .next { s with store := s.store.set j (.dict (dput es k v)) } else .stuck
    | _, _, _ => .stuck
@[simp] theorem x_set (o i e : CE) : exec F (.setItem o i e) lk s = outR (evalE F s.store e s.vars) s fun v => outR (evalE F s.store o s.vars) s fun ov => outR (evalE F s.store i s.vars) s fun iv => setO lk s v ov iv := by
  (first | rw [exec_q1] | rw [exec_q2] | rw [exec_q3] | rw [exec_q4] | rw [exec_q5] | rw [exec_q6] | rw [exec_q7] | rw [exec_q8] | rw [exec_q9] | rw [exec_q10] | rw [exec_q11] | rw [exec_q12])
  cases evalE F s.store e s.vars with
  | error e => rfl
  | ok v =>
    simp only [outR]
    cases evalE F s.store o s.vars with
    | error e => rfl
    | ok ov =>
      simp only
      cases evalE F s.store i s.vars <;> rfl
noncomputable def appO (F : Phi) (lk : Nat → Bool) (s : St) (e : AE) (ov : V) : Out := match locOf ov with
  | .none => .stuck
  | some j => match s.store[j]? with
    | some (.list xs) => outR (evalA F e s.vars s.store) s fun p => if lk j = false ∧ xs.length ≤ 1000000 then .next { s with store := p.2.set j (.list (xs ++ [p.1])) } else .stuck
    | _ => .stuck
@[simp] theorem x_append (o : CE) (e : AE) : exec F (.append o e) lk s = outR (evalE F s.store o s.vars) s fun ov => appO F lk s e ov := by
  (first | rw [exec_q1] | rw [exec_q2] | rw [exec_q3] | rw [exec_q4] | rw [exec_q5] | rw [exec_q6] | rw [exec_q7] | rw [exec_q8] | rw [exec_q9] | rw [exec_q10] | rw [exec_q11] | rw [exec_q12])
  cases evalE F s.store o s.vars with
  | error e => rfl
  | ok ov =>
    simp only [outR, appO]
    cases locOf ov with
    | none => rfl
    | some j =>
      simp only
      cases s.store[j]? with
      | none => rfl
      | some ob =>
        cases ob with
        | dict es => rfl
        | iter k p => rfl
        | list xs =>
          simp only
          cases evalA F e s.vars s.store <;> rfl
theorem appO_loc {F : Phi} {lk : Nat → Bool} {s : St} {e : AE} {j : Nat} {xs : List V} {v : V} {st : Store} (h1 : lk j = false) (h2 : s.store[j]? = some (.list xs)) (h3 : evalA F e s.vars s.store = .ok (v, st)) (h4 : xs.length ≤ 1000000) :
    appO F lk s e (.loc j) = .next { s with store := st.set j (.list (xs ++ [v])) } := by simp [appO, locOf, h1, h2, h3, h4]
noncomputable def turnL (F : Phi) (t : Tgt) (body : List CS) (lk : Nat → Bool) (x : V) (s : St) : Out := thenO (bindT t x s) fun s' => execs F body lk s'
noncomputable def lockL (lk : Nat → Bool) : V → Nat → Bool
  | .loc j => fun i => i == j || lk i
  | _ => lk
noncomputable def forI (F : Phi) (t : Tgt) (body : List CS) (lk : Nat → Bool) (v : V) (s : St) : Out := match iterAt s.store v with
  | .none => .stuck
  | some j => if lk j then .stuck else forIter (turnL F t body lk) j fuel s
theorem x_for (t : Tgt) (it : CE) (body : List CS) : exec F (.for_ t it body) lk s = outR (evalE F s.store it s.vars) s fun v => match iterV s.store v with
    | .none => forI F t body lk v s
    | some xs => forLoop (turnL F t body (lockL lk v)) xs s := by
  rw [exec_q8]
  have e1 : ∀ lk', (fun x s => match bindT t x s with
      | .next s' => execs F body lk' s'
      | o => o) = turnL F t body lk' := fun lk' => by
    funext x s
    unfold turnL thenO
    cases bindT t x s <;> rfl
  cases evalE F s.store it s.vars with
  | error e => rfl
  | ok v =>
    simp only [outR]
    cases iterV s.store v with
    | none =>
      unfold forI
      exact congrArg (fun f => match iterAt s.store v with
        | none => Out.stuck
        | some j => if lk j = true then Out.stuck else forIter f j fuel s) (e1 lk)
    | some xs =>
      simp only
      exact congrArg (fun f => forLoop f xs s) (e1 _)
@[simp] theorem a_iter (e : CE) : evalA F (.iter e) ρ st = match evalE F st e ρ with
    | .ok (.loc k) => match st[k]? with
      | some (.list _) => .ok (.loc st.length, st ++ [.iter k (some 0)])
      | _ => stuck
    | _ => stuck := evalA_q6 ..
@[simp] theorem bindT_one (x : Nat) (v : V) : bindT (.one x) v s = .next { s with vars := s.vars.set x (some v) } := rfl
end

noncomputable def readOne (t : List Nat) : Except K (List Nat × List Nat) :=
  match splitOne 61 t with
  | [k, v] => match v with
    | [] => .error .index
    | c :: r => .ok (k, if c = 34 ∧ (c :: r).getLast? = some 34 then (c :: r).dropLast.drop 1 else c :: r)
  | _ => .error .value
section
variable (st : Store)
@[simp] theorem cmp_str (a b : List Nat) : cmpop st .eq (.str a) (.str b) = .ok (a == b) := rfl
@[simp] theorem cmp_strn (a b : List Nat) : cmpop st .ne (.str a) (.str b) = .ok (!(a == b)) := rfl
@[simp] theorem cmp_int (a b : Int) : cmpop st .eq (.int a) (.int b) = .ok (a == b) := rfl
@[simp] theorem cmp_intn (a b : Int) : cmpop st .ne (.int a) (.int b) = .ok (!(a == b)) := rfl
@[simp] theorem cmp_lt (a b : Int) : cmpop st .lt (.int a) (.int b) = .ok (decide (a < b)) := rfl
@[simp] theorem cmp_gt (a b : Int) : cmpop st .gt (.int a) (.int b) = .ok (decide (b < a)) := rfl
@[simp] theorem cmp_le (a b : Int) : cmpop st .le (.int a) (.int b) = .ok (decide (a ≤ b)) := rfl
@[simp] theorem cmp_ge (a b : Int) : cmpop st .ge (.int a) (.int b) = .ok (decide (b ≤ a)) := rfl
@[simp] theorem b_add (a b : Int) : binop st .add (.int a) (.int b) = .ok (.int (a + b)) := rfl
@[simp] theorem b_sub (a b : Int) : binop st .sub (.int a) (.int b) = .ok (.int (a - b)) := rfl
theorem b_str {a b : List Nat} (h : a.length + b.length ≤ big) : binop st .add (.str a) (.str b) = .ok (.str (a ++ b)) := if_pos h
theorem b_mod {a b : Int} (h : b ≠ 0) : binop st .mod (.int a) (.int b) = .ok (.int (a.fmod b)) := if_neg h
theorem b_fdiv {a b : Int} (h : 0 < b ∧ b < 1000) : binop st .fdiv (.int a) (.int b) = .ok (.int (a.fdiv b)) := if_pos h
@[simp] theorem i_str0 (c : Nat) (r : List Nat) : index st (.str (c :: r)) (.int 0) = .ok (.str [c]) := by simp [index, place]
@[simp] theorem i_str0n : index st (.str []) (.int 0) = .error (.exc .index) := by simp [index, place]
theorem place_last (n : Nat) : place (n + 1) (-1) = some n := by
  unfold place
  rw [if_neg (by omega), if_pos (by omega)]
  congr 1; omega
@[simp] theorem i_strl (c : Nat) (r : List Nat) : index st (.str (c :: r)) (.int (-1)) = .ok (.str [(c :: r).getLast (by simp)]) := by
  have h : place (c :: r).length (-1) = some r.length := place_last _
  simp only [index, h]
  have : (c :: r)[r.length]? = some ((c :: r).getLast (by simp)) := by
    rw [List.getLast_eq_getElem]
    simp
  rw [this]
@[simp] theorem i_strln : index st (.str []) (.int (-1)) = .error (.exc .index) := by simp [index, place]
end

end Mine

end
section
set_option autoImplicit false
namespace Mine

noncomputable def pureV : Nat → V → Bool
  | _, .none => true
  | _, .bool _ => true
  | _, .int _ => true
  | _, .str _ => true
  | n + 1, .tup xs => xs.all (pureV n)
  | n + 1, .list xs => xs.all (pureV n)
  | _, _ => false
theorem mapO_id {α : Type} {f : α → Option α} {xs : List α} (h : ∀ x ∈ xs, f x = some x) : mapO f xs = some xs := by
  induction xs with
  | nil => rfl
  | cons x xs ih => rw [mapO, h x (List.mem_cons_self ..), ih fun y hy => h y (List.mem_cons_of_mem _ hy)]
theorem reso_pure {st : Store} : ∀ {n m : Nat} {v : V}, n ≤ m → pureV n v = true → reso m st v = some v
  | n, m, .none, _, _ => by unfold reso; rfl
  | n, m, .bool b, _, _ => by unfold reso; rfl
  | n, m, .int i, _, _ => by unfold reso; rfl
  | n, m, .str s, _, _ => by unfold reso; rfl
  | n + 1, m + 1, .tup xs, h, p => by
    rw [pureV, List.all_eq_true] at p
    rw [reso, mapO_id fun x hx => reso_pure (Nat.le_of_succ_le_succ h) (p x hx)]; rfl
  | n + 1, m + 1, .list xs, h, p => by
    rw [pureV, List.all_eq_true] at p
    rw [reso, mapO_id fun x hx => reso_pure (Nat.le_of_succ_le_succ h) (p x hx)]; rfl
  | 0, _, .tup xs, _, p => by simp [pureV] at p
  | 0, _, .list xs, _, p => by simp [pureV] at p
  | _, _, .bytes, _, p => by simp [pureV] at p
  | _, _, .dict _, _, p => by simp [pureV] at p
  | _, _, .view _, _, p => by simp [pureV] at p
  | _, _, .range _ _ _, _, p => by simp [pureV] at p
  | _, _, .loc _, _, p => by simp [pureV] at p
theorem eqv_self : ∀ {n : Nat} {v : V}, pureV n v = true → V.eqv v v = true
  | _, .none, _ => rfl
  | _, .bool b, _ => beq_self_eq_true b
  | _, .int i, _ => beq_self_eq_true i
  | _, .str s, _ => beq_self_eq_true s
  | n + 1, .tup xs, p => by
    rw [pureV, List.all_eq_true] at p
    show V.eqvs _ _ = true
    have : ∀ (xs : List V), (∀ x ∈ xs, V.eqv x x = true) → V.eqvs xs xs = true := by
      intro xs
      induction xs with
      | nil => intro _; rfl
      | cons x xs ih => intro h; show (V.eqv x x && V.eqvs xs xs) = true; rw [h x (List.mem_cons_self ..), ih fun y hy => h y (List.mem_cons_of_mem _ hy)]; rfl
    exact this xs fun x hx => eqv_self (p x hx)
  | n + 1, .list xs, p => by
    rw [pureV, List.all_eq_true] at p
    show V.eqvs _ _ = true
    have : ∀ (xs : List V), (∀ x ∈ xs, V.eqv x x = true) → V.eqvs xs xs = true := by
      intro xs
      induction xs with
      | nil => intro _; rfl
      | cons x xs ih => intro h; show (V.eqv x x && V.eqvs xs xs) = true; rw [h x (List.mem_cons_self ..), ih fun y hy => h y (List.mem_cons_of_mem _ hy)]; rfl
    exact this xs fun x hx => eqv_self (p x hx)
  | 0, .tup xs, p => by simp [pureV] at p
  | 0, .list xs, p => by simp [pureV] at p
  | _, .bytes, p => by simp [pureV] at p
  | _, .dict _, p => by simp [pureV] at p
  | _, .view _, p => by simp [pureV] at p
  | _, .range _ _ _, p => by simp [pureV] at p
  | _, .loc _, p => by simp [pureV] at p

noncomputable def Stands (st : Store) (v : V) (xs : List V) : Prop := v = .list xs ∨ ∃ j, v = .loc j ∧ st[j]? = some (.list xs)
theorem stands_list (st : Store) (xs : List V) : Stands st (.list xs) xs := .inl rfl
theorem stands_loc {st : Store} {j : Nat} {xs : List V} (h : st[j]? = some (.list xs)) : Stands st (.loc j) xs := .inr ⟨j, rfl, h⟩
theorem stands_items {st : Store} {v : V} {xs : List V} (h : Stands st v xs) : items st v = some xs := by
  rcases h with rfl | ⟨j, rfl, h⟩
  · rfl
  · simp [items, h]
theorem stands_reso {st : Store} {v : V} {xs : List V} {n : Nat} (h : Stands st v xs) (hp : xs.all (pureV n) = true) (hn : n ≤ 63) : reso 64 st v = some (.list xs) := by
  rw [List.all_eq_true] at hp
  have : mapO (reso 63 st) xs = some xs := mapO_id fun x hx => reso_pure hn (hp x hx)
  rcases h with rfl | ⟨j, rfl, h⟩
  · rw [reso, this]; rfl
  · rw [reso, h]; simp only [this]; rfl
theorem eqVal_of {st : Store} {a b x y : V} (ha : reso 64 st a = some x) (hb : reso 64 st b = some y) : eqVal st a b = .ok (V.eqv x y) := by
  unfold eqVal
  rw [ha, hb]
theorem cmp_eq_of {st : Store} {a b x y : V} (ha : reso 64 st a = some x) (hb : reso 64 st b = some y) : cmpop st .eq a b = .ok (V.eqv x y) := by
  have h := eqVal_of ha hb
  cases a with
  | bytes => cases ha
  | _ => exact h
theorem cmp_ne_of {st : Store} {a b x y : V} (ha : reso 64 st a = some x) (hb : reso 64 st b = some y) : cmpop st .ne a b = .ok (!V.eqv x y) := by
  have h := eqVal_of ha hb
  have h2 : (match eqVal st a b with | .ok r => .ok (!r) | .error e => .error e) = (.ok (!V.eqv x y) : R Bool) := by rw [h]
  cases a with
  | bytes => cases ha
  | _ => exact h2
theorem cmp_same {st : Store} {a b : V} {xs : List V} {n : Nat} (ha : Stands st a xs) (hb : Stands st b xs) (hp : xs.all (pureV n) = true) (hn : n ≤ 63) : cmpop st .eq a b = .ok true ∧ cmpop st .ne a b = .ok false := by
  have h1 := stands_reso ha hp hn
  have h2 := stands_reso hb hp hn
  have h3 : V.eqv (.list xs) (.list xs) = true := eqv_self (n := n + 1) (by rw [pureV]; exact hp)
  exact ⟨by rw [cmp_eq_of h1 h2, h3], by rw [cmp_ne_of h1 h2, h3]; rfl⟩
theorem comp_known {F : Phi} {st : Store} {ρ : Vars} {k : Option Nat} {elt it : CE} {cond : Option CE} {α : Type} {v : V} (xs : List α) (g : α → V) (f : α → Option V) (h1 : evalE F st it ρ = .ok v) (h2 : iterV st v = some (xs.map g)) (h3 : xs.length ≤ big)
    (h : ∀ x ∈ xs, turnC F st ρ k elt cond (g x) = .ok (f x)) : evalE F st (.comp elt k it cond) ρ = .ok (.list (xs.filterMap f)) := by
  rw [e_comp, h1, bindR_ok, h2]
  simp only
  rw [comp_eq xs g f h]
  simp [h3]
theorem filterMap_some {α β : Type} (xs : List α) (f : α → β) : xs.filterMap (fun x => some (f x)) = xs.map f := by
  induction xs with
  | nil => rfl
  | cons x xs ih => simp [ih]

section
variable (st : Store)
theorem slice_to {a : V} {xs : List V} (h : Stands st a xs) (i : Nat) : sliceV st a none (some (.int i)) .one = .ok (.list (xs.take i)) := by
  have hs : sliceL none (some (i : Int)) xs = xs.take i := by
    unfold sliceL
    have : clamp xs.length (i : Int) = min i xs.length := by unfold clamp; rw [if_pos (by omega)]; simp
    simp only [this, List.drop_zero, Nat.sub_zero]
    rw [Nat.min_comm, ← List.take_take]
    exact List.take_of_length_le (by simp; omega)
  rcases h with rfl | ⟨j, rfl, h⟩
  · simp [sliceV, bound, items, hs]
  · simp [sliceV, bound, items, h, hs]
theorem index_at {a : V} {xs : List V} (h : Stands st a xs) {i : Nat} {x : V} (hx : xs[i]? = some x) : index st a (.int i) = .ok x := by
  have hp : place xs.length (i : Int) = some i := by
    have := (List.getElem?_eq_some_iff.mp hx).1
    unfold place; rw [if_pos (by omega), if_pos (by omega)]; simp
  rcases h with rfl | ⟨j, rfl, h⟩
  · simp [index, items, hp, hx]
  · simp [index, items, h, hp, hx]
@[simp] theorem index_tup (xs : List V) (i : Nat) (x : V) (h : xs[i]? = some x) : index st (.tup xs) (.int i) = .ok x := by
  have hp : place xs.length (i : Int) = some i := by
    have := (List.getElem?_eq_some_iff.mp h).1
    unfold place; rw [if_pos (by omega), if_pos (by omega)]; simp
  simp [index, hp, h]
@[simp] theorem index_tup0 (x : V) (xs : List V) : index st (.tup (x :: xs)) (.int 0) = .ok x := index_tup st (x :: xs) 0 x rfl
@[simp] theorem index_tup1 (x y : V) (xs : List V) : index st (.tup (x :: y :: xs)) (.int 1) = .ok y := index_tup st (x :: y :: xs) 1 y rfl
@[simp] theorem bindT_tup (ks : List Nat) (xs : List V) (s : St) (h : xs.length = ks.length) : bindT (.many ks) (.tup xs) s = .next { s with vars := setVars ks xs s.vars } := by
  simp [bindT, unpackV, h]
end

theorem pure_strs (ts : List (List Nat)) : (ts.map V.str).all (pureV 0) = true := by simp [pureV]
end Mine

end
section
set_option autoImplicit false
namespace Mine
noncomputable abbrev Tx := List Nat

end Mine

end
section
set_option autoImplicit false
namespace Mine

theorem fmod_range (n m : Int) (hm : 0 < m) : 0 ≤ n.fmod m ∧ n.fmod m < m := ⟨Int.fmod_nonneg_of_pos n hm, Int.fmod_lt_of_pos n hm⟩

theorem idx_list (xs : List V) (i : Int) (h0 : 0 ≤ i) (h1 : i < xs.length) : ∃ x ∈ xs, ∀ st, index st (.list xs) (.int i) = .ok x := by
  have hi : i.toNat < xs.length := by omega
  refine ⟨xs[i.toNat], List.getElem_mem _, fun st => ?_⟩
  have := index_at st (stands_list st xs) (i := i.toNat) (x := xs[i.toNat]) (List.getElem?_eq_getElem hi)
  rw [Int.toNat_of_nonneg h0] at this
  exact this
theorem pick_list (xs : List V) (n m : Int) (hm : (xs.length : Int) = m) (h : 0 < m) : ∃ x ∈ xs, ∀ st, index st (.list xs) (.int (n.fmod m)) = .ok x :=
  idx_list xs _ (fmod_range n m h).1 (by rw [hm]; exact (fmod_range n m h).2)
theorem slice_head (st : Store) (ns : List Int) (k : Nat) : sliceV st (.list (ns.map .int)) none (some (.int k)) .one = .ok (.list ((ns.take k).map .int)) := by
  rw [slice_to st (stands_list _ _), List.map_take]

theorem set_end {α : Type} (xs : List α) (x y : α) : (xs ++ [x]).set xs.length y = xs ++ [y] := by simp
noncomputable def locL {α : Type} (st : Store) (j : Nat) (f : List V → R α) : R α := match st[j]? with
  | some (.list xs) => f xs
  | _ => stuck
@[simp] theorem locL_zero {α : Type} (xs : List V) (st : Store) (f : List V → R α) : locL (.list xs :: st) 0 f = f xs := rfl
@[simp] theorem locL_succ {α : Type} (o : Obj) (st : Store) (j : Nat) (f : List V → R α) : locL (o :: st) (j + 1) f = locL st j f := rfl
@[simp] theorem locL_last {α : Type} (st : Store) (xs : List V) (f : List V → R α) : locL (st ++ [.list xs]) st.length f = f xs := by simp [locL]
noncomputable def idxL (xs : List V) (i : Int) : R V := match place xs.length i with
  | some k => ofO xs[k]?
  | none => stuck
@[simp] theorem index_loc (st : Store) (j : Nat) (i : Int) : index st (.loc j) (.int i) = locL st j fun xs => idxL xs i := by
  simp only [index, items, locL, idxL]
  cases st[j]? with
  | none => rfl
  | some o => cases o <;> rfl
@[simp] theorem idxL_last (xs : List V) (x : V) : idxL (xs ++ [x]) (-1) = .ok x := by
  unfold idxL
  rw [List.length_append, List.length_singleton, place_last]
  simp
theorem idxL_at {xs : List V} {i : Nat} {x : V} (h : xs[i]? = some x) : idxL xs (i : Int) = .ok x := by
  have := index_at [] (stands_list [] xs) h
  exact this
@[simp] theorem idxL_zero (x : V) (xs : List V) : idxL (x :: xs) 0 = .ok x := idxL_at (i := 0) rfl
@[simp] theorem idxL_one (x y : V) (xs : List V) : idxL (x :: y :: xs) 1 = .ok y := idxL_at (i := 1) rfl
noncomputable def setL (s : St) (j : Nat) (n : Int) (v : V) : Out := match s.store[j]? with
  | some (.list xs) => match place xs.length n with
    | some p => .next { s with store := s.store.set j (.list (xs.set p v)) }
    | none => .stuck
  | _ => .stuck
theorem setO_loc {lk : Nat → Bool} {s : St} {v : V} {j : Nat} {n : Int} (h : lk j = false) : setO lk s v (.loc j) (.int n) = setL s j n v := by
  simp only [setO, locOf, h, setL]
  cases hs : s.store[j]? with
  | none => rfl
  | some o => cases o <;> rfl
@[simp] theorem setL_0 (ρ : Vars) (xs : List V) (x v : V) (st : Store) : setL ⟨ρ, .list (xs ++ [x]) :: st⟩ 0 (-1) v = .next ⟨ρ, .list (xs ++ [v]) :: st⟩ := by
  simp only [setL, List.getElem?_cons_zero, List.length_append, List.length_singleton, place_last, set_end, List.set_cons_zero]
@[simp] theorem setL_0s (ρ : Vars) (x v : V) (st : Store) : setL ⟨ρ, .list [x] :: st⟩ 0 (-1) v = .next ⟨ρ, .list [v] :: st⟩ := setL_0 ρ [] x v st
@[simp] theorem setL_1 (ρ : Vars) (xs : List V) (x v : V) (o : Obj) (st : Store) : setL ⟨ρ, o :: .list (xs ++ [x]) :: st⟩ 1 (-1) v = .next ⟨ρ, o :: .list (xs ++ [v]) :: st⟩ := by
  simp only [setL, List.getElem?_cons_zero, List.getElem?_cons_succ, List.length_append, List.length_singleton, place_last, set_end, List.set_cons_zero, List.set_cons_succ]
@[simp] theorem setL_1s (ρ : Vars) (x v : V) (o : Obj) (st : Store) : setL ⟨ρ, o :: .list [x] :: st⟩ 1 (-1) v = .next ⟨ρ, o :: .list [v] :: st⟩ := setL_1 ρ [] x v o st
@[simp] theorem idxL_lasts (x : V) : idxL [x] (-1) = .ok x := idxL_last [] x
theorem setL_last {s : St} {j : Nat} {v x : V} {xs : List V} (h : s.store[j]? = some (.list (xs ++ [x]))) : setL s j (-1) v = .next { s with store := s.store.set j (.list (xs ++ [v])) } := by
  simp only [setL, h, List.length_append, List.length_singleton, place_last, set_end]
noncomputable def allP (xs : List V) : Bool := xs.all (pureV 60)
@[simp] theorem allP_nil : allP [] = true := rfl
@[simp] theorem allP_cons (x : V) (xs : List V) : allP (x :: xs) = (pureV 60 x && allP xs) := by simp [allP]
@[simp] theorem allP_app (xs ys : List V) : allP (xs ++ ys) = (allP xs && allP ys) := by simp [allP]
theorem allP_map {α : Type} (g : α → V) (xs : List α) (h : ∀ x, pureV 60 (g x) = true) : allP (xs.map g) = true := by simp [allP, h]
@[simp] theorem allP_str (xs : List Tx) : allP (xs.map V.str) = true := allP_map _ _ fun x => by simp [pureV]
theorem cat {a b : Tx} (h : a.length + b.length ≤ 16777216) (st : Store) : binop st .add (.str a) (.str b) = .ok (.str (a ++ b)) := b_str st h
end Mine

end
section
set_option autoImplicit false
namespace Mine

noncomputable def Xt : Vars → Vars → Prop
  | [], [] => True
  | none :: p, _ :: r => Xt p r
  | some v :: p, o :: r => o = some v ∧ Xt p r
  | _, _ => False
theorem Xt.refl : ∀ p, Xt p p
  | [] => trivial
  | none :: p => Xt.refl p
  | some v :: p => ⟨rfl, Xt.refl p⟩
theorem Xt.get : ∀ {p r : Vars} {x : Nat} {v : V}, Xt p r → p[x]? = some (some v) → r[x]? = some (some v)
  | [], _, _, _, _, h => by simp at h
  | none :: p, o :: r, 0, v, e, h => by simp at h
  | none :: p, o :: r, x + 1, v, e, h => by
    rw [List.getElem?_cons_succ] at *; exact Xt.get (p := p) e h
  | some u :: p, o :: r, 0, v, e, h => by
    rw [List.getElem?_cons_zero] at *; rw [e.1]; exact h
  | some u :: p, o :: r, x + 1, v, e, h => by
    rw [List.getElem?_cons_succ] at *; exact Xt.get (p := p) e.2 h
theorem Xt.set : ∀ {p r : Vars} (x : Nat) (o : Option V), Xt p r → Xt (p.set x o) (r.set x o)
  | [], [], _, _, _ => trivial
  | none :: p, q :: r, 0, none, e => e
  | none :: p, q :: r, 0, some v, e => ⟨rfl, e⟩
  | none :: p, q :: r, x + 1, o, e => Xt.set (p := p) x o e
  | some u :: p, q :: r, 0, none, e => e.2
  | some u :: p, q :: r, 0, some v, e => ⟨rfl, e.2⟩
  | some u :: p, q :: r, x + 1, o, e => ⟨e.1, Xt.set (p := p) x o e.2⟩
theorem Xt.app : ∀ {p r : Vars} (n : Vars), Xt p r → Xt (p ++ n) (r ++ n)
  | [], [], n, _ => Xt.refl n
  | none :: p, q :: r, n, e => Xt.app (p := p) n e
  | some u :: p, q :: r, n, e => ⟨e.1, Xt.app (p := p) n e.2⟩
theorem Xt.setVars : ∀ {p r : Vars} (xs : List Nat) (vs : List V), Xt p r → Xt (setVars xs vs p) (setVars xs vs r)
  | _, _, [], _, e => e
  | _, _, _ :: _, [], e => e
  | _, _, x :: xs, v :: vs, e => Xt.setVars xs vs (e.set x (some v))
theorem Xt.trans : ∀ {p q r : Vars}, Xt p q → Xt q r → Xt p r
  | [], [], [], _, _ => trivial
  | none :: p, none :: q, _ :: r, a, b => Xt.trans (p := p) (q := q) a b
  | none :: p, some u :: q, _ :: r, a, b => Xt.trans (p := p) (q := q) a b.2
  | some v :: p, some u :: q, _ :: r, a, b => ⟨by rw [b.1, a.1], Xt.trans (p := p) (q := q) a.2 b.2⟩
  | some v :: p, none :: q, _ :: r, a, b => by cases a.1

noncomputable def Le {α : Type} (a b : R α) : Prop := a = stuck ∨ a = b
theorem Le.bind {α β : Type} {a b : R α} {f g : α → R β} (h : Le a b) (k : ∀ x, Le (f x) (g x)) : Le (bindR a f) (bindR b g) := by
  rcases h with rfl | rfl
  · exact .inl rfl
  · cases a with
    | error e => exact .inr rfl
    | ok x => exact k x
theorem Le.ite {α : Type} {c : Bool} {a b a' b' : R α} (h : Le a b) (k : Le a' b') : Le (if c then a else a') (if c then b else b') := by
  cases c
  · exact k
  · exact h
theorem Le.comp {f g : V → R (Option V)} (h : ∀ x, Le (f x) (g x)) : ∀ xs, Le (compLoop f xs) (compLoop g xs)
  | [] => .inr rfl
  | x :: xs => by
    rw [compLoop, compLoop]
    rcases h x with e | e
    · rw [e]; exact .inl rfl
    · rw [e]
      cases g x with
      | error e => exact .inr rfl
      | ok o =>
        rcases Le.comp h xs with e | e
        · rw [e]; exact .inl rfl
        · rw [e]; exact .inr rfl
theorem Le.get {p r : Vars} (x : Nat) (e : Xt p r) : Le (getV p x) (getV r x) := by
  unfold getV
  split
  · rename_i v h
    rw [e.get h]; exact .inr rfl
  · exact .inl rfl
theorem Le.meth {st : Store} {p : Prim} {x : V} {a b : R (List V)} (h : Le a b) : Le (methR st p x a) (methR st p x b) := by
  rcases h with rfl | rfl
  · exact .inl rfl
  · exact .inr rfl
section
variable {F : Phi} {st : Store}
mutual
theorem monoE : ∀ (e : CE) {p r : Vars}, Xt p r → Le (evalE F st e p) (evalE F st e r)
  | .none, _, _, _ => by rw [e_none, e_none]; exact .inr rfl
  | .bool b, _, _, _ => by rw [e_bool, e_bool]; exact .inr rfl
  | .int b, _, _, _ => by rw [e_int, e_int]; exact .inr rfl
  | .str b, _, _, _ => by rw [e_str, e_str]; exact .inr rfl
  | .bytes, _, _, _ => by rw [e_bytes, e_bytes]; exact .inr rfl
  | .var x, _, _, h => by rw [e_var, e_var]; exact Le.get x h
  | .bin op a b, _, _, h => by rw [e_bin, e_bin]; exact (monoE a h).bind fun x => (monoE b h).bind fun y => .inr rfl
  | .not a, _, _, h => by rw [e_not, e_not]; exact (monoE a h).bind fun x => .inr rfl
  | .and a b, _, _, h => by rw [e_and, e_and]; exact (monoE a h).bind fun x => Le.bind (.inr rfl) fun t => Le.ite (monoE b h) (.inr rfl)
  | .or a b, _, _, h => by rw [e_or, e_or]; exact (monoE a h).bind fun x => Le.bind (.inr rfl) fun t => Le.ite (.inr rfl) (monoE b h)
  | .cmp op a b, _, _, h => by rw [e_cmp, e_cmp]; exact (monoE a h).bind fun x => (monoE b h).bind fun y => .inr rfl
  | .ite t a b, _, _, h => by rw [e_ite, e_ite]; exact (monoT t h).bind fun c => Le.ite (monoE a h) (monoE b h)
  | .tup es, _, _, h => by rw [e_tup, e_tup]; exact (monoEs es h).bind fun _ => .inr rfl
  | .list es, _, _, h => by rw [e_list, e_list]; exact (monoEs es h).bind fun _ => .inr rfl
  | .idx a i, _, _, h => by rw [e_idx, e_idx]; exact (monoE a h).bind fun x => (monoE i h).bind fun y => .inr rfl
  | .slice a lo hi sp, _, _, h => by rw [e_slice, e_slice]; exact (monoE a h).bind fun x => (monoO lo h).bind fun y => (monoO hi h).bind fun z => .inr rfl
  | .comp elt k it cond, p, r, h => by
    rw [e_comp, e_comp]
    refine (monoE it h).bind fun s => ?_
    cases iterV st s with
    | none => exact .inl rfl
    | some xs =>
      have : Le (compLoop (turnC F st p k elt cond) xs) (compLoop (turnC F st r k elt cond) xs) := Le.comp (fun x => by
        unfold turnC
        refine Le.bind (.inr rfl) fun new => ?_
        refine (monoC cond (h.app new)).bind fun c => Le.ite ?_ (.inr rfl)
        exact (monoE elt (h.app new)).bind fun _ => .inr rfl) xs
      rcases this with e | e
      · simp only [e]; exact .inl rfl
      · simp only [e]; exact .inr rfl
  | .call f as, _, _, h => by rw [e_call, e_call]; exact (monoEs as h).bind fun _ => .inr rfl
  | .prim p as, _, _, h => by rw [e_prim, e_prim]; exact (monoEs as h).bind fun _ => .inr rfl
  | .meth p o as, _, _, h => by rw [e_meth, e_meth]; exact (monoE o h).bind fun _ => Le.meth (monoEs as h)
theorem monoT : ∀ (e : CE) {p r : Vars}, Xt p r → Le (evalT F st e p) (evalT F st e r)
  | .not a, _, _, h => by rw [t_not, t_not]; exact (monoT a h).bind fun x => .inr rfl
  | .and a b, _, _, h => by rw [t_and, t_and]; exact (monoT a h).bind fun t => Le.ite (monoT b h) (.inr rfl)
  | .or a b, _, _, h => by rw [t_or, t_or]; exact (monoT a h).bind fun t => Le.ite (.inr rfl) (monoT b h)
  | .cmp op a b, _, _, h => by rw [t_cmp, t_cmp]; exact (monoE a h).bind fun x => (monoE b h).bind fun y => .inr rfl
  | .ite t a b, _, _, h => by rw [t_ite, t_ite]; exact (monoT t h).bind fun c => Le.ite (monoT a h) (monoT b h)
  | .var x, _, _, h => by rw [t_var, t_var]; exact (Le.get x h).bind fun _ => .inr rfl
  | .bool b, _, _, _ => by rw [t_bool, t_bool]; exact .inr rfl
  | .prim p as, _, _, h => by rw [t_prim, t_prim]; exact (monoEs as h).bind fun _ => .inr rfl
  | .none, _, _, _ => by (first | rw [evalT_q1] | rw [evalT_q2] | rw [evalT_q3] | rw [evalT_q4] | rw [evalT_q5] | rw [evalT_q6] | rw [evalT_q7] | rw [evalT_q8] | rw [evalT_q9] | rw [evalT_q10] | rw [evalT_q11] | rw [evalT_q12] | rw [evalT_q13] | rw [evalT_q14] | rw [evalT_q15] | rw [evalT_q16] | rw [evalT_q17] | rw [evalT_q18] | rw [evalT_q19] | rw [evalT_q20]); exact .inr rfl
  | .int _, _, _, _ => by (first | rw [evalT_q1] | rw [evalT_q2] | rw [evalT_q3] | rw [evalT_q4] | rw [evalT_q5] | rw [evalT_q6] | rw [evalT_q7] | rw [evalT_q8] | rw [evalT_q9] | rw [evalT_q10] | rw [evalT_q11] | rw [evalT_q12] | rw [evalT_q13] | rw [evalT_q14] | rw [evalT_q15] | rw [evalT_q16] | rw [evalT_q17] | rw [evalT_q18] | rw [evalT_q19] | rw [evalT_q20]); exact .inr rfl
  | .str _, _, _, _ => by (first | rw [evalT_q1] | rw [evalT_q2] | rw [evalT_q3] | rw [evalT_q4] | rw [evalT_q5] | rw [evalT_q6] | rw [evalT_q7] | rw [evalT_q8] | rw [evalT_q9] | rw [evalT_q10] | rw [evalT_q11] | rw [evalT_q12] | rw [evalT_q13] | rw [evalT_q14] | rw [evalT_q15] | rw [evalT_q16] | rw [evalT_q17] | rw [evalT_q18] | rw [evalT_q19] | rw [evalT_q20]); exact .inr rfl
  | .bytes, _, _, _ => by (first | rw [evalT_q1] | rw [evalT_q2] | rw [evalT_q3] | rw [evalT_q4] | rw [evalT_q5] | rw [evalT_q6] | rw [evalT_q7] | rw [evalT_q8] | rw [evalT_q9] | rw [evalT_q10] | rw [evalT_q11] | rw [evalT_q12] | rw [evalT_q13] | rw [evalT_q14] | rw [evalT_q15] | rw [evalT_q16] | rw [evalT_q17] | rw [evalT_q18] | rw [evalT_q19] | rw [evalT_q20]); exact .inr rfl
  | .bin _ _ _, _, _, _ => by (first | rw [evalT_q1] | rw [evalT_q2] | rw [evalT_q3] | rw [evalT_q4] | rw [evalT_q5] | rw [evalT_q6] | rw [evalT_q7] | rw [evalT_q8] | rw [evalT_q9] | rw [evalT_q10] | rw [evalT_q11] | rw [evalT_q12] | rw [evalT_q13] | rw [evalT_q14] | rw [evalT_q15] | rw [evalT_q16] | rw [evalT_q17] | rw [evalT_q18] | rw [evalT_q19] | rw [evalT_q20]); exact .inr rfl
  | .tup _, _, _, _ => by (first | rw [evalT_q1] | rw [evalT_q2] | rw [evalT_q3] | rw [evalT_q4] | rw [evalT_q5] | rw [evalT_q6] | rw [evalT_q7] | rw [evalT_q8] | rw [evalT_q9] | rw [evalT_q10] | rw [evalT_q11] | rw [evalT_q12] | rw [evalT_q13] | rw [evalT_q14] | rw [evalT_q15] | rw [evalT_q16] | rw [evalT_q17] | rw [evalT_q18] | rw [evalT_q19] | rw [evalT_q20]); exact .inr rfl
  | .list _, _, _, _ => by (first | rw [evalT_q1] | rw [evalT_q2] | rw [evalT_q3] | rw [evalT_q4] | rw [evalT_q5] | rw [evalT_q6] | rw [evalT_q7] | rw [evalT_q8] | rw [evalT_q9] | rw [evalT_q10] | rw [evalT_q11] | rw [evalT_q12] | rw [evalT_q13] | rw [evalT_q14] | rw [evalT_q15] | rw [evalT_q16] | rw [evalT_q17] | rw [evalT_q18] | rw [evalT_q19] | rw [evalT_q20]); exact .inr rfl
  | .idx _ _, _, _, _ => by (first | rw [evalT_q1] | rw [evalT_q2] | rw [evalT_q3] | rw [evalT_q4] | rw [evalT_q5] | rw [evalT_q6] | rw [evalT_q7] | rw [evalT_q8] | rw [evalT_q9] | rw [evalT_q10] | rw [evalT_q11] | rw [evalT_q12] | rw [evalT_q13] | rw [evalT_q14] | rw [evalT_q15] | rw [evalT_q16] | rw [evalT_q17] | rw [evalT_q18] | rw [evalT_q19] | rw [evalT_q20]); exact .inr rfl
  | .slice _ _ _ _, _, _, _ => by (first | rw [evalT_q1] | rw [evalT_q2] | rw [evalT_q3] | rw [evalT_q4] | rw [evalT_q5] | rw [evalT_q6] | rw [evalT_q7] | rw [evalT_q8] | rw [evalT_q9] | rw [evalT_q10] | rw [evalT_q11] | rw [evalT_q12] | rw [evalT_q13] | rw [evalT_q14] | rw [evalT_q15] | rw [evalT_q16] | rw [evalT_q17] | rw [evalT_q18] | rw [evalT_q19] | rw [evalT_q20]); exact .inr rfl
  | .comp _ _ _ _, _, _, _ => by (first | rw [evalT_q1] | rw [evalT_q2] | rw [evalT_q3] | rw [evalT_q4] | rw [evalT_q5] | rw [evalT_q6] | rw [evalT_q7] | rw [evalT_q8] | rw [evalT_q9] | rw [evalT_q10] | rw [evalT_q11] | rw [evalT_q12] | rw [evalT_q13] | rw [evalT_q14] | rw [evalT_q15] | rw [evalT_q16] | rw [evalT_q17] | rw [evalT_q18] | rw [evalT_q19] | rw [evalT_q20]); exact .inr rfl
  | .call _ _, _, _, _ => by (first | rw [evalT_q1] | rw [evalT_q2] | rw [evalT_q3] | rw [evalT_q4] | rw [evalT_q5] | rw [evalT_q6] | rw [evalT_q7] | rw [evalT_q8] | rw [evalT_q9] | rw [evalT_q10] | rw [evalT_q11] | rw [evalT_q12] | rw [evalT_q13] | rw [evalT_q14] | rw [evalT_q15] | rw [evalT_q16] | rw [evalT_q17] | rw [evalT_q18] | rw [evalT_q19] | rw [evalT_q20]); exact .inr rfl
  | .meth _ _ _, _, _, _ => by (first | rw [evalT_q1] | rw [evalT_q2] | rw [evalT_q3] | rw [evalT_q4] | rw [evalT_q5] | rw [evalT_q6] | rw [evalT_q7] | rw [evalT_q8] | rw [evalT_q9] | rw [evalT_q10] | rw [evalT_q11] | rw [evalT_q12] | rw [evalT_q13] | rw [evalT_q14] | rw [evalT_q15] | rw [evalT_q16] | rw [evalT_q17] | rw [evalT_q18] | rw [evalT_q19] | rw [evalT_q20]); exact .inr rfl
theorem monoC : ∀ (e : Option CE) {p r : Vars}, Xt p r → Le (evalC F st e p) (evalC F st e r)
  | none, _, _, _ => by rw [ec_none, ec_none]; exact .inr rfl
  | some e, _, _, h => by rw [ec_some, ec_some]; exact monoT e h
theorem monoO : ∀ (e : Option CE) {p r : Vars}, Xt p r → Le (evalO F st e p) (evalO F st e r)
  | none, _, _, _ => by rw [eo_none, eo_none]; exact .inr rfl
  | some e, _, _, h => by rw [eo_some, eo_some]; exact (monoE e h).bind fun _ => .inr rfl
theorem monoEs : ∀ (es : List CE) {p r : Vars}, Xt p r → Le (evalEs F st es p) (evalEs F st es r)
  | [], _, _, _ => by rw [es_nil, es_nil]; exact .inr rfl
  | e :: es, _, _, h => by rw [es_cons, es_cons]; exact (monoE e h).bind fun x => (monoEs es h).bind fun _ => .inr rfl
end
end
theorem a_cat (F : Phi) (ρ : Vars) (st : Store) (a b : CE) : evalA F (.cat a b) ρ st = bindR (evalE F st a ρ) fun x => bindR (evalE F st b ρ) fun y => match binop st .add x y with
        | .ok (.list vs) => .ok (.loc st.length, st ++ [.list vs])
        | _ => stuck := by
  (first | rw [evalA_q1] | rw [evalA_q2] | rw [evalA_q3] | rw [evalA_q4] | rw [evalA_q5])
  cases evalE F st a ρ with
  | error e => rfl
  | ok x =>
    simp only [bindR]
    cases evalE F st b ρ with
    | error e => rfl
    | ok y =>
      simp only
      all_goals
        cases binop st .add x y with
        | error e => rfl
        | ok v => cases v <;> rfl
mutual
theorem monoA {F : Phi} : ∀ (e : AE) {p r : Vars} {st : Store}, Xt p r → Le (evalA F e p st) (evalA F e r st)
  | .old e, _, _, _, h => by rw [a_old, a_old]; exact (monoE e h).bind fun _ => .inr rfl
  | .newl es, _, _, _, h => by rw [a_newl, a_newl]; exact (monoAs es h).bind fun _ => .inr rfl
  | .tup es, _, _, _, h => by rw [a_tup, a_tup]; exact (monoAs es h).bind fun _ => .inr rfl
  | .cat a b, _, _, _, h => by rw [a_cat, a_cat]; exact (monoE a h).bind fun x => (monoE b h).bind fun y => .inr rfl
  | .newd, _, _, _, _ => by rw [a_newd, a_newd]; exact .inr rfl
  | .iter e, p, r, st, h => by
    rw [a_iter, a_iter]
    rcases monoE (F := F) (st := st) e h with q | q
    · rw [q]; exact .inl rfl
    · rw [q]; exact .inr rfl
theorem monoAs {F : Phi} : ∀ (es : List AE) {p r : Vars} {st : Store}, Xt p r → Le (evalAs F es p st) (evalAs F es r st)
  | [], _, _, _, _ => by rw [as_nil, as_nil]; exact .inr rfl
  | e :: es, _, _, _, h => by rw [as_cons, as_cons]; exact (monoA e h).bind fun x => (monoAs es h).bind fun _ => .inr rfl
end

noncomputable def ExtS (p s : St) : Prop := Xt p.vars s.vars ∧ p.store = s.store
theorem ExtS.refl (p : St) : ExtS p p := ⟨Xt.refl _, rfl⟩
theorem ExtS.trans {p q r : St} (a : ExtS p q) (b : ExtS q r) : ExtS p r := ⟨a.1.trans b.1, a.2.trans b.2⟩
noncomputable def LeO : Out → Out → Prop
  | .stuck, _ => True
  | .next a, o => ∃ b, o = .next b ∧ ExtS a b
  | .cont a, o => ∃ b, o = .cont b ∧ ExtS a b
  | .ret v a, o => ∃ b, o = .ret v b ∧ ExtS a b
  | .exc k a, o => ∃ b, o = .exc k b ∧ ExtS a b
theorem LeO.outR {α : Type} {a b : R α} {p s : St} {f g : α → Out} (h : Le a b) (e : ExtS p s) (k : ∀ x, LeO (f x) (g x)) : LeO (outR a p f) (outR b s g) := by
  rcases h with rfl | rfl
  · exact trivial
  · cases a with
    | ok x => exact k x
    | error er =>
      cases er with
      | stuck => exact trivial
      | exc k => exact ⟨_, rfl, e⟩
theorem LeO.thenO {a b : Out} {f g : St → Out} (h : LeO a b) (k : ∀ p s, ExtS p s → LeO (f p) (g s)) : LeO (thenO a f) (thenO b g) := by
  cases a with
  | stuck => exact trivial
  | next a => obtain ⟨b, rfl, e⟩ := h; exact k _ _ e
  | cont a => obtain ⟨b, rfl, e⟩ := h; exact ⟨_, rfl, e⟩
  | ret v a => obtain ⟨b, rfl, e⟩ := h; exact ⟨_, rfl, e⟩
  | exc k a => obtain ⟨b, rfl, e⟩ := h; exact ⟨_, rfl, e⟩
theorem LeO.bindT {t : Tgt} {v : V} {p s : St} (e : ExtS p s) : LeO (bindT t v p) (bindT t v s) := by
  cases t with
  | one x => exact ⟨_, rfl, e.1.set _ _, e.2⟩
  | many xs =>
    unfold Mine.bindT
    simp only [e.2]
    cases unpackV s.store xs.length v with
    | ok vs => exact ⟨_, rfl, e.1.setVars _ _, rfl⟩
    | error er =>
      cases er with
      | stuck => exact trivial
      | exc k => exact ⟨_, rfl, e⟩
theorem LeO.for_ {f g : V → St → Out} (h : ∀ x p s, ExtS p s → LeO (f x p) (g x s)) : ∀ xs p s, ExtS p s → LeO (forLoop f xs p) (forLoop g xs s)
  | [], p, s, e => ⟨_, rfl, e⟩
  | x :: xs, p, s, e => by
    rw [forLoop, forLoop]
    have := h x p s e
    cases hf : f x p with
    | stuck => exact trivial
    | next a => rw [hf] at this; obtain ⟨b, hb, e⟩ := this; rw [hb]; exact LeO.for_ h xs a b e
    | cont a => rw [hf] at this; obtain ⟨b, hb, e⟩ := this; rw [hb]; exact LeO.for_ h xs a b e
    | ret v a => rw [hf] at this; obtain ⟨b, hb, e⟩ := this; rw [hb]; exact ⟨_, rfl, e⟩
    | exc k a => rw [hf] at this; obtain ⟨b, hb, e⟩ := this; rw [hb]; exact ⟨_, rfl, e⟩
theorem LeO.iter_ {f g : V → St → Out} (h : ∀ x p s, ExtS p s → LeO (f x p) (g x s)) (j : Nat) : ∀ n p s, ExtS p s → LeO (forIter f j n p) (forIter g j n s)
  | 0, p, s, e => trivial
  | n + 1, p, s, e => by
    rw [forIter, forIter, e.2]
    cases nextIt s.store j with
    | none => exact trivial
    | some q =>
      obtain ⟨o, st⟩ := q
      cases o with
      | none => exact ⟨_, rfl, e.1, rfl⟩
      | some x =>
        have := h x { p with store := st } { s with store := st } ⟨e.1, rfl⟩
        simp only
        cases hf : f x { p with store := st } with
        | stuck => exact trivial
        | next a => rw [hf] at this; obtain ⟨b, hb, e⟩ := this; rw [hb]; exact LeO.iter_ h j n a b e
        | cont a => rw [hf] at this; obtain ⟨b, hb, e⟩ := this; rw [hb]; exact LeO.iter_ h j n a b e
        | ret v a => rw [hf] at this; obtain ⟨b, hb, e⟩ := this; rw [hb]; exact ⟨_, rfl, e⟩
        | exc k a => rw [hf] at this; obtain ⟨b, hb, e⟩ := this; rw [hb]; exact ⟨_, rfl, e⟩
theorem LeO.while_ {t u : St → R Bool} {f g : St → Out} (ht : ∀ p s, ExtS p s → Le (t p) (u s)) (h : ∀ p s, ExtS p s → LeO (f p) (g s)) : ∀ n p s, ExtS p s → LeO (whileLoop t f n p) (whileLoop u g n s)
  | 0, p, s, e => trivial
  | n + 1, p, s, e => by
    rw [whileLoop, whileLoop]
    rcases ht p s e with h1 | h1
    · rw [h1]; exact trivial
    · rw [h1]
      cases u s with
      | error _ => exact trivial
      | ok c =>
        cases c with
        | false => exact ⟨_, rfl, e⟩
        | true =>
          have := h p s e
          simp only
          cases hf : f p with
          | stuck => exact trivial
          | next a => rw [hf] at this; obtain ⟨b, hb, e⟩ := this; rw [hb]; exact LeO.while_ ht h n a b e
          | cont a => rw [hf] at this; obtain ⟨b, hb, e⟩ := this; rw [hb]; exact LeO.while_ ht h n a b e
          | ret v a => rw [hf] at this; obtain ⟨b, hb, e⟩ := this; rw [hb]; exact ⟨_, rfl, e⟩
          | exc k a => exact trivial
theorem LeO.setO {lk : Nat → Bool} {p s : St} {v ov iv : V} (e : ExtS p s) : LeO (setO lk p v ov iv) (setO lk s v ov iv) := by
  obtain ⟨ρ, st⟩ := p
  obtain ⟨ρ', st'⟩ := s
  obtain ⟨e, rfl⟩ := e
  simp only at e
  unfold Mine.setO
  cases locOf ov with
  | none => exact trivial
  | some j =>
    simp only
    split
    · exact trivial
    · split
      · split
        · exact ⟨_, rfl, e, rfl⟩
        · exact trivial
      · split
        · exact ⟨_, rfl, e, rfl⟩
        · exact trivial
      · exact trivial
theorem LeO.appO {F : Phi} {lk : Nat → Bool} {p s : St} {ae : AE} {ov : V} (e : ExtS p s) : LeO (appO F lk p ae ov) (appO F lk s ae ov) := by
  obtain ⟨ρ, st⟩ := p
  obtain ⟨ρ', st'⟩ := s
  obtain ⟨e, rfl⟩ := e
  simp only at e
  unfold Mine.appO
  cases locOf ov with
  | none => exact trivial
  | some j =>
    simp only
    split
    · refine LeO.outR (monoA ae e) ⟨e, rfl⟩ fun x => ?_
      split
      · exact ⟨_, rfl, e, rfl⟩
      · exact trivial
    · exact trivial
noncomputable def runHs (c : CS) (s : St) : Out := match c with
        | .assign (.one x) (.old (.str v)) => .next { s with vars := s.vars.set x (some (.str v)) }
        | .ret (.str v) => .ret (.str v) s
        | .ret (.tup [.str v, .list []]) => .ret (.tup [.str v, .list []]) s
        | _ => .stuck
noncomputable def tryO (hs : List (K × CS)) (o : Out) : Out := match o with
  | .exc k s' => handle k runHs hs s'
  | o => o
theorem x_try (F : Phi) (body : List CS) (hs : List (K × CS)) (lk : Nat → Bool) (s : St) : exec F (.try_ body hs) lk s = tryO hs (execs F body lk s) := by
  (first | rw [exec_q1] | rw [exec_q2] | rw [exec_q3] | rw [exec_q4] | rw [exec_q5] | rw [exec_q6] | rw [exec_q7] | rw [exec_q8] | rw [exec_q9] | rw [exec_q10] | rw [exec_q11] | rw [exec_q12])
  cases execs F body lk s <;> rfl
theorem LeO.runHs {c : CS} {p s : St} (e : ExtS p s) : LeO (runHs c p) (runHs c s) := by
  unfold Mine.runHs
  split
  · exact ⟨_, rfl, e.1.set _ _, e.2⟩
  · exact ⟨_, rfl, e⟩
  · exact ⟨_, rfl, e⟩
  · exact trivial
theorem LeO.handle {k : K} {p s : St} (e : ExtS p s) : ∀ hs, LeO (handle k Mine.runHs hs p) (handle k Mine.runHs hs s)
  | [] => trivial
  | (k', c) :: hs => by
    rw [Mine.handle, Mine.handle]
    split
    · exact LeO.runHs e
    · exact LeO.handle e hs
mutual
theorem monoX {F : Phi} : ∀ (c : CS) {lk : Nat → Bool} {p s : St}, ExtS p s → LeO (exec F c lk p) (exec F c lk s)
  | .assign t a, lk, p, s, e => by
    rw [x_assign, x_assign, e.2]
    exact LeO.outR (monoA a e.1) e fun x => LeO.bindT ⟨e.1, rfl⟩
  | .assign2 x y a, lk, p, s, e => by
    rw [x_assign2, x_assign2, e.2]
    exact LeO.outR (monoE a e.1) e fun v => ⟨_, rfl, (e.1.set _ _).set _ _, rfl⟩
  | .setItem o i a, lk, p, s, e => by
    rw [x_set, x_set, e.2]
    exact LeO.outR (monoE a e.1) e fun v => LeO.outR (monoE o e.1) e fun ov => LeO.outR (monoE i e.1) e fun iv => LeO.setO e
  | .append o a, lk, p, s, e => by
    rw [x_append, x_append, e.2]
    exact LeO.outR (monoE o e.1) e fun v => LeO.appO e
  | .expr a, lk, p, s, e => by
    rw [x_expr, x_expr, e.2]
    exact LeO.outR (monoE a e.1) e fun v => ⟨_, rfl, e⟩
  | .aug x a, lk, p, s, e => by
    rw [x_aug, x_aug, e.2]
    split
    · rename_i v h
      rw [e.1.get h]
      exact LeO.outR (monoE a e.1) e fun v => LeO.outR (.inr rfl) e fun w => ⟨_, rfl, e.1.set _ _, rfl⟩
    · exact trivial
  | .ifs t a b, lk, p, s, e => by
    rw [x_ifs, x_ifs, e.2]
    refine LeO.outR (monoT t e.1) e fun c => ?_
    cases c
    · exact monoXs b e
    · exact monoXs a e
  | .for_ t it body, lk, p, s, e => by
    rw [x_for, x_for, e.2]
    refine LeO.outR (monoE it e.1) e fun v => ?_
    cases iterV s.store v with
    | none =>
      unfold forI
      rw [e.2]
      cases iterAt s.store v with
      | none => exact trivial
      | some j =>
        simp only
        split
        · exact trivial
        · refine LeO.iter_ (fun x p s e => ?_) j fuel p s e
          exact LeO.thenO (LeO.bindT e) fun p s e => monoXs body e
    | some xs =>
      refine LeO.for_ (fun x p s e => ?_) xs p s e
      exact LeO.thenO (LeO.bindT e) fun p s e => monoXs body e
  | .while_ t body, lk, p, s, e => by
    ((first | rw [exec_q1] | rw [exec_q2] | rw [exec_q3] | rw [exec_q4] | rw [exec_q5] | rw [exec_q6] | rw [exec_q7] | rw [exec_q8] | rw [exec_q9] | rw [exec_q10] | rw [exec_q11] | rw [exec_q12]); (first | rw [exec_q1] | rw [exec_q2] | rw [exec_q3] | rw [exec_q4] | rw [exec_q5] | rw [exec_q6] | rw [exec_q7] | rw [exec_q8] | rw [exec_q9] | rw [exec_q10] | rw [exec_q11] | rw [exec_q12]))
    refine LeO.while_ (fun p s e => ?_) (fun p s e => monoXs body e) fuel p s e
    rw [e.2]; exact monoT t e.1
  | .ret a, lk, p, s, e => by
    rw [x_ret, x_ret, e.2]
    exact LeO.outR (monoE a e.1) e fun v => ⟨_, rfl, e⟩
  | .cont, lk, p, s, e => by rw [x_cont, x_cont]; exact ⟨_, rfl, e⟩
  | .try_ body hs, lk, p, s, e => by
    rw [x_try, x_try]
    have := monoXs (F := F) body (lk := lk) e
    cases hf : execs F body lk p with
    | stuck => exact trivial
    | next a => rw [hf] at this; obtain ⟨b, hb, e⟩ := this; rw [hb]; exact ⟨_, rfl, e⟩
    | cont a => rw [hf] at this; obtain ⟨b, hb, e⟩ := this; rw [hb]; exact ⟨_, rfl, e⟩
    | ret v a => rw [hf] at this; obtain ⟨b, hb, e⟩ := this; rw [hb]; exact ⟨_, rfl, e⟩
    | exc k a => rw [hf] at this; obtain ⟨b, hb, e⟩ := this; rw [hb]; exact LeO.handle e hs
  | .got x f y z, lk, p, s, e => by
    rw [exec_q13, exec_q13, e.2]
    rcases monoE (F := F) (st := s.store) z e.1 with q | q
    · rw [q]; exact trivial
    · rw [q]
      cases evalE F s.store z s.vars with
      | error _ => exact trivial
      | ok v =>
        simp only
        cases iterV s.store v with
        | none => exact trivial
        | some zs =>
          simp only
          split
          · rename_i j h
            rw [e.1.get h]
            simp only
            split
            · exact trivial
            · split
              · exact ⟨_, rfl, e.1.set _ _, rfl⟩
              · exact trivial
          · exact trivial
  | .retI f y, lk, p, s, e => by
    rw [exec_q14, exec_q14, e.2]
    split
    · rename_i j h
      rw [e.1.get h]
      simp only
      split
      · exact trivial
      · split
        · exact ⟨_, rfl, e.1, rfl⟩
        · exact ⟨_, rfl, e.1, rfl⟩
        · exact trivial
    · exact trivial
  | .retIs f y, lk, p, s, e => by
    rw [exec_q15, exec_q15, e.2]
    split
    · rename_i j h
      rw [e.1.get h]
      simp only
      split
      · exact trivial
      · split
        · split
          · exact ⟨_, rfl, e.1, rfl⟩
          · exact trivial
        · exact trivial
    · exact trivial
theorem monoXs {F : Phi} : ∀ (cs : List CS) {lk : Nat → Bool} {p s : St}, ExtS p s → LeO (execs F cs lk p) (execs F cs lk s)
  | [], lk, p, s, e => by rw [x_nil, x_nil]; exact ⟨_, rfl, e⟩
  | c :: cs, lk, p, s, e => by
    rw [x_cons, x_cons]
    exact LeO.thenO (monoX c e) fun p s e => monoXs cs e
end

noncomputable def Nx (o : Out) (p : St) : Prop := ∃ s, o = .next s ∧ ExtS p s
noncomputable def Tn (p : St) : Out → Prop
  | .next s => ExtS p s
  | .cont s => ExtS p s
  | _ => False
noncomputable def Rt (o : Out) (v : V) (st : Store) : Prop := ∃ s, o = .ret v s ∧ s.store = st
theorem Nx.of {o : Out} {p : St} (h : o = .next p) : Nx o p := ⟨p, h, ExtS.refl p⟩
theorem rt_cons {F : Phi} {c : CS} {cs : List CS} {lk : Nat → Bool} {s p : St} {v : V} {st : Store} (h : Nx (exec F c lk s) p) (k : Rt (execs F cs lk p) v st) : Rt (execs F (c :: cs) lk s) v st := by
  obtain ⟨s1, h1, e⟩ := h
  obtain ⟨s2, h2, e2⟩ := k
  have := monoXs (F := F) cs (lk := lk) e
  rw [h2] at this
  obtain ⟨b, hb, eb⟩ := this
  exact ⟨b, by rw [x_cons, h1, thenO_next, hb], by rw [← eb.2, e2]⟩
theorem nx_cons {F : Phi} {c : CS} {cs : List CS} {lk : Nat → Bool} {s p q : St} (h : Nx (exec F c lk s) p) (k : Nx (execs F cs lk p) q) : Nx (execs F (c :: cs) lk s) q := by
  obtain ⟨s1, h1, e⟩ := h
  obtain ⟨s2, h2, e2⟩ := k
  have := monoXs (F := F) cs (lk := lk) e
  rw [h2] at this
  obtain ⟨b, hb, eb⟩ := this
  exact ⟨b, by rw [x_cons, h1, thenO_next, hb], e2.trans eb⟩
theorem nx_loop {S : Type} {turn : V → St → Out} (P : S → St) (I : S → List V → Prop) (mono : ∀ x p s, ExtS p s → LeO (turn x p) (turn x s))
    (h : ∀ s x xs, I s (x :: xs) → ∃ s', I s' xs ∧ Tn (P s') (turn x (P s))) : ∀ (xs : List V) (s : S) (σ : St), I s xs → ExtS (P s) σ → ∃ s', I s' [] ∧ Nx (forLoop turn xs σ) (P s')
  | [], s, σ, i, e => ⟨s, i, σ, rfl, e⟩
  | x :: xs, s, σ, i, e => by
    obtain ⟨s', i', t⟩ := h s x xs i
    have m := mono x _ _ e
    rw [forLoop]
    cases ht : turn x (P s) with
    | next a =>
      rw [ht] at t m
      obtain ⟨b, hb, eb⟩ := m
      rw [hb]
      exact nx_loop P I mono h xs s' b i' (ExtS.trans t eb)
    | cont a =>
      rw [ht] at t m
      obtain ⟨b, hb, eb⟩ := m
      rw [hb]
      exact nx_loop P I mono h xs s' b i' (ExtS.trans t eb)
    | _ => rw [ht] at t; exact t.elim
theorem nx_for {S : Type} {F : Phi} {t : Tgt} {it : CE} {body : List CS} {lk : Nat → Bool} {σ : St} (P : S → St) (I : S → List V → Prop) (v : V) (xs : List V) (s : S)
    (h1 : evalE F σ.store it σ.vars = .ok v) (h2 : iterV σ.store v = some xs) (h3 : I s xs) (h4 : ExtS (P s) σ)
    (h : ∀ s x xs, I s (x :: xs) → ∃ s', I s' xs ∧ Tn (P s') (turnL F t body (lockL lk v) x (P s))) : ∃ s', I s' [] ∧ Nx (exec F (.for_ t it body) lk σ) (P s') := by
  rw [x_for, h1, outR_ok, h2]
  exact nx_loop (turn := turnL F t body (lockL lk v)) P I (fun x p s e => LeO.thenO (LeO.bindT e) fun p s e => monoXs body e) h xs s σ h3 h4
end Mine

end
section
set_option autoImplicit false
namespace Mine
noncomputable def Rv (o : Out) (v : V) : Prop := ∃ s, o = .ret v s
theorem rv_cons {F : Phi} {c : CS} {cs : List CS} {lk : Nat → Bool} {s p : St} {v : V} (h : Nx (exec F c lk s) p) (k : Rv (execs F cs lk p) v) : Rv (execs F (c :: cs) lk s) v := by
  obtain ⟨s2, h2⟩ := k
  obtain ⟨b, hb, _⟩ := rt_cons h ⟨s2, h2, rfl⟩
  exact ⟨b, hb⟩
noncomputable abbrev lk0 : Nat → Bool := fun i => decide (i < 0)
theorem run_of {f : Fn} {fs : List Fn} {ns : List Int} (hn : f.nargs = 1)
    (h : Rv (execs (phi fs) f.body lk0 ⟨some (.list (ns.map .int)) :: List.replicate (f.nvars - 1) none, []⟩) (.bool true)) : runLaw (f :: fs) ns = .ok (.bool true) := by
  obtain ⟨s, h⟩ := h
  unfold runLaw phi
  rw [if_pos (by simp)]
  unfold callFn
  rw [if_pos (by simp [hn]), hn]
  have e : execs (phi fs) f.body (fun i => decide (i < ([] : Store).length)) ⟨[V.list (ns.map .int)].map some ++ List.replicate (f.nvars - 1) none, []⟩ = .ret (.bool true) s := h
  rw [e]
  rfl
@[simp] theorem ext_none (o : Option V) (p r : Vars) : Xt (none :: p) (o :: r) = Xt p r := rfl
@[simp] theorem ext_some (v : V) (o : Option V) (p r : Vars) : Xt (some v :: p) (o :: r) = (o = some v ∧ Xt p r) := rfl
@[simp] theorem ext_nil : Xt [] [] = True := rfl
@[simp] theorem tn_next (p s : St) : Tn p (.next s) = ExtS p s := rfl
@[simp] theorem tn_cont (p s : St) : Tn p (.cont s) = ExtS p s := rfl
theorem exts_def (p s : St) : ExtS p s = (Xt p.vars s.vars ∧ p.store = s.store) := rfl
theorem rt_ret {F : Phi} {e : CE} {cs : List CS} {lk : Nat → Bool} {s : St} {v : V} (h : evalE F s.store e s.vars = .ok v) : Rt (execs F (.ret e :: cs) lk s) v s.store := by
  refine ⟨s, ?_, rfl⟩
  rw [x_cons, x_ret, h]; rfl
theorem nx_each {S α : Type} {F : Phi} {t : Tgt} {it : CE} {body : List CS} {lk : Nat → Bool} {σ : St} (g : α → V) (P : S → St) (I : S → List α → Prop) (v : V) (xs : List α) (s : S)
    (h1 : evalE F σ.store it σ.vars = .ok v) (h2 : iterV σ.store v = some (xs.map g)) (h3 : I s xs) (h4 : ExtS (P s) σ)
    (h : ∀ s a as, I s (a :: as) → ∃ s', I s' as ∧ Tn (P s') (turnL F t body (lockL lk v) (g a) (P s))) : ∃ s', I s' [] ∧ Nx (exec F (.for_ t it body) lk σ) (P s') := by
  obtain ⟨s', ⟨as, e, i⟩, n⟩ := nx_for (F := F) (t := t) (it := it) (body := body) (lk := lk) (σ := σ) P (fun s xs => ∃ as, xs = as.map g ∧ I s as) v (xs.map g) s h1 h2 ⟨xs, rfl, h3⟩ h4 (by
    rintro s x xs ⟨as, e, i⟩
    cases as with
    | nil => cases e
    | cons a as =>
      rw [List.map_cons] at e
      injection e with e1 e2
      subst e1 e2
      obtain ⟨s', i', t⟩ := h s a as i
      exact ⟨s', ⟨as, rfl, i'⟩, t⟩)
  cases as with
  | nil => exact ⟨s', i, n⟩
  | cons a as => cases e
theorem nx_fold {S α : Type} {F : Phi} {t : Tgt} {it : CE} {body : List CS} {lk : Nat → Bool} {σ : St} (g : α → V) (P : S → St) (step : S → α → S) (I : S → List α → Prop) (v : V) (xs : List α) (s : S)
    (h1 : evalE F σ.store it σ.vars = .ok v) (h2 : iterV σ.store v = some (xs.map g)) (h3 : I s xs) (h4 : ExtS (P s) σ)
    (h : ∀ s a as, I s (a :: as) → I (step s a) as ∧ Tn (P (step s a)) (turnL F t body (lockL lk v) (g a) (P s))) : Nx (exec F (.for_ t it body) lk σ) (P (xs.foldl step s)) := by
  obtain ⟨s', ⟨i, e⟩, n⟩ := nx_each (F := F) (t := t) (it := it) (body := body) (lk := lk) (σ := σ) g P (fun s' as => I s' as ∧ as.foldl step s' = xs.foldl step s) v xs s h1 h2 ⟨h3, rfl⟩ h4 (by
    rintro s a as ⟨i, e⟩
    exact ⟨step s a, ⟨(h s a as i).1, e⟩, (h s a as i).2⟩)
  rw [← e]; exact n
theorem nx_while {S : Type} {F : Phi} {t : CE} {body : List CS} {lk : Nat → Bool} (P : S → St) (I : S → Prop) (test : S → Bool) (m : S → Nat)
    (ht : ∀ s, I s → evalT F (P s).store t (P s).vars = .ok (test s))
    (hb : ∀ s, I s → test s = true → ∃ s', I s' ∧ m s' < m s ∧ Tn (P s') (execs F body lk (P s))) (s : S) (σ : St) (hi : I s) (hm : m s < fuel) (he : ExtS (P s) σ) :
    ∃ s', I s' ∧ test s' = false ∧ Nx (exec F (.while_ t body) lk σ) (P s') := by
  (first | rw [exec_q1] | rw [exec_q2] | rw [exec_q3] | rw [exec_q4] | rw [exec_q5] | rw [exec_q6] | rw [exec_q7] | rw [exec_q8] | rw [exec_q9] | rw [exec_q10] | rw [exec_q11] | rw [exec_q12])
  have : ∀ (n : Nat) (s : S) (σ : St), I s → m s < n → ExtS (P s) σ → ∃ s', I s' ∧ test s' = false ∧ Nx (whileLoop (fun s => evalT F s.store t s.vars) (fun s => execs F body lk s) n σ) (P s') := by
    intro n
    induction n with
    | zero => intro s σ _ h _; omega
    | succ n ih =>
      intro s σ hi hm he
      have h1 : evalT F σ.store t σ.vars = .ok (test s) := by
        rcases monoT (F := F) (st := (P s).store) t he.1 with h | h
        · rw [ht s hi] at h; cases h
        · rw [← he.2, ← h, ht s hi]
      rw [whileLoop, h1]
      cases hts : test s with
      | false => exact ⟨s, hi, hts, σ, rfl, he⟩
      | true =>
        obtain ⟨s', hi', hm', tn⟩ := hb s hi hts
        have mo := monoXs (F := F) body (lk := lk) he
        simp only
        cases hx : execs F body lk (P s) with
        | next a =>
          rw [hx] at mo tn
          obtain ⟨b, hb, eb⟩ := mo
          rw [hb]
          exact ih s' b hi' (by omega) (ExtS.trans tn eb)
        | cont a =>
          rw [hx] at mo tn
          obtain ⟨b, hb, eb⟩ := mo
          rw [hb]
          exact ih s' b hi' (by omega) (ExtS.trans tn eb)
        | _ => rw [hx] at tn; exact tn.elim
  exact this fuel s σ hi hm he
theorem call_of {F : Phi} {f : Fn} {st st' : Store} {as : List V} {v r : V} (hn : as.length = f.nargs)
    (h : Rt (execs F f.body (fun i => decide (i < st.length)) ⟨as.map some ++ List.replicate (f.nvars - f.nargs) none, st⟩) v st') (hf : fin st.length st' v = .ok r) : callFn F f st as = .ok r := by
  obtain ⟨s, h, rfl⟩ := h
  unfold callFn
  rw [if_pos hn, h]
  exact hf
end Mine
namespace Mine
theorem getV_new {ρ : Vars} {n : Nat} (h : ρ.length = n) (x : V) (r : Vars) : getV (ρ ++ (some x :: r)) n = .ok x := by
  subst h
  unfold getV
  rw [List.getElem?_append_right (Nat.le_refl _)]
  simp
end Mine

end
section
set_option autoImplicit false
namespace Mine
theorem tn_turn {F : Phi} {k : Nat} {body : List CS} {lk : Nat → Bool} {x : V} {ρ : Vars} {st : Store} {p : St} (h : Nx (execs F body lk ⟨ρ.set k (some x), st⟩) p) : Tn p (turnL F (.one k) body lk x ⟨ρ, st⟩) := by
  obtain ⟨s, h, e⟩ := h
  unfold turnL
  rw [bindT_one, thenO_next, h]
  exact e
theorem nx_nil {F : Phi} {lk : Nat → Bool} {s p : St} (e : ExtS p s) : Nx (execs F [] lk s) p := ⟨s, x_nil .., e⟩
theorem nx_end {F : Phi} {c : CS} {lk : Nat → Bool} {s p : St} (h : Nx (exec F c lk s) p) : Nx (execs F [c] lk s) p := nx_cons h (nx_nil (ExtS.refl p))
theorem nx_weak {o : Out} {p q : St} (h : Nx o p) (e : ExtS q p) : Nx o q := by
  obtain ⟨s, h, e'⟩ := h
  exact ⟨s, h, e.trans e'⟩
theorem nx_if {F : Phi} {t : CE} {a b : List CS} {lk : Nat → Bool} {s p : St} (c : Bool) (h : evalT F s.store t s.vars = .ok c) (h1 : c = true → Nx (execs F a lk s) p) (h2 : c = false → Nx (execs F b lk s) p) : Nx (exec F (.ifs t a b) lk s) p := by
  cases c with
  | true => obtain ⟨s', h', e⟩ := h1 rfl; exact ⟨s', by rw [x_ifs, h, outR_ok, if_pos rfl, h'], e⟩
  | false => obtain ⟨s', h', e⟩ := h2 rfl; exact ⟨s', by rw [x_ifs, h, outR_ok, if_neg (by simp), h'], e⟩
theorem nx_set {F : Phi} {x : Nat} {e : CE} {lk : Nat → Bool} {ρ : Vars} {st : Store} {v : V} (h : evalE F st e ρ = .ok v) : Nx (exec F (.assign (.one x) (.old e)) lk ⟨ρ, st⟩) ⟨ρ.set x (some v), st⟩ :=
  .of (by rw [x_assign, a_old, h]; rfl)

noncomputable def firstErr : List Tx → Option K
  | [] => none
  | t :: ts => match readOne t with
    | .ok _ => firstErr ts
    | .error k => some k
end Mine
namespace Mine
theorem nx_app {F : Phi} {o : CE} {e : CE} {lk : Nat → Bool} {ρ : Vars} {st : Store} {j : Nat} {xs : List V} {v : V} (h1 : evalE F st o ρ = .ok (.loc j)) (h2 : st[j]? = some (.list xs)) (h3 : evalE F st e ρ = .ok v) (h4 : lk j = false) (h5 : xs.length ≤ 1000000) :
    Nx (exec F (.append o (.old e)) lk ⟨ρ, st⟩) ⟨ρ, st.set j (.list (xs ++ [v]))⟩ :=
  .of (by rw [x_append]; show outR (evalE F st o ρ) _ _ = _; rw [h1, outR_ok, appO_loc (v := v) (st := st) h4 h2 (by rw [a_old]; show bindR (evalE F st e ρ) _ = _; rw [h3]; rfl) h5])
end Mine
namespace Mine
theorem stands_iter {st : Store} {v : V} {xs : List V} (h : Stands st v xs) : iterV st v = some xs := by
  rcases h with rfl | ⟨j, rfl, h⟩
  · rfl
  · simp [iterV, items, h]
theorem stands_len {st : Store} {v : V} {xs : List V} (h : Stands st v xs) : pLen st [v] = .ok (.int xs.length) := by
  rcases h with rfl | ⟨j, rfl, h⟩
  · rfl
  · simp [pLen, strOf, items, h]
theorem lows_pure {n : Nat} : ∀ (m : Nat) (xs : List V), xs.all (pureV m) = true → lows n xs = true
  | m, [], _ => by simp [lows]
  | m, x :: xs, h => by
    rw [List.all_cons, Bool.and_eq_true] at h
    rw [lows, lows_pure m xs h.2, Bool.and_true]
    cases x with
    | tup ys => cases m with
      | zero => simp [pureV] at h
      | succ m => rw [pureV] at h; rw [low]; exact lows_pure m ys h.1
    | list ys => cases m with
      | zero => simp [pureV] at h
      | succ m => rw [pureV] at h; rw [low]; exact lows_pure m ys h.1
    | loc i => simp [pureV] at h
    | _ => simp [low]
theorem fin_list {n : Nat} {st : Store} {xs : List V} (m : Nat) (h : xs.all (pureV m) = true) : fin n st (.list xs) = .ok (.list xs) := by
  unfold fin
  simp only
  rw [if_pos (by rw [low]; exact lows_pure m xs h)]
end Mine
namespace Mine
end Mine
namespace Mine
theorem nx_put {F : Phi} {o e : CE} {lk : Nat → Bool} {ρ : Vars} {st : Store} {j : Nat} {xs : List V} {x v : V} (h1 : evalE F st o ρ = .ok (.loc j)) (h2 : st[j]? = some (.list (xs ++ [x]))) (h3 : evalE F st e ρ = .ok v) (h4 : lk j = false) :
    Nx (exec F (.setItem o (.int (-1)) e) lk ⟨ρ, st⟩) ⟨ρ, st.set j (.list (xs ++ [v]))⟩ :=
  .of (by
    rw [x_set]
    show outR (evalE F st e ρ) _ _ = _
    rw [h3, outR_ok]
    show outR (evalE F st o ρ) _ _ = _
    rw [h1, outR_ok, e_int, outR_ok, setO_loc h4, setL_last h2])
theorem last_loc {F : Phi} {o : CE} {ρ : Vars} {st : Store} {j : Nat} {xs : List V} {x : V} (h1 : evalE F st o ρ = .ok (.loc j)) (h2 : st[j]? = some (.list (xs ++ [x]))) : evalE F st (.idx o (.int (-1))) ρ = .ok x := by
  rw [e_idx, h1, bindR_ok, e_int, bindR_ok, index_loc]
  unfold locL
  rw [h2]
  exact idxL_last xs x
theorem ev_add {F : Phi} {a b : CE} {ρ : Vars} {st : Store} {x y : Tx} (h1 : evalE F st a ρ = .ok (.str x)) (h2 : evalE F st b ρ = .ok (.str y)) (h : x.length + y.length ≤ 16777216) : evalE F st (.bin .add a b) ρ = .ok (.str (x ++ y)) := by
  rw [e_bin, h1, bindR_ok, h2, bindR_ok, cat h]
theorem ev_mod {F : Phi} {a : CE} {ρ : Vars} {st : Store} {x m : Int} (h1 : evalE F st a ρ = .ok (.int x)) (h : m ≠ 0) : evalE F st (.bin .mod a (.int m)) ρ = .ok (.int (x.fmod m)) := by
  rw [e_bin, h1, bindR_ok, e_int, bindR_ok, b_mod st h]
theorem ev_div {F : Phi} {a : CE} {ρ : Vars} {st : Store} {x m : Int} (h1 : evalE F st a ρ = .ok (.int x)) (h : 0 < m ∧ m < 1000) : evalE F st (.bin .fdiv a (.int m)) ρ = .ok (.int (x.fdiv m)) := by
  rw [e_bin, h1, bindR_ok, e_int, bindR_ok, b_fdiv st h]
theorem ev_idx {F : Phi} {a i : CE} {ρ : Vars} {st : Store} {x y z : V} (h1 : evalE F st a ρ = .ok x) (h2 : evalE F st i ρ = .ok y) (h : index st x y = .ok z) : evalE F st (.idx a i) ρ = .ok z := by
  rw [e_idx, h1, bindR_ok, h2, bindR_ok, h]
theorem ev_join {F : Phi} {a : CE} {ρ : Vars} {st : Store} {sep : Tx} {v : V} {ts : List Tx} (h1 : evalE F st a ρ = .ok v) (h2 : Stands st v (ts.map .str)) (hs : sep.length ≤ 16) (hl : sumLen ts + ts.length ≤ 1000000) :
    evalE F st (.meth .join (.str sep) [a]) ρ = .ok (.str (joinL sep ts)) := by
  have hm : mapO strOf (ts.map V.str) = some ts := by
    clear h1 h2 hl
    induction ts with
    | nil => rfl
    | cons t ts ih => rw [List.map_cons, mapO, ih]; rfl
  rw [e_meth, e_str, bindR_ok, es_cons, h1, bindR_ok, es_nil, bindR_ok, methR_ok]
  simp [prim, pJoin, stands_items h2, hm, hs, hl]
theorem sumLen_le {k : Nat} : ∀ {ts : List Tx}, (∀ t ∈ ts, t.length ≤ k) → sumLen ts ≤ k * ts.length
  | [], _ => Nat.zero_le _
  | t :: ts, h => by
    have h1 := h t (List.mem_cons_self ..)
    have h2 := sumLen_le fun x hx => h x (List.mem_cons_of_mem t hx)
    rw [sumLen, List.length_cons, Nat.mul_add]; omega
end Mine
namespace Mine
theorem slice_init {st : Store} {a : V} {xs : List V} (h : Stands st a xs) : sliceV st a none (some (.int (-1))) .one = .ok (.list xs.dropLast) := by
  have hs : sliceL none (some (-1)) xs = xs.dropLast := by
    unfold sliceL
    have : clamp xs.length (-1) = xs.length - 1 := by unfold clamp; rw [if_neg (by decide)]; omega
    simp only [this, List.drop_zero, Nat.sub_zero]
    rw [List.dropLast_eq_take]
  rcases h with rfl | ⟨j, rfl, h⟩
  · simp [sliceV, bound, items, hs]
  · simp [sliceV, bound, items, h, hs]
theorem et_cmp {F : Phi} {st : Store} {op : COp} {a b : CE} {ρ : Vars} {x y : V} {r : Bool} (h1 : evalE F st a ρ = .ok x) (h2 : evalE F st b ρ = .ok y) (h : cmpop st op x y = .ok r) : evalT F st (.cmp op a b) ρ = .ok r := by
  rw [t_cmp, h1, bindR_ok, h2, bindR_ok, h]
theorem et_and {F : Phi} {st : Store} {a b : CE} {ρ : Vars} {x y : Bool} (h1 : evalT F st a ρ = .ok x) (h2 : x = true → evalT F st b ρ = .ok y) : evalT F st (.and a b) ρ = .ok (x && y) := by
  rw [t_and, h1, bindR_ok]
  cases x with
  | true => rw [if_pos rfl, h2 rfl]; rfl
  | false => rfl
theorem ev_call1 {F : Phi} {st : Store} {i : Nat} {a : CE} {ρ : Vars} {x y : V} (h1 : evalE F st a ρ = .ok x) (h : F i st [x] = .ok y) : evalE F st (.call i [a]) ρ = .ok y := by
  rw [e_call, es_cons, h1, bindR_ok, es_nil, bindR_ok, bindR_ok, h]
theorem add_lists {st : Store} {a b : V} {xs ys : List V} (ha : Stands st a xs) (hb : Stands st b ys) (h : xs.length + ys.length ≤ 16777216) : binop st .add a b = .ok (.list (xs ++ ys)) := by
  have h1 := stands_items ha
  have h2 := stands_items hb
  have hb' : xs.length + ys.length ≤ big := h
  have e : addL st a b = .ok (.list (xs ++ ys)) := by unfold addL; rw [h1, h2]; exact if_pos hb'
  rcases ha with rfl | ⟨j, rfl, _⟩ <;> exact e
end Mine
namespace Mine
theorem ev_comp {F : Phi} {st : Store} {ρ : Vars} {elt it : CE} {α : Type} {v : V} (xs : List α) (g f : α → V) (h1 : evalE F st it ρ = .ok v) (h2 : iterV st v = some (xs.map g)) (h3 : xs.length ≤ 16777216) (h : ∀ x ∈ xs, evalE F st elt (ρ ++ [some (g x)]) = .ok (f x)) :
    evalE F st (.comp elt none it none) ρ = .ok (.list (xs.map f)) := by
  rw [comp_known xs g (fun x => some (f x)) h1 h2 h3 (fun x hx => by simp [turnC, bindNew, h x hx]), filterMap_some]
end Mine
namespace Mine
theorem str_at {s : Tx} {i : Nat} {c : Nat} (h : s[i]? = some c) (st : Store) : index st (.str s) (.int i) = .ok (.str [c]) := by
  have hi := (List.getElem?_eq_some_iff.mp h).1
  have hp : place s.length (i : Int) = some i := by unfold place; rw [if_pos (by omega), if_pos (by omega)]; simp
  simp [index, hp, h]
theorem ev_sub {F : Phi} {a b : CE} {ρ : Vars} {st : Store} {x y : Int} (h1 : evalE F st a ρ = .ok (.int x)) (h2 : evalE F st b ρ = .ok (.int y)) : evalE F st (.bin .sub a b) ρ = .ok (.int (x - y)) := by
  rw [e_bin, h1, bindR_ok, h2, bindR_ok]; rfl
theorem ev_len {F : Phi} {a : CE} {ρ : Vars} {st : Store} {s : Tx} (h1 : evalE F st a ρ = .ok (.str s)) : evalE F st (.prim .len [a]) ρ = .ok (.int s.length) := by
  rw [e_prim, es_cons, h1, bindR_ok, es_nil, bindR_ok, bindR_ok]; rfl
theorem ev_lenL {F : Phi} {a : CE} {ρ : Vars} {st : Store} {v : V} {xs : List V} (h1 : evalE F st a ρ = .ok v) (h : Stands st v xs) : evalE F st (.prim .len [a]) ρ = .ok (.int xs.length) := by
  rw [e_prim, es_cons, h1, bindR_ok, es_nil, bindR_ok, bindR_ok]; exact stands_len h
theorem ev_var {F : Phi} {x : Nat} {ρ : Vars} {st : Store} {v : V} (h : getV ρ x = .ok v) : evalE F st (.var x) ρ = .ok v := by rw [e_var, h]
end Mine
namespace Mine
end Mine

end
section
set_option autoImplicit false
namespace Mine
inductive Md where
  | out | quo | esc
deriving DecidableEq
noncomputable def ahead (w : Tx) : List Tx → List Tx
  | [] => [w]
  | p :: ps => (w ++ p) :: ps
noncomputable def goW : Md → List Tx → List Tx
  | _, [] => [[]]
  | .esc, w :: ws => ahead w (goW .quo ws)
  | .quo, w :: ws => if w = [92] then goW .esc ws else if w = [34] then ahead w (goW .out ws) else ahead w (goW .quo ws)
  | .out, w :: ws => if w = [44] then [] :: goW .out ws else if w = [34] then ahead w (goW .quo ws) else ahead w (goW .out ws)
noncomputable def shut (ps : List Tx) : List Tx := if ps.getLast? = some [] then ps.dropLast else ps
noncomputable def httpW (ws : List Tx) : List Tx := (shut (goW .out ws)).map strip

structure HS where
  res : List Tx
  part : Tx
  md : Md
noncomputable def hstep (s : HS) (w : Tx) : HS := match s.md with
  | .esc => ⟨s.res, s.part ++ w, .quo⟩
  | .quo => if w = [92] then ⟨s.res, s.part, .esc⟩ else if w = [34] then ⟨s.res, s.part ++ w, .out⟩ else ⟨s.res, s.part ++ w, .quo⟩
  | .out => if w = [44] then ⟨s.res ++ [s.part], [], .out⟩ else if w = [34] then ⟨s.res, s.part ++ w, .quo⟩ else ⟨s.res, s.part ++ w, .out⟩
theorem ahead_ahead (a b : Tx) (ps : List Tx) : ahead a (ahead b ps) = ahead (a ++ b) ps := by cases ps <;> simp [ahead]
theorem goW_ne (m : Md) (ws : List Tx) : ∃ p ps, goW m ws = p :: ps := by
  cases h : goW m ws with
  | cons p ps => exact ⟨p, ps, rfl⟩
  | nil =>
    exfalso
    have ah : ∀ w ps, ahead w ps ≠ [] := fun w ps => by cases ps <;> simp [ahead]
    induction ws generalizing m with
    | nil => cases m <;> simp [goW] at h
    | cons w ws ih =>
      cases m <;> rw [goW] at h
      · split at h
        · cases h
        · split at h <;> exact ah _ _ h
      · split at h
        · exact ih _ h
        · split at h <;> exact ah _ _ h
      · exact ah _ _ h
theorem ahead_nil (m : Md) (ws : List Tx) : ahead [] (goW m ws) = goW m ws := by
  obtain ⟨p, ps, h⟩ := goW_ne m ws
  rw [h]; rfl
theorem fold_go : ∀ (ws : List Tx) (s : HS), (ws.foldl hstep s).res ++ [(ws.foldl hstep s).part] = s.res ++ ahead s.part (goW s.md ws)
  | [], ⟨r, p, m⟩ => by cases m <;> simp [goW, ahead]
  | w :: ws, ⟨r, p, m⟩ => by
    rw [List.foldl_cons, fold_go ws]
    cases m <;> simp only [hstep, goW]
    · split
      · simp only [ahead_nil]; simp [ahead]
      · split <;> rw [ahead_ahead]
    · split
      · rfl
      · split <;> rw [ahead_ahead]
    · rw [ahead_ahead]

noncomputable def httpBody : List CS :=
  [CS.ifs (CE.var 3) [CS.aug 2 (CE.var 5), CS.assign (Tgt.one 3) (AE.old (CE.bool false)), CS.cont] [],
   CS.ifs (CE.var 4)
     [CS.ifs (CE.cmp (COp.eq) (CE.var 5) (CE.str [92])) [CS.assign (Tgt.one 3) (AE.old (CE.bool true)), CS.cont]
        [CS.ifs (CE.cmp (COp.eq) (CE.var 5) (CE.str [34])) [CS.assign (Tgt.one 4) (AE.old (CE.bool false))] []],
      CS.aug 2 (CE.var 5), CS.cont] [],
   CS.ifs (CE.cmp (COp.eq) (CE.var 5) (CE.str [44])) [CS.append (CE.var 1) (AE.old (CE.var 2)), CS.assign (Tgt.one 2) (AE.old (CE.str [])), CS.cont] [],
   CS.ifs (CE.cmp (COp.eq) (CE.var 5) (CE.str [34])) [CS.assign (Tgt.one 4) (AE.old (CE.bool true))] [],
   CS.aug 2 (CE.var 5)]
noncomputable def httpF : Fn :=
  { nargs := 1, nvars := 6,
    body := [CS.assign (Tgt.one 1) (AE.newl []), CS.assign (Tgt.one 2) (AE.old (CE.str [])), CS.assign2 3 4 (CE.bool false), CS.for_ (Tgt.one 5) (CE.var 0) httpBody,
             CS.ifs (CE.var 2) [CS.append (CE.var 1) (AE.old (CE.var 2))] [],
             CS.ret (CE.comp (CE.meth (Prim.strip) (CE.var 6) []) none (CE.var 1) none)] }

theorem Xt.app1 : ∀ {p r : Vars} (o : Option V), Xt p r → Xt (p ++ [none]) (r ++ [o])
  | [], [], o, _ => trivial
  | none :: p, _ :: r, o, e => Xt.app1 (p := p) o e
  | some v :: p, _ :: r, o, e => ⟨e.1, Xt.app1 (p := p) o e.2⟩
noncomputable def PH (v : V) (st : Store) (s : HS) : St := ⟨[some v, some (.loc st.length), some (.str s.part), some (.bool (decide (s.md = .esc))), some (.bool (!decide (s.md = .out))), none], st ++ [.list (s.res.map .str)]⟩
theorem augS {a b : Tx} (h : a.length + b.length ≤ 16777216) : augV (.str a) (.str b) = .ok (.str (a ++ b)) := by
  show (if a.length + b.length ≤ big then _ else _) = _
  exact if_pos h
noncomputable def Cn (o : Out) (p : St) : Prop := ∃ s, o = .cont s ∧ ExtS p s
theorem cn_cont {F : Phi} {cs : List CS} {lk : Nat → Bool} {s p : St} (e : ExtS p s) : Cn (execs F (.cont :: cs) lk s) p := ⟨s, by rw [x_cons, x_cont]; rfl, e⟩
theorem cn_cons {F : Phi} {c : CS} {cs : List CS} {lk : Nat → Bool} {s p q : St} (h : Nx (exec F c lk s) p) (k : Cn (execs F cs lk p) q) : Cn (execs F (c :: cs) lk s) q := by
  obtain ⟨s1, h1, e⟩ := h
  obtain ⟨s2, h2, e2⟩ := k
  have := monoXs (F := F) cs (lk := lk) e
  rw [h2] at this
  obtain ⟨b, hb, eb⟩ := this
  exact ⟨b, by rw [x_cons, h1, thenO_next, hb], e2.trans eb⟩
theorem cn_if {F : Phi} {t : CE} {a b cs : List CS} {lk : Nat → Bool} {s p : St} (h : evalT F s.store t s.vars = .ok true) (k : Cn (execs F a lk s) p) : Cn (execs F (.ifs t a b :: cs) lk s) p := by
  obtain ⟨s', h', e⟩ := k
  exact ⟨s', by rw [x_cons, x_ifs, h, outR_ok, if_pos rfl, h']; rfl, e⟩
theorem nx_skip {F : Phi} {t : CE} {a : List CS} {lk : Nat → Bool} {s : St} (h : evalT F s.store t s.vars = .ok false) : Nx (exec F (.ifs t a []) lk s) s := nx_if false h (fun h => by cases h) fun _ => nx_nil (ExtS.refl _)
theorem nx_do {F : Phi} {t : CE} {a b : List CS} {lk : Nat → Bool} {s p : St} (h : evalT F s.store t s.vars = .ok true) (k : Nx (execs F a lk s) p) : Nx (exec F (.ifs t a b) lk s) p := nx_if true h (fun _ => k) fun h => by cases h
theorem nx_aug {F : Phi} {x : Nat} {e : CE} {lk : Nat → Bool} {ρ : Vars} {st : Store} {a b : Tx} (h0 : ρ[x]? = some (some (.str a))) (h1 : evalE F st e ρ = .ok (.str b)) (h2 : augV (.str a) (.str b) = .ok (.str (a ++ b))) : Nx (exec F (.aug x e) lk ⟨ρ, st⟩) ⟨ρ.set x (some (.str (a ++ b))), st⟩ :=
  .of (by rw [x_aug]; show (match ρ[x]? with | some (some a) => _ | _ => _) = _; rw [h0]; show outR (evalE F st e ρ) _ _ = _; rw [h1, outR_ok, h2]; rfl)
theorem tn_cn {F : Phi} {k : Nat} {body : List CS} {lk : Nat → Bool} {x : V} {ρ : Vars} {st : Store} {p : St} (h : Cn (execs F body lk ⟨ρ.set k (some x), st⟩) p) : Tn p (turnL F (.one k) body lk x ⟨ρ, st⟩) := by
  obtain ⟨s, h, e⟩ := h
  unfold turnL
  rw [bindT_one, thenO_next, h]
  exact e
theorem http_turn (F : Phi) (v : V) (st : Store) (lk : Nat → Bool) (hlk : lk st.length = false) (s : HS) (w : Tx) (h1 : s.part.length + w.length ≤ 16777216) (h2 : s.res.length ≤ 1000000) : Tn (PH v st (hstep s w)) (turnL F (.one 5) httpBody lk (.str w) (PH v st s)) := by
  obtain ⟨r, p, m⟩ := s
  have ha := augS h1
  have hx : ∀ (o : Option V) (q : St), q.vars.length = 6 → q.vars[5]? = some none → ExtS q ⟨q.vars.set 5 o, q.store⟩ := by
    rintro o ⟨ρ, st⟩ hl h5
    refine ⟨?_, rfl⟩
    match ρ, hl, h5 with
    | [a, b, c, d, e, f], _, h5 =>
      cases h5
      exact (Xt.refl [a, b, c, d, e]).app1 o
  unfold httpBody
  cases m with
  | esc => exact tn_cn (cn_if rfl (cn_cons (nx_aug rfl rfl ha) (cn_cons (nx_set (v := .bool false) rfl) (cn_cont (hx _ _ rfl rfl)))))
  | quo =>
    by_cases e1 : w = [92]
    · subst e1
      exact tn_cn (cn_cons (nx_skip rfl) (cn_if rfl (cn_if (et_cmp rfl rfl rfl) (cn_cons (nx_set (v := .bool true) rfl) (cn_cont (hx _ _ rfl rfl))))))
    · have e1' : (w == [92]) = false := by simpa using e1
      by_cases e2 : w = [34]
      · subst e2
        exact tn_cn (cn_cons (nx_skip rfl) (cn_if rfl (cn_cons (nx_if false (et_cmp rfl rfl rfl) (fun h => by cases h) fun _ => nx_end (nx_do (et_cmp rfl rfl rfl) (nx_end (nx_set (v := .bool false) rfl)))) (cn_cons (nx_aug rfl rfl ha) (cn_cont (hx _ _ rfl rfl))))))
      · have e2' : (w == [34]) = false := by simpa using e2
        have e : hstep ⟨r, p, .quo⟩ w = ⟨r, p ++ w, .quo⟩ := by simp [hstep, e1, e2]
        rw [e]
        exact tn_cn (cn_cons (nx_skip rfl) (cn_if rfl (cn_cons (nx_if false (et_cmp rfl rfl ((cmp_str ..).trans (by rw [e1']))) (fun h => by cases h) fun _ => nx_end (nx_skip (et_cmp rfl rfl ((cmp_str ..).trans (by rw [e2']))))) (cn_cons (nx_aug rfl rfl ha) (cn_cont (hx _ _ rfl rfl))))))
  | out =>
    by_cases e1 : w = [44]
    · subst e1
      have happ := nx_app (F := F) (o := .var 1) (e := .var 2) (lk := lk) (ρ := [some v, some (.loc st.length), some (.str p), some (.bool false), some (.bool false), some (.str [44])]) (st := st ++ [.list (r.map .str)]) (j := st.length) (v := .str p) rfl (get_last _ _) rfl hlk (by simpa using h2)
      rw [set_last, show r.map V.str ++ [.str p] = (r ++ [p]).map .str by simp] at happ
      exact tn_cn (cn_cons (nx_skip rfl) (cn_cons (nx_skip rfl) (cn_if (et_cmp rfl rfl rfl) (cn_cons happ (cn_cons (nx_set (v := .str []) rfl) (cn_cont (hx _ _ rfl rfl)))))))
    · have e1' : (w == [44]) = false := by simpa using e1
      by_cases e2 : w = [34]
      · subst e2
        exact tn_turn (nx_cons (nx_skip rfl) (nx_cons (nx_skip rfl) (nx_cons (nx_skip (et_cmp rfl rfl rfl)) (nx_cons (nx_do (et_cmp rfl rfl rfl) (nx_end (nx_set (v := .bool true) rfl))) (nx_end (nx_weak (nx_aug rfl rfl ha) (hx _ _ rfl rfl)))))))
      · have e2' : (w == [34]) = false := by simpa using e2
        have e : hstep ⟨r, p, .out⟩ w = ⟨r, p ++ w, .out⟩ := by simp [hstep, e1, e2]
        rw [e]
        exact tn_turn (nx_cons (nx_skip rfl) (nx_cons (nx_skip rfl) (nx_cons (nx_skip (et_cmp rfl rfl ((cmp_str ..).trans (by rw [e1'])))) (nx_cons (nx_skip (et_cmp rfl rfl ((cmp_str ..).trans (by rw [e2'])))) (nx_end (nx_weak (nx_aug rfl rfl ha) (hx _ _ rfl rfl)))))))
theorem hstep_part (s : HS) (w : Tx) : (hstep s w).part.length ≤ s.part.length + w.length ∧ (hstep s w).res.length ≤ s.res.length + 1 := by
  obtain ⟨r, p, m⟩ := s
  cases m <;> simp only [hstep]
  · split
    · simp
    · split <;> simp
  · split
    · simp
    · split <;> simp
  · simp
theorem fold_res : ∀ (ws : List Tx) (s : HS), (ws.foldl hstep s).res.length ≤ s.res.length + ws.length
  | [], s => by simp
  | w :: ws, s => by
    have h1 := fold_res ws (hstep s w)
    have h2 := (hstep_part s w).2
    rw [List.foldl_cons]; simp only [List.length_cons]; omega
theorem shut_snoc (r : List Tx) (p : Tx) : shut (r ++ [p]) = if p = [] then r else r ++ [p] := by
  unfold shut
  simp
theorem http_tail (F : Phi) (st : Store) (v : V) (lk : Nat → Bool) (hlk : lk st.length = false) (s : HS) (hr : s.res.length ≤ 900000) :
    Rt (execs F (httpF.body.drop 4) lk (PH v st s)) (.list ((((if s.part = [] then s.res else s.res ++ [s.part])).map strip).map .str)) (st ++ [.list ((if s.part = [] then s.res else s.res ++ [s.part]).map .str)]) := by
  obtain ⟨r, p, m⟩ := s
  simp only at hr ⊢
  show Rt (execs F [_, _] lk _) _ _
  refine rt_cons (p := ⟨[some (v), some (.loc st.length), none, none, none, none], st ++ [.list ((if p = [] then r else r ++ [p]).map .str)]⟩) ?_ ?_
  · unfold PH
    refine nx_if (!p.isEmpty) (by simp [truth]) (fun h => ?_) fun h => ?_
    · have hp : p ≠ [] := by rintro rfl; cases h
      rw [if_neg hp]
      refine nx_end (nx_weak (nx_app (j := st.length) (xs := r.map .str) (v := .str p) (by simp) (get_last _ _) (by simp) hlk (by simp; omega)) ?_)
      simp [exts_def]
    · have hp : p = [] := by cases p <;> first | rfl | cases h
      rw [if_pos hp]
      exact nx_nil (by simp [exts_def])
  · generalize hq : (if p = [] then r else r ++ [p]) = q
    have hql : q.length ≤ 900001 := by
      rw [← hq]; split
      · omega
      · simp; omega
    refine rt_ret ?_
    have := comp_known (F := F) (st := st ++ [.list (q.map .str)]) (ρ := [some (v), some (.loc st.length), none, none, none, none]) (k := none) (elt := .meth .strip (.var 6) []) (it := .var 1) (cond := none) (v := .loc st.length) q V.str (fun t => some (.str (strip t))) rfl (stands_iter (stands_loc (get_last _ _))) (by simp [big]; omega) (by
      intro t _
      simp [turnC, bindNew, prim, pStrip])
    rw [this, filterMap_some, List.map_map]; rfl
theorem http_head (F : Phi) (st : Store) (v : V) (lk : Nat → Bool) {k : List CS} {r : V} {st' : Store} (h : Rt (execs F k lk (PH v st ⟨[], [], .out⟩)) r st') :
    Rt (execs F (httpF.body.take 3 ++ k) lk ⟨[v].map some ++ List.replicate 5 none, st⟩) r st' := by
  show Rt (execs F (_ :: _ :: _ :: k) lk _) _ _
  refine rt_cons (p := ⟨[some (v), some (.loc st.length), none, none, none, none], st ++ [.list []]⟩) (.of (by simp)) ?_
  refine rt_cons (p := ⟨[some (v), some (.loc st.length), some (.str []), none, none, none], st ++ [.list []]⟩) (nx_set rfl) ?_
  exact rt_cons (p := PH v st ⟨[], [], .out⟩) (.of (by simp [PH])) h
theorem http_call (F : Phi) (st : Store) (v : V) (ws : List Tx) (hlow : ∀ j, v = .loc j → j < st.length) (hv : ∀ os, iterV (st ++ os) v = some (ws.map .str)) (hn : ws.length ≤ 900000) (hl : sumLen ws ≤ 900000) :
    callFn F httpF st [v] = .ok (.list ((httpW ws).map .str)) := by
  have hlk : lockL (fun i => decide (i < st.length)) v st.length = false := by
    cases v with
    | loc j => have := hlow j rfl; simp [lockL]; omega
    | _ => simp [lockL]
  have hS := fold_go ws ⟨[], [], .out⟩
  have hres := fold_res ws ⟨[], [], .out⟩
  have loop := nx_fold (F := F) (t := .one 5) (it := .var 0) (body := httpBody) (lk := fun i => decide (i < st.length)) (σ := PH v st ⟨[], [], .out⟩) V.str (PH v st) hstep (fun s as => s.part.length + sumLen as ≤ 900000 ∧ s.res.length + as.length ≤ 900000)
    v ws ⟨[], [], .out⟩ rfl (hv _) ⟨by simpa using hl, by simpa using hn⟩ (ExtS.refl _) (by
      rintro s w as ⟨h1, h2⟩
      rw [sumLen] at h1
      have := hstep_part s w
      exact ⟨⟨by omega, by simp at h2; omega⟩, http_turn F v st _ hlk s w (by omega) (by omega)⟩)
  generalize ws.foldl hstep ⟨[], [], .out⟩ = s at hS hres loop
  have hW : httpW ws = (if s.part = [] then s.res else s.res ++ [s.part]).map strip := by
    obtain ⟨r, p, m⟩ := s
    simp only [ahead_nil, List.nil_append] at hS
    unfold httpW; rw [← hS, shut_snoc]
  rw [hW]
  refine call_of (v := .list (((if s.part = [] then s.res else s.res ++ [s.part]).map strip).map .str)) (st' := st ++ [.list ((if s.part = [] then s.res else s.res ++ [s.part]).map .str)]) rfl ?_ (fin_list 0 (pure_strs _))
  exact http_head (k := httpF.body.drop 3) F st v _ (rt_cons loop (http_tail F st v _ (by simp) s (by simp at hres; omega)))
end Mine

end
section
set_option autoImplicit false
namespace Mine
noncomputable def go : Md → Tx → List Tx
  | _, [] => [[]]
  | .esc, c :: s => ahead [c] (go .quo s)
  | .quo, c :: s => if c = 92 then go .esc s else if c = 34 then ahead [c] (go .out s) else ahead [c] (go .quo s)
  | .out, c :: s => if c = 44 then [] :: go .out s else if c = 34 then ahead [c] (go .quo s) else ahead [c] (go .out s)
noncomputable def md : Md → Tx → Md
  | m, [] => m
  | .esc, _ :: s => md .quo s
  | .quo, c :: s => if c = 92 then md .esc s else if c = 34 then md .out s else md .quo s
  | .out, c :: s => if c = 34 then md .quo s else md .out s
noncomputable def glue : List Tx → List Tx → List Tx
  | [], ys => ys
  | [p], ys => ahead p ys
  | p :: q :: ps, ys => p :: glue (q :: ps) ys
structure Rd (m : Md) (s r : Tx) (m' : Md) : Prop where
  parts : go m s = [r]
  after : md m s = m'
noncomputable def ws (s : Tx) : Prop := ∀ c ∈ s, isSpace c = true
theorem dropW_ws {a : Tx} (ha : ws a) (s : Tx) : (a ++ s).dropWhile isSpace = s.dropWhile isSpace := by
  induction a with
  | nil => rfl
  | cons c a ih =>
    rw [List.cons_append, List.dropWhile_cons, if_pos (ha c (List.mem_cons_self ..))]
    exact ih fun d hd => ha d (List.mem_cons_of_mem _ hd)
theorem ws_rev {a : Tx} (h : ws a) : ws a.reverse := fun c hc => h c (List.mem_reverse.mp hc)
theorem strip_left {a : Tx} (ha : ws a) (s : Tx) : strip (a ++ s) = strip s := by unfold strip; rw [dropW_ws ha]
theorem dropW_all {a : Tx} (ha : ws a) : a.dropWhile isSpace = [] := by
  have := dropW_ws ha []
  simpa using this
theorem dropW_snoc (s b : Tx) (hb : ws b) : ∃ b', ws b' ∧ (s ++ b).dropWhile isSpace = s.dropWhile isSpace ++ b' := by
  induction s with
  | nil => exact ⟨[], fun c hc => absurd hc List.not_mem_nil, by simpa using dropW_all hb⟩
  | cons c s ih =>
    rw [List.cons_append, List.dropWhile_cons, List.dropWhile_cons]
    split
    · exact ih
    · exact ⟨b, hb, rfl⟩
theorem strip_right {b : Tx} (hb : ws b) (s : Tx) : strip (s ++ b) = strip s := by
  unfold strip
  obtain ⟨b', hb', e⟩ := dropW_snoc s b hb
  rw [e, List.reverse_append, dropW_ws (ws_rev hb')]
noncomputable def tight (s : Tx) : Prop := (∀ c, s.head? = some c → isSpace c = false) ∧ (∀ c, s.getLast? = some c → isSpace c = false)
theorem strip_tight {s : Tx} (h : tight s) : strip s = s := by
  have key : ∀ t : Tx, (∀ c, t.head? = some c → isSpace c = false) → t.dropWhile isSpace = t := by
    intro t ht
    cases t with
    | nil => rfl
    | cons c t => rw [List.dropWhile_cons, if_neg (by rw [ht c rfl]; decide)]
  unfold strip
  rw [key s h.1, key s.reverse (by rw [List.head?_reverse]; exact h.2), List.reverse_reverse]
theorem strip_pads {a s b : Tx} (ha : ws a) (hb : ws b) (h : tight s) : strip (a ++ s ++ b) = s := by rw [strip_right hb, strip_left ha, strip_tight h]
end Mine
namespace Mine
noncomputable def Done (e : Tx × Tx) : Prop := ∃ raw, Rd .out e.2 raw .out ∧ strip raw = e.1
noncomputable def Cur (e : Tx × Tx) : Prop := ∃ pre, ws pre ∧ Rd .out e.2 (pre ++ e.1) .out ∧ tight e.1
end Mine
namespace Mine
end Mine
namespace Mine
end Mine

end
section
set_option autoImplicit false
namespace Mine
noncomputable def zl : Nat → List (List Tx) → List (Nat × List Tx)
  | _, [] => []
  | k, l :: ls => (k, l) :: zl (k + 1) ls
theorem zl_snd : ∀ (k : Nat) (ls : List (List Tx)), (zl k ls).map (·.2) = ls
  | _, [] => rfl
  | k, l :: ls => by rw [zl, List.map_cons, zl_snd]
theorem zl_loc : ∀ (k : Nat) (ls : List (List Tx)), (zl k ls).map (fun p => V.loc p.1) = (List.range' k ls.length).map V.loc
  | _, [] => rfl
  | k, l :: ls => by rw [zl, List.map_cons, zl_loc, List.length_cons, List.range'_succ, List.map_cons]
theorem zl_len (k : Nat) (ls : List (List Tx)) : (zl k ls).length = ls.length := by
  have := congrArg List.length (zl_snd k ls); simpa using this
theorem zl_get : ∀ (k : Nat) (ls : List (List Tx)) (p : Nat × List Tx), p ∈ zl k ls → ∃ i, p.1 = k + i ∧ ls[i]? = some p.2
  | _, [], p, h => by simp [zl] at h
  | k, l :: ls, p, h => by
    rw [zl] at h
    rcases List.mem_cons.mp h with rfl | h
    · exact ⟨0, rfl, rfl⟩
    · obtain ⟨i, h1, h2⟩ := zl_get (k + 1) ls p h
      exact ⟨i + 1, by omega, h2⟩
end Mine

end
section
set_option autoImplicit false
namespace Mine
end Mine

end
section
set_option autoImplicit false
namespace Mine
noncomputable def trimF (t1 t2 : CE) : Fn :=
  { nargs := 1, nvars := 3,
    body := [CS.assign (Tgt.one 1) (AE.old (CE.int 0)), CS.assign (Tgt.one 2) (AE.old (CE.prim (Prim.len) [CE.var 0])),
             CS.while_ (CE.and (CE.cmp (COp.lt) (CE.var 1) (CE.var 2)) t1) [CS.assign (Tgt.one 1) (AE.old (CE.bin (BOp.add) (CE.var 1) (CE.int 1)))],
             CS.while_ (CE.and (CE.cmp (COp.lt) (CE.var 1) (CE.var 2)) t2) [CS.assign (Tgt.one 2) (AE.old (CE.bin (BOp.sub) (CE.var 2) (CE.int 1)))],
             CS.ret (CE.slice (CE.var 0) (some (CE.var 1)) (some (CE.var 2)) (Step.one))] }
theorem slice_lh (st : Store) (t : Tx) (i j : Nat) (h : i ≤ j ∧ j ≤ t.length) : sliceV st (.str t) (some (.int i)) (some (.int j)) .one = .ok (.str ((t.drop i).take (j - i))) := by
  simp only [sliceV, bound]
  have h1 : clamp t.length (i : Int) = i := by unfold clamp; rw [if_pos (by omega)]; simp; omega
  have h2 : clamp t.length (j : Int) = j := by unfold clamp; rw [if_pos (by omega)]; simp; omega
  simp only [sliceL, h1, h2]
theorem trim_call (F : Phi) (st : Store) (t : Tx) (t1 t2 : CE) (hl : t.length < 100000)
    (ht1 : ∀ (a b : Nat) (c : Nat), t[a]? = some c → evalT F st t1 [some (.str t), some (.int a), some (.int b)] = .ok (isSpace c))
    (ht2 : ∀ (a b : Nat) (c : Nat), t[b]? = some c → evalT F st t2 [some (.str t), some (.int a), some (.int (b + 1 : Nat))] = .ok (isSpace c)) : callFn F (trimF t1 t2) st [.str t] = .ok (.str (strip t)) := by
  obtain ⟨low, ⟨a1, a2⟩, a3, nx1⟩ := nx_while (F := F) (t := CE.and (CE.cmp (COp.lt) (CE.var 1) (CE.var 2)) t1) (body := [CS.assign (Tgt.one 1) (AE.old (CE.bin (BOp.add) (CE.var 1) (CE.int 1)))]) (lk := fun i => decide (i < st.length))
    (fun low : Nat => ⟨[some (.str t), some (.int low), some (.int t.length)], st⟩) (fun low => low ≤ t.length ∧ ws (t.take low)) (fun low => decide (low < t.length) && isSpace (t.getD low 0)) (fun low => t.length - low)
    (by
      rintro low ⟨h1, h2⟩
      refine et_and (et_cmp rfl rfl (by rw [cmp_lt]; congr 1; simp)) fun hlt => ?_
      have hlt' : low < t.length := by simpa using hlt
      rw [ht1 low t.length t[low] (by simp [hlt']), List.getD_eq_getElem?_getD, List.getElem?_eq_getElem hlt']; rfl)
    (by
      rintro low ⟨h1, h2⟩ hc
      rw [Bool.and_eq_true] at hc
      have hlt' : low < t.length := by simpa using hc.1
      have hsp := hc.2
      rw [List.getD_eq_getElem?_getD, List.getElem?_eq_getElem hlt'] at hsp
      refine ⟨low + 1, ⟨by omega, ?_⟩, by omega, ?_⟩
      · rw [List.take_add_one, List.getElem?_eq_getElem hlt']
        intro c hc
        rcases List.mem_append.mp hc with h | h
        · exact h2 c h
        · simp at h; subst h; exact hsp
      · obtain ⟨s, h, e⟩ := nx_end (nx_set (F := F) (x := 1) (e := CE.bin (BOp.add) (CE.var 1) (CE.int 1)) (lk := fun i => decide (i < st.length)) (ρ := [some (.str t), some (.int low), some (.int t.length)]) (st := st) (v := .int ((low + 1 : Nat) : Int)) (by simp))
        show Tn _ (execs F [CS.assign (Tgt.one 1) (AE.old (CE.bin (BOp.add) (CE.var 1) (CE.int 1)))] _ _)
        rw [h]
        exact e) 0 ⟨[some (.str t), some (.int 0), some (.int t.length)], st⟩ ⟨by omega, by simp [ws]⟩ (by show t.length - 0 < 100000; omega) (ExtS.refl _)
  obtain ⟨high, ⟨b1, b2, b3⟩, b4, nx2⟩ := nx_while (F := F) (t := CE.and (CE.cmp (COp.lt) (CE.var 1) (CE.var 2)) t2) (body := [CS.assign (Tgt.one 2) (AE.old (CE.bin (BOp.sub) (CE.var 2) (CE.int 1)))]) (lk := fun i => decide (i < st.length))
    (fun high : Nat => ⟨[some (.str t), some (.int low), some (.int high)], st⟩) (fun high => low ≤ high ∧ high ≤ t.length ∧ ws (t.drop high)) (fun high => decide (low < high) && isSpace (t.getD (high - 1) 0)) (fun high => high)
    (by
      rintro high ⟨h1, h2, h3⟩
      refine et_and (et_cmp rfl rfl (by rw [cmp_lt]; congr 1; simp)) fun hlt => ?_
      have hlt' : low < high := by simpa using hlt
      have := ht2 low (high - 1) (t[high - 1]'(by omega)) (by rw [List.getElem?_eq_getElem])
      rw [show high - 1 + 1 = high by omega] at this
      rw [this, List.getD_eq_getElem?_getD, List.getElem?_eq_getElem (by omega)]; rfl)
    (by
      rintro high ⟨h1, h2, h3⟩ hc
      rw [Bool.and_eq_true] at hc
      have hlt' : low < high := by simpa using hc.1
      have hsp := hc.2
      have hi : high - 1 < t.length := by omega
      rw [List.getD_eq_getElem?_getD, List.getElem?_eq_getElem hi] at hsp
      refine ⟨high - 1, ⟨by omega, by omega, ?_⟩, by omega, ?_⟩
      · rw [List.drop_eq_getElem_cons hi, show high - 1 + 1 = high by omega]
        intro c hc
        rcases List.mem_cons.mp hc with rfl | h
        · exact hsp
        · exact h3 c h
      · obtain ⟨s, h, e⟩ := nx_end (nx_set (F := F) (x := 2) (e := CE.bin (BOp.sub) (CE.var 2) (CE.int 1)) (lk := fun i => decide (i < st.length)) (ρ := [some (.str t), some (.int low), some (.int high)]) (st := st) (v := .int ((high - 1 : Nat) : Int)) (by simp; omega))
        show Tn _ (execs F [CS.assign (Tgt.one 2) (AE.old (CE.bin (BOp.sub) (CE.var 2) (CE.int 1)))] _ _)
        rw [h]
        exact e) t.length ⟨[some (.str t), some (.int low), some (.int t.length)], st⟩ ⟨a1, Nat.le_refl _, by simp [ws]⟩ (by show t.length < 100000; omega) (ExtS.refl _)
  have hmid : strip t = (t.drop low).take (high - low) := by
    have e : t = t.take low ++ (t.drop low).take (high - low) ++ t.drop high := by
      have h1 := List.take_append_drop low t
      have h2 := List.take_append_drop (high - low) (t.drop low)
      rw [List.drop_drop, show low + (high - low) = high by omega] at h2
      rw [List.append_assoc, h2, h1]
    conv => lhs; rw [e]
    refine strip_pads a2 b3 ⟨fun c hc => ?_, fun c hc => ?_⟩
    · rw [List.head?_take] at hc
      split at hc
      · cases hc
      · rename_i hne
        rw [List.head?_drop] at hc
        have hlt : low < t.length := by omega
        rw [List.getD_eq_getElem?_getD, hc] at a3
        simpa [hlt] using a3
    · have hne : low < high := by
        rcases Nat.lt_or_ge low high with h | h
        · exact h
        · rw [show high - low = 0 by omega] at hc; simp at hc
      have hc' : t[high - 1]? = some c := by
        rw [List.getLast?_eq_getElem?, List.length_take, List.length_drop, Nat.min_eq_left (by omega), List.getElem?_take, if_pos (by omega), List.getElem?_drop] at hc
        rw [← hc]; congr 1; omega
      rw [List.getD_eq_getElem?_getD, hc'] at b4
      simpa [hne] using b4
  refine call_of (v := .str (strip t)) (st' := st) rfl ?_ (by simp [fin, Mine.low])
  refine rt_cons (nx_set (v := .int 0) rfl) ?_
  refine rt_cons (nx_set (v := .int t.length) (ev_len rfl)) ?_
  refine rt_cons nx1 ?_
  refine rt_cons nx2 ?_
  refine rt_ret ?_
  rw [e_slice, e_var]
  show bindR (.ok (V.str t)) _ = _
  rw [bindR_ok, eo_some, e_var]
  show bindR (bindR (.ok (V.int low)) _) _ = _
  rw [bindR_ok, bindR_ok, eo_some, e_var]
  show bindR (bindR (.ok (V.int high)) _) _ = _
  rw [bindR_ok, bindR_ok, slice_lh st t low high ⟨b1, b2⟩, hmid]
end Mine

end
section
set_option autoImplicit false
namespace Mine
end Mine

end
section
set_option autoImplicit false
namespace Mine
noncomputable def Ex (o : Out) (k : K) (st : Store) : Prop := ∃ s, o = .exc k s ∧ s.store = st
theorem ex_cons {F : Phi} {c : CS} {cs : List CS} {lk : Nat → Bool} {s p : St} {k : K} {st : Store} (h : Nx (exec F c lk s) p) (e : Ex (execs F cs lk p) k st) : Ex (execs F (c :: cs) lk s) k st := by
  obtain ⟨s1, h1, e1⟩ := h
  obtain ⟨s2, h2, e2⟩ := e
  have := monoXs (F := F) cs (lk := lk) e1
  rw [h2] at this
  obtain ⟨b, hb, eb⟩ := this
  exact ⟨b, by rw [x_cons, h1, thenO_next, hb], by rw [← eb.2, e2]⟩
theorem ex_here {F : Phi} {c : CS} {cs : List CS} {lk : Nat → Bool} {s : St} {k : K} {st : Store} (h : Ex (exec F c lk s) k st) : Ex (execs F (c :: cs) lk s) k st := by
  obtain ⟨s1, h1, e1⟩ := h
  exact ⟨s1, by rw [x_cons, h1, thenO_exc], e1⟩
theorem ex_if {F : Phi} {t : CE} {a b : List CS} {lk : Nat → Bool} {s : St} {k : K} {st : Store} (h : evalT F s.store t s.vars = .ok true) (e : Ex (execs F a lk s) k st) : Ex (exec F (.ifs t a b) lk s) k st := by
  obtain ⟨s1, h1, e1⟩ := e
  exact ⟨s1, by rw [x_ifs, h, outR_ok, if_pos rfl, h1], e1⟩
noncomputable def Odd (x : V) : Prop := (∃ i, x = .int i) ∨ x = .none ∨ x = .bytes ∨ x = .list [.str [44]]
theorem odd_aug {x : V} (h : Odd x) (a : Tx) : augV (.str a) x = .error (.exc .type) := by
  rcases h with ⟨i, rfl⟩ | rfl | rfl | rfl <;> rfl
theorem odd_cmp {x : V} (h : Odd x) (st : Store) (a : Tx) : cmpop st .eq x (.str a) = .ok false := by
  rcases h with ⟨i, rfl⟩ | rfl | rfl | rfl <;> rfl
theorem ex_aug {F : Phi} {x : Nat} {e : CE} {lk : Nat → Bool} {ρ : Vars} {st : Store} {a : Tx} {b : V} (h0 : ρ[x]? = some (some (.str a))) (h1 : evalE F st e ρ = .ok b) (h2 : Odd b) : Ex (exec F (.aug x e) lk ⟨ρ, st⟩) .type st :=
  ⟨⟨ρ, st⟩, by rw [x_aug]; show (match ρ[x]? with | some (some a) => _ | _ => _) = _; rw [h0]; show outR (evalE F st e ρ) _ _ = _; rw [h1, outR_ok, odd_aug h2]; rfl, rfl⟩
theorem odd_turn (F : Phi) (v : V) (st : Store) (lk : Nat → Bool) (s : HS) {x : V} (h : Odd x) : Ex (turnL F (.one 5) httpBody lk x (PH v st s)) .type (st ++ [.list (s.res.map .str)]) := by
  obtain ⟨r, p, m⟩ := s
  have hc := odd_cmp h
  unfold turnL PH
  rw [bindT_one, thenO_next]
  unfold httpBody
  cases m with
  | esc => exact ex_here (ex_if rfl (ex_here (ex_aug rfl rfl h)))
  | quo => exact ex_cons (nx_skip rfl) (ex_here (ex_if rfl (ex_cons (nx_if false (et_cmp rfl rfl (hc _ _)) (fun h => by cases h) fun _ => nx_end (nx_skip (et_cmp rfl rfl (hc _ _)))) (ex_here (ex_aug rfl rfl h)))))
  | out => exact ex_cons (nx_skip rfl) (ex_cons (nx_skip rfl) (ex_cons (nx_skip (et_cmp rfl rfl (hc _ _))) (ex_cons (nx_skip (et_cmp rfl rfl (hc _ _))) (ex_here (ex_aug rfl rfl h)))))

section
variable {F : Phi} {lk : Nat → Bool} {xs : List V} {j k : Nat} {st : Store}
theorem next_at {p : Nat} {o : Obj} (hj : st[j]? = some (.iter k (some p))) (hk : st[k]? = some (.list xs)) : nextIt (st ++ [o]) j = match xs[p]? with
    | some x => some (some x, st.set j (.iter k (some (p + 1))) ++ [o])
    | none => some (none, st.set j (.iter k none) ++ [o]) := by
  have h1 := (List.getElem?_eq_some_iff.mp hj).1
  have h2 := (List.getElem?_eq_some_iff.mp hk).1
  unfold nextIt
  rw [List.getElem?_append_left h1, hj]
  simp only
  rw [List.getElem?_append_left h2, hk]
  simp only
  rw [List.set_append_left _ _ h1, List.set_append_left _ _ h1]
  all_goals (cases xs[p]? <;> rfl)
theorem mono_turn (x : V) (p s : St) (e : ExtS p s) : LeO (turnL F (.one 5) httpBody lk x p) (turnL F (.one 5) httpBody lk x s) := LeO.thenO (LeO.bindT e) fun p s e => monoXs _ e
theorem it_words (hlk : lk st.length = false) (hjk : j ≠ k) : ∀ (ws : List Tx) (p : Nat) (st' : Store) (s : HS) (n : Nat) (σ : St) (rest : List V), st'.length = st.length → st'[j]? = some (.iter k (some p)) → st'[k]? = some (.list xs) → xs.drop p = ws.map .str ++ rest →
    s.part.length + sumLen ws ≤ 900000 → s.res.length + ws.length ≤ 900000 → ws.length ≤ n → ExtS (PH (.loc j) st' s) σ →
    ∃ σ', ExtS (PH (.loc j) (st'.set j (.iter k (some (p + ws.length)))) (ws.foldl hstep s)) σ' ∧ forIter (turnL F (.one 5) httpBody lk) j n σ = forIter (turnL F (.one 5) httpBody lk) j (n - ws.length) σ'
  | [], p, st', s, n, σ, rest, hl, hj, hk, hx, h1, h2, hn, e => by
    have hlt := (List.getElem?_eq_some_iff.mp hj)
    refine ⟨σ, ?_, rfl⟩
    have : st'.set j (.iter k (some (p + ([] : List Tx).length))) = st' := by
      obtain ⟨h1, h2⟩ := hlt
      rw [List.length_nil, Nat.add_zero, ← h2, List.set_getElem_self]
    rw [this]; exact e
  | w :: ws, p, st', s, n, σ, rest, hl, hj, hk, hx, h1, h2, hn, e => by
    obtain ⟨n, rfl⟩ : ∃ m, n = m + 1 := ⟨n - 1, by simp at hn; omega⟩
    have hj1 := (List.getElem?_eq_some_iff.mp hj).1
    have hp : xs[p]? = some (.str w) := by
      have := congrArg List.head? hx
      rw [List.head?_drop] at this
      simpa using this
    have hd : xs.drop (p + 1) = ws.map .str ++ rest := by
      have := congrArg List.tail hx
      rw [List.tail_drop] at this
      simpa using this
    have hst : σ.store = st' ++ [.list (s.res.map .str)] := e.2.symm
    rw [sumLen] at h1
    have hs := hstep_part s w
    have ht := http_turn F (.loc j) (st'.set j (.iter k (some (p + 1)))) lk (by rw [List.length_set, hl]; exact hlk) s w (by omega) (by simp at h2; omega)
    have hm := mono_turn (F := F) (lk := lk) (.str w) (PH (.loc j) (st'.set j (.iter k (some (p + 1)))) s) { σ with store := st'.set j (.iter k (some (p + 1))) ++ [.list (s.res.map .str)] } ⟨by
      have := e.1
      unfold PH at this ⊢
      rw [List.length_set]; exact this, rfl⟩
    have hj' : (st'.set j (.iter k (some (p + 1))))[j]? = some (.iter k (some (p + 1))) := List.getElem?_set_self hj1
    have hk' : (st'.set j (.iter k (some (p + 1))))[k]? = some (.list xs) := by rw [List.getElem?_set_ne hjk]; exact hk
    have go : ∀ b, ExtS (PH (.loc j) (st'.set j (.iter k (some (p + 1)))) (hstep s w)) b → ∃ σ', ExtS (PH (.loc j) (st'.set j (.iter k (some (p + (w :: ws).length)))) ((w :: ws).foldl hstep s)) σ' ∧ forIter (turnL F (.one 5) httpBody lk) j n b = forIter (turnL F (.one 5) httpBody lk) j (n + 1 - (w :: ws).length) σ' := by
      intro b eb
      obtain ⟨σ', e1, e2⟩ := it_words hlk hjk ws (p + 1) _ (hstep s w) n b rest (by rw [List.length_set]; exact hl) hj' hk' hd (by omega) (by simp at h2; omega) (by simp at hn; omega) eb
      refine ⟨σ', ?_, by rw [e2]; congr 1; simp⟩
      rw [List.set_set, show p + 1 + ws.length = p + (w :: ws).length by simp; omega] at e1
      exact e1
    rw [forIter, hst, next_at hj hk, hp]
    simp only
    cases hq : turnL F (.one 5) httpBody lk (.str w) (PH (.loc j) (st'.set j (.iter k (some (p + 1)))) s) with
    | next a =>
      rw [hq] at ht hm
      obtain ⟨b, hb, eb⟩ := hm
      rw [hb]
      exact go b (ExtS.trans ht eb)
    | cont a =>
      rw [hq] at ht hm
      obtain ⟨b, hb, eb⟩ := hm
      rw [hb]
      exact go b (ExtS.trans ht eb)
    | _ => rw [hq] at ht; exact ht.elim
end
theorem lkI (st : Store) (j : Nat) : (fun i => decide (i < st.length) && i != j) st.length = false := by simp
theorem iter_none {st : Store} {j k : Nat} {p : Option Nat} {o : Obj} (hj : st[j]? = some (.iter k p)) : iterV (st ++ [o]) (.loc j) = none ∧ iterAt (st ++ [o]) (.loc j) = some j := by
  have h1 := (List.getElem?_eq_some_iff.mp hj).1
  have h2 : (st ++ [o])[j]? = some (.iter k p) := by rw [List.getElem?_append_left h1, hj]
  constructor
  · simp [iterV, items, h2]
  · simp [iterAt, h2]
theorem for_is {F : Phi} {st : Store} {j k : Nat} {p : Option Nat} (hj : st[j]? = some (.iter k p)) (s : HS) : exec F (.for_ (.one 5) (.var 0) httpBody) (fun i => decide (i < st.length) && i != j) (PH (.loc j) st s) = forIter (turnL F (.one 5) httpBody (fun i => decide (i < st.length) && i != j)) j fuel (PH (.loc j) st s) := by
  obtain ⟨h1, h2⟩ := iter_none (o := .list (s.res.map .str)) hj
  rw [x_for, e_var]
  show outR (.ok (V.loc j)) _ _ = _
  rw [outR_ok]
  show (match iterV (st ++ [.list (s.res.map .str)]) (.loc j) with | none => _ | some xs => _) = _
  rw [h1]
  show forI _ _ _ _ _ _ = _
  unfold forI
  show (match iterAt (st ++ [.list (s.res.map .str)]) (.loc j) with | none => _ | some j => _) = _
  rw [h2]
  simp
theorem http_odd (F : Phi) {st : Store} {j k p : Nat} {xs rest : List V} {ws : List Tx} {x : V} (hjk : j ≠ k) (hj : st[j]? = some (.iter k (some p))) (hk : st[k]? = some (.list xs)) (hx : xs.drop p = ws.map .str ++ x :: rest) (ho : Odd x) (hn : ws.length ≤ 1000) (hl : sumLen ws ≤ 900000) :
    callFnI F httpF st j = .ok (.tup [.int 0, .int ((p + ws.length + 1 : Nat) : Int)]) := by
  have hk1 := (List.getElem?_eq_some_iff.mp hk).1
  have hj1 := (List.getElem?_eq_some_iff.mp hj).1
  obtain ⟨σ', e1, e2⟩ := it_words (F := F) (lk := fun i => decide (i < st.length) && i != j) (st := st) (lkI st j) hjk ws p st ⟨[], [], .out⟩ fuel (PH (.loc j) st ⟨[], [], .out⟩) (x :: rest) rfl hj hk hx (by simpa using hl) (by simp; omega) (by simp [fuel]; omega) (ExtS.refl _)
  have hx' : xs[p + ws.length]? = some x := by
    have := congrArg (fun l => l[ws.length]?) hx
    simpa [List.getElem?_drop] using this
  have hj' : (st.set j (.iter k (some (p + ws.length))))[j]? = some (.iter k (some (p + ws.length))) := List.getElem?_set_self hj1
  have hk' : (st.set j (.iter k (some (p + ws.length))))[k]? = some (.list xs) := by rw [List.getElem?_set_ne hjk]; exact hk
  generalize ws.foldl hstep ⟨[], [], .out⟩ = s at e1 e2
  obtain ⟨n, hn'⟩ : ∃ m, fuel - ws.length = m + 1 := ⟨fuel - ws.length - 1, by simp [fuel]; omega⟩
  have ht := odd_turn F (.loc j) (st.set j (.iter k (some (p + ws.length + 1)))) (fun i => decide (i < st.length) && i != j) s ho
  have hm := mono_turn (F := F) (lk := fun i => decide (i < st.length) && i != j) x (PH (.loc j) (st.set j (.iter k (some (p + ws.length + 1)))) s) { σ' with store := st.set j (.iter k (some (p + ws.length + 1))) ++ [.list (s.res.map .str)] } ⟨by
      have := e1.1
      unfold PH at this ⊢
      rw [List.length_set] at this ⊢; exact this, rfl⟩
  have he : Ex (exec F (.for_ (.one 5) (.var 0) httpBody) (fun i => decide (i < st.length) && i != j) (PH (.loc j) st ⟨[], [], .out⟩)) .type (st.set j (.iter k (some (p + ws.length + 1))) ++ [.list (s.res.map .str)]) := by
    rw [for_is hj, e2, hn', forIter, ← e1.2]
    show Ex (match nextIt (st.set j (.iter k (some (p + ws.length))) ++ [.list (s.res.map .str)]) j with | none => _ | some (none, st) => _ | some (some x, st) => _) _ _
    rw [next_at hj' hk', hx']
    simp only [List.set_set]
    obtain ⟨s1, h1, h2⟩ := ht
    rw [h1] at hm
    obtain ⟨b, hb, eb⟩ := hm
    rw [hb]
    exact ⟨b, rfl, by rw [← eb.2, h2]⟩
  have hbody : Ex (execs F httpF.body (fun i => decide (i < st.length) && i != j) ⟨[some (.loc j)] ++ List.replicate 5 none, st⟩) .type (st.set j (.iter k (some (p + ws.length + 1))) ++ [.list (s.res.map .str)]) := by
    show Ex (execs F (_ :: _ :: _ :: _ :: _) _ _) _ _
    refine ex_cons (p := ⟨[some (.loc j), some (.loc st.length), none, none, none, none], st ++ [.list []]⟩) (.of (by simp)) ?_
    refine ex_cons (p := ⟨[some (.loc j), some (.loc st.length), some (.str []), none, none, none], st ++ [.list []]⟩) (nx_set rfl) ?_
    exact ex_cons (p := PH (.loc j) st ⟨[], [], .out⟩) (.of (by simp [PH])) (ex_here he)
  obtain ⟨s1, h1, h2⟩ := hbody
  unfold callFnI
  rw [hj]
  simp only
  rw [if_pos ⟨rfl, hk1⟩]
  show (match execs F httpF.body (fun i => decide (i < st.length) && i != j) ⟨[some (.loc j)] ++ List.replicate 5 none, st⟩ with | .ret v s => _ | .exc .type s => _ | _ => _) = _
  rw [h1]
  simp only
  rw [h2, List.getElem?_append_left (by rw [List.length_set]; exact hj1), List.getElem?_set_self hj1]
  simp [itOut, pV]
theorem http_end (F : Phi) {st : Store} {j k p : Nat} {xs : List V} {ws : List Tx} (hjk : j ≠ k) (hj : st[j]? = some (.iter k (some p))) (hk : st[k]? = some (.list xs)) (hx : xs.drop p = ws.map .str) (hn : ws.length ≤ 1000) (hl : sumLen ws ≤ 900000) :
    callFnI F httpF st j = .ok (.tup [.tup [.list ((httpW ws).map .str)], .none]) := by
  have hk1 := (List.getElem?_eq_some_iff.mp hk).1
  have hj1 := (List.getElem?_eq_some_iff.mp hj).1
  obtain ⟨σ', e1, e2⟩ := it_words (F := F) (lk := fun i => decide (i < st.length) && i != j) (st := st) (lkI st j) hjk ws p st ⟨[], [], .out⟩ fuel (PH (.loc j) st ⟨[], [], .out⟩) [] rfl hj hk (by simpa using hx) (by simpa using hl) (by simp; omega) (by simp [fuel]; omega) (ExtS.refl _)
  have hx' : xs[p + ws.length]? = none := by
    have := congrArg (fun l => l[ws.length]?) hx
    simpa [List.getElem?_drop] using this
  have hj' : (st.set j (.iter k (some (p + ws.length))))[j]? = some (.iter k (some (p + ws.length))) := List.getElem?_set_self hj1
  have hk' : (st.set j (.iter k (some (p + ws.length))))[k]? = some (.list xs) := by rw [List.getElem?_set_ne hjk]; exact hk
  have hS := fold_go ws ⟨[], [], .out⟩
  have hres := fold_res ws ⟨[], [], .out⟩
  generalize ws.foldl hstep ⟨[], [], .out⟩ = s at e1 e2 hS hres
  have hW : httpW ws = (if s.part = [] then s.res else s.res ++ [s.part]).map strip := by
    obtain ⟨r, p, m⟩ := s
    simp only [ahead_nil, List.nil_append] at hS
    unfold httpW; rw [← hS, shut_snoc]
  obtain ⟨n, hn'⟩ : ∃ m, fuel - ws.length = m + 1 := ⟨fuel - ws.length - 1, by simp [fuel]; omega⟩
  have he : Nx (exec F (.for_ (.one 5) (.var 0) httpBody) (fun i => decide (i < st.length) && i != j) (PH (.loc j) st ⟨[], [], .out⟩)) (PH (.loc j) (st.set j (.iter k none)) s) := by
    rw [for_is hj, e2, hn', forIter, ← e1.2]
    show Nx (match nextIt (st.set j (.iter k (some (p + ws.length))) ++ [.list (s.res.map .str)]) j with | none => _ | some (none, st) => _ | some (some x, st) => _) _
    rw [next_at hj' hk', hx']
    simp only [List.set_set]
    refine ⟨_, rfl, ?_, rfl⟩
    have := e1.1
    unfold PH at this ⊢
    rw [List.length_set] at this ⊢
    exact this
  have hbody := http_head (k := httpF.body.drop 3) F st (.loc j) (fun i => decide (i < st.length) && i != j) (rt_cons he (http_tail F (st.set j (.iter k none)) (.loc j) (fun i => decide (i < st.length) && i != j) (by simp) s (by simp at hres; omega)))
  obtain ⟨s1, h1, h2⟩ := hbody
  unfold callFnI
  rw [hj]
  simp only
  rw [if_pos ⟨rfl, hk1⟩]
  show (match execs F (httpF.body.take 3 ++ httpF.body.drop 3) (fun i => decide (i < st.length) && i != j) ⟨[V.loc j].map some ++ List.replicate 5 none, st⟩ with | .ret v s => _ | .exc .type s => _ | _ => _) = _
  rw [h1]
  simp only
  rw [fin_list 0 (pure_strs _), h2, List.getElem?_append_left (by rw [List.length_set]; exact hj1), List.getElem?_set_self hj1, hW]
  simp [itOut, pV]
theorem http_ended (F : Phi) {st : Store} {j k : Nat} (hjk : j ≠ k) (hk1 : k < st.length) (hj : st[j]? = some (.iter k none)) : callFnI F httpF st j = .ok (.tup [.tup [.list []], .none]) := by
  have hj1 := (List.getElem?_eq_some_iff.mp hj).1
  have he : Nx (exec F (.for_ (.one 5) (.var 0) httpBody) (fun i => decide (i < st.length) && i != j) (PH (.loc j) st ⟨[], [], .out⟩)) (PH (.loc j) st ⟨[], [], .out⟩) := by
    rw [for_is hj, show fuel = 99999 + 1 from rfl, forIter]
    have : nextIt (PH (.loc j) st ⟨[], [], .out⟩).store j = some (none, (PH (.loc j) st ⟨[], [], .out⟩).store) := by
      unfold nextIt
      show (match (st ++ [_])[j]? with | some (.iter _ none) => _ | some (.iter k (some p)) => _ | _ => _) = _
      rw [List.getElem?_append_left hj1, hj]
    rw [this]
    exact ⟨_, rfl, ExtS.refl _⟩
  have hbody := http_head (k := httpF.body.drop 3) F st (.loc j) (fun i => decide (i < st.length) && i != j) (rt_cons he (http_tail F st (.loc j) (fun i => decide (i < st.length) && i != j) (by simp) ⟨[], [], .out⟩ (by simp)))
  obtain ⟨s1, h1, h2⟩ := hbody
  unfold callFnI
  rw [hj]
  simp only
  rw [if_pos ⟨rfl, hk1⟩]
  show (match execs F (httpF.body.take 3 ++ httpF.body.drop 3) (fun i => decide (i < st.length) && i != j) ⟨[V.loc j].map some ++ List.replicate 5 none, st⟩ with | .ret v s => _ | .exc .type s => _ | _ => _) = _
  rw [h1]
  simp only
  rw [fin_list 0 (pure_strs _), h2, List.getElem?_append_left hj1, hj]
  simp [itOut, pV]
end Mine

end
section
set_option autoImplicit false
namespace Mine
noncomputable def hd1 (l : List Tx) : Tx := joinL [] (l.take 1)
theorem hd1_cons (w : Tx) (l : List Tx) : hd1 (w :: l) = w := by simp [hd1, joinL]
theorem goW_esc (l : List Tx) : goW .esc l = ahead (hd1 l) (goW .quo (l.drop 1)) := by
  cases l with
  | nil => rfl
  | cons w l => rw [goW, hd1_cons]; rfl
theorem goW_plain {w : Tx} (l : List Tx) (h : w ≠ [92]) (h' : w ≠ [34]) : goW .quo (w :: l) = ahead w (goW .quo l) := by rw [goW, if_neg h, if_neg h']
theorem goW_close {l : List Tx} (h : l = [] ∨ ∃ r, l = [34] :: r) : goW .quo l = ahead (hd1 l) (goW .out (l.drop 1)) := by
  rcases h with rfl | ⟨r, rfl⟩
  · rfl
  · rw [goW, if_neg (by decide), if_pos rfl, hd1_cons]; rfl
theorem sumLen_hd (l : List Tx) : (hd1 l).length + sumLen (l.drop 1) = sumLen l := by
  cases l with
  | nil => rfl
  | cons w l => rw [hd1_cons]; rfl
theorem sumLen_drop (n : Nat) : ∀ l : List Tx, sumLen (l.drop n) ≤ sumLen l := by
  induction n with
  | zero => intro l; exact Nat.le_refl _
  | succ n ih =>
    intro l
    cases l with
    | nil => exact Nat.le_refl _
    | cons w l => have := ih l; rw [sumLen]; simp only [List.drop_succ_cons]; omega
theorem sumLen_take1 (l : List Tx) : sumLen (l.take 1) + (l.take 1).length ≤ sumLen l + 1 := by
  cases l with
  | nil => simp [sumLen]
  | cons w l => simp [sumLen]
theorem drop_get {l : List Tx} {u : Nat} (h : u < l.length) : l.drop u = l.getD u [] :: l.drop (u + 1) := by
  rw [List.drop_eq_getElem_cons h, List.getD_eq_getElem?_getD, List.getElem?_eq_getElem h, Option.getD_some]
theorem sliceL_nat {α : Type} (t : List α) (i j : Nat) : sliceL (some (i : Int)) (some (j : Int)) t = (t.drop i).take (j - i) := by
  have h1 : ∀ i : Nat, clamp t.length (i : Int) = min i t.length := by intro i; unfold clamp; rw [if_pos (by omega)]; simp
  simp only [sliceL, h1]
  rcases Nat.lt_or_ge t.length i with h | h
  · have h2 : min i t.length = t.length := by omega
    rw [h2, List.drop_length, List.drop_eq_nil_of_le (Nat.le_of_lt h)]; simp
  · rw [Nat.min_eq_left h]
    rcases Nat.lt_or_ge t.length j with h' | h'
    · rw [Nat.min_eq_right (by omega), List.take_of_length_le (by simp), List.take_of_length_le (by simp; omega)]
    · rw [Nat.min_eq_left h']
theorem sliceL_rest {α : Type} (t : List α) (i : Nat) : sliceL (some (i : Int)) none t = t.drop i := by
  have h1 : clamp t.length (i : Int) = min i t.length := by unfold clamp; rw [if_pos (by omega)]; simp
  simp only [sliceL, h1]
  rw [List.take_of_length_le (by simp)]
  rcases Nat.lt_or_ge t.length i with h | h
  · rw [Nat.min_eq_right (by omega), List.drop_length, List.drop_eq_nil_of_le (by omega)]
  · rw [Nat.min_eq_left h]
theorem ev_lenS {F : Phi} {a : CE} {ρ : Vars} {st : Store} {v : V} {ts : List Tx} (h1 : evalE F st a ρ = .ok v) (h : Stands st v (ts.map .str)) : evalE F st (.prim .len [a]) ρ = .ok (.int ts.length) := by
  have := ev_lenL h1 h
  rwa [List.length_map] at this
theorem stands_at {st : Store} {v : V} {ts : List Tx} (h : Stands st v (ts.map .str)) {u : Nat} (hu : u < ts.length) : index st v (.int u) = .ok (.str (ts.getD u [])) := by
  refine index_at st h ?_
  rw [List.getElem?_map, List.getD_eq_getElem?_getD, List.getElem?_eq_getElem hu]; rfl
theorem slice_tailS {F : Phi} {a b : CE} {ρ : Vars} {st : Store} {v : V} {ts : List Tx} {u : Nat} (h1 : evalE F st a ρ = .ok v) (h : Stands st v (ts.map .str)) (h2 : evalE F st b ρ = .ok (.int u)) : evalE F st (.slice a (some b) none .one) ρ = .ok (.list ((ts.drop u).map .str)) := by
  rw [e_slice, h1, bindR_ok, eo_some, h2, bindR_ok, bindR_ok, eo_none, bindR_ok]
  have hi := stands_items h
  have hs : sliceL (some (u : Int)) none (ts.map V.str) = (ts.drop u).map .str := by rw [sliceL_rest, List.map_drop]
  rcases h with rfl | ⟨j, rfl, h⟩ <;> simp only [sliceV, bound, hi, hs]
theorem ev_hd {F : Phi} {a b : CE} {ρ : Vars} {st : Store} {ts : List Tx} {u : Nat} (h1 : evalE F st a ρ = .ok (.list (ts.map .str))) (h2 : evalE F st b ρ = .ok (.int u)) (hl : sumLen ts ≤ 900000) :
    evalE F st (.meth .join (.str []) [.slice a (some b) (some (.bin .add b (.int 1))) .one]) ρ = .ok (.str (hd1 (ts.drop u))) := by
  refine ev_join (v := .list (((ts.drop u).take 1).map .str)) (ts := (ts.drop u).take 1) ?_ (stands_list _ _) (by decide) ?_
  · rw [e_slice, h1, bindR_ok, eo_some, h2, bindR_ok, bindR_ok, eo_some, e_bin, h2, bindR_ok, e_int, bindR_ok, b_add, bindR_ok, bindR_ok]
    have := sliceL_nat (ts.map V.str) u (u + 1)
    rw [show u + 1 - u = 1 by omega, ← List.map_drop, ← List.map_take] at this
    simp only [sliceV, bound, items]
    rw [show (u : Int) + 1 = ((u + 1 : Nat) : Int) by omega, this]
  · have h3 := sumLen_take1 (ts.drop u)
    have h4 := sumLen_drop u ts
    omega

noncomputable def QP (rest : List Tx) (st : Store) (s : Nat × Tx) : St := ⟨[some (.list (rest.map .str)), some (.int s.1), some (.str s.2)], st⟩
theorem wordsQ_call (F : Phi) (st : Store) (rest : List Tx) (hn : rest.length ≤ 1000) (hl : sumLen rest ≤ 100000) : ∃ (b : Tx) (u : Nat), callFn F f12_1 st [.list (rest.map .str)] = .ok (.tup [.str b, .int u]) ∧
    goW .quo rest = ahead b (goW .out (rest.drop u)) ∧ b.length + sumLen (rest.drop u) ≤ sumLen rest ∧ 1 ≤ u := by
  obtain ⟨⟨u, b⟩, ⟨a1, a2⟩, a3, nx⟩ := nx_while (F := F) (t := CE.and (CE.cmp (COp.lt) (CE.var 1) (CE.prim (Prim.len) [CE.var 0])) (CE.cmp (COp.ne) (CE.idx (CE.var 0) (CE.var 1)) (CE.str [34]))) (body := f12_1_b0) (lk := fun i => decide (i < st.length))
    (QP rest st) (fun s => goW .quo rest = ahead s.2 (goW .quo (rest.drop s.1)) ∧ s.2.length + sumLen (rest.drop s.1) ≤ sumLen rest) (fun s => decide (s.1 < rest.length) && !(rest.getD s.1 [] == [34])) (fun s => rest.length - s.1)
    (by
      rintro ⟨u, b⟩ ⟨h1, h2⟩
      refine et_and (x := decide (u < rest.length)) (et_cmp rfl (ev_lenS rfl (stands_list _ _)) (by rw [cmp_lt]; congr 1; simp)) fun hlt => ?_
      have hlt' : u < rest.length := by simpa using hlt
      exact et_cmp (ev_idx rfl rfl (stands_at (stands_list _ _) hlt')) rfl (cmp_strn ..))
    (by
      rintro ⟨u, b⟩ ⟨h1, h2⟩ hc
      rw [Bool.and_eq_true] at hc
      have hlt : u < rest.length := by simpa using hc.1
      have hne : rest.getD u [] ≠ [34] := by simpa using hc.2
      have hd := drop_get hlt
      simp only at h1 h2
      have step : ∀ (v : Nat) (ρ3 : Tx), v < 2000 → (b ++ ρ3).length ≤ 16777216 → ρ3 = hd1 (rest.drop v) → Nx (execs F [CS.assign (Tgt.one 2) (AE.old (CE.bin (BOp.add) (CE.var 2) (CE.meth (Prim.join) (CE.str []) [CE.slice (CE.var 0) (some (CE.var 1)) (some (CE.bin (BOp.add) (CE.var 1) (CE.int 1))) (Step.one)]))),
          CS.assign (Tgt.one 1) (AE.old (CE.bin (BOp.add) (CE.var 1) (CE.int 1)))] (fun i => decide (i < st.length)) (QP rest st (v, b))) (QP rest st (v + 1, b ++ ρ3)) := by
        rintro v ρ3 hv hb rfl
        refine nx_cons (nx_set (v := .str (b ++ hd1 (rest.drop v))) (ev_add rfl (ev_hd rfl rfl (by omega)) (by simpa using hb))) (nx_end ?_)
        have := nx_set (F := F) (x := 1) (e := CE.bin (BOp.add) (CE.var 1) (CE.int 1)) (lk := fun i => decide (i < st.length)) (ρ := [some (.list (rest.map .str)), some (.int v), some (.str (b ++ hd1 (rest.drop v)))]) (st := st) (v := .int ((v + 1 : Nat) : Int)) (by rw [e_bin]; rfl)
        exact this
      by_cases he : rest.getD u [] = [92]
      · rw [he] at hd
        have hs := sumLen_hd (rest.drop (u + 1))
        rw [List.drop_drop] at hs
        rw [hd, sumLen] at h2
        refine ⟨(u + 2, b ++ hd1 (rest.drop (u + 1))), ⟨?_, ?_⟩, by simp only; omega, ?_⟩
        · simp only
          rw [h1, hd, goW, if_pos rfl, goW_esc, ahead_ahead, List.drop_drop]
        · have e2 : u + 2 = u + 1 + 1 := rfl
          simp only [List.length_append, List.length_cons, e2] at h2 ⊢
          omega
        · obtain ⟨s, h, e⟩ := nx_cons (nx_do (F := F) (t := CE.cmp (COp.eq) (CE.idx (CE.var 0) (CE.var 1)) (CE.str [92])) (b := []) (lk := fun i => decide (i < st.length)) (s := QP rest st (u, b)) (et_cmp (ev_idx rfl rfl (stands_at (stands_list _ _) hlt)) rfl (by rw [cmp_str, he]; rfl))
            (nx_end (nx_set (F := F) (x := 1) (e := CE.bin (BOp.add) (CE.var 1) (CE.int 1)) (v := .int ((u + 1 : Nat) : Int)) (by rw [e_bin]; rfl)))) (step (u + 1) _ (by omega) (by rw [List.length_append]; omega) rfl)
          show Tn _ (execs F f12_1_b0 _ _)
          unfold f12_1_b0
          rw [h]; exact e
      · have hw := goW_plain (rest.drop (u + 1)) he hne
        rw [← hd] at hw
        have hh : hd1 (rest.drop u) = rest.getD u [] := by rw [hd, hd1_cons]
        rw [hd, sumLen] at h2
        refine ⟨(u + 1, b ++ hd1 (rest.drop u)), ⟨?_, ?_⟩, by simp only; omega, ?_⟩
        · simp only
          rw [h1, hw, ahead_ahead, hh]
        · simp only [List.length_append, hh]
          omega
        · obtain ⟨s, h, e⟩ := nx_cons (nx_skip (F := F) (t := CE.cmp (COp.eq) (CE.idx (CE.var 0) (CE.var 1)) (CE.str [92])) (a := [CS.assign (Tgt.one 1) (AE.old (CE.bin (BOp.add) (CE.var 1) (CE.int 1)))]) (lk := fun i => decide (i < st.length)) (s := QP rest st (u, b)) (et_cmp (ev_idx rfl rfl (stands_at (stands_list _ _) hlt)) rfl (by rw [cmp_str]; congr 1; simpa using he)))
            (step u _ (by omega) (by rw [List.length_append, hh]; omega) rfl)
          show Tn _ (execs F f12_1_b0 _ _)
          unfold f12_1_b0
          rw [h]; exact e) (0, []) (QP rest st (0, [])) ⟨(ahead_nil ..).symm, by simp⟩ (by show rest.length - 0 < 100000; omega) (ExtS.refl _)
  simp only at a1 a2 a3
  have hex : rest.drop u = [] ∨ ∃ r, rest.drop u = [34] :: r := by
    rw [Bool.and_eq_false_iff] at a3
    by_cases hlt : u < rest.length
    · right
      rcases a3 with h | h
      · simp [hlt] at h
      · have : rest.getD u [] = [34] := by simpa using h
        exact ⟨_, by rw [drop_get hlt, this]⟩
    · exact .inl (List.drop_eq_nil_of_le (by omega))
  have hs := sumLen_hd (rest.drop u)
  rw [List.drop_drop] at hs
  refine ⟨b ++ hd1 (rest.drop u), u + 1, ?_, ?_, ?_, by omega⟩
  · refine call_of (v := .tup [.str (b ++ hd1 (rest.drop u)), .int ((u + 1 : Nat) : Int)]) (st' := st) rfl ?_ rfl
    refine rt_cons (nx_set (v := .int 0) rfl) ?_
    refine rt_cons (nx_set (v := .str []) rfl) ?_
    refine rt_cons nx ?_
    refine rt_ret ?_
    have h1 := ev_add (F := F) (st := st) (ρ := [some (.list (rest.map .str)), some (.int u), some (.str b)]) (a := .var 2) (x := b) rfl (ev_hd (a := .var 0) (b := .var 1) (ts := rest) (u := u) rfl rfl (by omega)) (by omega)
    show evalE F st (.tup [_, _]) [some (.list (rest.map .str)), some (.int u), some (.str b)] = _
    rw [e_tup, es_cons, h1, bindR_ok, es_cons, e_bin]
    rfl
  · rw [a1, goW_close hex, ahead_ahead, List.drop_drop]
  · rw [List.length_append]; omega
end Mine

end
section
set_option autoImplicit false
namespace Mine
theorem goW_mem : ∀ (m : Md) (ws : List Tx) (p : Tx), p ∈ goW m ws → ∀ c ∈ p, ∃ w ∈ ws, c ∈ w
  | m, [], p, hp, c, hc => by
    have : goW m [] = [[]] := by cases m <;> rfl
    rw [this] at hp
    rw [List.mem_singleton.mp hp] at hc
    cases hc
  | m, w :: ws, p, hp, c, hc => by
    have up : ∀ m', p ∈ goW m' ws → ∃ w' ∈ w :: ws, c ∈ w' := fun m' h => by
      obtain ⟨w', h1, h2⟩ := goW_mem m' ws p h c hc
      exact ⟨w', List.mem_cons_of_mem _ h1, h2⟩
    have ah : ∀ m', p ∈ ahead w (goW m' ws) → ∃ w' ∈ w :: ws, c ∈ w' := fun m' h => by
      obtain ⟨q, qs, e⟩ := goW_ne m' ws
      rw [e] at h
      rcases List.mem_cons.mp h with h | h
      · rw [h] at hc
        rcases List.mem_append.mp hc with h | h
        · exact ⟨w, List.mem_cons_self .., h⟩
        · obtain ⟨w', h1, h2⟩ := goW_mem m' ws q (by rw [e]; exact List.mem_cons_self ..) c h
          exact ⟨w', List.mem_cons_of_mem _ h1, h2⟩
      · exact up m' (by rw [e]; exact List.mem_cons_of_mem _ h)
    cases m <;> rw [goW] at hp
    · split at hp
      · rcases List.mem_cons.mp hp with h | h
        · rw [h] at hc; cases hc
        · exact up _ h
      · split at hp <;> exact ah _ hp
    · split at hp
      · exact up _ hp
      · split at hp <;> exact ah _ hp
    · exact ah _ hp
theorem goW_sum : ∀ (m : Md) (ws : List Tx), sumLen (goW m ws) ≤ sumLen ws ∧ (goW m ws).length ≤ ws.length + 1
  | m, [] => by
    have : goW m [] = [[]] := by cases m <;> rfl
    rw [this]; simp [sumLen]
  | m, w :: ws => by
    have ah : ∀ m', sumLen (ahead w (goW m' ws)) ≤ sumLen (w :: ws) ∧ (ahead w (goW m' ws)).length ≤ (w :: ws).length + 1 := fun m' => by
      obtain ⟨h1, h2⟩ := goW_sum m' ws
      obtain ⟨q, qs, e⟩ := goW_ne m' ws
      rw [e] at h1 h2 ⊢
      simp only [ahead, sumLen, List.length_append, List.length_cons] at h1 h2 ⊢
      omega
    have up : ∀ m', sumLen (goW m' ws) ≤ sumLen (w :: ws) ∧ (goW m' ws).length ≤ (w :: ws).length := fun m' => by
      obtain ⟨h1, h2⟩ := goW_sum m' ws
      rw [sumLen, List.length_cons]; omega
    cases m <;> rw [goW]
    · split
      · have := up .out
        simp only [sumLen, List.length_cons, List.length_nil] at this ⊢
        omega
      · split <;> exact ah _
    · split
      · have := up .esc; omega
      · split <;> exact ah _
    · exact ah _
theorem mem_sumLen {t : Tx} : ∀ {l : List Tx}, t ∈ l → t.length ≤ sumLen l
  | x :: l, h => by
    rw [sumLen]
    rcases List.mem_cons.mp h with rfl | h
    · omega
    · have := mem_sumLen h; omega
noncomputable def okW (w : Tx) : Prop := ∀ c ∈ w, isSpace c = ([32, 10] : Tx).contains c
theorem trim_is : f12_2 = trimF (CE.cmp (COp.isin) (CE.idx (CE.var 0) (CE.var 1)) (CE.str [32, 10])) (CE.cmp (COp.isin) (CE.idx (CE.var 0) (CE.bin (BOp.sub) (CE.var 2) (CE.int 1))) (CE.str [32, 10])) := rfl
theorem trim12 (F : Phi) (st : Store) (t : Tx) (hl : t.length < 100000) (h : okW t) : callFn F f12_2 st [.str t] = .ok (.str (strip t)) := by
  rw [trim_is]
  refine trim_call F st t _ _ hl (fun a b c hc => ?_) fun a b c hc => ?_
  · rw [h c (List.mem_of_getElem? hc)]
    exact et_cmp (ev_idx rfl rfl (str_at hc st)) rfl rfl
  · rw [h c (List.mem_of_getElem? hc)]
    refine et_cmp (ev_idx (y := .int b) rfl ?_ (str_at hc st)) rfl rfl
    rw [e_bin]
    show Except.ok (V.int (((b + 1 : Nat) : Int) - 1)) = _
    congr 2; omega

structure RS where
  ps : List Tx
  p : Tx
  u : Nat
noncomputable def RP (v : V) (st : Store) (s : RS) : St := ⟨[some v, some (.loc st.length), some (.int s.u), none, none, none], st ++ [.list ((s.ps ++ [s.p]).map .str)]⟩
theorem nx_pair {F : Phi} {x y : Nat} {e : CE} {lk : Nat → Bool} {ρ : Vars} {st : Store} {a b : V} (h : evalE F st e ρ = .ok (.tup [a, b])) : Nx (exec F (.assign (.many [x, y]) (.old e)) lk ⟨ρ, st⟩) ⟨(ρ.set x (some a)).set y (some b), st⟩ :=
  .of (by rw [x_assign, a_old]; show outR (bindR (evalE F st e ρ) _) _ _ = _; rw [h]; rfl)
theorem comp_trim {F : Phi} {st : Store} {ρ : Vars} {v : V} (qs : List Tx) (hρ : ρ.length = 6) (h1 : getV ρ 1 = .ok v) (h2 : Stands st v (qs.map .str)) (hn : qs.length ≤ 16777216) (h : ∀ t ∈ qs, F 2 st [.str t] = .ok (.str (strip t))) :
    evalE F st (.comp (.call 2 [.var 6]) none (.var 1) none) ρ = .ok (.list ((qs.map strip).map .str)) := by
  have := ev_comp (F := F) (st := st) (ρ := ρ) (elt := .call 2 [.var 6]) (it := .var 1) (v := v) qs V.str (fun t => .str (strip t)) (ev_var h1) (stands_iter h2) hn fun t ht => ev_call1 (x := .str t) (ev_var (getV_new hρ _ _)) (h t ht)
  rw [this, List.map_map]; rfl

theorem read_call (F : Phi) (st : Store) (v : V) (ws : List Tx) (hv : ∀ os, Stands (st ++ os) v (ws.map .str)) (hn : ws.length ≤ 1000) (hl : sumLen ws ≤ 90000) (hw : ∀ w ∈ ws, okW w)
    (hF1 : ∀ st as, ∃ F', F 1 st as = callFn F' f12_1 st as) (hF2 : ∀ st as, ∃ F', F 2 st as = callFn F' f12_2 st as) :
    callFn F f12_3 st [v] = .ok (.list ((httpW ws).map .str)) := by
  obtain ⟨⟨ps, p, u⟩, ⟨a1, a2, a4⟩, a3, nx⟩ := nx_while (F := F) (t := CE.cmp (COp.lt) (CE.var 2) (CE.prim (Prim.len) [CE.var 0])) (body := f12_3_b0) (lk := fun i => decide (i < st.length))
    (RP v st) (fun s => goW .out ws = s.ps ++ ahead s.p (goW .out (ws.drop s.u)) ∧ s.p.length + sumLen (ws.drop s.u) ≤ sumLen ws ∧ s.ps.length ≤ s.u) (fun s => decide (s.u < ws.length)) (fun s => ws.length - s.u)
    (by
      rintro ⟨ps, p, u⟩ _
      exact et_cmp rfl (ev_lenS rfl (hv _)) (by rw [cmp_lt]; congr 1; simp))
    (by
      rintro ⟨ps, p, u⟩ ⟨h1, h2, h3⟩ hc
      have hlt : u < ws.length := by simpa using hc
      simp only at h1 h2 h3
      have hd := drop_get hlt
      generalize ws.getD u [] = w at hd
      have hgo : goW .out (ws.drop u) = goW .out (w :: ws.drop (u + 1)) := by rw [hd]
      have hidx : index (st ++ [.list ((ps ++ [p]).map .str)]) v (.int u) = .ok (.str w) := by
        have := stands_at (hv [.list ((ps ++ [p]).map .str)]) hlt
        rw [this]
        have h5 := drop_get hlt
        rw [hd] at h5
        rw [(List.cons.inj h5).1]
      rw [hd, sumLen] at h2
      have nx1 : Nx (exec F (CS.assign (Tgt.one 3) (AE.old (CE.idx (CE.var 0) (CE.var 2)))) (fun i => decide (i < st.length)) (RP v st ⟨ps, p, u⟩)) ⟨[some (v), some (.loc st.length), some (.int u), some (.str w), none, none], st ++ [.list ((ps ++ [p]).map .str)]⟩ := nx_set (ev_idx rfl rfl hidx)
      have nx2 : Nx (exec F (CS.assign (Tgt.one 2) (AE.old (CE.bin (BOp.add) (CE.var 2) (CE.int 1)))) (fun i => decide (i < st.length)) ⟨[some (v), some (.loc st.length), some (.int u), some (.str w), none, none], st ++ [.list ((ps ++ [p]).map .str)]⟩) ⟨[some (v), some (.loc st.length), some (.int ((u + 1 : Nat) : Int)), some (.str w), none, none], st ++ [.list ((ps ++ [p]).map .str)]⟩ := nx_set (by rw [e_bin]; rfl)
      have hm : (ps ++ [p]).map V.str = ps.map .str ++ [.str p] := by simp
      have hst : (st ++ [Obj.list ((ps ++ [p]).map .str)])[st.length]? = some (.list (ps.map .str ++ [.str p])) := by rw [get_last, hm]
      have fin : ∀ (s' : RS) (o : Out), Nx o (RP v st s') → Tn (RP v st s') o := fun s' o h => by obtain ⟨s, rfl, e⟩ := h; exact e
      have put : ∀ (ρ : Vars) (e : CE) (q : Tx), getV ρ 1 = .ok (.loc st.length) → evalE F (st ++ [.list ((ps ++ [p]).map .str)]) e ρ = .ok (.str q) → Nx (exec F (.setItem (.var 1) (.int (-1)) e) (fun i => decide (i < st.length)) ⟨ρ, st ++ [.list ((ps ++ [p]).map .str)]⟩) ⟨ρ, st ++ [.list ((ps ++ [q]).map .str)]⟩ := fun ρ e q hρ he => by
        have := nx_put (F := F) (o := .var 1) (e := e) (lk := fun i => decide (i < st.length)) (ρ := ρ) (st := st ++ [.list ((ps ++ [p]).map .str)]) (j := st.length) (xs := ps.map .str) (x := .str p) (v := .str q) (ev_var hρ) hst he (by simp)
        rw [set_last] at this
        rw [show (ps ++ [q]).map V.str = ps.map .str ++ [.str q] by simp]
        exact this
      have lst : ∀ ρ : Vars, getV ρ 1 = .ok (.loc st.length) → evalE F (st ++ [.list ((ps ++ [p]).map .str)]) (.idx (.var 1) (.int (-1))) ρ = .ok (.str p) := fun ρ hρ => last_loc (ev_var hρ) hst
      have ht : ∀ (cs : List CS) s' , Nx (execs F cs (fun i => decide (i < st.length)) ⟨[some (v), some (.loc st.length), some (.int ((u + 1 : Nat) : Int)), some (.str w), none, none], st ++ [.list ((ps ++ [p]).map .str)]⟩) (RP v st s') → cs = f12_3_b0.drop 2 → Tn (RP v st s') (execs F f12_3_b0 (fun i => decide (i < st.length)) (RP v st ⟨ps, p, u⟩)) := by
        rintro cs s' h rfl
        refine fin _ _ ?_
        exact nx_cons nx1 (nx_cons nx2 h)
      by_cases e1 : w = [44]
      · subst e1
        refine ⟨⟨ps ++ [p], [], u + 1⟩, ⟨?_, ?_, ?_⟩, by simp only; omega, ?_⟩
        · simp only
          rw [h1, hgo, goW, if_pos rfl, ahead_nil]
          simp [ahead]
        · simp only [List.length_nil]; omega
        · simp only [List.length_append, List.length_singleton]; omega
        · refine ht _ _ ?_ rfl
          have happ := nx_app (F := F) (o := .var 1) (e := .str []) (lk := fun i => decide (i < st.length)) (ρ := [some (v), some (.loc st.length), some (.int ((u + 1 : Nat) : Int)), some (.str [44]), none, none]) (st := st ++ [.list ((ps ++ [p]).map .str)]) (j := st.length) (v := .str []) rfl (get_last _ _) rfl (by simp) (by simp; omega)
          rw [set_last, show (ps ++ [p]).map V.str ++ [.str []] = (ps ++ [p] ++ [[]]).map .str by simp] at happ
          refine nx_end (nx_do (et_cmp rfl rfl rfl) (nx_end (nx_weak happ ?_)))
          simp [exts_def, RP]
      · have e1' : (w == [44]) = false := by simpa using e1
        by_cases e2 : w = [34]
        · subst e2
          have hsl := sumLen_drop (u + 1) ws
          have hq : ∃ b k, F 1 (st ++ [.list ((ps ++ [p]).map .str)]) [.list ((ws.drop (u + 1)).map .str)] = .ok (.tup [.str b, .int (k : Nat)]) ∧ goW .quo (ws.drop (u + 1)) = ahead b (goW .out ((ws.drop (u + 1)).drop k)) ∧ b.length + sumLen ((ws.drop (u + 1)).drop k) ≤ sumLen (ws.drop (u + 1)) ∧ 1 ≤ k := by
            obtain ⟨F', h⟩ := hF1 (st ++ [.list ((ps ++ [p]).map .str)]) [.list ((ws.drop (u + 1)).map .str)]
            obtain ⟨b, k, q1, q2⟩ := wordsQ_call F' (st ++ [.list ((ps ++ [p]).map .str)]) (ws.drop (u + 1)) (by simp; omega) (by omega)
            exact ⟨b, k, h.trans q1, q2⟩
          obtain ⟨b, k, q1, q2, q3, q4⟩ := hq
          rw [List.drop_drop] at q2 q3
          simp only [List.length_cons, List.length_nil] at h2
          refine ⟨⟨ps, p ++ [34] ++ b, u + 1 + k⟩, ⟨?_, ?_, ?_⟩, by simp only; omega, ?_⟩
          · simp only
            rw [h1, hgo, goW, if_neg (by decide), if_pos rfl, q2, ahead_ahead, ahead_ahead]
          · simp only [List.length_append, List.length_cons, List.length_nil]; omega
          · simp only; omega
          · refine ht _ _ ?_ rfl
            refine nx_end (nx_if false (et_cmp rfl rfl rfl) (fun h => by cases h) fun _ => nx_end (nx_do (et_cmp rfl rfl rfl) ?_))
            refine nx_cons (nx_pair (ev_call1 (slice_tailS (u := u + 1) rfl (hv _) rfl) q1)) ?_
            refine nx_cons (put _ _ (p ++ [34] ++ b) rfl (ev_add (ev_add (lst _ rfl) rfl (by simp; omega)) rfl (by simp; omega))) ?_
            refine nx_end (nx_weak (nx_set (v := .int ((u + 1 + k : Nat) : Int)) (by rw [e_bin]; rfl)) ?_)
            simp [exts_def, RP]
        · have e2' : (w == [34]) = false := by simpa using e2
          refine ⟨⟨ps, p ++ w, u + 1⟩, ⟨?_, ?_, ?_⟩, by simp only; omega, ?_⟩
          · simp only
            rw [h1, hgo, goW, if_neg e1, if_neg e2, ahead_ahead]
          · simp only [List.length_append]; omega
          · simp only; omega
          · refine ht _ _ ?_ rfl
            refine nx_end (nx_if false (et_cmp rfl rfl ((cmp_str ..).trans (by rw [e1']))) (fun h => by cases h) fun _ => nx_end (nx_if false (et_cmp rfl rfl ((cmp_str ..).trans (by rw [e2']))) (fun h => by cases h) fun _ => ?_))
            refine nx_end (nx_weak (put _ _ (p ++ w) rfl (ev_add (lst _ rfl) rfl (by omega))) ?_)
            simp [exts_def, RP]) ⟨[], [], 0⟩ (RP v st ⟨[], [], 0⟩) ⟨(ahead_nil ..).symm, by simp, by simp⟩ (by show ws.length - 0 < 100000; omega) (ExtS.refl _)
  simp only at a1 a2 a3 a4
  have hex : ws.drop u = [] := List.drop_eq_nil_of_le (by simpa using a3)
  rw [hex] at a1
  have hW : httpW ws = (if p = [] then ps else ps ++ [p]).map strip := by
    unfold httpW
    rw [a1, show ahead p (goW .out []) = [p] by simp [goW, ahead], shut_snoc]
  have hgl := goW_sum .out ws
  have hmem : ∀ t ∈ ps ++ [p], t ∈ goW .out ws := fun t ht => by
    rw [a1, show ahead p (goW .out []) = [p] by simp [goW, ahead]]; exact ht
  have hlen : (ps ++ [p]).length ≤ 1001 := by
    have : goW .out ws = ps ++ [p] := by rw [a1]; simp [goW, ahead]
    rw [← this]; omega
  have htr : ∀ st' t, t ∈ ps ++ [p] → F 2 st' [.str t] = .ok (.str (strip t)) := fun st' t ht => by
    obtain ⟨F', h⟩ := hF2 st' [.str t]
    rw [h]
    refine trim12 F' st' t ?_ fun c hc => ?_
    · have := mem_sumLen (hmem t ht); omega
    · obtain ⟨w, h1, h2⟩ := goW_mem .out ws t (hmem t ht) c hc
      exact hw w h1 c h2
  have hm : (ps ++ [p]).map V.str = ps.map .str ++ [.str p] := by simp
  have hst : (st ++ [Obj.list ((ps ++ [p]).map .str)])[st.length]? = some (.list (ps.map .str ++ [.str p])) := by rw [get_last, hm]
  refine call_of (v := .list ((httpW ws).map .str)) (st' := st ++ [.list ((ps ++ [p]).map .str)]) rfl ?_ (fin_list 0 (pure_strs _))
  refine rt_cons (p := ⟨[some (v), some (.loc st.length), none, none, none, none], st ++ [.list [.str []]]⟩) (.of (by simp; rfl)) ?_
  refine rt_cons (p := RP v st ⟨[], [], 0⟩) (nx_set (v := .int 0) rfl) ?_
  refine rt_cons nx ?_
  have hlast := last_loc (F := F) (o := .var 1) (ρ := [some (v), some (.loc st.length), some (.int u), none, none, none]) rfl hst
  by_cases hp : p = []
  · subst hp
    rw [if_pos rfl] at hW
    refine rt_cons (p := ⟨[some (v), some (.list (ps.map .str)), none, none, none, none], st ++ [.list ((ps ++ [[]]).map .str)]⟩) (nx_do (et_cmp hlast rfl rfl) (nx_end (nx_weak (nx_set (v := .list (ps.map .str)) ?_) (by simp [exts_def])))) ?_
    · rw [e_slice]
      show bindR (.ok (V.loc st.length)) _ = _
      rw [bindR_ok, eo_none, bindR_ok, eo_some, e_int, bindR_ok, bindR_ok, slice_init (stands_loc hst)]
      simp
    · refine rt_ret ?_
      rw [hW]
      exact comp_trim ps rfl rfl (stands_list _ _) (by simp at hlen; omega) fun t ht => htr _ t (List.mem_append_left _ ht)
  · rw [if_neg hp] at hW
    have hp' : (p == []) = false := by simpa using hp
    refine rt_cons (p := ⟨[some (v), some (.loc st.length), none, none, none, none], st ++ [.list ((ps ++ [p]).map .str)]⟩) (nx_weak (nx_skip (et_cmp hlast rfl ((cmp_str ..).trans (by rw [hp'])))) (by simp [exts_def, RP])) ?_
    refine rt_ret ?_
    rw [hW]
    exact comp_trim (ps ++ [p]) rfl rfl (stands_loc (get_last _ _)) (by omega) fun t ht => htr _ t ht
end Mine

end
section
set_option autoImplicit false
namespace Mine
noncomputable def TE : Tx := [84, 121, 112, 101, 69, 114, 114, 111, 114]
noncomputable def fs4 : List Fn := [f12_3, f12_2, f12_1, f12_0]
noncomputable def fs5 : List Fn := [f12_4, f12_3, f12_2, f12_1, f12_0]
theorem callI_exc {F : Phi} {f : Nat} {st : Store} {j k p : Nat} {q : Option Nat} (h : F (1000 + f) st [.loc j] = .ok (.tup [.int 0, .int (p : Nat)])) (hj : st[j]? = some (.iter k q)) : callI F f st j = some (.error (.exc .type), .iter k (some p)) := by
  unfold callI
  rw [h]
  simp only
  rw [hj]
  simp [vP]
theorem callI_ok {F : Phi} {f : Nat} {st : Store} {j k : Nat} {v : V} {q p : Option Nat} (h : F (1000 + f) st [.loc j] = .ok (.tup [.tup [v], pV p])) (hj : st[j]? = some (.iter k q)) : callI F f st j = some (.ok v, .iter k p) := by
  unfold callI
  rw [h]
  simp only
  rw [hj]
  cases p <;> simp [vP, pV]
section
variable {st : Store} {j k p : Nat} {xs rest : List V} {ws : List Tx} {x : V}
theorem tryB (F : Phi) (lk : Nat → Bool) (s : St) : execs F f12_4.body lk s = thenO (tryO [(K.type, CS.ret (CE.str TE))] (thenO (exec F (.retI 0 0) lk s) fun s => .next s)) fun s => .next s := by
  have h : f12_4.body = [CS.try_ [CS.retI 0 0] [(K.type, CS.ret (CE.str TE))]] := rfl
  rw [h, x_cons, x_try, x_cons]
  congr 1
theorem try_odd (hjk : j ≠ k) (hj : st[j]? = some (.iter k (some p))) (hk : st[k]? = some (.list xs)) (hx : xs.drop p = ws.map .str ++ x :: rest) (ho : Odd x) (hn : ws.length ≤ 1000) (hl : sumLen ws ≤ 900000) :
    callFnI (phi fs4) f12_4 st j = .ok (.tup [.tup [.str TE], .int ((p + ws.length + 1 : Nat) : Int)]) := by
  have hj1 := (List.getElem?_eq_some_iff.mp hj).1
  have hk1 := (List.getElem?_eq_some_iff.mp hk).1
  have hc := callI_exc (F := phi fs4) (f := 0) (st := st) (j := j) (k := k) (p := p + ws.length + 1) (q := some p) (http_odd (phi []) hjk hj hk hx ho hn hl) hj
  unfold callFnI
  rw [hj]
  simp only
  rw [if_pos ⟨rfl, hk1⟩]
  show (match execs (phi fs4) f12_4.body (fun i => decide (i < st.length) && i != j) ⟨[some (.loc j)], st⟩ with | .ret v s => _ | .exc .type s => _ | _ => _) = _
  rw [tryB, exec_q14]
  simp only [List.getElem?_cons_zero, hc]
  simp [tryO, handle, runHs, fin, Mine.low, itOut, pV, hj1]
theorem try_end (hjk : j ≠ k) (hj : st[j]? = some (.iter k (some p))) (hk : st[k]? = some (.list xs)) (hx : xs.drop p = ws.map .str) (hn : ws.length ≤ 1000) (hl : sumLen ws ≤ 900000) :
    callFnI (phi fs4) f12_4 st j = .ok (.tup [.tup [.list ((httpW ws).map .str)], .none]) := by
  have hj1 := (List.getElem?_eq_some_iff.mp hj).1
  have hk1 := (List.getElem?_eq_some_iff.mp hk).1
  have hc := callI_ok (F := phi fs4) (f := 0) (st := st) (j := j) (k := k) (p := none) (q := some p) (http_end (phi []) hjk hj hk hx hn hl) hj
  unfold callFnI
  rw [hj]
  simp only
  rw [if_pos ⟨rfl, hk1⟩]
  show (match execs (phi fs4) f12_4.body (fun i => decide (i < st.length) && i != j) ⟨[some (.loc j)], st⟩ with | .ret v s => _ | .exc .type s => _ | _ => _) = _
  rw [tryB, exec_q14]
  simp only [List.getElem?_cons_zero, hc]
  have hf : fin st.length (st.set j (.iter k none)) (.list ((httpW ws).map .str)) = .ok (.list ((httpW ws).map .str)) := fin_list 0 (pure_strs _)
  simp [tryO, itOut, pV, hj1, hf]
end

noncomputable def TS (l0 : List Tx) (ps : List (V × List Tx)) : List V := l0.map .str ++ ps.flatMap fun q => q.1 :: q.2.map .str
noncomputable def lastS : List Tx → List (V × List Tx) → List Tx
  | l, [] => l
  | _, q :: ps => lastS q.2 ps
noncomputable def okL (l : List Tx) : Prop := l.length ≤ 1000 ∧ sumLen l ≤ 90000 ∧ ∀ w ∈ l, okW w
theorem got12 {j k : Nat} {xs : List V} (hjk : j ≠ k) : ∀ (ps : List (V × List Tx)) (l : List Tx) (p : Nat) (st : Store), st[j]? = some (.iter k (some p)) → st[k]? = some (.list xs) → xs.drop p = TS l ps → okL l → (∀ q ∈ ps, Odd q.1 ∧ okL q.2) →
    gotLoop (phi fs5) 4 j (ps.length + 1) st = some (List.replicate ps.length (.str TE) ++ [.list ((httpW (lastS l ps)).map .str)], st.set j (.iter k none))
  | [], l, p, st, hj, hk, hx, hl, _ => by
    have hc := callI_ok (F := phi fs5) (f := 4) (st := st) (j := j) (k := k) (p := none) (q := some p) (try_end hjk hj hk (by rw [hx]; simp [TS]) hl.1 (by have := hl.2.1; omega)) hj
    rw [List.length_nil, gotLoop, hc]
    simp only [gotLoop, lastS]
    rfl
  | q :: ps, l, p, st, hj, hk, hx, hl, hps => by
    obtain ⟨ho, hq⟩ := hps q (List.mem_cons_self ..)
    have hj1 := (List.getElem?_eq_some_iff.mp hj).1
    have hx' : xs.drop p = l.map .str ++ q.1 :: (TS q.2 ps) := by rw [hx]; simp [TS]
    have hc := callI_ok (F := phi fs5) (f := 4) (st := st) (j := j) (k := k) (v := .str TE) (p := some (p + l.length + 1)) (q := some p) (try_odd hjk hj hk hx' ho hl.1 (by have := hl.2.1; omega)) hj
    have hd : xs.drop (p + l.length + 1) = TS q.2 ps := by
      have := congrArg (List.drop (l.length + 1)) hx'
      rw [List.drop_drop] at this
      rw [Nat.add_assoc, this]
      simp [List.drop_append]
    have ih := got12 hjk ps q.2 (p + l.length + 1) (st.set j (.iter k (some (p + l.length + 1)))) (List.getElem?_set_self hj1) (by rw [List.getElem?_set_ne hjk]; exact hk) hd hq fun r hr => hps r (List.mem_cons_of_mem _ hr)
    rw [List.length_cons, gotLoop, hc]
    simp only [ih, List.set_set]
    rfl

theorem nx_iter {F : Phi} {x k : Nat} {e : CE} {lk : Nat → Bool} {ρ : Vars} {st : Store} {xs : List V} (h : evalE F st e ρ = .ok (.loc k)) (hk : st[k]? = some (.list xs)) : Nx (exec F (.assign (.one x) (.iter e)) lk ⟨ρ, st⟩) ⟨ρ.set x (some (.loc st.length)), st ++ [.iter k (some 0)]⟩ :=
  .of (by
    rw [x_assign, a_iter]
    show outR (match evalE F st e ρ with | .ok (.loc k) => _ | _ => _) _ _ = _
    rw [h]
    simp only [hk]
    rfl)
theorem nx_got {F : Phi} {x f y j : Nat} {z : CE} {lk : Nat → Bool} {ρ : Vars} {st st' : Store} {v : V} {zs ys : List V} (h : evalE F st z ρ = .ok v) (h2 : iterV st v = some zs) (h3 : ρ[y]? = some (some (.loc j))) (h4 : lk j = false) (h5 : zs.length ≤ 1000) (h6 : gotLoop F f j zs.length st = some (ys, st')) :
    Nx (exec F (.got x f y z) lk ⟨ρ, st⟩) ⟨ρ.set x (some (.list ys)), st'⟩ :=
  .of (by
    rw [exec_q13]
    simp only [h, h2, h3, h6]
    rw [if_neg (by rw [h4]; simp; omega)])

noncomputable def S12 (ts : List V) (l0 : List Tx) (ls : List (List Tx)) : Store := .list ts :: .list (l0.map .str) :: .list (.loc 1 :: (List.range' 3 ls.length).map .loc) :: ls.map fun l => .list (l.map .str)
theorem S12_len (ts : List V) (l0 : List Tx) (ls : List (List Tx)) : (S12 ts l0 ls).length = ls.length + 3 := by simp [S12]
theorem S12_at (ts : List V) (l0 : List Tx) (ls : List (List Tx)) (i : Nat) : (S12 ts l0 ls)[i + 3]? = (ls[i]?).map fun l => Obj.list (l.map .str) := by simp [S12]
theorem comp12 {F : Phi} {ts : List V} {l0 : List Tx} {ls : List (List Tx)} {os : List Obj} {ρ : Vars} {elt it : CE} (f : List Tx → V) (h1 : evalE F (S12 ts l0 ls ++ os) it ρ = .ok (.loc 2)) (hl : ls.length ≤ 1000)
    (h : ∀ j l, (l = l0 ∨ l ∈ ls) → (S12 ts l0 ls ++ os)[j]? = some (.list (l.map .str)) → j < (S12 ts l0 ls ++ os).length → evalE F (S12 ts l0 ls ++ os) elt (ρ ++ [some (.loc j)]) = .ok (f l)) : evalE F (S12 ts l0 ls ++ os) (.comp elt none it none) ρ = .ok (.list ((l0 :: ls).map f)) := by
  have := ev_comp (F := F) (st := S12 ts l0 ls ++ os) (ρ := ρ) (elt := elt) (it := it) (v := .loc 2) ((1, l0) :: zl 3 ls) (fun p => .loc p.1) (fun p => f p.2) h1 (by
    rw [List.map_cons, zl_loc]
    exact stands_iter (stands_loc (by rfl))) (by rw [List.length_cons, zl_len]; omega) (fun p hp => by
      rcases List.mem_cons.mp hp with rfl | hp
      · exact h 1 l0 (.inl rfl) rfl (by simp [S12])
      · obtain ⟨i, h1, h2⟩ := zl_get 3 ls p hp
        have hlt := (List.getElem?_eq_some_iff.mp h2).1
        refine h p.1 p.2 (.inr (List.mem_of_getElem? h2)) ?_ (by rw [h1, List.length_append, S12_len]; omega)
        rw [h1, Nat.add_comm, List.getElem?_append_left (by rw [S12_len]; omega), S12_at, h2]; rfl)
  rw [this]
  have e : ((1, l0) :: zl 3 ls).map (fun p => f p.2) = (l0 :: ls).map f := by
    rw [List.map_cons, List.map_cons]
    conv => rhs; rw [← zl_snd 3 ls, List.map_map]
    rfl
  rw [e]

noncomputable def menu12 : List Tx := [[97], [44], [34], [92], [32], [], [98, 32, 99], [44, 32], [34, 34], [92, 44], [32, 10, 44]]
theorem menu_ok : ∀ w ∈ menu12, w.length ≤ 3 ∧ okW w := by
  have h : menu12.all (fun w => decide (w.length ≤ 3) && w.all fun c => isSpace c == ([32, 10] : Tx).contains c) = true := by decide
  intro w hw
  have := List.all_eq_true.mp h w hw
  rw [Bool.and_eq_true, decide_eq_true_eq, List.all_eq_true] at this
  exact ⟨this.1, fun c hc => by simpa using this.2 c hc⟩
theorem ok_of {l : List Tx} (h1 : l.length ≤ 63) (h2 : ∀ w ∈ l, w ∈ menu12) : okL l := by
  have := sumLen_le (k := 3) fun w hw => (menu_ok w (h2 w hw)).1
  exact ⟨by omega, by omega, fun w hw => (menu_ok w (h2 w hw)).2⟩
structure ZS where
  l0 : List Tx
  ps : List (V × List Tx)
noncomputable def ZP (sc : V) (s : ZS) : St := ⟨[some (sc), some (.list (menu12.map .str)), some (.loc 0), some (.loc 2), none, none, none, none, none], S12 (TS s.l0 s.ps) s.l0 (s.ps.map (·.2))⟩
structure ZI (s : ZS) (as : List Int) : Prop where
  len : (TS s.l0 s.ps).length + as.length ≤ 63
  one : ∀ w ∈ s.l0, w ∈ menu12
  all : ∀ q ∈ s.ps, Odd q.1 ∧ ∀ w ∈ q.2, w ∈ menu12
theorem TS_len (l0 : List Tx) (ps : List (V × List Tx)) : l0.length + ps.length ≤ (TS l0 ps).length ∧ ∀ q ∈ ps, q.2.length ≤ (TS l0 ps).length := by
  unfold TS
  rw [List.length_append, List.length_map]
  induction ps with
  | nil => simp
  | cons q ps ih =>
    rw [List.flatMap_cons, List.length_append, List.length_cons, List.length_cons, List.length_map]
    refine ⟨by omega, fun r hr => ?_⟩
    rcases List.mem_cons.mp hr with rfl | hr
    · omega
    · have := ih.2 r hr; omega
theorem turn12 (F : Phi) (sc : V) (s : ZS) (n : Int) (as : List Int) (I : ZI s (n :: as)) : ∃ s', ZI s' as ∧ Tn (ZP sc s') (turnL F (.one 4) f12_5_b0 lk0 (.int n) (ZP sc s)) := by
  obtain ⟨l0, ps⟩ := s
  obtain ⟨h1, h2, h3⟩ := I
  simp only at h1 h2 h3
  have hl := TS_len l0 ps
  rw [List.length_cons] at h1
  obtain ⟨f0, f1⟩ := fmod_range n 13 (by decide)
  have nx1 : Nx (exec F (CS.assign (Tgt.one 5) (AE.old (CE.bin (BOp.mod) (CE.var 4) (CE.int 13)))) lk0 ⟨(ZP sc ⟨l0, ps⟩).vars.set 4 (some (.int n)), (ZP sc ⟨l0, ps⟩).store⟩) ⟨[some (sc), some (.list (menu12.map .str)), some (.loc 0), some (.loc 2), some (.int n), some (.int (n.fmod 13)), none, none, none], S12 (TS l0 ps) l0 (ps.map (·.2))⟩ := nx_set (ev_mod rfl (by decide))
  by_cases hc : n.fmod 13 < 11
  · obtain ⟨x, hx, hidx⟩ := idx_list (menu12.map .str) (n.fmod 13) f0 (by rw [List.length_map]; exact hc)
    obtain ⟨w, hw, rfl⟩ := List.mem_map.mp hx
    have app1 := nx_app (F := F) (o := .var 2) (e := .idx (.var 1) (.var 5)) (lk := lk0) (ρ := [some (sc), some (.list (menu12.map .str)), some (.loc 0), some (.loc 2), some (.int n), some (.int (n.fmod 13)), none, none, none]) (st := S12 (TS l0 ps) l0 (ps.map (·.2))) (j := 0) (xs := TS l0 ps) (v := .str w) rfl rfl (ev_idx rfl rfl (hidx _)) rfl (by omega)
    have e1 : (S12 (TS l0 ps) l0 (ps.map (·.2))).set 0 (.list (TS l0 ps ++ [.str w])) = S12 (TS l0 ps ++ [.str w]) l0 (ps.map (·.2)) := rfl
    rw [e1] at app1
    rcases List.eq_nil_or_concat ps with rfl | ⟨init, q, rfl⟩
    · refine ⟨⟨l0 ++ [w], []⟩, ⟨?_, ?_, ?_⟩, ?_⟩
      · simp [TS] at h1 ⊢; omega
      · intro w' hw'
        rcases List.mem_append.mp hw' with h | h
        · exact h2 w' h
        · rw [List.mem_singleton.mp h]; exact hw
      · intro q hq; cases hq
      · have hlast := last_loc (F := F) (o := .var 3) (ρ := [some (sc), some (.list (menu12.map .str)), some (.loc 0), some (.loc 2), some (.int n), some (.int (n.fmod 13)), none, none, none]) (st := S12 (TS l0 [] ++ [.str w]) l0 []) (j := 2) (xs := []) (x := .loc 1) rfl rfl
        have app2 := nx_app (F := F) (o := .idx (.var 3) (.int (-1))) (e := .idx (.var 1) (.var 5)) (lk := lk0) (ρ := [some (sc), some (.list (menu12.map .str)), some (.loc 0), some (.loc 2), some (.int n), some (.int (n.fmod 13)), none, none, none]) (st := S12 (TS l0 [] ++ [.str w]) l0 []) (j := 1) (xs := l0.map .str) (v := .str w) hlast rfl (ev_idx rfl rfl (hidx _)) rfl (by rw [List.length_map]; omega)
        refine tn_turn (nx_cons nx1 (nx_end (nx_do (et_cmp rfl rfl (by rw [cmp_lt]; congr 1; simpa using hc)) (nx_cons app1 (nx_end (nx_weak app2 ?_))))))
        simp [exts_def, ZP, S12, TS]
    · refine ⟨⟨l0, init ++ [(q.1, q.2 ++ [w])]⟩, ⟨?_, h2, ?_⟩, ?_⟩
      · simp [TS] at h1 ⊢; omega
      · intro r hr
        rcases List.mem_append.mp hr with h | h
        · exact h3 r (by rw [List.concat_eq_append]; exact List.mem_append_left _ h)
        · rw [List.mem_singleton.mp h]
          have := h3 q (by rw [List.concat_eq_append]; exact List.mem_append_right _ (List.mem_singleton.mpr rfl))
          refine ⟨this.1, fun w' hw' => ?_⟩
          rcases List.mem_append.mp hw' with h | h
          · exact this.2 w' h
          · rw [List.mem_singleton.mp h]; exact hw
      · rw [List.concat_eq_append] at *
        have hql := hl.2 q (by simp)
        have hls : ((init ++ [q]).map (·.2)) = init.map (·.2) ++ [q.2] := by simp
        have ho : (S12 (TS l0 (init ++ [q]) ++ [.str w]) l0 ((init ++ [q]).map (·.2)))[2]? = some (.list ((.loc 1 :: (List.range' 3 init.length).map V.loc) ++ [.loc (3 + init.length)])) := by
          simp [S12, List.range'_concat]
        have hlast := last_loc (F := F) (o := .var 3) (ρ := [some (sc), some (.list (menu12.map .str)), some (.loc 0), some (.loc 2), some (.int n), some (.int (n.fmod 13)), none, none, none]) (st := S12 (TS l0 (init ++ [q]) ++ [.str w]) l0 ((init ++ [q]).map (·.2))) (j := 2) rfl ho
        have hq : (S12 (TS l0 (init ++ [q]) ++ [.str w]) l0 ((init ++ [q]).map (·.2)))[3 + init.length]? = some (.list (q.2.map .str)) := by
          rw [Nat.add_comm, S12_at]; simp
        have app2 := nx_app (F := F) (o := .idx (.var 3) (.int (-1))) (e := .idx (.var 1) (.var 5)) (lk := lk0) (ρ := [some (sc), some (.list (menu12.map .str)), some (.loc 0), some (.loc 2), some (.int n), some (.int (n.fmod 13)), none, none, none]) (st := S12 (TS l0 (init ++ [q]) ++ [.str w]) l0 ((init ++ [q]).map (·.2))) (j := 3 + init.length) (v := .str w) hlast hq (ev_idx rfl rfl (hidx _)) rfl (by rw [List.length_map]; omega)
        refine tn_turn (nx_cons nx1 (nx_end (nx_do (et_cmp rfl rfl (by rw [cmp_lt]; congr 1; simpa using hc)) (nx_cons app1 (nx_end (nx_weak app2 ?_))))))
        have e3 : 3 + init.length = init.length + 1 + 1 + 1 := by omega
        simp [exts_def, ZP, S12, TS, e3]
  · obtain ⟨x, hx, hidx⟩ := pick_list [.int n, .none, .bytes, .list [.str [44]]] (n.fdiv 13) 4 rfl (by decide)
    have hodd : Odd x := by
      simp only [List.mem_cons, List.not_mem_nil, or_false] at hx
      rcases hx with rfl | rfl | rfl | rfl
      · exact .inl ⟨_, rfl⟩
      · exact .inr (.inl rfl)
      · exact .inr (.inr (.inl rfl))
      · exact .inr (.inr (.inr rfl))
    have app1 := nx_app (F := F) (o := .var 2) (e := CE.idx (CE.list [CE.var 4, CE.none, CE.bytes, CE.list [CE.str [44]]]) (CE.bin (BOp.mod) (CE.bin (BOp.fdiv) (CE.var 4) (CE.int 13)) (CE.int 4))) (lk := lk0) (ρ := [some (sc), some (.list (menu12.map .str)), some (.loc 0), some (.loc 2), some (.int n), some (.int (n.fmod 13)), none, none, none]) (st := S12 (TS l0 ps) l0 (ps.map (·.2))) (j := 0) (xs := TS l0 ps) (v := x) rfl rfl
      (ev_idx (x := .list [.int n, .none, .bytes, .list [.str [44]]]) (by simp) (ev_mod (ev_div rfl (by decide)) (by decide)) (hidx _)) rfl (by omega)
    have e1 : (S12 (TS l0 ps) l0 (ps.map (·.2))).set 0 (.list (TS l0 ps ++ [x])) = S12 (TS l0 ps ++ [x]) l0 (ps.map (·.2)) := rfl
    rw [e1] at app1
    refine ⟨⟨l0, ps ++ [(x, [])]⟩, ⟨?_, h2, ?_⟩, ?_⟩
    · simp [TS] at h1 ⊢; omega
    · intro r hr
      rcases List.mem_append.mp hr with h | h
      · exact h3 r h
      · rw [List.mem_singleton.mp h]; exact ⟨hodd, fun w hw => by cases hw⟩
    · have hlen := S12_len (TS l0 ps ++ [x]) l0 (ps.map (·.2))
      rw [List.length_map] at hlen
      have app2 : Nx (exec F (.append (.var 3) (.newl [])) lk0 ⟨[some (sc), some (.list (menu12.map .str)), some (.loc 0), some (.loc 2), some (.int n), some (.int (n.fmod 13)), none, none, none], S12 (TS l0 ps ++ [x]) l0 (ps.map (·.2))⟩)
          ⟨[some (sc), some (.list (menu12.map .str)), some (.loc 0), some (.loc 2), some (.int n), some (.int (n.fmod 13)), none, none, none], List.set (S12 (TS l0 ps ++ [x]) l0 (ps.map fun q => q.2) ++ [Obj.list []]) 2 (Obj.list ((V.loc 1 :: (List.range' 3 (ps.map fun q => q.2).length).map V.loc) ++ [V.loc (ps.length + 3)]))⟩ := .of (by
        rw [x_append, e_var]
        show outR (.ok (V.loc 2)) _ _ = _
        rw [outR_ok, appO_loc (j := 2) (xs := .loc 1 :: (List.range' 3 (ps.map (·.2)).length).map V.loc) (v := .loc (ps.length + 3)) (st := S12 (TS l0 ps ++ [x]) l0 (ps.map (·.2)) ++ [.list []]) rfl rfl (by rw [a_newl, as_nil, bindR_ok]; simp only; rw [hlen]) (by simp; omega)])
      refine tn_turn (nx_cons nx1 (nx_end (nx_if false (et_cmp rfl rfl (by rw [cmp_lt]; congr 1; simpa using hc)) (fun h => by cases h) fun _ => nx_cons app1 (nx_end (nx_weak app2 ?_)))))
      have e3 : 3 + ps.length = ps.length + 3 := by omega
      simp [exts_def, ZP, S12, TS, List.range'_concat, e3]
theorem ev_one (F : Phi) (st : Store) (ρ : Vars) : evalE F st (CE.list [CE.str [84, 121, 112, 101, 69, 114, 114, 111, 114]]) ρ = .ok (.list [.str TE]) := by
  rw [e_list, es_cons, e_str, bindR_ok, es_nil]; rfl
theorem mul_one (st : Store) (n : Nat) (h : n ≤ 63) : binop st .mul (.list [.str TE]) (.int n) = .ok (.list (List.replicate n (.str TE))) := by
  have h3 : ∀ n : Nat, (List.replicate n [V.str TE]).flatten = List.replicate n (V.str TE) := fun n => by
    induction n with
    | zero => rfl
    | succ n ih => rw [List.replicate_succ, List.flatten_cons, ih, List.replicate_succ]; rfl
  have e : binop st .mul (.list [.str TE]) (.int n) = mulL st (.list [.str TE]) (.int n) := rfl
  rw [e]
  unfold mulL
  simp only [items, intOf]
  rw [if_pos ⟨by omega, by omega, by simp⟩, Int.toNat_natCast, h3]
theorem lastS_map (f : List Tx → V) : ∀ (l : List Tx) (ps : List (V × List Tx)), ∃ init, (l :: ps.map (·.2)).map f = init ++ [f (lastS l ps)] ∧ init.length = ps.length
  | l, [] => ⟨[], rfl, rfl⟩
  | l, q :: ps => by
    obtain ⟨init, h1, h2⟩ := lastS_map f q.2 ps
    exact ⟨f l :: init, by rw [List.map_cons, List.map_cons, h1]; rfl, by simp [h2]⟩
theorem law12 (ns : List Int) (hn : ns.length ≤ 63) : runLaw [f12_5, f12_4, f12_3, f12_2, f12_1, f12_0] ns = .ok (.bool true) := by
  refine run_of (f := f12_5) (fs := fs5) rfl ?_
  have c3 : ∀ st as, phi fs5 3 st as = callFn (phi [f12_2, f12_1, f12_0]) f12_3 st as := fun st as => rfl
  have c0 : ∀ st as, phi fs5 0 st as = callFn (phi []) httpF st as := fun st as => rfl
  have i0 : ∀ st j, phi fs5 1000 st [.loc j] = callFnI (phi []) httpF st j := fun st as => rfl
  generalize hF : phi fs5 = F at c3 c0 i0 ⊢
  show Rv (execs F (_ :: _ :: _ :: _ :: _ :: _ :: _ :: _ :: _ :: _ :: _ :: _ :: []) lk0 ⟨[some (.list (ns.map .int)), none, none, none, none, none, none, none, none], []⟩) _
  refine rv_cons (nx_set (v := .list ((ns.take 63).map .int)) ?_) ?_
  · rw [e_slice]
    show bindR (.ok (V.list (ns.map .int))) _ = _
    rw [bindR_ok, eo_none, bindR_ok, eo_some, e_int, bindR_ok, bindR_ok]
    exact slice_head [] ns 63
  have hm : (ns.take 63).length ≤ 63 := by simp; omega
  generalize ns.take 63 = ms at hm ⊢
  refine rv_cons (nx_set (v := .list (menu12.map .str)) (by simp [menu12])) ?_
  refine rv_cons (p := ⟨[some (.list (ms.map .int)), some (.list (menu12.map .str)), some (.loc 0), none, none, none, none, none, none], [.list []]⟩) (.of (by simp)) ?_
  refine rv_cons (p := ZP (.list (ms.map .int)) ⟨[], []⟩) (.of (by simp [ZP, S12, TS])) ?_
  obtain ⟨⟨l0, ps⟩, ⟨z1, z2, z3⟩, nx⟩ := nx_each (F := F) (t := .one 4) (it := .var 0) (body := f12_5_b0) (lk := lk0) (σ := ZP (.list (ms.map .int)) ⟨[], []⟩) V.int (ZP (.list (ms.map .int))) ZI (.list (ms.map .int)) ms ⟨[], []⟩ rfl rfl
    ⟨by simpa [TS] using hm, (fun w hw => by cases hw), (fun q hq => by cases hq)⟩ (ExtS.refl _) (fun s a as I => turn12 F _ s a as I)
  refine rv_cons nx ?_
  simp only [List.length_nil, Nat.add_zero] at z1 z2 z3
  have hl := TS_len l0 ps
  have hok0 : okL l0 := ok_of (by omega) z2
  have hok : ∀ q ∈ ps, Odd q.1 ∧ okL q.2 := fun q hq => ⟨(z3 q hq).1, ok_of (by have := hl.2 q hq; omega) (z3 q hq).2⟩
  have good : ∀ l, (l = l0 ∨ l ∈ ps.map (·.2)) → okL l := by
    rintro l (rfl | h)
    · exact hok0
    · obtain ⟨q, hq, rfl⟩ := List.mem_map.mp h
      exact (hok q hq).2
  have hps : ps.length ≤ 63 := by omega
  have hpl : (ps.map (·.2)).length ≤ 1000 := by rw [List.length_map]; omega
  unfold ZP
  simp only
  generalize hts : TS l0 ps = ts at z1
  have hg := fun st => got12 (j := ps.length + 3) (k := 0) (xs := ts) (by omega) ps l0 0 st
  rw [hF] at hg
  let fW : List Tx → V := fun l => .list ((httpW l).map .str)
  refine rv_cons (nx_set (v := .list ((l0 :: ps.map (·.2)).map fW)) ?_) ?_
  · have := comp12 (F := F) (ts := ts) (l0 := l0) (ls := ps.map (·.2)) (os := []) (ρ := [some (.list (ms.map .int)), some (.list (menu12.map .str)), some (.loc 0), some (.loc 2), none, none, none, none, none]) (elt := .call 3 [.var 9]) (it := .var 3) fW rfl hpl (by
      intro j l hll hj hjl
      obtain ⟨g1, g2, g3⟩ := good l hll
      refine ev_call1 (x := .loc j) rfl ?_
      rw [c3]
      exact read_call _ _ (.loc j) l (fun os => stands_loc (by rw [List.getElem?_append_left hjl]; exact hj)) g1 g2 g3 (fun st as => ⟨_, rfl⟩) fun st as => ⟨_, rfl⟩)
    rw [List.append_nil] at this
    exact this
  have hsame : ∀ st : Store, cmpop st .ne (.list ((l0 :: ps.map (·.2)).map fW)) (.list ((l0 :: ps.map (·.2)).map fW)) = .ok false := fun st => (cmp_same (stands_list _ _) (stands_list _ _) (n := 1) (by simp [fW, pureV]) (by decide)).2
  refine rv_cons (nx_skip (et_cmp (x := .list ((l0 :: ps.map (·.2)).map fW)) (y := .list ((l0 :: ps.map (·.2)).map fW)) ?_ rfl (hsame _))) ?_
  · have := comp12 (F := F) (ts := ts) (l0 := l0) (ls := ps.map (·.2)) (os := []) (ρ := [some (.list (ms.map .int)), some (.list (menu12.map .str)), some (.loc 0), some (.loc 2), none, none, some (.list ((l0 :: ps.map (·.2)).map fW)), none, none]) (elt := .call 0 [.var 9]) (it := .var 3) fW rfl hpl (by
      intro j l hll hj hjl
      obtain ⟨g1, g2, g3⟩ := good l hll
      refine ev_call1 (x := .loc j) rfl ?_
      rw [c0]
      exact http_call _ _ (.loc j) l (fun j' e => by cases e; exact hjl) (fun os => stands_iter (stands_loc (by rw [List.getElem?_append_left hjl]; exact hj))) (by omega) (by omega))
    rw [List.append_nil] at this
    exact this
  refine rv_cons (nx_skip (et_cmp (x := .list ((l0 :: ps.map (·.2)).map fW)) (y := .list ((l0 :: ps.map (·.2)).map fW)) ?_ rfl (hsame _))) ?_
  · have := comp12 (F := F) (ts := ts) (l0 := l0) (ls := ps.map (·.2)) (os := []) (ρ := [some (.list (ms.map .int)), some (.list (menu12.map .str)), some (.loc 0), some (.loc 2), none, none, some (.list ((l0 :: ps.map (·.2)).map fW)), none, none]) (elt := .call 0 [.prim .tupleOf [.var 9]]) (it := .var 3) fW rfl hpl (by
      intro j l hll hj hjl
      obtain ⟨g1, g2, g3⟩ := good l hll
      refine ev_call1 (x := .tup (l.map .str)) ?_ ?_
      · rw [e_prim, es_cons, e_var]
        show bindR (bindR (.ok (V.loc j)) _) _ = _
        rw [bindR_ok, es_nil, bindR_ok, bindR_ok]
        simp only [prim, pTupleOf, items, hj]
      rw [c0]
      exact http_call _ _ (.tup (l.map .str)) l (fun j' e => by cases e) (fun os => rfl) (by omega) (by omega))
    rw [List.append_nil] at this
    exact this
  have hlen := S12_len ts l0 (ps.map (·.2))
  rw [List.length_map] at hlen
  refine rv_cons (p := ⟨[none, none, some (.loc 0), some (.loc 2), none, none, some (.list ((l0 :: ps.map (·.2)).map fW)), some (.loc (ps.length + 3)), none], S12 ts l0 (ps.map (·.2)) ++ [.iter 0 (some 0)]⟩) (by
    have := nx_iter (F := F) (x := 7) (e := .var 2) (lk := lk0) (ρ := [some (.list (ms.map .int)), some (.list (menu12.map .str)), some (.loc 0), some (.loc 2), none, none, some (.list ((l0 :: ps.map (·.2)).map fW)), none, none]) (st := S12 ts l0 (ps.map (·.2))) (k := 0) (xs := ts) rfl rfl
    rw [hlen] at this
    exact nx_weak this (by simp [exts_def])) ?_
  have hJ : ∀ o, (S12 ts l0 (ps.map (·.2)) ++ [o])[ps.length + 3]? = some o := fun o => by rw [← hlen, get_last]
  have hset : ∀ o o' : Obj, List.set (S12 ts l0 (ps.map fun q => q.2) ++ [o]) (ps.length + 3) o' = S12 ts l0 (ps.map (·.2)) ++ [o'] := fun o o' => by rw [← hlen, set_last]
  have hgot := hg (S12 ts l0 (ps.map (·.2)) ++ [.iter 0 (some 0)]) (hJ _) rfl (by rw [← hts]; rfl) hok0 hok
  rw [hset] at hgot
  refine rv_cons (p := ⟨[none, none, none, some (.loc 2), none, none, some (.list ((l0 :: ps.map (·.2)).map fW)), some (.loc (ps.length + 3)), some (.list (List.replicate ps.length (.str TE) ++ [fW (lastS l0 ps)]))], S12 ts l0 (ps.map (·.2)) ++ [.iter 0 none]⟩) (by
    have := nx_got (F := F) (x := 8) (f := 4) (y := 7) (z := .var 3) (lk := lk0) (ρ := [none, none, some (.loc 0), some (.loc 2), none, none, some (.list ((l0 :: ps.map (·.2)).map fW)), some (.loc (ps.length + 3)), none]) (st := S12 ts l0 (ps.map (·.2)) ++ [.iter 0 (some 0)]) (zs := .loc 1 :: (List.range' 3 (ps.map (·.2)).length).map .loc) rfl rfl rfl rfl (by simp; omega) (by
      rw [show (V.loc 1 :: (List.range' 3 (ps.map fun q => q.2).length).map V.loc).length = ps.length + 1 by simp]
      exact hgot)
    exact nx_weak this (by simp [exts_def, fW])) ?_
  obtain ⟨init, l1, l2⟩ := lastS_map fW l0 ps
  have hgs : cmpop (S12 ts l0 (ps.map (·.2)) ++ [.iter 0 none]) .ne (.list (List.replicate ps.length (.str TE) ++ [fW (lastS l0 ps)])) (.list (List.replicate ps.length (.str TE) ++ [fW (lastS l0 ps)])) = .ok false := (cmp_same (stands_list _ _) (stands_list _ _) (n := 1) (by simp [fW, pureV]) (by decide)).2
  refine rv_cons (nx_skip (et_cmp (y := .list (List.replicate ps.length (.str TE) ++ [fW (lastS l0 ps)])) rfl ?_ hgs)) ?_
  · have hmul : evalE F (S12 ts l0 (ps.map (·.2)) ++ [.iter 0 none]) (CE.bin (BOp.mul) (CE.list [CE.str [84, 121, 112, 101, 69, 114, 114, 111, 114]]) (CE.bin (BOp.sub) (CE.prim (Prim.len) [CE.var 3]) (CE.int 1))) [none, none, none, some (.loc 2), none, none, some (.list ((l0 :: ps.map (·.2)).map fW)), some (.loc (ps.length + 3)), some (.list (List.replicate ps.length (.str TE) ++ [fW (lastS l0 ps)]))] = .ok (.list (List.replicate ps.length (.str TE))) := by
      have h1 := ev_lenL (F := F) (a := .var 3) (ρ := [none, none, none, some (.loc 2), none, none, some (.list ((l0 :: ps.map (·.2)).map fW)), some (.loc (ps.length + 3)), some (.list (List.replicate ps.length (.str TE) ++ [fW (lastS l0 ps)]))]) (st := S12 ts l0 (ps.map (·.2)) ++ [.iter 0 none]) (v := .loc 2) (xs := .loc 1 :: (List.range' 3 (ps.map (·.2)).length).map .loc) rfl (stands_loc rfl)
      rw [e_bin, ev_one, bindR_ok, ev_sub h1 (y := 1) (e_int ..), bindR_ok]
      have h2 : ((V.loc 1 :: (List.range' 3 (ps.map (·.2)).length).map V.loc).length : Int) - 1 = ps.length := by simp
      rw [h2]
      exact mul_one _ _ hps
    have hsl : evalE F (S12 ts l0 (ps.map (·.2)) ++ [.iter 0 none]) (CE.slice (CE.var 6) (some (CE.int (-1))) none (Step.one)) [none, none, none, some (.loc 2), none, none, some (.list ((l0 :: ps.map (·.2)).map fW)), some (.loc (ps.length + 3)), some (.list (List.replicate ps.length (.str TE) ++ [fW (lastS l0 ps)]))] = .ok (.list [fW (lastS l0 ps)]) := by
      rw [e_slice, e_var]
      show bindR (.ok (V.list ((l0 :: ps.map (·.2)).map fW))) _ = _
      rw [bindR_ok, eo_some, e_int, bindR_ok, bindR_ok, eo_none, bindR_ok, l1]
      have hs : sliceL (some (-1)) none (init ++ [fW (lastS l0 ps)]) = [fW (lastS l0 ps)] := by
        unfold sliceL
        have : clamp (init ++ [fW (lastS l0 ps)]).length (-1) = init.length := by unfold clamp; rw [if_neg (by decide)]; simp; omega
        simp only [this]
        simp
      simp only [sliceV, bound, items, hs]
    rw [e_bin, hmul, bindR_ok, hsl, bindR_ok]
    exact add_lists (stands_list _ _) (stands_list _ _) (by simp; omega)
  have hend := http_ended (phi []) (st := S12 ts l0 (ps.map (·.2)) ++ [.iter 0 none]) (j := ps.length + 3) (k := 0) (by omega) (by simp [S12]) (hJ _)
  have hci := callI_ok (F := F) (f := 0) (st := S12 ts l0 (ps.map (·.2)) ++ [.iter 0 none]) (j := ps.length + 3) (k := 0) (v := .list []) (q := none) (p := none) ((i0 _ _).trans hend) (hJ _)
  refine ⟨⟨[none, none, none, some (.loc 2), none, none, some (.list ((l0 :: ps.map (·.2)).map fW)), some (.loc (ps.length + 3)), some (.list (List.replicate ps.length (.str TE) ++ [fW (lastS l0 ps)]))], S12 ts l0 (ps.map (·.2)) ++ [.iter 0 none]⟩, ?_⟩
  rw [x_cons, exec_q15]
  simp only [List.getElem?_cons_succ, List.getElem?_cons_zero, hci, hset]
  rfl
end Mine

end
namespace Mine
open PySem PySem.W PyProof.Rows
noncomputable def q12 : Program := { PySem.Challenge.pw_dn0253_12 with main := { PySem.Challenge.pw_dn0253_12.main with body := PySem.Challenge.pw_dn0253_12.main.body.filter fun s => match s with | .Assign .. => false | _ => true } }
theorem left12 : LeftO (PySem.Challenge.rw_dn0253_12.row.prog) q12 [] (fun s => xlAt q12 [] s && recOk (RowW.records (PySem.Challenge.rw_dn0253_12.row.toRowW)) s) (Hook.obs Hook.none) (Hook.val Hook.none) 3000 := by
  intro w
  kernel_rfl
end Mine
open PySem PySem.W PyProof.Rows
set_option maxRecDepth 100000 in
set_option maxHeartbeats 8000000 in
theorem PySem.Challenge.cw_dn0253_12_holds : PySem.Challenge.rw_dn0253_12.Holds := by
  w_on
  o_law
  refine holds_open (q := Mine.q12) (loose := []) (XP := XL Mine.q12 []) (YP := Hook.says Hook.none) Mine.left12 (Hook.of Hook.none) (Hook.keeps Hook.none) (fun s e => xl_of s (Bool.and_eq_true_iff.mp e).1) XL.keeps (by rfl) (by rfl) (by rfl) (fun s e => recFacts_of (Bool.and_eq_true_iff.mp e).2) (by rfl) (by assumption) (by decide +kernel) ⟨rfl, rfl, rfl, rfl, rfl, by decide +kernel⟩ ?hw ?hc
  (case hw => w_witness2)
  intro w s₀ s₁ mg mb G Y fa o pm cd doc dV kV ho hd hcd hD hmg hg args vals as hpre hlay hrd hwl hlo
  refine Ground.open G ?_
  intro T B D TE TW
  have hlo' := hlo
  wrow_args hpre hlay hrd hwl hlo
  rename_i hL ra w1 r0 hI hr c1 c2
  refine enter_call ?_
  exact Mine.law_good (dl := Mine.d12_5) (fns0 := [(Str.ofString "_law_try", 4), (Str.ofString "_law_read", 3), (Str.ofString "_law_trim", 2), (Str.ofString "_law_quoted", 1), (Str.ofString "parse_http_list", 0)]) (fs0 := [Mine.f12_4, Mine.f12_3, Mine.f12_2, Mine.f12_1, Mine.f12_0]) (f := Mine.f12_5) T hg (by decide +kernel) (.cons (d := Mine.d12_0) (by decide +kernel) (by decide +kernel) Mine.w12_0 (.cons (d := Mine.d12_1) (by decide +kernel) (by decide +kernel) Mine.w12_1 (.cons (d := Mine.d12_2) (by decide +kernel) (by decide +kernel) Mine.w12_2 (.cons (d := Mine.d12_3) (by decide +kernel) (by decide +kernel) Mine.w12_3 (.cons (d := Mine.d12_4) (by decide +kernel) (by decide +kernel) Mine.w12_4 .nil))))) (by decide +kernel) Mine.w12_5 (by decide) (by rfl) hmg hL hI r0 hlo' c1 (fun h => Mine.law12 _ h) (fun _ => rfl) (Mine.post_true _ _)
