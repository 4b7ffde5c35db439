import PyProof.Rows.All
import Wide.All
import OpenK.AllK
import Wide.FinOn
import Lean
import PySem.Challenge.RW_zo0014_01
set_option Elab.async false
set_option maxRecDepth 100000
set_option genSizeOf false
set_option genInjectivity false
set_option bootstrap.genMatcherCode false
section
namespace Mine
open PySem

inductive V where
  | none
  | bool (b : Bool)
  | int (i : Int)
  | str (s : List Nat)
  | bytes (t : Bool) (b : List Nat)
  | list (xs : List V)
  | tuple (xs : List V)
  | ref (k : Nat)

inductive O where
  | list (xs : List V)
  | barr (b : List Nat)

inductive BOp where
  | add | sub | mul | fdiv | mod | pow | band
inductive COp where
  | eq | ne | lt | ge | isin | notin | is_
inductive Prim where
  | len | ord | min | max | sum | sorted | bytes | bytearray
inductive Meth where
  | append | insert | find | search
inductive Tgt where
  | one (i : Nat)
  | many (is : List Nat)

inductive X where
  | slot (i : Nat)
  | const (v : V)
  | bin (o : BOp) (a b : X)
  | addl (mu : Bool) (a b : X)
  | cmp (o : COp) (a b : X)
  | andd (xs : List X)
  | orr (xs : List X)
  | nott (x : X)
  | neg (x : X)
  | idx (a i : X)
  | slice (a : X) (lo hi : Option X)
  | tup (xs : List X)
  | list (mu : Bool) (xs : List X)
  | call (f : Nat) (args : List X)
  | prim (p : Prim) (args : List X)
  | range (args : List X)
  | enum (x : X)
  | meth (m : Meth) (o : X) (args : List X)
  | comp (cap : List (Option Nat)) (tgt : Tgt) (elt iter : X) (conds : List X)

inductive S where
  | expr (x : X)
  | assign (i : Nat) (x : X)
  | setidx (o i x : X)
  | augname (i : Nat) (op : BOp) (x : X)
  | augidx (o i : X) (op : BOp) (x : X)
  | iff (t : X) (b e : List S)
  | whil (t : X) (b : List S)
  | forr (tgt : Tgt) (it : X) (b e : List S)
  | ret (x : Option X)
  | brk
  | fail

inductive Fl where
  | next | brk | ret (v : V)

structure St where
  loc : List (Option V)
  objs : List O

/-! values -/

mutual
noncomputable def frzS (f : Nat → Option V) : V → Option V
  | .none => some .none
  | .bool b => some (.bool b)
  | .int i => some (.int i)
  | .str s => some (.str s)
  | .bytes t b => some (.bytes t b)
  | .list xs => match frzL f xs with | some ys => some (.list ys) | none => none
  | .tuple xs => match frzL f xs with | some ys => some (.tuple ys) | none => none
  | .ref k => f k
noncomputable def frzL (f : Nat → Option V) : List V → Option (List V)
  | [] => some []
  | x :: xs => match frzS f x with
    | some y => match frzL f xs with | some ys => some (y :: ys) | none => none
    | none => none
end

noncomputable def frzRef (objs : List O) : Nat → Nat → Option V
  | 0, _ => none
  | n + 1, k => match objs[k]? with
    | some (.list xs) => match frzL (frzRef objs n) xs with | some ys => some (.list ys) | none => none
    | _ => none

noncomputable def frz (objs : List O) (v : V) : Option V := frzS (frzRef objs 6) v
noncomputable def frzs (objs : List O) (vs : List V) : Option (List V) := frzL (frzRef objs 6) vs

mutual
noncomputable def noRef : V → Bool
  | .list xs => noRefs xs
  | .tuple xs => noRefs xs
  | .ref _ => false
  | _ => true
noncomputable def noRefs : List V → Bool
  | [] => true
  | x :: xs => noRef x && noRefs xs
end
noncomputable def scalar : V → Bool
  | .none | .bool _ | .int _ | .str _ | .bytes _ _ => true
  | _ => false

noncomputable def eqNats : List Nat → List Nat → Bool
  | [], [] => true
  | x :: xs, y :: ys => match Nat.beq x y with | true => eqNats xs ys | false => false
  | _, _ => false
noncomputable def ltNats : List Nat → List Nat → Bool
  | [], [] => false
  | [], _ :: _ => true
  | _ :: _, [] => false
  | x :: xs, y :: ys => match Nat.beq x y with | true => ltNats xs ys | false => Nat.blt x y
noncomputable def eqInt : Int → Int → Bool
  | .ofNat m, .ofNat n => Nat.beq m n
  | .negSucc m, .negSucc n => Nat.beq m n
  | _, _ => false
noncomputable def ltInt : Int → Int → Bool
  | .ofNat m, .ofNat n => Nat.blt m n
  | .ofNat _, .negSucc _ => false
  | .negSucc _, .ofNat _ => true
  | .negSucc m, .negSucc n => Nat.blt n m

mutual
/-- equality of frozen data without bytes -/
noncomputable def veq : V → V → Option Bool
  | .none, y => (match y with | .none => some true | _ => none)
  | .bool a, y => (match y with | .bool b => some (a == b) | _ => none)
  | .int a, y => (match y with | .int b => some (eqInt a b) | _ => none)
  | .str a, y => (match y with | .str b => some (eqNats a b) | _ => none)
  | .bytes _ _, _ => none
  | .list xs, y => (match y with | .list ys => veqs xs ys | _ => none)
  | .tuple xs, y => (match y with | .tuple ys => veqs xs ys | _ => none)
  | .ref _, _ => none
noncomputable def veqs : List V → List V → Option Bool
  | [], ys => (match ys with | [] => some true | _ :: _ => some false)
  | x :: xs, ys => (match ys with
    | [] => some false
    | y :: ys => match veq x y with
      | some a => match veqs xs ys with | some b => some (a && b) | none => none
      | none => none)
end
mutual
/-- frozen data without bytes, of a small depth -/
noncomputable def pOk (d : Nat) : V → Bool
  | .none => true
  | .bool _ => true
  | .int _ => true
  | .str s => s.all fun c => Nat.blt c 1114112
  | .list xs => match d with | 0 => false | d + 1 => pOks d xs
  | .tuple xs => match d with | 0 => false | d + 1 => pOks d xs
  | _ => false
noncomputable def pOks (d : Nat) : List V → Bool
  | [] => true
  | x :: xs => pOk d x && pOks d xs
end
noncomputable def eqV (a b : V) : Option Bool := match a with
  | .bytes _ x => (match b with | .bytes _ y => some (eqNats x y) | _ => none)
  | a => match pOk 8 a && pOk 8 b with | true => veq a b | false => none
noncomputable def anyV (x : V) : List V → Option Bool
  | [] => some false
  | y :: ys => match veq y x with
    | some a => match anyV x ys with | some b => some (a || b) | none => none
    | none => none
noncomputable def anyB (x : List Nat) : List V → Option Bool
  | [] => some false
  | z :: ys => match z with
    | .bytes _ y => (match anyB x ys with | some b => some (eqNats y x || b) | none => none)
    | _ => none
noncomputable def isIn (x : V) (ys : List V) : Option Bool := match x with
  | .bytes _ b => anyB b ys
  | x => match pOk 8 x && pOks 8 ys with | true => anyV x ys | false => none

noncomputable def bigN : Nat := 65536
noncomputable def okI (i : Int) : Bool := Nat.blt i.natAbs 18446744073709551616

noncomputable def BOp.isMod : BOp → Bool
  | .mod => true
  | _ => false
noncomputable def BOp.isAdd : BOp → Bool
  | .add => true
  | _ => false
noncomputable def powOp (x y : Int) : Option V := match x with
  | .ofNat k => (match Nat.beq k 2 with
    | true => (match y with
      | .ofNat n => (match Nat.blt n 16 with | true => some (.int (.ofNat (2 ^ n))) | false => none)
      | .negSucc _ => none)
    | false => none)
  | .negSucc _ => none
noncomputable def bandOp (x y : Int) : Option V := match x with
  | .ofNat m => (match y with
    | .ofNat n => some (.int (.ofNat (Nat.land m n)))
    | .negSucc _ => none)
  | .negSucc _ => none
noncomputable def intOp (o : BOp) (x y : Int) : Option V := match o with
  | .add => some (.int (x + y))
  | .sub => some (.int (x - y))
  | .mul => some (.int (x * y))
  | .fdiv => match eqInt y 0 with | true => none | false => some (.int (x.fdiv y))
  | .mod => match eqInt y 0 with | true => none | false => some (.int (x.fmod y))
  | .pow => powOp x y
  | .band => bandOp x y
noncomputable def binop (o : BOp) (a b : V) : Option V := match a with
  | .int x => (match b with | .int y => (match (o.isMod || okI x) && okI y with | true => intOp o x y | false => none) | _ => none)
  | .str x => (match b with | .str y => (match o.isAdd && Nat.blt (x.length + y.length) bigN with | true => some (.str (x ++ y)) | false => none) | _ => none)
  | .bytes _ x => (match b with | .bytes _ y => (match o.isAdd && Nat.blt (x.length + y.length) bigN with | true => some (.bytes false (x ++ y)) | false => none) | _ => none)
  | _ => none

noncomputable def itemsOf (objs : List O) : V → Option (List V)
  | .list xs => some xs
  | .ref k => match objs[k]? with | some (.list xs) => some xs | _ => none
  | _ => none

noncomputable def ltV (a b : V) : Option Bool := match a with
  | .int x => (match b with | .int y => some (ltInt x y) | _ => none)
  | .bytes _ x => (match b with | .bytes _ y => some (ltNats x y) | _ => none)
  | _ => none
noncomputable def geV (a b : V) : Option Bool := match a with
  | .int x => (match b with | .int y => some (!ltInt x y) | _ => none)
  | _ => none
noncomputable def isV (a b : V) : Option Bool := match a with
  | .none => (match b with | .none => some true | _ => none)
  | .int _ => (match b with | .none => some false | _ => none)
  | .bool x => (match b with | .bool y => some (x == y) | _ => none)
  | _ => none
noncomputable def neV (x y : V) : Option Bool := match pOk 8 x && pOk 8 y with
  | true => (match veq x y with | some r => some (!r) | none => none)
  | false => none
noncomputable def inT (x : V) (ys : List V) : Option Bool := match pOk 8 x && pOks 8 ys with | true => anyV x ys | false => none
noncomputable def inV (x y : V) : Option Bool := match y with
  | .list ys => isIn x ys
  | .tuple ys => inT x ys
  | _ => none
noncomputable def notinV (x y : V) : Option Bool := match y with
  | .tuple ys => (match inT x ys with | some r => some (!r) | none => none)
  | _ => none
noncomputable def frz2 (objs : List O) (f : V → V → Option Bool) (a b : V) : Option Bool := match frz objs a with
  | some x => (match frz objs b with | some y => f x y | none => none)
  | none => none
noncomputable def cmpop (objs : List O) (o : COp) (a b : V) : Option Bool := match o with
  | .eq => frz2 objs eqV a b
  | .ne => frz2 objs neV a b
  | .lt => ltV a b
  | .ge => geV a b
  | .isin => frz2 objs inV a b
  | .notin => frz2 objs notinV a b
  | .is_ => isV a b

/-- a place of a sequence of n items -/
noncomputable def place (n : Nat) : Int → Option Nat
  | .ofNat k => match Nat.blt k n with | true => some k | false => none
  | .negSucc k => match Nat.blt k n with | true => some (n - (k + 1)) | false => none

noncomputable def index (objs : List O) (a i : V) : Option V := match i with
  | .int k => match Nat.blt k.natAbs bigN with
    | false => none
    | true => match a with
      | .str s => match place s.length k with | some j => (match s[j]? with | some c => some (.str [c]) | none => none) | none => none
      | .bytes _ s => match k with
        | .ofNat j => (match Nat.blt s.length bigN with | true => (match s[j]? with | some c => some (.int (.ofNat c)) | none => none) | false => none)
        | .negSucc _ => none
      | .tuple xs => match place xs.length k with | some j => xs[j]? | none => none
      | .list xs => match k with | .ofNat j => xs[j]? | .negSucc _ => none
      | .ref r => match itemsOf objs (.ref r) with | some xs => (match k with | .ofNat j => xs[j]? | .negSucc _ => none) | none => none
      | _ => none
  | _ => none

noncomputable def bound? : Option V → Option (Option Nat)
  | none => some none
  | some (.int (.ofNat k)) => match Nat.blt k bigN with | true => some (some k) | false => none
  | _ => none
noncomputable def cut {α : Type} (xs : List α) (lo hi : Option Nat) : List α :=
  match lo with
  | none => match hi with | none => xs | some h => xs.take h
  | some l => match hi with | none => xs.drop l | some h => (xs.take h).drop l
noncomputable def slice (objs : List O) (a : V) (lo hi : Option V) : Option V :=
  match bound? lo, bound? hi with
  | some l, some h => match a with
    | .str s => match hi with
      | none => (match l with | some i => (match Nat.blt s.length bigN with | true => some (.str (s.drop i)) | false => none) | none => none)
      | some _ => none
    | v => match itemsOf objs v with
      | some xs => (match Nat.blt xs.length bigN with | true => some (.list (cut xs l h)) | false => none)
      | none => none
  | _, _ => none

noncomputable def ints? : List V → Option (List Int)
  | [] => some []
  | x :: xs => match x with
    | .int i => (match okI i with
      | true => (match ints? xs with | some r => some (i :: r) | none => none)
      | false => none)
    | _ => none
noncomputable def insInt (x : Int) : List Int → List Int
  | [] => [x]
  | y :: ys => match ltInt y x with | true => y :: insInt x ys | false => x :: y :: ys
noncomputable def sortInts : List Int → List Int
  | [] => []
  | x :: xs => insInt x (sortInts xs)
noncomputable def sumInts : List Int → Int
  | [] => 0
  | x :: xs => x + sumInts xs
noncomputable def minInts (m : Int) : List Int → Int
  | [] => m
  | x :: xs => match ltInt x m with | true => minInts x xs | false => minInts m xs
noncomputable def maxInts (m : Int) : List Int → Int
  | [] => m
  | x :: xs => match ltInt m x with | true => maxInts x xs | false => maxInts m xs
noncomputable def octets? : List V → Option (List Nat)
  | [] => some []
  | x :: xs => match x with
    | .int i => (match i with
      | .ofNat n => (match Nat.blt n 256 with
        | true => (match octets? xs with | some r => some (n :: r) | none => none)
        | false => none)
      | .negSucc _ => none)
    | _ => none
noncomputable def vints : List Int → List V
  | [] => []
  | x :: xs => .int x :: vints xs

noncomputable def prim (objs : List O) (p : Prim) (args : List V) : Option (V × List O) := match args with
  | [a] => match p with
    | .len => match a with
      | .str s => match Nat.blt s.length bigN with | true => some (.int (.ofNat s.length), objs) | false => none
      | .bytes _ s => match Nat.blt s.length bigN with | true => some (.int (.ofNat s.length), objs) | false => none
      | v => match itemsOf objs v with | some xs => (match Nat.blt xs.length bigN with | true => some (.int (.ofNat xs.length), objs) | false => none) | none => none
    | .ord => match a with | .str [c] => some (.int (.ofNat c), objs) | _ => none
    | .min => match itemsOf objs a with
      | some xs => (match ints? xs with | some (i :: is) => some (.int (minInts i is), objs) | _ => none)
      | none => none
    | .max => match itemsOf objs a with
      | some xs => (match ints? xs with | some (i :: is) => some (.int (maxInts i is), objs) | _ => none)
      | none => none
    | .sum => match itemsOf objs a with
      | some xs => (match ints? xs with | some is => (match Nat.blt is.length 64 with | true => some (.int (sumInts is), objs) | false => none) | _ => none)
      | none => none
    | .sorted => match itemsOf objs a with
      | some xs => (match ints? xs with | some is => (match Nat.blt is.length 64 with | true => some (.list (vints (sortInts is)), objs) | false => none) | _ => none)
      | none => none
    | .bytes => match a with
      | .ref k => (match objs[k]? with | some (.barr b) => (match Nat.blt b.length bigN with | true => some (.bytes true b, objs) | false => none) | _ => none)
      | .list xs => (match octets? xs with | some b => (match Nat.blt b.length bigN with | true => some (.bytes false b, objs) | false => none) | none => none)
      | _ => none
    | .bytearray => match a with
      | .int (.ofNat n) => (match Nat.blt n bigN with | true => some (.ref objs.length, objs ++ [.barr (List.replicate n 0)]) | false => none)
      | _ => none
  | _ => none

noncomputable def truth : V → Option Bool
  | .bool b => some b
  | .none => some false
  | _ => none

/-- the texts in which the pattern has no match: the ones that are asked for -/
noncomputable def tailsA : List (List Nat) := [[46, 111, 114, 103], [46, 111, 114, 103, 46], [46, 108, 111, 99, 97, 108], [46, 112, 46, 111, 114, 103], [46, 113, 46, 111, 114, 103], [46, 112, 46, 111, 114, 103, 46], [46, 113, 46, 111, 114, 103, 46], [46, 55, 46, 108, 111, 99, 97, 108], [46, 97, 46, 108, 111, 99, 97, 108], [46, 98, 46, 108, 111, 99, 97, 108], [46, 107, 46, 108, 111, 99, 97, 108], [46, 112, 46, 113, 46, 111, 114, 103], [46, 122, 46, 108, 111, 99, 97, 108], [46, 112, 46, 113, 46, 111, 114, 103, 46], [46, 55, 46, 107, 46, 108, 111, 99, 97, 108], [46, 97, 46, 98, 46, 108, 111, 99, 97, 108], [46, 98, 46, 97, 46, 108, 111, 99, 97, 108], [46, 107, 46, 55, 46, 108, 111, 99, 97, 108], [46, 107, 46, 122, 46, 108, 111, 99, 97, 108], [46, 122, 46, 107, 46, 108, 111, 99, 97, 108]]
noncomputable def headsO : List (List Nat) := [[112, 46, 111, 114, 103], [113, 46, 111, 114, 103], [55, 46, 108, 111, 99, 97, 108], [107, 46, 108, 111, 99, 97, 108], [112, 46, 113, 46, 111, 114, 103], [122, 46, 108, 111, 99, 97, 108], [55, 46, 107, 46, 108, 111, 99, 97, 108], [107, 46, 55, 46, 108, 111, 99, 97, 108], [107, 46, 122, 46, 108, 111, 99, 97, 108], [122, 46, 107, 46, 108, 111, 99, 97, 108]]
noncomputable def anyEq (s : List Nat) : List (List Nat) → Bool
  | [] => false
  | x :: xs => match eqNats s x with | true => true | false => anyEq s xs
noncomputable def noIp (s : List Nat) : Bool := match s with
  | [] => false
  | c :: r => match Nat.ble 97 c && Nat.ble c 100 with
    | true => anyEq r tailsA
    | false => anyEq (c :: r) headsO
noncomputable def lfind (c : Nat) : List Nat → Nat → Int
  | [], _ => .negSucc 0
  | x :: xs, i => match Nat.beq x c with | true => .ofNat i | false => lfind c xs (i + 1)

noncomputable def meth (objs : List O) (m : Meth) (o : V) (args : List V) : Option (V × List O) := match m with
  | .append => match o, args with
    | .ref k, [x] => (match objs[k]? with
      | some (.list xs) => (match Nat.blt xs.length bigN with | true => some (.none, objs.set k (.list (xs ++ [x]))) | false => none)
      | _ => none)
    | _, _ => none
  | .insert => match o, args with
    | .ref k, [.int (.ofNat i), x] => (match objs[k]? with
      | some (.list xs) => (match Nat.ble i xs.length && Nat.blt xs.length bigN with | true => some (.none, objs.set k (.list (xs.take i ++ x :: xs.drop i))) | false => none)
      | _ => none)
    | _, _ => none
  | .find => match o, args with
    | .str s, [.str [c]] => some (.int (lfind c s 0), objs)
    | _, _ => none
  | .search => match args with
    | [.str s] => (match noIp s with | true => some (.none, objs) | false => none)
    | _ => none

/-- the method is there before its arguments are made -/
noncomputable def methOk (objs : List O) (m : Meth) (o : V) : Bool := match m with
  | .append => match o with | .ref k => (match objs[k]? with | some (.list _) => true | _ => false) | _ => false
  | .insert => match o with | .ref k => (match objs[k]? with | some (.list _) => true | _ => false) | _ => false
  | .find => match o with | .str _ => true | _ => false
  | .search => false

noncomputable def setitem (objs : List O) (o i x : V) : Option (List O) := match o, i with
  | .ref k, .int (.ofNat j) => match objs[k]? with
    | some (.list xs) => (match Nat.blt j xs.length && Nat.blt xs.length bigN with | true => some (objs.set k (.list (xs.set j x))) | false => none)
    | some (.barr b) => (match x with
      | .int (.ofNat n) => (match Nat.blt j b.length && Nat.blt n 256 && Nat.blt b.length bigN with | true => some (objs.set k (.barr (b.set j n))) | false => none)
      | _ => none)
    | _ => none
  | _, _ => none

noncomputable def setTgt (loc : List (Option V)) (objs : List O) : Tgt → V → Option (List (Option V))
  | .one i, v => some (loc.set i (some v))
  | .many is, .tuple xs => match Nat.beq is.length xs.length with
    | true => some ((is.zip xs).foldl (fun l p => l.set p.1 (some p.2)) loc)
    | false => none
  | .many _, _ => none

/-- what a loop goes over -/
inductive It where
  | vals (xs : List V)
  | ref (k : Nat)
noncomputable def rangeItems (step : Int) : Nat → Int → List V
  | 0, _ => []
  | n + 1, i => .int i :: rangeItems step n (i + step)
noncomputable def enumItems : Nat → List V → List V
  | _, [] => []
  | i, x :: xs => .tuple [.int (.ofNat i), x] :: enumItems (i + 1) xs
noncomputable def chars : List Nat → List V
  | [] => []
  | c :: s => .str [c] :: chars s
noncomputable def rangeOf (args : List V) : Option It := match args with
  | [.int (.ofNat n)] => match Nat.blt n bigN with | true => some (.vals (rangeItems 1 n 0)) | false => none
  | [.int (.ofNat 0), .int (.ofNat n), .int (.ofNat (w + 1))] => match Nat.blt n bigN && Nat.blt w bigN with
    | true => some (.vals (rangeItems (.ofNat (w + 1)) ((n + w) / (w + 1)) 0))
    | false => none
  | _ => none
noncomputable def itOf (objs : List O) : V → Option It
  | .list xs => match Nat.blt xs.length bigN with | true => some (.vals xs) | false => none
  | .tuple xs => match Nat.blt xs.length bigN with | true => some (.vals xs) | false => none
  | .str s => match Nat.blt s.length bigN with | true => some (.vals (chars s)) | false => none
  | .ref k => match objs[k]? with | some (.list _) => some (.ref k) | _ => none
  | _ => none
noncomputable def It.turns (objs : List O) : It → Nat
  | .vals xs => xs.length + 1
  | .ref k => match objs[k]? with | some (.list xs) => xs.length + 1 | _ => 0
/-- the item at a place: none where it cannot be told, some none behind the last -/
noncomputable def It.at (objs : List O) : It → Nat → Option (Option V)
  | .vals xs, i => some xs[i]?
  | .ref k, i => match objs[k]? with | some (.list xs) => some xs[i]? | _ => none

structure Fn where
  init : List (Option Nat)
  nargs : Nat
  dflt : List V
  body : List S
  byRef : Bool := false
  kwo : Nat := 0

structure Ev where
  x : X → St → Option (V × St)
  t : X → St → Option (Bool × St)
  b : List S → St → Option (Fl × St)

section
variable (F : List Fn) (r : Ev)

noncomputable def evL : List X → St → Option (List V × St)
  | [], σ => some ([], σ)
  | x :: xs, σ => match r.x x σ with
    | some (v, σ1) => match evL xs σ1 with
      | some (vs, σ2) => some (v :: vs, σ2)
      | none => none
    | none => none
noncomputable def evO : Option X → St → Option (Option V × St)
  | none, σ => some (none, σ)
  | some x, σ => match r.x x σ with
    | some (v, σ1) => some (some v, σ1)
    | none => none
noncomputable def evAnd : List X → St → Option (V × St)
  | [], _ => none
  | [x], σ => r.x x σ
  | x :: xs, σ => match r.x x σ with
    | some (v, σ1) => match truth v with
      | some true => evAnd xs σ1
      | some false => some (v, σ1)
      | none => none
    | none => none
noncomputable def evOr : List X → St → Option (V × St)
  | [], _ => none
  | [x], σ => r.x x σ
  | x :: xs, σ => match r.x x σ with
    | some (v, σ1) => match truth v with
      | some false => evOr xs σ1
      | some true => some (v, σ1)
      | none => none
    | none => none
noncomputable def evAll : List X → St → Option (Bool × St)
  | [], σ => some (true, σ)
  | x :: xs, σ => match r.t x σ with
    | some (true, σ1) => evAll xs σ1
    | some (false, σ1) => some (false, σ1)
    | none => none
noncomputable def evAny : List X → St → Option (Bool × St)
  | [], σ => some (false, σ)
  | x :: xs, σ => match r.t x σ with
    | some (false, σ1) => evAny xs σ1
    | some (true, σ1) => some (true, σ1)
    | none => none

noncomputable def capLoc (loc : List (Option V)) : List (Option Nat) → List (Option V)
  | [] => []
  | none :: cs => none :: capLoc loc cs
  | some k :: cs => (match loc[k]? with | some v => v | none => none) :: capLoc loc cs

noncomputable def initLoc (args : List V) : List (Option Nat) → List (Option V)
  | [] => []
  | none :: cs => none :: initLoc args cs
  | some k :: cs => args[k]? :: initLoc args cs

/-- the loop of a comprehension: the state is the comprehension's own frame with the store -/
noncomputable def evComp (tgt : Tgt) (elt : X) (conds : List X) (it : It) : Nat → Nat → St → List V → Option (List V × St)
  | 0, _, _, _ => none
  | n + 1, i, σ, acc => match it.at σ.objs i with
    | none => none
    | some none => some (acc, σ)
    | some (some v) => match setTgt σ.loc σ.objs tgt v with
      | none => none
      | some loc => match evAll r conds ⟨loc, σ.objs⟩ with
        | none => none
        | some (false, σ1) => evComp tgt elt conds it n (i + 1) σ1 acc
        | some (true, σ1) => match r.x elt σ1 with
          | none => none
          | some (u, σ2) => match Nat.blt acc.length bigN with
            | true => evComp tgt elt conds it n (i + 1) σ2 (acc ++ [u])
            | false => none

noncomputable def evFor (tgt : Tgt) (b e : List S) (it : It) : Nat → Nat → St → Option (Fl × St)
  | 0, _, _ => none
  | n + 1, i, σ => match it.at σ.objs i with
    | none => none
    | some none => r.b e σ
    | some (some v) => match setTgt σ.loc σ.objs tgt v with
      | none => none
      | some loc => match r.b b ⟨loc, σ.objs⟩ with
        | none => none
        | some (.next, σ1) => evFor tgt b e it n (i + 1) σ1
        | some (.brk, σ1) => some (.next, σ1)
        | some (.ret v, σ1) => some (.ret v, σ1)

noncomputable def evWhile (t : X) (b : List S) : Nat → St → Option (Fl × St)
  | 0, _ => none
  | n + 1, σ => match r.t t σ with
    | none => none
    | some (false, σ1) => some (.next, σ1)
    | some (true, σ1) => match r.b b σ1 with
      | none => none
      | some (.next, σ2) => evWhile t b n σ2
      | some (.brk, σ2) => some (.next, σ2)
      | some (.ret v, σ2) => some (.ret v, σ2)

/-- a call: the callee's store is empty, but for the one list that it is handed by reference -/
noncomputable def evCall (f : Nat) (vs : List V) (objs : List O) : Option (V × List O) := match F[f]? with
  | none => none
  | some fn => match Nat.ble (vs.length + fn.kwo) fn.nargs && Nat.ble fn.nargs (vs.length + fn.dflt.length) with
    | false => none
    | true =>
      match fn.byRef with
      | true => match vs with
        | .ref k :: us => match objs[k]? with
          | some (.list xs) => match noRefs xs && noRefs us with
            | false => none
            | true => match (r.b fn.body ⟨initLoc (.ref 0 :: us ++ fn.dflt.drop (vs.length + fn.dflt.length - fn.nargs)) fn.init, [.list xs]⟩ : Option (Fl × St)) with
              | some (.next, ⟨_, .list ys :: _⟩) => (match noRefs ys with | true => some (.none, objs.set k (.list ys)) | false => none)
              | _ => none
          | _ => none
        | _ => none
      | false => match frzs objs vs with
        | none => none
        | some us => match (r.b fn.body ⟨initLoc (us ++ fn.dflt.drop (vs.length + fn.dflt.length - fn.nargs)) fn.init, []⟩ : Option (Fl × St)) with
          | some (.ret v, σ) => match frz σ.objs v with
            | some w => match scalar w || noRefs vs with | true => some (w, objs) | false => none
            | none => none
          | _ => none

/-- what a loop goes over, from its expression -/
noncomputable def iterEval (x : X) (σ : St) : Option (It × St) := match x with
  | .range args => match evL r args σ with
    | some (vs, σ1) => match rangeOf vs with | some it => some (it, σ1) | none => none
    | none => none
  | x => match r.x x σ with
    | some (v, σ1) => match itOf σ1.objs v with | some it => some (it, σ1) | none => none
    | none => none

noncomputable def evX : X → St → Option (V × St)
  | .slot i, σ => match σ.loc[i]? with
    | some (some v) => some (v, σ)
    | _ => none
  | .const v, σ => match scalar v with | true => some (v, σ) | false => none
  | .bin o a b, σ => match r.x a σ with
    | some (va, σ1) => match r.x b σ1 with
      | some (vb, σ2) => match binop o va vb with | some v => some (v, σ2) | none => none
      | none => none
    | none => none
  | .addl mu a b, σ => match r.x a σ with
    | some (va, σ1) => match r.x b σ1 with
      | some (vb, σ2) => match itemsOf σ2.objs va with
        | some xs => match itemsOf σ2.objs vb with
          | some ys => match Nat.blt (xs.length + ys.length) bigN with
            | true => (match mu with
              | true => some (.ref σ2.objs.length, ⟨σ2.loc, σ2.objs ++ [.list (xs ++ ys)]⟩)
              | false => some (.list (xs ++ ys), σ2))
            | false => none
          | none => none
        | none => none
      | none => none
    | none => none
  | .cmp o a b, σ => match r.x a σ with
    | some (va, σ1) => match r.x b σ1 with
      | some (vb, σ2) => match cmpop σ2.objs o va vb with | some v => some (.bool v, σ2) | none => none
      | none => none
    | none => none
  | .andd xs, σ => evAnd r xs σ
  | .orr xs, σ => evOr r xs σ
  | .nott x, σ => match r.x x σ with
    | some (v, σ1) => match truth v with | some b => some (.bool (!b), σ1) | none => none
    | none => none
  | .neg x, σ => match r.x x σ with
    | some (.int i, σ1) => some (.int (-i), σ1)
    | _ => none
  | .idx a i, σ => match r.x a σ with
    | some (va, σ1) => match r.x i σ1 with
      | some (vi, σ2) => match index σ2.objs va vi with | some v => some (v, σ2) | none => none
      | none => none
    | none => none
  | .slice a lo hi, σ => match r.x a σ with
    | some (va, σ1) => match evO r lo σ1 with
      | some (vl, σ2) => match evO r hi σ2 with
        | some (vh, σ3) => match slice σ3.objs va vl vh with | some v => some (v, σ3) | none => none
        | none => none
      | none => none
    | none => none
  | .tup xs, σ => match evL r xs σ with
    | some (vs, σ1) => match Nat.blt vs.length bigN with | true => some (.tuple vs, σ1) | false => none
    | none => none
  | .list mu xs, σ => match evL r xs σ with
    | some (vs, σ1) => match Nat.blt vs.length bigN with
      | true => (match mu with
        | true => some (.ref σ1.objs.length, ⟨σ1.loc, σ1.objs ++ [.list vs]⟩)
        | false => some (.list vs, σ1))
      | false => none
    | none => none
  | .call f args, σ => match evL r args σ with
    | some (vs, σ1) => match evCall F r f vs σ1.objs with | some (v, objs) => some (v, ⟨σ1.loc, objs⟩) | none => none
    | none => none
  | .prim p args, σ => match evL r args σ with
    | some (vs, σ1) => match prim σ1.objs p vs with | some (v, objs) => some (v, ⟨σ1.loc, objs⟩) | none => none
    | none => none
  | .range _, _ => none
  | .enum _, _ => none
  | .meth m o args, σ => match m with
    | .search => match evL r args σ with
      | some (vs, σ2) => match meth σ2.objs .search .none vs with | some (v, objs) => some (v, ⟨σ2.loc, objs⟩) | none => none
      | none => none
    | m => match r.x o σ with
      | some (vo, σ1) => match methOk σ1.objs m vo with
        | true => match evL r args σ1 with
          | some (vs, σ2) => match meth σ2.objs m vo vs with | some (v, objs) => some (v, ⟨σ2.loc, objs⟩) | none => none
          | none => none
        | false => none
      | none => none
  | .comp cap tgt elt iter conds, σ => match iterEval r iter σ with
    | some (it, σ1) => match evComp r tgt elt conds it (it.turns σ1.objs) 0 ⟨capLoc σ1.loc cap, σ1.objs⟩ [] with
      | some (vs, σ2) => some (.list vs, ⟨σ1.loc, σ2.objs⟩)
      | none => none
    | none => none

noncomputable def twoSlots (g : COp → Bool) : X → Option (Nat × Nat)
  | .cmp o a b => match g o with
    | true => (match a with
      | .slot i => (match b with | .slot j => some (i, j) | _ => none)
      | _ => none)
    | false => none
  | _ => none
noncomputable def COp.isIs : COp → Bool
  | .is_ => true
  | _ => false
noncomputable def COp.isEq : COp → Bool
  | .eq => true
  | _ => false
noncomputable def isOrEq? : List X → Option (Nat × Nat)
  | [a, b] => match twoSlots COp.isIs a with
    | some (i, j) => (match twoSlots COp.isEq b with
      | some (i', j') => (match Nat.beq i i' && Nat.beq j j' with | true => some (i, j) | false => none)
      | none => none)
    | none => none
  | _ => none
noncomputable def sameOr : V → V → Option Bool
  | .bool x, .bool y => some (x == y)
  | .bytes true x, .bytes true y => some (eqNats x y)
  | _, _ => none

noncomputable def evT : X → St → Option (Bool × St)
  | .nott x, σ => match r.t x σ with | some (b, σ1) => some (!b, σ1) | none => none
  | .andd xs, σ => evAll r xs σ
  | .orr xs, σ => match isOrEq? xs with
    | some (i, j) => match σ.loc[i]?, σ.loc[j]? with
      | some (some va), some (some vb) => (match sameOr va vb with | some c => some (c, σ) | none => none)
      | _, _ => none
    | none => evAny r xs σ
  | .cmp o a b, σ => match r.x a σ with
    | some (va, σ1) => match r.x b σ1 with
      | some (vb, σ2) => match cmpop σ2.objs o va vb with | some v => some (v, σ2) | none => none
      | none => none
    | none => none
  | x, σ => match r.x x σ with
    | some (v, σ1) => match truth v with | some b => some (b, σ1) | none => none
    | none => none

noncomputable def evEnum (tgt : Tgt) (b e : List S) (p : V × St) : Option (Fl × St) := match p.1 with
  | .list xs => (match tgt with
    | .many _ => (match Nat.blt xs.length bigN with | true => evFor r tgt b e (.vals (enumItems 0 xs)) (xs.length + 1) 0 p.2 | false => none)
    | .one _ => none)
  | _ => none
noncomputable def evS : S → St → Option (Fl × St)
  | .expr x, σ => match r.x x σ with | some (.none, σ1) => some (.next, σ1) | _ => none
  | .assign i x, σ => match r.x x σ with | some (v, σ1) => some (.next, ⟨σ1.loc.set i (some v), σ1.objs⟩) | none => none
  | .setidx o i x, σ => match r.x x σ with
    | some (v, σ1) => match r.x o σ1 with
      | some (vo, σ2) => match r.x i σ2 with
        | some (vi, σ3) => match setitem σ3.objs vo vi v with | some objs => some (.next, ⟨σ3.loc, objs⟩) | none => none
        | none => none
      | none => none
    | none => none
  | .augname i op x, σ => match σ.loc[i]? with
    | some (some old) => match r.x x σ with
      | some (v, σ1) => match binop op old v with
        | some w => (match op, w with | .add, .int _ => some (.next, ⟨σ1.loc.set i (some w), σ1.objs⟩) | .add, .str _ => some (.next, ⟨σ1.loc.set i (some w), σ1.objs⟩) | _, _ => none)
        | none => none
      | none => none
    | _ => none
  | .augidx o i op x, σ => match r.x o σ with
    | some (vo, σ1) => match r.x i σ1 with
      | some (vi, σ2) => match index σ2.objs vo vi with
        | some old => match r.x x σ2 with
          | some (v, σ3) => match binop op old v with
            | some w => (match op, w with | .add, .int _ => (match setitem σ3.objs vo vi w with | some objs => some (.next, ⟨σ3.loc, objs⟩) | none => none) | _, _ => none)
            | none => none
          | none => none
        | none => none
      | none => none
    | none => none
  | .iff t b e, σ => match r.t t σ with
    | some (true, σ1) => r.b b σ1
    | some (false, σ1) => r.b e σ1
    | none => none
  | .whil t b, σ => evWhile r t b 64 σ
  | .forr tgt it b e, σ => match it with
    | .enum x => match r.x x σ with
      | some p => evEnum r tgt b e p
      | none => none
    | x => match iterEval r x σ with
      | some (it, σ1) => evFor r tgt b e it (it.turns σ1.objs) 0 σ1
      | none => none
  | .ret x, σ => match x with
    | none => some (.ret .none, σ)
    | some x => match r.x x σ with | some (v, σ1) => some (.ret v, σ1) | none => none
  | .brk, σ => some (.brk, σ)
  | .fail, _ => none

noncomputable def evB : List S → St → Option (Fl × St)
  | [], σ => some (.next, σ)
  | s :: ss, σ => match evS r s σ with
    | some (.next, σ1) => evB ss σ1
    | some (f, σ1) => some (f, σ1)
    | none => none
end

noncomputable def ev (F : List Fn) : Nat → Ev
  | 0 => ⟨fun _ _ => none, fun _ _ => none, fun _ _ => none⟩
  | n + 1 => ⟨evX F (ev F n), evT (ev F n), evB (ev F n)⟩

noncomputable def run (F : List Fn) (n : Nat) (f : Nat) (args : List V) : Option V := match evCall F (ev F n) f args [] with
  | some (v, _) => some v
  | none => none
end Mine
end
section
namespace Mine
open PySem

noncomputable abbrev Nm := List (Str × NameKind)

noncomputable def slotFrom (x : Str) : Nm → Nat → Option Nat
  | [], _ => none
  | (y, k) :: r, i => if y = x then (match k with | .local | .cell | .free => some i | _ => none) else slotFrom x r (i + 1)
noncomputable def slotOf (nm : Nm) (x : Str) : Option Nat := slotFrom x nm 0
noncomputable def isGlob (nm : Nm) (x : Str) : Bool := match nm.lookup x with | some .globalImplicit => true | _ => false

noncomputable def opOf : Operator → Option BOp
  | .Add => some .add | .Sub => some .sub | .Mult => some .mul | .FloorDiv => some .fdiv | .Mod => some .mod | .Pow => some .pow | .BitAnd => some .band
  | _ => none
noncomputable def copOf : CmpOp → Option COp
  | .Eq => some .eq | .NotEq => some .ne | .Lt => some .lt | .GtE => some .ge | .In => some .isin | .NotIn => some .notin | .Is => some .is_
  | _ => none

noncomputable def fnIdx (x : Str) : List Str → Nat → Option Nat
  | [], _ => none
  | y :: r, i => if y = x then some i else fnIdx x r (i + 1)

noncomputable def cL (f : Expr → Option X) : List Expr → Option (List X)
  | [] => some []
  | e :: es => match f e with
    | some x => match cL f es with | some xs => some (x :: xs) | none => none
    | none => none
noncomputable def cO (f : Expr → Option X) : Option Expr → Option (Option X)
  | none => some none
  | some e => match f e with | some x => some (some x) | none => none
noncomputable def cConst : Const → Option V
  | .none => some .none
  | .bool b => some (.bool b)
  | .int i => some (.int i)
  | .str s => some (.str s.cps.toList)
  | .bytes b => some (.bytes false (b.map (·.toNat)))
  | _ => none
noncomputable def primOf (f : Str) : Option Prim :=
  if f = "len" then some .len else if f = "ord" then some .ord else if f = "min" then some .min else if f = "max" then some .max else
  if f = "sum" then some .sum else if f = "sorted" then some .sorted else if f = "bytes" then some .bytes else if f = "bytearray" then some .bytearray else none
noncomputable def methOf (f : Str) : Option Meth :=
  if f = "append" then some .append else if f = "insert" then some .insert else if f = "find" then some .find else none

/-- a slot that may be stored -/
noncomputable def slotW (nm : Nm) (x : Str) : Option Nat := match nm.lookup x with | some .local | some .cell => slotOf nm x | _ => none

noncomputable def capOne (nm : Nm) (p : Str × NameKind) : Option (Option Nat) := match p.2 with
  | .free => (match nm.lookup p.1 with
    | some k => (match k with
      | .cell => (match slotOf nm p.1 with | some i => some (some i) | none => none)
      | .free => (match slotOf nm p.1 with | some i => some (some i) | none => none)
      | _ => none)
    | none => none)
  | _ => some none
/-- a scope of a comprehension that has a form here -/
noncomputable def scOk (sc : Scope) : Bool := (match sc.kind with | .function => true | _ => false) && decide (sc.names.map (·.1)).Nodup && (sc.names.all fun p => !(p.1 == ("__debug__" : Str)) && !(p.1 == ("__classdict__" : Str)))

noncomputable def ob {α β : Type} (x : Option α) (f : α → Option β) : Option β := @Option.rec α (fun _ => Option β) none f x
theorem nos {α : Type} {x : α} {p : Prop} (h : (none : Option α) = some x) : p := nomatch h
theorem nob {p : Prop} (h : false = true) : p := nomatch h
theorem elS {α β : Type} {x : Option α} {k : α → Option β} {r : β} {P : Prop} (e : (match x with | some a => k a | none => none) = some r) (h : ∀ a, x = some a → k a = some r → P) : P := by
  cases x with
  | none => exact nos e
  | some a => exact h a rfl e
theorem elT {β : Type} {c : Bool} {z : Option β} {r : β} {P : Prop} (e : (match c with | true => z | false => none) = some r) (h : c = true → z = some r → P) : P := by
  cases c with
  | false => exact nos e
  | true => exact h rfl e
theorem elF {β : Type} {c : Bool} {z : Option β} {r : β} {P : Prop} (e : (match c with | true => none | false => z) = some r) (h : c = false → z = some r → P) : P := by
  cases c with
  | true => exact nos e
  | false => exact h rfl e
theorem elP {α β γ : Type} {x : Option (α × β)} {k : α → β → Option γ} {r : γ} {P : Prop} (e : (match x with | some (a, b) => k a b | none => none) = some r) (h : ∀ a b, x = some (a, b) → k a b = some r → P) : P := by
  cases x with
  | none => exact nos e
  | some a => exact h a.1 a.2 rfl e
theorem elC {α γ : Type} {x : Option (List α)} {k : α → List α → Option γ} {r : γ} {P : Prop} (e : (match x with | some (a :: b) => k a b | _ => none) = some r) (h : ∀ a b, x = some (a :: b) → k a b = some r → P) : P := by
  cases x with
  | none => exact nos e
  | some a => cases a with
    | nil => exact nos e
    | cons a b => exact h a b rfl e
theorem el2 {α β γ : Type} {x : Option α} {y : Option β} {k : α → β → Option γ} {r : γ} {P : Prop} (e : (match x, y with | some a, some b => k a b | _, _ => none) = some r) (h : ∀ a b, x = some a → y = some b → k a b = some r → P) : P := by
  cases x with
  | none => exact nos e
  | some a => cases y with
    | none => exact nos e
    | some b => exact h a b rfl rfl e
theorem eS {α γ : Type} {x : Option α} {G : α → Option γ} {r : γ} {P : Prop} (e : @Option.rec α (fun _ => Option γ) none G x = some r) (h : ∀ a, x = some a → G a = some r → P) : P := by
  cases x with
  | none => exact nos e
  | some a => exact h a rfl e
theorem eP {α β γ : Type} {x : Option (α × β)} {G : α × β → Option γ} {r : γ} {P : Prop} (e : @Option.rec (α × β) (fun _ => Option γ) none G x = some r) (h : ∀ a b, x = some (a, b) → G (a, b) = some r → P) : P := by
  cases x with
  | none => exact nos e
  | some a => exact h a.1 a.2 rfl e
theorem sI {α : Type} {a c : α} {P : Prop} (e : some a = some c) (h : a = c → P) : P := h (Option.some.inj e)
theorem pI {α β : Type} {a c : α} {b d : β} {P : Prop} (e : some (a, b) = some (c, d)) (h : a = c → b = d → P) : P := h (congrArg Prod.fst (Option.some.inj e)) (congrArg Prod.snd (Option.some.inj e))
/-- the elimination of a list that is read to its end -/
theorem cL_el {f : Expr → Option X} {e : Expr} {es : List Expr} {xs : List X} {P : Prop} (h : cL f (e :: es) = some xs) (k : ∀ x ys, f e = some x → cL f es = some ys → xs = x :: ys → P) : P := by
  rw [cL] at h
  set_option smartUnfolding false in exact elS h fun x h1 h => elS h fun ys h2 h => k x ys h1 h2 (Option.some.inj h).symm
theorem iS {α γ : Type} {x : Option α} {G : α → γ} {a : α} {z r : γ} (e : x = some a) (h : G a = r) : @Option.rec α (fun _ => γ) z G x = r := by subst e; exact h
theorem iN {α γ : Type} {x : Option α} {G : α → γ} {z r : γ} (e : x = none) (h : z = r) : @Option.rec α (fun _ => γ) z G x = r := by subst e; exact h
theorem iT {γ : Type} {c : Bool} {z w r : γ} (e : c = true) (h : z = r) : @Bool.rec (fun _ => γ) w z c = r := by subst e; exact h
theorem iF {γ : Type} {c : Bool} {z w r : γ} (e : c = false) (h : w = r) : @Bool.rec (fun _ => γ) w z c = r := by subst e; exact h
theorem iL {γ : Type} {x : Option O} {xs : List V} {f : List V → γ} {z r : γ} (e : x = some (.list xs)) (h : f xs = r) : (match (generalizing := false) x with | some (.list xs) => f xs | _ => z) = r := by subst e; exact h
theorem iR {γ : Type} {x : Option O} {xs : List Nat} {f : List Nat → γ} {g : List V → γ} {z r : γ} (e : x = some (.barr xs)) (h : f xs = r) : (match (generalizing := false) x with | some (.list xs) => g xs | some (.barr b) => f b | _ => z) = r := by subst e; exact h
theorem iM {γ : Type} {x : Option O} {xs : List V} {f : List Nat → γ} {g : List V → γ} {z r : γ} (e : x = some (.list xs)) (h : g xs = r) : (match (generalizing := false) x with | some (.list xs) => g xs | some (.barr b) => f b | _ => z) = r := by subst e; exact h
theorem iV {γ : Type} {x : Option (Option V)} {v : V} {f : V → γ} {z r : γ} (e : x = some (some v)) (h : f v = r) : (match (generalizing := false) x with | some (some v) => f v | _ => z) = r := by subst e; exact h
theorem i2 {α β γ : Type} {x : Option α} {y : Option β} {a : α} {b : β} {f : α → β → γ} {z r : γ} (e1 : x = some a) (e2 : y = some b) (h : f a b = r) : (match (generalizing := false) x, y with | some a, some b => f a b | _, _ => z) = r := by subst e1 e2; exact h
theorem iVV {γ : Type} {x y : Option (Option V)} {a b : V} {f : V → V → γ} {z r : γ} (e1 : x = some (some a)) (e2 : y = some (some b)) (h : f a b = r) : (match (generalizing := false) x, y with | some (some a), some (some b) => f a b | _, _ => z) = r := by subst e1 e2; exact h
theorem iNext {γ : Type} {x : Option (Fl × St)} {l : List (Option V)} {ys : List V} {t : List O} {f : List V → γ} {z r : γ} (e : x = some (.next, ⟨l, .list ys :: t⟩)) (h : f ys = r) : (match (generalizing := false) x with | some (.next, ⟨_, .list ys :: _⟩) => f ys | _ => z) = r := by subst e; exact h
set_option backward.match.sparseCases false
theorem ob_inv {α β : Type} {x : Option α} {f : α → Option β} {r : β} (h : ob x f = some r) : ∃ a, x = some a ∧ f a = some r := by
  cases x with
  | none => cases h
  | some a => exact ⟨a, rfl, h⟩
noncomputable def capOf (nm : Nm) (l : Nm) : Option (List (Option Nat)) := @List.rec (Str × NameKind) (fun _ => Option (List (Option Nat))) (some []) (fun p _ ih => ob (capOne nm p) fun c => ob ih fun cs => some (c :: cs)) l
noncomputable def ift {β : Type} (b : Bool) (x : Option β) : Option β := @Bool.rec (fun _ => Option β) none x b
theorem ift_inv {β : Type} {b : Bool} {x : Option β} {r : β} (h : ift b x = some r) : b = true ∧ x = some r := by
  cases b with
  | false => cases h
  | true => exact ⟨rfl, h⟩
/-- a list of just one -/
noncomputable def one1 {α β : Type} (l : List α) (f : α → Option β) : Option β := @List.rec α (fun _ => Option β) none (fun x t _ => @List.rec α (fun _ => Option β) (f x) (fun _ _ _ => none) t) l
theorem one1_inv {α β : Type} {l : List α} {f : α → Option β} {r : β} (h : one1 l f = some r) : ∃ a, l = [a] ∧ f a = some r := by
  cases l with
  | nil => cases h
  | cons a t => cases t with
    | nil => exact ⟨a, rfl, h⟩
    | cons b t => cases h
noncomputable def nil1 {α β : Type} (l : List α) (x : Option β) : Option β := @List.rec α (fun _ => Option β) x (fun _ _ _ => none) l
theorem nil1_inv {α β : Type} {l : List α} {x : Option β} {r : β} (h : nil1 l x = some r) : l = [] ∧ x = some r := by
  cases l with
  | nil => exact ⟨rfl, h⟩
  | cons a t => cases h

noncomputable def cN (nm : Nm) : Expr → Option Nat
  | .Name id _ => slotW nm id
  | _ => none
noncomputable def cTs (nm : Nm) (es : List Expr) : Option (List Nat) := @List.rec Expr (fun _ => Option (List Nat)) (some []) (fun e _ ih => ob (cN nm e) fun i => ob ih fun is => some (i :: is)) es
noncomputable def cT (nm : Nm) : Expr → Option Tgt
  | .Name id _ => ob (slotW nm id) fun i => some (.one i)
  | .Tuple es _ _ => ob (cTs nm es) fun is => some (.many is)
  | _ => none
theorem cN_inv {nm : Nm} {e : Expr} {i : Nat} (h : cN nm e = some i) : ∃ id p, e = .Name id p ∧ slotW nm id = some i := by
  cases e <;> first | exact ⟨_, _, rfl, h⟩ | exact nos h
noncomputable def isAdd : Operator → Bool
  | .Add => true
  | _ => false
theorem isAdd_inv {op : Operator} (h : isAdd op = true) : op = .Add := by cases op <;> first | rfl | exact nob h
noncomputable def isLst : Expr → Bool
  | .List _ _ => true
  | _ => false
theorem isLst_inv {e : Expr} (h : isLst e = true) : ∃ es p, e = .List es p := by cases e <;> first | exact ⟨_, _, rfl⟩ | exact nob h

section
variable (fns : List Str)

section
variable (f : Expr → Option X) (nm : Nm)
noncomputable def gBin (l : Expr) (op : Operator) (r : Expr) : Option X := ob (opOf op) fun o => ob (f l) fun a => ob (f r) fun b => some (@Bool.rec (fun _ => X) (.bin o a b) (.addl false a b) (isAdd op && isLst r))
noncomputable def gUn : UnaryOp → Expr → Option X
  | .Not, x => ob (f x) fun a => some (.nott a)
  | .USub, x => ob (f x) fun a => some (.neg a)
  | _, _ => none
noncomputable def gBool : BoolOp → List Expr → Option X
  | .And, vs => ob (cL f vs) fun xs => some (.andd xs)
  | .Or, vs => ob (cL f vs) fun xs => some (.orr xs)
noncomputable def gCmp (l : Expr) (ops : List CmpOp) (rs : List Expr) : Option X := one1 ops fun op => one1 rs fun r => ob (copOf op) fun o => ob (f l) fun a => ob (f r) fun b => some (.cmp o a b)
noncomputable def gFn (g : Str) (xs : List X) : Option X := @Option.rec Nat (fun _ => Option X)
  (@Option.rec Prim (fun _ => Option X) (@Bool.rec (fun _ => Option X) (ift (decide (g = "enumerate")) (one1 xs fun x => some (.enum x))) (some (.range xs)) (decide (g = "range"))) (fun p => some (.prim p xs)) (primOf g)) (fun i => some (.call i xs)) (fnIdx g fns 0)
noncomputable def gCallN (g : Str) (args : List Expr) : Option X := ift (isGlob nm g) (ob (cL f args) fun xs => gFn fns g xs)
noncomputable def gMeth (o m : Str) (xs : List X) : Option X := @Option.rec Nat (fun _ => Option X) (ift (isGlob nm o && decide (o = "IPV4_RE") && decide (m = "search")) (some (.meth .search (.const .none) xs)))
  (fun i => ob (methOf m) fun q => some (.meth q (.slot i) xs)) (slotOf nm o)
noncomputable def gCallA (o m : Str) (apos pos : Pos) (args : List Expr) : Option X := ift (apos.endLine == pos.line && decide (args.length < 30)) (ob (cL f args) fun xs => gMeth nm o m xs)
noncomputable def gAttr (m : Str) (apos pos : Pos) (args : List Expr) : Expr → Option X
  | .Name o _ => gCallA f nm o m apos pos args
  | _ => none
noncomputable def gCall (args : List Expr) (pos : Pos) : Expr → Option X
  | .Name g _ => gCallN fns f nm g args
  | .Attribute o m apos => gAttr f nm m apos pos args o
  | _ => none
noncomputable def gSl (v : Expr) (lo hi : Option Expr) : Expr → Option X
  | .Name _ _ => ob (f v) fun a => ob (cO f lo) fun l => ob (cO f hi) fun h => some (.slice a l h)
  | _ => none
noncomputable def gSub (v i : Expr) : Expr → Option X
  | .Slice lo hi st _ => @Option.rec Expr (fun _ => Option X) (gSl f v lo hi v) (fun _ => none) st
  | _ => ob (f v) fun a => ob (f i) fun j => some (.idx a j)
end
noncomputable def gGen (f : Nm → Expr → Option X) (nm : Nm) (elt : Expr) (sc : Scope) (tgt iter : Expr) (ifs : List Expr) : Option X :=
  ift (scOk sc) (ob (capOf nm sc.names) fun cap => ob (cT sc.names tgt) fun t => ob (f sc.names elt) fun a => ob (f nm iter) fun it => ob (cL (f sc.names) ifs) fun cs => some (.comp cap t a it cs))
noncomputable def gComp (f : Nm → Expr → Option X) (nm : Nm) (elt : Expr) (gens : List Comprehension) (sc : Scope) : Option X :=
  one1 gens fun g => ift (decide (g.is_async = 0)) (gGen f nm elt sc g.target g.iter g.ifs)

noncomputable def cX : Nat → Nm → Expr → Option X
  | 0, _, _ => none
  | n + 1, nm, e => match e with
    | .Name id _ => ob (slotOf nm id) fun i => some (.slot i)
    | .Constant c _ _ => ob (cConst c) fun v => some (.const v)
    | .BinOp l op r _ => gBin (cX n nm) l op r
    | .UnaryOp op x _ => gUn (cX n nm) op x
    | .BoolOp op vs _ => gBool (cX n nm) op vs
    | .Compare l ops rs _ => gCmp (cX n nm) l ops rs
    | .Call g args kws pos => nil1 kws (gCall fns (cX n nm) nm args pos g)
    | .Subscript v i _ => gSub (cX n nm) v i i
    | .List es _ => ob (cL (cX n nm) es) fun xs => some (.list false xs)
    | .Tuple es _ _ => ob (cL (cX n nm) es) fun xs => some (.tup xs)
    | .ListComp elt gens sc _ => gComp (cX n) nm elt gens sc
    | _ => none

/-- what an expression is, from its form here -/
noncomputable def CXf (n : Nat) (nm : Nm) (e : Expr) : X → Prop
  | .slot i => ∀ M : Expr → Prop, (∀ id p, slotOf nm id = some i → M (.Name id p)) → M e
  | .const v => ∀ M : Expr → Prop, (∀ c k p, cConst c = some v → M (.Constant c k p)) → M e
  | .bin o a b => ∀ M : Expr → Prop, (∀ l op r p, opOf op = some o → cX fns n nm l = some a → cX fns n nm r = some b → M (.BinOp l op r p)) → M e
  | .addl mu a b => ∀ M : Bool → Expr → Prop, (∀ l r p, cX fns n nm l = some a → cX fns n nm r = some b → M false (.BinOp l .Add r p)) → M mu e
  | .cmp o a b => ∀ M : Expr → Prop, (∀ l op r p, copOf op = some o → cX fns n nm l = some a → cX fns n nm r = some b → M (.Compare l [op] [r] p)) → M e
  | .andd xs => ∀ M : Expr → Prop, (∀ vs p, cL (cX fns n nm) vs = some xs → M (.BoolOp .And vs p)) → M e
  | .orr xs => ∀ M : Expr → Prop, (∀ vs p, cL (cX fns n nm) vs = some xs → M (.BoolOp .Or vs p)) → M e
  | .nott a => ∀ M : Expr → Prop, (∀ y p, cX fns n nm y = some a → M (.UnaryOp .Not y p)) → M e
  | .neg a => ∀ M : Expr → Prop, (∀ y p, cX fns n nm y = some a → M (.UnaryOp .USub y p)) → M e
  | .idx a j => ∀ M : Expr → Prop, (∀ v i p, cX fns n nm v = some a → cX fns n nm i = some j → M (.Subscript v i p)) → M e
  | .slice a l h => ∀ M : Expr → Prop, (∀ id q lo hi p2 p, cX fns n nm (.Name id q) = some a → cO (cX fns n nm) lo = some l → cO (cX fns n nm) hi = some h → M (.Subscript (.Name id q) (.Slice lo hi none p2) p)) → M e
  | .tup xs => ∀ M : Expr → Prop, (∀ es k p, cL (cX fns n nm) es = some xs → M (.Tuple es k p)) → M e
  | .list mu xs => ∀ M : Bool → Expr → Prop, (∀ es p, cL (cX fns n nm) es = some xs → M false (.List es p)) → M mu e
  | .call i xs => ∀ M : Expr → Prop, (∀ g q args p, isGlob nm g = true → cL (cX fns n nm) args = some xs → fnIdx g fns 0 = some i → M (.Call (.Name g q) args [] p)) → M e
  | .prim pr xs => ∀ M : Expr → Prop, (∀ g q args p, isGlob nm g = true → cL (cX fns n nm) args = some xs → primOf g = some pr → M (.Call (.Name g q) args [] p)) → M e
  | .range xs => ∀ M : Expr → Prop, (∀ q args p, isGlob nm "range" = true → cL (cX fns n nm) args = some xs → M (.Call (.Name "range" q) args [] p)) → M e
  | .enum x => ∀ M : Expr → Prop, (∀ q args p, isGlob nm "enumerate" = true → cL (cX fns n nm) args = some [x] → M (.Call (.Name "enumerate" q) args [] p)) → M e
  | .meth m ox xs => ∀ M : Meth → X → Expr → Prop, (∀ o q mn apos args p i m, (apos.endLine == p.line) = true → args.length < 30 → cL (cX fns n nm) args = some xs → slotOf nm o = some i → methOf mn = some m → M m (.slot i) (.Call (.Attribute (.Name o q) mn apos) args [] p)) →
      (∀ q apos args p, (apos.endLine == p.line) = true → args.length < 30 → cL (cX fns n nm) args = some xs → isGlob nm "IPV4_RE" = true → M .search (.const .none) (.Call (.Attribute (.Name "IPV4_RE" q) "search" apos) args [] p)) → M m ox e
  | .comp cap t a it cs => ∀ M : Expr → Prop, (∀ elt te ie ifs sc p, scOk sc = true → capOf nm sc.names = some cap → cT sc.names te = some t → cX fns n sc.names elt = some a → cX fns n nm ie = some it → cL (cX fns n sc.names) ifs = some cs → M (.ListComp elt [⟨te, ie, ifs, 0⟩] sc p)) → M e
variable {fns}
section
variable {n : Nat} {nm : Nm} {x : X}
theorem gBin_inv {l r : Expr} {op : Operator} {p : Pos} (h : gBin (cX fns n nm) l op r = some x) : CXf fns n nm (.BinOp l op r p) x := by
  obtain ⟨o, h1, h⟩ := ob_inv h
  obtain ⟨a, h2, h⟩ := ob_inv h
  obtain ⟨b, h3, h⟩ := ob_inv h
  cases e : (isAdd op && isLst r) with
  | false =>
    rw [e] at h
    cases h
    exact fun _ k => k l op r p h1 h2 h3
  | true =>
    rw [e] at h
    cases h
    obtain rfl := isAdd_inv (Bool.and_eq_true_iff.mp e).1
    exact fun _ k => k l r p h2 h3
theorem gUn_inv {y : Expr} {op : UnaryOp} {p : Pos} (h : gUn (cX fns n nm) op y = some x) : CXf fns n nm (.UnaryOp op y p) x := by
  cases op <;> first | exact nos h | skip
  case Not =>
    obtain ⟨a, h1, h⟩ := ob_inv (x := cX fns n nm y) h
    cases h
    exact fun _ k => k y p h1
  case USub =>
    obtain ⟨a, h1, h⟩ := ob_inv (x := cX fns n nm y) h
    cases h
    exact fun _ k => k y p h1
theorem gBool_inv {vs : List Expr} {op : BoolOp} {p : Pos} (h : gBool (cX fns n nm) op vs = some x) : CXf fns n nm (.BoolOp op vs p) x := by
  cases op with
  | And =>
    obtain ⟨a, h1, h⟩ := ob_inv (x := cL (cX fns n nm) vs) h
    cases h
    exact fun _ k => k vs p h1
  | Or =>
    obtain ⟨a, h1, h⟩ := ob_inv (x := cL (cX fns n nm) vs) h
    cases h
    exact fun _ k => k vs p h1
theorem gCmp_inv {l : Expr} {ops : List CmpOp} {rs : List Expr} {p : Pos} (h : gCmp (cX fns n nm) l ops rs = some x) : CXf fns n nm (.Compare l ops rs p) x := by
  obtain ⟨op, h1, h⟩ := one1_inv h
  obtain ⟨r, h2, h⟩ := one1_inv h
  obtain ⟨o, h3, h⟩ := ob_inv h
  obtain ⟨a, h4, h⟩ := ob_inv h
  obtain ⟨b, h5, h⟩ := ob_inv h
  cases h
  subst h1 h2
  exact fun _ k => k l op r p h3 h4 h5
theorem gCallN_inv {g : Str} {q p : Pos} {args : List Expr} (h : gCallN fns (cX fns n nm) nm g args = some x) : CXf fns n nm (.Call (.Name g q) args [] p) x := by
  obtain ⟨h1, h⟩ := ift_inv h
  obtain ⟨xs, h2, h⟩ := ob_inv h
  unfold gFn at h
  cases e : fnIdx g fns 0 with
  | some i =>
    rw [e] at h
    cases h
    exact fun _ k => k g q args p h1 h2 e
  | none =>
    rw [e] at h
    cases e2 : primOf g with
    | some pr =>
      rw [e2] at h
      cases h
      exact fun _ k => k g q args p h1 h2 e2
    | none =>
      rw [e2] at h
      cases e3 : decide (g = "range") with
      | true =>
        rw [e3] at h
        cases h
        obtain rfl := of_decide_eq_true e3
        exact fun _ k => k q args p h1 h2
      | false =>
        rw [e3] at h
        obtain ⟨e4, h⟩ := ift_inv h
        obtain ⟨y, e5, h⟩ := one1_inv h
        cases h
        obtain rfl := of_decide_eq_true e4
        exact fun _ k => k q args p h1 (e5 ▸ h2)
theorem gCallA_inv {o m : Str} {q apos p : Pos} {args : List Expr} (h : gCallA (cX fns n nm) nm o m apos p args = some x) : CXf fns n nm (.Call (.Attribute (.Name o q) m apos) args [] p) x := by
  obtain ⟨h1, h⟩ := ift_inv h
  obtain ⟨l1, l2⟩ := Bool.and_eq_true_iff.mp h1
  obtain ⟨xs, h2, h⟩ := ob_inv h
  unfold gMeth at h
  cases e : slotOf nm o with
  | some i =>
    rw [e] at h
    obtain ⟨mm, h3, h⟩ := ob_inv h
    cases h
    exact fun _ k _ => k o q m apos args p i mm l1 (of_decide_eq_true l2) h2 e h3
  | none =>
    rw [e] at h
    obtain ⟨h3, h⟩ := ift_inv h
    cases h
    obtain ⟨z1, z2⟩ := Bool.and_eq_true_iff.mp h3
    obtain ⟨z0, z1⟩ := Bool.and_eq_true_iff.mp z1
    obtain rfl := of_decide_eq_true z1
    obtain rfl := of_decide_eq_true z2
    exact fun _ _ k => k q apos args p l1 (of_decide_eq_true l2) h2 z0
theorem gCall_inv {g : Expr} {p : Pos} {args : List Expr} (h : gCall fns (cX fns n nm) nm args p g = some x) : CXf fns n nm (.Call g args [] p) x := by
  cases g <;> first | exact nos h | skip
  case Name g q => exact gCallN_inv h
  case Attribute o m apos =>
    cases o <;> first | exact nos h | skip
    case Name o q => exact gCallA_inv h
theorem idx_inv {v i : Expr} {p : Pos} (h : (ob (cX fns n nm v) fun a => ob (cX fns n nm i) fun j => some (.idx a j)) = some x) : CXf fns n nm (.Subscript v i p) x := by
  obtain ⟨a, h1, h⟩ := ob_inv h
  obtain ⟨j, h2, h⟩ := ob_inv h
  cases h
  exact fun _ k => k v i p h1 h2
theorem gSub_inv {v i : Expr} {p : Pos} (h : gSub (cX fns n nm) v i i = some x) : CXf fns n nm (.Subscript v i p) x := by
  cases i <;> first | exact idx_inv h | skip
  case Slice lo hi st q =>
    cases st with
    | some e => cases h
    | none =>
      cases v <;> first | exact nos h | skip
      case Name id q2 =>
        obtain ⟨a, h1, h⟩ := ob_inv (x := cX fns n nm (.Name id q2)) h
        obtain ⟨l, h2, h⟩ := ob_inv h
        obtain ⟨hh, h3, h⟩ := ob_inv h
        cases h
        exact fun _ k => k id q2 lo hi q p h1 h2 h3
theorem gComp_inv {elt : Expr} {gens : List Comprehension} {sc : Scope} (h : gComp (cX fns n) nm elt gens sc = some x) : ∃ te ie ifs cap t a it cs, gens = [⟨te, ie, ifs, 0⟩] ∧ x = .comp cap t a it cs ∧
    scOk sc = true ∧ capOf nm sc.names = some cap ∧ cT sc.names te = some t ∧ cX fns n sc.names elt = some a ∧ cX fns n nm ie = some it ∧ cL (cX fns n sc.names) ifs = some cs := by
  obtain ⟨⟨te, ie, ifs, k⟩, h1, h⟩ := one1_inv h
  obtain ⟨h2, h⟩ := ift_inv h
  obtain rfl : k = 0 := of_decide_eq_true h2
  obtain ⟨h3, h⟩ := ift_inv h
  obtain ⟨cap, h4, h⟩ := ob_inv h
  obtain ⟨t, h5, h⟩ := ob_inv h
  obtain ⟨a, h6, h⟩ := ob_inv h
  obtain ⟨it, h7, h⟩ := ob_inv h
  obtain ⟨cs, h8, h⟩ := ob_inv h
  exact ⟨te, ie, ifs, cap, t, a, it, cs, h1, (Option.some.inj h).symm, h3, h4, h5, h6, h7, h8⟩
end
theorem cX_inv {k : Nat} {nm : Nm} {e : Expr} {x : X} (h : cX fns k nm e = some x) : ∃ n, k = n + 1 ∧ CXf fns n nm e x := by
  cases k with
  | zero => cases h
  | succ n =>
    refine ⟨n, rfl, ?_⟩
    cases e <;> first | exact nos h | skip
    case BinOp l op r p => exact gBin_inv h
    case UnaryOp op y p => exact gUn_inv h
    case BoolOp op vs p => exact gBool_inv h
    case Compare l ops rs p => exact gCmp_inv h
    case Call g args kws p =>
      obtain ⟨h1, h⟩ := nil1_inv (l := kws) h
      subst h1
      exact gCall_inv h
    case Subscript v i p => exact gSub_inv h
    case ListComp elt gens sc p =>
      obtain ⟨te, ie, ifs, cap, t, a, it, cs, rfl, rfl, q⟩ := gComp_inv (gens := gens) h
      exact fun _ k => k elt te ie ifs sc p q.1 q.2.1 q.2.2.1 q.2.2.2.1 q.2.2.2.2.1 q.2.2.2.2.2
    case Name id p =>
      obtain ⟨i, h1, h⟩ := ob_inv (x := slotOf nm id) h
      cases h
      exact fun _ k => k id p h1
    case Constant c k p =>
      obtain ⟨v, h1, h⟩ := ob_inv (x := cConst c) h
      cases h
      exact fun _ f => f c k p h1
    case List es p =>
      obtain ⟨xs, h1, h⟩ := ob_inv (x := cL (cX fns n nm) es) h
      cases h
      exact fun _ k => k es p h1
    case Tuple es k p =>
      obtain ⟨xs, h1, h⟩ := ob_inv (x := cL (cX fns n nm) es) h
      cases h
      exact fun _ f => f es k p h1
variable (fns)

/-- the right side of an assignment: a list that is made here may be changed -/
noncomputable def toMut : X → Option X
  | .list _ xs => some (.list true xs)
  | .bin _ a b => some (.addl true a b)
  | .addl _ a b => some (.addl true a b)
  | _ => none
noncomputable def isMk : Expr → Bool
  | .List _ _ => true
  | .BinOp l op _ _ => isLst l && isAdd op
  | _ => false
noncomputable def cR (n : Nat) (nm : Nm) (e : Expr) : Option X := @Bool.rec (fun _ => Option X) (cX fns n nm e) (ob (cX fns n nm e) toMut) (isMk e)

noncomputable def cB (f : Stmt → S) : List Stmt → List S
  | [] => []
  | s :: ss => f s :: cB f ss

noncomputable def oS {α : Type} (x : Option α) (f : α → S) : S := @Option.rec α (fun _ => S) .fail f x
noncomputable def nS {α : Type} (l : List α) (x : S) : S := @List.rec α (fun _ => S) x (fun _ _ _ => .fail) l
section
variable (f : Expr → Option X) (g : Expr → Option X) (nm : Nm)
noncomputable def sAssign (v : Expr) : Expr → S
  | .Name id _ => oS (slotW nm id) fun i => oS (g v) fun x => .assign i x
  | .Subscript o i _ => oS (f o) fun a => oS (f i) fun j => oS (f v) fun x => .setidx a j x
  | _ => .fail
noncomputable def sAug (op : Operator) (v : Expr) : Expr → S
  | .Name id _ => oS (slotW nm id) fun i => oS (opOf op) fun o => oS (f v) fun x => .augname i o x
  | .Subscript o i _ => oS (f o) fun a => oS (f i) fun j => oS (opOf op) fun ob => oS (f v) fun x => .augidx a j ob x
  | _ => .fail
end
/-- a statement that has no form here is read as one that fails: where it is not reached, no harm -/
noncomputable def cS : Nat → Nm → Stmt → S
  | 0, _, _ => .fail
  | n + 1, nm, st => match st with
    | .Expr v _ => oS (cX fns n nm v) fun x => .expr x
    | .Assign ts v _ => @List.rec Expr (fun _ => S) .fail (fun t ts _ => nS ts (sAssign (cX fns n nm) (cR fns n nm) nm v t)) ts
    | .AugAssign t op v _ => sAug (cX fns n nm) nm op v t
    | .If t b e _ => oS (cX fns n nm t) fun x => .iff x (cB (cS n nm) b) (cB (cS n nm) e)
    | .While t b els _ => nS els (oS (cX fns n nm t) fun x => .whil x (cB (cS n nm) b))
    | .For tgt it b e _ => oS (cT nm tgt) fun t => oS (cX fns n nm it) fun x => .forr t x (cB (cS n nm) b) (cB (cS n nm) e)
    | .Return v _ => @Option.rec Expr (fun _ => S) (.ret none) (fun v => oS (cX fns n nm v) fun x => .ret (some x)) v
    | .Break _ => .brk
    | _ => .fail
end

noncomputable def argIdx (x : Str) : List Str → Nat → Option Nat
  | [], _ => none
  | y :: r, i => if y = x then some i else argIdx x r (i + 1)
noncomputable def initOf (params : List Str) (nm : Nm) : List (Option Nat) := nm.map fun p => argIdx p.1 params 0
end Mine

set_option backward.match.sparseCases true
end
section
namespace Mine
open PySem PySem.W PyProof.Rows PySem.Calls

/-! what grows in every run: tokens and the heap's size -/
theorem objs_update (h : Heap) (a : Addr) (f : Obj → Obj) : (h.update a f).objs.size = h.objs.size := by
  obtain ⟨o, l⟩ := h; simp [Heap.update]
theorem objs_push (h : Heap) (o : Obj) : (h.push o).objs.size = h.objs.size + 1 := by
  obtain ⟨x, l⟩ := h; simp [Heap.push]

noncomputable def Gr (s s' : Shared) : Prop := s.toks ≤ s'.toks ∧ s.heap.objs.size ≤ s'.heap.objs.size
theorem Gr.refl (s : Shared) : Gr s s := ⟨Nat.le_refl _, Nat.le_refl _⟩
theorem Gr.trans {a b c : Shared} (x : Gr a b) (y : Gr b c) : Gr a c := ⟨Nat.le_trans x.1 y.1, Nat.le_trans x.2 y.2⟩
theorem Gr.of_eq {s s' t : Shared} (h1 : s.toks ≤ t.toks) (h2 : s.heap.objs.size ≤ t.heap.objs.size) (x : Gr t s') : Gr s s' := Gr.trans ⟨h1, h2⟩ x

theorem setGen_gr (s : Shared) (g : Nat) (x : GenState) : Gr s (s.setGen g x) := ⟨Nat.le_refl _, Nat.le_refl _⟩
theorem runs_gr {M : Model} {Γ : Ctx} {p : Pos} {t : Sem PySem.Fin} {fs : List Frame} {s : Shared} {e : End} {s' : Shared} (h : Runs M Γ p t fs s e s') : Gr s s' := by
  induction h with
  | done | raise | yield => exact Gr.refl _
  | again _ _ ih | rule _ ih | «at» _ ih | load _ _ ih | loadIfAlive _ ih | point _ ih | ask _ ih | choose _ _ ih | os _ ih | handled _ ih | genState _ _ ih | stack _ ih | thread _ ih | newGen _ ih => exact ih
  | update _ _ ih => exact ⟨ih.1, by rw [← objs_update _ _ _]; exact ih.2⟩
  | alloc _ ih => exact ⟨ih.1, Nat.le_trans (by rw [objs_push]; exact Nat.le_succ _) ih.2⟩
  | fresh _ ih => exact ⟨Nat.le_trans (Nat.le_succ _) ih.1, ih.2⟩
  | call _ _ ih1 ih2 => exact ih1.trans ih2
  | callSusp _ ih => exact ih
  | resumeFresh _ _ _ _ ih1 ih2 => exact ih1.trans ih2
  | resumeSuspended _ _ _ _ ih1 ih2 => exact ih1.trans ih2
  | resumeJustStarted _ _ _ ih | resumeThrowFresh _ _ ih | resumeRunning _ _ ih | resumeFinished _ _ ih => exact ih
  | segRet _ _ ih1 ih2 => exact ih1.trans ih2
  | segGen _ _ ih1 ih2 => exact ih1.trans ih2
  | segSuspOut _ _ ih => exact ih
  | segSuspGen _ _ _ _ ih1 ih2 => exact ih1.trans ih2
theorem wakes_gr {M : Model} {Γ : Ctx} {p : Pos} {g : Nat} {r : Resume} {s : Shared} {res : GenResult} {s' : Shared} (h : Wakes M Γ p g r s res s') : Gr s s' := by
  unfold Wakes at h
  split at h
  · exact h.elim
  · split at h
    · obtain ⟨e, s1, hr, _, _, rfl⟩ := h; have q := runs_gr hr; exact ⟨q.1, q.2⟩
    · rw [h.2]; exact Gr.refl _
    · rw [h.2]; exact setGen_gr ..
  · obtain ⟨e, s1, hr, _, _, rfl⟩ := h; have q := runs_gr hr; exact ⟨q.1, q.2⟩
  · rw [h.2]; exact Gr.refl _
  · rw [h.2]; exact Gr.refl _

theorem wp_gr {α : Type} {M : Model} {Γ : Ctx} (t : Sem α) {Q : α → Pos → Shared → Prop} {E : Value → Pos → Shared → Prop} {p : Pos} {s s₀ : Shared} (g : Gr s₀ s)
    (h : Sem.wp M Γ t Q E p s) : Sem.wp M Γ t (fun a p' s' => Gr s₀ s' ∧ Q a p' s') (fun e p' s' => Gr s₀ s' ∧ E e p' s') p s := by
  induction t generalizing p s with
  | pure a => rw [Sem.wp] at h ⊢; exact ⟨g, h⟩
  | raise a => rw [Sem.wp] at h ⊢; exact ⟨g, h⟩
  | unsupported | finish | yield | fork | await | register => rw [Sem.wp] at h; exact h.elim
  | rule _ k ih | «at» _ k ih | loadIfAlive _ k ih | point _ k ih | ask k ih | os _ _ k ih | handled _ k ih | newGen _ k ih | stack k ih | thread k ih =>
    rw [Sem.wp] at h ⊢; exact ih _ g h
  | alloc _ k ih => rw [Sem.wp] at h ⊢; exact ih _ (g.trans ⟨Nat.le_refl _, by rw [objs_push]; exact Nat.le_succ _⟩) h
  | fresh k ih => rw [Sem.wp] at h ⊢; exact ih _ (g.trans ⟨Nat.le_succ _, Nat.le_refl _⟩) h
  | load _ _ k ih => rw [Sem.wp] at h ⊢; obtain ⟨o, ho, h⟩ := h; exact ⟨o, ho, ih _ g h⟩
  | genState _ k ih => rw [Sem.wp] at h ⊢; obtain ⟨o, ho, h⟩ := h; exact ⟨o, ho, ih _ g h⟩
  | update _ _ f k ih => rw [Sem.wp] at h ⊢; exact ⟨h.1, ih _ (g.trans ⟨Nat.le_refl _, Nat.le_of_eq (objs_update ..).symm⟩) h.2⟩
  | choose _ _ k ih => rw [Sem.wp] at h ⊢; exact ⟨h.1, ih _ g h.2⟩
  | call c hd gd l k ih => rw [Sem.wp] at h ⊢; obtain ⟨r, s', hr, h⟩ := h; exact ⟨r, s', hr, ih _ (g.trans (runs_gr hr)) h⟩
  | resume g' r l k ih => rw [Sem.wp] at h ⊢; obtain ⟨r, s', hr, h⟩ := h; exact ⟨r, s', hr, ih _ (g.trans (wakes_gr hr)) h⟩

theorem wpAny_gr {α : Type} {M : Model} {A : Around} {t : Sem α} {Q : α → Shared → Prop} {E : Value → Shared → Prop} {s : Shared}
    (h : wpAny M A t (fun a s' => Gr s s' → Q a s') E s) : wpAny M A t Q E s := fun Γ p hΓ =>
  Sem.wp_mono M Γ t (fun _ _ _ z => z.2 z.1) (fun _ _ _ z => z.2) p s (wp_gr t (Gr.refl s) (h Γ p hΓ))
theorem codeAny_gr {M : Model} {A : Around} {c : Code} {R : Result → Shared → Prop} {s : Shared}
    (h : codeAny M A c (fun r s' => Gr s s' → R r s') s) : codeAny M A c R s := fun Γ p hc hΓ => by
  obtain ⟨r, s', hr, hR⟩ := h Γ p hc hΓ
  exact ⟨r, s', hr, hR (runs_gr hr)⟩

/-- what grows in a run of one function: the addresses of its own objects, and which bytes a token stands for -/
structure Th where
  as : List Addr
  G : Tok → Array UInt8 → Prop
noncomputable abbrev Th.add (θ : Th) (b : Addr) : Th := ⟨θ.as ++ [b], θ.G⟩
/-! the relation between a value here and a value there -/
mutual
inductive VR (bad : Addr → Prop) (θ : Th) (h : Heap) : V → Value → Prop
  | none : VR bad θ h .none .none
  | bool (b : Bool) : VR bad θ h (.bool b) (.bool b)
  | int (i : Int) (t : Tok) : VR bad θ h (.int i) (.int i t)
  | str (s : Str) (t : Tok) : VR bad θ h (.str s.cps.toList) (.str s t)
  | bytes (f : Bool) (b : Array UInt8) (t : Tok) (ht : f = true → 0 < t ∧ θ.G t b) : VR bad θ h (.bytes f (b.toList.map UInt8.toNat)) (.bytes b t)
  | list {a : Addr} {xs : List V} {vs : List Value} (h1 : a ∉ θ.as) (h2 : ¬ bad a) (hl : h.IsList a vs.toArray) (hi : VRs bad θ h xs vs) : VR bad θ h (.list xs) (.ref a)
  | tuple {a : Addr} {xs : List V} {vs : List Value} (h1 : a ∉ θ.as) (h2 : ¬ bad a) (hl : h.IsTuple a vs.toArray) (hi : VRs bad θ h xs vs) : VR bad θ h (.tuple xs) (.ref a)
  | ref {k : Nat} {a : Addr} (hk : θ.as[k]? = some a) : VR bad θ h (.ref k) (.ref a)
inductive VRs (bad : Addr → Prop) (θ : Th) (h : Heap) : List V → List Value → Prop
  | nil : VRs bad θ h [] []
  | cons {x : V} {v : Value} {xs : List V} {vs : List Value} (h1 : VR bad θ h x v) (h2 : VRs bad θ h xs vs) : VRs bad θ h (x :: xs) (v :: vs)
end

/-- what stands for a value, from the value's form -/
noncomputable def VRf (bad : Addr → Prop) (θ : Th) (h : Heap) (w : Value) : V → Prop
  | .none => w = .none
  | .bool b => w = .bool b
  | .int i => ∃ t, w = .int i t
  | .str x => ∃ s t, x = s.cps.toList ∧ w = .str s t
  | .bytes f x => ∃ (b : Array UInt8) (t : Tok), x = b.toList.map UInt8.toNat ∧ w = .bytes b t ∧ (f = true → 0 < t ∧ θ.G t b)
  | .list xs => ∃ a vs, w = .ref a ∧ a ∉ θ.as ∧ ¬ bad a ∧ h.IsList a vs.toArray ∧ VRs bad θ h xs vs
  | .tuple xs => ∃ a vs, w = .ref a ∧ a ∉ θ.as ∧ ¬ bad a ∧ h.IsTuple a vs.toArray ∧ VRs bad θ h xs vs
  | .ref k => ∃ a, w = .ref a ∧ θ.as[k]? = some a
theorem VR.inv {bad : Addr → Prop} {θ : Th} {h : Heap} {v : V} {w : Value} (r : VR bad θ h v w) : VRf bad θ h w v := by
  cases r with
  | none => exact rfl
  | bool b => exact rfl
  | int i t => exact ⟨t, rfl⟩
  | str s t => exact ⟨s, t, rfl, rfl⟩
  | bytes f b t ht => exact ⟨b, t, rfl, rfl, ht⟩
  | list h1 h2 hl hi => exact ⟨_, _, rfl, h1, h2, hl, hi⟩
  | tuple h1 h2 hl hi => exact ⟨_, _, rfl, h1, h2, hl, hi⟩
  | ref hk => exact ⟨_, rfl, hk⟩

/-- induction over what stands for a value -/
theorem VR.ind {bad : Addr → Prop} {θ : Th} {h : Heap} {P : V → Value → Prop} {Q : List V → List Value → Prop} (k0 : P .none .none) (k1 : ∀ b, P (.bool b) (.bool b)) (k2 : ∀ i t, P (.int i) (.int i t)) (k3 : ∀ s t, P (.str s.cps.toList) (.str s t))
    (k4 : ∀ f (b : Array UInt8) t, (f = true → 0 < t ∧ θ.G t b) → P (.bytes f (b.toList.map UInt8.toNat)) (.bytes b t))
    (k5 : ∀ a xs (vs : List Value), a ∉ θ.as → ¬ bad a → h.IsList a vs.toArray → Q xs vs → P (.list xs) (.ref a)) (k6 : ∀ a xs (vs : List Value), a ∉ θ.as → ¬ bad a → h.IsTuple a vs.toArray → Q xs vs → P (.tuple xs) (.ref a))
    (k7 : ∀ (k : Nat) a, θ.as[k]? = some a → P (.ref k) (.ref a)) (k8 : Q [] []) (k9 : ∀ x v xs vs, P x v → Q xs vs → Q (x :: xs) (v :: vs)) : (∀ {v w}, VR bad θ h v w → P v w) ∧ ∀ {v w}, VRs bad θ h v w → Q v w :=
  ⟨fun r => VR.rec (motive_1 := fun v w _ => P v w) (motive_2 := fun v w _ => Q v w) k0 k1 k2 k3 k4 (fun h1 h2 l _ i => k5 _ _ _ h1 h2 l i) (fun h1 h2 l _ i => k6 _ _ _ h1 h2 l i) (fun e => k7 _ _ e) k8 (fun _ _ a b => k9 _ _ _ _ a b) r,
   fun r => VRs.rec (motive_1 := fun v w _ => P v w) (motive_2 := fun v w _ => Q v w) k0 k1 k2 k3 k4 (fun h1 h2 l _ i => k5 _ _ _ h1 h2 l i) (fun h1 h2 l _ i => k6 _ _ _ h1 h2 l i) (fun e => k7 _ _ e) k8 (fun _ _ a b => k9 _ _ _ _ a b) r⟩
theorem VRs.ind {bad : Addr → Prop} {θ : Th} {h : Heap} {Q : List V → List Value → Prop} (k8 : Q [] []) (k9 : ∀ x v xs vs, VR bad θ h x v → VRs bad θ h xs vs → Q xs vs → Q (x :: xs) (v :: vs)) {v : List V} {w : List Value} (r : VRs bad θ h v w) : Q v w :=
  VRs.rec (motive_1 := fun _ _ _ => True) (motive_2 := fun v w _ => Q v w) trivial (fun _ => trivial) (fun _ _ => trivial) (fun _ _ => trivial) (fun _ _ _ _ => trivial) (fun _ _ _ _ _ => trivial) (fun _ _ _ _ _ => trivial) (fun _ => trivial) k8 (fun h1 h2 _ ih => k9 _ _ _ _ h1 h2 ih) r
theorem VR.moveB {bad bad' : Addr → Prop} {θ θ' : Th} {h h' : Heap}
    (hl : ∀ b its, b ∉ θ.as → ¬ bad b → h.IsList b its → b ∉ θ'.as ∧ ¬ bad' b ∧ h'.IsList b its)
    (ht : ∀ b its, b ∉ θ.as → ¬ bad b → h.IsTuple b its → b ∉ θ'.as ∧ ¬ bad' b ∧ h'.IsTuple b its)
    (hr : ∀ (k : Nat) a, θ.as[k]? = some a → θ'.as[k]? = some a) (hg : ∀ t b, θ.G t b → θ'.G t b) : (∀ {x : V} {v : Value}, VR bad θ h x v → VR bad' θ' h' x v) ∧ ∀ {x : List V} {v : List Value}, VRs bad θ h x v → VRs bad' θ' h' x v :=
  VR.ind .none .bool .int .str (fun f b t ht => .bytes f b t fun q => ⟨(ht q).1, hg _ _ (ht q).2⟩) (fun a _ _ h1 h2 l i => have q := hl a _ h1 h2 l; .list q.1 q.2.1 q.2.2 i) (fun a _ _ h1 h2 l i => have q := ht a _ h1 h2 l; .tuple q.1 q.2.1 q.2.2 i)
    (fun _ _ e => .ref (hr _ _ e)) .nil fun _ _ _ _ a b => .cons a b
theorem VR.move {bad bad' : Addr → Prop} {θ θ' : Th} {h h' : Heap}
    (hl : ∀ b its, b ∉ θ.as → ¬ bad b → h.IsList b its → b ∉ θ'.as ∧ ¬ bad' b ∧ h'.IsList b its)
    (ht : ∀ b its, b ∉ θ.as → ¬ bad b → h.IsTuple b its → b ∉ θ'.as ∧ ¬ bad' b ∧ h'.IsTuple b its)
    (hr : ∀ (k : Nat) a, θ.as[k]? = some a → θ'.as[k]? = some a) (hg : ∀ t b, θ.G t b → θ'.G t b) {x : V} {v : Value} (r : VR bad θ h x v) : VR bad' θ' h' x v := (VR.moveB hl ht hr hg).1 r
theorem VRs.move {bad bad' : Addr → Prop} {θ θ' : Th} {h h' : Heap}
    (hl : ∀ b its, b ∉ θ.as → ¬ bad b → h.IsList b its → b ∉ θ'.as ∧ ¬ bad' b ∧ h'.IsList b its)
    (ht : ∀ b its, b ∉ θ.as → ¬ bad b → h.IsTuple b its → b ∉ θ'.as ∧ ¬ bad' b ∧ h'.IsTuple b its)
    (hr : ∀ (k : Nat) a, θ.as[k]? = some a → θ'.as[k]? = some a) (hg : ∀ t b, θ.G t b → θ'.G t b) {x : List V} {v : List Value} (r : VRs bad θ h x v) : VRs bad' θ' h' x v := (VR.moveB hl ht hr hg).2 r

inductive Loc where
  | dict (x : Str)
  | cell (c : Addr)
  | ro (c : Addr)
noncomputable def Loc.key : Loc → Str ⊕ Addr
  | .dict x => .inl x
  | .cell c => .inr c
  | .ro c => .inr c
structure Act where
  L : Addr
  locs : List Loc

noncomputable def Own (θ : Th) (a : Act) (b : Addr) : Prop := b ∈ θ.as ∨ b = a.L ∨ Loc.cell b ∈ a.locs

noncomputable def VRo (bad : Addr → Prop) (θ : Th) (h : Heap) : Option V → Option Value → Prop
  | none, none => True
  | some v, some w => VR bad θ h v w
  | _, _ => False
noncomputable def SlotR (bad : Addr → Prop) (θ : Th) (h : Heap) (m : Str → Option Value) : Loc → Option V → Prop
  | .dict x, v => VRo bad θ h v (m x)
  | .cell c, v => ∃ v', h.IsCell c v' ∧ VRo bad θ h v v'
  | .ro c, v => ∃ v', h.IsCell c v' ∧ VRo bad θ h v v'
noncomputable abbrev listObj (vs : List Value) (n : Nat) : Obj := { cls := .type "list", data := .seq vs.toArray n }
theorem isList_obj {h : Heap} {a : Addr} {vs : List Value} {n : Nat} (e : h.get? a = some (listObj vs n)) : h.IsList a vs.toArray := ⟨_, e, rfl, n, rfl⟩
noncomputable def OR (bad : Addr → Prop) (θ : Th) (h : Heap) : O → Addr → Prop
  | .list xs, a => ∃ (vs : List Value) (n : Nat), h.get? a = some (listObj vs n) ∧ VRs bad θ h xs vs
  | .barr b, a => ∃ bs : Array UInt8, h.get? a = some { cls := .type "bytearray", data := .bytearray bs 0 } ∧ bs.toList.map UInt8.toNat = b

structure Cfg where
  prog : Program
  w : World
  h₀ : Heap
  gens : Array GenState
  drawn : Drawn
  os : OsState

structure Inv (C : Cfg) (bad : Addr → Prop) (θ : Th) (a : Act) (σ : St) (s : Shared) : Prop where
  pres : ∀ b o, C.h₀.get? b = some o → s.heap.get? b = some o
  nodup : θ.as.Nodup
  new : ∀ x, Own θ a x → C.h₀.objs.size ≤ x
  badLive : ∀ b, bad b → ∃ o, s.heap.get? b = some o
  badOut : ∀ b, bad b → ¬ Own θ a b
  len : θ.as.length = σ.objs.length
  objs : ∀ (k : Nat) x o, θ.as[k]? = some x → σ.objs[k]? = some o → OR bad θ s.heap o x
  loc : ∃ m, s.heap.Ns a.L m ∧ ∀ (i : Nat) l v, a.locs[i]? = some l → σ.loc[i]? = some v → SlotR bad θ s.heap m l v
  llen : σ.loc.length = a.locs.length
  keys : (a.locs.map Loc.key).Nodup
  gens : s.gens = C.gens
  drawn : s.drawn = C.drawn
  os : s.os = C.os
  toks : 0 < s.toks
  gtok : ∀ t b, θ.G t b → t < s.toks
  gfun : ∀ t b c, θ.G t b → θ.G t c → b = c

structure Step (θ : Th) (a : Act) (h : Heap) (θ' : Th) (h' : Heap) : Prop where
  ext : ∃ new, θ'.as = θ.as ++ new ∧ ∀ x ∈ new, h.objs.size ≤ x
  g : ∀ t b, θ.G t b → θ'.G t b
  keep : ∀ b o, h.get? b = some o → ¬ Own θ a b → h'.get? b = some o
  size : h.objs.size ≤ h'.objs.size

theorem Step.refl (θ : Th) (a : Act) (h : Heap) : Step θ a h θ h := ⟨⟨[], by simp, by simp⟩, fun _ _ q => q, fun _ _ e _ => e, Nat.le_refl _⟩
theorem Own.mono {θ : Th} {new : List Addr} {a : Act} {b : Addr} (x : Own θ a b) : Own ⟨θ.as ++ new, θ.G⟩ a b := x.imp (List.mem_append_left _) id
theorem Step.trans {θ θ₁ θ₂ : Th} {a : Act} {h h₁ h₂ : Heap} (x : Step θ a h θ₁ h₁) (y : Step θ₁ a h₁ θ₂ h₂) : Step θ a h θ₂ h₂ := by
  obtain ⟨n1, e1, f1⟩ := x.ext
  obtain ⟨n2, e2, f2⟩ := y.ext
  refine ⟨⟨n1 ++ n2, by rw [e2, e1, List.append_assoc], fun z hz => ?_⟩, fun t b q => y.g t b (x.g t b q), fun b o e hn => y.keep b o (x.keep b o e hn) fun w => ?_, Nat.le_trans x.size y.size⟩
  · rcases List.mem_append.mp hz with q | q
    · exact f1 z q
    · exact Nat.le_trans x.size (f2 z q)
  · rcases w with w | w
    · rw [e1] at w
      rcases List.mem_append.mp w with q | q
      · exact hn (.inl q)
      · exact absurd (Heap.lt_size e) (Nat.not_lt.mpr (f1 b q))
    · exact hn (.inr w)

section
variable {C : Cfg} {bad : Addr → Prop} {θ : Th} {a : Act} {σ : St} {s : Shared}

theorem OR.live {h : Heap} {o : O} {x : Addr} (r : OR bad θ h o x) : ∃ ob, h.get? x = some ob := by
  cases o with
  | list xs => obtain ⟨vs, n, e, _⟩ := r; exact ⟨_, e⟩
  | barr b => obtain ⟨bs, e, _⟩ := r; exact ⟨_, e⟩
theorem Inv.objAt (I : Inv C bad θ a σ s) {x : Addr} (hx : x ∈ θ.as) : ∃ (k : Nat) (o : O), θ.as[k]? = some x ∧ σ.objs[k]? = some o ∧ OR bad θ s.heap o x := by
  obtain ⟨k, hk⟩ := List.mem_iff_getElem?.mp hx
  have hl : k < θ.as.length := (List.getElem?_eq_some_iff.mp hk).1
  rw [I.len] at hl
  exact ⟨k, σ.objs[k], hk, by simp [hl], I.objs k x _ hk (by simp [hl])⟩
theorem Inv.cellAt (I : Inv C bad θ a σ s) {c : Addr} (hc : Loc.cell c ∈ a.locs) : ∃ v', s.heap.IsCell c v' := by
  obtain ⟨i, hi⟩ := List.mem_iff_getElem?.mp hc
  have hl : i < a.locs.length := (List.getElem?_eq_some_iff.mp hi).1
  rw [← I.llen] at hl
  obtain ⟨m, _, hm⟩ := I.loc
  obtain ⟨v', e, _⟩ := hm i _ _ hi (List.getElem?_eq_getElem hl)
  exact ⟨v', e⟩
theorem Inv.live (I : Inv C bad θ a σ s) {x : Addr} (hx : Own θ a x) : ∃ ob, s.heap.get? x = some ob := by
  rcases hx with q | q | q
  · obtain ⟨_, _, _, _, r⟩ := I.objAt q; exact r.live
  · obtain ⟨m, ⟨o, _, _, e, _⟩, _⟩ := I.loc; exact ⟨o, q ▸ e⟩
  · obtain ⟨_, o, e, _⟩ := I.cellAt q; exact ⟨o, e⟩
/-- a sequence is neither the frame's dict nor one of its cells -/
theorem Inv.seqOff (I : Inv C bad θ a σ s) {b : Addr} {o : Obj} {its : Array Value} {n : Nat} (e : s.heap.get? b = some o) (hd : o.data = .seq its n) (hb : b ∉ θ.as) : ¬ Own θ a b := by
  rintro (q | q | q)
  · exact hb q
  · obtain ⟨m, ⟨o', _, _, e', hd', _⟩, _⟩ := I.loc
    subst q
    rw [e] at e'; cases e'; rw [hd] at hd'; cases hd'
  · obtain ⟨_, o', e', hd'⟩ := I.cellAt q
    rw [e] at e'; cases e'; rw [hd] at hd'; cases hd'
theorem Inv.listOff (I : Inv C bad θ a σ s) {b : Addr} {its : Array Value} (e : s.heap.IsList b its) (hb : b ∉ θ.as) : ¬ Own θ a b := by
  obtain ⟨o, e, _, n, hd⟩ := e; exact I.seqOff e hd hb
theorem Inv.tupleOff (I : Inv C bad θ a σ s) {b : Addr} {its : Array Value} (e : s.heap.IsTuple b its) (hb : b ∉ θ.as) : ¬ Own θ a b := by
  obtain ⟨o, e, _, n, hd⟩ := e; exact I.seqOff e hd hb

theorem isList_lt {h : Heap} {b : Addr} {its : Array Value} (e : h.IsList b its) : b < h.objs.size := by obtain ⟨o, e, _⟩ := e; exact Heap.lt_size e
theorem isTuple_lt {h : Heap} {b : Addr} {its : Array Value} (e : h.IsTuple b its) : b < h.objs.size := by obtain ⟨o, e, _⟩ := e; exact Heap.lt_size e

theorem Step.out {θ' : Th} {h h' : Heap} (x : Step θ a h θ' h') {b : Addr} (hb : b ∉ θ.as) (hlt : b < h.objs.size) : b ∉ θ'.as := by
  obtain ⟨n, e, f⟩ := x.ext
  intro q
  rw [e] at q
  rcases List.mem_append.mp q with q | q
  · exact hb q
  · exact absurd hlt (Nat.not_lt.mpr (f b q))
theorem Step.idx {θ' : Th} {h h' : Heap} (x : Step θ a h θ' h') {k : Nat} {b : Addr} (hk : θ.as[k]? = some b) : θ'.as[k]? = some b := by
  obtain ⟨n, e, f⟩ := x.ext
  rw [e, List.getElem?_append_left (List.getElem?_eq_some_iff.mp hk).1]; exact hk

theorem Inv.mv (I : Inv C bad θ a σ s) {θ' : Th} {h' : Heap} (x : Step θ a s.heap θ' h') {v : V} {w : Value} (r : VR bad θ s.heap v w) : VR bad θ' h' v w :=
  r.move (fun b its h1 h2 l => ⟨x.out h1 (isList_lt l), h2, by
      have hn := I.listOff l h1
      obtain ⟨o, e, r⟩ := l; exact ⟨o, x.keep _ _ e hn, r⟩⟩)
    (fun b its h1 h2 l => ⟨x.out h1 (isTuple_lt l), h2, by
      have hn := I.tupleOff l h1
      obtain ⟨o, e, r⟩ := l; exact ⟨o, x.keep _ _ e hn, r⟩⟩) (fun _ _ hk => x.idx hk) x.g
theorem Inv.mvs (I : Inv C bad θ a σ s) {θ' : Th} {h' : Heap} (x : Step θ a s.heap θ' h') {v : List V} {w : List Value} (r : VRs bad θ s.heap v w) : VRs bad θ' h' v w :=
  r.move (fun b its h1 h2 l => ⟨x.out h1 (isList_lt l), h2, by
      have hn := I.listOff l h1
      obtain ⟨o, e, r⟩ := l; exact ⟨o, x.keep _ _ e hn, r⟩⟩)
    (fun b its h1 h2 l => ⟨x.out h1 (isTuple_lt l), h2, by
      have hn := I.tupleOff l h1
      obtain ⟨o, e, r⟩ := l; exact ⟨o, x.keep _ _ e hn, r⟩⟩) (fun _ _ hk => x.idx hk) x.g
theorem Inv.mvo (I : Inv C bad θ a σ s) {θ' : Th} {h' : Heap} (x : Step θ a s.heap θ' h') {v : Option V} {w : Option Value} (r : VRo bad θ s.heap v w) : VRo bad θ' h' v w := by
  cases v <;> cases w <;> first | exact r | exact I.mv x r
end
end Mine
end
section
namespace Mine
open PySem PySem.W PyProof.Rows PySem.Calls

/-! the judgement over a stack on which no decoder stands -/
noncomputable def dirty : Code → Bool
  | .builtin id _ => Builtin.Bytes.decodersThatHold.contains id
  | _ => false
noncomputable def CleanB (l : List (Code × Pos)) : Prop := ∀ x ∈ l, dirty x.1 = false
noncomputable def Clean (Γ : Ctx) : Prop := dirty Γ.code = false ∧ CleanB Γ.below

noncomputable def wpC {α : Type} (M : Model) (A : Around) (t : Sem α) (Q : α → Shared → Prop) (E : Value → Shared → Prop) (s : Shared) : Prop :=
  ∀ Γ p, Γ.In A → Clean Γ → Sem.wp M Γ t (fun a _ s' => Q a s') (fun e _ s' => E e s') p s
noncomputable def codeC (M : Model) (A : Around) (c : Code) (R : Result → Shared → Prop) (s : Shared) : Prop :=
  ∀ Γ p, Γ.code = c → Γ.Below A → CleanB Γ.below → wpCode M Γ R p s

section
variable {α β : Type} {M : Model} {A : Around} {E : Value → Shared → Prop} {s : Shared}
theorem wpC_of {t : Sem α} {Q : α → Shared → Prop} (h : wpAny M A t Q E s) : wpC M A t Q E s := fun Γ p hΓ _ => h Γ p hΓ
theorem codeC_of {c : Code} {R : Result → Shared → Prop} (h : codeAny M A c R s) : codeC M A c R s := fun Γ p hc hΓ _ => h Γ p hc hΓ
theorem wpC_pure {a : α} {Q : α → Shared → Prop} (h : Q a s) : wpC M A (pure a) Q E s := fun _ _ _ _ => h
theorem wpC_mono {t : Sem α} {Q Q' : α → Shared → Prop} {E' : Value → Shared → Prop} (h : wpC M A t Q E s)
    (hQ : ∀ a s, Q a s → Q' a s) (hE : ∀ e s, E e s → E' e s) : wpC M A t Q' E' s :=
  fun Γ p hΓ hc => Sem.wp_mono M Γ t (fun a _ s => hQ a s) (fun e _ s => hE e s) p s (h Γ p hΓ hc)
theorem wpC_bind {m : Sem α} {f : α → Sem β} {Q : β → Shared → Prop} (h : wpC M A m (fun a s' => wpC M A (f a) Q E s') E s) :
    wpC M A (m >>= f) Q E s := fun Γ p hΓ hc => by
  rw [Sem.wp_bind']
  exact Sem.wp_mono M Γ m (fun a p' s' h' => h' Γ p' hΓ hc) (fun _ _ _ h' => h') p s (h Γ p hΓ hc)
theorem wpC_holding {vs : List Value} {m : Sem α} {Q : α → Shared → Prop} (h : wpC M A m Q E s) : wpC M A (holding vs m) Q E s :=
  fun Γ p hΓ hc => by rw [Sem.wp_holding]; exact h Γ p hΓ hc
theorem wpC_onRaise {m : Sem α} {k : Value → Sem Unit} {Q : α → Shared → Prop}
    (h : wpC M A m Q (fun e s' => wpC M A (k e) (fun _ s'' => E e s'') E s') s) : wpC M A (m.onRaise k) Q E s := fun Γ p hΓ hc => by
  rw [Sem.wp_onRaise]
  exact Sem.wp_mono M Γ m (fun _ _ _ h' => h') (fun e p' s' h' => h' Γ p' hΓ hc) p s (h Γ p hΓ hc)
theorem wpC_attempt {m : Sem α} {Q : Except Value α → Shared → Prop} (h : wpC M A m (fun a => Q (.ok a)) (fun e => Q (.error e)) s) :
    wpC M A m.attempt Q E s := fun Γ p hΓ hc => by rw [Sem.wp_attempt]; exact h Γ p hΓ hc
theorem wpC_tryCatch {m : Sem α} {k : Value → Sem α} {Q : α → Shared → Prop} (h : wpC M A m Q (fun e s' => wpC M A (k e) Q E s') s) :
    wpC M A (tryCatch m k) Q E s := fun Γ p hΓ hc => by
  rw [Sem.wp_tryCatch']
  exact Sem.wp_mono M Γ m (fun _ _ _ h' => h') (fun e p' s' h' => h' Γ p' hΓ hc) p s (h Γ p hΓ hc)
theorem Clean.enter {Γ : Ctx} (h : Clean Γ) (c : Code) (hd : Option Value) (p : Pos) : CleanB (Γ.enter c hd p).below := fun x hx => by
  rcases List.mem_cons.mp hx with rfl | hx
  · exact h.1
  · exact h.2 x hx
theorem wpC_run {c : Code} {h : Option Value} {Q : Flow → Shared → Prop}
    (hc : codeC M (A.mark h) c (fun r s' => match r with | .ok f => Q f s' | .error e => E e s') s) (hnb : h ≠ some byPass := by intro x; cases x) :
    wpC M A (PySem.run c h) Q E s :=
  fun Γ p hΓ hC => by rw [Sem.wp_run]; exact hc _ p rfl (hΓ.enter c h p hnb) (hC.enter c h p)
theorem wpC_runValue {c : Code} {Q : Value → Shared → Prop}
    (hc : codeC M A c (fun r s' => match r with | .ok (.ret v) => Q v s' | .ok _ => False | .error e => E e s') s) :
    wpC M A (runValue c) Q E s := fun Γ p hΓ hC => by rw [Sem.wp_runValue]; exact hc _ p rfl (hΓ.enter c none p (by intro x; cases x)) (hC.enter c none p)
theorem wpC_call {f : Value} {pos : List Value} {kw : List (Str × Value)} {Q : Value → Shared → Prop}
    (hc : codeC M A (.call f ⟨pos, kw⟩) (fun r s' => match r with | .ok (.ret v) => Q v s' | .ok _ => False | .error e => E e s') s) :
    wpC M A (call f pos kw) Q E s := wpC_runValue hc
theorem codeC_mono {c : Code} {R R' : Result → Shared → Prop} (h : codeC M A c R s) (hR : ∀ r s, R r s → R' r s) : codeC M A c R' s :=
  fun Γ p hc hΓ hC => wpCode_mono hR (h Γ p hc hΓ hC)
theorem codeC_of_tree {c : Code} (hd : dirty c = false) {R : Result → Shared → Prop}
    (h : wpC M (A.under c) (M.den c) (fun fin s' => match fin with | .done f => R (.ok f) s' | .again c' => c'.quiet = true ∧ codeC M A c' R s')
      (fun e s' => R (.error e) s') s) : codeC M A c R s := fun Γ p hc hΓ hC => by
  rw [wpCode_iff_wp, hc]
  refine Sem.wp_mono M Γ _ (fun fin p' s' h' => ?_) (fun _ _ _ h' => h') p s (h Γ p (hc ▸ hΓ.in) ⟨hc ▸ hd, hC⟩)
  cases fin with
  | done f => exact h'
  | again c' => exact ⟨h'.1, h'.2 (Γ.goto c') p' rfl (hΓ.goto c') hC⟩
theorem wpC_gr {t : Sem α} {Q : α → Shared → Prop} (h : wpC M A t (fun a s' => Gr s s' → Q a s') E s) : wpC M A t Q E s := fun Γ p hΓ hC =>
  Sem.wp_mono M Γ t (fun _ _ _ z => z.2 z.1) (fun _ _ _ z => z.2) p s (wp_gr t (Gr.refl s) (h Γ p hΓ hC))
theorem codeC_gr {c : Code} {R : Result → Shared → Prop} (h : codeC M A c (fun r s' => Gr s s' → R r s') s) : codeC M A c R s := fun Γ p hc hΓ hC => by
  obtain ⟨r, s', hr, hR⟩ := h Γ p hc hΓ hC
  exact ⟨r, s', hr, hR (runs_gr hr)⟩
theorem wpC_standAt {pos : Pos} {Q : Unit → Shared → Prop} (h : Q () s) : wpC M A (standAt pos) Q E s := wpC_of (wpAny_standAt h)
theorem wpC_point {Q : Unit → Shared → Prop} (h : Q () s) : wpC M A point Q E s := wpC_of (wpAny_point h)
theorem wpC_of_eq {t : Sem α} {a : α} {Q : α → Shared → Prop} (h : t = pure a) (hQ : Q a s) : wpC M A t Q E s := h ▸ wpC_pure hQ
theorem wpC_of_in1 {t : Sem α} {Q : α → Shared → Prop} (h : wpC M A.in1 t Q E s) : wpC M A t Q E s :=
  fun Γ p hΓ hC => h Γ p ⟨hΓ.1, hΓ.2.1, hΓ.2.2.1, hΓ.2.2.2.1, Nat.le_succ_of_le hΓ.2.2.2.2⟩ hC
theorem wpC_runOwn {env : Env} {c : Code} {h : Option Value} {Q : Flow → Shared → Prop}
    (hc : codeC M (A.mark h) c (fun r s' => match r with | .ok f => Q f s' | .error _ => False) s) (hnb : h ≠ some byPass := by intro x; cases x) :
    wpC M A (runOwn c env h) Q E s := by
  unfold runOwn
  exact wpC_onRaise (wpC_run (codeC_mono hc fun r s' hr => by cases r; exact hr.elim; exact hr) hnb)
end

section
variable {prog : Program} {w : World} {A : Around} {R : Result → Shared → Prop} {s : Shared}
theorem codeC_func {body env}
    (h : wpC (model prog w) (A.deeper env) (execs body env) (fun f s' => R (.ok (.ret (match f with | .ret v => v | _ => .none))) s') (fun _ _ => False) s) :
    codeC (model prog w) A (.func body env) R s := by
  refine codeC_of_tree rfl ?_
  show wpC _ (A.deeper env) (do point; match ← (execs body env).onRaise (leaving env) with | .ret v => ret v | _ => ret .none) _ _ s
  refine wpC_bind (wpC_point (wpC_bind (wpC_onRaise (wpC_mono h (fun f s' h' => ?_) fun _ _ h' => h'.elim))))
  cases f <;> exact wpC_pure h'
theorem codeC_call_function {a : Addr} {args : Args} {o : Obj} {fd : FuncData} {body : List Stmt} (hroom : A.depth < recursionLimit)
    (ho : s.heap.get? a = some o)
    (hd' : o.data = .func fd) (hco : fd.scope.isCoroutine = false) (hgen : fd.scope.isGenerator = false) (hbody : fd.body = .stmts body) (hcd : s.heap.CodeRec fd.code fd.qualname)
    (h : wpAny (model prog w) A.in1 (bindArgs fd args) (fun binds s₁ =>
      wpAny (model prog w) A.in1 (newFunctionEnv fd.scope fd.globals fd.closure binds (fd.qualname ++ ".<locals>.") (some a) fd.code none fd.builtins)
        (fun env s₂ => s₂.heap.NoLimit ∧ codeC (model prog w) A (.func body env) R s₂) (fun e s' => R (.error e) s') s₁) (fun e s' => R (.error e) s') s) :
    codeC (model prog w) A (.call (.ref a) args) R s := by
  refine codeC_of_tree rfl ?_
  show wpC _ A.in1 (callAny (.ref a) args) _ _ s
  simp only [callAny]
  refine wpC_bind (wpC_of (wpAny_load ho ?_))
  obtain ⟨c, oc, vs, tq, hc, hoc, hdc, hq⟩ := hcd
  simp only [hd', callFunction, hco, hgen, hbody, hc]
  rw [hc] at h
  refine wpC_of (wpAny_bind (m := field (.ref c) 1) (wpAny_field hoc hdc hq (wpAny_bind (wpAny_pure ?_))))
  exact wpAny_bind (wpAny_mono h (fun binds s₁ h₁ => wpAny_bind (wpAny_mono h₁ (fun env s₂ h₂ => wpAny_bind (wpAny_enterFrame h₂.1 hroom
    (wpAny_pure (And.intro rfl h₂.2)))) fun _ _ h' => h')) fun _ _ h' => h')
end
end Mine
end
section
namespace Mine
open PySem PySem.W PyProof.Rows PySem.Calls

section
variable {bad : Addr → Prop} {θ : Th} {h : Heap}
theorem VRs.length {xs : List V} {vs : List Value} (r : VRs bad θ h xs vs) : vs.length = xs.length := VRs.ind (Q := fun xs vs => vs.length = xs.length) rfl (fun _ _ _ _ _ _ ih => congrArg (· + 1) ih) r
theorem VRs.get {xs : List V} {vs : List Value} (r : VRs bad θ h xs vs) {i : Nat} {x : V} (e : xs[i]? = some x) : ∃ v, vs[i]? = some v ∧ VR bad θ h x v :=
  VRs.ind (Q := fun xs vs => ∀ (i : Nat) x, xs[i]? = some x → ∃ v, vs[i]? = some v ∧ VR bad θ h x v) (fun _ _ e => nos e) (fun _ _ _ _ h1 _ ih i x e => by
    cases i with
    | zero => exact ⟨_, rfl, Option.some.inj e ▸ h1⟩
    | succ i => exact ih i x e) r i x e
theorem VRs.append {xs ys : List V} {vs ws : List Value} (r : VRs bad θ h xs vs) (q : VRs bad θ h ys ws) : VRs bad θ h (xs ++ ys) (vs ++ ws) := VRs.ind (Q := fun xs vs => VRs bad θ h (xs ++ ys) (vs ++ ws)) q (fun _ _ _ _ h1 _ ih => .cons h1 ih) r
theorem VRs.take {xs : List V} {vs : List Value} (r : VRs bad θ h xs vs) (n : Nat) : VRs bad θ h (xs.take n) (vs.take n) :=
  VRs.ind (Q := fun xs vs => ∀ n : Nat, VRs bad θ h (xs.take n) (vs.take n)) (fun n => by cases n <;> exact .nil) (fun _ _ _ _ h1 _ ih n => by
    cases n with
    | zero => exact .nil
    | succ n => exact .cons h1 (ih n)) r n
theorem VRs.drop {xs : List V} {vs : List Value} (r : VRs bad θ h xs vs) (n : Nat) : VRs bad θ h (xs.drop n) (vs.drop n) :=
  VRs.ind (Q := fun xs vs => ∀ n : Nat, VRs bad θ h (xs.drop n) (vs.drop n)) (fun n => by cases n <;> exact .nil) (fun _ _ _ _ h1 h2 ih n => by
    cases n with
    | zero => exact .cons h1 h2
    | succ n => exact ih n) r n
theorem VRs.set {y : V} {w : Value} (hy : VR bad θ h y w) {xs : List V} {vs : List Value} (r : VRs bad θ h xs vs) (n : Nat) : VRs bad θ h (xs.set n y) (vs.set n w) :=
  VRs.ind (Q := fun xs vs => ∀ n : Nat, VRs bad θ h (xs.set n y) (vs.set n w)) (fun _ => .nil) (fun _ _ _ _ h1 h2 ih n => by
    cases n with
    | zero => exact .cons hy h2
    | succ n => exact .cons h1 (ih n)) r n
end
theorem VRs.one {bad : Addr → Prop} {θ : Th} {h : Heap} {x : V} {v : Value} (r : VR bad θ h x v) : VRs bad θ h [x] [v] := .cons r .nil

/-- a change of the state that touches P alone -/
structure Chg (P : Addr → Prop) (s s' : Shared) : Prop where
  keep : ∀ b o, s.heap.get? b = some o → ¬ P b → s'.heap.get? b = some o
  gr : Gr s s'
  gens : s'.gens = s.gens
  drawn : s'.drawn = s.drawn
  os : s'.os = s.os
noncomputable abbrev Grow (s s' : Shared) := Chg (fun _ => False) s s'
theorem Chg.same {P : Addr → Prop} {s : Shared} : Chg P s s := ⟨fun _ _ e _ => e, Gr.refl _, rfl, rfl, rfl⟩
theorem Chg.push {P : Addr → Prop} {s : Shared} {ob : Obj} : Chg P s { s with heap := s.heap.push ob } := ⟨fun b o e _ => Heap.get?_push_of_some _ e, ⟨Nat.le_refl _, by rw [objs_push]; exact Nat.le_succ _⟩, rfl, rfl, rfl⟩
theorem Chg.tok {P : Addr → Prop} {s : Shared} : Chg P s { s with toks := s.toks + 1 } := ⟨fun _ _ e _ => e, ⟨Nat.le_succ _, Nat.le_refl _⟩, rfl, rfl, rfl⟩
theorem Grow.mk' {s : Shared} {h' : Heap} {tk : Nat} (hk : ∀ b o, s.heap.get? b = some o → h'.get? b = some o) (g : Gr s ⟨h', s.gens, s.drawn, tk, s.os⟩) : Grow s ⟨h', s.gens, s.drawn, tk, s.os⟩ :=
  ⟨fun b o e _ => hk b o e, g, rfl, rfl, rfl⟩
theorem Chg.trans {P : Addr → Prop} {s s1 s2 : Shared} (x : Chg P s s1) (y : Chg P s1 s2) : Chg P s s2 :=
  ⟨fun b o e n => y.keep b o (x.keep b o e n) n, x.gr.trans y.gr, y.gens.trans x.gens, y.drawn.trans x.drawn, y.os.trans x.os⟩
theorem Chg.weak {P P' : Addr → Prop} {s s1 : Shared} (x : Chg P s s1) (h : ∀ b, P b → P' b) : Chg P' s s1 := ⟨fun b o e n => x.keep b o e fun q => n (h b q), x.gr, x.gens, x.drawn, x.os⟩

section
variable {C : Cfg} {bad : Addr → Prop} {θ : Th} {a : Act} {σ : St} {s s' : Shared}

theorem OR.mv (I : Inv C bad θ a σ s) {θ' : Th} {h' : Heap} (x : Step θ a s.heap θ' h') {o : O} {b : Addr} (hb : ∀ ob, s.heap.get? b = some ob → h'.get? b = some ob) (r : OR bad θ s.heap o b) : OR bad θ' h' o b := by
  cases o with
  | list xs => obtain ⟨vs, n, e, r⟩ := r; exact ⟨vs, n, hb _ e, I.mvs x r⟩
  | barr l => obtain ⟨bs, e, q⟩ := r; exact ⟨bs, hb _ e, q⟩
theorem cell_mv {h h' : Heap} {c : Addr} {v : Option Value} (hb : ∀ ob, h.get? c = some ob → h'.get? c = some ob) (r : h.IsCell c v) : h'.IsCell c v := by
  obtain ⟨o, e, q⟩ := r; exact ⟨o, hb _ e, q⟩

/-- what is touched is nobody's -/
theorem Inv.chg {P : Addr → Prop} (I : Inv C bad θ a σ s) (x : Chg P s s') (h1 : ∀ b, P b → C.h₀.objs.size ≤ b) (h2 : ∀ b, P b → ¬ bad b)
    (h3 : ∀ b o, P b → s.heap.get? b = some o → ∃ fs, o.data = .fields fs) : Inv C bad θ a σ s' ∧ (∀ {v w}, VR bad θ s.heap v w → VR bad θ s'.heap v w) ∧ (∀ {v w}, VRs bad θ s.heap v w → VRs bad θ s'.heap v w) := by
  have kl : ∀ b its, s.heap.IsList b its → s'.heap.IsList b its := fun b its ⟨o, e, c, n, hd⟩ => ⟨o, x.keep b o e (fun q => by
    obtain ⟨fs, e'⟩ := h3 b o q e
    rw [hd] at e'
    cases e'), c, n, hd⟩
  have kt : ∀ b its, s.heap.IsTuple b its → s'.heap.IsTuple b its := fun b its ⟨o, e, c, n, hd⟩ => ⟨o, x.keep b o e (fun q => by
    obtain ⟨fs, e'⟩ := h3 b o q e
    rw [hd] at e'
    cases e'), c, n, hd⟩
  have kc : ∀ b v, s.heap.IsCell b v → s'.heap.IsCell b v := fun b v ⟨o, e, hd⟩ => ⟨o, x.keep b o e (fun q => by
    obtain ⟨fs, e'⟩ := h3 b o q e
    rw [hd] at e'
    cases e'), hd⟩
  have mv : ∀ {v w}, VR bad θ s.heap v w → VR bad θ s'.heap v w := fun r => r.move (fun b its q1 q2 l => ⟨q1, q2, kl b its l⟩) (fun b its q1 q2 l => ⟨q1, q2, kt b its l⟩) (fun _ _ e => e) fun _ _ e => e
  have mvs : ∀ {v w}, VRs bad θ s.heap v w → VRs bad θ s'.heap v w := fun r => r.move (fun b its q1 q2 l => ⟨q1, q2, kl b its l⟩) (fun b its q1 q2 l => ⟨q1, q2, kt b its l⟩) (fun _ _ e => e) fun _ _ e => e
  have mvo : ∀ {v w}, VRo bad θ s.heap v w → VRo bad θ s'.heap v w := fun {v w} r => by
    cases v <;> cases w <;> first | exact r | exact mv r
  refine ⟨⟨fun b o e => x.keep b o (I.pres b o e) fun q => absurd (Heap.lt_size e) (Nat.not_lt.mpr (h1 b q)), I.nodup, I.new, fun b hb => ?_, I.badOut, I.len, fun k y o e1 e2 => ?_, ?_, I.llen, I.keys, x.gens.trans I.gens, x.drawn.trans I.drawn, x.os.trans I.os,
    Nat.lt_of_lt_of_le I.toks x.gr.1, fun t b q => Nat.lt_of_lt_of_le (I.gtok t b q) x.gr.1, I.gfun⟩, mv, mvs⟩
  · obtain ⟨o, e⟩ := I.badLive b hb; exact ⟨o, x.keep b o e fun q => h2 b q hb⟩
  · have r := I.objs k y o e1 e2
    cases o with
    | list xs =>
      obtain ⟨vs, n, l, r⟩ := r
      exact ⟨vs, n, x.keep _ _ l (fun q => by
        obtain ⟨fs, e'⟩ := h3 _ _ q l
        cases e'), mvs r⟩
    | barr b => obtain ⟨bs, e, q⟩ := r; exact ⟨bs, x.keep _ _ e (fun q => by
        obtain ⟨fs, e'⟩ := h3 _ _ q e
        cases e'), q⟩
  · obtain ⟨m, hn, hm⟩ := I.loc
    refine ⟨m, ?_, fun i l v e1 e2 => ?_⟩
    · obtain ⟨o, es, ep, e, hd, r⟩ := hn
      exact ⟨o, es, ep, x.keep _ _ e (fun q => by
        obtain ⟨fs, e'⟩ := h3 _ _ q e
        rw [hd] at e'
        cases e'), hd, r⟩
    · have r := hm i l v e1 e2
      cases l with
      | dict y => exact mvo r
      | cell c => obtain ⟨v', q, r⟩ := r; exact ⟨v', kc _ _ q, mvo r⟩
      | ro c => obtain ⟨v', q, r⟩ := r; exact ⟨v', kc _ _ q, mvo r⟩
theorem Inv.grow (I : Inv C bad θ a σ s) (x : Grow s s') : Inv C bad θ a σ s' := (I.chg x (fun _ q => q.elim) (fun _ q => q.elim) (fun _ _ q => q.elim)).1
theorem Inv.growV (I : Inv C bad θ a σ s) (x : Grow s s') {v : V} {w : Value} (r : VR bad θ s.heap v w) : VR bad θ s'.heap v w := (I.chg x (fun _ q => q.elim) (fun _ q => q.elim) (fun _ _ q => q.elim)).2.1 r
theorem Step.of_chg {P : Addr → Prop} (x : Chg P s s') (h : ∀ b, P b → s.heap.get? b = none ∨ Own θ a b) : Step θ a s.heap θ s'.heap :=
  ⟨⟨[], by simp, by simp⟩, fun _ _ q => q, fun b o e hn => x.keep b o e fun q => by
    rcases h b q with z | z
    · rw [e] at z; cases z
    · exact hn z, x.gr.2⟩
theorem Step.of_grow (x : Grow s s') : Step θ a s.heap θ s'.heap := Step.of_chg x fun _ q => q.elim

/-- a new object joins the store -/
theorem Inv.join (I : Inv C bad θ a σ s) (x : Grow s s') {b : Addr} {o : O} (hb : s.heap.objs.size ≤ b) (r : OR bad (θ.add b) s'.heap o b) :
    Inv C bad (θ.add b) a ⟨σ.loc, σ.objs ++ [o]⟩ s' ∧ Step θ a s.heap (θ.add b) s'.heap := by
  have st : Step θ a s.heap (θ.add b) s'.heap := ⟨⟨[b], rfl, fun z hz => by simp at hz; exact hz ▸ hb⟩, fun _ _ q => q, fun b o e _ => x.keep b o e id, x.gr.2⟩
  have nb : ∀ {c}, Own θ a c → c ≠ b := fun {c} hc e => by
    obtain ⟨ob, q⟩ := I.live hc
    exact absurd (Heap.lt_size q) (Nat.not_lt.mpr (e ▸ hb))
  have h0 : C.h₀.objs.size ≤ b := by
    obtain ⟨m, hn, _⟩ := I.loc
    exact Nat.le_trans (Nat.le_trans (I.new a.L (.inr (.inl rfl))) (Nat.le_of_lt hn.lt)) hb
  refine ⟨⟨fun c o e => x.keep c o (I.pres c o e) id, ?_, fun c hc => ?_, fun c hc => ?_, fun c hc q => ?_, by simp [I.len], fun k c o' e1 e2 => ?_, ?_, I.llen, I.keys, x.gens.trans I.gens, x.drawn.trans I.drawn, x.os.trans I.os,
    Nat.lt_of_lt_of_le I.toks x.gr.1, fun t b q => Nat.lt_of_lt_of_le (I.gtok t b q) x.gr.1, I.gfun⟩, st⟩
  · rw [List.nodup_append]
    exact ⟨I.nodup, by simp, fun c hc d hd e => by simp at hd; exact nb (.inl hc) (e.trans hd)⟩
  · rcases hc with q | q
    · rcases List.mem_append.mp q with q | q
      · exact I.new c (.inl q)
      · simp at q; exact q ▸ h0
    · exact I.new c (.inr q)
  · obtain ⟨o, e⟩ := I.badLive c hc; exact ⟨o, x.keep c o e id⟩
  · rcases q with q | q
    · rcases List.mem_append.mp q with q | q
      · exact I.badOut c hc (.inl q)
      · simp at q
        obtain ⟨o, e⟩ := I.badLive c hc
        exact absurd (Heap.lt_size e) (Nat.not_lt.mpr (q ▸ hb))
    · exact I.badOut c hc (.inr q)
  · by_cases hk : k < θ.as.length
    · rw [List.getElem?_append_left hk] at e1
      dsimp only at e2
      rw [List.getElem?_append_left (by rw [← I.len]; exact hk)] at e2
      exact OR.mv I st (fun ob e => x.keep c ob e id) (I.objs k c o' e1 e2)
    · have hk' : θ.as.length ≤ k := Nat.not_lt.mp hk
      rw [List.getElem?_append_right hk'] at e1
      dsimp only at e2
      rw [List.getElem?_append_right (by rw [← I.len]; exact hk'), ← I.len] at e2
      cases hz : k - θ.as.length with
      | zero => rw [hz] at e1 e2; cases e1; cases e2; exact r
      | succ n => rw [hz] at e1; simp at e1
  · obtain ⟨m, hn, hm⟩ := I.loc
    refine ⟨m, hn.keeps fun c o e => x.keep c o e id, fun i l v e1 e2 => ?_⟩
    have r := hm i l v e1 e2
    cases l with
    | dict y => exact I.mvo st r
    | cell c => obtain ⟨v', q, r⟩ := r; exact ⟨v', cell_mv (fun ob e => x.keep c ob e id) q, I.mvo st r⟩
    | ro c => obtain ⟨v', q, r⟩ := r; exact ⟨v', cell_mv (fun ob e => x.keep c ob e id) q, I.mvo st r⟩

theorem OR.notDict {h : Heap} {o : O} {b : Addr} (r : OR bad θ h o b) {ob : Obj} (e : h.get? b = some ob) : (∀ es ep, ob.data ≠ .dict es ep) ∧ (∀ v, ob.data ≠ .cell v) := by
  cases o with
  | list xs => obtain ⟨vs, n, e', _⟩ := r; rw [e] at e'; cases e'; exact ⟨fun _ _ q => (nomatch q), fun _ q => (nomatch q)⟩
  | barr l => obtain ⟨bs, e', _⟩ := r; rw [e] at e'; cases e'; exact ⟨fun _ _ q => (nomatch q), fun _ q => (nomatch q)⟩

/-- an object of the store changes -/
theorem Inv.put (I : Inv C bad θ a σ s) {k : Nat} {b : Addr} {o : O} (x : Chg (fun c => c = b) s s') (hk : θ.as[k]? = some b) (r : Step θ a s.heap θ s'.heap → OR bad θ s'.heap o b) :
    Inv C bad θ a ⟨σ.loc, σ.objs.set k o⟩ s' ∧ Step θ a s.heap θ s'.heap := by
  have st : Step θ a s.heap θ s'.heap := Step.of_chg x fun c q => .inr (.inl (q ▸ List.mem_of_getElem? hk))
  obtain ⟨m, hn, hm⟩ := I.loc
  have hb : b ∈ θ.as := List.mem_of_getElem? hk
  obtain ⟨k', o', ek, eo, ro⟩ := I.objAt hb
  obtain ⟨ob, eb⟩ := ro.live
  have nd := ro.notDict eb
  refine ⟨⟨fun c o e => x.keep c o (I.pres c o e) fun q => ?_, I.nodup, I.new, fun c hc => ?_, I.badOut, by simp [I.len], fun j c o' e1 e2 => ?_, ?_, I.llen, I.keys, x.gens.trans I.gens, x.drawn.trans I.drawn, x.os.trans I.os,
    Nat.lt_of_lt_of_le I.toks x.gr.1, fun t b q => Nat.lt_of_lt_of_le (I.gtok t b q) x.gr.1, I.gfun⟩, st⟩
  · exact absurd (Heap.lt_size e) (Nat.not_lt.mpr (I.new c (.inl (q ▸ hb))))
  · obtain ⟨o, e⟩ := I.badLive c hc; exact ⟨o, x.keep c o e fun q => I.badOut c hc (.inl (q ▸ hb))⟩
  · dsimp only at e2
    by_cases hj : j = k
    · subst hj
      rw [hk] at e1; cases e1
      have : σ.objs.length = θ.as.length := I.len.symm
      rw [List.getElem?_set_self (by rw [this]; exact (List.getElem?_eq_some_iff.mp hk).1)] at e2
      cases e2; exact r st
    · rw [List.getElem?_set_ne (Ne.symm hj)] at e2
      refine OR.mv I st (fun ob e => x.keep c ob e fun q => ?_) (I.objs j c o' e1 e2)
      subst q
      exact hj ((List.getElem?_inj (List.getElem?_eq_some_iff.mp e1).1 I.nodup).mp (e1.trans hk.symm))
  · refine ⟨m, ?_, fun i l v e1 e2 => ?_⟩
    · obtain ⟨o, es, ep, e, hd, z⟩ := hn
      exact ⟨o, es, ep, x.keep _ _ e (fun q => by rw [q, eb] at e; cases e; exact nd.1 _ _ hd), hd, z⟩
    · have r := hm i l v e1 e2
      have cm : ∀ {c v'}, s.heap.IsCell c v' → s'.heap.IsCell c v' := fun {c v'} q => by
        obtain ⟨o, e, hd⟩ := q
        exact ⟨o, x.keep _ _ e (fun q => by rw [q, eb] at e; cases e; exact nd.2 _ hd), hd⟩
      cases l with
      | dict y => exact I.mvo st r
      | cell c => obtain ⟨v', q, r⟩ := r; exact ⟨v', cm q, I.mvo st r⟩
      | ro c => obtain ⟨v', q, r⟩ := r; exact ⟨v', cm q, I.mvo st r⟩

theorem key_ne {l : List Loc} (hn : (l.map Loc.key).Nodup) {i j : Nat} {x y : Loc} (hi : l[i]? = some x) (hj : l[j]? = some y) (h : i ≠ j) : x.key ≠ y.key := fun e => by
  have hi' : (l.map Loc.key)[i]? = some x.key := by rw [List.getElem?_map, hi]; rfl
  have hj' : (l.map Loc.key)[j]? = some y.key := by rw [List.getElem?_map, hj]; rfl
  exact h ((List.getElem?_inj (List.getElem?_eq_some_iff.mp hi').1 hn).mp (hi'.trans (e ▸ hj'.symm)))

/-- a name that lies in the frame's dict is stored -/
theorem Inv.storeD (I : Inv C bad θ a σ s) {i : Nat} {x : Str} {v : V} {w : Value} {h' : Heap} {tk : Nat} {m : Str → Option Value} (hl : a.locs[i]? = some (.dict x)) (hm : ∀ (i : Nat) l v, a.locs[i]? = some l → σ.loc[i]? = some v → SlotR bad θ s.heap m l v)
    (r : VR bad θ s.heap v w) (hn : h'.Ns a.L fun y => if y = x then some w else m y) (hs : Heap.SameBut a.L s.heap h') (ht : s.toks ≤ tk) :
    Inv C bad θ a ⟨σ.loc.set i (some v), σ.objs⟩ ⟨h', s.gens, s.drawn, tk, s.os⟩ ∧ Step θ a s.heap θ h' := by
  have x' : Chg (fun c => c = a.L) s ⟨h', s.gens, s.drawn, tk, s.os⟩ := ⟨fun b o e n => (hs.2 b n).trans e, ⟨ht, Nat.le_of_eq hs.1.symm⟩, rfl, rfl, rfl⟩
  have st : Step θ a s.heap θ h' := Step.of_chg x' fun c q => .inr (.inr (.inl q))
  obtain ⟨_, hL, _⟩ := I.loc
  obtain ⟨oL, es, ep, eL, dL, _⟩ := hL
  have off : ∀ {c ob}, s.heap.get? c = some ob → (∀ es ep, ob.data ≠ .dict es ep) → h'.get? c = some ob := fun {c ob} e n => x'.keep c ob e fun q => by
    rw [q, eL] at e; cases e; exact n _ _ dL
  refine ⟨⟨fun c o e => x'.keep c o (I.pres c o e) fun q => ?_, I.nodup, I.new, fun c hc => ?_, I.badOut, I.len, fun j c o' e1 e2 => ?_, ⟨_, hn, fun j l u e1 e2 => ?_⟩, by simp [I.llen], I.keys, I.gens, I.drawn, I.os,
    Nat.lt_of_lt_of_le I.toks ht, fun t b q => Nat.lt_of_lt_of_le (I.gtok t b q) ht, I.gfun⟩, st⟩
  · exact absurd (Heap.lt_size e) (Nat.not_lt.mpr (I.new c (.inr (.inl q))))
  · obtain ⟨o, e⟩ := I.badLive c hc; exact ⟨o, x'.keep c o e fun q => I.badOut c hc (.inr (.inl q))⟩
  · have ro := I.objs j c o' e1 e2
    exact OR.mv I st (fun ob e => off e (ro.notDict e).1) ro
  · dsimp only at e2
    have cm : ∀ {c v'}, s.heap.IsCell c v' → h'.IsCell c v' := fun {c v'} q => by
      obtain ⟨o, e, hd⟩ := q
      exact ⟨o, off e (by rw [hd]; exact fun _ _ q => nomatch q), hd⟩
    by_cases hj : j = i
    · subst hj
      rw [hl] at e1; cases e1
      rw [List.getElem?_set_self (by rw [I.llen]; exact (List.getElem?_eq_some_iff.mp hl).1)] at e2
      (first | exact nos e2 | cases e2)
      show VRo bad θ h' (some v) (if x = x then some w else m x)
      rw [if_pos rfl]; exact I.mv st r
    · rw [List.getElem?_set_ne (Ne.symm hj)] at e2
      have z := hm j l u e1 e2
      cases l with
      | dict y =>
        show VRo bad θ h' u (if y = x then some w else m y)
        rw [if_neg fun q => key_ne I.keys e1 hl hj (by rw [q])]
        exact I.mvo st z
      | cell c => obtain ⟨v', q, z⟩ := z; exact ⟨v', cm q, I.mvo st z⟩
      | ro c => obtain ⟨v', q, z⟩ := z; exact ⟨v', cm q, I.mvo st z⟩

/-- a name that lies in a cell is stored -/
theorem Inv.storeC (I : Inv C bad θ a σ s) {i : Nat} {c : Addr} {v : V} {w : Value} {h' : Heap} {tk : Nat} (hl : a.locs[i]? = some (.cell c))
    (r : VR bad θ s.heap v w) (hn : h'.IsCell c (some w)) (hs : Heap.SameBut c s.heap h') (ht : s.toks ≤ tk) :
    Inv C bad θ a ⟨σ.loc.set i (some v), σ.objs⟩ ⟨h', s.gens, s.drawn, tk, s.os⟩ ∧ Step θ a s.heap θ h' := by
  have hc : Loc.cell c ∈ a.locs := List.mem_of_getElem? hl
  have x' : Chg (fun d => d = c) s ⟨h', s.gens, s.drawn, tk, s.os⟩ := ⟨fun b o e n => (hs.2 b n).trans e, ⟨ht, Nat.le_of_eq hs.1.symm⟩, rfl, rfl, rfl⟩
  have st : Step θ a s.heap θ h' := Step.of_chg x' fun d q => .inr (.inr (.inr (q ▸ hc)))
  obtain ⟨v₀, oc, ec, dc⟩ := I.cellAt hc
  have off : ∀ {d ob}, s.heap.get? d = some ob → (∀ v, ob.data ≠ .cell v) → h'.get? d = some ob := fun {d ob} e n => x'.keep d ob e fun q => by
    rw [q, ec] at e; cases e; exact n _ dc
  obtain ⟨m, ⟨oL, es, ep, eL, dL, zL⟩, hm⟩ := I.loc
  refine ⟨⟨fun d o e => x'.keep d o (I.pres d o e) fun q => ?_, I.nodup, I.new, fun d hd => ?_, I.badOut, I.len, fun j d o' e1 e2 => ?_, ⟨m, ⟨oL, es, ep, off eL (by rw [dL]; exact fun _ q => nomatch q), dL, zL⟩, fun j l u e1 e2 => ?_⟩, by simp [I.llen], I.keys, I.gens, I.drawn, I.os,
    Nat.lt_of_lt_of_le I.toks ht, fun t b q => Nat.lt_of_lt_of_le (I.gtok t b q) ht, I.gfun⟩, st⟩
  · exact absurd (Heap.lt_size e) (Nat.not_lt.mpr (I.new d (.inr (.inr (q ▸ hc)))))
  · obtain ⟨o, e⟩ := I.badLive d hd; exact ⟨o, x'.keep d o e fun q => I.badOut d hd (.inr (.inr (q ▸ hc)))⟩
  · have ro := I.objs j d o' e1 e2
    exact OR.mv I st (fun ob e => off e (ro.notDict e).2) ro
  · dsimp only at e2
    have cm : ∀ {d v'}, d ≠ c → s.heap.IsCell d v' → h'.IsCell d v' := fun {d v'} n q => by
      obtain ⟨o, e, hd⟩ := q
      exact ⟨o, (hs.2 _ n).trans e, hd⟩
    by_cases hj : j = i
    · subst hj
      rw [hl] at e1; cases e1
      rw [List.getElem?_set_self (by rw [I.llen]; exact (List.getElem?_eq_some_iff.mp hl).1)] at e2
      (first | exact nos e2 | cases e2)
      exact ⟨_, hn, I.mv st r⟩
    · rw [List.getElem?_set_ne (Ne.symm hj)] at e2
      have z := hm j l u e1 e2
      have nk := key_ne I.keys e1 hl hj
      cases l with
      | dict y => exact I.mvo st z
      | cell d => obtain ⟨v', q, z⟩ := z; exact ⟨v', cm (fun e => nk (by rw [e])) q, I.mvo st z⟩
      | ro d => obtain ⟨v', q, z⟩ := z; exact ⟨v', cm (fun e => nk (by rw [e]; rfl)) q, I.mvo st z⟩
end

/-- the judgement: from the state s, the tree ends well -/
noncomputable def At (C : Cfg) (A : Around) (bad : Addr → Prop) (a : Act) (θ : Th) (s : Shared) {α : Type} (t : Sem α) (Φ : Th → St → Shared → α → Prop) : Prop :=
  ∀ E Q, (∀ θ' σ' s' x, Step θ a s.heap θ' s'.heap → Inv C bad θ' a σ' s' → Φ θ' σ' s' x → Q x s') → wpC (model C.prog C.w) A t Q E s
/-- the same over any stack -/
noncomputable def AtA (C : Cfg) (A : Around) (bad : Addr → Prop) (a : Act) (θ : Th) (s : Shared) {α : Type} (t : Sem α) (Φ : Th → St → Shared → α → Prop) : Prop :=
  ∀ E Q, (∀ θ' σ' s' x, Step θ a s.heap θ' s'.heap → Inv C bad θ' a σ' s' → Φ θ' σ' s' x → Q x s') → wpAny (model C.prog C.w) A t Q E s

section
variable {C : Cfg} {A : Around} {bad : Addr → Prop} {a : Act} {θ : Th} {s : Shared} {α β : Type} {σ : St}
theorem At.bind {t : Sem α} {f : α → Sem β} {Φ : Th → St → Shared → α → Prop} {Ψ : Th → St → Shared → β → Prop} (h : At C A bad a θ s t Φ)
    (k : ∀ θ1 σ1 s1 x, Step θ a s.heap θ1 s1.heap → Inv C bad θ1 a σ1 s1 → Φ θ1 σ1 s1 x → At C A bad a θ1 s1 (f x) Ψ) : At C A bad a θ s (t >>= f) Ψ := fun E Q hQ =>
  wpC_bind (h E _ fun θ1 σ1 s1 x st I p => k θ1 σ1 s1 x st I p E Q fun θ2 σ2 s2 y st2 I2 p2 => hQ θ2 σ2 s2 y (st.trans st2) I2 p2)
theorem At.mono {t : Sem α} {Φ Ψ : Th → St → Shared → α → Prop} (h : At C A bad a θ s t Φ) (k : ∀ θ' σ' s' x, Step θ a s.heap θ' s'.heap → Inv C bad θ' a σ' s' → Φ θ' σ' s' x → Ψ θ' σ' s' x) : At C A bad a θ s t Ψ := fun E Q hQ =>
  h E Q fun θ' σ' s' x st I p => hQ θ' σ' s' x st I (k θ' σ' s' x st I p)
theorem At.pure (I : Inv C bad θ a σ s) {x : α} {Φ : Th → St → Shared → α → Prop} (h : Φ θ σ s x) : At C A bad a θ s (Pure.pure x) Φ := fun _ _ hQ => wpC_pure (hQ θ σ s x (Step.refl ..) I h)
/-- a rule of the library -/
theorem At.any {t : Sem α} {Φ : Th → St → Shared → α → Prop} (h : ∀ E Q, (∀ θ' σ' s' x, Step θ a s.heap θ' s'.heap → Inv C bad θ' a σ' s' → Φ θ' σ' s' x → Q x s') → wpAny (model C.prog C.w) A t Q E s) : At C A bad a θ s t Φ :=
  fun E Q hQ => wpC_of (h E Q hQ)
theorem At.holding {vs : List Value} {t : Sem α} {Φ : Th → St → Shared → α → Prop} (h : At C A bad a θ s t Φ) : At C A bad a θ s (holding vs t) Φ := fun E Q hQ => wpC_holding (h E Q hQ)
theorem At.stand {pos : Pos} {f : Unit → Sem β} {Φ : Th → St → Shared → β → Prop} (h : At C A bad a θ s (f ()) Φ) : At C A bad a θ s (standAt pos >>= f) Φ := fun E Q hQ => wpC_bind (wpC_standAt (h E Q hQ))
theorem At.point {f : Unit → Sem β} {Φ : Th → St → Shared → β → Prop} (h : At C A bad a θ s (f ()) Φ) : At C A bad a θ s (point >>= f) Φ := fun E Q hQ => wpC_bind (wpC_point (h E Q hQ))
theorem At.rule {tag : String} {f : Unit → Sem β} {Φ : Th → St → Shared → β → Prop} (h : At C A bad a θ s (f ()) Φ) : At C A bad a θ s (rule tag >>= f) Φ := fun E Q hQ => wpC_bind (wpC_of (wpAny_rule (h E Q hQ)))
/-- a step that only grows the state -/
theorem AtA.grow (I : Inv C bad θ a σ s) {t : Sem α} {Φ : Th → St → Shared → α → Prop} (h : ∀ E Q, (∀ s' x, Grow s s' → Φ θ σ s' x → Q x s') → wpAny (model C.prog C.w) A t Q E s) : AtA C A bad a θ s t Φ := fun E Q hQ =>
  h E Q fun s' x g p => hQ θ σ s' x (Step.of_grow g) (I.grow g) p
theorem At.grow (I : Inv C bad θ a σ s) {t : Sem α} {Φ : Th → St → Shared → α → Prop} (h : ∀ E Q, (∀ s' x, Grow s s' → Φ θ σ s' x → Q x s') → wpAny (model C.prog C.w) A t Q E s) : At C A bad a θ s t Φ := At.any (AtA.grow I h)
end
end Mine
end
section
namespace Mine
open PySem PySem.W PyProof.Rows PySem.Calls

theorem eqNats_iff : ∀ {a b : List Nat}, eqNats a b = true ↔ a = b
  | [], [] => by simp [eqNats]
  | [], _ :: _ => by simp [eqNats]
  | _ :: _, [] => by simp [eqNats]
  | x :: xs, y :: ys => by
    unfold eqNats
    cases h : Nat.beq x y with
    | true => rw [Nat.eq_of_beq_eq_true h]; simp [eqNats_iff]
    | false => have := Nat.ne_of_beq_eq_false h; simp [this]
theorem eqNats_eq (a b : List Nat) : eqNats a b = (a == b) := by
  by_cases h : a = b
  · rw [eqNats_iff.mpr h, h]; simp
  · have h1 : eqNats a b = false := Bool.eq_false_iff.mpr fun e => h (eqNats_iff.mp e)
    rw [h1]; simp [h]
theorem eqInt_iff : ∀ {a b : Int}, eqInt a b = true ↔ a = b
  | .ofNat m, .ofNat n => by simp only [eqInt, Nat.beq_eq, Int.ofNat_eq_natCast]; omega
  | .negSucc m, .negSucc n => by simp [eqInt]
  | .ofNat m, .negSucc n => by simp [eqInt]
  | .negSucc m, .ofNat n => by simp [eqInt]
theorem eqInt_eq (a b : Int) : eqInt a b = (a == b) := by
  by_cases h : a = b
  · rw [eqInt_iff.mpr h, h]; simp
  · have h1 : eqInt a b = false := Bool.eq_false_iff.mpr fun e => h (eqInt_iff.mp e)
    rw [h1]; simp [h]
theorem ltInt_iff : ∀ {a b : Int}, ltInt a b = true ↔ a < b
  | .ofNat m, .ofNat n => by simp only [ltInt, Nat.blt_eq, Int.ofNat_eq_natCast]; omega
  | .negSucc m, .negSucc n => by simp only [ltInt, Nat.blt_eq]; omega
  | .ofNat m, .negSucc n => by simp only [ltInt]; constructor <;> intro h <;> first | cases h | (exfalso; have : (m : Int) < Int.negSucc n := h; omega)
  | .negSucc m, .ofNat n => by
    have : Int.negSucc m < (n : Int) := by omega
    simp only [ltInt, Int.ofNat_eq_natCast, true_iff]; exact this
theorem ltInt_eq (a b : Int) : ltInt a b = decide (a < b) := by
  by_cases h : a < b
  · rw [ltInt_iff.mpr h, decide_eq_true h]
  · rw [Bool.eq_false_iff.mpr fun e => h (ltInt_iff.mp e), decide_eq_false h]

theorem natOfSize {b : Array UInt8} : (b.toList.map UInt8.toNat).length = b.size := by simp
theorem bigN_le : bigN ≤ 16777216 := by decide
theorem line_eq : sizeLine = 16777216 := sizeLine_eq

theorem okI_lt {i : Int} (h : okI i = true) : i.natAbs < 2 ^ 64 := by
  have := Nat.le_of_ble_eq_true h
  have e : (18446744073709551616 : Nat) = 2 ^ 64 := by decide
  rw [← e]; exact this

structure Fit (A : Around) (n : Nat) : Prop where
  handled : A.handled = none
  depth : A.depth + 4 * n ≤ 950
  guards : A.guards = some []
  units : A.units + 8 * n ≤ 9000

section
variable {C : Cfg} {A : Around} {bad : Addr → Prop} {a : Act} {θ : Th} {s : Shared} {σ : St}

noncomputable abbrev Post (bad : Addr → Prop) (σ : St) (v : V) : Th → St → Shared → Value → Prop := fun θ' σ' s' w => σ' = σ ∧ VR bad θ' s'.heap v w

theorem at_intA (I : Inv C bad θ a σ s) {t : Sem Value} {k : Int} (h : ∀ E Q, Q (.int k s.toks) { s with toks := s.toks + 1 } → wpAny (model C.prog C.w) A t Q E s) : AtA C A bad a θ s t (Post bad σ (.int k)) :=
  AtA.grow I fun E Q hQ => h E Q (hQ _ _ Chg.tok ⟨rfl, .int _ _⟩)
theorem at_int (I : Inv C bad θ a σ s) {t : Sem Value} {k : Int} (h : ∀ E Q, Q (.int k s.toks) { s with toks := s.toks + 1 } → wpAny (model C.prog C.w) A t Q E s) : At C A bad a θ s t (Post bad σ (.int k)) := At.any (at_intA I h)
theorem at_bool (I : Inv C bad θ a σ s) {t : Sem Value} {k : Bool} (h : ∀ E Q, Q (.bool k) s → wpAny (model C.prog C.w) A t Q E s) : At C A bad a θ s t (Post bad σ (.bool k)) :=
  At.grow I fun E Q hQ => h E Q (hQ _ _ Chg.same ⟨rfl, .bool _⟩)
theorem at_strA (I : Inv C bad θ a σ s) {t : Sem Value} {c : Nat} (h : ∀ E Q, Q (.str ⟨#[c]⟩ s.toks) { s with toks := s.toks + 1 } → wpAny (model C.prog C.w) A t Q E s) : AtA C A bad a θ s t (Post bad σ (.str [c])) :=
  AtA.grow I fun E Q hQ => h E Q (hQ _ _ Chg.tok ⟨rfl, .str ⟨#[c]⟩ _⟩)
/-- where the rule hides how many tokens were drawn -/
theorem At.growG (I : Inv C bad θ a σ s) {α : Type} {t : Sem α} {Φ : Th → St → Shared → α → Prop} (h : ∀ E Q, (∀ h' tk x, (∀ b o, s.heap.get? b = some o → h'.get? b = some o) → Φ θ σ ⟨h', s.gens, s.drawn, tk, s.os⟩ x → Q x ⟨h', s.gens, s.drawn, tk, s.os⟩) → wpAny (model C.prog C.w) A t Q E s) :
    At C A bad a θ s t Φ := At.any fun E Q hQ => wpAny_gr (h E _ fun h' tk x hk hΦ g => hQ θ σ _ x (Step.of_grow (Grow.mk' hk g)) (I.grow (Grow.mk' hk g)) hΦ)

theorem intBits_le {i : Int} (h : i.natAbs < 2 ^ 64) : Builtin.Int.intBits i ≤ 64 := intBits_le_64 (by omega) (by omega)

theorem noPylong {x y : Int} (hy : y.natAbs < 2 ^ 64) : Builtin.divisionGoesByPylong x y = false := by
  unfold Builtin.divisionGoesByPylong
  have h : (if (y == 0) = true then 0 else y.natAbs.log2 / 30 + 1) ≤ 3 := by
    split
    · decide
    · rename_i h0
      have h0' : y.natAbs ≠ 0 := by simpa using h0
      have := (Nat.log2_lt h0').mpr hy
      omega
  have : decide ((if (y == 0) = true then 0 else y.natAbs.log2 / 30 + 1) > 300) = false := decide_eq_false (by omega)
  show (decide ((if (y == 0) = true then 0 else y.natAbs.log2 / 30 + 1) > 300) && _) = false
  rw [this]; rfl

theorem str_len (x : Str) : x.length = x.cps.toList.length := by simp [Str.length]

theorem opOf_el {op : Operator} {o : BOp} {M : Operator → BOp → Prop} (h : opOf op = some o) (k1 : M .Add .add) (k2 : M .Sub .sub) (k3 : M .Mult .mul) (k4 : M .FloorDiv .fdiv) (k5 : M .Mod .mod) (k6 : M .Pow .pow) (k7 : M .BitAnd .band) : M op o := by
  cases op <;> first | exact nos h | (obtain rfl := Option.some.inj h; assumption)
set_option smartUnfolding false in
theorem binop_el {o : BOp} {a b v : V} {M : V → V → V → Prop} (h : binop o a b = some v) (k1 : ∀ x y v, ((o.isMod || okI x) && okI y) = true → intOp o x y = some v → M (.int x) (.int y) v) (k2 : ∀ x y, (o.isAdd && Nat.blt (x.length + y.length) bigN) = true → M (.str x) (.str y) (.str (x ++ y)))
    (k3 : ∀ f g x y, (o.isAdd && Nat.blt (x.length + y.length) bigN) = true → M (.bytes f x) (.bytes g y) (.bytes false (x ++ y))) : M a b v := by
  cases a <;> first | exact nos h | skip
  case int x => cases b <;> first | exact nos h | exact elT h fun h1 h => k1 _ _ _ h1 h
  case str x => cases b <;> first | exact nos h | exact elT h fun h1 h => sI h fun e => e ▸ k2 _ _ h1
  case bytes f x => cases b <;> first | exact nos h | exact elT h fun h1 h => sI h fun e => e ▸ k3 _ _ _ _ h1
set_option smartUnfolding false in
theorem powOp_el {x y : Int} {v : V} {M : Int → Int → V → Prop} (h : powOp x y = some v) (k : ∀ n, Nat.blt n 16 = true → M (.ofNat 2) (.ofNat n) (.int (.ofNat (2 ^ n)))) : M x y v := by
  cases x with
  | negSucc x => exact nos h
  | ofNat x =>
      refine elT h fun h1 h2 => ?_
      obtain rfl := Nat.eq_of_beq_eq_true h1
      cases y with
      | negSucc y => exact nos h2
      | ofNat y => exact elT h2 fun h1 h => sI h fun e => e ▸ k y h1
theorem bandOp_el {x y : Int} {v : V} {M : Int → Int → V → Prop} (h : bandOp x y = some v) (k : ∀ m n, M (.ofNat m) (.ofNat n) (.int (.ofNat (Nat.land m n)))) : M x y v := by
  cases x with
  | negSucc x => exact nos h
  | ofNat x => cases y with
    | negSucc y => exact nos h
    | ofNat y => exact sI h fun e => e ▸ k x y
theorem nz_of {y : Int} (h : eqInt y 0 = false) : y ≠ 0 := fun q => by rw [eqInt_iff.mpr q] at h; cases h
theorem Post.sI {t : Sem Value} {v1 v2 : V} (e : some v1 = some v2) (h : At C A bad a θ s t (Post bad σ v1)) : At C A bad a θ s t (Post bad σ v2) := by cases e; exact h
theorem pow_at (I : Inv C bad θ a σ s) {t u : Tok} {n : Nat} (hn : Nat.blt n 16 = true) : At C A bad a θ s (binaryOp .Pow (.int (.ofNat 2) t) (.int (.ofNat n) u)) (Post bad σ (.int (.ofNat (2 ^ n)))) := by
  have hn' : n < 16 := Nat.le_of_ble_eq_true hn
  refine at_int I fun E Q q => pow_int_small (Int.natCast_nonneg n) (by show (n : Int) ≤ 1000000; omega) (by decide) ?_
  have : (2 : Int) ^ (Int.ofNat n).toNat = Int.ofNat (2 ^ n) := by
    show (2 : Int) ^ n = ((2 ^ n : Nat) : Int)
    simp
  rw [show (Int.ofNat 2 : Int) = 2 from rfl, this]; exact q
theorem band_at (I : Inv C bad θ a σ s) {t u : Tok} {m n : Nat} : At C A bad a θ s (binaryOp .BitAnd (.int (.ofNat m) t) (.int (.ofNat n) u)) (Post bad σ (.int (.ofNat (Nat.land m n)))) := by
  refine at_int I fun E Q q => and_int ?_
  rw [bitAnd_pp (x := Int.ofNat m) (y := Int.ofNat n) (Int.natCast_nonneg m) (Int.natCast_nonneg n)]
  exact q
set_option smartUnfolding false in
theorem binI_at (I : Inv C bad θ a σ s) {op : Operator} {o : BOp} {x y : Int} {v : V} {t u : Tok} (ho : opOf op = some o) (hk : ((o.isMod || okI x) && okI y) = true) (e : intOp o x y = some v) : At C A bad a θ s (binaryOp op (.int x t) (.int y u)) (Post bad σ v) :=
  opOf_el (M := fun op o => (o.isMod || okI x) = true → intOp o x y = some v → At C A bad a θ s (binaryOp op (.int x t) (.int y u)) (Post bad σ v)) ho (fun _ e => Post.sI e (at_int I fun E Q q => add_int q)) (fun _ e => Post.sI e (at_int I fun E Q q => sub_int q))
    (fun hx e => Post.sI e (at_int I fun E Q q => mul_int q (IntMulOk.of_left (intBits_le (okI_lt (i := x) hx))))) (fun _ e => elF e fun h0 e => Post.sI e (at_int I fun E Q q => floordiv_int (nz_of h0) q (.inl (noPylong (okI_lt (Bool.and_eq_true_iff.mp hk).2)))))
    (fun _ e => elF e fun h0 e => Post.sI e (at_int I fun E Q q => mod_int' (nz_of h0) q)) (fun _ e => powOp_el (M := fun x y v => At C A bad a θ s (binaryOp .Pow (.int x t) (.int y u)) (Post bad σ v)) e fun n hn => pow_at I hn)
    (fun _ e => bandOp_el (M := fun x y v => At C A bad a θ s (binaryOp .BitAnd (.int x t) (.int y u)) (Post bad σ v)) e fun m n => band_at I) (Bool.and_eq_true_iff.mp hk).1 e
theorem isAdd_add {op : Operator} {o : BOp} {M : Operator → Prop} (ho : opOf op = some o) (h : o.isAdd = true) (k : M .Add) : M op :=
  opOf_el (M := fun op o => o.isAdd = true → M op) ho (fun _ => k) (fun h => nob h) (fun h => nob h) (fun h => nob h) (fun h => nob h) (fun h => nob h) (fun h => nob h) h
theorem str_fits {x y : Str} (h : Nat.blt (x.cps.toList.length + y.cps.toList.length) bigN = true) : x.length + y.length ≤ sizeLine := by
  rw [line_eq, str_len, str_len]; exact Nat.le_trans (Nat.le_of_lt (Nat.le_of_ble_eq_true h)) (by decide)
theorem str_app (x y : Str) : (x ++ y).cps.toList = x.cps.toList ++ y.cps.toList := by rw [Str.cps_append]; simp
theorem addS_at (I : Inv C bad θ a σ s) {x y : List Nat} {wa wb : Value} (hl : Nat.blt (x.length + y.length) bigN = true) (ra : VR bad θ s.heap (.str x) wa) (rb : VR bad θ s.heap (.str y) wb) : At C A bad a θ s (binaryOp .Add wa wb) (Post bad σ (.str (x ++ y))) := by
  obtain ⟨x, t, rfl, rfl⟩ := ra.inv
  obtain ⟨y, u, rfl, rfl⟩ := rb.inv
  exact At.growG I fun E Q q => add_str (fun t' tk => q s.heap tk (.str (x ++ y) t') (fun _ _ e => e) ⟨rfl, str_app x y ▸ .str _ _⟩) (str_fits hl)
theorem addB_at (I : Inv C bad θ a σ s) {x y : List Nat} {f g : Bool} {wa wb : Value} (hl : Nat.blt (x.length + y.length) bigN = true) (ra : VR bad θ s.heap (.bytes f x) wa) (rb : VR bad θ s.heap (.bytes g y) wb) : At C A bad a θ s (binaryOp .Add wa wb) (Post bad σ (.bytes false (x ++ y))) := by
  obtain ⟨x, t, rfl, rfl, h1⟩ := ra.inv
  obtain ⟨y, u, rfl, rfl, h2⟩ := rb.inv
  have hl' := Nat.le_of_ble_eq_true hl
  have hb := bigN_le
  rw [natOfSize, natOfSize] at hl'
  refine At.growG I fun E Q q => KBy.add_bytes (by omega) (fun t' tk => ?_)
  exact q s.heap tk (.bytes (x ++ y) t') (fun _ _ e => e) ⟨rfl, by
    have e : x.toList.map UInt8.toNat ++ y.toList.map UInt8.toNat = (x ++ y).toList.map UInt8.toNat := by simp
    rw [e]; exact .bytes false _ _ (fun q => nomatch q)⟩
theorem binop_at (I : Inv C bad θ a σ s) {op : Operator} {o : BOp} {va vb v : V} {wa wb : Value} (ho : opOf op = some o) (e : binop o va vb = some v) (ra : VR bad θ s.heap va wa) (rb : VR bad θ s.heap vb wb) :
    At C A bad a θ s (binaryOp op wa wb) (Post bad σ v) :=
  binop_el (M := fun va vb v => VR bad θ s.heap va wa → VR bad θ s.heap vb wb → At C A bad a θ s (binaryOp op wa wb) (Post bad σ v)) e (fun x y v hk e ra rb => by
      obtain ⟨t, rfl⟩ := ra.inv
      obtain ⟨u, rfl⟩ := rb.inv
      exact binI_at I ho hk e) (fun x y h ra rb => isAdd_add (M := fun op => At C A bad a θ s (binaryOp op wa wb) (Post bad σ (.str (x ++ y)))) ho (Bool.and_eq_true_iff.mp h).1 (addS_at I (Bool.and_eq_true_iff.mp h).2 ra rb))
    (fun f g x y h ra rb => isAdd_add (M := fun op => At C A bad a θ s (binaryOp op wa wb) (Post bad σ (.bytes false (x ++ y)))) ho (Bool.and_eq_true_iff.mp h).1 (addB_at I (Bool.and_eq_true_iff.mp h).2 ra rb)) ra rb
end
end Mine
end
section
namespace Mine
open PySem PySem.W PyProof.Rows PySem.Calls

noncomputable def noBad : Addr → Prop := fun _ => False
noncomputable abbrev FR (G : Tok → Array UInt8 → Prop) (h : Heap) (x : V) (w : Value) : Prop := VR noBad ⟨[], G⟩ h x w
noncomputable abbrev FRs (G : Tok → Array UInt8 → Prop) (h : Heap) (x : List V) (w : List Value) : Prop := VRs noBad ⟨[], G⟩ h x w

theorem frzL_el {f : Nat → Option V} {x : V} {xs ys : List V} {P : Prop} (h : frzL f (x :: xs) = some ys) (k : ∀ y zs, frzS f x = some y → frzL f xs = some zs → ys = y :: zs → P) : P := by
  rw [frzL] at h
  set_option smartUnfolding false in exact elS h fun y h1 h => elS h fun zs h2 h => k y zs h1 h2 (Option.some.inj h).symm
theorem frz_toB {bad bad1 : Addr → Prop} {θ θ1 : Th} {h : Heap} {f : Nat → Option V} (hg : ∀ t b, θ.G t b → θ1.G t b) (hn : ∀ b, b ∉ θ.as → ¬ bad b → b ∉ θ1.as ∧ ¬ bad1 b)
    (hf : ∀ (k : Nat) a y, θ.as[k]? = some a → f k = some y → VR bad1 θ1 h y (.ref a)) : (∀ {v w}, VR bad θ h v w → ∀ x, frzS f v = some x → VR bad1 θ1 h x w) ∧ ∀ {v w}, VRs bad θ h v w → ∀ x, frzL f v = some x → VRs bad1 θ1 h x w :=
  VR.ind (P := fun v w => ∀ x, frzS f v = some x → VR bad1 θ1 h x w) (Q := fun v w => ∀ x, frzL f v = some x → VRs bad1 θ1 h x w) (fun _ e => Option.some.inj e ▸ .none) (fun b _ e => Option.some.inj e ▸ .bool b) (fun i t _ e => Option.some.inj e ▸ .int i t) (fun s t _ e => Option.some.inj e ▸ .str s t)
    (fun f b t ht _ e => Option.some.inj e ▸ .bytes f b t fun q => ⟨(ht q).1, hg _ _ (ht q).2⟩)
    (fun a xs vs h1 h2 l ih x e => by
      rw [frzS] at e
      set_option smartUnfolding false in exact elS e fun ys e1 e => Option.some.inj e ▸ .list (hn _ h1 h2).1 (hn _ h1 h2).2 l (ih _ e1))
    (fun a xs vs h1 h2 l ih x e => by
      rw [frzS] at e
      set_option smartUnfolding false in exact elS e fun ys e1 e => Option.some.inj e ▸ .tuple (hn _ h1 h2).1 (hn _ h1 h2).2 l (ih _ e1))
    (fun k a hk x e => hf k a x hk e) (fun _ e => Option.some.inj e ▸ .nil) fun x v xs vs i1 i2 _ e => frzL_el e fun y zs e1 e2 e0 => e0 ▸ .cons (i1 _ e1) (i2 _ e2)
theorem frzRef_to {bad bad1 : Addr → Prop} {θ θ1 : Th} {h : Heap} {objs : List O} (hg : ∀ t b, θ.G t b → θ1.G t b) (hn : ∀ b, b ∉ θ.as → ¬ bad b → b ∉ θ1.as ∧ ¬ bad1 b) (hin : ∀ b, b ∈ θ.as → b ∉ θ1.as ∧ ¬ bad1 b)
    (ho : ∀ (k : Nat) x o, θ.as[k]? = some x → objs[k]? = some o → OR bad θ h o x) :
    ∀ (n k : Nat) a y, θ.as[k]? = some a → frzRef objs n k = some y → VR bad1 θ1 h y (.ref a)
  | 0, _, _, _, _, e => nos e
  | n + 1, k, a, y, hk, e => by
    rw [frzRef] at e
    cases e1 : objs[k]? with
    | none => rw [e1] at e; exact nos e
    | some o =>
      rw [e1] at e
      cases o with
      | barr b => exact nos e
      | list xs =>
        obtain ⟨vs, m, l, r⟩ := ho k a _ hk e1
        have := hin a (List.mem_of_getElem? hk)
        set_option smartUnfolding false in exact elS e fun ys e2 e => Option.some.inj e ▸ .list this.1 this.2 (isList_obj l) ((frz_toB hg hn (frzRef_to hg hn hin ho n)).2 r _ e2)

section
variable {C : Cfg} {A : Around} {bad : Addr → Prop} {a : Act} {θ : Th} {s : Shared} {σ : St}
theorem Inv.frzB (I : Inv C bad θ a σ s) : (∀ {v w}, VR bad θ s.heap v w → ∀ x, frz σ.objs v = some x → FR θ.G s.heap x w) ∧ ∀ {v w}, VRs bad θ s.heap v w → ∀ x, frzs σ.objs v = some x → FRs θ.G s.heap x w :=
  frz_toB (θ1 := ⟨[], θ.G⟩) (bad1 := noBad) (fun _ _ q => q) (fun _ _ _ => ⟨List.not_mem_nil, id⟩) (frzRef_to (θ := θ) (bad := bad) (objs := σ.objs) (θ1 := ⟨[], θ.G⟩) (bad1 := noBad) (fun _ _ q => q) (fun _ _ _ => ⟨List.not_mem_nil, id⟩) (fun _ _ => ⟨List.not_mem_nil, id⟩) I.objs 6)
theorem Inv.frz (I : Inv C bad θ a σ s) {v x : V} {w : Value} (r : VR bad θ s.heap v w) (e : frz σ.objs v = some x) : FR θ.G s.heap x w := I.frzB.1 r x e
theorem Inv.frzs (I : Inv C bad θ a σ s) {v x : List V} {w : List Value} (r : VRs bad θ s.heap v w) (e : frzs σ.objs v = some x) : FRs θ.G s.heap x w := I.frzB.2 r x e
end

mutual
noncomputable def toP : V → PyData
  | .none => .none
  | .bool b => .bool b
  | .int i => .int i
  | .str s => .str ⟨s.toArray⟩
  | .bytes _ _ => .none
  | .list xs => .list (toPs xs)
  | .tuple xs => .tuple (toPs xs)
  | .ref _ => .none
noncomputable def toPs : List V → List PyData
  | [] => []
  | x :: xs => toP x :: toPs xs
end

theorem reads_ofB {bad : Addr → Prop} {θ : Th} {h : Heap} : (∀ {x w}, VR bad θ h x w → ∀ d, pOk d x = true → ∃ as, Reads h w (toP x) as) ∧ ∀ {x w}, VRs bad θ h x w → ∀ d, pOks d x = true → ∃ as, ReadsAll h w (toPs x) as :=
  VR.ind (P := fun x w => ∀ d, pOk d x = true → ∃ as, Reads h w (toP x) as) (Q := fun x w => ∀ d, pOks d x = true → ∃ as, ReadsAll h w (toPs x) as) (fun _ _ => ⟨_, .none⟩) (fun b _ _ => ⟨_, .bool b⟩) (fun i t _ _ => ⟨_, .int i t⟩)
    (fun s t _ _ => ⟨_, (show (⟨s.cps.toList.toArray⟩ : Str) = s by cases s; simp) ▸ Reads.str s t⟩) (fun _ _ _ _ d e => nob e)
    (fun a xs vs _ _ l ih d e => by
      cases d with
      | zero => exact nob e
      | succ d =>
        obtain ⟨as, r⟩ := ih d e
        obtain ⟨o, e1, e2, n, e3⟩ := l
        exact ⟨_, .list e1 e2 e3 r⟩)
    (fun a xs vs _ _ l ih d e => by
      cases d with
      | zero => exact nob e
      | succ d =>
        obtain ⟨as, r⟩ := ih d e
        obtain ⟨o, e1, e2, n, e3⟩ := l
        exact ⟨_, .tuple e1 e2 e3 r⟩)
    (fun _ _ _ d e => nob e) (fun _ _ => ⟨_, .nil⟩) fun x v xs vs i1 i2 d e => by
      have e : (pOk d x && pOks d xs) = true := e
      obtain ⟨as, r⟩ := i1 d (Bool.and_eq_true_iff.mp e).1
      obtain ⟨bs, q⟩ := i2 d (Bool.and_eq_true_iff.mp e).2
      exact ⟨_, .cons r q⟩
theorem reads_of {bad : Addr → Prop} {θ : Th} {h : Heap} {x : V} {w : Value} {d : Nat} (r : VR bad θ h x w) (e : pOk d x = true) : ∃ as, Reads h w (toP x) as := reads_ofB.1 r d e
theorem readsAll_of {bad : Addr → Prop} {θ : Th} {h : Heap} {x : List V} {w : List Value} {d : Nat} (r : VRs bad θ h x w) (e : pOks d x = true) : ∃ as, ReadsAll h w (toPs x) as := reads_ofB.2 r d e

/-- induction over values -/
theorem V.ind {P : V → Prop} {Q : List V → Prop} (k0 : P .none) (k1 : ∀ b, P (.bool b)) (k2 : ∀ i, P (.int i)) (k3 : ∀ s, P (.str s)) (k4 : ∀ f b, P (.bytes f b)) (k5 : ∀ xs, Q xs → P (.list xs)) (k6 : ∀ xs, Q xs → P (.tuple xs)) (k7 : ∀ k, P (.ref k)) (k8 : Q []) (k9 : ∀ x xs, P x → Q xs → Q (x :: xs)) : (∀ x, P x) ∧ ∀ xs, Q xs :=
  ⟨fun x => V.rec (motive_1 := P) (motive_2 := Q) k0 k1 k2 k3 k4 k5 k6 k7 k8 k9 x, fun x => V.rec_1 (motive_1 := P) (motive_2 := Q) k0 k1 k2 k3 k4 k5 k6 k7 k8 k9 x⟩
theorem pOk_layB : (∀ (x : V) (d : Nat), pOk d x = true → (toP x).canLay0 = true ∧ (toP x).depth ≤ d) ∧ ∀ (x : List V) (d : Nat), pOks d x = true → PyData.canLayAll0 (toPs x) = true ∧ PyData.depthAll (toPs x) ≤ d :=
  V.ind (P := fun x => ∀ d, pOk d x = true → (toP x).canLay0 = true ∧ (toP x).depth ≤ d) (Q := fun x => ∀ d, pOks d x = true → PyData.canLayAll0 (toPs x) = true ∧ PyData.depthAll (toPs x) ≤ d) (fun _ _ => ⟨rfl, Nat.zero_le _⟩) (fun _ _ _ => ⟨rfl, Nat.zero_le _⟩) (fun _ _ _ => ⟨rfl, Nat.zero_le _⟩)
    (fun s d e => by
      have e : (s.all fun c => Nat.blt c 1114112) = true := e
      refine ⟨?_, Nat.zero_le _⟩
      show (⟨s.toArray⟩ : Str).cps.all (fun c => decide (c < 0x110000)) = true
      simp only [List.all_eq_true] at e
      simp only [List.all_toArray, List.all_eq_true, decide_eq_true_eq]
      exact fun c hc => Nat.le_of_ble_eq_true (e c hc))
    (fun _ _ _ e => nob e)
    (fun xs ih d e => by
      cases d with
      | zero => exact nob e
      | succ d => exact ⟨(ih d e).1, Nat.succ_le_succ (ih d e).2⟩)
    (fun xs ih d e => by
      cases d with
      | zero => exact nob e
      | succ d => exact ⟨(ih d e).1, Nat.succ_le_succ (ih d e).2⟩)
    (fun _ _ e => nob e) (fun _ _ => ⟨rfl, Nat.zero_le _⟩) fun x xs i1 i2 d e => by
      have e : (pOk d x && pOks d xs) = true := e
      have h1 := i1 d (Bool.and_eq_true_iff.mp e).1
      have h2 := i2 d (Bool.and_eq_true_iff.mp e).2
      exact ⟨Bool.and_eq_true_iff.mpr ⟨h1.1, h2.1⟩, Nat.max_le.mpr ⟨h1.2, h2.2⟩⟩
theorem pOk_lay (x : V) (d : Nat) (e : pOk d x = true) : (toP x).canLay0 = true ∧ (toP x).depth ≤ d := pOk_layB.1 x d e
theorem pOks_lay (x : List V) (d : Nat) (e : pOks d x = true) : PyData.canLayAll0 (toPs x) = true ∧ PyData.depthAll (toPs x) ≤ d := pOk_layB.2 x d e
theorem pOk_shaped {x : V} (e : pOk 8 x = true) : SeqAt.shaped (toP x) = true := by
  have := pOk_lay x 8 e
  unfold SeqAt.shaped
  rw [this.1, Bool.true_and]
  exact decide_eq_true (by omega)

theorem str_beq (a b : List Nat) : ((⟨a.toArray⟩ : Str) == ⟨b.toArray⟩) = (a == b) := by
  by_cases h : a = b
  · subst h; simp
  · have h1 : ¬ ((⟨a.toArray⟩ : Str) = ⟨b.toArray⟩) := fun e => h (by have := congrArg (fun s : Str => s.cps.toList) e; simpa using this)
    rw [beq_eq_false_iff_ne.mpr h1, beq_eq_false_iff_ne.mpr h]
theorem veq_eqvB : (∀ (x y : V) (b : Bool), veq x y = some b → (toP x).eqv (toP y) = b) ∧ ∀ (x y : List V) (b : Bool), veqs x y = some b → PyData.eqvAll (toPs x) (toPs y) = b :=
  V.ind (P := fun x => ∀ (y : V) (b : Bool), veq x y = some b → (toP x).eqv (toP y) = b) (Q := fun x => ∀ (y : List V) (b : Bool), veqs x y = some b → PyData.eqvAll (toPs x) (toPs y) = b)
    (fun y b e => by cases y <;> first | exact nos e | (obtain rfl := Option.some.inj e; simp only [toP, PyData.eqv]))
    (fun a y b e => by cases y <;> first | exact nos e | (obtain rfl := Option.some.inj e; simp only [toP, PyData.eqv]))
    (fun a y b e => by cases y <;> first | exact nos e | (obtain rfl := Option.some.inj e; rw [eqInt_eq]; simp only [toP, PyData.eqv]))
    (fun a y b e => by cases y <;> first | exact nos e | (obtain rfl := Option.some.inj e; rw [eqNats_eq]; simp only [toP, PyData.eqv]; exact str_beq a _))
    (fun _ _ _ _ e => nos e)
    (fun xs ih y b e => by cases y <;> first | exact nos e | (simp only [toP, PyData.eqv]; exact ih _ b e))
    (fun xs ih y b e => by cases y <;> first | exact nos e | (simp only [toP, PyData.eqv]; exact ih _ b e))
    (fun _ _ _ e => nos e)
    (fun y b e => by cases y <;> (obtain rfl := Option.some.inj e; simp only [toPs, PyData.eqvAll]))
    fun x xs i1 i2 y b e => by
      cases y with
      | nil => obtain rfl := Option.some.inj e; simp only [toPs, PyData.eqvAll]
      | cons y ys =>
        have e : (match veq x y with | some a => (match veqs xs ys with | some b => some (a && b) | none => none) | none => none) = some b := e
        set_option smartUnfolding false in refine elS e fun a e1 e => elS e fun c e2 e => ?_
        obtain rfl := Option.some.inj e
        simp only [toPs, PyData.eqvAll, i1 y a e1, i2 ys c e2]
theorem veq_eqv (x y : V) (b : Bool) (e : veq x y = some b) : (toP x).eqv (toP y) = b := veq_eqvB.1 x y b e
theorem anyV_any : ∀ (ys : List V) (x : V) (b : Bool), anyV x ys = some b → ((toPs ys).any fun y => y.eqv (toP x)) = b
  | [], _, b, e => by simp [anyV] at e; subst e; simp [toPs]
  | y :: ys, x, b, e => by
    rw [anyV] at e
    set_option smartUnfolding false in refine elS e ?_; clear e; intro a e1 e
    set_option smartUnfolding false in refine elS e ?_; clear e; intro c e2 e
    (first | exact nos e | cases e)
    simp only [toPs, List.any_cons, veq_eqv y x a e1, anyV_any ys x c e2]

theorem u8_inj {a b : List UInt8} (h : a.map UInt8.toNat = b.map UInt8.toNat) : a = b := by
  induction a generalizing b with
  | nil => cases b with
    | nil => rfl
    | cons => cases h
  | cons x xs ih => cases b with
    | nil => cases h
    | cons y ys =>
      simp only [List.map_cons, List.cons.injEq] at h
      rw [UInt8.toNat_inj.mp h.1, ih h.2]
theorem u8_beq (a b : List UInt8) : eqNats (a.map UInt8.toNat) (b.map UInt8.toNat) = (a == b) := by
  rw [eqNats_eq]
  by_cases h : a = b
  · subst h; simp
  · rw [beq_eq_false_iff_ne.mpr h, beq_eq_false_iff_ne.mpr fun e => h (u8_inj e)]

section
variable {C : Cfg} {A : Around} {bad : Addr → Prop} {a : Act} {θ : Th} {s : Shared} {σ : St}

theorem anyB_el {u : List Nat} {x : V} {ys : List V} {r : Bool} {M : V → Prop} (h : anyB u (x :: ys) = some r) (k : ∀ f v q, anyB u ys = some q → (eqNats v u || q) = r → M (.bytes f v)) : M x := by
  cases x <;> first | exact nos h | skip
  case bytes f v =>
    have h : (match anyB u ys with | some b => some (eqNats v u || b) | none => none) = some r := h
    set_option smartUnfolding false in exact elS h fun q h1 h => k f v q h1 (Option.some.inj h)
theorem anyB_any {G : Tok → Array UInt8 → Prop} {h : Heap} (b : List Nat) {ys : List V} {vs : List Value} {r : Bool} (z : FRs G h ys vs) (e : anyB b ys = some r) :
    (∀ y ∈ vs, ∃ (c : Array UInt8) (t : Tok), y = .bytes c t) ∧ (vs.any fun y => match y with | .bytes c _ => eqNats (c.toList.map UInt8.toNat) b | _ => false) = r :=
  VRs.ind (Q := fun ys vs => ∀ r, anyB b ys = some r → (∀ y ∈ vs, ∃ (c : Array UInt8) (t : Tok), y = .bytes c t) ∧ (vs.any fun y => match y with | .bytes c _ => eqNats (c.toList.map UInt8.toNat) b | _ => false) = r)
    (fun r e => Option.some.inj e ▸ ⟨fun _ h => (nomatch h), rfl⟩) (fun x v xs vs h1 _ ih r e => anyB_el (M := fun x => FR G h x v → (∀ y ∈ v :: vs, ∃ (c : Array UInt8) (t : Tok), y = .bytes c t) ∧ ((v :: vs).any fun y => match y with | .bytes c _ => eqNats (c.toList.map UInt8.toNat) b | _ => false) = r) e
      (fun f u q e2 e0 h1 => by
        obtain ⟨c, t, rfl, rfl, _⟩ := h1.inv
        obtain ⟨p1, p2⟩ := ih q e2
        exact ⟨List.forall_mem_cons.mpr ⟨⟨_, _, rfl⟩, p1⟩, by rw [List.any_cons, p2]; exact e0⟩) h1) z r e

theorem eqBytesAt (A : Around) (s : Shared) (c d : Array UInt8) (t u : Tok) : SeqAt.EqAt A s (.bytes c t) (.bytes d u) (eqNats (c.toList.map UInt8.toNat) (d.toList.map UInt8.toNat)) := by
  intro prog w E Q hq
  refine eqBool_bytes ?_
  rw [u8_beq] at hq
  rw [show decide (c.toList = d.toList) = (c.toList == d.toList) by rw [Bool.eq_iff_iff]; simp]
  exact hq
end

theorem slot_bytes_lt : Slot "bytes" (cmpInfo .Lt).2.1 "bytes.__lt__" :=
  .of (owner := "bytes") (n := "__lt__") (by rw [typeLookup_type, builtinLookup_eq_fast]; kernel_rfl) (by decide +kernel) (by decide +kernel) (by decide +kernel)
    (by first | exact .inl (by decide +kernel) | exact .inr (by decide +kernel)) (by rw [isSubtype_type]; kernel_rfl)
theorem entry_bytes_lt : entryFor table "bytes.__lt__" = some Builtin.«bytes.__lt__» := entryFor_of_tree (by kernel_rfl)
theorem args_bytes_lt (a b : Value) : argsOk "bytes.__lt__" ⟨[a, b], []⟩ := by
  unfold argsOk; rw [signature?_of (id := "bytes.__lt__") (n := ['_', '_', 't', 'l', '_', '_']) (o := ['s', 'e', 't', 'y', 'b']) (by kernel_rfl) FB.owner_bytes]; kernel_rfl
theorem order_lt : ∀ a b : List UInt8, (Builtin.Bytes.order a b == .lt) = ltNats (a.map UInt8.toNat) (b.map UInt8.toNat)
  | [], [] | [], _ :: _ | _ :: _, [] => rfl
  | x :: a, y :: b => by
    simp only [Builtin.Bytes.order, List.map_cons, ltNats]
    by_cases h1 : x < y
    · have h2 : x.toNat < y.toNat := UInt8.lt_iff_toNat_lt.mp h1
      have h3 : Nat.beq x.toNat y.toNat = false := by
        cases h : Nat.beq x.toNat y.toNat with
        | false => rfl
        | true => have := Nat.eq_of_beq_eq_true h; omega
      have h4 : Nat.blt x.toNat y.toNat = true := by simp; exact h2
      rw [if_pos h1, h3]; simp only [h4]; rfl
    · have h2 : ¬ x.toNat < y.toNat := fun q => h1 (UInt8.lt_iff_toNat_lt.mpr q)
      rw [if_neg h1]
      by_cases h5 : y < x
      · have h6 : y.toNat < x.toNat := UInt8.lt_iff_toNat_lt.mp h5
        have h3 : Nat.beq x.toNat y.toNat = false := by
          cases h : Nat.beq x.toNat y.toNat with
          | false => rfl
          | true => have := Nat.eq_of_beq_eq_true h; omega
        have h4 : Nat.blt x.toNat y.toNat = false := by
          cases h : Nat.blt x.toNat y.toNat with
          | false => rfl
          | true => exact absurd (Nat.le_of_ble_eq_true h) (by omega)
        rw [if_pos h5, h3]; simp only [h4]; rfl
      · have h6 : ¬ y.toNat < x.toNat := fun q => h5 (UInt8.lt_iff_toNat_lt.mpr q)
        have h7 : x.toNat = y.toNat := by omega
        rw [if_neg h5, h7, Nat.beq_refl]
        exact order_lt a b
theorem gives_bytes_lt (b c : Array UInt8) (t u : Tok) : Gives (Builtin.«bytes.__lt__» ⟨[.bytes b t, .bytes c u], []⟩) (.val (.bool (ltNats (b.toList.map UInt8.toNat) (c.toList.map UInt8.toNat)))) := by
  refine .of_wp fun M A E s Q hq => ?_
  show wpAny M A (isInstance (.bytes c u) (.type "bytes") >>= fun r => _) _ E s
  refine wpAny_bind (wpAny_isInstance (typeIs_bytes s c u) F.sub_bytes_bytes ?_)
  exact wpAny_pure ⟨_, rfl, by rw [← order_lt] at hq; exact hq⟩

section
variable {C : Cfg} {A : Around} {bad : Addr → Prop} {a : Act} {θ : Th} {s : Shared} {σ : St}
theorem lt_bytes {b c : Array UInt8} {t u : Tok} {prog : Program} {w : World} {E : Value → Shared → Prop} {Q : Value → Shared → Prop} (h : Q (.bool (ltNats (b.toList.map UInt8.toNat) (c.toList.map UInt8.toNat))) s) : wpAny (model prog w) A (compareOp .Lt (.bytes b t) (.bytes c u)) Q E s :=
  compareOp_gives (op := .Lt) (typeIs_bytes s b t) (typeIs_bytes s c u) slot_bytes_lt entry_bytes_lt (args_bytes_lt _ _) (gives_bytes_lt b c t u) (fun e => nomatch e) h

theorem eqV_el {x y : V} {b : Bool} {M : V → V → Prop} (h : eqV x y = some b) (k1 : ∀ f g u v, eqNats u v = b → M (.bytes f u) (.bytes g v)) (k2 : (pOk 8 x && pOk 8 y) = true → veq x y = some b → M x y) : M x y := by
  cases x <;> first | (set_option smartUnfolding false in exact elT h k2) | skip
  case bytes f u => cases y <;> first | exact nos h | exact k1 _ _ _ _ (Option.some.inj h)
theorem fit64 {n : Nat} (hA : Fit A n) : A.units + 64 < cLine := by
  have h1 := hA.units
  have h2 : cLine = 9900 := rfl
  omega
theorem eq_at {n : Nat} (hA : Fit A n) (I : Inv C bad θ a σ s) {x y : V} {wa wb : Value} {b : Bool} (ra : FR θ.G s.heap x wa) (rb : FR θ.G s.heap y wb) (e : eqV x y = some b) :
    At C A bad a θ s (compareOp .Eq wa wb) (Post bad σ (.bool b)) :=
  eqV_el (M := fun x y => FR θ.G s.heap x wa → FR θ.G s.heap y wb → At C A bad a θ s (compareOp .Eq wa wb) (Post bad σ (.bool b))) e (fun f g u v e ra rb => by
      obtain ⟨c, t, rfl, rfl, _⟩ := ra.inv
      obtain ⟨d, u, rfl, rfl, _⟩ := rb.inv
      refine at_bool I fun E Q q => eq_bytes ?_
      rw [← u8_beq, e]; exact q) (fun hk e ra rb => by
      obtain ⟨h1, h2⟩ := Bool.and_eq_true_iff.mp hk
      obtain ⟨as, r1⟩ := reads_of ra h1
      obtain ⟨bs, r2⟩ := reads_of rb h2
      exact at_bool I fun E Q q => eq_dataH r1 r2 (pOk_shaped h1) (pOk_shaped h2) (fit64 hA) (veq_eqv _ _ _ e ▸ q)) ra rb

theorem items_lay {ys : List V} (h : pOks 8 ys = true) : PyData.canLayAll0 (toPs ys) = true := (pOks_lay ys 8 h).1
theorem fitMin {n : Nat} (hA : Fit A n) {x : V} (ys : List V) (h : pOk 8 x = true) : A.units + 1 + min (PyData.depthAll (toPs ys)) (toP x).depth < cLine :=
  Nat.lt_of_le_of_lt (Nat.add_le_add_left (Nat.le_trans (Nat.min_le_right _ _) (pOk_lay _ 8 h).2) _) (by
    have h1 := hA.units
    have h2 : cLine = 9900 := rfl
    omega)
theorem copOf_el {op : CmpOp} {o : COp} {M : CmpOp → COp → Prop} (h : copOf op = some o) (k1 : M .Eq .eq) (k2 : M .NotEq .ne) (k3 : M .Lt .lt) (k4 : M .GtE .ge) (k5 : M .In .isin) (k6 : M .NotIn .notin) (k7 : M .Is .is_) : M op o := by
  cases op <;> first | exact nos h | (obtain rfl := Option.some.inj h; assumption)
set_option smartUnfolding false in
theorem ne_at {n : Nat} (hA : Fit A n) (I : Inv C bad θ a σ s) {x y : V} {wa wb : Value} {b : Bool} (ra : FR θ.G s.heap x wa) (rb : FR θ.G s.heap y wb) (e : neV x y = some b) : At C A bad a θ s (compareOp .NotEq wa wb) (Post bad σ (.bool b)) :=
  elT e fun hk e => elS e fun r e3 e => by
    obtain ⟨h1, h2⟩ := Bool.and_eq_true_iff.mp hk
    obtain ⟨as, r1⟩ := reads_of ra h1
    obtain ⟨bs, r2⟩ := reads_of rb h2
    obtain rfl := Option.some.inj e
    exact at_bool I fun E Q q => ne_dataH r1 r2 (pOk_shaped h1) (pOk_shaped h2) (fit64 hA) (veq_eqv _ _ _ e3 ▸ q)
theorem ltV_at (I : Inv C bad θ a σ s) {va vb : V} {wa wb : Value} {b : Bool} (ra : VR bad θ s.heap va wa) (rb : VR bad θ s.heap vb wb) (e : ltV va vb = some b) : At C A bad a θ s (compareOp .Lt wa wb) (Post bad σ (.bool b)) := by
  cases va <;> first | exact nos e | skip
  case int x => cases vb <;> first | exact nos e | skip
                case int y =>
                  obtain rfl := Option.some.inj e
                  obtain ⟨_, rfl⟩ := ra.inv
                  obtain ⟨_, rfl⟩ := rb.inv
                  exact at_bool I fun E Q q => lt_int (by rw [← ltInt_eq]; exact q)
  case bytes f x => cases vb <;> first | exact nos e | skip
                    case bytes g y =>
                      obtain rfl := Option.some.inj e
                      obtain ⟨_, _, rfl, rfl, _⟩ := ra.inv
                      obtain ⟨_, _, rfl, rfl, _⟩ := rb.inv
                      exact at_bool I fun E Q q => lt_bytes q
theorem le_nlt (x y : Int) : decide (y ≤ x) = !ltInt x y := by
  rw [ltInt_eq]
  by_cases h : x < y
  · rw [decide_eq_true h, decide_eq_false (Int.not_le.mpr h)]; rfl
  · rw [decide_eq_false h, decide_eq_true (Int.not_lt.mp h)]; rfl
theorem geV_at (I : Inv C bad θ a σ s) {va vb : V} {wa wb : Value} {b : Bool} (ra : VR bad θ s.heap va wa) (rb : VR bad θ s.heap vb wb) (e : geV va vb = some b) : At C A bad a θ s (compareOp .GtE wa wb) (Post bad σ (.bool b)) := by
  cases va <;> first | exact nos e | skip
  case int x => cases vb <;> first | exact nos e | skip
                case int y =>
                  obtain rfl := Option.some.inj e
                  obtain ⟨_, rfl⟩ := ra.inv
                  obtain ⟨_, rfl⟩ := rb.inv
                  exact at_bool I fun E Q q => ge_int (le_nlt x y ▸ q)
theorem isV_at (I : Inv C bad θ a σ s) {va vb : V} {wa wb : Value} {b : Bool} (ra : VR bad θ s.heap va wa) (rb : VR bad θ s.heap vb wb) (e : isV va vb = some b) : At C A bad a θ s (compareOp .Is wa wb) (Post bad σ (.bool b)) := by
  cases va <;> first | exact nos e | skip
  case none => cases vb <;> first | exact nos e | skip
               obtain rfl := Option.some.inj e
               obtain rfl := ra.inv
               obtain rfl := rb.inv
               exact at_bool I fun E Q q => wpAny_is_plain rfl q
  case int x => cases vb <;> first | exact nos e | skip
                obtain rfl := Option.some.inj e
                obtain ⟨_, rfl⟩ := ra.inv
                obtain rfl := rb.inv
                exact at_bool I fun E Q q => wpAny_is_plain rfl q
  case bool x => cases vb <;> first | exact nos e | skip
                 case bool y =>
                   obtain rfl := Option.some.inj e
                   obtain rfl := ra.inv
                   obtain rfl := rb.inv
                   refine at_bool I fun E Q q => wpAny_is_plain rfl ?_
                   have : (Value.bool x == Value.bool y) = (x == y) := by cases x <;> cases y <;> decide
                   rw [this]; exact q
theorem isIn_el {x : V} {ys : List V} {b : Bool} {M : V → Prop} (h : isIn x ys = some b) (k1 : ∀ f u, anyB u ys = some b → M (.bytes f u)) (k2 : inT x ys = some b → M x) : M x := by
  cases x <;> first | exact k2 h | exact k1 _ _ h
set_option smartUnfolding false in
theorem inT_el {x : V} {ys : List V} {b : Bool} {P : Prop} (h : inT x ys = some b) (k : pOk 8 x = true → pOks 8 ys = true → ((toPs ys).any fun y => y.eqv (toP x)) = b → P) : P :=
  elT h fun hk h => k (Bool.and_eq_true_iff.mp hk).1 (Bool.and_eq_true_iff.mp hk).2 (anyV_any _ _ _ h)
theorem inL_at {n : Nat} (hA : Fit A n) (I : Inv C bad θ a σ s) {x : V} {ys : List V} {wa wb : Value} {b : Bool} (ra : FR θ.G s.heap x wa) (rb : FR θ.G s.heap (.list ys) wb) (e : isIn x ys = some b) : At C A bad a θ s (compareOp .In wa wb) (Post bad σ (.bool b)) := by
  obtain ⟨l, vs, rfl, _, _, hl, i⟩ := rb.inv
  refine isIn_el (M := fun x => FR θ.G s.heap x wa → At C A bad a θ s (compareOp .In wa (.ref l)) (Post bad σ (.bool b))) e (fun f u e ra => ?_) (fun e ra => inT_el e fun h1 h2 h3 => ?_) ra
  · obtain ⟨c, t, rfl, rfl, _⟩ := ra.inv
    obtain ⟨p1, p2⟩ := anyB_any _ i e
    refine at_bool I fun E Q q => SeqAt.in_listAt (fun y => match y with | .bytes d _ => eqNats (d.toList.map UInt8.toNat) (c.toList.map UInt8.toNat) | _ => false) hl (fun y hy => ?_) (by rw [← p2] at q; simpa using q)
    obtain ⟨d, u, rfl⟩ := p1 y (by simpa using hy)
    exact eqBytesAt _ s d c u t
  · obtain ⟨as, q1⟩ := reads_of ra h1
    obtain ⟨bs, q2⟩ := readsAll_of i h2
    obtain ⟨o, o1, o2, m, o3⟩ := hl
    exact at_bool I fun E Q q => SeqAt.in_list_reads (.list o1 o2 o3 q2) q1 (items_lay h2) (pOk_lay _ 8 h1).1 (fitMin hA ys h1) (h3 ▸ q)
theorem tupleReads {G : Tok → Array UInt8 → Prop} {h : Heap} {ys : List V} {w : Value} (r : FR G h (.tuple ys) w) (h2 : pOks 8 ys = true) : ∃ bs, Reads h w (.tuple (toPs ys)) bs := by
  obtain ⟨l, vs, rfl, _, _, ⟨o, o1, o2, m, o3⟩, i⟩ := r.inv
  obtain ⟨bs, q2⟩ := readsAll_of i h2
  exact ⟨_, .tuple o1 o2 o3 q2⟩
theorem inV_at {n : Nat} (hA : Fit A n) (I : Inv C bad θ a σ s) {x y : V} {wa wb : Value} {b : Bool} (ra : FR θ.G s.heap x wa) (rb : FR θ.G s.heap y wb) (e : inV x y = some b) : At C A bad a θ s (compareOp .In wa wb) (Post bad σ (.bool b)) := by
  cases y <;> first | exact nos e | exact inL_at hA I ra rb e | skip
  case tuple ys => exact inT_el e fun h1 h2 h3 => (reads_of ra h1).elim fun as q1 => (tupleReads rb h2).elim fun bs q2 => at_bool I fun E Q q => SeqAt.in_tuple_reads q2 q1 (items_lay h2) (pOk_lay _ 8 h1).1 (fitMin hA ys h1) (h3 ▸ q)
set_option smartUnfolding false in
theorem notinV_at {n : Nat} (hA : Fit A n) (I : Inv C bad θ a σ s) {x y : V} {wa wb : Value} {b : Bool} (ra : FR θ.G s.heap x wa) (rb : FR θ.G s.heap y wb) (e : notinV x y = some b) : At C A bad a θ s (compareOp .NotIn wa wb) (Post bad σ (.bool b)) := by
  cases y <;> first | exact nos e | skip
  case tuple ys => exact elS e fun r e1 e => inT_el e1 fun h1 h2 h3 => (reads_of ra h1).elim fun as q1 => (tupleReads rb h2).elim fun bs q2 => at_bool I fun E Q q => SeqAt.notIn_tuple_reads q2 q1 (items_lay h2) (pOk_lay _ 8 h1).1 (fitMin hA ys h1) (by rw [h3]; exact Option.some.inj e ▸ q)
set_option smartUnfolding false in
theorem frz2_el {objs : List O} {f : V → V → Option Bool} {va vb : V} {b : Bool} {P : Prop} (h : frz2 objs f va vb = some b) (k : ∀ x y, frz objs va = some x → frz objs vb = some y → f x y = some b → P) : P :=
  elS h fun x h1 h => elS h fun y h2 h => k x y h1 h2 h
theorem cmp_at {n : Nat} (hA : Fit A n) (I : Inv C bad θ a σ s) {op : CmpOp} {o : COp} {va vb : V} {b : Bool} {wa wb : Value} (ho : copOf op = some o) (e : cmpop σ.objs o va vb = some b) (ra : VR bad θ s.heap va wa) (rb : VR bad θ s.heap vb wb) :
    At C A bad a θ s (compareOp op wa wb) (Post bad σ (.bool b)) :=
  copOf_el (M := fun op o => cmpop σ.objs o va vb = some b → At C A bad a θ s (compareOp op wa wb) (Post bad σ (.bool b))) ho (fun e => frz2_el e fun x y e1 e2 e => eq_at hA I (I.frz ra e1) (I.frz rb e2) e) (fun e => frz2_el e fun x y e1 e2 e => ne_at hA I (I.frz ra e1) (I.frz rb e2) e)
    (fun e => ltV_at I ra rb e) (fun e => geV_at I ra rb e) (fun e => frz2_el e fun x y e1 e2 e => inV_at hA I (I.frz ra e1) (I.frz rb e2) e) (fun e => frz2_el e fun x y e1 e2 e => notinV_at hA I (I.frz ra e1) (I.frz rb e2) e) (fun e => isV_at I ra rb e) e
end
end Mine
end
section
namespace Mine
open PySem PySem.W PyProof.Rows PySem.Calls

/-! the library's frames and ledgers -/
noncomputable def allNews (h₀ h : Heap) (L : Addr) : List (Addr × Obj) := (List.range h.objs.size).filterMap fun b => match h.get? b with
  | some o => if b = L ∨ (h₀.get? b).isSome = true then none else some (b, o)
  | none => none
theorem allNews_mem {h₀ h : Heap} {L : Addr} {p : Addr × Obj} : p ∈ allNews h₀ h L ↔ h.get? p.1 = some p.2 ∧ p.1 ≠ L ∧ h₀.get? p.1 = none := by
  unfold allNews
  rw [List.mem_filterMap]
  constructor
  · rintro ⟨b, _, e⟩
    set_option smartUnfolding false in refine elS e ?_; clear e; intro o ho e
    split at e
    · (first | exact nos e | cases e)
    · rename_i hn
      (first | exact nos e | cases e)
      exact ⟨ho, fun q => hn (.inl q), by simpa using fun q => hn (.inr q)⟩
  · rintro ⟨h1, h2, h3⟩
    refine ⟨p.1, List.mem_range.mpr (Heap.lt_size h1), ?_⟩
    rw [h1]
    dsimp only
    rw [if_neg]
    rintro (q | q)
    · exact h2 q
    · rw [h3] at q; cases q

section
variable {C : Cfg} {A : Around} {bad : Addr → Prop} {a : Act} {θ : Th} {s : Shared} {σ : St}
theorem none_of_size {h : Heap} {b : Addr} (hb : h.objs.size ≤ b) : h.get? b = none := by
  cases e : h.get? b with
  | none => rfl
  | some o => exact absurd (Heap.lt_size e) (Nat.not_lt.mpr hb)
theorem Inv.fr (I : Inv C bad θ a σ s) : ∃ m, Fr C.h₀ a.L s.heap m ∧ News C.h₀ a.L s.heap (allNews C.h₀ s.heap a.L) ∧
    ∀ h' tk news', Fr C.h₀ a.L h' m → News C.h₀ a.L h' news' → (∀ p ∈ allNews C.h₀ s.heap a.L, p ∈ news') → Gr s ⟨h', s.gens, s.drawn, tk, s.os⟩ →
      Inv C bad θ a σ ⟨h', s.gens, s.drawn, tk, s.os⟩ ∧ Step θ a s.heap θ h' := by
  obtain ⟨m, hn, hm⟩ := I.loc
  have hL : C.h₀.objs.size ≤ a.L := I.new a.L (.inr (.inl rfl))
  refine ⟨m, ⟨hn, I.pres, hL⟩, fun p hp => ?_, fun h' tk news' F' N' sub g => ?_⟩
  · obtain ⟨h1, h2, h3⟩ := allNews_mem.mp hp
    exact ⟨h1, h2, h3⟩
  · have x : Chg (fun c => c = a.L) s ⟨h', s.gens, s.drawn, tk, s.os⟩ := by
      refine ⟨fun b o e n => ?_, g, rfl, rfl, rfl⟩
      cases q : C.h₀.get? b with
      | some o' =>
        have := I.pres b o' q
        rw [e] at this; cases this
        exact F'.keep b o q
      | none => exact N'.get (sub (b, o) (allNews_mem.mpr ⟨e, n, q⟩))
    have st : Step θ a s.heap θ h' := Step.of_chg x fun c q => .inr (.inr (.inl q))
    obtain ⟨oL, es, ep, eL, dL, zL⟩ := hn
    have off : ∀ {c ob}, s.heap.get? c = some ob → (∀ es ep, ob.data ≠ .dict es ep) → h'.get? c = some ob := fun {c ob} e n => x.keep c ob e fun q => by
      rw [q, eL] at e; cases e; exact n _ _ dL
    have cm : ∀ {c v'}, s.heap.IsCell c v' → h'.IsCell c v' := fun {c v'} q => by
      obtain ⟨o, e, hd⟩ := q
      exact ⟨o, off e (by rw [hd]; exact fun _ _ q => nomatch q), hd⟩
    refine ⟨⟨F'.keep, I.nodup, I.new, fun c hc => ?_, I.badOut, I.len, fun j c o' e1 e2 => ?_, ⟨m, F'.ns, fun j l u e1 e2 => ?_⟩, I.llen, I.keys, I.gens, I.drawn, I.os, Nat.lt_of_lt_of_le I.toks g.1, fun t b q => Nat.lt_of_lt_of_le (I.gtok t b q) g.1, I.gfun⟩, st⟩
    · obtain ⟨o, e⟩ := I.badLive c hc; exact ⟨o, x.keep c o e fun q => I.badOut c hc (.inr (.inl q))⟩
    · have ro := I.objs j c o' e1 e2
      exact OR.mv I st (fun ob e => off e (ro.notDict e).1) ro
    · have z := hm j l u e1 e2
      cases l with
      | dict y => exact I.mvo st z
      | cell c => obtain ⟨v', q, z⟩ := z; exact ⟨v', cm q, I.mvo st z⟩
      | ro c => obtain ⟨v', q, z⟩ := z; exact ⟨v', cm q, I.mvo st z⟩

theorem Inv.freshOut (I : Inv C bad θ a σ s) {b : Addr} (hb : s.heap.objs.size ≤ b) : b ∉ θ.as ∧ ¬ bad b := by
  refine ⟨fun q => ?_, fun q => ?_⟩
  · obtain ⟨o, e⟩ := I.live (.inl q); exact absurd (Heap.lt_size e) (Nat.not_lt.mpr hb)
  · obtain ⟨o, e⟩ := I.badLive b q; exact absurd (Heap.lt_size e) (Nat.not_lt.mpr hb)

/-- a value that is a sequence to this side: its items over there -/
theorem itemsR (I : Inv C bad θ a σ s) {v : V} {xs : List V} {w : Value} (r : VR bad θ s.heap v w) (e : itemsOf σ.objs v = some xs) :
    ∃ (l : Addr) (vs : List Value), w = .ref l ∧ s.heap.IsList l vs.toArray ∧ VRs bad θ s.heap xs vs := by
  cases v <;> first | exact nos e | skip
  case list ys =>
    obtain ⟨l, vs, rfl, _, _, h1, h2⟩ := r.inv
    cases e
    exact ⟨_, _, rfl, h1, h2⟩
  case ref k =>
    obtain ⟨b, rfl, hk⟩ := r.inv
    simp only [itemsOf] at e
    split at e
    · rename_i ys e1
      (first | exact nos e | cases e)
      obtain ⟨vs, n, l, r⟩ := I.objs k b _ hk e1
      exact ⟨_, vs, rfl, isList_obj l, r⟩
    · (first | exact nos e | cases e)

theorem newList_at (I : Inv C bad θ a σ s) {xs : List V} {vs : List Value} (r : VRs bad θ s.heap xs vs) (hz : xs.length ≤ sizeLine) :
    At C A bad a θ s (newList vs) (Post bad σ (.list xs)) := At.any fun E Q hQ => by
  refine wpAny_newObj_type (T := "list") ?_ (by show vs.toArray.size ≤ sizeLine; rw [List.size_toArray, r.length]; exact hz)
  have g : Grow s { s with heap := s.heap.push { cls := .type "list", data := .seq vs.toArray } } := Chg.push
  have f := I.freshOut (Nat.le_refl s.heap.objs.size)
  exact hQ θ σ _ _ (Step.of_grow g) (I.grow g) ⟨rfl, .list f.1 f.2 ⟨_, Heap.get?_push_size _ rfl, rfl, 0, rfl⟩ (I.mvs (Step.of_grow (a := a) g) r)⟩
theorem newTuple_at (I : Inv C bad θ a σ s) {xs : List V} {vs : List Value} (r : VRs bad θ s.heap xs vs) (hz : xs.length ≤ sizeLine) :
    At C A bad a θ s (newTuple vs) (Post bad σ (.tuple xs)) := At.any fun E Q hQ => by
  refine wpAny_newObj_type (T := "tuple") ?_ (by show vs.toArray.size ≤ sizeLine; rw [List.size_toArray, r.length]; exact hz)
  have g : Grow s { s with heap := s.heap.push { cls := .type "tuple", data := .seq vs.toArray } } := Chg.push
  have f := I.freshOut (Nat.le_refl s.heap.objs.size)
  exact hQ θ σ _ _ (Step.of_grow g) (I.grow g) ⟨rfl, .tuple f.1 f.2 ⟨_, Heap.get?_push_size _ rfl, rfl, 0, rfl⟩ (I.mvs (Step.of_grow (a := a) g) r)⟩
/-- a new list that may be changed -/
theorem newMut_at (I : Inv C bad θ a σ s) {xs : List V} {vs : List Value} (r : VRs bad θ s.heap xs vs) (hz : xs.length ≤ sizeLine) :
    At C A bad a θ s (newList vs) (fun θ' σ' s' w => σ' = ⟨σ.loc, σ.objs ++ [.list xs]⟩ ∧ VR bad θ' s'.heap (.ref σ.objs.length) w) := At.any fun E Q hQ => by
  refine wpAny_newObj_type (T := "list") ?_ (by show vs.toArray.size ≤ sizeLine; rw [List.size_toArray, r.length]; exact hz)
  have g : Grow s { s with heap := s.heap.push { cls := .type "list", data := .seq vs.toArray } } := Chg.push
  have st : Step θ a s.heap (θ.add s.heap.objs.size) (s.heap.push { cls := .type "list", data := .seq vs.toArray }) := ⟨⟨[_], rfl, fun z hz => by simp at hz; exact Nat.le_of_eq hz.symm⟩, fun _ _ q => q, fun b o e _ => g.keep b o e id, g.gr.2⟩
  obtain ⟨I', st'⟩ := I.join g (b := s.heap.objs.size) (o := .list xs) (Nat.le_refl _) ⟨vs, 0, Heap.get?_push_size _ rfl, I.mvs st r⟩
  exact hQ _ _ _ _ st' I' ⟨rfl, .ref (by rw [I.len.symm]; simp)⟩

theorem tailAt {value slice : PySem.Expr} {o i : Value} {ops : List Value} {T id : String} {Φ : Th → St → Shared → Value → Prop} (hT : s.TypeIs o T)
    (hl : typeLookup (.type T) "__getitem__" = pure (some (.builtin id))) (h : AtA C A bad a θ s (getItem o i) Φ)
    (hs : subscripted slice false o i = operate ops (getItem o i)) : At C A bad a θ s (subscriptTail value slice o i) Φ := At.any fun E Q hQ => tail_any hT hl (h E Q hQ) hs

theorem place_some {n : Nat} {k : Int} {j : Nat} (e : place n k = some j) : seqIndex? k n = some j ∧ j < n := by
  unfold place at e
  split at e
  · split at e
    · rename_i m h
      (first | exact nos e | cases e)
      have h' := Nat.le_of_ble_eq_true h
      constructor
      · simp only [seqIndex?]
        have h1 : ¬ ((Int.ofNat j) < 0) := Int.not_lt.mpr (Int.natCast_nonneg j)
        simp [h1, Int.natCast_nonneg]
        omega
      · exact h'
    · (first | exact nos e | cases e)
  · split at e
    · rename_i m h
      (first | exact nos e | cases e)
      have h' := Nat.le_of_ble_eq_true h
      constructor
      · simp only [seqIndex?]
        simp
        omega
      · omega
    · (first | exact nos e | cases e)

theorem small_range {k : Int} (h : Nat.blt k.natAbs bigN = true) : (-2 ^ 63 ≤ k) ∧ k < 2 ^ 63 := by
  have h1 : k.natAbs < 65536 := Nat.le_of_ble_eq_true h
  omega

theorem index_at (I : Inv C bad θ a σ s) {value slice : PySem.Expr} {va vi v : V} {wa wi : Value} (ra : VR bad θ s.heap va wa) (ri : VR bad θ s.heap vi wi) (e : index σ.objs va vi = some v)
    (hs : ∀ o i, subscripted slice false o i = operate [o, i] (getItem o i)) : At C A bad a θ s (subscriptTail value slice wa wi) (Post bad σ v) := by
  have seq : ∀ {xs : List V} {vs : List Value} {l : Addr} {j : Nat} {u : Tok}, s.heap.IsList l vs.toArray → VRs bad θ s.heap xs vs → Nat.blt (Int.ofNat j).natAbs bigN = true → xs[j]? = some v →
      At C A bad a θ s (subscriptTail value slice (.ref l) (.int (Int.ofNat j) u)) (Post bad σ v) := by
    intro xs vs l j u hl r hk e
    obtain ⟨w, e1, r1⟩ := r.get e
    have hr := small_range hk
    refine tailAt hl.typeIs slot_list_getitem.lookup ?_ (hs _ _)
    refine AtA.grow I fun E Q hQ => ?_
    exact wpAny_getItem_list hl (Int.natCast_nonneg j) hr.2 (by simpa using e1) (hQ s w Chg.same ⟨rfl, r1⟩)
  unfold index at e
  split at e
  · rename_i k
    obtain ⟨u, rfl⟩ := ri.inv
    split at e
    · (first | exact nos e | cases e)
    · rename_i hk
      have hr := small_range hk
      split at e
      · obtain ⟨x, t, rfl, rfl⟩ := ra.inv
        set_option smartUnfolding false in refine elS e ?_; clear e; intro j e1 e
        have hp := place_some e1
        set_option smartUnfolding false in refine elS e ?_; clear e; intro c e2 e
        (first | exact nos e | cases e)
        refine tailAt (T := "str") rfl F.slot_str_getitem.lookup ?_ (hs _ _)
        refine at_strA I fun E Q q => getItem_str (c := c) (by simp; omega) (by rw [str_len, hp.1]; simpa using e2) q
      · obtain ⟨b, t, rfl, rfl, ht⟩ := ra.inv
        split at e
        · rename_i j
          first | (set_option smartUnfolding false in refine elT e ?_; clear e; intro hsz e) | (set_option smartUnfolding false in refine elS e ?_; clear e; intro _ hsz e)
          have hsz' : (b.toList.map UInt8.toNat).length < 65536 := Nat.le_of_ble_eq_true hsz
          rw [List.length_map] at hsz'
          set_option smartUnfolding false in refine elS e ?_; clear e; intro c e2 e
          (first | exact nos e | cases e)
          simp only [List.getElem?_map, Option.map_eq_some_iff] at e2
          obtain ⟨d, e3, e4⟩ := e2
          have hl : j < b.toList.length := (List.getElem?_eq_some_iff.mp e3).1
          refine tailAt (T := "bytes") rfl FB.slot_bytes_getitem.lookup ?_ (hs _ _)
          have hb : b = b.toList.toArray := by simp
          rw [hb]
          refine at_intA I fun E Q q => getItem_bytes (by omega) (Int.natCast_nonneg j) (by show (j : Int) < _; omega) ?_
          have : ((b.toList.getD (Int.ofNat j).toNat 0).toNat : Int) = Int.ofNat c := by
            show ((b.toList.getD j 0).toNat : Int) = Int.ofNat c
            rw [List.getD_eq_getElem?_getD, e3, ← e4]; rfl
          rw [this]; exact q
        · (first | exact nos e | cases e)
      · rename_i xs
        obtain ⟨l, vs, rfl, h1, h2, hl, hi⟩ := ra.inv
        set_option smartUnfolding false in refine elS e ?_; clear e; intro j e1 e
        have hp := place_some e1
        obtain ⟨w, e2, r2⟩ := hi.get e
        refine tailAt (Heap.IsTuple.typeIs hl) slot_tuple_getitem.lookup ?_ (hs _ _)
        refine AtA.grow I fun E Q hQ => ?_
        exact getItem_tuple (j := j) hl hr.1 hr.2 (by rw [List.size_toArray, hi.length]; exact hp.1) (by simpa using e2) (hQ s w Chg.same ⟨rfl, r2⟩)
      · rename_i xs
        obtain ⟨l, vs, rfl, h1, h2, hl, hi⟩ := ra.inv
        split at e
        · exact seq hl hi hk e
        · (first | exact nos e | cases e)
      · rename_i r
        obtain ⟨l, rfl, hk'⟩ := ra.inv
        set_option smartUnfolding false in refine elS e ?_; clear e; intro xs e1 e
        obtain ⟨l', vs, e2, hl, hi⟩ := itemsR I (.ref hk') e1
        (first | exact nos e2 | cases e2)
        split at e
        · exact seq hl hi hk e
        · (first | exact nos e | cases e)
      · (first | exact nos e | cases e)
  · (first | exact nos e | cases e)

noncomputable def PartR (bad : Addr → Prop) (θ : Th) (h : Heap) : Option V → Value → Prop
  | none, w => w = .none
  | some v, w => VR bad θ h v w
theorem partOf {h : Heap} {v : Option V} {p : Option Nat} {w : Value} (e : bound? v = some p) (r : PartR bad θ h v w) : IsPart w (p.map Int.ofNat) ∧ (v = none ↔ p = none) := by
  cases v with
  | none => cases e; exact ⟨(show w = .none from r) ▸ .none, by simp⟩
  | some v =>
    cases v with
    | int i =>
      cases i with
      | ofNat k =>
        simp only [bound?] at e
        first | (set_option smartUnfolding false in refine elT e ?_; clear e; intro _ e) | (set_option smartUnfolding false in refine elS e ?_; clear e; intro _ _ e)
        (first | exact nos e | cases e)
        have r' : VR bad θ h (.int (.ofNat k)) w := r
        obtain ⟨_, rfl⟩ := r'.inv
        exact ⟨.int _ _, by simp⟩
      | negSucc k => cases e
    | _ => cases e

theorem cut_pick {items : List Value} {l h : Option Nat} : (slicePick items.toArray (l.map Int.ofNat) (h.map Int.ofNat) none).toList = cut items l h := by
  have key : ∀ a b : Nat, sliceBounds (l.map Int.ofNat) (h.map Int.ofNat) none items.toArray.size = ((a : Int), (b : Int), 1) → (slicePick items.toArray (l.map Int.ofNat) (h.map Int.ofNat) none).toList = (items.drop a).take (b - a) := by
    intro a b e
    rw [kmk_pick_nat _ e]
  have z : ∀ x : Nat, ¬ ((Int.ofNat x) < 0) := fun x => Int.not_lt.mpr (Int.natCast_nonneg x)
  cases l with
  | none =>
    cases h with
    | none =>
      rw [key 0 items.length (by simp [sliceBounds])]
      simp [cut]
    | some h =>
      rw [key 0 (min h items.length) (by
        simp only [sliceBounds, Option.map_some, Option.map_none, Option.getD_none, show (1 : Int) > 0 by decide, if_true, if_neg (z h), List.size_toArray]
        congr 1; congr 1; show max 0 (min (h : Int) (items.length : Int)) = ((min h items.length : Nat) : Int); omega)]
      simp only [cut, List.drop_zero, Nat.sub_zero]
      exact kmk_take_min items h
  | some l =>
    cases h with
    | none =>
      rw [key (min l items.length) items.length (by
        simp only [sliceBounds, Option.map_some, Option.map_none, Option.getD_none, show (1 : Int) > 0 by decide, if_true, if_neg (z l), List.size_toArray]
        congr 1; show max 0 (min (l : Int) (items.length : Int)) = ((min l items.length : Nat) : Int); omega)]
      simp only [cut]
      rw [kmk_drop_min, List.take_of_length_le (by rw [List.length_drop]; omega)]
    | some h =>
      rw [key (min l items.length) (min h items.length) (by
        simp only [sliceBounds, Option.map_some, Option.getD_none, show (1 : Int) > 0 by decide, if_true, if_neg (z l), if_neg (z h), List.size_toArray]
        congr 1
        · show max 0 (min (l : Int) (items.length : Int)) = ((min l items.length : Nat) : Int); omega
        · congr 1; show max 0 (min (h : Int) (items.length : Int)) = ((min h items.length : Nat) : Int); omega)]
      simp only [cut]
      rw [kmk_drop_min]
      by_cases hl : l ≤ items.length
      · by_cases hh : h ≤ items.length
        · rw [Nat.min_eq_left hl, Nat.min_eq_left hh, List.drop_take]
        · rw [Nat.min_eq_left hl, Nat.min_eq_right (by omega), List.take_of_length_le (l := items) (by omega), List.take_of_length_le (by rw [List.length_drop]; omega)]
      · rw [List.drop_of_length_le (by omega), List.drop_of_length_le (by rw [List.length_take]; omega)]; simp

theorem slice_any (I : Inv C bad θ a σ s) {id : Str} {p : Pos} {slice : PySem.Expr} {va v : V} {lo hi : Option V} {wa wl wh : Value} (ra : VR bad θ s.heap va wa)
    (rl : PartR bad θ s.heap lo wl) (rh : PartR bad θ s.heap hi wh) (e : Mine.slice σ.objs va lo hi = some v)
    (hs : ∀ o i, subscripted slice false o i = operate [i, o] (getItem o i)) {E Q : Value → Shared → Prop} (hQ : ∀ θ' σ' s' x, Step θ a s.heap θ' s'.heap → Inv C bad θ' a σ' s' → Post bad σ v θ' σ' s' x → Q x s') :
    wpAny (model C.prog C.w) A (newFields "slice" [wl, wh, .none]) (fun i s1 => wpAny (model C.prog C.w) A (subscriptTail (.Name id p) slice wa i) Q E s1) E s := by
  have tb := bigN_le
  unfold Mine.slice at e
  set_option smartUnfolding false in refine el2 e ?_; clear e; intro l h el eh e
  obtain ⟨pl, ql⟩ := partOf el rl
  obtain ⟨ph, qh⟩ := partOf eh rh
  refine wpAny_newObj_type (T := "slice") ?_ (by show 3 ≤ sizeLine + 2; rw [line_eq]; omega)
  have g0 : Gr s { s with heap := s.heap.push { cls := .type "slice", data := .fields #[wl, wh, .none] } } := ⟨Nat.le_refl _, by rw [objs_push]; exact Nat.le_succ _⟩
  obtain ⟨m, F, N, back⟩ := I.fr
  split at e
  · obtain ⟨x, t, rfl, rfl⟩ := ra.inv
    split at e
    · split at e
      · rename_i i
        split at e
        · rename_i hk
          (first | exact nos e | cases e)
          have hk' : x.cps.toList.length < bigN := Nat.le_of_ble_eq_true hk
          have ewh : wh = .none := rh
          subst ewh
          cases pl with
          | int i' u =>
            refine wpAny_gr (slice_strN_sn F N (fun h' t' k F' N' g => ?_) (hs _ _) (fun _ => rfl) (by rw [line_eq, str_len]; omega))
            obtain ⟨I', st'⟩ := back h' k _ F' N' (fun p hp => hp) (g0.trans g)
            have ex : (Txt.slice x (some (Int.ofNat i)) none).cps.toList = x.cps.toList.drop i := by
              by_cases hi : i ≤ x.cps.toList.length
              · rw [slice_from_eq (i := Int.ofNat i) (b := x.length) (Int.natCast_nonneg i) (by rw [str_len]; show (i : Int) ≤ _; omega) rfl]
                show (List.take _ (List.drop i _)) = _
                rw [List.take_of_length_le]
                rw [List.length_drop, str_len]
                show _ ≤ ((x.cps.toList.length : Int) - (i : Int)).toNat
                omega
              · rw [slice_beyond (i := Int.ofNat i) (by rw [str_len]; show (_ : Int) ≤ (i : Int); omega), List.drop_of_length_le (by omega)]
                rfl
            exact hQ θ σ _ _ st' I' ⟨rfl, by rw [← ex]; exact .str _ _⟩
        · (first | exact nos e | cases e)
      · (first | exact nos e | cases e)
    · (first | exact nos e | cases e)
  · set_option smartUnfolding false in refine elS e ?_; clear e; intro xs ei e
    first | (set_option smartUnfolding false in refine elT e ?_; clear e; intro hk e) | (set_option smartUnfolding false in refine elS e ?_; clear e; intro _ hk e)
    (first | exact nos e | cases e)
    obtain ⟨b, vs, rfl, hl, hi⟩ := itemsR I ra ei
    have hk' : xs.length < bigN := Nat.le_of_ble_eq_true hk
    refine wpAny_gr (slice_list F N hl pl ph (fun h' F' N' g => ?_) (hs _ _) (fun _ => rfl) (by rw [List.size_toArray, hi.length]; have := line_eq; omega))
    obtain ⟨I', st'⟩ := back h' _ _ F' N' (fun p hp => .tail _ hp) (g0.trans g)
    have f := I.freshOut (Nat.le_succ s.heap.objs.size)
    have hL : h'.IsList (s.heap.objs.size + 1) (cut vs l h).toArray := ⟨_, N'.get (.head _), rfl, 0, by rw [← cut_pick]⟩
    refine hQ θ σ _ _ st' I' ⟨rfl, .list f.1 f.2 hL (I.mvs st' ?_)⟩
    unfold cut
    cases l with
    | none => cases h with
      | none => exact hi
      | some h => exact hi.take h
    | some l => cases h with
      | none => exact hi.drop l
      | some h => exact (hi.take h).drop l
end
end Mine
end
section
namespace Mine
open PySem PySem.W PyProof.Rows PySem.Calls

theorem ints_el {x : V} {xs : List V} {is : List Int} {M : V → Prop} (h : ints? (x :: xs) = some is) (k : ∀ i r, okI i = true → ints? xs = some r → is = i :: r → M (.int i)) : M x := by
  cases x <;> first | exact nos h | skip
  case int i =>
    have h : (match okI i with | true => (match ints? xs with | some r => some (i :: r) | none => none) | false => none) = some is := h
    set_option smartUnfolding false in exact elT h fun h1 h => elS h fun r h2 h => k i r h1 h2 (Option.some.inj h).symm
theorem ints_are {bad : Addr → Prop} {θ : Th} {h : Heap} {xs : List V} {vs : List Value} {is : List Int} (r : VRs bad θ h xs vs) (e : ints? xs = some is) : IntsAre vs is ∧ ∀ i ∈ is, okI i = true :=
  VRs.ind (Q := fun xs vs => ∀ is, ints? xs = some is → IntsAre vs is ∧ ∀ i ∈ is, okI i = true) (fun is e => Option.some.inj e ▸ ⟨.nil, fun _ h => nomatch h⟩)
    (fun x v xs vs h1 h2 ih is e => ints_el (M := fun x => VR bad θ h x v → IntsAre (v :: vs) is ∧ ∀ i ∈ is, okI i = true) e (fun i r hk e2 e0 h1 => by
      subst e0
      obtain ⟨t, rfl⟩ := h1.inv
      obtain ⟨p, q⟩ := ih r e2
      exact ⟨.cons _ _ p, List.forall_mem_cons.mpr ⟨hk, q⟩⟩) h1) r is e
theorem vints_vr {bad : Addr → Prop} {θ : Th} {h : Heap} {vs : List Value} {ns : List Int} (r : IntsAre vs ns) : VRs bad θ h (vints ns) vs := by
  induction r with
  | nil => exact .nil
  | cons n t _ ih => exact .cons (.int n t) ih

theorem insInt_perm (x : Int) : ∀ l : List Int, (insInt x l).Perm (x :: l)
  | [] => .refl _
  | y :: ys => by
    simp only [insInt]
    split
    · exact ((insInt_perm x ys).cons y).trans (.swap ..)
    · exact .refl _
theorem sortInts_perm : ∀ l : List Int, (sortInts l).Perm l
  | [] => .refl _
  | x :: xs => (insInt_perm x _).trans ((sortInts_perm xs).cons x)
theorem insInt_sorted (x : Int) : ∀ l : List Int, l.Pairwise (· ≤ ·) → (insInt x l).Pairwise (· ≤ ·)
  | [], _ => by simp [insInt]
  | y :: ys, h => by
    obtain ⟨h1, h2⟩ := List.pairwise_cons.mp h
    simp only [insInt]
    split
    · rename_i hlt
      have hlt' := ltInt_iff.mp hlt
      refine List.pairwise_cons.mpr ⟨fun z hz => ?_, insInt_sorted x ys h2⟩
      rcases List.mem_cons.mp ((insInt_perm x ys).mem_iff.mp hz) with rfl | hz
      · omega
      · exact h1 z hz
    · rename_i hlt
      have hlt' : ¬ y < x := fun q => by rw [ltInt_iff.mpr q] at hlt; cases hlt
      refine List.pairwise_cons.mpr ⟨fun z hz => ?_, h⟩
      rcases List.mem_cons.mp hz with rfl | hz
      · omega
      · have := h1 z hz; omega
theorem sortInts_sorted : ∀ l : List Int, (sortInts l).Pairwise (· ≤ ·)
  | [] => List.Pairwise.nil
  | x :: xs => insInt_sorted x _ (sortInts_sorted xs)
theorem sorted_unique {l : List Int} {m : List Int} (hp : m.Perm l) (hs : m.Pairwise (· ≤ ·)) : m = sortInts l :=
  List.Perm.eq_of_pairwise (le := (· ≤ ·)) (fun a b _ _ h1 h2 => Int.le_antisymm h1 h2) hs (sortInts_sorted l) (hp.trans (sortInts_perm l).symm)

theorem sumInts_eq : ∀ l : List Int, sumInts l = l.sum
  | [] => rfl
  | x :: xs => by simp [sumInts, sumInts_eq xs]
theorem minInts_spec : ∀ (l : List Int) (m : Int), minInts m l ∈ m :: l ∧ ∀ a ∈ m :: l, minInts m l ≤ a
  | [], m => by simp [minInts]
  | x :: xs, m => by
    simp only [minInts]
    split
    · rename_i h
      have h' := ltInt_iff.mp h
      obtain ⟨p, q⟩ := minInts_spec xs x
      refine ⟨List.mem_cons_of_mem _ p, fun a ha => ?_⟩
      rcases List.mem_cons.mp ha with rfl | ha
      · have := q x (.head _); omega
      · exact q a ha
    · rename_i h
      have h' : ¬ x < m := fun z => by rw [ltInt_iff.mpr z] at h; cases h
      obtain ⟨p, q⟩ := minInts_spec xs m
      refine ⟨?_, fun a ha => ?_⟩
      · rcases List.mem_cons.mp p with p | p
        · rw [p]; exact .head _
        · exact .tail _ (.tail _ p)
      · rcases List.mem_cons.mp ha with rfl | ha
        · exact q _ (.head _)
        · rcases List.mem_cons.mp ha with rfl | ha
          · have := q m (.head _); omega
          · exact q a (.tail _ ha)
theorem maxInts_spec : ∀ (l : List Int) (m : Int), maxInts m l ∈ m :: l ∧ ∀ a ∈ m :: l, a ≤ maxInts m l
  | [], m => by simp [maxInts]
  | x :: xs, m => by
    simp only [maxInts]
    split
    · rename_i h
      have h' := ltInt_iff.mp h
      obtain ⟨p, q⟩ := maxInts_spec xs x
      refine ⟨List.mem_cons_of_mem _ p, fun a ha => ?_⟩
      rcases List.mem_cons.mp ha with rfl | ha
      · have := q x (.head _); omega
      · exact q a ha
    · rename_i h
      have h' : ¬ m < x := fun z => by rw [ltInt_iff.mpr z] at h; cases h
      obtain ⟨p, q⟩ := maxInts_spec xs m
      refine ⟨?_, fun a ha => ?_⟩
      · rcases List.mem_cons.mp p with p | p
        · rw [p]; exact .head _
        · exact .tail _ (.tail _ p)
      · rcases List.mem_cons.mp ha with rfl | ha
        · exact q _ (.head _)
        · rcases List.mem_cons.mp ha with rfl | ha
          · have := q m (.head _); omega
          · exact q a (.tail _ ha)

theorem octets_el {x : V} {xs : List V} {b : List Nat} {M : V → Prop} (h : octets? (x :: xs) = some b) (k : ∀ n r, Nat.blt n 256 = true → octets? xs = some r → b = n :: r → M (.int (.ofNat n))) : M x := by
  cases x <;> first | exact nos h | skip
  case int i => cases i with
    | negSucc n => exact nos h
    | ofNat n =>
      have h : (match Nat.blt n 256 with | true => (match octets? xs with | some r => some (n :: r) | none => none) | false => none) = some b := h
      set_option smartUnfolding false in exact elT h fun h1 h => elS h fun r h2 h => k n r h1 h2 (Option.some.inj h).symm
theorem octs_are {bad : Addr → Prop} {θ : Th} {h : Heap} {xs : List V} {vs : List Value} {b : List Nat} (r : VRs bad θ h xs vs) (e : octets? xs = some b) : ∃ is : List Int, IntsAre vs is ∧ (∀ n ∈ is, 0 ≤ n ∧ n < 256) ∧ (byteArr is).toList.map UInt8.toNat = b :=
  VRs.ind (Q := fun xs vs => ∀ b, octets? xs = some b → ∃ is : List Int, IntsAre vs is ∧ (∀ n ∈ is, 0 ≤ n ∧ n < 256) ∧ (byteArr is).toList.map UInt8.toNat = b) (fun b e => Option.some.inj e ▸ ⟨[], .nil, fun _ h => (nomatch h), rfl⟩)
    (fun x v xs vs h1 h2 ih b e => octets_el (M := fun x => VR bad θ h x v → ∃ is : List Int, IntsAre (v :: vs) is ∧ (∀ n ∈ is, 0 ≤ n ∧ n < 256) ∧ (byteArr is).toList.map UInt8.toNat = b) e (fun k r hk e2 e0 h1 => by
      subst e0
      obtain ⟨t, rfl⟩ := h1.inv
      have hk' : k < 256 := Nat.le_of_ble_eq_true hk
      obtain ⟨is, p, q, z⟩ := ih r e2
      refine ⟨Int.ofNat k :: is, .cons _ _ p, List.forall_mem_cons.mpr ⟨⟨Int.natCast_nonneg k, Int.ofNat_lt.mpr hk'⟩, q⟩, ?_⟩
      simp only [byteArr, List.map_cons] at z ⊢
      simp only [List.map_cons, z, List.cons.injEq, and_true]
      show (k.toUInt8).toNat = k
      simp [Nat.toUInt8]; omega) h1) r b e

noncomputable def primVal : Prim → Value
  | .len => .builtin "len" | .ord => .builtin "ord" | .min => .builtin "min" | .max => .builtin "max" | .sum => .builtin "sum" | .sorted => .builtin "sorted"
  | .bytes => .type "bytes" | .bytearray => .type "bytearray"

section
variable {C : Cfg} {A : Around} {bad : Addr → Prop} {a : Act} {θ : Th} {s : Shared} {σ : St}

noncomputable abbrev PostO (bad : Addr → Prop) (σ : St) (v : V) (objs : List O) : Th → St → Shared → Value → Prop := fun θ' σ' s' w => σ' = ⟨σ.loc, objs⟩ ∧ VR bad θ' s'.heap v w

theorem at_int2 (I : Inv C bad θ a σ s) {t : Sem Value} {k : Int} (h : ∀ E Q, Q (.int k (s.toks + 1)) { s with toks := s.toks + 1 + 1 } → wpAny (model C.prog C.w) A t Q E s) : At C A bad a θ s t (Post bad σ (.int k)) :=
  At.grow I fun E Q hQ => h E Q (hQ _ _ ⟨fun _ _ e _ => e, ⟨Nat.le_succ_of_le (Nat.le_succ _), Nat.le_refl _⟩, rfl, rfl, rfl⟩ ⟨rfl, .int _ _⟩)
theorem At.objs {t : Sem Value} {v : V} (h : At C A bad a θ s t (Post bad σ v)) : At C A bad a θ s t (PostO bad σ v σ.objs) := h.mono fun _ _ _ _ _ _ p => ⟨p.1, p.2⟩


theorem bigN_lt {n : Nat} (h : Nat.blt n bigN = true) : n < 65536 := Nat.le_of_ble_eq_true h

theorem len_at (I : Inv C bad θ a σ s) {v : V} {w : Value} {x : V} {objs : List O} (r : VR bad θ s.heap v w) (e : prim σ.objs .len [v] = some (x, objs)) :
    At C A bad a θ s (call (.builtin "len") [w]) (PostO bad σ x objs) := by
  unfold prim at e
  dsimp only at e
  split at e
  · obtain ⟨y, t, rfl, rfl⟩ := r.inv
    first | (set_option smartUnfolding false in refine elT e ?_; clear e; intro hz e) | (set_option smartUnfolding false in refine elS e ?_; clear e; intro _ hz e)
    (first | exact nos e | cases e)
    have := bigN_lt hz
    rw [← str_len] at this ⊢
    exact (at_int2 I fun E Q q => len_str (by omega) q).objs
  · obtain ⟨b, t, rfl, rfl, ht⟩ := r.inv
    first | (set_option smartUnfolding false in refine elT e ?_; clear e; intro hz e) | (set_option smartUnfolding false in refine elS e ?_; clear e; intro _ hz e)
    (first | exact nos e | cases e)
    have := bigN_lt hz
    rw [natOfSize] at this ⊢
    exact (at_int2 I fun E Q q => len_bytes (by omega) q).objs
  · set_option smartUnfolding false in refine elS e ?_; clear e; intro xs e1 e
    first | (set_option smartUnfolding false in refine elT e ?_; clear e; intro hz e) | (set_option smartUnfolding false in refine elS e ?_; clear e; intro _ hz e)
    (first | exact nos e | cases e)
    have := bigN_lt hz
    obtain ⟨l, vs, rfl, hl, hi⟩ := itemsR I r e1
    refine (at_int2 I fun E Q q => call_len_list hl (by rw [List.size_toArray, hi.length]; omega) ?_).objs
    rw [List.size_toArray, hi.length]; exact q

theorem ord_at (I : Inv C bad θ a σ s) {v : V} {w : Value} {x : V} {objs : List O} (r : VR bad θ s.heap v w) (e : prim σ.objs .ord [v] = some (x, objs)) :
    At C A bad a θ s (call (.builtin "ord") [w]) (PostO bad σ x objs) := by
  unfold prim at e
  dsimp only at e
  split at e
  · rename_i c
    (first | exact nos e | cases e)
    obtain ⟨y, t, hv', rfl⟩ := r.inv
    ·
      have hy : y = ⟨#[c]⟩ := by
        obtain ⟨z⟩ := y
        have : z = #[c] := by apply Array.ext'; exact hv'.symm
        rw [this]
      subst hy
      exact (at_int I fun E Q q => ord_of_one (by rfl) q).objs
  · (first | exact nos e | cases e)

theorem min_at (hh : A.handled = none) (I : Inv C bad θ a σ s) {v : V} {w : Value} {x : V} {objs : List O} (r : VR bad θ s.heap v w) (e : prim σ.objs .min [v] = some (x, objs)) :
    At C A bad a θ s (call (.builtin "min") [w]) (PostO bad σ x objs) := by
  unfold prim at e
  dsimp only at e
  set_option smartUnfolding false in refine elS e ?_; clear e; intro xs e1 e
  first | (set_option smartUnfolding false in refine elP e ?_; clear e; intro i is e2 e) | (set_option smartUnfolding false in refine elC e ?_; clear e; intro i is e2 e)
  (first | exact nos e | cases e)
  obtain ⟨l, vs, rfl, hl, hi⟩ := itemsR I r e1
  obtain ⟨hI, _⟩ := ints_are hi e2
  obtain ⟨m, F, N, back⟩ := I.fr
  refine At.any fun E Q hQ => wpAny_gr (min_list_N hh F N hl hI (by simp) fun h' M t tk F' N' hm hle g => ?_)
  obtain ⟨I', st⟩ := back h' tk _ F' N' (fun p hp => hp) g
  obtain ⟨p, q⟩ := minInts_spec is i
  have : M = minInts i is := Int.le_antisymm (hle _ p) (q _ hm)
  exact hQ _ _ _ _ st I' ⟨rfl, this ▸ .int _ _⟩
theorem max_at (hh : A.handled = none) (I : Inv C bad θ a σ s) {v : V} {w : Value} {x : V} {objs : List O} (r : VR bad θ s.heap v w) (e : prim σ.objs .max [v] = some (x, objs)) :
    At C A bad a θ s (call (.builtin "max") [w]) (PostO bad σ x objs) := by
  unfold prim at e
  dsimp only at e
  set_option smartUnfolding false in refine elS e ?_; clear e; intro xs e1 e
  first | (set_option smartUnfolding false in refine elP e ?_; clear e; intro i is e2 e) | (set_option smartUnfolding false in refine elC e ?_; clear e; intro i is e2 e)
  (first | exact nos e | cases e)
  obtain ⟨l, vs, rfl, hl, hi⟩ := itemsR I r e1
  obtain ⟨hI, _⟩ := ints_are hi e2
  obtain ⟨m, F, N, back⟩ := I.fr
  refine At.any fun E Q hQ => wpAny_gr (max_list_N hh F N hl hI (by simp) fun h' M t tk F' N' hm hle g => ?_)
  obtain ⟨I', st⟩ := back h' tk _ F' N' (fun p hp => hp) g
  obtain ⟨p, q⟩ := maxInts_spec is i
  have : M = maxInts i is := Int.le_antisymm (q _ hm) (hle _ p)
  exact hQ _ _ _ _ st I' ⟨rfl, this ▸ .int _ _⟩

theorem sum_at (hh : A.handled = none) (I : Inv C bad θ a σ s) {v : V} {w : Value} {x : V} {objs : List O} (r : VR bad θ s.heap v w) (e : prim σ.objs .sum [v] = some (x, objs)) :
    At C A bad a θ s (call (.builtin "sum") [w]) (PostO bad σ x objs) := by
  unfold prim at e
  dsimp only at e
  set_option smartUnfolding false in refine elS e ?_; clear e; intro xs e1 e
  split at e
  · rename_i is e2
    first | (set_option smartUnfolding false in refine elT e ?_; clear e; intro hk e) | (set_option smartUnfolding false in refine elS e ?_; clear e; intro _ hk e)
    (first | exact nos e | cases e)
    obtain ⟨l, vs, rfl, hl, hi⟩ := itemsR I r e1
    obtain ⟨hI, _⟩ := ints_are hi e2
    obtain ⟨ys, e⟩ := hI.allInts.items
    have hns : is = ys.toList.map (·.1) := by rw [← hI.numsOf, ← nums_intItems, ← e]
    rw [e] at hl
    refine At.growG I fun E Q q => sum_intListG hh hl fun h' tk t' hk => q h' tk _ hk ⟨rfl, ?_⟩
    rw [preSum_eq, List.take_of_length_le (by simp), ← hns, ← sumInts_eq]
    exact .int _ _
  · (first | exact nos e | cases e)

theorem sorted_at (I : Inv C bad θ a σ s) {v : V} {w : Value} {x : V} {objs : List O} (r : VR bad θ s.heap v w) (e : prim σ.objs .sorted [v] = some (x, objs)) :
    At C A bad a θ s (call (.builtin "sorted") [w]) (PostO bad σ x objs) := by
  unfold prim at e
  dsimp only at e
  set_option smartUnfolding false in refine elS e ?_; clear e; intro xs e1 e
  split at e
  · rename_i is e2
    first | (set_option smartUnfolding false in refine elT e ?_; clear e; intro hk e) | (set_option smartUnfolding false in refine elS e ?_; clear e; intro _ hk e)
    (first | exact nos e | cases e)
    obtain ⟨l, vs, rfl, hl, hi⟩ := itemsR I r e1
    obtain ⟨hI, _⟩ := ints_are hi e2
    obtain ⟨m, F, N, back⟩ := I.fr
    have hlt : is.length < 64 := Nat.le_of_ble_eq_true hk
    refine At.any fun E Q hQ => wpAny_gr (sorted_N F N hl hI (by rw [hI.length]; exact hlt) fun h' vs' ns' e F' N' hI' hp hs g => ?_)
    obtain ⟨I', st⟩ := back h' _ _ F' N' (fun p hp => .tail _ hp) g
    have f := I.freshOut (Nat.le_succ s.heap.objs.size)
    have hL : h'.IsList (s.heap.objs.size + 1) vs'.toArray := ⟨_, (N' _ (.head _)).1, rfl, e, rfl⟩
    refine hQ _ _ _ _ st I' ⟨rfl, .list f.1 f.2 hL ?_⟩
    rw [← sorted_unique hp hs]
    exact vints_vr hI'
  · (first | exact nos e | cases e)

theorem addl_at (I : Inv C bad θ a σ s) {va vb : V} {wa wb : Value} {xs ys : List V} (ra : VR bad θ s.heap va wa) (rb : VR bad θ s.heap vb wb)
    (ea : itemsOf σ.objs va = some xs) (eb : itemsOf σ.objs vb = some ys) (hz : Nat.blt (xs.length + ys.length) bigN = true) (mu : Bool) :
    At C A bad a θ s (binaryOp .Add wa wb) (match mu with
      | true => (fun θ' σ' s' w => σ' = ⟨σ.loc, σ.objs ++ [.list (xs ++ ys)]⟩ ∧ VR bad θ' s'.heap (.ref σ.objs.length) w)
      | false => Post bad σ (.list (xs ++ ys))) := by
  obtain ⟨l1, vs, rfl, hl, hi⟩ := itemsR I ra ea
  obtain ⟨l2, ws, rfl, hl2, hi2⟩ := itemsR I rb eb
  have hz' := bigN_lt hz
  have := line_eq
  obtain ⟨⟨cls, dd, data, sl⟩, ho, hc, n, hd⟩ := id hl
  obtain ⟨⟨cls2, dd2, data2, sl2⟩, ho2, hc2, n2, hd2⟩ := id hl2
  simp only at hc hd hc2 hd2
  subst hc hd hc2 hd2
  have ee : vs.toArray ++ ws.toArray = (vs ++ ws).toArray := by simp
  refine At.any ?_
  intro E Q hQ
  refine concat_meets ⟨_, ho, rfl⟩ ⟨_, ho2, rfl⟩ noFill_list_add seq_list_add PySem.F.slot_list_add PySem.F.entry_list_add (PySem.F.args_list_add_2 _ _) (list_addW l1 l2 vs.toArray ws.toArray n n2 dd dd2 sl sl2 (by rw [List.size_toArray, List.size_toArray, hi.length, hi2.length]; omega)) ⟨ho, ho2, ?_⟩
  rw [ee]
  have r := hi.append hi2
  revert hQ
  generalize vs ++ ws = us at r ⊢
  intro hQ
  have g : Grow s { s with heap := s.heap.push { cls := .type "list", data := .seq us.toArray } } := Chg.push
  cases mu with
  | false =>
    have f := I.freshOut (Nat.le_refl s.heap.objs.size)
    exact hQ θ σ _ _ (Step.of_grow g) (I.grow g) ⟨rfl, .list f.1 f.2 ⟨_, Heap.get?_push_size _ rfl, rfl, 0, rfl⟩ (I.mvs (Step.of_grow (a := a) g) r)⟩
  | true =>
    have st : Step θ a s.heap (θ.add s.heap.objs.size) (s.heap.push { cls := .type "list", data := .seq us.toArray }) := ⟨⟨[_], rfl, fun z hz => by simp at hz; exact Nat.le_of_eq hz.symm⟩, fun _ _ q => q, fun b o e _ => g.keep b o e id, g.gr.2⟩
    obtain ⟨I', st'⟩ := I.join g (b := s.heap.objs.size) (o := .list (xs ++ ys)) (Nat.le_refl _) ⟨us, 0, Heap.get?_push_size _ rfl, I.mvs st r⟩
    exact hQ _ _ _ _ st' I' ⟨rfl, .ref (by rw [I.len.symm]; simp)⟩
end
end Mine
end
section
namespace Mine
open PySem PySem.W PyProof.Rows PySem.Calls
namespace BA
theorem mro : mroOf (.type "bytearray") = pure [.type "bytearray", .type "object"] := by rw [mroOf_type]; kernel_rfl
theorem lookup_new : typeLookup (.type "bytearray") "__new__" = pure (some (.builtin "bytearray.__new__")) := by rw [typeLookup_type, builtinLookup_eq_fast]; kernel_rfl
theorem slot_init : Slot "bytearray" "__init__" "bytearray.__init__" :=
  .of (owner := "bytearray") (n := "__init__") (by rw [typeLookup_type, builtinLookup_eq_fast]; kernel_rfl) (by decide +kernel) (by decide +kernel) (by decide +kernel)
    (by first | exact .inl (by decide +kernel) | exact .inr (by decide +kernel)) (by rw [isSubtype_type]; kernel_rfl)
theorem slot_setitem : Slot "bytearray" "__setitem__" "bytearray.__setitem__" :=
  .of (owner := "bytearray") (n := "__setitem__") (by rw [typeLookup_type, builtinLookup_eq_fast]; kernel_rfl) (by decide +kernel) (by decide +kernel) (by decide +kernel)
    (by first | exact .inl (by decide +kernel) | exact .inr (by decide +kernel)) (by rw [isSubtype_type]; kernel_rfl)
theorem called : TypeCalled "bytearray" "bytearray.__new__" "bytearray.__init__" :=
  ⟨by decide +kernel, by decide +kernel, ⟨_, _, mro⟩, madeBy_type mro lookup_new (by decide +kernel), by decide +kernel, by rw [isSubtype_type]; kernel_rfl, slot_init⟩
theorem typeCall (a : Value) : checkTypeCall "bytearray" ⟨[a], []⟩ = pure () := by kernel_rfl
theorem newCall (a : Value) : checkBuiltinCall "bytearray.__new__" ⟨[.type "bytearray", a], []⟩ = pure () := by kernel_rfl
theorem entry_new : entryFor table "bytearray.__new__" = some Builtin.«list.__new__» := entryFor_alias (id' := "list.__new__") (by rw [fastTable_eq_tree]; kernel_rfl) (by decide +kernel) (by decide +kernel) (by rw [fastTable_eq_tree]; kernel_rfl)
theorem entry_init : entryFor table "bytearray.__init__" = some Builtin.«bytearray.__init__» := by first | exact entryFor_of_tree (by kernel_rfl) | exact entryFor_of_fast (by kernel_rfl)
theorem entry_setitem : entryFor table "bytearray.__setitem__" = some Builtin.«bytearray.__setitem__» := by first | exact entryFor_of_tree (by kernel_rfl) | exact entryFor_of_fast (by kernel_rfl)
theorem plain_new : plainId "bytearray.__new__" = true := by decide +kernel
theorem sub_self : isSubtype (.type "bytearray") (.type "bytearray") = pure true := by rw [isSubtype_type]; kernel_rfl
theorem bind_init (v : Value) : Builtin.Bytes.bindOptional "bytearray.__init__" "bytearray" ["source", "encoding", "errors"] [v] [] = pure [some v, none, none] := by kernel_rfl
theorem noBytes : typeLookup (.type "bytearray") "__bytes__" = pure none := by rw [typeLookup_type, builtinLookup_eq_fast]; kernel_rfl
theorem noIndex : typeLookup (.type "bytearray") "__index__" = pure none := by rw [typeLookup_type, builtinLookup_eq_fast]; kernel_rfl
theorem buffer : typeLookup (.type "bytearray") "__buffer__" = pure (some (.builtin "bytearray.__buffer__")) := by rw [typeLookup_type, builtinLookup_eq_fast]; kernel_rfl
theorem release : typeLookup (.type "bytearray") "__release_buffer__" = pure (some (.builtin "bytearray.__release_buffer__")) := by rw [typeLookup_type, builtinLookup_eq_fast]; kernel_rfl
theorem owner_ba : Manifest.owners.lookup (String.ofList (['y', 'a', 'r', 'r', 'a', 'e', 't', 'y', 'b'] : List Char).reverse) = some Manifest.sig_bytearray := by kernel_rfl
theorem args_init (a b : Value) : argsOk "bytearray.__init__" ⟨[a, b], []⟩ := by
  unfold argsOk; rw [signature?_of (id := "bytearray.__init__") (n := ['_', '_', 't', 'i', 'n', 'i', '_', '_']) (o := ['y', 'a', 'r', 'r', 'a', 'e', 't', 'y', 'b']) (by kernel_rfl) owner_ba]; kernel_rfl
theorem release_end : ("bytearray.__release_buffer__".endsWith ("." ++ "__release_buffer__")) = true := by decide +kernel
theorem release_cut : ("bytearray.__release_buffer__".dropRight ("__release_buffer__".length + 1)) = "bytearray" := by decide +kernel
theorem int_index : ∃ v, typeLookup (.type "int") "__index__" = pure (some v) := ⟨_, F.slot_int_index.lookup⟩
end BA
set_option maxRecDepth 1000000 in
set_option maxHeartbeats 4000000 in
theorem owner_ba : ("bytearray.__new__".splitOn ".__new__").headD "" = "bytearray" := by simp +decide [String.splitOn, String.splitOnAux]

section
variable {prog : Program} {w : World} {A : Around} {E : Value → Shared → Prop} {s : Shared}
theorem code_ba_new (a : Value) {Q₁ : Value → Shared → Prop}
    (h : Q₁ (.ref s.heap.objs.size) { s with heap := s.heap.push { cls := .type "bytearray", data := .bytearray #[] } }) :
    codeAny (model prog w) A (.call (.builtin "bytearray.__new__") ⟨[.type "bytearray", a], []⟩) (wants Q₁ E) s := by
  refine codeAny_of_tree ?_
  show wpAny _ A.in1 (do checkBuiltinCall "bytearray.__new__" ⟨[.type "bytearray", a], []⟩; again (.builtin "bytearray.__new__" ⟨[.type "bytearray", a], []⟩)) _ _ s
  refine wpAny_bind (wpAny_of_eq (BA.newCall a) (wpAny_pure ⟨plainId_quiet BA.plain_new _, codeAny_builtin_stack BA.entry_new rfl fun p st => ?_⟩))
  rw [Around.under_plainId BA.plain_new _]
  have hsub := BA.sub_self
  have hown := owner_ba
  obtain ⟨hp, g, d, tk, os⟩ := s
  simp only [hown]
  wp_walk
  exact h

theorem ownRelease_ba {b : Addr} {Q : Bool → Shared → Prop} (hT : s.TypeIs (.ref b) "bytearray") (h : Q false s) : wpAny (model prog w) A (Builtin.Bytes.ownRelease (.ref b)) Q E s := by
  unfold Builtin.Bytes.ownRelease Builtin.Bytes.slotIsOwn
  refine wpAny_bind (wpAny_bind (wpAny_specialOf hT BA.release ?_))
  simp only [BA.release_end, BA.release_cut]
  exact wpAny_isInstance hT BA.sub_self (wpAny_pure h)

theorem ifC_false {α : Type} {M : Model} {c : Bool} {a b : Sem α} {Q : α → Shared → Prop} (hc : c = false) (h : wpC M A b Q E s) : wpC M A (if c = true then a else b) Q E s := by
  subst hc
  exact h
theorem ifC_true {α : Type} {M : Model} {c : Bool} {a b : Sem α} {Q : α → Shared → Prop} (hc : c = true) (h : wpC M A a Q E s) : wpC M A (if c = true then a else b) Q E s := by
  subst hc
  exact h
theorem exp_none (c : Code) (p : Pos) (h1 : c.isGuard = false) (h2 : dirty c = false) (R : Value → Bool) (S : List Value → Bool) (T : Value → String → Bool) (hT : ∀ v id, Builtin.Bytes.decodersThatHold.contains id = false → T v id = false) :
    Builtin.Bytes.exported.match_1 (fun _ => Bool) (c, p) (fun v _ _ _ => R v) (fun v _ _ _ => R v) (fun _ v _ _ _ => R v) (fun v _ _ _ => R v) (fun _ _ held _ _ => S held) (fun id v _ _ _ => T v id) (fun _ => false) = false := by
  cases c <;> first | rfl | skip
  rename_i id args
  obtain ⟨as, kw⟩ := args
  have hid : guardIds.contains id = false := h1
  have hde : Builtin.Bytes.decodersThatHold.contains id = false := h2
  have e1 : id ≠ "bytearray.__contains__" := by rintro rfl; exact absurd hid (by decide)
  have e2 : id ≠ "bytearray.__mod__" := by rintro rfl; exact absurd hid (by decide)
  have e3 : id ≠ "bytearray.__rmod__" := by rintro rfl; exact absurd hid (by decide)
  have e4 : id ≠ "_struct.pack_into.held" := by rintro rfl; exact absurd hid (by decide)
  have e5 : id ≠ "bytearray.find.held" := by rintro rfl; exact absurd hid (by decide)
  delta Builtin.Bytes.exported.match_1
  dsimp only
  simp only [e1, e2, e3, e4, e5, dif_neg, not_false_eq_true]
  cases as with
  | nil => rfl
  | cons a t => exact hT a id hde
theorem exported_C {v : Value} {Q : Bool → Shared → Prop} (hg : A.guards = some []) (h : Q false s) : wpC (model prog w) A (Builtin.Bytes.exported v) Q E s := fun Γ p hΓ hC => by
  unfold Builtin.Bytes.exported
  show Q (List.any ((Γ.code, p) :: Γ.below) _) s
  have : ∀ (f : Code × Pos → Bool), (∀ c p, c.isGuard = false → dirty c = false → f (c, p) = false) → List.any ((Γ.code, p) :: Γ.below) f = false := fun f hf => by
    have hG := hΓ.2.2.2.1 [] hg
    rw [List.any_eq_false]
    intro x hx
    have hd : dirty x.1 = false := by
      rcases List.mem_cons.mp hx with rfl | hx
      · exact hC.1
      · exact hC.2 x hx
    have hgd : x.1.isGuard = false := by
      have e : guardsOf ((Γ.code, p) :: Γ.below) = [] := by rw [guardsOf_cons]; exact hG
      cases hq : x.1.isGuard with
      | false => rfl
      | true =>
        have : x.1 ∈ guardsOf ((Γ.code, p) :: Γ.below) := List.mem_filter.mpr ⟨List.mem_map_of_mem hx, hq⟩
        rw [e] at this; cases this
    rw [hf x.1 x.2 hgd hd]; exact Bool.false_ne_true
  rw [this]
  · exact h
  · intro c p h1 h2
    exact exp_none c p h1 h2 (fun u => Builtin.Bytes.sameRef u v) (fun held => held.any (Builtin.Bytes.sameRef v)) (fun u id => Builtin.Bytes.sameRef u v && Builtin.Bytes.decodersThatHold.contains id) (fun u id e => by rw [e, Bool.and_false])

theorem write_ba {b : Addr} {f : Array UInt8 → Array UInt8} {bs : Array UInt8} {Q : Unit → Shared → Prop} (hb : s.heap.get? b = some { cls := .type "bytearray", data := .bytearray bs 0 })
    (hz : (f bs).size ≤ sizeLine) (h : (s.heap.update b (Obj.mapBytearray f)).get? b = some { cls := .type "bytearray", data := .bytearray (f bs) 0 } → Q () { s with heap := s.heap.update b (Obj.mapBytearray f) }) :
    wpAny (model prog w) A (Builtin.Bytes.write (.ref b) f) Q E s := by
  show wpAny _ _ (updateBytearray b f) _ _ _
  unfold updateBytearray
  refine wpAny_bind (wpAny_load hb ?_)
  show wpAny _ _ (update b (Obj.mapBytearray f) >>= fun _ => lookBehind b) _ _ _
  refine wpAny_bind (wpAny_update hb ?_)
  have h2 : (s.heap.update b (Obj.mapBytearray f)).get? b = some { cls := .type "bytearray", data := .bytearray (f bs) 0 } := Heap.get?_update_self (Obj.mapBytearray f) hb rfl
  refine wpAny_lookBehind h2 ?_ (h h2)
  show (if (f bs).size > sizeLine then some "bytearray:memory" else none) = none
  rw [if_neg (Nat.not_lt.mpr hz)]

theorem init_ba {b : Addr} {n : Int} {t : Tok} {Q : Value → Shared → Prop} (hg : A.guards = some []) (hb : s.heap.get? b = some { cls := .type "bytearray", data := .bytearray #[] 0 }) (h0 : 0 ≤ n) (h1 : n.toNat < 65536)
    (h : ∀ h', h'.get? b = some { cls := .type "bytearray", data := .bytearray (Array.replicate n.toNat 0) 0 } → (∀ c o, c ≠ b → s.heap.get? c = some o → h'.get? c = some o) → Q .none { s with heap := h' }) :
    wpC (model prog w) A (Builtin.«bytearray.__init__» ⟨[.ref b, .int n t], []⟩) (fun fin s' => match fin with | .done f => wants Q E (.ok f) s' | .again _ => False) (fun e s' => wants Q E (.error e) s') s := by
  have hT : s.TypeIs (.ref b) "bytearray" := ⟨_, hb, rfl⟩
  unfold Builtin.«bytearray.__init__»
  refine wpC_bind (wpC_of (ownRelease_ba hT ?_))
  refine ifC_false rfl ?_
  refine wpC_bind (wpC_of_eq (BA.bind_init _) ?_)
  refine wpC_bind (wpC_of_eq (a := ()) rfl ?_)
  refine wpC_bind (wpC_of_eq (a := ()) rfl ?_)
  refine wpC_bind (wpC_bind (exported_C hg ?_))
  show wpC _ _ (Builtin.Bytes.exportsOf (Value.ref b) >>= fun n => pure (decide (n > 0))) _ _ _
  refine wpC_bind (wpC_of (wpAny_bind (wpAny_load hb (wpAny_pure ?_))))
  refine wpC_pure ?_
  refine ifC_false (by decide) ?_
  refine wpC_of ?_
  refine wpAny_bind (write_ba (f := fun _ => #[]) hb (Nat.zero_le _) fun hb1 => ?_)
  refine wpAny_bind (wpAny_of_eq (rfl : asStr? (Value.int n t) = pure none) ?_)
  refine bm_if_false rfl ?_
  refine wpAny_bind (wpAny_of_eq (rfl : _ = pure ()) ?_)
  refine wpAny_bind (wpAny_specialOf (T := "int") rfl F.slot_int_index.lookup ?_)
  refine bm_if_true rfl ?_
  refine wpAny_bind (wpAny_attempt (wpAny_of_eq (rfl : asIndex (.int n t) = pure n) ?_))
  refine bm_if_false (by simp [Builtin.Bytes.fitsIndex]; omega) ?_
  refine wpAny_ite ?_
  rw [if_neg (by omega)]
  refine bm_if_false (by simp; omega) ?_
  refine bm_if_false (by simp [Builtin.Bytes.tooLong, sizeLine_eq]; omega) ?_
  refine wpAny_bind (wpAny_rule ?_)
  by_cases hn : n > 0
  · refine wpAny_ite ?_
    rw [if_pos hn]
    refine wpAny_bind (write_ba (f := fun _ => Array.replicate n.toNat 0) hb1 (by rw [Array.size_replicate, sizeLine_eq]; omega) fun hb2 => ?_)
    refine wpAny_bind (wpAny_pure (wpAny_pure ?_))
    exact h _ hb2 fun c o hc e => (Heap.get?_update_other _ _ (Ne.symm hc)).trans ((Heap.get?_update_other _ _ (Ne.symm hc)).trans e)
  · refine wpAny_ite ?_
    rw [if_neg hn]
    refine wpAny_bind (wpAny_pure (wpAny_pure ?_))
    have : n.toNat = 0 := by omega
    rw [this] at h
    exact h _ hb1 fun c o hc e => (Heap.get?_update_other _ _ (Ne.symm hc)).trans e

theorem codeC_builtin {id : String} {args : Args} {b : Builtin} {R : Result → Shared → Prop} (hd : Builtin.Bytes.decodersThatHold.contains id = false) (hb : entryFor table id = some b)
    (h : wpC (model prog w) (A.under (.builtin id args)) (b args)
      (fun fin s' => match fin with | .done f => R (.ok f) s' | .again c' => c'.quiet = true ∧ codeC (model prog w) A c' R s') (fun e s' => R (.error e) s') s) :
    codeC (model prog w) A (.builtin id args) R s := by
  refine codeC_of_tree (c := .builtin id args) hd ?_
  show wpC _ _ (match entryFor table id with | some b => b args | none => unsupported ((withoutEnding? id "#data").getD id)) _ _ s
  rw [hb]; exact h

theorem callType_ba {n : Int} {t : Tok} {Q : Value → Shared → Prop} (hg : A.guards = some []) (h0 : 0 ≤ n) (h1 : n.toNat < 65536)
    (h : ∀ h', h'.get? s.heap.objs.size = some { cls := .type "bytearray", data := .bytearray (Array.replicate n.toNat 0) 0 } → (∀ c o, s.heap.get? c = some o → h'.get? c = some o) → Q (.ref s.heap.objs.size) { s with heap := h' }) :
    wpC (model prog w) A (call (.type "bytearray") [.int n t]) Q E s := by
  have ft := BA.called
  obtain ⟨c, tl, hmro⟩ := ft.mro
  refine wpC_call (codeC_of_tree rfl ?_)
  show wpC _ _ (callAny (.type "bytearray") _) _ _ _
  refine wpC_pure ⟨Code.quiet_builtin _ (by decide +kernel), codeC_builtin (by decide +kernel) F.entry_type_call ?_⟩
  rw [Around.under_plain (weight_type_call_type "bytearray" [.int n t] []) rfl]
  unfold Builtin.«type.__call__»
  refine ifC_false (by decide) ?_
  refine ifC_false ft.canCreate ?_
  refine wpC_bind (wpC_of_eq (BA.typeCall _) ?_)
  refine wpC_bind (wpC_of_eq hmro ?_)
  refine ifC_false rfl ?_
  refine wpC_bind (wpC_of_eq ft.made ?_)
  refine wpC_bind (wpC_pure ?_)
  refine wpC_bind (wpC_holding (wpC_of (wpAny_call (codeAny_mono (code_ba_new (E := fun _ _ => False) (Q₁ := fun v s' => v = .ref s.heap.objs.size ∧ s' = { s with heap := s.heap.push { cls := .type "bytearray", data := .bytearray #[] } }) (.int n t) ⟨rfl, rfl⟩) fun r s1 hr => ?_))))
  cases r with
  | error e => exact hr.elim
  | ok fl =>
    cases fl with
    | ret v =>
      obtain ⟨rfl, rfl⟩ := hr
      have hb : (s.heap.push { cls := .type "bytearray", data := .bytearray #[] }).get? s.heap.objs.size = some { cls := .type "bytearray", data := .bytearray #[] 0 } := Heap.get?_push_size _ rfl
      have hT : Shared.TypeIs { s with heap := s.heap.push { cls := .type "bytearray", data := .bytearray #[] } } (.ref s.heap.objs.size) "bytearray" := ⟨_, hb, rfl⟩
      refine wpC_bind (wpC_of (wpAny_isInstance hT BA.sub_self ?_))
      refine ifC_false rfl ?_
      refine wpC_bind (wpC_holding ?_)
      unfold callSpecial?
      refine wpC_bind (wpC_of (wpAny_specialOf hT BA.slot_init.lookup ?_))
      refine wpC_holding ?_
      refine wpC_bind (wpC_of_eq (BA.slot_init.bind _) ?_)
      refine wpC_bind (wpC_call (codeC_of_tree rfl ?_))
      show wpC _ A.in1.in1 (do checkBuiltinCall "bytearray.__init__" ⟨[.ref s.heap.objs.size, .int n t], []⟩; again (.builtin "bytearray.__init__" ⟨[.ref s.heap.objs.size, .int n t], []⟩)) _ _ _
      refine wpC_bind (wpC_of (BA.slot_init.check _ _ _ _ _ _ _ _ hT (BA.args_init _ _) ?_))
      refine wpC_pure ⟨plainId_quiet BA.slot_init.plain _, codeC_builtin (by decide +kernel) BA.entry_init ?_⟩
      rw [Around.under_plainId BA.slot_init.plain _]
      refine wpC_mono (init_ba (E := fun _ _ => False) (Q := fun v s' => v = .none ∧ Q (.ref s.heap.objs.size) s') hg hb h0 h1 fun h' e1 e2 => ⟨rfl, h h' e1 fun c o e => e2 c o (Nat.ne_of_lt (Heap.lt_size e)) (Heap.get?_push_of_some _ e)⟩) (fun fin s' hf => ?_) fun e s' he => he.elim
      cases fin with
      | again c => exact hf.elim
      | done fl =>
        cases fl with
        | ret v =>
          obtain ⟨rfl, hq⟩ := hf
          exact wpC_pure (ifC_false rfl (wpC_pure hq))
        | _ => exact hf.elim
    | _ => exact hr.elim
end
end Mine
end
section
namespace Mine
open PySem PySem.W PyProof.Rows PySem.Calls
namespace BA
theorem args_setitem (a b c : Value) : argsOk "bytearray.__setitem__" ⟨[a, b, c], []⟩ := by
  unfold argsOk; rw [signature?_of (id := "bytearray.__setitem__") (n := ['_', '_', 'm', 'e', 't', 'i', 't', 'e', 's', '_', '_']) (o := ['y', 'a', 'r', 'r', 'a', 'e', 't', 'y', 'b']) (by kernel_rfl) owner_ba]; kernel_rfl
theorem buffer_end : ("bytearray.__buffer__".endsWith ("." ++ "__buffer__")) = true := by decide +kernel
theorem buffer_cut : ("bytearray.__buffer__".dropRight ("__buffer__".length + 1)) = "bytearray" := by decide +kernel
end BA
section
variable {prog : Program} {w : World} {A : Around} {E : Value → Shared → Prop} {s : Shared}
theorem setItem_listX {l : Addr} {vs : List Value} {n j : Nat} {k : Int} {t : Tok} {v : Value} {Q : Unit → Shared → Prop} (hl : s.heap.get? l = some (listObj vs n))
    (hk : k = Int.ofNat j) (hj : j < vs.length) (hfit : j < 65536)
    (hQ : ∀ h' n', h'.get? l = some (listObj (vs.set j v) n') → Heap.SameBut l s.heap h' → Q () { s with heap := h' }) :
    wpAny (model prog w) A (setItem (.ref l) (.int k t) v) Q E s := by
  have hL : s.heap.IsList l vs.toArray := isList_obj hl
  unfold setItem
  try with_reducible refine wpAny_holding ?_
  first | refine wpAny_bind (wpAny_pure ?_) | skip
  refine wpAny_bind (wpAny_sequenceKey hL.typeIs (by decide) ?_)
  refine wpAny_bind (wpAny_callSpecial?_slot (name := Str.ofString "__setitem__") hL.typeIs slot_list_setitem
    (wpAny_call_entry slot_list_setitem hL.typeIs entry_list_setitem ?_ (args_list_setitem _ _ _)))
  show wpAny _ _ (Builtin.List.listSubscript? (.int k t) >>= _) _ _ s
  refine wpAny_bind (wpAny_listSubscript_int (fitsIndex_of (by rw [hk]; exact Int.natCast_nonneg j) (by rw [hk]; show (j : Int) < _; omega)) ?_)
  subst hk
  have hx' : vs.toArray[j]? = some vs[j] := by simp [hj]
  show wpAny _ _ ((seqItemAt l j >>= fun r => pure (r.map (j, ·))) >>= _) _ _ s
  refine wpAny_bind (wpAny_bind (wpAny_seqItemAt hl rfl (wpAny_pure ?_)))
  rw [hx']
  show wpAny _ _ (setSeqItemAt l j v >>= _) _ _ s
  obtain ⟨n', hd'⟩ := Obj.data_mapSeq (o := listObj vs n) (xs := vs.toArray) (n := n) rfl (·.setIfInBounds j v)
  have hfin : (s.heap.update l (Obj.mapSeq (·.setIfInBounds j v))).get? l = some (listObj (vs.set j v) n') := by
    rw [Heap.get?_update_self _ hl (Obj.isFreed_of_seq hd')]
    have : Obj.mapSeq (fun x => x.setIfInBounds j v) (listObj vs n) = { cls := .type "list", data := (Obj.mapSeq (fun x => x.setIfInBounds j v) (listObj vs n)).data } := rfl
    rw [this, hd']
    simp
  refine wpAny_bind (wpAny_setSeqItemAt hl rfl ?_)
  first
    | exact wpAny_bind (wpAny_pure (wpAny_pure ⟨.none, rfl, wpAny_pure (hQ _ _ hfin (Heap.SameBut.update ..))⟩))
    | exact wpAny_pure ⟨.none, rfl, wpAny_pure (hQ _ _ hfin (Heap.SameBut.update ..))⟩

theorem setItem_ba {l : Addr} {bs : Array UInt8} {j m : Nat} {k : Int} {y : Value} {t u : Tok} {Q : Unit → Shared → Prop} (hl : s.heap.get? l = some { cls := .type "bytearray", data := .bytearray bs 0 })
    (hk : k = Int.ofNat j) (hy : y = .int (Int.ofNat m) u) (hj : j < bs.size) (hfit : bs.size < 65536) (hm : m < 256)
    (hQ : ∀ h', h'.get? l = some { cls := .type "bytearray", data := .bytearray (bs.setIfInBounds j m.toUInt8) 0 } → Heap.SameBut l s.heap h' → Q () { s with heap := h' }) :
    wpAny (model prog w) A (setItem (.ref l) (.int k t) y) Q E s := by
  have hT : s.TypeIs (.ref l) "bytearray" := ⟨_, hl, rfl⟩
  unfold setItem
  try with_reducible refine wpAny_holding ?_
  first | refine wpAny_bind (wpAny_pure ?_) | skip
  refine wpAny_bind (wpAny_sequenceKey hT (by decide) ?_)
  refine wpAny_bind (wpAny_callSpecial?_slot (name := Str.ofString "__setitem__") hT BA.slot_setitem ?_)
  refine wpAny_call_entry BA.slot_setitem hT BA.entry_setitem ?_ ?_
  rotate_left
  · exact BA.args_setitem _ _ _
  subst hk hy
  show wpAny _ _ (Builtin.Bytes.subscript? (.int (Int.ofNat j) t) >>= _) _ _ _
  generalize hjj : Int.ofNat j = jj
  unfold Builtin.Bytes.subscript?
  refine wpAny_bind (wpAny_bind (wpAny_specialOf (T := "int") rfl F.slot_int_index.lookup ?_))
  refine bm_if_false rfl ?_
  refine wpAny_bind (wpAny_of_eq (rfl : asIndex (.int jj t) = pure jj) ?_)
  refine bm_if_false (by rw [← hjj]; simp [Builtin.Bytes.fitsIndex]; omega) ?_
  refine wpAny_pure ?_
  subst hjj
  show wpAny _ _ (Builtin.Bytes.byteValue (.int (Int.ofNat m) u) >>= _) _ _ _
  unfold Builtin.Bytes.byteValue
  refine wpAny_bind (wpAny_bind (wpAny_of_eq (rfl : asIndex (.int (Int.ofNat m) u) = pure (Int.ofNat m)) ?_))
  refine bm_if_false (by simp; omega) ?_
  refine wpAny_pure ?_
  unfold Builtin.Bytes.payload Builtin.Bytes.payload?
  refine wpAny_bind (wpAny_bind (wpAny_bind (wpAny_load hl (wpAny_pure (wpAny_pure ?_)))))
  have hp : seqIndex? (Int.ofNat j) bs.size = some j := (place_some (n := bs.size) (k := .ofNat j) (j := j) (by show (match Nat.blt j bs.size with | true => some j | false => none) = some j; rw [show Nat.blt j bs.size = true by simp [hj]])).1
  rw [hp]
  refine wpAny_bind (write_ba hl (by rw [Array.size_setIfInBounds, sizeLine_eq]; omega) fun hb2 => ?_)
  exact wpAny_pure ⟨.none, rfl, wpAny_pure (hQ _ hb2 (Heap.SameBut.update ..))⟩

theorem buffer_ba {b : Addr} {bs : Array UInt8} {Q : Option (Array UInt8) → Shared → Prop} (hb : s.heap.get? b = some { cls := .type "bytearray", data := .bytearray bs 0 }) (h : Q (some bs) s) :
    wpAny (model prog w) A (Builtin.Bytes.buffer? "bytes.__new__" (.ref b) true) Q E s := by
  have hT : s.TypeIs (.ref b) "bytearray" := ⟨_, hb, rfl⟩
  unfold Builtin.Bytes.buffer?
  refine wpAny_bind (wpAny_specialOf hT BA.buffer ?_)
  dsimp only
  have own : ∀ {Q : Bool → Shared → Prop}, Q true s → wpAny (model prog w) A (Builtin.Bytes.slotIsOwn (.ref b) "__buffer__") Q E s := fun {Q} q => by
    unfold Builtin.Bytes.slotIsOwn
    refine wpAny_bind (wpAny_specialOf hT BA.buffer ?_)
    simp only [BA.buffer_end, BA.buffer_cut]
    exact wpAny_isInstance hT BA.sub_self q
  refine wpAny_bind (own ?_)
  refine bm_if_false rfl ?_
  refine wpAny_bind (wpAny_specialOf hT BA.buffer ?_)
  refine wpAny_bind (ownRelease_ba hT ?_)
  refine bm_if_false rfl ?_
  unfold Builtin.Bytes.payload Builtin.Bytes.payload?
  refine wpAny_bind (wpAny_bind (wpAny_bind (wpAny_load hb (wpAny_pure (wpAny_pure (wpAny_pure ?_))))))
  exact h

theorem bytes_new_ba {b : Addr} {bs : Array UInt8} {Q : Value → Shared → Prop} (hb : s.heap.get? b = some { cls := .type "bytearray", data := .bytearray bs 0 }) (hz : bs.size ≤ sizeLine)
    (hQ : Q (.bytes bs s.toks) { s with toks := s.toks + 1 }) :
    codeAny (model prog w) A (.call (.builtin "bytes.__new__") ⟨[.type "bytes", .ref b], []⟩) (wants Q E) s := by
  have hT : s.TypeIs (.ref b) "bytearray" := ⟨_, hb, rfl⟩
  refine codeAny_of_tree ?_
  show wpAny _ A.in1 (do checkBuiltinCall "bytes.__new__" ⟨[.type "bytes", .ref b], []⟩; again (.builtin "bytes.__new__" ⟨[.type "bytes", .ref b], []⟩)) _ _ s
  refine wpAny_bind (wpAny_of_eq (F.bm_newCall _) (wpAny_pure ⟨plainId_quiet F.bm_plain _, codeAny_builtin F.bm_entry ?_⟩))
  rw [Around.under_plainId F.bm_plain _]
  unfold Builtin.«bytes.__new__»
  refine wpAny_bind (wpAny_of_eq (a := true) rfl ?_)
  refine bm_if_false rfl ?_
  refine wpAny_bind (wpAny_of_eq F.bm_sub ?_)
  refine bm_if_false rfl ?_
  refine wpAny_bind (wpAny_of_eq (F.bm_bind _) ?_)
  refine wpAny_bind (wpAny_of_eq (a := ()) rfl ?_)
  refine wpAny_bind (wpAny_of_eq (a := ()) rfl ?_)
  refine bm_if_false rfl ?_
  refine wpAny_bind (wpAny_specialOf hT BA.noBytes ?_)
  refine wpAny_bind (wpAny_bind ?_)
  show wpAny _ _ (load b >>= _) _ _ _
  refine wpAny_bind (wpAny_load hb ?_)
  refine wpAny_pure (wpAny_pure ?_)
  refine bm_if_false rfl ?_
  refine wpAny_bind (wpAny_specialOf hT BA.noIndex ?_)
  refine bm_if_true rfl ?_
  first
    | show wpAny _ _ (Builtin.Bytes.buffer? "bytes.__new__" (.ref b) true >>= _) _ _ _
    | (refine wpAny_bind ?_; show wpAny _ _ (Builtin.Bytes.buffer? "bytes.__new__" (.ref b) true >>= _) _ _ _)
  refine wpAny_bind (buffer_ba hb ?_)
  refine wpAny_bind (wpAny_rule ?_)
  refine wpAny_bind (wpAny_mkBytes ?_ hz)
  show wpAny _ _ (if (Value.type "bytes" == Value.type "bytes") = true then _ else _) _ _ _
  refine bm_if_true (by decide) ?_
  first
    | exact wpAny_pure hQ
    | exact wpAny_bind (wpAny_pure (wpAny_pure hQ))

theorem call_bytes_ba {b : Addr} {bs : Array UInt8} {Q : Value → Shared → Prop} (hb : s.heap.get? b = some { cls := .type "bytearray", data := .bytearray bs 0 }) (hz : bs.size ≤ sizeLine)
    (hQ : Q (.bytes bs s.toks) { s with toks := s.toks + 1 }) : wpAny (model prog w) A (call (.type "bytes") [.ref b]) Q E s := by
  refine callType_codes (Q₁ := fun obj s₁ => s₁.TypeIs obj "bytes" ∧ Q obj s₁) F.bm_called (F.bm_typeCall _) F.entry_object_init
    (bytes_new_ba hb hz ⟨PySem.W.typeIs_bytes _ _ _, hQ⟩) fun obj s₁ h₁ => ?_
  exact ⟨h₁.1, F.args_object_init_2 obj _, object_init_meets F.bm_called.init.lookup F.bm_called.made (by decide) prog w A.in1 _ s₁ ⟨h₁.1, rfl, h₁.2⟩⟩
end

section
variable {C : Cfg} {A : Around} {bad : Addr → Prop} {a : Act} {θ : Th} {s : Shared} {σ : St}

/-- a new token stands for its bytes -/
theorem Inv.mint (I : Inv C bad θ a σ s) (bs : Array UInt8) : Inv C bad ⟨θ.as, fun t b => θ.G t b ∨ (t = s.toks ∧ b = bs)⟩ a σ { s with toks := s.toks + 1 } ∧
    Step θ a s.heap ⟨θ.as, fun t b => θ.G t b ∨ (t = s.toks ∧ b = bs)⟩ s.heap := by
  have st : Step θ a s.heap ⟨θ.as, fun t b => θ.G t b ∨ (t = s.toks ∧ b = bs)⟩ s.heap := ⟨⟨[], by simp, by simp⟩, fun _ _ q => .inl q, fun _ _ e _ => e, Nat.le_refl _⟩
  refine ⟨⟨I.pres, I.nodup, I.new, I.badLive, I.badOut, I.len, fun k x o e1 e2 => OR.mv I st (fun _ e => e) (I.objs k x o e1 e2), ?_, I.llen, I.keys, I.gens, I.drawn, I.os, Nat.succ_pos _, fun t b q => ?_, fun t b c q r => ?_⟩, st⟩
  · obtain ⟨m, hn, hm⟩ := I.loc
    refine ⟨m, hn, fun i l v e1 e2 => ?_⟩
    have z := hm i l v e1 e2
    cases l with
    | dict y => exact I.mvo st z
    | cell c => obtain ⟨v', q, z⟩ := z; exact ⟨v', q, I.mvo st z⟩
    | ro c => obtain ⟨v', q, z⟩ := z; exact ⟨v', q, I.mvo st z⟩
  · show t < s.toks + 1
    rcases q with q | q
    · exact Nat.lt_succ_of_lt (I.gtok t b q)
    · rw [q.1]; exact Nat.lt_succ_self _
  · rcases q with q | q <;> rcases r with r | r
    · exact I.gfun t b c q r
    · exact absurd (I.gtok t b q) (by rw [r.1]; exact Nat.lt_irrefl _)
    · exact absurd (I.gtok t c r) (by rw [q.1]; exact Nat.lt_irrefl _)
    · rw [q.2, r.2]

theorem bytes_at (hh : A.handled = none) (I : Inv C bad θ a σ s) {v : V} {w : Value} {x : V} {objs : List O} (r : VR bad θ s.heap v w) (e : prim σ.objs .bytes [v] = some (x, objs)) :
    At C A bad a θ s (call (.type "bytes") [w]) (PostO bad σ x objs) := by
  have hl := line_eq
  unfold prim at e
  dsimp only at e
  split at e
  · rename_i k
    obtain ⟨_, rfl, hk⟩ := r.inv
    ·
      split at e
      · rename_i b e1
        first | (set_option smartUnfolding false in refine elT e ?_; clear e; intro hz e) | (set_option smartUnfolding false in refine elS e ?_; clear e; intro _ hz e)
        (first | exact nos e | cases e)
        obtain ⟨bs, e2, e3⟩ := I.objs _ _ _ hk e1
        subst e3
        have hz' := bigN_lt hz
        rw [natOfSize] at hz'
        obtain ⟨I', st⟩ := I.mint bs
        exact At.any fun E Q hQ => call_bytes_ba e2 (by omega) (hQ _ _ _ _ st I' ⟨rfl, .bytes true bs s.toks fun _ => ⟨I.toks, .inr ⟨rfl, rfl⟩⟩⟩)
      · (first | exact nos e | cases e)
  · rename_i xs
    obtain ⟨_, _, rfl, h1, h2, l, i⟩ := r.inv
    ·
      set_option smartUnfolding false in refine elS e ?_; clear e; intro b e1 e
      first | (set_option smartUnfolding false in refine elT e ?_; clear e; intro hz e) | (set_option smartUnfolding false in refine elS e ?_; clear e; intro _ hz e)
      (first | exact nos e | cases e)
      have hz' := bigN_lt hz
      obtain ⟨is, p, q, z⟩ := octs_are i e1
      have hn : is.length = b.length := by rw [← z]; simp [byteArr]
      refine (At.growG I fun E Q q' => call_bytes_ints l p q (by rw [p.length]; omega) hh fun h' t k hk => ?_).objs
      exact q' h' k _ hk ⟨rfl, by rw [← z]; exact .bytes false _ _ (fun q => nomatch q)⟩
  · (first | exact nos e | cases e)

theorem bytearray_at (hg : A.guards = some []) (I : Inv C bad θ a σ s) {v : V} {w : Value} {x : V} {objs : List O} (r : VR bad θ s.heap v w) (e : prim σ.objs .bytearray [v] = some (x, objs)) :
    At C A bad a θ s (call (.type "bytearray") [w]) (PostO bad σ x objs) := by
  unfold prim at e
  dsimp only at e
  split at e
  · rename_i n
    first | (set_option smartUnfolding false in refine elT e ?_; clear e; intro hz e) | (set_option smartUnfolding false in refine elS e ?_; clear e; intro _ hz e)
    (first | exact nos e | cases e)
    have hz' := bigN_lt hz
    obtain ⟨_, rfl⟩ := r.inv
    refine fun E Q hQ => wpC_gr (callType_ba hg (Int.natCast_nonneg n) hz' fun h' e1 e2 g => ?_)
    have gr : Grow s { s with heap := h' } := ⟨fun b o e _ => e2 b o e, g, rfl, rfl, rfl⟩
    obtain ⟨I', st⟩ := I.join gr (b := s.heap.objs.size) (o := .barr (List.replicate n 0)) (Nat.le_refl _) ⟨_, e1, by simp⟩
    exact hQ _ _ _ _ st I' ⟨rfl, .ref (by rw [I.len.symm]; simp)⟩
  · (first | exact nos e | cases e)

theorem prim_at (hA : A.handled = none) (hg : A.guards = some []) (I : Inv C bad θ a σ s) {p : Prim} {vs : List V} {ws : List Value} {x : V} {objs : List O} (r : VRs bad θ s.heap vs ws) (e : prim σ.objs p vs = some (x, objs)) :
    At C A bad a θ s (call (primVal p) ws) (PostO bad σ x objs) := by
  have one : ∃ v, vs = [v] := by
    unfold prim at e
    split at e
    · exact ⟨_, rfl⟩
    · (first | exact nos e | cases e)
  obtain ⟨v, rfl⟩ := one
  cases r with
  | cons h1 h2 =>
    (first | exact nos h2 | cases h2)
    cases p with
    | len => exact len_at I h1 e
    | ord => exact ord_at I h1 e
    | min => exact min_at hA I h1 e
    | max => exact max_at hA I h1 e
    | sum => exact sum_at hA I h1 e
    | sorted => exact sorted_at I h1 e
    | bytes => exact bytes_at hA I h1 e
    | bytearray => exact bytearray_at hg I h1 e
end
end Mine
end
section
namespace Mine
open PySem PySem.W PyProof.Rows PySem.Calls

theorem lfind_spec (c : Nat) : ∀ (xs : List Nat) (i : Nat), (lfind c xs i = -1 ∧ ∀ k : Nat, xs[k]? ≠ some c) ∨ ∃ k : Nat, lfind c xs i = ((i + k : Nat) : Int) ∧ xs[k]? = some c ∧ ∀ j : Nat, j < k → xs[j]? ≠ some c
  | [], i => .inl ⟨rfl, fun k => by simp⟩
  | x :: xs, i => by
    cases h : Nat.beq x c with
    | true => exact .inr ⟨0, by rw [lfind, h]; rfl, by rw [Nat.eq_of_beq_eq_true h]; rfl, fun j hj => absurd hj (Nat.not_lt_zero j)⟩
    | false =>
      have hne : x ≠ c := Nat.ne_of_beq_eq_false h
      have el : lfind c (x :: xs) i = lfind c xs (i + 1) := by rw [lfind, h]
      rw [el]
      rcases lfind_spec c xs (i + 1) with ⟨e, hk⟩ | ⟨k, e, h1, h2⟩
      · refine .inl ⟨e, fun k => ?_⟩
        cases k with
        | zero => simp [hne]
        | succ k => simpa using hk k
      · refine .inr ⟨k + 1, by rw [e]; congr 1; omega, by simpa using h1, fun j hj => ?_⟩
        cases j with
        | zero => simp [hne]
        | succ j => simpa using h2 j (by omega)

theorem find_lfind (x : Str) (c : Nat) : Txt.find x ⟨#[c]⟩ = lfind c x.cps.toList 0 := by
  have hat : ∀ k, StrLaws.At x ⟨#[c]⟩ x.length k ↔ x.cps.toList[k]? = some c := fun k => StrLaws.subAt_one x c k
  rcases find_whole x ⟨#[c]⟩ with ⟨e, h⟩ | ⟨i, e, h1, h2⟩
  · rcases lfind_spec c x.cps.toList 0 with ⟨e', h'⟩ | ⟨k, e', h1', h2'⟩
    · rw [e, e']
    · exact absurd ((hat k).mpr h1') (h k)
  · rcases lfind_spec c x.cps.toList 0 with ⟨e', h'⟩ | ⟨k, e', h1', h2'⟩
    · exact absurd ((hat i).mp h1) (h' i)
    · rw [e, e']
      have : i = k := by
        rcases Nat.lt_trichotomy i k with q | q | q
        · exact absurd ((hat i).mp h1) (h2' i q)
        · exact q
        · exact absurd ((hat k).mpr h1') (h2 k q)
      rw [this]; simp

section
variable {C : Cfg} {A : Around} {bad : Addr → Prop} {a : Act} {θ : Th} {s : Shared} {σ : St}
noncomputable abbrev PostU (σ : St) (objs : List O) : Th → St → Shared → Unit → Prop := fun _ σ' _ _ => σ' = ⟨σ.loc, objs⟩

theorem setitem_at (I : Inv C bad θ a σ s) {vo vi vx : V} {wo wi wx : Value} {objs : List O} (ro : VR bad θ s.heap vo wo) (ri : VR bad θ s.heap vi wi) (rx : VR bad θ s.heap vx wx) (e : setitem σ.objs vo vi vx = some objs) :
    At C A bad a θ s (setItem wo wi wx) (PostU σ objs) := by
  unfold setitem at e
  split at e
  · rename_i k j
    obtain ⟨l, rfl, hk⟩ := ro.inv
    ·
      generalize hi : Int.ofNat j = i at ri
      obtain ⟨t, rfl⟩ := ri.inv
      split at e
      · rename_i xs e1
        first | (set_option smartUnfolding false in refine elT e ?_; clear e; intro hz e) | (set_option smartUnfolding false in refine elS e ?_; clear e; intro _ hz e)
        (first | exact nos e | cases e)
        obtain ⟨h1, h2⟩ := Bool.and_eq_true_iff.mp hz
        have h1' : j < xs.length := Nat.le_of_ble_eq_true h1
        have h2' := bigN_lt h2
        obtain ⟨vs, n, e2, r⟩ := I.objs k l _ hk e1
        refine At.any fun E Q hQ => wpAny_gr (setItem_listX e2 hi.symm (by rw [r.length]; exact h1') (by omega) fun h' n' e3 hs g => ?_)
        have x : Chg (fun c => c = l) s { s with heap := h' } := ⟨fun b o e n => (hs.2 b n).trans e, g, rfl, rfl, rfl⟩
        obtain ⟨I', st⟩ := I.put (o := .list (xs.set j vx)) x hk (fun st => ⟨_, n', e3, (I.mvs st r).set (I.mv st rx) j⟩)
        exact hQ _ _ _ _ st I' rfl
      · rename_i b e1
        split at e
        · rename_i n
          first | (set_option smartUnfolding false in refine elT e ?_; clear e; intro hz e) | (set_option smartUnfolding false in refine elS e ?_; clear e; intro _ hz e)
          (first | exact nos e | cases e)
          obtain ⟨h12, h3⟩ := Bool.and_eq_true_iff.mp hz
          obtain ⟨h1, h2⟩ := Bool.and_eq_true_iff.mp h12
          have h1' : j < b.length := Nat.le_of_ble_eq_true h1
          have h2' : n < 256 := Nat.le_of_ble_eq_true h2
          have h3' := bigN_lt h3
          obtain ⟨bs, e2, e3⟩ := I.objs k l _ hk e1
          have hsz : bs.size = b.length := by rw [← e3]; simp
          generalize hx : Int.ofNat n = y at rx
          cases rx
          rename_i u
          refine At.any fun E Q hQ => wpAny_gr (setItem_ba (m := n) e2 hi.symm (by rw [hx]) (by omega) (by omega) h2' fun h' e4 hs g => ?_)
          have x : Chg (fun c => c = l) s { s with heap := h' } := ⟨fun b o e n => (hs.2 b n).trans e, g, rfl, rfl, rfl⟩
          obtain ⟨I', st⟩ := I.put (o := .barr (b.set j n)) x hk (fun st => ⟨_, e4, by
            rw [← e3, Array.toList_setIfInBounds, List.map_set]
            congr 1
            show (n.toUInt8).toNat = n
            simp [Nat.toUInt8]; omega⟩)
          exact hQ _ _ _ _ st I' rfl
        · (first | exact nos e | cases e)
      · (first | exact nos e | cases e)
  · (first | exact nos e | cases e)

theorem append_at (I : Inv C bad θ a σ s) {k : Nat} {xs : List V} {w wx : Value} {vx : V} (ro : VR bad θ s.heap (.ref k) w) (e1 : σ.objs[k]? = some (.list xs)) (rx : VR bad θ s.heap vx wx) (hz : Nat.blt xs.length bigN = true) :
    At C A bad a θ s (call (.builtin "list.append") [w, wx]) (PostO bad σ .none (σ.objs.set k (.list (xs ++ [vx])))) := by
  obtain ⟨l, rfl, hk⟩ := ro.inv
  ·
    have hz' := bigN_lt hz
    obtain ⟨vs, n, e2, r⟩ := I.objs k l _ hk e1
    have hL : s.heap.IsList l vs.toArray := isList_obj e2
    refine At.any fun E Q hQ => wpAny_gr ?_
    obtain ⟨n', hd'⟩ := Obj.data_mapSeq (o := listObj vs n) (xs := vs.toArray) (n := n) rfl (·.push wx)
    refine wpAny_call_entry slot_list_append hL.typeIs entry_list_append ?_ (args_list_append _ _)
    show wpAny _ _ (updateSeq l (·.push wx) >>= fun _ => ret .none) _ _ s
    refine wpAny_bind ?_
    refine wpAny_updateSeq (hz := by rw [List.size_toArray, r.length, line_eq]; omega) (_hz' := by rw [Array.size_push, List.size_toArray, r.length, line_eq]; omega) e2 rfl (wpAny_pure ⟨.none, rfl, fun g => ?_⟩)
    have hfin : (s.heap.update l (Obj.mapSeq (·.push wx))).get? l = some (listObj (vs ++ [wx]) n') := by
      rw [Heap.get?_update_self _ e2 (Obj.isFreed_of_seq hd')]
      have : Obj.mapSeq (fun x => x.push wx) (listObj vs n) = { cls := .type "list", data := (Obj.mapSeq (fun x => x.push wx) (listObj vs n)).data } := rfl
      rw [this, hd']
      simp
    have x : Chg (fun c => c = l) s { s with heap := s.heap.update l (Obj.mapSeq (·.push wx)) } := ⟨fun b o e n => ((Heap.SameBut.update ..).2 b n).trans e, g, rfl, rfl, rfl⟩
    obtain ⟨I', st⟩ := I.put (o := .list (xs ++ [vx])) x hk (fun st => ⟨_, n', hfin, (I.mvs st r).append (VRs.one (I.mv st rx))⟩)
    exact hQ _ _ _ _ st I' ⟨rfl, .none⟩

theorem insert_at (I : Inv C bad θ a σ s) {k i : Nat} {xs : List V} {w wi wx : Value} {vx : V} (ro : VR bad θ s.heap (.ref k) w) (e1 : σ.objs[k]? = some (.list xs)) (ri : VR bad θ s.heap (.int (.ofNat i)) wi) (rx : VR bad θ s.heap vx wx)
    (hi : i ≤ xs.length) (hz : Nat.blt xs.length bigN = true) :
    At C A bad a θ s (call (.builtin "list.insert") [w, wi, wx]) (PostO bad σ .none (σ.objs.set k (.list (xs.take i ++ vx :: xs.drop i)))) := by
  obtain ⟨l, rfl, hk⟩ := ro.inv
  ·
    have hz' := bigN_lt hz
    generalize hj : Int.ofNat i = j at ri
    obtain ⟨t, rfl⟩ := ri.inv
    obtain ⟨vs, n, e2, r⟩ := I.objs k l _ hk e1
    refine At.any fun E Q hQ => wpAny_gr ?_
    refine call_meets PySem.F.slot_list_insert ⟨_, e2, rfl⟩ PySem.F.entry_list_insert (PySem.F.args_list_insert_3 _ _ _) (PySem.AutoSeq1.list_insert_list_int_val_1 l vs.toArray n j t wx (by rw [← hj]; simp [Builtin.List.listFitsIndex]; omega) (by rw [List.size_toArray, r.length, line_eq]; omega)) ⟨e2, fun g => ?_⟩
    obtain ⟨n', hd'⟩ := Obj.data_mapSeq (o := listObj vs n) (xs := vs.toArray) (n := n) rfl (fun xs => have k := if j < 0 then (j + (xs.size : Int)).toNat else min j.toNat xs.size; (xs.extract 0 k).push wx ++ xs.extract k)
    have hfin : (s.heap.update l (Obj.mapSeq fun xs => have k := if j < 0 then (j + (xs.size : Int)).toNat else min j.toNat xs.size; (xs.extract 0 k).push wx ++ xs.extract k)).get? l = some (listObj (vs.take i ++ wx :: vs.drop i) n') := by
      rw [Heap.get?_update_self _ e2 (Obj.isFreed_of_seq hd')]
      have : ∀ f, Obj.mapSeq f (listObj vs n) = { cls := .type "list", data := (Obj.mapSeq f (listObj vs n)).data } := fun _ => rfl
      rw [this, hd']
      have hneg : ¬ j < 0 := by rw [← hj]; exact Int.not_lt.mpr (Int.natCast_nonneg i)
      have hmin : min j.toNat vs.toArray.size = i := by rw [← hj]; simp [r.length]; omega
      dsimp only
      rw [if_neg hneg, hmin]
      congr 3
      apply Array.ext'
      simp
      exact List.take_of_length_le (by rw [List.length_drop]; omega)
    have x : Chg (fun c => c = l) s _ := ⟨fun b o e n => ((Heap.SameBut.update ..).2 b n).trans e, g, rfl, rfl, rfl⟩
    obtain ⟨I', st⟩ := I.put (o := .list (xs.take i ++ vx :: xs.drop i)) x hk (fun st => ⟨_, n', hfin, ((I.mvs st r).take i).append (.cons (I.mv st rx) ((I.mvs st r).drop i))⟩)
    exact hQ _ _ _ _ st I' ⟨rfl, .none⟩

theorem find_at (I : Inv C bad θ a σ s) {x : List Nat} {c : Nat} {w wx : Value} (ro : VR bad θ s.heap (.str x) w) (rx : VR bad θ s.heap (.str [c]) wx) :
    At C A bad a θ s (call (.builtin "str.find") [w, wx]) (PostO bad σ (.int (lfind c x 0)) σ.objs) := by
  obtain ⟨y, t, hv', rfl⟩ := rx.inv
  ·
    obtain ⟨z, u, rfl, rfl⟩ := ro.inv
    have hy : y = ⟨#[c]⟩ := by
      obtain ⟨z⟩ := y
      have : z = #[c] := by apply Array.ext'; exact hv'.symm
      rw [this]
    subst hy
    refine (at_int I fun E Q q => SC.find ?_).objs
    rw [find_lfind]; exact q
end
end Mine
end
section
namespace Mine
open PySem PySem.W PyProof.Rows PySem.Calls

structure FnOk (C : Cfg) (F : List Fn) (fns : List Str) (K : Nat) (mg : Str → Option Value) (i : Nat) (f : Str) (fn : Fn) (a : Addr) (o : Obj) (fd : FuncData) (body : List Stmt) (params : List Str) : Prop where
  at_ : F[i]? = some fn
  glob : mg f = some (.ref a)
  get : C.h₀.get? a = some o
  data : o.data = .func fd
  co : fd.scope.isCoroutine = false
  gen : fd.scope.isGenerator = false
  kind : fd.scope.kind = .function
  stmts : fd.body = .stmts body
  code : C.h₀.CodeRec fd.code fd.qualname
  globals : fd.globals = mainGlobals
  builtins : fd.builtins = builtinsNs
  closure : fd.closure = []
  isBody : fn.body = cB (cS fns K fd.scope.names) body
  isInit : fn.init = initOf params fd.scope.names
  nparams : params.length = fn.nargs
  pnodup : params.Nodup
  pkind : ∀ p ∈ params, fd.scope.names.lookup p = some .local ∨ fd.scope.names.lookup p = some .cell
  names : (fd.scope.names.map (·.1)).Nodup
  nofree : ∀ p ∈ fd.scope.names, p.2 ≠ .free
  plain : (fd.scope.names.all fun p => !(p.1 == ("__debug__" : Str)) && !(p.1 == ("__classdict__" : Str))) = true
  dflt : fn.dflt.length ≤ fn.nargs
  bind : ∀ (vals : List Value) (s : Shared), (∀ b o, C.h₀.get? b = some o → s.heap.get? b = some o) → vals.length + fn.kwo ≤ fn.nargs → fn.nargs ≤ vals.length + fn.dflt.length →
    ∃ ds : List Value, (∀ bad θ h, VRs bad θ h (fn.dflt.drop (vals.length + fn.dflt.length - fn.nargs)) ds) ∧ BindsTo s fd ⟨vals, []⟩ (params.zip (vals ++ ds))

structure GOk (C : Cfg) (F : List Fn) (fns : List Str) (K : Nat) (mg mb : Str → Option Value) : Prop where
  gns : C.h₀.Ns mainGlobals mg
  bns : C.h₀.Ns builtinsNs mb
  lim : C.h₀.NoLimit
  fn : ∀ i f, fns[i]? = some f → ∃ fn a o fd body params, FnOk C F fns K mg i f fn a o fd body params
  prim : ∀ f p, primOf f = some p → mg f = none ∧ mb f = some (primVal p)
  range : mg "range" = none ∧ mb "range" = some (.type "range")
  enum : mg "enumerate" = none ∧ mb "enumerate" = some (.type "enumerate")
  stat : ∃ ms, C.h₀.Ns cStatics ms ∧ ms sharingNotToldKey = none
  srch : ∃ R, mg "IPV4_RE" = some (.ref R) ∧
    (∀ (A : Around) (s : Shared) (E : Value → Shared → Prop) (Q : Value × List Value → Shared → Prop) (pl : Sem Bool), (∀ b o, C.h₀.get? b = some o → s.heap.get? b = some o) → Q (.builtin "re.Pattern.search", [.ref R]) s → wpAny (model C.prog C.w) A (getMethod (.ref R) "search" pl) Q E s) ∧
    (∀ (A : Around) (s : Shared) (E : Value → Shared → Prop) (Q : Value → Shared → Prop) (x : Str) (t : Tok), A.handled = none → (∀ b o, C.h₀.get? b = some o → s.heap.get? b = some o) → noIp x.cps.toList = true → (∀ s', Grow s s' → Q .none s') →
      wpAny (model C.prog C.w) A (call (.builtin "re.Pattern.search") [.ref R, .str x t]) Q E s)

noncomputable def SlotOk (env : Env) (a : Act) (i : Nat) (x : Str) : NameKind → Prop
  | .local => env.kindOf x = some .local ∧ a.locs[i]? = some (.dict x)
  | .cell => env.kindOf x = some .cell ∧ ∃ c, env.cells.lookup x = some c ∧ a.locs[i]? = some (.cell c)
  | .free => (env.kindOf x = some .free ∨ env.kindOf x = some .cell) ∧ ∃ c, env.cells.lookup x = some c ∧ a.locs[i]? = some (.ro c)
  | k => env.kindOf x = some k ∧ a.locs[i]? = some (.dict x)

structure EnvOk (a : Act) (nm : Nm) (env : Env) : Prop where
  kind : env.scope.kind = .function
  L : env.locals = a.L
  globals : env.globals = mainGlobals
  builtins : env.builtins = builtinsNs
  slots : ∀ (i : Nat) x k, nm[i]? = some (x, k) → SlotOk env a i x k
  len : a.locs.length = nm.length
  plain : (nm.all fun p => !(p.1 == ("__debug__" : Str)) && !(p.1 == ("__classdict__" : Str))) = true

theorem slotFrom_spec {x : Str} : ∀ {nm : Nm} {j i : Nat}, slotFrom x nm j = some i → ∃ d k, i = j + d ∧ nm[d]? = some (x, k) ∧ nm.lookup x = some k ∧ (k = .local ∨ k = .cell ∨ k = .free)
  | (y, k) :: r, j, i, h => by
    unfold slotFrom at h
    by_cases e : y = x
    · rw [if_pos e] at h
      subst e
      have hk : (k = .local ∨ k = .cell ∨ k = .free) ∧ j = i := by
        cases k <;> simp_all
      exact ⟨0, k, by rw [hk.2]; rfl, rfl, by simp, hk.1⟩
    · rw [if_neg e] at h
      obtain ⟨d, k', h1, h2, h3, h4⟩ := slotFrom_spec h
      refine ⟨d + 1, k', by omega, by simpa using h2, ?_, h4⟩
      rw [List.lookup_cons, show (x == y) = false from beq_eq_false_iff_ne.mpr (Ne.symm e)]
      exact h3
theorem slotOf_spec {nm : Nm} {x : Str} {i : Nat} (h : slotOf nm x = some i) : ∃ k, nm[i]? = some (x, k) ∧ nm.lookup x = some k ∧ (k = .local ∨ k = .cell ∨ k = .free) := by
  obtain ⟨d, k, h1, h2, h3, h4⟩ := slotFrom_spec h
  obtain rfl : i = d := by omega
  exact ⟨k, h2, h3, h4⟩
theorem slotW_spec {nm : Nm} {x : Str} {i : Nat} (h : slotW nm x = some i) : ∃ k, nm[i]? = some (x, k) ∧ (k = .local ∨ k = .cell) := by
  unfold slotW at h
  split at h
  · rename_i e
    obtain ⟨k, h1, h2, _⟩ := slotOf_spec h
    rw [e] at h2; cases h2; exact ⟨_, h1, .inl rfl⟩
  · rename_i e
    obtain ⟨k, h1, h2, _⟩ := slotOf_spec h
    rw [e] at h2; cases h2; exact ⟨_, h1, .inr rfl⟩
  · (first | exact nos h | cases h)
theorem mem_of_lookup' {nm : Nm} {x : Str} {k : NameKind} (h : nm.lookup x = some k) : ∃ i : Nat, nm[i]? = some (x, k) := by
  have := mem_of_lookup h
  exact List.mem_iff_getElem?.mp this
theorem isGlob_spec {nm : Nm} {x : Str} (h : isGlob nm x = true) : ∃ i : Nat, nm[i]? = some (x, .globalImplicit) := by
  unfold isGlob at h
  split at h
  · rename_i e; exact mem_of_lookup' e
  · (first | exact nos h | cases h)

section
variable {C : Cfg} {A : Around} {bad : Addr → Prop} {a : Act} {θ : Th} {s : Shared} {σ : St} {nm : Nm} {env : Env}
theorem EnvOk.dbg (Z : EnvOk a nm env) {x : Str} {k : NameKind} {i : Nat} (h : nm[i]? = some (x, k)) : (x == ("__debug__" : Str)) = false ∧ (x == ("__classdict__" : Str)) = false := by
  have := List.all_eq_true.mp Z.plain (x, k) (List.mem_of_getElem? h)
  simpa using this

theorem vro_some {h : Heap} {v : V} {w : Option Value} (r : VRo bad θ h (some v) w) : ∃ w', w = some w' ∧ VR bad θ h v w' := by
  cases w with
  | none => exact r.elim
  | some w => exact ⟨w, rfl, r⟩

theorem load_at (Z : EnvOk a nm env) (I : Inv C bad θ a σ s) {x : Str} {i : Nat} {v : V} (hx : slotOf nm x = some i) (hv : σ.loc[i]? = some (some v)) :
    AtA C A bad a θ s (loadName env x) (Post bad σ v) := by
  obtain ⟨k, h1, h2, h3⟩ := slotOf_spec hx
  have hs := Z.slots i x k h1
  obtain ⟨m, hn, hm⟩ := I.loc
  have dbg := Z.dbg h1
  rcases h3 with rfl | rfl | rfl
  · obtain ⟨hk, hl⟩ := hs
    obtain ⟨w, e, r⟩ := vro_some (hm i _ _ hl hv)
    exact AtA.grow I fun E Q q => wpAny_loadName_local Z.kind hk (by rw [Z.L]; exact hn) e (q _ _ Chg.same ⟨rfl, r⟩)
  · obtain ⟨hk, c, hc, hl⟩ := hs
    obtain ⟨v', hc', r⟩ := hm i _ _ hl hv
    obtain ⟨w, rfl, r⟩ := vro_some r
    exact AtA.grow I fun E Q q => wpAny_loadName_cell Z.kind hk hc hc' (q _ _ Chg.same ⟨rfl, r⟩)
  · obtain ⟨hk, c, hc, hl⟩ := hs
    obtain ⟨v', hc', r⟩ := hm i _ _ hl hv
    obtain ⟨w, rfl, r⟩ := vro_some r
    rcases hk with hk | hk
    · exact AtA.grow I fun E Q q => wpAny_loadName_free Z.kind hk hc hc' (q _ _ Chg.same ⟨rfl, r⟩) dbg.2
    · exact AtA.grow I fun E Q q => wpAny_loadName_cell Z.kind hk hc hc' (q _ _ Chg.same ⟨rfl, r⟩)

/-- a global name -/
theorem glob_at (Z : EnvOk a nm env) (I : Inv C bad θ a σ s) {mg : Str → Option Value} (gns : C.h₀.Ns mainGlobals mg) {x : Str} {w : Value} (hx : isGlob nm x = true) (hv : mg x = some w) :
    AtA C A bad a θ s (loadName env x) (fun _ σ' s' w' => σ' = σ ∧ w' = w ∧ s' = s) := by
  obtain ⟨i, hi⟩ := isGlob_spec hx
  obtain ⟨hk, _⟩ := Z.slots i x _ hi
  have hn : s.heap.Ns mainGlobals mg := gns.keeps I.pres
  refine AtA.grow I fun E Q q => ?_
  rw [loadName_read Z.kind hk]
  exact loadGlobal_global (by rw [Z.globals]; exact hn) hv (q _ _ Chg.same ⟨rfl, rfl, rfl⟩)
theorem built_at (Z : EnvOk a nm env) (I : Inv C bad θ a σ s) {mg mb : Str → Option Value} (gns : C.h₀.Ns mainGlobals mg) (bns : C.h₀.Ns builtinsNs mb) {x : Str} {w : Value} (hx : isGlob nm x = true) (h0 : mg x = none) (hv : mb x = some w) :
    AtA C A bad a θ s (loadName env x) (fun _ σ' s' w' => σ' = σ ∧ w' = w ∧ s' = s) := by
  obtain ⟨i, hi⟩ := isGlob_spec hx
  obtain ⟨hk, _⟩ := Z.slots i x _ hi
  refine AtA.grow I fun E Q q => ?_
  rw [loadName_read Z.kind hk]
  exact loadGlobal_builtin (by rw [Z.globals]; exact gns.keeps I.pres) h0 (by rw [Z.builtins]; exact bns.keeps I.pres) hv (q _ _ Chg.same ⟨rfl, rfl, rfl⟩)

/-- a name is stored -/
theorem store_any (Z : EnvOk a nm env) (I : Inv C bad θ a σ s) {x : Str} {i : Nat} {v : V} {w : Value} (hx : slotW nm x = some i) (r : VR bad θ s.heap v w) :
    AtA C A bad a θ s (bindName env x w) (fun _ σ' _ _ => σ' = ⟨σ.loc.set i (some v), σ.objs⟩) := by
  obtain ⟨k, h1, h2⟩ := slotW_spec hx
  have hs := Z.slots i x k h1
  refine fun E Q hQ => wpAny_bindName ?_
  rcases h2 with rfl | rfl
  · obtain ⟨hk, hl⟩ := hs
    obtain ⟨m, hn, hm⟩ := I.loc
    refine wpAny_storeName_local hk (by rw [Z.L]; exact hn) (fun h' hn' hs' => ?_) (by rw [Z.kind]; rfl)
    rw [Z.L] at hn' hs'
    obtain ⟨I', st⟩ := I.storeD hl hm r hn' hs' (Nat.le_succ _)
    exact hQ _ _ _ _ st I' rfl
  · obtain ⟨hk, c, hc, hl⟩ := hs
    obtain ⟨v', hc'⟩ := I.cellAt (List.mem_of_getElem? hl)
    refine wpAny_storeName_cell Z.kind hk hc hc' (fun h' hn' hs' => ?_)
    obtain ⟨I', st⟩ := I.storeC hl r hn' hs' (Nat.le_refl _)
    exact hQ _ _ _ _ st I' rfl
theorem store_at (Z : EnvOk a nm env) (I : Inv C bad θ a σ s) {x : Str} {i : Nat} {v : V} {w : Value} (hx : slotW nm x = some i) (r : VR bad θ s.heap v w) :
    At C A bad a θ s (bindName env x w) (fun _ σ' _ _ => σ' = ⟨σ.loc.set i (some v), σ.objs⟩) := At.any (store_any Z I hx r)

end
end Mine
end
section
namespace Mine
open PySem PySem.W PyProof.Rows PySem.Calls

section
variable {C : Cfg} {A : Around} {bad : Addr → Prop} {a : Act} {θ : Th} {s : Shared} {α β : Type} {σ : St}
theorem At.keep {vs : List Value} {t : Sem α} {Φ : Th → St → Shared → α → Prop} (h : At C A bad a θ s t Φ) : At C A bad a θ s (t.keep vs) Φ := fun E Q hQ Γ p h1 h2 => by
  rw [Sem.wp_keep]; exact h E Q hQ Γ p h1 h2
theorem At.operate {vs : List Value} {t : Sem Value} {Φ : Th → St → Shared → Value → Prop} (h : At C A bad a θ s t Φ) : At C A bad a θ s (operate vs t) Φ := fun E Q hQ Γ p h1 h2 => by
  rw [Sem.wp_operate]; exact h E Q hQ Γ p h1 h2
theorem At.ofEq {t : Sem α} {x : α} {Φ : Th → St → Shared → α → Prop} (e : t = Pure.pure x) (h : At C A bad a θ s (Pure.pure x) Φ) : At C A bad a θ s t Φ := e ▸ h
theorem At.pureB {x : α} {f : α → Sem β} {Φ : Th → St → Shared → β → Prop} (h : At C A bad a θ s (f x) Φ) : At C A bad a θ s (Pure.pure x >>= f) Φ := fun E Q hQ => wpC_bind (wpC_pure (h E Q hQ))
theorem At.rel {vs ks : List Value} {f : Unit → Sem β} {Φ : Th → St → Shared → β → Prop} (h : At C A bad a θ s (f ()) Φ) : At C A bad a θ s (release vs ks >>= f) Φ := fun E Q hQ => wpC_bind (wpC_of (wpAny_release (h E Q hQ)))
theorem At.lets {b : PySem.Expr} {o r : Value} {f : Unit → Sem β} {Φ : Th → St → Shared → β → Prop} (h : At C A bad a θ s (f ()) Φ) : At C A bad a θ s (letTemporaryGo b o r >>= f) Φ := fun E Q hQ => wpC_bind (wpC_of (wpAny_letTemporaryGo (h E Q hQ)))
theorem At.holdPoint {vs : List Value} {f : Unit → Sem β} {Φ : Th → St → Shared → β → Prop} (h : At C A bad a θ s (f ()) Φ) : At C A bad a θ s (PySem.holding vs PySem.point >>= f) Φ := fun E Q hQ => wpC_bind (wpC_holding (wpC_point (h E Q hQ)))
theorem At.step (st₀ : Step θ a s.heap θ s.heap) {t : Sem α} {Φ : Th → St → Shared → α → Prop} (h : At C A bad a θ s t Φ) : At C A bad a θ s t Φ := h

theorem Fit.mono {n m : Nat} (h : Fit A n) (hm : m ≤ n) : Fit A m := ⟨h.handled, by have := h.depth; omega, h.guards, by have := h.units; omega⟩

theorem truthy_at (I : Inv C bad θ a σ s) {v : V} {w : Value} {b : Bool} (r : VR bad θ s.heap v w) (e : truth v = some b) : AtA C A bad a θ s (truthy w) (fun _ σ' s' b' => σ' = σ ∧ b' = b) := by
  cases v <;> first | exact nos e | skip
  · obtain rfl := r.inv
    cases e; exact AtA.grow I fun E Q q => truthy_none (q _ _ Chg.same ⟨rfl, rfl⟩)
  · obtain rfl := r.inv
    cases e; exact AtA.grow I fun E Q q => wpAny_truthy_bool (q _ _ Chg.same ⟨rfl, rfl⟩)

theorem const_at (I : Inv C bad θ a σ s) {env : Env} {c : Const} {v : V} (e : cConst c = some v) : AtA C A bad a θ s (constValue env c) (Post bad σ v) := by
  cases c <;> simp only [cConst] at e <;> try (first | exact nos e | (cases e; done))
  all_goals cases e
  · exact AtA.grow I fun E Q q => wpAny_pure (q _ _ Chg.same ⟨rfl, .none⟩)
  · exact AtA.grow I fun E Q q => wpAny_pure (q _ _ Chg.same ⟨rfl, .bool _⟩)
  · exact AtA.grow I fun E Q q => wpAny_mkInt (q _ _ Chg.tok ⟨rfl, .int _ _⟩)
  · exact AtA.grow I fun E Q q => wpAny_mkText (q _ _ Chg.tok ⟨rfl, .str _ _⟩)
  · refine AtA.grow I fun E Q q => ?_
    show wpAny _ _ (mkTextBytes _) _ _ _
    refine wpAny_mkTextBytes (q _ _ Chg.tok ⟨rfl, ?_⟩)
    have := VR.bytes (bad := bad) (θ := θ) (h := s.heap) false ‹List UInt8›.toArray s.toks (fun q => nomatch q)
    simpa using this

theorem neg_at (I : Inv C bad θ a σ s) {i : Int} {w : Value} (r : VR bad θ s.heap (.int i) w) : AtA C A bad a θ s (unaryOp .USub w) (Post bad σ (.int (-i))) := by
  obtain ⟨t, rfl⟩ := r.inv
  exact at_intA I fun E Q q => neg_int q
theorem not_at (I : Inv C bad θ a σ s) {v : V} {b : Bool} {w : Value} (r : VR bad θ s.heap v w) (e : truth v = some b) : At C A bad a θ s (unaryOp .Not w) (Post bad σ (.bool (!b))) := by
  unfold unaryOp
  refine At.holding ?_
  show At C A bad a θ s (truthy w >>= fun t => pure (Value.bool (!t))) _
  refine At.bind (At.any (truthy_at I r e)) fun θ1 σ1 s1 b' st I1 p => ?_
  obtain ⟨rfl, rfl⟩ := p
  exact At.pure I1 ⟨rfl, .bool _⟩
theorem iadd_at (I : Inv C bad θ a σ s) {va vb v : V} {wa wb : Value} (e : binop .add va vb = some v) (hv : (∃ i, v = .int i) ∨ ∃ x, v = .str x) (ra : VR bad θ s.heap va wa) (rb : VR bad θ s.heap vb wb) :
    At C A bad a θ s (inplaceOp .Add wa wb) (Post bad σ v) :=
  binop_el (M := fun va vb v => ((∃ i, v = .int i) ∨ ∃ x, v = .str x) → VR bad θ s.heap va wa → VR bad θ s.heap vb wb → At C A bad a θ s (inplaceOp .Add wa wb) (Post bad σ v)) e (fun x y v hk e _ ra rb => by
      obtain ⟨t, rfl⟩ := ra.inv
      obtain ⟨u, rfl⟩ := rb.inv
      exact Post.sI e (at_int I fun E Q q => iadd_int q))
    (fun x y h _ ra rb => by
      obtain ⟨x, t, rfl, rfl⟩ := ra.inv
      obtain ⟨y, u, rfl, rfl⟩ := rb.inv
      exact At.growG I fun E Q q => iadd_str (fun t' tk => q s.heap tk (.str (x ++ y) t') (fun _ _ e => e) ⟨rfl, str_app x y ▸ .str _ _⟩) (str_fits h))
    (fun f g x y h hv => hv.elim (fun ⟨_, e⟩ => nomatch e) (fun ⟨_, e⟩ => nomatch e)) hv ra rb
end
end Mine
end
section
namespace Mine
open PySem PySem.W PyProof.Rows PySem.Calls

structure Off (n0 : Nat) (bad : Addr → Prop) (θ : Th) (a : Act) (b : Addr) : Prop where
  lo : n0 ≤ b
  nb : ¬ bad b
  no : ¬ Own θ a b

inductive IterAt (n0 : Nat) (bad : Addr → Prop) (θ : Th) (a : Act) (h : Heap) : Bool → It → Nat → Value → Prop
  | list {I l : Addr} {i : Nat} {xs : List V} {vs : List Value} (o : Off n0 bad θ a I) (hit : h.IsListIter I l i) (h1 : l ∉ θ.as) (h2 : ¬ bad l) (hl : h.IsList l vs.toArray) (r : VRs bad θ h xs vs) : IterAt n0 bad θ a h false (.vals xs) i (.ref I)
  | tuple {I l : Addr} {i : Nat} {xs : List V} {vs : List Value} (o : Off n0 bad θ a I) (hit : h.IsTupleIter I l i) (h1 : l ∉ θ.as) (h2 : ¬ bad l) (hl : h.IsTuple l vs.toArray) (r : VRs bad θ h xs vs) : IterAt n0 bad θ a h false (.vals xs) i (.ref I)
  | range {I : Addr} {i n : Nat} {a0 c : Int} (o : Off n0 bad θ a I) (hit : IsRangeIter h I (a0 + (i : Nat) * c) ((n : Int) - (i : Nat)) c) : IterAt n0 bad θ a h false (.vals (rangeItems c n a0)) i (.ref I)
  | str {I : Addr} {i : Nat} {x : Str} {t : Tok} (o : Off n0 bad θ a I) (hit : h.IsStrIter I (strIterType x) x t i) : IterAt n0 bad θ a h false (.vals (chars x.cps.toList)) i (.ref I)
  | enum {e it l : Addr} {i : Nat} {xs : List V} {vs : List Value} {old : Value} (o : Off n0 bad θ a e) (o2 : Off n0 bad θ a it) (ne : e ≠ it) (he : IsEnum h e it (i : Int) old) (hit : h.IsListIter it l i)
      (h1 : l ∉ θ.as) (h2 : ¬ bad l) (hl : h.IsList l vs.toArray) (r : VRs bad θ h xs vs) : IterAt n0 bad θ a h true (.vals (enumItems 0 xs)) i (.ref e)
  | ref {I l : Addr} {i k : Nat} (o : Off n0 bad θ a I) (hit : h.IsListIter I l i) (hk : θ.as[k]? = some l) : IterAt n0 bad θ a h false (.ref k) i (.ref I)

/-- an enumerate in the middle of a turn -/
noncomputable def EnumMid (n0 : Nat) (bad : Addr → Prop) (θ : Th) (a : Act) (h : Heap) (t : It) (i : Nat) (w x : Value) : Prop := ∃ (e it l tp : Addr) (xs : List V) (vs : List Value) (item : Value), t = .vals (enumItems 0 xs) ∧ w = .ref e ∧ x = .ref tp ∧ Off n0 bad θ a e ∧ Off n0 bad θ a it ∧ e ≠ it ∧ IsEnumOut h e it (i : Int) item tp ∧ h.IsListIter it l i ∧
      l ∉ θ.as ∧ ¬ bad l ∧ h.IsList l vs.toArray ∧ VRs bad θ h xs vs
noncomputable def MidAt (n0 : Nat) (bad : Addr → Prop) (θ : Th) (a : Act) (h : Heap) (en : Bool) (t : It) (i : Nat) (w x : Value) : Prop := match en with
  | false => IterAt n0 bad θ a h false t i w
  | true => EnumMid n0 bad θ a h t i w x

theorem rangeItems_get (c : Int) : ∀ (n : Nat) (a : Int) (i : Nat), (rangeItems c n a)[i]? = if i < n then some (.int (a + (i : Nat) * c)) else none
  | 0, a, i => by simp [rangeItems]
  | n + 1, a, 0 => by simp [rangeItems]
  | n + 1, a, i + 1 => by
    simp only [rangeItems, List.getElem?_cons_succ, rangeItems_get c n (a + c) i]
    by_cases h : i < n
    · rw [if_pos h, if_pos (by omega)]
      congr 2
      push_cast
      rw [Int.add_mul, Int.one_mul]; omega
    · rw [if_neg h, if_neg (by omega)]
theorem chars_get : ∀ (s : List Nat) (i : Nat), (chars s)[i]? = (s[i]?).map fun c => V.str [c]
  | [], i => by simp [chars]
  | c :: s, 0 => by simp [chars]
  | c :: s, i + 1 => by simp [chars, chars_get s i]
theorem enumItems_get : ∀ (xs : List V) (j i : Nat), (enumItems j xs)[i]? = (xs[i]?).map fun x => V.tuple [.int (.ofNat (j + i)), x]
  | [], j, i => by simp [enumItems]
  | x :: xs, j, 0 => by simp [enumItems]
  | x :: xs, j, i + 1 => by
    simp only [enumItems, List.getElem?_cons_succ, enumItems_get xs (j + 1) i]
    rw [show j + 1 + i = j + (i + 1) by omega]

section
variable {C : Cfg} {n0 : Nat} {A : Around} {bad : Addr → Prop} {a : Act} {θ θ' : Th} {s s' : Shared} {σ : St} {en : Bool} {t : It} {i : Nat} {w : Value}
theorem Off.mv (o : Off n0 bad θ a b) (st : Step θ a s.heap θ' s'.heap) (hb : b < s.heap.objs.size) : Off n0 bad θ' a b := ⟨o.lo, o.nb, fun q => by
  rcases q with q | q
  · exact st.out (fun q => o.no (.inl q)) hb q
  · exact o.no (.inr q)⟩
theorem listIter_lt {h : Heap} {I l : Addr} {i : Nat} (x : h.IsListIter I l i) : I < h.objs.size := by obtain ⟨o, e, _⟩ := x; exact Heap.lt_size e
theorem listIter_keep {h h' : Heap} {I l : Addr} {i : Nat} (hk : ∀ o, h.get? I = some o → h'.get? I = some o) (x : h.IsListIter I l i) : h'.IsListIter I l i := by obtain ⟨o, e, r⟩ := x; exact ⟨o, hk o e, r⟩

theorem IterAt.mv (I : Inv C bad θ a σ s) (st : Step θ a s.heap θ' s'.heap) (x : IterAt n0 bad θ a s.heap en t i w) : IterAt n0 bad θ' a s'.heap en t i w := by
  have kl : ∀ {b its}, b ∉ θ.as → s.heap.IsList b its → s'.heap.IsList b its := fun {b its} h1 l => by
    have hn := I.listOff l h1
    obtain ⟨o, e, r⟩ := l; exact ⟨o, st.keep _ _ e hn, r⟩
  have kt : ∀ {b its}, b ∉ θ.as → s.heap.IsTuple b its → s'.heap.IsTuple b its := fun {b its} h1 l => by
    have hn := I.tupleOff l h1
    obtain ⟨o, e, r⟩ := l; exact ⟨o, st.keep _ _ e hn, r⟩
  cases x with
  | list o hit h1 h2 hl r => exact .list (o.mv st (listIter_lt hit)) (listIter_keep (fun ob e => st.keep _ _ e o.no) hit) (st.out h1 (isList_lt hl)) h2 (kl h1 hl) (I.mvs st r)
  | tuple o hit h1 h2 hl r =>
    obtain ⟨ob, e, q⟩ := hit
    exact .tuple (o.mv st (Heap.lt_size e)) ⟨ob, st.keep _ _ e o.no, q⟩ (st.out h1 (isTuple_lt hl)) h2 (kt h1 hl) (I.mvs st r)
  | range o hit => exact .range (o.mv st (Heap.lt_size hit)) (st.keep _ _ hit o.no)
  | str o hit =>
    obtain ⟨ob, e, q⟩ := hit
    exact .str (o.mv st (Heap.lt_size e)) ⟨ob, st.keep _ _ e o.no, q⟩
  | enum o o2 ne he hit h1 h2 hl r => exact .enum (o.mv st (Heap.lt_size he)) (o2.mv st (listIter_lt hit)) ne (st.keep _ _ he o.no) (listIter_keep (fun ob e => st.keep _ _ e o2.no) hit) (st.out h1 (isList_lt hl)) h2 (kl h1 hl) (I.mvs st r)
  | ref o hit hk => exact .ref (o.mv st (listIter_lt hit)) (listIter_keep (fun ob e => st.keep _ _ e o.no) hit) (st.idx hk)


/-- what was there before n0 is as it was -/
structure Keep (n0 : Nat) (bad : Addr → Prop) (θ : Th) (s s1 : Shared) : Prop where
  old : ∀ b ob, b < n0 ∨ bad b → s.heap.get? b = some ob → s1.heap.get? b = some ob
  size : s.heap.objs.size ≤ s1.heap.objs.size
  mvs : ∀ {v w}, VRs bad θ s.heap v w → VRs bad θ s1.heap v w
theorem Step.after {θ0 : Th} {h0 : Heap} (x : Step θ0 a h0 θ s.heap) (k : Keep h0.objs.size bad θ s s') : Step θ0 a h0 θ s'.heap :=
  ⟨x.ext, x.g, fun b o e n => k.old b o (.inl (Heap.lt_size e)) (x.keep b o e n), Nat.le_trans x.size k.size⟩

theorem Inv.lo (I : Inv C bad θ a σ s) (h : C.h₀.objs.size ≤ n0) {P : Addr → Prop} (x : Chg P s s') (ho : ∀ b, P b → Off n0 bad θ a b) (hf : ∀ b o, P b → s.heap.get? b = some o → ∃ fs, o.data = .fields fs) :
    Inv C bad θ a σ s' ∧ Keep n0 bad θ s s' ∧ (∀ {v w}, VR bad θ s.heap v w → VR bad θ s'.heap v w) ∧ (∀ {v w}, VRs bad θ s.heap v w → VRs bad θ s'.heap v w) := by
  obtain ⟨p, q, r⟩ := I.chg x (fun b hb => Nat.le_trans h (ho b hb).lo) (fun b hb => (ho b hb).nb) hf
  exact ⟨p, ⟨fun b ob hb e => x.keep b ob e fun z => hb.elim (fun y => absurd y (Nat.not_lt.mpr (ho b z).lo)) (ho b z).nb, x.gr.2, r⟩, q, r⟩

theorem get_none {h : Heap} {xs : List V} {vs : List Value} (r : VRs bad θ h xs vs) {i : Nat} (e : xs[i]? = none) : vs[i]? = none := by
  rw [List.getElem?_eq_none_iff] at e ⊢; rw [r.length]; exact e

theorem listIter_fields {h : Heap} {I l : Addr} {i : Nat} (x : h.IsListIter I l i) (ob : Obj) (e : h.get? I = some ob) : ∃ fs, ob.data = .fields fs := by
  obtain ⟨o', e', _, d⟩ := x; obtain rfl := Option.some.inj (e.symm.trans e'); exact ⟨_, d⟩
theorem tupleIter_fields {h : Heap} {I l : Addr} {i : Nat} (x : h.IsTupleIter I l i) (ob : Obj) (e : h.get? I = some ob) : ∃ fs, ob.data = .fields fs := by
  obtain ⟨o', e', _, d⟩ := x; obtain rfl := Option.some.inj (e.symm.trans e'); exact ⟨_, d⟩
theorem strIter_fields {h : Heap} {I : Addr} {T : String} {x : Str} {t : Tok} {i : Nat} (x : h.IsStrIter I T x t i) (ob : Obj) (e : h.get? I = some ob) : ∃ fs, ob.data = .fields fs := by
  obtain ⟨o', e', _, d⟩ := x; obtain rfl := Option.some.inj (e.symm.trans e'); exact ⟨_, d⟩
theorem list_ne {h : Heap} {I l : Addr} {its : Array Value} (f : ∀ ob, h.get? I = some ob → ∃ fs, ob.data = .fields fs) (x : h.IsList l its) : l ≠ I := fun q => by
  obtain ⟨o2, e2, _, n, d2⟩ := x
  obtain ⟨fs, d1⟩ := f o2 (q ▸ e2)
  rw [d1] at d2; cases d2
theorem tuple_ne {h : Heap} {I l : Addr} {its : Array Value} (f : ∀ ob, h.get? I = some ob → ∃ fs, ob.data = .fields fs) (x : h.IsTuple l its) : l ≠ I := fun q => by
  obtain ⟨o2, e2, _, n, d2⟩ := x
  obtain ⟨fs, d1⟩ := f o2 (q ▸ e2)
  rw [d1] at d2; cases d2
/-- what one turn leaves: the end, or a value -/
noncomputable def NextQ (C : Cfg) (n0 : Nat) (bad : Addr → Prop) (θ : Th) (a : Act) (σ : St) (s : Shared) (M : Shared → Value → Prop) (r : Option V) (Q : Option Value → Shared → Prop) : Prop :=
  (r = none → ∀ s1, Inv C bad θ a σ s1 → Keep n0 bad θ s s1 → Q none s1) ∧ ∀ v, r = some v → ∀ s1 x, Inv C bad θ a σ s1 → Keep n0 bad θ s s1 → VR bad θ s1.heap v x → M s1 x → Q (some x) s1
section
variable {J : Addr} {Q : Option Value → Shared → Prop} {E : Value → Shared → Prop} {M : Shared → Value → Prop} {r : Option V}
theorem lo1 (I : Inv C bad θ a σ s) (h0 : C.h₀.objs.size ≤ n0) (o : Off n0 bad θ a J) (hf : ∀ ob, s.heap.get? J = some ob → ∃ fs, ob.data = .fields fs) {h' : Heap} {tk : Nat} (he : Heap.ExtBut J s.heap h') (g : Gr s ⟨h', s.gens, s.drawn, tk, s.os⟩) :
    Inv C bad θ a σ ⟨h', s.gens, s.drawn, tk, s.os⟩ ∧ Keep n0 bad θ s ⟨h', s.gens, s.drawn, tk, s.os⟩ ∧ (∀ {v w}, VR bad θ s.heap v w → VR bad θ h' v w) ∧ (∀ {v w}, VRs bad θ s.heap v w → VRs bad θ h' v w) :=
  I.lo h0 (P := fun b => b = J) ⟨fun b o e n => he b o n e, g, rfl, rfl, rfl⟩ (fun b hb => hb ▸ o) (fun b ob hb e => hf ob (hb ▸ e))
theorem NextQ.fin (q : NextQ C n0 bad θ a σ s M r Q) (e : r = none) (I : Inv C bad θ a σ s) (h0 : C.h₀.objs.size ≤ n0) (o : Off n0 bad θ a J) (hf : ∀ ob, s.heap.get? J = some ob → ∃ fs, ob.data = .fields fs) (h' : Heap) (he : Heap.ExtBut J s.heap h') (g : Gr s { s with heap := h' }) : Q none { s with heap := h' } :=
  have z := lo1 I h0 o hf he g
  q.1 e _ z.1 z.2.1
theorem next_list (hh : A.handled = none) (h0 : C.h₀.objs.size ≤ n0) (I : Inv C bad θ a σ s) {l : Addr} {xs : List V} {vs : List Value} (o : Off n0 bad θ a J) (hit : s.heap.IsListIter J l i) (hl : s.heap.IsList l vs.toArray) (rr : VRs bad θ s.heap xs vs) (q : NextQ C n0 bad θ a σ s M xs[i]? Q)
    (hM : ∀ s1 x, (∀ {v w}, VRs bad θ s.heap v w → VRs bad θ s1.heap v w) → s1.heap.IsListIter J l (i + 1) → s1.heap.IsList l vs.toArray → M s1 x) : wpAny (model C.prog C.w) A (pyNext (.ref J)) Q E s := by
  refine wpAny_gr ?_
  cases hg : xs[i]? with
  | none => exact wpAny_pyNext_list_end hh hit hl (by rw [List.getElem?_toArray]; exact get_none rr hg) (q.fin hg I h0 o (listIter_fields hit))
  | some v =>
    obtain ⟨x, ex, rx⟩ := rr.get hg
    refine wpAny_pyNext_list_item hit hl (by rw [List.getElem?_toArray]; exact ex) fun h' hit' hs g => ?_
    have z := lo1 I h0 o (listIter_fields hit) hs.extBut g
    exact q.2 v hg _ _ z.1 z.2.1 (z.2.2.1 rx) (hM _ _ z.2.2.2 hit' (hl.extBut hs.extBut (list_ne (listIter_fields hit) hl)))
theorem next_tuple (hh : A.handled = none) (h0 : C.h₀.objs.size ≤ n0) (I : Inv C bad θ a σ s) {l : Addr} {xs : List V} {vs : List Value} (o : Off n0 bad θ a J) (hit : s.heap.IsTupleIter J l i) (hl : s.heap.IsTuple l vs.toArray) (rr : VRs bad θ s.heap xs vs) (q : NextQ C n0 bad θ a σ s M xs[i]? Q)
    (hM : ∀ s1 x, (∀ {v w}, VRs bad θ s.heap v w → VRs bad θ s1.heap v w) → s1.heap.IsTupleIter J l (i + 1) → s1.heap.IsTuple l vs.toArray → M s1 x) : wpAny (model C.prog C.w) A (pyNext (.ref J)) Q E s := by
  refine wpAny_gr ?_
  cases hg : xs[i]? with
  | none => exact wpAny_pyNext_tuple_end hh hit hl (by rw [List.getElem?_toArray]; exact get_none rr hg) (q.fin hg I h0 o (tupleIter_fields hit))
  | some v =>
    obtain ⟨x, ex, rx⟩ := rr.get hg
    refine wpAny_pyNext_tuple_item hit hl (by rw [List.getElem?_toArray]; exact ex) fun h' hit' hs g => ?_
    have z := lo1 I h0 o (tupleIter_fields hit) hs.extBut g
    exact q.2 v hg _ _ z.1 z.2.1 (z.2.2.1 rx) (hM _ _ z.2.2.2 hit' (hl.extBut hs.extBut (tuple_ne (tupleIter_fields hit) hl)))
theorem range_step (a0 c : Int) (i n : Nat) : a0 + ((i + 1 : Nat) : Int) * c = a0 + (i : Int) * c + c ∧ (n : Int) - ((i + 1 : Nat) : Int) = (n : Int) - (i : Int) - 1 :=
  ⟨by push_cast; rw [Int.add_mul, Int.one_mul, Int.add_assoc], by omega⟩
theorem next_range (hh : A.handled = none) (h0 : C.h₀.objs.size ≤ n0) (I : Inv C bad θ a σ s) {n : Nat} {a0 c : Int} (o : Off n0 bad θ a J) (hit : IsRangeIter s.heap J (a0 + (i : Nat) * c) ((n : Int) - (i : Nat)) c) (q : NextQ C n0 bad θ a σ s M (rangeItems c n a0)[i]? Q)
    (hM : ∀ s1 x, IsRangeIter s1.heap J (a0 + ((i + 1 : Nat) : Int) * c) ((n : Int) - ((i + 1 : Nat) : Int)) c → M s1 x) : wpAny (model C.prog C.w) A (pyNext (.ref J)) Q E s := by
  refine wpAny_gr ?_
  have hf : ∀ ob, s.heap.get? J = some ob → ∃ fs, ob.data = .fields fs := fun ob e => by
    obtain rfl := Option.some.inj (hit.symm.trans e); exact ⟨_, rfl⟩
  rw [rangeItems_get] at q
  by_cases hi : i < n
  · rw [if_pos hi] at q
    refine wpAny_pyNext_range_item hit (Int.sub_pos_of_lt (Int.ofNat_lt.mpr hi)) fun h' hit' hs g => ?_
    have z := lo1 I h0 o hf hs.extBut g
    refine q.2 _ rfl _ _ z.1 z.2.1 (.int _ _) (hM _ _ ?_)
    rw [(range_step a0 c i n).1, (range_step a0 c i n).2]
    exact hit'
  · rw [if_neg hi] at q
    exact wpAny_pyNext_range_end hh hit (Int.sub_nonpos_of_le (Int.ofNat_le.mpr (Nat.not_lt.mp hi))) (q.fin rfl I h0 o hf)
theorem next_str (hh : A.handled = none) (h0 : C.h₀.objs.size ≤ n0) (I : Inv C bad θ a σ s) {x : Str} {tx : Tok} (o : Off n0 bad θ a J) (hit : s.heap.IsStrIter J (strIterType x) x tx i) (q : NextQ C n0 bad θ a σ s M (chars x.cps.toList)[i]? Q)
    (hM : ∀ s1 y, s1.heap.IsStrIter J (strIterType x) x tx (i + 1) → M s1 y) : wpAny (model C.prog C.w) A (pyNext (.ref J)) Q E s := by
  refine wpAny_gr ?_
  rw [chars_get, Array.getElem?_toList] at q
  have hf := strIter_fields hit
  cases hg : x.cps[i]? with
  | none =>
    rw [hg] at q
    have fin := q.fin rfl I h0 o hf
    cases ha : x.cps.all (· < 128) <;> simp only [strIterType, ha] at hit
    · exact wpAny_pyNext_wide_end hh hit hg fin
    · exact wpAny_pyNext_ascii_end hh hit hg fin
  | some c =>
    rw [hg] at q
    have item : ∀ h', h'.IsStrIter J (strIterType x) x tx (i + 1) → Heap.SameBut J s.heap h' → Gr s { s with heap := h', toks := s.toks + 1 } → Q (some (.str ⟨#[c]⟩ s.toks)) { s with heap := h', toks := s.toks + 1 } := fun h' hit' hs g =>
      have z := lo1 I h0 o hf hs.extBut g
      q.2 _ rfl _ _ z.1 z.2.1 (.str ⟨#[c]⟩ _) (hM _ _ hit')
    cases ha : x.cps.all (· < 128) <;> simp only [strIterType, ha] at hit item
    · exact wpAny_pyNext_wide_item hit hg item
    · exact wpAny_pyNext_ascii_item hit hg item
theorem next_enum (hh : A.handled = none) (h0 : C.h₀.objs.size ≤ n0) (I : Inv C bad θ a σ s) {e1 it l : Addr} {xs : List V} {vs : List Value} {old : Value} (o : Off n0 bad θ a e1) (o2 : Off n0 bad θ a it) (ne : e1 ≠ it) (he : IsEnum s.heap e1 it (i : Int) old) (hit : s.heap.IsListIter it l i)
    (h1 : l ∉ θ.as) (h2 : ¬ bad l) (hl : s.heap.IsList l vs.toArray) (rr : VRs bad θ s.heap xs vs) (q : NextQ C n0 bad θ a σ s (fun s1 x => EnumMid n0 bad θ a s1.heap (.vals (enumItems 0 xs)) (i + 1) (.ref e1) x) (enumItems 0 xs)[i]? Q) : wpAny (model C.prog C.w) A (pyNext (.ref e1)) Q E s := by
  refine wpAny_gr ?_
  rw [enumItems_get, Nat.zero_add] at q
  have hfe : ∀ ob, s.heap.get? e1 = some ob → ∃ fs, ob.data = .fields fs := fun ob e => by obtain rfl := Option.some.inj (he.symm.trans e); exact ⟨_, rfl⟩
  cases hg : xs[i]? with
  | none =>
    rw [hg] at q
    exact wpAny_pyNext_enum_end hh he hit hl (by rw [List.getElem?_toArray]; exact get_none rr hg) (q.fin rfl I h0 o2 (listIter_fields hit))
  | some v =>
    rw [hg] at q
    obtain ⟨x, ex, rx⟩ := rr.get hg
    refine wpAny_pyNext_enum_item he hit hl (by rw [List.getElem?_toArray]; exact ex) ne fun h' ho' hit' ht hz hk g => ?_
    have z := I.lo h0 (P := fun b => b = e1 ∨ b = it) (s' := ⟨h', s.gens, s.drawn, s.toks + 1, s.os⟩) ⟨fun b ob e n => hk b ob (fun q => n (.inl q)) (fun q => n (.inr q)) e, g, rfl, rfl, rfl⟩ (fun b hb => hb.elim (fun hb => hb ▸ o) fun hb => hb ▸ o2)
      (fun b ob hb e => hb.elim (fun hb => hfe ob (hb ▸ e)) fun hb => listIter_fields hit ob (hb ▸ e))
    have fr := I.freshOut (Nat.le_refl s.heap.objs.size)
    refine q.2 _ rfl _ _ z.1 z.2.1 (.tuple fr.1 fr.2 ⟨_, ht, rfl, 0, rfl⟩ (.cons (.int _ _) (.cons (z.2.2.1 rx) .nil))) ⟨e1, it, l, _, xs, vs, x, rfl, rfl, rfl, o, o2, ne, ho', hit', h1, h2, ?_, z.2.2.2 rr⟩
    obtain ⟨ol, e', q⟩ := hl
    exact ⟨ol, hk _ _ (list_ne hfe ⟨ol, e', q⟩) (list_ne (listIter_fields hit) ⟨ol, e', q⟩) e', q⟩
end
theorem ref_el {objs : List O} {k i : Nat} {r : Option V} {P : Prop} (h : (It.ref k).at objs i = some r) (f : ∀ xs, objs[k]? = some (.list xs) → xs[i]? = r → P) : P := by
  have h : (match objs[k]? with | some (.list xs) => some xs[i]? | _ => none) = some r := h
  cases e : objs[k]? with
  | none => rw [e] at h; exact nos h
  | some o => rw [e] at h; cases o with
    | barr b => exact nos h
    | list xs => exact f xs e (Option.some.inj h)
/-- one turn of an iterator -/
theorem next_any (hh : A.handled = none) (h0 : C.h₀.objs.size ≤ n0) (I : Inv C bad θ a σ s) (x : IterAt n0 bad θ a s.heap en t i w) {r : Option V} (e : t.at σ.objs i = some r) {E : Value → Shared → Prop} {Q : Option Value → Shared → Prop}
    (hQ0 : r = none → ∀ s1, Inv C bad θ a σ s1 → Keep n0 bad θ s s1 → Q none s1)
    (hQ1 : ∀ v, r = some v → ∀ s1 x, Inv C bad θ a σ s1 → Keep n0 bad θ s s1 → VR bad θ s1.heap v x → MidAt n0 bad θ a s1.heap en t (i + 1) w x → Q (some x) s1) :
    wpAny (model C.prog C.w) A (pyNext w) Q E s := by
  have q : NextQ C n0 bad θ a σ s (fun s1 x => MidAt n0 bad θ a s1.heap en t (i + 1) w x) r Q := ⟨hQ0, hQ1⟩
  clear hQ0 hQ1
  cases x with
  | list o hit h1 h2 hl rr => exact next_list hh h0 I o hit hl rr (Option.some.inj e ▸ q) fun s1 x mvs hit' hl' => .list o hit' h1 h2 hl' (mvs rr)
  | @ref J l i k o hit hk => exact ref_el e fun xs e1 e => (I.objs k l _ hk e1).elim fun vs z => z.elim fun n z => next_list hh h0 I o hit (isList_obj z.1) z.2 (e ▸ q) fun s1 x _ hit' _ => .ref o hit' hk
  | tuple o hit h1 h2 hl rr => exact next_tuple hh h0 I o hit hl rr (Option.some.inj e ▸ q) fun s1 x mvs hit' hl' => .tuple o hit' h1 h2 hl' (mvs rr)
  | range o hit => exact next_range hh h0 I o hit (Option.some.inj e ▸ q) fun s1 x hit' => .range o hit'
  | str o hit => exact next_str hh h0 I o hit (Option.some.inj e ▸ q) fun s1 x hit' => .str o hit'
  | enum o o2 ne he hit h1 h2 hl rr => exact next_enum hh h0 I o o2 ne he hit h1 h2 hl rr (Option.some.inj e ▸ q)
end
end Mine
end
section
namespace Mine
open PySem PySem.W PyProof.Rows PySem.Calls

section
variable {C : Cfg} {n0 : Nat} {A : Around} {bad : Addr → Prop} {a : Act} {θ θ' : Th} {s s' : Shared} {σ : St} {en : Bool} {t : It} {i : Nat} {w x : Value}

theorem letGo_plain {J : Addr} {ob : Obj} {nm : String} {fs : Array Value} (e : s.heap.get? J = some ob) (hc : ob.cls = .type nm) (hd : ob.data = .fields fs)
    (hn : ["enumerate", "zip", "dict_itemiterator", "dict_reverseitemiterator", "odict_iterator", "itertools.zip_longest", "itertools.pairwise"].contains nm = false) {tgt : PySem.Expr} {x : Value} {E : Value → Shared → Prop} {Q : Unit → Shared → Prop} (hQ : Q () s) :
    wpAny (model C.prog C.w) A (letOwnedTupleGo tgt (.ref J) x) Q E s := by
  have nil : wpAny (model C.prog C.w) A (pure ()) Q E s := wpAny_pure hQ
  cases tgt <;> first | exact nil | skip
  all_goals
    cases x <;> first | exact nil | skip
    refine wpAny_bind (wpAny_load e ?_)
    rw [hc, hd]
    dsimp only
    rw [hn, Bool.false_and]
    exact nil

theorem Keep.refl : Keep n0 bad θ s s := ⟨fun _ _ _ e => e, Nat.le_refl _, fun r => r⟩
theorem letGo_same (m : IterAt n0 bad θ a s.heap false t i w) {tgt : PySem.Expr} {E : Value → Shared → Prop} {Q : Unit → Shared → Prop} (q : Q () s) : wpAny (model C.prog C.w) A (letOwnedTupleGo tgt w x) Q E s := by
  cases m with
  | list o hit => obtain ⟨ob, e, c, d⟩ := hit; exact letGo_plain e c d (by decide) q
  | tuple o hit => obtain ⟨ob, e, c, d⟩ := hit; exact letGo_plain e c d (by decide) q
  | range o hit => exact letGo_plain hit rfl rfl (by decide) q
  | str o hit =>
    obtain ⟨ob, e, c, d⟩ := hit
    exact letGo_plain e c d (by unfold strIterType; split <;> decide) q
  | ref o hit => obtain ⟨ob, e, c, d⟩ := hit; exact letGo_plain e c d (by decide) q
theorem letGo_enum (h0 : C.h₀.objs.size ≤ n0) (I : Inv C bad θ a σ s) (m : EnumMid n0 bad θ a s.heap t i w x) {tgt : PySem.Expr} (ht : ∃ es k p, tgt = .Tuple es k p) {E : Value → Shared → Prop} {Q : Unit → Shared → Prop}
    (hQ : ∀ s1, Inv C bad θ a σ s1 → Keep n0 bad θ s s1 → IterAt n0 bad θ a s1.heap true t i w → (∀ {v y}, VR bad θ s.heap v y → VR bad θ s1.heap v y) → Q () s1) : wpAny (model C.prog C.w) A (letOwnedTupleGo tgt w x) Q E s := by
  obtain ⟨e, it, l, tp, xs, vs, item, rfl, rfl, rfl, o, o2, ne, he, hit, h1, h2, hl, r⟩ := m
  obtain ⟨es, k, p, rfl⟩ := ht
  have hf : ∀ ob, s.heap.get? e = some ob → ∃ fs, ob.data = .fields fs := fun ob q => by obtain rfl := Option.some.inj (he.symm.trans q); exact ⟨_, rfl⟩
  refine wpAny_gr (wpAny_letOwnedTupleGo_enum he fun h' he' hs g => ?_)
  have z := lo1 I h0 o hf hs.extBut g
  exact hQ _ z.1 z.2.1 (.enum o o2 ne he' (listIter_keep (fun ob e => hs.extBut _ _ (Ne.symm ne) e) hit) h1 h2 (hl.extBut hs.extBut (list_ne hf hl)) (z.2.2.2 r)) z.2.2.1
theorem letGo_any (h0 : C.h₀.objs.size ≤ n0) (I : Inv C bad θ a σ s) (m : MidAt n0 bad θ a s.heap en t i w x) {tgt : PySem.Expr} (ht : en = true → ∃ es k p, tgt = .Tuple es k p) {E : Value → Shared → Prop} {Q : Unit → Shared → Prop}
    (hQ : ∀ s1, Inv C bad θ a σ s1 → Keep n0 bad θ s s1 → IterAt n0 bad θ a s1.heap en t i w → (∀ {v y}, VR bad θ s.heap v y → VR bad θ s1.heap v y) → Q () s1) : wpAny (model C.prog C.w) A (letOwnedTupleGo tgt w x) Q E s := by
  cases en with
  | false => exact letGo_same m (hQ s I Keep.refl m fun r => r)
  | true => exact letGo_enum h0 I m (ht rfl) hQ

/-- an iterator is its own iterator -/
theorem self_any (I : Inv C bad θ a σ s) (m : IterAt n0 bad θ a s.heap false t i w) {E : Value → Shared → Prop} {Q : Value → Shared → Prop} (hQ : Q w s) : wpAny (model C.prog C.w) A (pyIter w) Q E s := by
  cases m with
  | list o hit => exact wpAny_pyIter_listiter hit hQ
  | tuple o hit => exact wpAny_pyIter_tupleiter hit hQ
  | range o hit => exact wpAny_pyIter_rangeiter hit hQ
  | @str J i x tx o hit =>
    unfold strIterType at hit
    cases ha : x.cps.all (· < 128)
    · rw [ha] at hit; exact wpAny_pyIter_striter_wide hit hQ
    · rw [ha] at hit; exact wpAny_pyIter_striter_ascii hit hQ
  | ref o hit => exact wpAny_pyIter_listiter hit hQ

theorem Inv.offFresh (I : Inv C bad θ a σ s) (hn : n0 ≤ s.heap.objs.size) {b : Addr} (hb : s.heap.objs.size ≤ b) : Off n0 bad θ a b := ⟨Nat.le_trans hn hb, (I.freshOut hb).2, fun q => by
  obtain ⟨ob, e⟩ := I.live q; exact absurd (Heap.lt_size e) (Nat.not_lt.mpr hb)⟩

/-- an iterator is made -/
noncomputable abbrev Made (n0 : Nat) (bad : Addr → Prop) (a : Act) (en : Bool) (t : It) (σ : St) : Th → St → Shared → Value → Prop := fun θ' σ' s' w => σ' = σ ∧ IterAt n0 bad θ' a s'.heap en t 0 w

theorem itRef_el {objs : List O} {k : Nat} {t : It} {P : Prop} (h : itOf objs (.ref k) = some t) (f : ∀ xs, objs[k]? = some (.list xs) → t = .ref k → P) : P := by
  have h : (match objs[k]? with | some (.list _) => some (It.ref k) | _ => none) = some t := h
  cases e : objs[k]? with
  | none => rw [e] at h; exact nos h
  | some o => rw [e] at h; cases o with
    | barr b => exact nos h
    | list xs => exact f xs e (Option.some.inj h).symm
theorem iter_grow (I : Inv C bad θ a σ s) (hn : n0 ≤ s.heap.objs.size) {v : V} {w : Value} (r : VR bad θ s.heap v w) (e : itOf σ.objs v = some t) : ∀ E Q, (∀ s' x, Grow s s' → Made n0 bad a false t σ θ σ s' x → Q x s') → wpAny (model C.prog C.w) A (pyIter w) Q E s := by
  have of := I.offFresh hn (Nat.le_refl s.heap.objs.size)
  cases v <;> first | exact nos e | skip
  case str x' =>
    obtain ⟨x, tx, rfl, rfl⟩ := r.inv
    set_option smartUnfolding false in refine elT e fun _ e => ?_
    obtain rfl := Option.some.inj e
    exact fun E Q q => wpAny_pyIter_strU (q _ _ Chg.push ⟨rfl, .str of ⟨_, Heap.get?_push_size _ rfl, rfl, rfl⟩⟩)
  case list xs =>
    obtain ⟨l, vs, rfl, h1, h2, hl, hi⟩ := r.inv
    set_option smartUnfolding false in refine elT e fun _ e => ?_
    obtain rfl := Option.some.inj e
    exact fun E Q q => wpAny_pyIter_list hl (q _ _ Chg.push ⟨rfl, .list of ⟨_, Heap.get?_push_size _ rfl, rfl, rfl⟩ h1 h2 (hl.push _) (I.mvs (Step.of_grow (a := a) Chg.push) hi)⟩)
  case tuple xs =>
    obtain ⟨l, vs, rfl, h1, h2, hl, hi⟩ := r.inv
    set_option smartUnfolding false in refine elT e fun _ e => ?_
    obtain rfl := Option.some.inj e
    exact fun E Q q => wpAny_pyIter_tuple hl (q _ _ Chg.push ⟨rfl, .tuple of ⟨_, Heap.get?_push_size _ rfl, rfl, rfl⟩ h1 h2 (hl.push _) (I.mvs (Step.of_grow (a := a) Chg.push) hi)⟩)
  case ref k =>
    obtain ⟨l, rfl, hk⟩ := r.inv
    exact itRef_el e fun xs e1 e2 => by
      obtain ⟨vs, n, e2, rr⟩ := I.objs k l _ hk e1
      subst t
      exact fun E Q q => wpAny_pyIter_list (isList_obj e2) (q _ _ Chg.push ⟨rfl, .ref of ⟨_, Heap.get?_push_size _ rfl, rfl, rfl⟩ hk⟩)


theorem iter_at (I : Inv C bad θ a σ s) (hn : n0 ≤ s.heap.objs.size) {v : V} {w : Value} (r : VR bad θ s.heap v w) (e : itOf σ.objs v = some t) : AtA C A bad a θ s (pyIter w) (Made n0 bad a false t σ) := AtA.grow I (iter_grow I hn r e)

theorem size_eq (n w : Nat) : Builtin.Range.rangeSize 0 (Int.ofNat n) (Int.ofNat (w + 1)) = (((n + w) / (w + 1) : Nat) : Int) := by
  unfold Builtin.Range.rangeSize
  have hc : (Int.ofNat (w + 1)) > 0 := by show ((w + 1 : Nat) : Int) > 0; omega
  rw [if_pos hc]
  by_cases hn : 0 < n
  · rw [if_pos (by show (0 : Int) < (n : Int); omega)]
    have e : n + w = (n - 1) + (w + 1) := by omega
    rw [e, Nat.add_div_right _ (Nat.succ_pos w)]
    show ((n : Int) - 0 - 1) / ((w + 1 : Nat) : Int) + 1 = _
    have : (n : Int) - 0 - 1 = ((n - 1 : Nat) : Int) := by omega
    rw [this, ← Int.natCast_ediv]
    push_cast; rfl
  · rw [if_neg (by show ¬ (0 : Int) < (n : Int); omega)]
    have : n = 0 := by omega
    subst this
    rw [Nat.zero_add, Nat.div_eq_of_lt (by omega)]; rfl
theorem small_eq {n w : Nat} (hn : n < 65536) (hw : w < 65536) : Builtin.Range.small 0 (Int.ofNat n) (Int.ofNat (w + 1)) = true := by
  unfold Builtin.Range.small
  have h1 : (n + w) / (w + 1) ≤ n + w := Nat.div_le_self _ _
  have f : ∀ k : Nat, k < 300000 → Builtin.Range.rangeFitsLong (k : Int) = true := fun k hk => by
    unfold Builtin.Range.rangeFitsLong
    simp only [Bool.and_eq_true, decide_eq_true_eq]; omega
  rw [size_eq]
  have e1 := f 0 (by omega)
  have e2 := f n (by omega)
  have e3 := f (w + 1) (by omega)
  have e4 := f ((n + w) / (w + 1)) (by omega)
  have e5 := f (n + w) (by omega)
  have hc : (Int.ofNat (w + 1)) > 0 := by show ((w + 1 : Nat) : Int) > 0; omega
  rw [show Builtin.Range.rangeFitsLong 0 = true from e1, show Builtin.Range.rangeFitsLong (Int.ofNat n) = true from e2, show Builtin.Range.rangeFitsLong (Int.ofNat (w + 1)) = true from e3, e4, if_pos hc]
  have : Int.ofNat n + (Int.ofNat (w + 1) - 1) = ((n + w : Nat) : Int) := by show (n : Int) + (((w + 1 : Nat) : Int) - 1) = _; push_cast; omega
  rw [this, e5]; simp

noncomputable abbrev RangeR (n0 : Nat) (t : It) (σ : St) : Th → St → Shared → Value → Prop := fun _ σ' s' w => σ' = σ ∧ n0 ≤ s'.heap.objs.size ∧ ∃ (R : Addr) (n k : Nat) (u1 u2 u3 : Tok), w = .ref R ∧ IsRange s'.heap R 0 (Int.ofNat n) (Int.ofNat (k + 1)) u1 u2 u3 ∧ n < 65536 ∧ k < 65536 ∧ t = .vals (rangeItems (Int.ofNat (k + 1)) ((n + k) / (k + 1)) 0)
set_option smartUnfolding false in
theorem rangeOf_el {vs : List V} {t : It} {M : List V → Prop} (h : rangeOf vs = some t) (k1 : ∀ n, Nat.blt n bigN = true → t = .vals (rangeItems 1 n 0) → M [.int (.ofNat n)])
    (k3 : ∀ n w, (Nat.blt n bigN && Nat.blt w bigN) = true → t = .vals (rangeItems (.ofNat (w + 1)) ((n + w) / (w + 1)) 0) → M [.int (.ofNat 0), .int (.ofNat n), .int (.ofNat (w + 1))]) : M vs := by
  cases vs with
  | nil => exact nos h
  | cons a vs => cases a with
    | none | bool | str | bytes | list | tuple | ref => exact nos h
    | int a => cases a with
      | negSucc a => exact nos h
      | ofNat a => cases vs with
        | nil => exact elT h fun h1 h => k1 a h1 (Option.some.inj h).symm
        | cons b vs => cases b with
          | none | bool | str | bytes | list | tuple | ref => exact nos h
          | int b => cases b with
            | negSucc b => exact nos h
            | ofNat b => cases vs with
              | nil => exact nos h
              | cons c vs => cases c with
                | none | bool | str | bytes | list | tuple | ref => exact nos h
                | int c => cases c with
                  | negSucc c => exact nos h
                  | ofNat c => cases c with
                    | zero => exact nos h
                    | succ c => cases vs with
                      | cons => exact nos h
                      | nil => cases a with
                        | succ a => exact nos h
                        | zero => exact elT h fun h1 h => k3 b c h1 (Option.some.inj h).symm
theorem range1_at (I : Inv C bad θ a σ s) (hn : n0 ≤ s.heap.objs.size) {n : Nat} {u : Tok} (hz : Nat.blt n bigN = true) : AtA C A bad a θ s (call (.type "range") [.int (.ofNat n) u]) (RangeR n0 (.vals (rangeItems 1 n 0)) σ) := by
  refine AtA.grow I fun E Q q => call_range_1 ?_
  have g : Grow s { s with heap := s.heap.push { cls := .type "range", data := .fields #[.int 0 s.toks, .int (Int.ofNat n) u, .int 1 (s.toks + 1)] }, toks := s.toks + 1 + 1 } := ⟨fun b o e _ => Heap.get?_push_of_some _ e, ⟨Nat.le_succ_of_le (Nat.le_succ _), by rw [objs_push]; exact Nat.le_succ _⟩, rfl, rfl, rfl⟩
  refine q _ _ g ⟨rfl, Nat.le_trans hn g.gr.2, _, n, 0, _, _, _, rfl, Heap.get?_push_size _ rfl, bigN_lt hz, by decide, ?_⟩
  rw [Nat.add_zero, Nat.div_one]; rfl
theorem range3_at (I : Inv C bad θ a σ s) (hn : n0 ≤ s.heap.objs.size) {n w : Nat} {u1 u2 u3 : Tok} (hz : (Nat.blt n bigN && Nat.blt w bigN) = true) : AtA C A bad a θ s (call (.type "range") [.int (.ofNat 0) u1, .int (.ofNat n) u2, .int (.ofNat (w + 1)) u3]) (RangeR n0 (.vals (rangeItems (.ofNat (w + 1)) ((n + w) / (w + 1)) 0)) σ) := by
  have hz2' := bigN_lt (Bool.and_eq_true_iff.mp hz).2
  exact AtA.grow I fun E Q q => call_range_3 (fun q => nomatch q) (q _ _ Chg.push ⟨rfl, Nat.le_trans hn (Chg.push (P := fun _ => False)).gr.2, _, n, w, _, _, _, rfl, Heap.get?_push_size _ rfl, bigN_lt (Bool.and_eq_true_iff.mp hz).1, hz2', rfl⟩)
    (.inl (noPylong (Nat.lt_of_le_of_lt hz2' (by decide))))
theorem range_at (I : Inv C bad θ a σ s) (hn : n0 ≤ s.heap.objs.size) {vs : List V} {ws : List Value} (r : VRs bad θ s.heap vs ws) (e : rangeOf vs = some t) :
    AtA C A bad a θ s (call (.type "range") ws) (RangeR n0 t σ) :=
  rangeOf_el (M := fun vs => VRs bad θ s.heap vs ws → AtA C A bad a θ s (call (.type "range") ws) (RangeR n0 t σ)) e (fun n hz e r => by
      subst e
      cases r with
      | cons r1 r2 =>
        cases r2
        obtain ⟨u, rfl⟩ := r1.inv
        exact range1_at I hn hz)
    (fun n w hz e r => by
      subst e
      cases r with
      | cons r1 r2 => cases r2 with
        | cons r2 r3 => cases r3 with
          | cons r3 r4 =>
            cases r4
            obtain ⟨u1, rfl⟩ := r1.inv
            obtain ⟨u2, rfl⟩ := r2.inv
            obtain ⟨u3, rfl⟩ := r3.inv
            exact range3_at I hn hz) r

theorem rangeIter_grow (I : Inv C bad θ a σ s) {w : Value} (h : RangeR n0 t σ θ σ s w) : ∀ E Q, (∀ s' x, Grow s s' → Made n0 bad a false t σ θ σ s' x → Q x s') → wpAny (model C.prog C.w) A (pyIter w) Q E s := by
  obtain ⟨_, hn, R, n, k, u1, u2, u3, rfl, hR, h1, h2, rfl⟩ := h
  have of := I.offFresh hn (Nat.le_refl s.heap.objs.size)
  refine fun E Q q => wpAny_pyIter_range hR (small_eq h1 h2) ?_
  have g : Grow s { s with heap := s.heap.push { cls := .type "range_iterator", data := .fields #[rawInt 0, rawInt (Builtin.Range.rangeSize 0 (Int.ofNat n) (Int.ofNat (k + 1))), rawInt (Int.ofNat (k + 1))] } } := Chg.push
  refine q _ _ g ⟨rfl, .range of ?_⟩
  rw [size_eq]
  have : IsRangeIter (s.heap.push { cls := .type "range_iterator", data := .fields #[rawInt 0, rawInt (((n + k) / (k + 1) : Nat) : Int), rawInt (Int.ofNat (k + 1))] }) s.heap.objs.size 0 (((n + k) / (k + 1) : Nat) : Int) (Int.ofNat (k + 1)) := Heap.get?_push_size _ rfl
  simpa using this

theorem rangeIter_at (I : Inv C bad θ a σ s) {w : Value} (h : RangeR n0 t σ θ σ s w) : AtA C A bad a θ s (pyIter w) (Made n0 bad a false t σ) := AtA.grow I (rangeIter_grow I h)

noncomputable abbrev EnumR (n0 : Nat) (bad : Addr → Prop) (a : Act) (xs : List V) (σ : St) : Th → St → Shared → Value → Prop := fun θ' σ' s' w => σ' = σ ∧ n0 ≤ s'.heap.objs.size ∧ IterAt n0 bad θ' a s'.heap true (.vals (enumItems 0 xs)) 0 w
theorem enum_at (I : Inv C bad θ a σ s) (hn : n0 ≤ s.heap.objs.size) {xs : List V} {w : Value} (r : VR bad θ s.heap (.list xs) w) : AtA C A bad a θ s (call (.type "enumerate") [w]) (EnumR n0 bad a xs σ) := by
  obtain ⟨l, vs, rfl, h1, h2, hl, hi⟩ := r.inv
  ·
    refine fun E Q hQ => wpAny_gr (call_enumerate_list hl fun h' he hit hz hk g => ?_)
    have gr : Grow s { s with heap := h' } := ⟨fun b o e _ => hk b o e, g, rfl, rfl, rfl⟩
    have o1 := I.offFresh hn (Nat.le_refl s.heap.objs.size)
    have o2 := I.offFresh hn (Nat.le_succ s.heap.objs.size)
    refine hQ _ _ _ _ (Step.of_grow gr) (I.grow gr) ⟨rfl, Nat.le_trans hn gr.gr.2, .enum o2 o1 (Nat.succ_ne_self _) he hit h1 h2 ?_ (I.mvs (Step.of_grow (a := a) gr) hi)⟩
    obtain ⟨ob, e, q⟩ := hl; exact ⟨ob, hk _ _ e, q⟩
end
end Mine
end
section
namespace Mine
open PySem PySem.W PyProof.Rows PySem.Calls

noncomputable def FlR (bad : Addr → Prop) (θ : Th) (h : Heap) : Fl → Flow → Prop
  | .next, .next => True
  | .brk, .brk => True
  | .ret v, .ret w => VR bad θ h v w
  | _, _ => False
noncomputable abbrev PostT (σ : St) (b : Bool) : Th → St → Shared → Bool → Prop := fun _ σ' _ b' => σ' = σ ∧ b' = b
noncomputable abbrev PostL (bad : Addr → Prop) (σ : St) (vs : List V) : Th → St → Shared → List Value → Prop := fun θ' σ' s' ws => σ' = σ ∧ VRs bad θ' s'.heap vs ws
noncomputable abbrev PostF (bad : Addr → Prop) (σ : St) (f : Fl) : Th → St → Shared → Flow → Prop := fun θ' σ' s' fl => σ' = σ ∧ FlR bad θ' s'.heap f fl

noncomputable def SndX (C : Cfg) (F : List Fn) (fns : List Str) (n : Nat) : Prop := ∀ (A : Around) (bad : Addr → Prop) (a : Act) (θ : Th) (s : Shared) (σ : St) (nm : Nm) (env : Env) (k : Nat) (e : PySem.Expr) (x : X) (v : V) (σ' : St),
  Fit A n → EnvOk a nm env → Inv C bad θ a σ s → cX fns k nm e = some x → (ev F n).x x σ = some (v, σ') → At C A bad a θ s (eval e env) (Post bad σ' v)
noncomputable def SndT (C : Cfg) (F : List Fn) (fns : List Str) (n : Nat) : Prop := ∀ (A : Around) (bad : Addr → Prop) (a : Act) (θ : Th) (s : Shared) (σ : St) (nm : Nm) (env : Env) (k : Nat) (e : PySem.Expr) (x : X) (b : Bool) (σ' : St),
  Fit A n → EnvOk a nm env → Inv C bad θ a σ s → cX fns k nm e = some x → (ev F n).t x σ = some (b, σ') → At C A bad a θ s (isTrue e env (eval e env)) (PostT σ' b)
noncomputable def SndB (C : Cfg) (F : List Fn) (fns : List Str) (n : Nat) : Prop := ∀ (A : Around) (bad : Addr → Prop) (a : Act) (θ : Th) (s : Shared) (σ : St) (nm : Nm) (env : Env) (k : Nat) (ss : List Stmt) (f : Fl) (σ' : St),
  Fit A n → EnvOk a nm env → Inv C bad θ a σ s → (ev F n).b (cB (cS fns k nm) ss) σ = some (f, σ') → At C A bad a θ s (execs ss env) (PostF bad σ' f)

theorem cX_starred {fns : List Str} {k : Nat} {nm : Nm} {e : PySem.Expr} {p : Pos} : cX fns k nm (.Starred e p) = none := by cases k <;> rfl
theorem starEach_cons {e : PySem.Expr} {es : List PySem.Expr} {env : Env} (h : ∀ e' p, e ≠ .Starred e' p) : starEach (e :: es) env = (false, eval e env) :: starEach es env := by
  cases e <;> first | rfl | exact absurd rfl (h _ _)

section
variable {C : Cfg} {F : List Fn} {fns : List Str} {n : Nat} {A : Around} {bad : Addr → Prop} {a : Act} {θ : Th} {s : Shared} {σ σ' : St} {nm : Nm} {env : Env} {k : Nat}

section
variable {α β : Type} {e : PySem.Expr} {x : X} {g : V × St → Option α} {r : α} {f : Value → Sem β} {vs : List Value} {Ψ : Th → St → Shared → β → Prop}
theorem SndX.step (SX : SndX C F fns n) (hA : Fit A n) (Z : EnvOk a nm env) (I : Inv C bad θ a σ s) (hc : cX fns k nm e = some x) (he : @Option.rec (V × St) (fun _ => Option α) none g ((ev F n).x x σ) = some r)
    (h : ∀ v σ1 θ1 s1 w, Step θ a s.heap θ1 s1.heap → Inv C bad θ1 a σ1 s1 → VR bad θ1 s1.heap v w → g (v, σ1) = some r → At C A bad a θ1 s1 (f w) Ψ) : At C A bad a θ s (eval e env >>= f) Ψ :=
  eP he fun v σ1 h1 he => At.bind (SX _ _ _ _ _ _ _ _ _ _ _ _ _ hA Z I hc h1) fun θ1 σ1' s1 w st I1 p => h v σ1 θ1 s1 w st (p.1 ▸ I1) p.2 he
theorem SndX.stepH (SX : SndX C F fns n) (hA : Fit A n) (Z : EnvOk a nm env) (I : Inv C bad θ a σ s) (hc : cX fns k nm e = some x) (he : @Option.rec (V × St) (fun _ => Option α) none g ((ev F n).x x σ) = some r)
    (h : ∀ v σ1 θ1 s1 w, Step θ a s.heap θ1 s1.heap → Inv C bad θ1 a σ1 s1 → VR bad θ1 s1.heap v w → g (v, σ1) = some r → At C A bad a θ1 s1 (f w) Ψ) : At C A bad a θ s (PySem.holding vs (eval e env) >>= f) Ψ :=
  eP he fun v σ1 h1 he => At.bind (At.holding (SX _ _ _ _ _ _ _ _ _ _ _ _ _ hA Z I hc h1)) fun θ1 σ1' s1 w st I1 p => h v σ1 θ1 s1 w st (p.1 ▸ I1) p.2 he
theorem SndX.go (SX : SndX C F fns n) (hA : Fit A n) (Z : EnvOk a nm env) (I : Inv C bad θ a σ s) {v : V} {σ1 : St} (hc : cX fns k nm e = some x) (he : (ev F n).x x σ = some (v, σ1))
    (h : ∀ θ1 s1 w, Step θ a s.heap θ1 s1.heap → Inv C bad θ1 a σ1 s1 → VR bad θ1 s1.heap v w → At C A bad a θ1 s1 (f w) Ψ) : At C A bad a θ s (eval e env >>= f) Ψ :=
  At.bind (SX _ _ _ _ _ _ _ _ _ _ _ _ _ hA Z I hc he) fun θ1 _ s1 w st I1 p => h θ1 s1 w st (p.1 ▸ I1) p.2
theorem SndX.goH (SX : SndX C F fns n) (hA : Fit A n) (Z : EnvOk a nm env) (I : Inv C bad θ a σ s) {v : V} {σ1 : St} (hc : cX fns k nm e = some x) (he : (ev F n).x x σ = some (v, σ1))
    (h : ∀ θ1 s1 w, Step θ a s.heap θ1 s1.heap → Inv C bad θ1 a σ1 s1 → VR bad θ1 s1.heap v w → At C A bad a θ1 s1 (f w) Ψ) : At C A bad a θ s (PySem.holding vs (eval e env) >>= f) Ψ :=
  At.bind (At.holding (SX _ _ _ _ _ _ _ _ _ _ _ _ _ hA Z I hc he)) fun θ1 _ s1 w st I1 p => h θ1 s1 w st (p.1 ▸ I1) p.2
theorem SndT.go {b : Bool} {σ1 : St} {f : Bool → Sem β} (ST : SndT C F fns n) (hA : Fit A n) (Z : EnvOk a nm env) (I : Inv C bad θ a σ s) (hc : cX fns k nm e = some x) (he : (ev F n).t x σ = some (b, σ1))
    (h : ∀ θ1 s1, Step θ a s.heap θ1 s1.heap → Inv C bad θ1 a σ1 s1 → At C A bad a θ1 s1 (f b) Ψ) : At C A bad a θ s (isTrue e env (eval e env) >>= f) Ψ :=
  At.bind (ST _ _ _ _ _ _ _ _ _ _ _ _ _ hA Z I hc he) fun θ1 _ s1 w st I1 p => p.2 ▸ h θ1 s1 st (p.1 ▸ I1)
/-- a step that tells its value -/
theorem At.to {t : Sem Value} {v : V} {σ1 : St} (h : At C A bad a θ s t (Post bad σ1 v)) (k : ∀ θ1 s1 w, Step θ a s.heap θ1 s1.heap → Inv C bad θ1 a σ1 s1 → VR bad θ1 s1.heap v w → At C A bad a θ1 s1 (f w) Ψ) : At C A bad a θ s (t >>= f) Ψ :=
  At.bind h fun θ1 _ s1 w st I1 p => k θ1 s1 w st (p.1 ▸ I1) p.2
theorem At.eqv {t t' : Sem β} (e : t = t') (h : At C A bad a θ s t' Ψ) : At C A bad a θ s t Ψ := e ▸ h
theorem Post.cast {t : Sem Value} {σ1 σ2 : St} {v1 v2 : V} (e : some (v1, σ1) = some (v2, σ2)) (h : At C A bad a θ s t (Post bad σ1 v1)) : At C A bad a θ s t (Post bad σ2 v2) := by cases e; exact h
theorem PostT.cast {t : Sem Bool} {σ1 σ2 : St} {v1 v2 : Bool} (e : some (v1, σ1) = some (v2, σ2)) (h : At C A bad a θ s t (PostT σ1 v1)) : At C A bad a θ s t (PostT σ2 v2) := by cases e; exact h
theorem PostF.cast {t : Sem Flow} {σ1 σ2 : St} {v1 v2 : Fl} (e : some (v1, σ1) = some (v2, σ2)) (h : At C A bad a θ s t (PostF bad σ1 v1)) : At C A bad a θ s t (PostF bad σ2 v2) := by cases e; exact h
theorem PostF.next {σ1 σ2 : St} {fl : Fl} (e : some (Fl.next, σ1) = some (fl, σ2)) (I : Inv C bad θ a σ1 s) : At C A bad a θ s (Pure.pure Flow.next) (PostF bad σ2 fl) := PostF.cast e (At.pure I ⟨rfl, trivial⟩)
end
theorem spliced_cons (t : Sem Value) (l : List (Bool × Sem Value)) : spliced ((false, t) :: l) = (t >>= fun v => Pure.pure [v] >>= fun here => PySem.holding here (spliced l) >>= fun r => Pure.pure (here ++ r)) := by rw [spliced]; rfl
theorem evL_el {r : Ev} {x : X} {xs : List X} {vs : List V} {P : Prop} (h : evL r (x :: xs) σ = some (vs, σ')) (k : ∀ v σ1 ys, r.x x σ = some (v, σ1) → evL r xs σ1 = some (ys, σ') → vs = v :: ys → P) : P := by
  rw [evL] at h
  set_option smartUnfolding false in exact eP h fun v σ1 h1 h => eP h fun ys σ2 h2 h => pI h fun e1 e2 => k v σ1 ys h1 (e2 ▸ h2) e1.symm
theorem evL_at (SX : SndX C F fns n) (hA : Fit A n) (Z : EnvOk a nm env) (pos : Pos) : ∀ {es : List PySem.Expr} {xs : List X} {vs : List V} {θ : Th} {s : Shared} {σ σ' : St}, Inv C bad θ a σ s → cL (cX fns k nm) es = some xs → evL (ev F n) xs σ = some (vs, σ') →
    At C A bad a θ s (spliced (backTo pos (starEach es env))) (PostL bad σ' vs)
  | [], xs, vs, θ, s, σ, σ', I, hc, he => by
    cases hc; cases he
    exact At.pure I ⟨rfl, .nil⟩
  | e :: es, xs, vs, θ, s, σ, σ', I, hc, he => by
    refine cL_el hc fun x xs' hx hxs e0 => ?_
    subst e0
    refine evL_el he fun v σ1 vs' h1 h2 e0 => ?_
    subst e0
    refine At.eqv (congrArg (fun l => spliced (backTo pos l)) (starEach_cons (fun e' p q => by rw [q, cX_starred] at hx; exact nos hx))) ?_
    refine At.eqv (spliced_cons (eval e env) (backTo pos (starEach es env))) (SX.go hA Z I hx h1 fun θ1 s1 w st I1 r => At.pureB (At.bind (At.holding (evL_at SX hA Z pos I1 hxs h2)) fun θ2 σ2' s2 ws st2 I2 p2 => At.pure I2 ⟨p2.1, .cons (I1.mv st2 r) p2.2⟩))

theorem evO_at (SX : SndX C F fns n) (hA : Fit A n) (Z : EnvOk a nm env) (I : Inv C bad θ a σ s) {o : Option PySem.Expr} {x : Option X} {v : Option V} (hc : cO (cX fns k nm) o = some x) (he : evO (ev F n) x σ = some (v, σ')) :
    At C A bad a θ s (valueOrNone (evalOpt o env)) (fun θ' σ'' s' w => σ'' = σ' ∧ PartR bad θ' s'.heap v w) := by
  cases o with
  | none =>
    cases hc; cases he
    exact At.pure I ⟨rfl, rfl⟩
  | some e =>
    set_option smartUnfolding false in refine eS hc fun x' hx hc => ?_
    cases hc
    set_option smartUnfolding false in refine eP he fun v' σ1 h1 he => ?_
    refine pI he fun e1 e2 => ?_
    subst e1 e2
    exact SX _ _ _ _ _ _ _ _ _ _ _ _ _ hA Z I hx h1

theorem At.tr {β : Type} {f : Bool → Sem β} {vs : List Value} {Ψ : Th → St → Shared → β → Prop} {v : V} {w : Value} {b : Bool} (I : Inv C bad θ a σ s) (r : VR bad θ s.heap v w) (e : truth v = some b)
    (h : ∀ θ1 s1, Step θ a s.heap θ1 s1.heap → Inv C bad θ1 a σ s1 → At C A bad a θ1 s1 (f b) Ψ) : At C A bad a θ s (PySem.holding vs (truthy w) >>= f) Ψ :=
  At.bind (At.holding (At.any (truthy_at I r e))) fun θ1 _ s1 w st I1 p => p.2 ▸ h θ1 s1 st (p.1 ▸ I1)
theorem evAnd_el {r : Ev} {x y : X} {ys : List X} {q : V × St} {P : Prop} (h : evAnd r (x :: y :: ys) σ = some q) (k : ∀ v σ1 b, r.x x σ = some (v, σ1) → truth v = some b → @Bool.rec (fun _ => Option (V × St)) (some (v, σ1)) (evAnd r (y :: ys) σ1) b = some q → P) : P := by
  rw [evAnd] at h
  · set_option smartUnfolding false in refine eP h ?_
    intro v σ1 h1 h
    cases ht : truth v with
    | none => dsimp only at h; rw [ht] at h; exact nos h
    | some b => dsimp only at h; rw [ht] at h; exact k v σ1 b h1 ht (by cases b <;> exact h)
  · exact fun h => nomatch h
theorem evAnd_at (SX : SndX C F fns n) (hA : Fit A n) (Z : EnvOk a nm env) (pos : Pos) : ∀ {es : List PySem.Expr} {xs : List X} {v : V} {θ : Th} {s : Shared} {σ σ' : St}, Inv C bad θ a σ s → cL (cX fns k nm) es = some xs → evAnd (ev F n) xs σ = some (v, σ') →
    At C A bad a θ s (boolOp pos .And (evalEach es env)) (Post bad σ' v)
  | [], xs, v, θ, s, σ, σ', I, hc, he => by cases hc; exact nos he
  | [e], xs, v, θ, s, σ, σ', I, hc, he => by
    refine cL_el hc fun x xs' hx hxs e0 => ?_
    cases hxs
    subst e0
    exact SX _ _ _ _ _ _ _ _ _ _ _ _ _ hA Z I hx he
  | e :: e2 :: es, xs, v, θ, s, σ, σ', I, hc, he => by
    refine cL_el hc fun x xs' hx hxs e0 => ?_
    subst e0
    refine cL_el hxs fun y ys hy hys e0 => ?_
    subst e0
    refine evAnd_el he fun v1 σ1 b h1 ht he => ?_
    refine SX.go (f := fun v => standAt pos >>= fun _ => PySem.holding [v] (truthy v) >>= fun t => match BoolOp.And, t with
        | .And, false | .Or, true => Pure.pure v
        | _, _ => boolOp pos .And (evalEach (e2 :: es) env)) hA Z I hx h1 fun θ1 s1 w st I1 r => At.stand (At.tr I1 r ht fun θ2 s2 st2 I2 => ?_)
    cases b with
    | true => exact evAnd_at SX hA Z pos I2 hxs he
    | false => exact Post.cast he (At.pure I2 ⟨rfl, I1.mv st2 r⟩)
theorem evOr_el {r : Ev} {x y : X} {ys : List X} {q : V × St} {P : Prop} (h : evOr r (x :: y :: ys) σ = some q) (k : ∀ v σ1 b, r.x x σ = some (v, σ1) → truth v = some b → @Bool.rec (fun _ => Option (V × St)) (evOr r (y :: ys) σ1) (some (v, σ1)) b = some q → P) : P := by
  rw [evOr] at h
  · set_option smartUnfolding false in refine eP h ?_
    intro v σ1 h1 h
    cases ht : truth v with
    | none => dsimp only at h; rw [ht] at h; exact nos h
    | some b => dsimp only at h; rw [ht] at h; exact k v σ1 b h1 ht (by cases b <;> exact h)
  · exact fun h => nomatch h
theorem evOr_at (SX : SndX C F fns n) (hA : Fit A n) (Z : EnvOk a nm env) (pos : Pos) : ∀ {es : List PySem.Expr} {xs : List X} {v : V} {θ : Th} {s : Shared} {σ σ' : St}, Inv C bad θ a σ s → cL (cX fns k nm) es = some xs → evOr (ev F n) xs σ = some (v, σ') →
    At C A bad a θ s (boolOp pos .Or (evalEach es env)) (Post bad σ' v)
  | [], xs, v, θ, s, σ, σ', I, hc, he => by cases hc; exact nos he
  | [e], xs, v, θ, s, σ, σ', I, hc, he => by
    refine cL_el hc fun x xs' hx hxs e0 => ?_
    cases hxs
    subst e0
    exact SX _ _ _ _ _ _ _ _ _ _ _ _ _ hA Z I hx he
  | e :: e2 :: es, xs, v, θ, s, σ, σ', I, hc, he => by
    refine cL_el hc fun x xs' hx hxs e0 => ?_
    subst e0
    refine cL_el hxs fun y ys hy hys e0 => ?_
    subst e0
    refine evOr_el he fun v1 σ1 b h1 ht he => ?_
    refine SX.go (f := fun v => standAt pos >>= fun _ => PySem.holding [v] (truthy v) >>= fun t => match BoolOp.Or, t with
        | .And, false | .Or, true => Pure.pure v
        | _, _ => boolOp pos .Or (evalEach (e2 :: es) env)) hA Z I hx h1 fun θ1 s1 w st I1 r => At.stand (At.tr I1 r ht fun θ2 s2 st2 I2 => ?_)
    cases b with
    | false => exact evOr_at SX hA Z pos I2 hxs he
    | true => exact Post.cast he (At.pure I2 ⟨rfl, I1.mv st2 r⟩)
theorem evAll_el {r : Ev} {x : X} {xs : List X} {q : Bool × St} {P : Prop} (h : evAll r (x :: xs) σ = some q) (k : ∀ b σ1, r.t x σ = some (b, σ1) → @Bool.rec (fun _ => Option (Bool × St)) (some (false, σ1)) (evAll r xs σ1) b = some q → P) : P := by
  rw [evAll] at h
  cases ht : r.t x σ with
  | none => rw [ht] at h; exact nos h
  | some p => rw [ht] at h; exact k p.1 p.2 ht (by cases p with | mk b σ1 => cases b <;> exact h)
theorem evAll_at (ST : SndT C F fns n) (hA : Fit A n) (Z : EnvOk a nm env) : ∀ {es : List PySem.Expr} {xs : List X} {b : Bool} {θ : Th} {s : Shared} {σ σ' : St}, Inv C bad θ a σ s → cL (cX fns k nm) es = some xs → evAll (ev F n) xs σ = some (b, σ') →
    At C A bad a θ s (allTrue .And es env) (PostT σ' b)
  | [], xs, b, θ, s, σ, σ', I, hc, he => by cases hc; exact PostT.cast he (At.pure I ⟨rfl, rfl⟩)
  | e :: es, xs, b, θ, s, σ, σ', I, hc, he => by
    refine cL_el hc fun x xs' hx hxs e0 => ?_
    subst e0
    refine evAll_el he fun b1 σ1 h1 he => ?_
    refine ST.go (f := fun t => match BoolOp.And, t with
      | .And, false => Pure.pure false
      | .Or, true => Pure.pure true
      | _, _ => allTrue .And es env) hA Z I hx h1 fun θ1 s1 st I1 => ?_
    cases b1 with
    | true => exact evAll_at ST hA Z I1 hxs he
    | false => exact PostT.cast he (At.pure I1 ⟨rfl, rfl⟩)
theorem evAny_el {r : Ev} {x : X} {xs : List X} {q : Bool × St} {P : Prop} (h : evAny r (x :: xs) σ = some q) (k : ∀ b σ1, r.t x σ = some (b, σ1) → @Bool.rec (fun _ => Option (Bool × St)) (evAny r xs σ1) (some (true, σ1)) b = some q → P) : P := by
  rw [evAny] at h
  cases ht : r.t x σ with
  | none => rw [ht] at h; exact nos h
  | some p => rw [ht] at h; exact k p.1 p.2 ht (by cases p with | mk b σ1 => cases b <;> exact h)
theorem evAny_at (ST : SndT C F fns n) (hA : Fit A n) (Z : EnvOk a nm env) : ∀ {es : List PySem.Expr} {xs : List X} {b : Bool} {θ : Th} {s : Shared} {σ σ' : St}, Inv C bad θ a σ s → cL (cX fns k nm) es = some xs → evAny (ev F n) xs σ = some (b, σ') →
    At C A bad a θ s (allTrue .Or es env) (PostT σ' b)
  | [], xs, b, θ, s, σ, σ', I, hc, he => by cases hc; exact PostT.cast he (At.pure I ⟨rfl, rfl⟩)
  | e :: es, xs, b, θ, s, σ, σ', I, hc, he => by
    refine cL_el hc fun x xs' hx hxs e0 => ?_
    subst e0
    refine evAny_el he fun b1 σ1 h1 he => ?_
    refine ST.go (f := fun t => match BoolOp.Or, t with
      | .And, false => Pure.pure false
      | .Or, true => Pure.pure true
      | _, _ => allTrue .Or es env) hA Z I hx h1 fun θ1 s1 st I1 => ?_
    cases b1 with
    | false => exact evAny_at ST hA Z I1 hxs he
    | true => exact PostT.cast he (At.pure I1 ⟨rfl, rfl⟩)
end
end Mine
end
section
namespace Mine
open PySem PySem.W PyProof.Rows PySem.Calls

theorem stars_false {env : Env} {fns : List Str} {k : Nat} {nm : Nm} {pos : Pos} : ∀ {es : List PySem.Expr} {xs : List X}, cL (cX fns k nm) es = some xs → (backTo pos (starEach es env)).any (·.1) = false
  | [], _, _ => rfl
  | e :: es, xs, hc => by
    simp only [cL] at hc
    set_option smartUnfolding false in refine elS hc ?_; clear hc; intro x hx hc
    set_option smartUnfolding false in refine elS hc ?_; clear hc; intro xs' hxs hc
    rw [starEach_cons (fun e' p q => by rw [q, cX_starred] at hx; cases hx)]
    show (false || (backTo pos (starEach es env)).any (·.1)) = false
    rw [stars_false hxs]; rfl

section
variable {C : Cfg} {F : List Fn} {fns : List Str} {n : Nat} {A : Around} {bad : Addr → Prop} {a : Act} {θ : Th} {s : Shared} {σ σ' : St} {nm : Nm} {env : Env} {k : Nat}

theorem evalArgs_eq (f : Value) : ∀ (args : List (Bool × Sem Value)), args.any (·.1) = false →
    evalArgs f true args [] = (spliced args >>= fun ws => PySem.holding (ws ++ []) (evalAll [] >>= fun ks => Pure.pure ws >>= fun ps => Pure.pure (⟨ps, ([] : List Str).zip ks⟩ : Args)))
  | [], _ => rfl
  | [(false, _)], _ => rfl
  | (false, _) :: _ :: _, _ => rfl
  | (true, _) :: _, hp => by simp at hp
theorem evalArgs_at {f : Value} {args : List (Bool × Sem Value)} {vs : List V} (hp : args.any (·.1) = false) (h : At C A bad a θ s (spliced args) (PostL bad σ' vs)) :
    At C A bad a θ s (evalArgs f true args []) (fun θ' σ'' s' r => σ'' = σ' ∧ r.kw = [] ∧ VRs bad θ' s'.heap vs r.pos) := by
  rw [evalArgs_eq f args hp]
  refine At.bind h fun θ1 σ1 s1 ws st I1 p => ?_
  obtain ⟨rfl, r⟩ := p
  exact At.holding (At.pureB (At.pureB (At.pure I1 ⟨rfl, rfl, r⟩)))

/-- what keeps the arguments of a call -/
noncomputable def PlainFn (h : Heap) (f : Value) : Prop := (∃ T, f = .type T) ∨ (∃ id, f = .builtin id) ∨ ∃ (b : Addr) (o : Obj) (fd : FuncData), f = .ref b ∧ h.get? b = some o ∧ o.data = .func fd

theorem callWith_at {Ψ : Th → St → Shared → Value → Prop} {f : Value} {first : List Value} {pos : Pos} {args : List (Bool × Sem Value)} {vs : List V} (hf : PlainFn C.h₀ f) (hp : args.any (·.1) = false)
    (h : At C A bad a θ s (spliced args) (PostL bad σ' vs)) (hc : ∀ θ1 s1 ws, Step θ a s.heap θ1 s1.heap → Inv C bad θ1 a σ' s1 → VRs bad θ1 s1.heap vs ws → At C A bad a θ1 s1 (call f (first ++ ws)) Ψ) :
    At C A bad a θ s (callWith pos f first args []) Ψ := by
  unfold callWith
  refine At.bind (At.holding (evalArgs_at hp h)) fun θ1 σ1 s1 ar st I1 p => ?_
  obtain ⟨rfl, hk, r⟩ := p
  refine At.stand ?_
  have tail : ∀ {t : Sem Value}, At C A bad a θ1 s1 t Ψ → At C A bad a θ1 s1 (t >>= fun r => PySem.holding [r] PySem.point >>= fun _ => Pure.pure r) Ψ := fun ht =>
    At.bind ht fun θ2 σ2 s2 r2 st2 I2 p2 => At.holdPoint (At.pure I2 p2)
  have hcall := hc θ1 s1 ar.pos st I1 r
  have hkw : ar.kw = [] := hk
  simp only [hp, List.any_nil, Bool.or_false, hkw]
  rcases hf with ⟨T, rfl⟩ | ⟨id, rfl⟩ | ⟨b, o, fd, rfl, ho, hd⟩
  · refine At.pureB (x := Keeper.machine) ?_
    exact tail hcall
  · refine At.pureB (x := Keeper.machine) ?_
    exact tail hcall
  · have ek : At C A bad a θ1 s1 (keeperOf (.ref b)) (fun θ' σ' s' kp => θ' = θ1 ∧ s' = s1 ∧ kp = .frame) := At.any fun E Q hQ => by
      unfold keeperOf
      refine wpAny_bind (wpAny_load (I1.pres _ _ ho) ?_)
      rw [hd]
      exact wpAny_pure (hQ _ _ _ _ (Step.refl ..) I1 ⟨rfl, rfl, rfl⟩)
    refine At.bind ek fun θ2 σ2 s2 kp st2 I2 p2 => ?_
    obtain ⟨rfl, rfl, rfl⟩ := p2
    dsimp only
    split
    · exact tail hcall
    · exact tail (At.keep hcall)
/-- a call whose arguments are made here -/
theorem callL_at {α : Type} {Ψ : Th → St → Shared → Value → Prop} {f : Value} {first : List Value} {pos : Pos} {es : List PySem.Expr} {xs : List X} {g : List V × St → Option α} {r : α} (SX : SndX C F fns n) (hA : Fit A n) (Z : EnvOk a nm env) (I : Inv C bad θ a σ s) (hf : PlainFn C.h₀ f)
    (hc : cL (cX fns k nm) es = some xs) (he : @Option.rec (List V × St) (fun _ => Option α) none g (evL (ev F n) xs σ) = some r)
    (h : ∀ vs σ1 θ1 s1 ws, Step θ a s.heap θ1 s1.heap → Inv C bad θ1 a σ1 s1 → VRs bad θ1 s1.heap vs ws → g (vs, σ1) = some r → At C A bad a θ1 s1 (call f (first ++ ws)) Ψ) : At C A bad a θ s (callWith pos f first (backTo pos (starEach es env)) []) Ψ :=
  eP he fun vs σ1 h1 he => callWith_at hf (stars_false hc) (evL_at SX hA Z pos I hc h1) fun θ1 s1 ws st I1 r => h vs σ1 θ1 s1 ws st I1 r he
end
end Mine
end
section
namespace Mine
open PySem PySem.W PyProof.Rows PySem.Calls

theorem frz_noRefB {f : Nat → Option V} : (∀ x, noRef x = true → frzS f x = some x) ∧ ∀ x, noRefs x = true → frzL f x = some x :=
  V.ind (P := fun x => noRef x = true → frzS f x = some x) (Q := fun x => noRefs x = true → frzL f x = some x) (fun _ => rfl) (fun _ _ => rfl) (fun _ _ => rfl) (fun _ _ => rfl) (fun _ _ _ => rfl) (fun xs ih h => by rw [frzS, ih h]) (fun xs ih h => by rw [frzS, ih h]) (fun _ h => nob h) (fun _ => rfl)
    fun x xs i1 i2 h => by
      have h : (noRef x && noRefs xs) = true := h
      rw [frzL, i1 (Bool.and_eq_true_iff.mp h).1, i2 (Bool.and_eq_true_iff.mp h).2]
theorem frz_noRefs {f : Nat → Option V} {x : List V} (h : noRefs x = true) : frzL f x = some x := frz_noRefB.2 x h
theorem frz_noRef {f : Nat → Option V} {x : V} (h : noRef x = true) : frzS f x = some x := frz_noRefB.1 x h
theorem VR.shed {bad bad1 : Addr → Prop} {θ θ1 : Th} {h : Heap} (hg : ∀ t b, θ.G t b → θ1.G t b) (hn : ∀ b, b ∉ θ.as → ¬ bad b → b ∉ θ1.as ∧ ¬ bad1 b) {x : V} {w : Value} (hx : noRef x = true) (r : VR bad θ h x w) : VR bad1 θ1 h x w :=
  (frz_toB (f := fun _ => Option.none) hg hn fun _ _ _ _ e => nos e).1 r _ (frz_noRefB.1 x hx)
theorem VRs.shed {bad bad1 : Addr → Prop} {θ θ1 : Th} {h : Heap} (hg : ∀ t b, θ.G t b → θ1.G t b) (hn : ∀ b, b ∉ θ.as → ¬ bad b → b ∉ θ1.as ∧ ¬ bad1 b) {x : List V} {w : List Value} (hx : noRefs x = true) (r : VRs bad θ h x w) : VRs bad1 θ1 h x w :=
  (frz_toB (f := fun _ => Option.none) hg hn fun _ _ _ _ e => nos e).2 r _ (frz_noRefs hx)

section
variable {C : Cfg} {bad : Addr → Prop} {θ : Th} {a : Act} {s : Shared} {σ : St}
theorem Inv.regG (I : Inv C bad θ a σ s) {G2 : Tok → Array UInt8 → Prop} (hG : ∀ t b, θ.G t b → G2 t b) (gt : ∀ t b, G2 t b → t < s.toks) (gf : ∀ t b c, G2 t b → G2 t c → b = c) :
    Inv C bad ⟨θ.as, G2⟩ a σ s ∧ Step θ a s.heap ⟨θ.as, G2⟩ s.heap := by
  have st : Step θ a s.heap ⟨θ.as, G2⟩ s.heap := ⟨⟨[], by simp, by simp⟩, hG, fun _ _ e _ => e, Nat.le_refl _⟩
  refine ⟨⟨I.pres, I.nodup, I.new, I.badLive, I.badOut, I.len, fun k x o e1 e2 => OR.mv I st (fun _ e => e) (I.objs k x o e1 e2), ?_, I.llen, I.keys, I.gens, I.drawn, I.os, I.toks, gt, gf⟩, st⟩
  obtain ⟨m, hn, hm⟩ := I.loc
  refine ⟨m, hn, fun i l v e1 e2 => ?_⟩
  have z := hm i l v e1 e2
  cases l with
  | dict y => exact I.mvo st z
  | cell c => obtain ⟨v', q, z⟩ := z; exact ⟨v', q, I.mvo st z⟩
  | ro c => obtain ⟨v', q, z⟩ := z; exact ⟨v', q, I.mvo st z⟩
end

/-! the frame of a call -/
noncomputable def locOf (cells : List (Str × Addr)) : Str × NameKind → Loc
  | (x, .cell) => .cell ((cells.lookup x).getD 0)
  | (x, .free) => .ro ((cells.lookup x).getD 0)
  | (x, _) => .dict x

theorem cellsFrom_keeps {x : Str} : ∀ (names : Nm) (n : Nat) (acc : List (Str × Addr)), (acc.lookup x).isSome = true → ((cellsFrom n names acc).lookup x).isSome = true
  | [], _, _, h => h
  | (y, k) :: r, n, acc, h => by
    unfold cellsFrom
    split
    · refine cellsFrom_keeps r _ _ ?_
      rw [List.lookup_cons]
      split
      · rfl
      · exact h
    · exact cellsFrom_keeps r _ _ h
theorem cellsFrom_has {x : Str} : ∀ (names : Nm) (n : Nat) (acc : List (Str × Addr)), (x, NameKind.cell) ∈ names → ((cellsFrom n names acc).lookup x).isSome = true
  | (y, k) :: r, n, acc, h => by
    unfold cellsFrom
    rcases List.mem_cons.mp h with e | h
    · (first | exact nos e | cases e)
      rw [if_pos (by decide)]
      exact cellsFrom_keeps r _ _ (by simp)
    · split
      · exact cellsFrom_has r _ _ h
      · exact cellsFrom_has r _ _ h

theorem lookup_zip_none {x : Str} : ∀ (ps : List Str) (vs : List Value), x ∉ ps → (ps.zip vs).lookup x = none
  | [], _, _ => by simp
  | _ :: _, [], _ => by simp
  | p :: ps, v :: vs, h => by
    rw [List.zip_cons_cons, List.lookup_cons, show (x == p) = false from beq_eq_false_iff_ne.mpr fun e => h (by simp [e])]
    exact lookup_zip_none ps vs fun q => h (.tail _ q)
theorem bindL_spec {kindOf : Str → Option NameKind} {x : Str} (hx : kindOf x = some .local) : ∀ (ps : List Str) (vs : List Value) (m : Str → Option Value), ps.Nodup → bindL kindOf (ps.zip vs) m x = ((ps.zip vs).lookup x).or (m x)
  | [], _, _, _ => by simp [bindL]
  | _ :: _, [], _, _ => by simp [bindL]
  | p :: ps, v :: vs, m, h => by
    obtain ⟨h1, h2⟩ := List.nodup_cons.mp h
    rw [List.zip_cons_cons, bindL, bindL_spec hx ps vs _ h2, List.lookup_cons]
    by_cases e : x = p
    · subst e
      rw [lookup_zip_none ps vs h1, if_pos hx]; simp
    · rw [show (x == p) = false from beq_eq_false_iff_ne.mpr e]
      congr 1
      split
      · exact if_neg e
      · rfl
theorem bindC_spec {kindOf : Str → Option NameKind} {x : Str} (hx : kindOf x ≠ some .local) : ∀ (ps : List Str) (vs : List Value) (m : Str → Option Value), ps.Nodup → bindC kindOf (ps.zip vs) m x = ((ps.zip vs).lookup x).or (m x)
  | [], _, _, _ => by simp [bindC]
  | _ :: _, [], _, _ => by simp [bindC]
  | p :: ps, v :: vs, m, h => by
    obtain ⟨h1, h2⟩ := List.nodup_cons.mp h
    rw [List.zip_cons_cons, bindC, bindC_spec hx ps vs _ h2, List.lookup_cons]
    by_cases e : x = p
    · subst e
      rw [lookup_zip_none ps vs h1, if_neg hx]; simp
    · rw [show (x == p) = false from beq_eq_false_iff_ne.mpr e]
      congr 1
      split
      · rfl
      · exact if_neg e
theorem argIdx_lookup {x : Str} : ∀ (ps : List Str) (vs : List Value) (j : Nat), ps.Nodup → match argIdx x ps j with | none => (ps.zip vs).lookup x = none | some i => j ≤ i ∧ (ps.zip vs).lookup x = vs[i - j]?
  | [], _, _, _ => by simp [argIdx]
  | p :: ps, vs, j, h => by
    obtain ⟨h1, h2⟩ := List.nodup_cons.mp h
    unfold argIdx
    by_cases e : p = x
    · subst e
      rw [if_pos rfl]
      cases vs with
      | nil => simp
      | cons v vs => simp
    · rw [if_neg e]
      have ih := argIdx_lookup (x := x) ps (vs.drop 1) (j + 1) h2
      have e2 : ((p :: ps).zip vs).lookup x = (ps.zip (vs.drop 1)).lookup x := by
        cases vs with
        | nil => simp
        | cons v vs => rw [List.zip_cons_cons, List.lookup_cons, show (x == p) = false from beq_eq_false_iff_ne.mpr (Ne.symm e)]; rfl
      rw [e2]
      split
      · rename_i q; rw [q] at ih; exact ih
      · rename_i i q
        rw [q] at ih
        refine ⟨by omega, ih.2.trans ?_⟩
        rw [List.getElem?_drop]
        congr 1; omega
theorem initLoc_get {us : List V} : ∀ (cs : List (Option Nat)) (i : Nat), (initLoc us cs)[i]? = (cs[i]?).map fun c => match c with | none => none | some k => us[k]?
  | [], i => by simp [initLoc]
  | none :: cs, 0 => by simp [initLoc]
  | some k :: cs, 0 => by simp [initLoc]
  | none :: cs, i + 1 => by simp [initLoc, initLoc_get cs i]
  | some k :: cs, i + 1 => by simp [initLoc, initLoc_get cs i]
theorem initLoc_len {us : List V} : ∀ (cs : List (Option Nat)), (initLoc us cs).length = cs.length
  | [] => rfl
  | none :: cs => by simp [initLoc, initLoc_len cs]
  | some k :: cs => by simp [initLoc, initLoc_len cs]
end Mine
end
section
namespace Mine
open PySem PySem.W PyProof.Rows PySem.Calls

theorem bindL_other {kindOf : Str → Option NameKind} {x : Str} (hx : kindOf x ≠ some .local) : ∀ (bs : List (Str × Value)) (m : Str → Option Value), bindL kindOf bs m x = m x
  | [], _ => rfl
  | (p, v) :: r, m => by
    rw [bindL, bindL_other hx r]
    split
    · rename_i hp
      exact if_neg (c := x = p) fun e => hx (by rw [e]; exact hp)
    · rfl
theorem lookup_nodup {nm : Nm} (h : (nm.map (·.1)).Nodup) {i : Nat} {x : Str} {k : NameKind} (hi : nm[i]? = some (x, k)) : nm.lookup x = some k := by
  induction nm generalizing i with
  | nil => simp at hi
  | cons p r ih =>
    obtain ⟨y, k'⟩ := p
    rw [List.map_cons] at h
    obtain ⟨h1, h2⟩ := List.nodup_cons.mp h
    cases i with
    | zero => simp at hi; simp [hi]
    | succ i =>
      have hi' : r[i]? = some (x, k) := by simpa using hi
      have hm : x ∈ r.map (·.1) := List.mem_map_of_mem (f := fun p : Str × NameKind => p.1) (List.mem_of_getElem? hi')
      rw [List.lookup_cons, show (x == y) = false from beq_eq_false_iff_ne.mpr fun e => h1 (e ▸ hm)]
      exact ih h2 hi'

theorem envOk_new {nm : Nm} {scope : Scope} {L : Addr} {cells : List (Str × Addr)} {qual : Str} {fn : Option Addr} {code : Value} (hs : scope.names = nm) (hk : scope.kind = .function) (hn : (nm.map (·.1)).Nodup) (hf : ∀ p ∈ nm, p.2 ≠ .free)
    (hc : ∀ x, (x, NameKind.cell) ∈ nm → (cells.lookup x).isSome = true) (hp : (nm.all fun p => !(p.1 == ("__debug__" : Str)) && !(p.1 == ("__classdict__" : Str))) = true) :
    EnvOk ⟨L, nm.map (locOf cells)⟩ nm (newEnv scope L mainGlobals cells qual fn code none builtinsNs) := by
  refine ⟨hk, rfl, rfl, rfl, fun i x k hi => ?_, by simp, hp⟩
  have hl : (newEnv scope L mainGlobals cells qual fn code none builtinsNs).kindOf x = some k := by
    show scope.names.lookup x = some k
    rw [hs]; exact lookup_nodup hn hi
  have hloc : (nm.map (locOf cells))[i]? = some (locOf cells (x, k)) := by rw [List.getElem?_map, hi]; rfl
  cases k with
  | cell =>
    obtain ⟨c, e⟩ := Option.isSome_iff_exists.mp (hc x (List.mem_of_getElem? hi))
    refine ⟨hl, c, e, ?_⟩
    rw [hloc]; simp [locOf, e]
  | free => exact absurd rfl (hf _ (List.mem_of_getElem? hi))
  | _ => exact ⟨hl, hloc⟩

section
variable {C : Cfg} {F : List Fn} {fns : List Str} {K : Nat} {mg : Str → Option Value} {i : Nat} {f : Str} {fn : Fn} {b : Addr} {o : Obj} {fd : FuncData} {body : List Stmt} {params : List Str}

theorem enter_inv (Fo : FnOk C F fns K mg i f fn b o fd body params) {bad : Addr → Prop} {θ : Th} {objs : List O} {s1 s' : Shared} {L : Addr} {us : List V} {vals : List Value} (hL : L = s1.heap.objs.size)
    (pres : ∀ b o, C.h₀.get? b = some o → s1.heap.get? b = some o) (size : C.h₀.objs.size ≤ s1.heap.objs.size) (nd : θ.as.Nodup) (hin : ∀ x ∈ θ.as, C.h₀.objs.size ≤ x ∧ ∃ o, s1.heap.get? x = some o)
    (hb : ∀ b, bad b → (∃ o, s1.heap.get? b = some o) ∧ b ∉ θ.as) (len : θ.as.length = objs.length) (hobjs : ∀ (k : Nat) x o, θ.as[k]? = some x → objs[k]? = some o → OR bad θ s1.heap o x)
    (gens : s1.gens = C.gens) (drawn : s1.drawn = C.drawn) (os : s1.os = C.os) (toks : 0 < s1.toks) (gtok : ∀ t b, θ.G t b → t < s1.toks) (gfun : ∀ t b c, θ.G t b → θ.G t c → b = c)
    (ra : VRs bad θ s1.heap us vals)
    (x : InCallC s1 L (bindL (fun z => fd.scope.names.lookup z) (params.zip vals) fun _ => none) (cellsFrom (L + 1) fd.scope.names []) (bindC (fun z => fd.scope.names.lookup z) (params.zip vals) fun _ => none) s') (g : Gr s1 s') :
    Inv C bad θ ⟨L, fd.scope.names.map (locOf (cellsFrom (L + 1) fd.scope.names []))⟩ ⟨initLoc us fn.init, objs⟩ s' := by
  obtain ⟨h', tk, rfl⟩ := x.toInCall.same
  have keep := x.toInCall.keep
  have mv : ∀ {v w}, VR bad θ s1.heap v w → VR bad θ h' v w := fun r => r.move (fun b its h1 h2 l => ⟨h1, h2, by obtain ⟨o, e, q⟩ := l; exact ⟨o, keep _ _ e, q⟩⟩)
    (fun b its h1 h2 l => ⟨h1, h2, by obtain ⟨o, e, q⟩ := l; exact ⟨o, keep _ _ e, q⟩⟩) (fun _ _ e => e) fun _ _ q => q
  have mvs : ∀ {v w}, VRs bad θ s1.heap v w → VRs bad θ h' v w := fun r => r.move (fun b its h1 h2 l => ⟨h1, h2, by obtain ⟨o, e, q⟩ := l; exact ⟨o, keep _ _ e, q⟩⟩)
    (fun b its h1 h2 l => ⟨h1, h2, by obtain ⟨o, e, q⟩ := l; exact ⟨o, keep _ _ e, q⟩⟩) (fun _ _ e => e) fun _ _ q => q
  have cellOf : ∀ y, (y, NameKind.cell) ∈ fd.scope.names → ∃ c, (cellsFrom (L + 1) fd.scope.names []).lookup y = some c := fun y hy => Option.isSome_iff_exists.mp (cellsFrom_has _ _ _ hy)
  have own : ∀ y, Own θ ⟨L, fd.scope.names.map (locOf (cellsFrom (L + 1) fd.scope.names []))⟩ y → y ∈ θ.as ∨ L ≤ y := fun y q => by
    rcases q with q | q | q
    · exact .inl q
    · exact .inr (Nat.le_of_eq q.symm)
    · obtain ⟨p, hp, e⟩ := List.mem_map.mp q
      obtain ⟨z, k⟩ := p
      cases k <;> simp only [locOf] at e <;> try (first | exact nos e | (cases e; done))
      obtain ⟨c, hc⟩ := cellOf z hp
      rw [hc] at e
      (first | exact nos e | cases e)
      exact .inr (Nat.le_of_lt (x.above z c (mem_of_lookup hc)))
  have args : ∀ (y : Str), VRo bad θ h' (match argIdx y params 0 with | none => none | some k => us[k]?) ((params.zip vals).lookup y) := fun y => by
    have al := argIdx_lookup (x := y) params vals 0 Fo.pnodup
    split
    · rename_i q; rw [q] at al; rw [al]; trivial
    · rename_i k q
      rw [q] at al
      rw [al.2, Nat.sub_zero]
      cases hu : us[k]? with
      | none => rw [get_none ra hu]; trivial
      | some v => obtain ⟨w, e, r⟩ := ra.get hu; rw [e]; exact mv r
  refine ⟨fun b o e => keep b o (pres b o e), nd, fun y q => ?_, fun b q => ?_, fun b q r => ?_, len, fun k y o e1 e2 => ?_, ⟨_, x.toInCall.ns, fun j l v e1 e2 => ?_⟩, by rw [initLoc_len, Fo.isInit]; simp [initOf], ?_, gens, drawn, os, Nat.lt_of_lt_of_le toks g.1, fun t b q => Nat.lt_of_lt_of_le (gtok t b q) g.1, gfun⟩
  · rcases own y q with q | q
    · exact (hin y q).1
    · exact Nat.le_trans size (hL ▸ q)
  · obtain ⟨o, e⟩ := (hb b q).1; exact ⟨o, keep b o e⟩
  · rcases own b r with r | r
    · exact (hb b q).2 r
    · obtain ⟨o, e⟩ := (hb b q).1
      exact absurd (Heap.lt_size e) (Nat.not_lt.mpr (hL ▸ r))
  · have r := hobjs k y o e1 e2
    cases o with
    | list xs => obtain ⟨vs, n, e, r⟩ := r; exact ⟨vs, n, keep _ _ e, mvs r⟩
    | barr l => obtain ⟨bs, e, q⟩ := r; exact ⟨bs, keep _ _ e, q⟩
  · simp only [List.getElem?_map, Option.map_eq_some_iff] at e1
    obtain ⟨p, hp, rfl⟩ := e1
    obtain ⟨y, k⟩ := p
    have hv : v = (match argIdx y params 0 with | none => none | some k => us[k]?) := by
      have e2' : (initLoc us fn.init)[j]? = some v := e2
      rw [initLoc_get, Fo.isInit] at e2'
      simp only [initOf, List.getElem?_map, hp, Option.map_some] at e2'
      exact (Option.some.inj e2').symm
    subst hv
    have hk : fd.scope.names.lookup y = some k := lookup_nodup Fo.names hp
    have hm : ∀ q : k ≠ .local, k ≠ .cell → (match argIdx y params 0 with | none => none | some k => us[k]?) = none ∧ (bindL (fun z => fd.scope.names.lookup z) (params.zip vals) fun _ => none) y = none := fun q q2 => by
      refine ⟨?_, bindL_other (by rw [hk]; simpa using q) _ _⟩
      have hy : y ∉ params := fun z => by
        rcases Fo.pkind y z with e | e <;> rw [hk] at e <;> cases e
        · exact q rfl
        · exact q2 rfl
      have : argIdx y params 0 = none := by
        have gen : ∀ (ps : List Str) (j : Nat), y ∉ ps → argIdx y ps j = none := fun ps => by
          induction ps with
          | nil => intro j _; rfl
          | cons p ps ih =>
            intro j hy
            unfold argIdx
            rw [if_neg fun e => hy (by simp [e])]
            exact ih _ fun z => hy (.tail _ z)
        exact gen params 0 hy
      rw [this]
    cases k with
    | cell =>
      obtain ⟨c, hc⟩ := cellOf y (List.mem_of_getElem? hp)
      have := x.cell y c hc
      rw [bindC_spec (by rw [hk]; decide) _ _ _ Fo.pnodup] at this
      show SlotR bad θ h' _ (.cell (((cellsFrom (L + 1) fd.scope.names []).lookup y).getD 0)) _
      rw [hc]
      refine ⟨_, this, ?_⟩
      rw [Option.or_none]; exact args y
    | free => exact absurd rfl (Fo.nofree _ (List.mem_of_getElem? hp))
    | «local» =>
      show VRo bad θ h' _ (bindL (fun z => fd.scope.names.lookup z) (params.zip vals) (fun _ => none) y)
      rw [bindL_spec hk _ _ _ Fo.pnodup, Option.or_none]; exact args y
    | _ =>
      obtain ⟨q1, q2⟩ := hm (by decide) (by decide)
      show VRo bad θ h' _ (bindL (fun z => fd.scope.names.lookup z) (params.zip vals) (fun _ => none) y)
      rw [q1, q2]; trivial
  · rw [List.map_map]
    unfold List.Nodup
    rw [List.pairwise_map]
    have hp : fd.scope.names.Pairwise fun p q => p.1 ≠ q.1 := by have := Fo.names; unfold List.Nodup at this; rw [List.pairwise_map] at this; exact this
    refine hp.imp_of_mem fun {p q} hp hq hne e => ?_
    obtain ⟨y, k⟩ := p
    obtain ⟨z, k'⟩ := q
    have hne' : y ≠ z := hne
    have nf1 := Fo.nofree _ hp
    have nf2 := Fo.nofree _ hq
    have key : ∀ (y : Str) (k : NameKind), k ≠ .free → (k ≠ .cell → (locOf (cellsFrom (L + 1) fd.scope.names []) (y, k)).key = .inl y) ∧ (k = .cell → (y, k) ∈ fd.scope.names → ∃ c, (cellsFrom (L + 1) fd.scope.names []).lookup y = some c ∧ (locOf (cellsFrom (L + 1) fd.scope.names []) (y, k)).key = .inr c) := fun y k hf => by
      refine ⟨fun h => by cases k <;> first | rfl | exact absurd rfl h | exact absurd rfl hf, fun h hm => ?_⟩
      subst h
      obtain ⟨c, hc⟩ := cellOf y hm
      exact ⟨c, hc, by simp [locOf, hc, Loc.key]⟩
    have e' : (locOf (cellsFrom (L + 1) fd.scope.names []) (y, k)).key = (locOf (cellsFrom (L + 1) fd.scope.names []) (z, k')).key := e
    by_cases c1 : k = .cell <;> by_cases c2 : k' = .cell
    · obtain ⟨c, h1, h2⟩ := (key y k nf1).2 c1 hp
      obtain ⟨d, h3, h4⟩ := (key z k' nf2).2 c2 hq
      rw [h2, h4] at e'
      cases e'
      exact hne' (name_of_addr x.apart (mem_of_lookup h1) (mem_of_lookup h3))
    · obtain ⟨c, h1, h2⟩ := (key y k nf1).2 c1 hp
      rw [h2, (key z k' nf2).1 c2] at e'; cases e'
    · obtain ⟨d, h3, h4⟩ := (key z k' nf2).2 c2 hq
      rw [h4, (key y k nf1).1 c1] at e'; cases e'
    · rw [(key y k nf1).1 c1, (key z k' nf2).1 c2] at e'
      cases e'; exact hne' rfl
end
end Mine
end
section
namespace Mine
open PySem PySem.W PyProof.Rows PySem.Calls

section
variable {C : Cfg} {F : List Fn} {fns : List Str} {K : Nat} {mg : Str → Option Value} {i : Nat} {f : Str} {fn : Fn} {b : Addr} {o : Obj} {fd : FuncData} {body : List Stmt} {params : List Str}
variable {A : Around} {bad : Addr → Prop} {a : Act} {θ : Th} {s : Shared} {σ : St} {n : Nat}

theorem Inv.sizeOk (I : Inv C bad θ a σ s) : C.h₀.objs.size ≤ s.heap.objs.size := by
  obtain ⟨m, hn, _⟩ := I.loc
  exact Nat.le_trans (I.new a.L (.inr (.inl rfl))) (Nat.le_of_lt hn.lt)

/-- the body of a called function, in its own frame -/
theorem body_at (SB : SndB C F fns n) (lim : C.h₀.NoLimit) (Fo : FnOk C F fns K mg i f fn b o fd body params) (hA : Fit A (n + 1)) {bad1 : Addr → Prop} {θ1 : Th} {objs : List O} {us : List V} {ws : List Value} {fl : Fl} {σ' : St}
    (pres : ∀ b o, C.h₀.get? b = some o → s.heap.get? b = some o) (size : C.h₀.objs.size ≤ s.heap.objs.size) (nd : θ1.as.Nodup) (hin : ∀ x ∈ θ1.as, C.h₀.objs.size ≤ x ∧ ∃ o, s.heap.get? x = some o)
    (hb : ∀ b, bad1 b → (∃ o, s.heap.get? b = some o) ∧ b ∉ θ1.as) (len : θ1.as.length = objs.length) (hobjs : ∀ (k : Nat) x o, θ1.as[k]? = some x → objs[k]? = some o → OR bad1 θ1 s.heap o x)
    (gens : s.gens = C.gens) (drawn : s.drawn = C.drawn) (os : s.os = C.os) (toks : 0 < s.toks) (gtok : ∀ t b, θ1.G t b → t < s.toks) (gfun : ∀ t b c, θ1.G t b → θ1.G t c → b = c)
    (ra : VRs bad1 θ1 s.heap us ws) (h1 : us.length + fn.kwo ≤ fn.nargs) (h2 : fn.nargs ≤ us.length + fn.dflt.length)
    (he : (ev F n).b fn.body ⟨initLoc (us ++ fn.dflt.drop (us.length + fn.dflt.length - fn.nargs)) fn.init, objs⟩ = some (fl, σ'))
    {E : Value → Shared → Prop} {Q : Value → Shared → Prop}
    (hQ : ∀ (θ2 : Th) (s2 : Shared) (w : Value), (∃ new, θ2.as = θ1.as ++ new ∧ ∀ x ∈ new, s.heap.objs.size ≤ x) → (∀ t b, θ1.G t b → θ2.G t b) → (∀ b o, s.heap.get? b = some o → b ∉ θ1.as → s2.heap.get? b = some o) → Gr s s2 →
      (∃ a2, Inv C bad1 θ2 a2 σ' s2) → (match fl with | .ret v => VR bad1 θ2 s2.heap v w | _ => w = .none) → Q w s2) :
    wpC (model C.prog C.w) A (call (.ref b) ws) Q E s := by
  refine wpC_gr (wpC_call (codeC_call_function (by have := hA.depth; show A.depth < 1000; omega) (pres _ _ Fo.get) Fo.data Fo.co Fo.gen Fo.stmts ?_ ?_))
  · obtain ⟨c, oc, vs, tq, e1, e2, e3⟩ := Fo.code
    exact ⟨c, oc, vs, tq, e1, pres _ _ e2, e3⟩
  · have hl := ra.length
    obtain ⟨ds, hds, hbind⟩ := Fo.bind ws s pres (by rw [hl]; exact h1) (by rw [hl]; exact h2)
    refine hbind _ _ _ _ ?_
    rw [Fo.closure]
    refine wpAny_gr (wpAny_newFunctionEnv_cells Fo.kind (fun p hp => ?_) fun env he' s' x g => ?_)
    · have hp' : p.1 ∈ params := by
        have := List.of_mem_zip hp; exact this.1
      rcases Fo.pkind _ hp' with e | e
      · exact .inl e
      · exact .inr ⟨e, cellsFrom_has _ _ _ (mem_of_lookup e)⟩
    · subst he'
      refine ⟨Heap.NoLimit.keeps lim fun b o e => x.toInCall.keep b o (pres b o e), codeC_func ?_⟩
      have ra' : VRs bad1 θ1 s.heap (us ++ fn.dflt.drop (us.length + fn.dflt.length - fn.nargs)) (ws ++ ds) := ra.append (by have := hds bad1 θ1 s.heap; rw [hl] at this; exact this)
      have I' := enter_inv Fo (L := s.heap.objs.size) rfl pres size nd hin hb len hobjs gens drawn os toks gtok gfun ra' x g
      have Z := envOk_new (qual := fd.qualname ++ ".<locals>.") (fn := some b) (code := fd.code) (L := s.heap.objs.size) (cells := cellsFrom (s.heap.objs.size + 1) fd.scope.names []) (scope := fd.scope) rfl Fo.kind Fo.names Fo.nofree (fun y hy => cellsFrom_has _ _ _ hy) Fo.plain
      rw [Fo.globals, Fo.builtins]
      have hA' : Fit (A.deeper (newEnv fd.scope s.heap.objs.size mainGlobals (cellsFrom (s.heap.objs.size + 1) fd.scope.names []) (fd.qualname ++ ".<locals>.") (some b) fd.code none builtinsNs)) n :=
        ⟨hA.handled, by show A.depth + 1 + 4 * n ≤ 950; have := hA.depth; omega, hA.guards, by show A.units + 3 + 8 * n ≤ 9000; have := hA.units; omega⟩
      rw [Fo.isBody] at he
      refine SB _ _ _ _ _ _ _ _ _ _ _ _ hA' Z I' he _ _ fun θ2 σ2 s2 fl2 st I2 p g2 => ?_
      obtain ⟨rfl, rf⟩ := p
      refine hQ θ2 s2 _ ?_ st.g (fun c ob e hc => st.keep c ob (x.toInCall.keep c ob e) fun q => ?_) g2 ⟨_, I2⟩ ?_
      · obtain ⟨new, e1, e2⟩ := st.ext
        exact ⟨new, e1, fun y hy => Nat.le_trans g.2 (e2 y hy)⟩
      · have hlt := Heap.lt_size e
        rcases q with q | q | q
        · exact hc q
        · exact absurd hlt (Nat.not_lt.mpr (Nat.le_of_eq q.symm))
        · obtain ⟨p, hp, e⟩ := List.mem_map.mp q
          obtain ⟨z, k⟩ := p
          cases k <;> simp only [locOf] at e <;> try (first | exact nos e | (cases e; done))
          obtain ⟨d, hd⟩ := Option.isSome_iff_exists.mp (cellsFrom_has (x := z) fd.scope.names (s.heap.objs.size + 1) [] hp)
          rw [hd] at e
          (first | exact nos e | cases e)
          exact absurd hlt (Nat.not_lt.mpr (Nat.le_of_lt (x.above z _ (mem_of_lookup hd))))
      · cases fl <;> cases fl2 <;> first | exact rf | exact rf.elim | rfl

theorem eA {α γ : Type} {x : Option α} {G : α → Option γ} {a : α} {z : Option γ} {r : γ} (e : x = some a) (h : @Option.rec α (fun _ => Option γ) z G x = some r) : G a = some r := by subst e; exact h
theorem bool_el {γ : Type} {c : Bool} {A B : Option γ} {q : γ} {P : Prop} (h : (match c with | true => A | false => B) = some q) (k1 : c = true → A = some q → P) (k2 : c = false → B = some q → P) : P := by
  cases c with
  | true => exact k1 rfl h
  | false => exact k2 rfl h
theorem refArg_el {γ : Type} {vs : List V} {f : Nat → List V → Option γ} {q : γ} {P : Prop} (h : (match vs with | .ref k :: us => f k us | _ => none) = some q) (k : ∀ k us, vs = .ref k :: us → f k us = some q → P) : P := by
  cases vs with
  | nil => exact nos h
  | cons v us => cases v <;> first | exact nos h | exact k _ _ rfl h
set_option smartUnfolding false in
theorem refCall_el {r : Ev} {us : List V} {k : Nat} {objs objs' : List O} {v : V} {B : List S} {σ0 : List V → St} {P : Prop} (he : (match objs[k]? with
          | some (.list xs) => (match noRefs xs && noRefs us with
            | false => none
            | true => (match (r.b B (σ0 xs) : Option (Fl × St)) with
              | some (.next, ⟨_, .list ys :: _⟩) => (match noRefs ys with | true => some (V.none, objs.set k (.list ys)) | false => none)
              | _ => none))
          | _ => none) = some (v, objs')) (f : ∀ xs l ys t, objs[k]? = some (.list xs) → noRefs xs = true → noRefs us = true → r.b B (σ0 xs) = some (.next, ⟨l, .list ys :: t⟩) → noRefs ys = true → v = .none → objs' = objs.set k (.list ys) → P) : P := by
  cases h1 : objs[k]? with
  | none => rw [h1] at he; exact nos he
  | some o =>
    rw [h1] at he
    cases o with
    | barr b => exact nos he
    | list xs =>
      dsimp only at he
      refine elT he fun h2 he => ?_
      cases h3 : r.b B (σ0 xs) with
      | none => rw [h3] at he; exact nos he
      | some p =>
        rw [h3] at he
        obtain ⟨fl, l, os⟩ := p
        cases fl <;> first | exact nos he | skip
        cases os with
        | nil => exact nos he
        | cons o t => cases o with
          | barr b => exact nos he
          | list ys => exact elT he fun h4 he => pI he fun e1 e2 => f xs l ys t h1 (Bool.and_eq_true_iff.mp h2).1 (Bool.and_eq_true_iff.mp h2).2 h3 h4 e1.symm e2.symm
set_option smartUnfolding false in
theorem valCall_el {r : Ev} {vs : List V} {objs objs' : List O} {v : V} {B : List S} {σ0 : List V → St} {P : Prop} (he : (match frzs objs vs with
        | none => none
        | some us => (match (r.b B (σ0 us) : Option (Fl × St)) with
          | some (.ret v, σ) => (match frz σ.objs v with
            | some w => (match scalar w || noRefs vs with | true => some (w, objs) | false => none)
            | none => none)
          | _ => none)) = some (v, objs')) (f : ∀ us v0 σ', frzs objs vs = some us → r.b B (σ0 us) = some (.ret v0, σ') → frz σ'.objs v0 = some v → (scalar v || noRefs vs) = true → objs' = objs → P) : P := by
  cases h1 : frzs objs vs with
  | none => rw [h1] at he; exact nos he
  | some us =>
    rw [h1] at he
    dsimp only at he
    cases h3 : r.b B (σ0 us) with
    | none => rw [h3] at he; exact nos he
    | some p =>
      rw [h3] at he
      obtain ⟨fl, σ'⟩ := p
      cases fl <;> first | exact nos he | skip
      case ret v0 => exact elS he fun w h4 he => elT he fun h5 he => pI he fun e1 e2 => f us v0 σ' h1 h3 (e1 ▸ h4) (e1 ▸ h5) e2.symm
set_option smartUnfolding false in
theorem evCall_el {r : Ev} {vs : List V} {objs objs' : List O} {v : V} {P : Prop} (hF : F[i]? = some fn) (he : evCall F r i vs objs = some (v, objs'))
    (kR : vs.length + fn.kwo ≤ fn.nargs → fn.nargs ≤ vs.length + fn.dflt.length → ∀ k us xs l ys t, vs = .ref k :: us → objs[k]? = some (.list xs) → noRefs xs = true → noRefs us = true → r.b fn.body ⟨initLoc (.ref 0 :: us ++ fn.dflt.drop (vs.length + fn.dflt.length - fn.nargs)) fn.init, [.list xs]⟩ = some (.next, ⟨l, .list ys :: t⟩) → noRefs ys = true → v = .none → objs' = objs.set k (.list ys) → P)
    (kV : vs.length + fn.kwo ≤ fn.nargs → fn.nargs ≤ vs.length + fn.dflt.length → ∀ us v0 σ', frzs objs vs = some us → r.b fn.body ⟨initLoc (us ++ fn.dflt.drop (vs.length + fn.dflt.length - fn.nargs)) fn.init, []⟩ = some (.ret v0, σ') → frz σ'.objs v0 = some v → (scalar v || noRefs vs) = true → objs' = objs → P) : P :=  by
  have he := eA hF he
  exact elT he fun hle he => bool_el he (fun _ he => refArg_el he fun k us e0 he => refCall_el he fun xs l ys t q1 q2 q3 q4 q5 q6 q7 => kR (Nat.le_of_ble_eq_true (Bool.and_eq_true_iff.mp hle).1) (Nat.le_of_ble_eq_true (Bool.and_eq_true_iff.mp hle).2) k us xs l ys t e0 q1 q2 q3 q4 q5 q6 q7)
    fun _ he => valCall_el he fun us v0 σ' q1 q2 q3 q4 q5 => kV (Nat.le_of_ble_eq_true (Bool.and_eq_true_iff.mp hle).1) (Nat.le_of_ble_eq_true (Bool.and_eq_true_iff.mp hle).2) us v0 σ' q1 q2 q3 q4 q5

theorem VR.scal {bad bad1 : Addr → Prop} {θ θ1 : Th} {h h1 : Heap} (hg : ∀ t b, θ.G t b → θ1.G t b) {v : V} {w : Value} (q : VR bad θ h v w) (hs : scalar v = true) : VR bad1 θ1 h1 v w :=
  (VR.ind (P := fun v w => scalar v = true → VR bad1 θ1 h1 v w) (Q := fun _ _ => True) (fun _ => .none) (fun b _ => .bool b) (fun i t _ => .int i t) (fun s t _ => .str s t) (fun f b t ht _ => .bytes f b t fun q => ⟨(ht q).1, hg _ _ (ht q).2⟩)
    (fun _ _ _ _ _ _ _ hs => nob hs) (fun _ _ _ _ _ _ _ hs => nob hs) (fun _ _ _ hs => nob hs) trivial fun _ _ _ _ _ _ => trivial).1 q hs
/-- back from a call by value -/
theorem val_back (I : Inv C bad θ a σ s) {bad1 : Addr → Prop} {θ2 : Th} {s2 : Shared} {σ2 : St} {a2 : Act} (hg : ∀ t b, θ.G t b → θ2.G t b) (hkeep : ∀ b o, s.heap.get? b = some o → b ∉ ([] : List Addr) → s2.heap.get? b = some o) (g : Gr s s2) (I2 : Inv C bad1 θ2 a2 σ2 s2) :
    Inv C bad ⟨θ.as, θ2.G⟩ a σ s2 ∧ Step θ a s.heap ⟨θ.as, θ2.G⟩ s2.heap :=
  have gr : Grow s s2 := ⟨fun c ob e _ => hkeep c ob e List.not_mem_nil, g, I2.gens.trans I.gens.symm, I2.drawn.trans I.drawn.symm, I2.os.trans I.os.symm⟩
  have q := (I.grow gr).regG (G2 := θ2.G) hg I2.gtok I2.gfun
  ⟨q.1, (Step.of_grow gr).trans q.2⟩
/-- back from a call by reference -/
theorem ref_back (I : Inv C bad θ a σ s) {k : Nat} {l : Addr} (hk : θ.as[k]? = some l) {θ2 : Th} {s2 : Shared} {loc : List (Option V)} {ys : List V} {t : List O} {a2 : Act} {new : List Addr} (en : θ2.as = [l] ++ new) (hg : ∀ t b, θ.G t b → θ2.G t b)
    (hkeep : ∀ b o, s.heap.get? b = some o → b ∉ [l] → s2.heap.get? b = some o) (g : Gr s s2) (I2 : Inv C (fun c => bad c ∨ (c ∈ θ.as ∧ c ≠ l)) θ2 a2 ⟨loc, .list ys :: t⟩ s2) (n3 : noRefs ys = true) :
    Inv C bad ⟨θ.as, θ2.G⟩ a ⟨σ.loc, σ.objs.set k (.list ys)⟩ s2 ∧ Step θ a s.heap ⟨θ.as, θ2.G⟩ s2.heap := by
  have hl0 : θ2.as[0]? = some l := by rw [en]; rfl
  obtain ⟨vy, ny, e6, ry⟩ := I2.objs 0 l _ hl0 rfl
  have I3 := I.grow (s' := { s with toks := s2.toks }) ⟨fun _ _ e _ => e, ⟨g.1, Nat.le_refl _⟩, rfl, rfl, rfl⟩
  have q4 := I3.regG (G2 := θ2.G) hg I2.gtok I2.gfun
  have x4 : Chg (fun c => c = l) { s with toks := s2.toks } s2 := ⟨fun c ob e hne => hkeep c ob e fun q => hne (List.mem_singleton.mp q), ⟨Nat.le_refl _, g.2⟩, I2.gens.trans I.gens.symm, I2.drawn.trans I.drawn.symm, I2.os.trans I.os.symm⟩
  have q5 := q4.1.put (o := .list ys) x4 hk fun _ => ⟨vy, ny, e6, VRs.shed (θ := θ2) (θ1 := ⟨θ.as, θ2.G⟩) (fun _ _ q => q) (fun c h1 h2 => ⟨fun q => h2 (.inr ⟨q, fun e => h1 (by rw [en, e]; exact .head _)⟩), fun q => h2 (.inl q)⟩) n3 ry⟩
  exact ⟨q5.1, q4.2.trans q5.2⟩
theorem call_ref (SB : SndB C F fns n) (lim : C.h₀.NoLimit) (Fo : FnOk C F fns K mg i f fn b o fd body params) (hA : Fit A (n + 1)) (I : Inv C bad θ a σ s) {k : Nat} {us xs ys : List V} {ws : List Value} {loc : List (Option V)} {t : List O}
    (h1 : (V.ref k :: us).length + fn.kwo ≤ fn.nargs) (h2 : fn.nargs ≤ (V.ref k :: us).length + fn.dflt.length) (e1 : σ.objs[k]? = some (.list xs)) (n1 : noRefs xs = true) (n2 : noRefs us = true)
    (e2 : (ev F n).b fn.body ⟨initLoc (.ref 0 :: us ++ fn.dflt.drop ((V.ref k :: us).length + fn.dflt.length - fn.nargs)) fn.init, [.list xs]⟩ = some (.next, ⟨loc, .list ys :: t⟩)) (n3 : noRefs ys = true) (r : VRs bad θ s.heap (.ref k :: us) ws) :
    At C A bad a θ s (call (.ref b) ws) (PostO bad σ .none (σ.objs.set k (.list ys))) := by
  cases r with
  | cons r1 r2 =>
    obtain ⟨l, rfl, hk⟩ := r1.inv
    obtain ⟨vl, nl, e3, rl⟩ := I.objs k l _ hk e1
    have hlin : l ∈ θ.as := List.mem_of_getElem? hk
    have hn : ∀ c, c ∉ θ.as → ¬ bad c → c ∉ [l] ∧ ¬ (bad c ∨ (c ∈ θ.as ∧ c ≠ l)) := fun c h1 h2 => ⟨fun q => h1 (List.mem_singleton.mp q ▸ hlin), fun q => q.elim h2 fun z => h1 z.1⟩
    exact fun E Q hQ => body_at (bad1 := fun c => bad c ∨ (c ∈ θ.as ∧ c ≠ l)) (θ1 := ⟨[l], θ.G⟩) (objs := [.list xs]) (us := .ref 0 :: us) SB lim Fo hA I.pres I.sizeOk (List.nodup_cons.mpr ⟨List.not_mem_nil, .nil⟩)
      (fun x hx => List.mem_singleton.mp hx ▸ ⟨I.new _ (.inl hlin), _, e3⟩)
      (fun c hc => hc.elim (fun hc => ⟨I.badLive c hc, fun q => I.badOut c hc (.inl (List.mem_singleton.mp q ▸ hlin))⟩) fun hc => ⟨I.live (.inl hc.1), fun q => hc.2 (List.mem_singleton.mp q)⟩) rfl
      (fun k' x o' e4 e5 => by
        cases k' with
        | zero => exact Option.some.inj e4 ▸ Option.some.inj e5 ▸ ⟨vl, nl, e3, rl.shed (θ1 := ⟨[l], θ.G⟩) (fun _ _ (q : θ.G _ _) => q) hn n1⟩
        | succ k' => exact nos e4)
      I.gens I.drawn I.os I.toks I.gtok I.gfun (.cons (.ref rfl) (r2.shed (θ1 := ⟨[l], θ.G⟩) (fun _ _ (q : θ.G _ _) => q) hn n2)) h1 h2 e2 (fun θ2 s2 w hext hg hkeep g hI hw =>
        hI.elim fun a2 I2 => hext.elim fun new en => by
          have q := ref_back I hk en.1 hg hkeep g I2 n3
          exact hQ _ _ _ _ q.2 q.1 ⟨rfl, (show w = .none from hw) ▸ .none⟩)
theorem call_val (SB : SndB C F fns n) (lim : C.h₀.NoLimit) (Fo : FnOk C F fns K mg i f fn b o fd body params) (hA : Fit A (n + 1)) (I : Inv C bad θ a σ s) {vs us : List V} {ws : List Value} {v0 v : V} {σ1 : St}
    (h1 : vs.length + fn.kwo ≤ fn.nargs) (h2 : fn.nargs ≤ vs.length + fn.dflt.length) (e1 : frzs σ.objs vs = some us) (e2 : (ev F n).b fn.body ⟨initLoc (us ++ fn.dflt.drop (vs.length + fn.dflt.length - fn.nargs)) fn.init, []⟩ = some (.ret v0, σ1)) (e3 : frz σ1.objs v0 = some v)
    (hsc : (scalar v || noRefs vs) = true) (r : VRs bad θ s.heap vs ws) : At C A bad a θ s (call (.ref b) ws) (PostO bad σ v σ.objs) := by
  have hlen : us.length = vs.length := (I.frzs r e1).length.symm.trans r.length
  cases hnr : noRefs vs with
  | true =>
    obtain rfl : us = vs := Option.some.inj (e1.symm.trans (frz_noRefs hnr))
    exact fun E Q hQ => body_at (bad1 := fun c => bad c ∨ c ∈ θ.as) (θ1 := ⟨[], θ.G⟩) (objs := []) (us := us) SB lim Fo hA I.pres I.sizeOk .nil (fun _ h => nomatch h) (fun c hc => ⟨hc.elim (fun hc => I.badLive c hc) fun hc => I.live (.inl hc), List.not_mem_nil⟩) rfl (fun _ _ _ e => nos e) I.gens I.drawn I.os I.toks I.gtok I.gfun
      (r.shed (θ1 := ⟨[], θ.G⟩) (fun _ _ (q : θ.G _ _) => q) (fun c h1 h2 => ⟨List.not_mem_nil, fun q => q.elim h2 h1⟩) hnr) h1 h2 e2 (fun θ2 s2 w' hext hg hkeep g hI hw => hI.elim fun a2 I2 => hext.elim fun new en => by
        have q := val_back I hg hkeep g I2
        refine hQ _ _ _ _ q.2 q.1 ⟨rfl, ?_⟩
        have gone : ∀ c, c ∉ θ2.as → ¬ (bad c ∨ c ∈ θ.as) → c ∉ θ.as ∧ ¬ bad c := fun c _ h2 => ⟨fun q => h2 (.inr q), fun q => h2 (.inl q)⟩
        refine (frz_toB (θ := θ2) (θ1 := ⟨θ.as, θ2.G⟩) (bad := fun c => bad c ∨ c ∈ θ.as) (bad1 := bad) (fun _ _ q => q) gone (frzRef_to (θ := θ2) (θ1 := ⟨θ.as, θ2.G⟩) (bad := fun c => bad c ∨ c ∈ θ.as) (bad1 := bad) (fun _ _ q => q) gone (fun c hc => ?_) I2.objs 6)).1 hw v e3
        have hc' : s.heap.objs.size ≤ c := en.2 c (by rw [en.1] at hc; exact hc)
        exact ⟨fun q => (I.live (.inl q)).elim fun ob e => absurd (Heap.lt_size e) (Nat.not_lt.mpr hc'), fun q => (I.badLive c q).elim fun ob e => absurd (Heap.lt_size e) (Nat.not_lt.mpr hc')⟩)
  | false =>
    rw [hnr, Bool.or_false] at hsc
    exact fun E Q hQ => body_at (bad1 := noBad) (θ1 := ⟨[], θ.G⟩) (objs := []) (us := us) SB lim Fo hA I.pres I.sizeOk .nil (fun _ h => nomatch h) (fun c hc => hc.elim) rfl (fun _ _ _ e => nos e) I.gens I.drawn I.os I.toks I.gtok I.gfun
      (I.frzs r e1) (hlen ▸ h1) (hlen ▸ h2) (hlen ▸ e2) (fun θ2 s2 w' hext hg hkeep g hI hw => hI.elim fun a2 I2 => by
        have q := val_back I hg hkeep g I2
        exact hQ _ _ _ _ q.2 q.1 ⟨rfl, VR.scal (θ := ⟨[], θ2.G⟩) (θ1 := ⟨θ.as, θ2.G⟩) (bad1 := bad) (fun _ _ q => q) (I2.frz hw e3) hsc⟩)
theorem call_at (SB : SndB C F fns n) (lim : C.h₀.NoLimit) (Fo : FnOk C F fns K mg i f fn b o fd body params) (hA : Fit A (n + 1)) (I : Inv C bad θ a σ s) {vs : List V} {ws : List Value} {v : V} {objs : List O}
    (he : evCall F (ev F n) i vs σ.objs = some (v, objs)) (r : VRs bad θ s.heap vs ws) : At C A bad a θ s (call (.ref b) ws) (PostO bad σ v objs) :=
  evCall_el Fo.at_ he (fun h1 h2 k us xs l ys t q1 q2 q3 q4 q5 q6 q7 q8 => by
    subst q1 q7 q8
    exact call_ref SB lim Fo hA I h1 h2 q2 q3 q4 q5 q6 r) fun h1 h2 us v0 σ' q1 q2 q3 q4 q5 => by
    subst q5
    exact call_val SB lim Fo hA I h1 h2 q1 q2 q3 q4 r
end
end Mine
end
section
namespace Mine
open PySem PySem.W PyProof.Rows PySem.Calls

section
variable {C : Cfg} {F : List Fn} {fns : List Str} {n : Nat} {A : Around} {bad : Addr → Prop} {a : Act} {θ : Th} {s : Shared} {σ σ' : St} {nm : Nm} {env : Env} {k : Nat}

theorem stores_any (Z : EnvOk a nm env) : ∀ {es : List PySem.Expr} {is : List Nat} {xs : List V} {ws : List Value} {θ : Th} {s : Shared} {σ : St}, Inv C bad θ a σ s → cTs nm es = some is → VRs bad θ s.heap xs ws → is.length = xs.length →
    AtA C A bad a θ s (assignInOrder ((assignEach es env).map (·.2)) ws) (fun _ σ' _ _ => σ' = ⟨(is.zip xs).foldl (fun l p => l.set p.1 (some p.2)) σ.loc, σ.objs⟩)
  | [], is, xs, ws, θ, s, σ, I, hc, r, hl => by
    (first | exact nos hc | cases hc)
    cases xs with
    | nil => cases r; exact fun E Q hQ => wpAny_pure (hQ _ _ _ _ (Step.refl ..) I rfl)
    | cons => simp at hl
  | e :: es, is, xs, ws, θ, s, σ, I, hc, r, hl => by
    obtain ⟨i, h1, hc⟩ := ob_inv (x := cN nm e) hc
    obtain ⟨is', h2, hc⟩ := ob_inv (x := cTs nm es) hc
    (first | exact nos hc | cases hc)
    obtain ⟨id, p, rfl, h1⟩ := cN_inv h1
    cases r with
    | nil => simp at hl
    | @cons x w xs ws r1 r2 =>
      intro E Q hQ
      show wpAny _ A (do PySem.holding ws (do standAt p; bindName env id w); assignInOrder ((assignEach es env).map (·.2)) ws) Q E s
      refine wpAny_bind (wpAny_holding (wpAny_bind (wpAny_standAt (store_any Z I h1 r1 _ _ fun θ1 σ1 s1 _ st I1 p1 => ?_))))
      subst p1
      refine stores_any Z I1 h2 (I.mvs st r2) (by simpa using hl) _ _ fun θ2 σ2 s2 _ st2 I2 p2 => ?_
      subst p2
      exact hQ _ _ _ _ (st.trans st2) I2 rfl

theorem cTs_len (env : Env) : ∀ {es : List PySem.Expr} {is : List Nat}, cTs nm es = some is → (assignEach es env).length = is.length ∧ (assignEach es env).findIdx? (·.1) = none
  | [], is, hc => by cases hc; exact ⟨rfl, rfl⟩
  | e :: es, is, hc => by
    obtain ⟨i, h1, hc⟩ := ob_inv (x := cN nm e) hc
    obtain ⟨is', h2, hc⟩ := ob_inv (x := cTs nm es) hc
    (first | exact nos hc | cases hc)
    obtain ⟨id, p0, rfl, h1⟩ := cN_inv h1
    obtain ⟨p, q⟩ := cTs_len env h2
    refine ⟨?_, ?_⟩
    · show (assignEach es env).length + 1 = is'.length + 1
      rw [p]
    · show List.findIdx? _ ((false, _) :: assignEach es env) = none
      rw [List.findIdx?_cons, q]; rfl

/-- a target is bound -/
theorem setTgt_any (hh : A.handled = none) (Z : EnvOk a nm env) (I : Inv C bad θ a σ s) {e : PySem.Expr} {t : Tgt} {v : V} {w : Value} {loc : List (Option V)} (hc : cT nm e = some t) (hs : setTgt σ.loc σ.objs t v = some loc) (r : VR bad θ s.heap v w) :
    AtA C A bad a θ s (assign e env w) (fun _ σ' _ _ => σ' = ⟨loc, σ.objs⟩) := by
  cases e <;> first | exact nos hc | skip
  case Name id p =>
    obtain ⟨i, hi, hc⟩ := ob_inv (x := slotW nm id) hc
    (first | exact nos hc | cases hc)
    (first | exact nos hs | cases hs)
    intro E Q hQ
    show wpAny _ A (do standAt p; bindName env id w) Q E s
    exact wpAny_bind (wpAny_standAt (store_any Z I hi r _ _ hQ))
  case Tuple es kd p =>
    obtain ⟨is, hi, hc⟩ := ob_inv (x := cTs nm es) hc
    (first | exact nos hc | cases hc)
    cases v <;> first | exact nos hs | skip
    case tuple xs =>
      simp only [setTgt] at hs
      first | (set_option smartUnfolding false in refine elT hs ?_; clear hs; intro hl hs) | (set_option smartUnfolding false in refine elS hs ?_; clear hs; intro _ hl hs)
      (first | exact nos hs | cases hs)
      have hl' : is.length = xs.length := Nat.eq_of_beq_eq_true hl
      cases r with
      | @tuple b _ vs h1 h2 ht hi2 =>
        obtain ⟨q1, q2⟩ := cTs_len env hi
        intro E Q hQ
        rw [arm_assign_Tuple]
        refine wpAny_bind (wpAny_standAt ?_)
        unfold unpack
        rw [q1, hl', q2, ← hi2.length, ← List.size_toArray]
        refine wpAny_bind (wpAny_holding (wpAny_gr (wpAny_unpackItems_tuple hh ht fun h' he g => ?_)))
        have gr : Grow s { s with heap := h' } := ⟨fun b o e _ => he b o (Nat.ne_of_lt (Heap.lt_size e)) e, g, rfl, rfl, rfl⟩
        refine stores_any Z (I.grow gr) hi (I.mvs (Step.of_grow (a := a) gr) hi2) hl' _ _ fun θ2 σ2 s2 _ st2 I2 p2 => ?_
        exact hQ _ _ _ _ ((Step.of_grow gr).trans st2) I2 p2

/-! loops -/
theorem codeC_block {R : Result → Shared → Prop} {ss : List Stmt} (h : wpC (model C.prog C.w) A (execs ss env) (fun f s' => R (.ok f) s') (fun _ _ => False) s) : codeC (model C.prog C.w) A (.block ss env) R s := by
  refine codeC_of_tree rfl ?_
  rw [Around.under_of_weight rfl]
  show wpC _ A (do return Fin.done (← (execs ss env).onRaise (fun x => do noteFrame x env; theTreesLotGoes x))) _ _ s
  exact wpC_bind (wpC_onRaise (wpC_mono h (fun f s' q => wpC_pure q) fun _ _ q => q.elim))

theorem for_code (SB : SndB C F fns n) (hA : Fit A n) (Z : EnvOk a nm env) {s0 : Shared} {θ0 : Th} (h0 : C.h₀.objs.size ≤ s0.heap.objs.size) {en : Bool} {t : It} {tgt : Tgt} {te : PySem.Expr} {w : Value} {bs es : List Stmt} {fl : Fl} {σ' : St}
    (hc : cT nm te = some tgt) (ht : en = true → ∃ es k p, te = .Tuple es k p) {R : Result → Shared → Prop}
    (hR : ∀ θ' s' f, Step θ0 a s0.heap θ' s'.heap → Inv C bad θ' a σ' s' → FlR bad θ' s'.heap fl f → R (.ok f) s') :
    ∀ (m i : Nat) {θ : Th} {s : Shared} {σ : St}, Inv C bad θ a σ s → IterAt s0.heap.objs.size bad θ a s.heap en t i w → Step θ0 a s0.heap θ s.heap → evFor (ev F n) tgt (cB (cS fns k nm) bs) (cB (cS fns k nm) es) t m i σ = some (fl, σ') →
      codeC (model C.prog C.w) A (.forLoop te w bs es env) R s
  | 0, i, θ, s, σ, I, it, st, he => by simp [evFor] at he
  | m + 1, i, θ, s, σ, I, it, st, he => by
    simp only [evFor] at he
    refine codeC_of_tree rfl ?_
    rw [Around.under_of_weight rfl]
    show wpC _ A ((forTurn te w bs es env).onRaise (fun x => do noteFrame x env; theTreesLotGoes x)) _ _ s
    refine wpC_onRaise ?_
    unfold forTurn
    refine wpC_bind (wpC_standAt ?_)
    cases hat : t.at σ.objs i with
    | none => rw [hat] at he; cases he
    | some r =>
      rw [hat] at he
      refine wpC_bind (wpC_onRaise (wpC_of (next_any hA.handled h0 I it hat ?_ ?_)))
      · rintro rfl s1 I1 K
        dsimp only at he
        refine wpC_pure ⟨rfl, codeC_block ?_⟩
        refine SB _ _ _ _ _ _ _ _ _ _ _ _ hA Z I1 he _ _ fun θ2 σ2 s2 f st2 I2 p => ?_
        obtain ⟨rfl, rf⟩ := p
        exact hR θ2 s2 f ((st.after K).trans st2) I2 rf
      · rintro v rfl s1 x I1 K rx mid
        dsimp only at he
        refine wpC_bind (wpC_of (letGo_any h0 I1 mid ht fun s2 I2 K2 it2 mv2 => ?_))
        cases hs : setTgt σ.loc σ.objs tgt v with
        | none => rw [hs] at he; cases he
        | some loc =>
          rw [hs] at he
          dsimp only at he
          refine wpC_bind (wpC_of (setTgt_any hA.handled Z I2 hc hs (mv2 rx) _ _ fun θ3 σ3 s3 _ st3 I3 p3 => ?_))
          subst p3
          have it3 := it2.mv I2 st3
          have base3 := ((st.after K).after K2).trans st3
          split at he
          · (first | exact nos he | cases he)
          · rename_i σ4 hb
            refine wpC_bind (SB _ _ _ _ _ _ _ _ _ _ _ _ hA Z I3 hb _ _ fun θ4 σ4' s4 f st4 I4 p4 => ?_)
            obtain ⟨rfl, rf⟩ := p4
            cases f <;> first | exact rf.elim | skip
            exact wpC_pure ⟨rfl, for_code SB hA Z h0 hc ht hR m (i + 1) I4 (it3.mv I3 st4) (base3.trans st4) he⟩
          · rename_i σ4 hb
            (first | exact nos he | cases he)
            refine wpC_bind (SB _ _ _ _ _ _ _ _ _ _ _ _ hA Z I3 hb _ _ fun θ4 σ4' s4 f st4 I4 p4 => ?_)
            obtain ⟨rfl, rf⟩ := p4
            cases f <;> first | exact rf.elim | skip
            exact wpC_pure (hR _ _ _ (base3.trans st4) I4 trivial)
          · rename_i u σ4 hb
            (first | exact nos he | cases he)
            refine wpC_bind (SB _ _ _ _ _ _ _ _ _ _ _ _ hA Z I3 hb _ _ fun θ4 σ4' s4 f st4 I4 p4 => ?_)
            obtain ⟨rfl, rf⟩ := p4
            cases f <;> first | exact rf.elim | skip
            exact wpC_pure (hR _ _ _ (base3.trans st4) I4 rf)

theorem while_code (SB : SndB C F fns n) (ST : SndT C F fns n) (hA : Fit A n) (Z : EnvOk a nm env) {h0 : Heap} {θ0 : Th} {te : PySem.Expr} {x : X} {bs : List Stmt} {fl : Fl} {σ' : St} (hx : cX fns k nm te = some x) {R : Result → Shared → Prop}
    (hR : ∀ θ' s' f, Step θ0 a h0 θ' s'.heap → Inv C bad θ' a σ' s' → FlR bad θ' s'.heap fl f → R (.ok f) s') :
    ∀ (m : Nat) {θ : Th} {s : Shared} {σ : St}, Inv C bad θ a σ s → Step θ0 a h0 θ s.heap → evWhile (ev F n) x (cB (cS fns k nm) bs) m σ = some (fl, σ') →
      codeC (model C.prog C.w) A (.whileLoop te bs [] env) R s
  | 0, θ, s, σ, I, st, he => by simp [evWhile] at he
  | m + 1, θ, s, σ, I, st, he => by
    simp only [evWhile] at he
    refine codeC_of_tree rfl ?_
    rw [Around.under_of_weight rfl]
    show wpC _ A ((whileTurn te bs [] env).onRaise (fun x => do noteFrame x env; theTreesLotGoes x)) _ _ s
    refine wpC_onRaise ?_
    unfold whileTurn
    split at he
    · (first | exact nos he | cases he)
    · rename_i σ1 h1
      (first | exact nos he | cases he)
      refine wpC_bind (ST _ _ _ _ _ _ _ _ _ _ _ _ _ hA Z I hx h1 _ _ fun θ1 σ1' s1 b st1 I1 p => ?_)
      obtain ⟨rfl, rfl⟩ := p
      refine ifC_false rfl ?_
      exact wpC_bind (wpC_pure (wpC_pure (hR _ _ _ (st.trans st1) I1 trivial)))
    · rename_i σ1 h1
      refine wpC_bind (ST _ _ _ _ _ _ _ _ _ _ _ _ _ hA Z I hx h1 _ _ fun θ1 σ1' s1 b st1 I1 p => ?_)
      obtain ⟨rfl, rfl⟩ := p
      refine ifC_true rfl ?_
      split at he
      · (first | exact nos he | cases he)
      · rename_i σ4 hb
        refine wpC_bind (SB _ _ _ _ _ _ _ _ _ _ _ _ hA Z I1 hb _ _ fun θ4 σ4' s4 f st4 I4 p4 => ?_)
        obtain ⟨rfl, rf⟩ := p4
        cases f <;> first | exact rf.elim | skip
        exact wpC_pure ⟨rfl, while_code SB ST hA Z hx hR m I4 ((st.trans st1).trans st4) he⟩
      · rename_i σ4 hb
        (first | exact nos he | cases he)
        refine wpC_bind (SB _ _ _ _ _ _ _ _ _ _ _ _ hA Z I1 hb _ _ fun θ4 σ4' s4 f st4 I4 p4 => ?_)
        obtain ⟨rfl, rf⟩ := p4
        cases f <;> first | exact rf.elim | skip
        exact wpC_pure (hR _ _ _ ((st.trans st1).trans st4) I4 trivial)
      · rename_i u σ4 hb
        (first | exact nos he | cases he)
        refine wpC_bind (SB _ _ _ _ _ _ _ _ _ _ _ _ hA Z I1 hb _ _ fun θ4 σ4' s4 f st4 I4 p4 => ?_)
        obtain ⟨rfl, rf⟩ := p4
        cases f <;> first | exact rf.elim | skip
        exact wpC_pure (hR _ _ _ ((st.trans st1).trans st4) I4 rf)
end
end Mine
end
section
namespace Mine
open PySem PySem.W PyProof.Rows PySem.Calls

theorem VR.weak {bad bad1 : Addr → Prop} {θ θ1 : Th} {h : Heap} (ha : θ1.as = θ.as) (hg : ∀ t b, θ.G t b → θ1.G t b) (hb : ∀ b, bad1 b → bad b) {x : V} {w : Value} (r : VR bad θ h x w) : VR bad1 θ1 h x w :=
  r.move (fun b its h1 h2 l => ⟨ha ▸ h1, fun q => h2 (hb b q), l⟩) (fun b its h1 h2 l => ⟨ha ▸ h1, fun q => h2 (hb b q), l⟩) (fun k a e => by rw [ha]; exact e) hg
theorem VRs.weak {bad bad1 : Addr → Prop} {θ θ1 : Th} {h : Heap} (ha : θ1.as = θ.as) (hg : ∀ t b, θ.G t b → θ1.G t b) (hb : ∀ b, bad1 b → bad b) {x : List V} {w : List Value} (r : VRs bad θ h x w) : VRs bad1 θ1 h x w :=
  r.move (fun b its h1 h2 l => ⟨ha ▸ h1, fun q => h2 (hb b q), l⟩) (fun b its h1 h2 l => ⟨ha ▸ h1, fun q => h2 (hb b q), l⟩) (fun k a e => by rw [ha]; exact e) hg

section
variable {C : Cfg} {bad bad1 : Addr → Prop} {θ θ' : Th} {a a' : Act} {s s' : Shared} {σ σ' : St}

/-- back in the frame around -/
theorem Inv.outer (I : Inv C bad θ a σ s) (I' : Inv C bad1 θ' a' σ' s') (st : Step θ a' s.heap θ' s'.heap) (hown : ∀ b o, s.heap.get? b = some o → Own θ a' b → b ∈ θ.as) (hbad : ∀ b, bad b → bad1 b) :
    Inv C bad θ' a ⟨σ.loc, σ'.objs⟩ s' ∧ Step θ a s.heap θ' s'.heap := by
  have keep : ∀ b o, s.heap.get? b = some o → b ∉ θ.as → s'.heap.get? b = some o := fun b o e hn => st.keep b o e fun q => hn (hown b o e q)
  have st' : Step θ a s.heap θ' s'.heap := ⟨st.ext, st.g, fun b o e hn => keep b o e fun q => hn (.inl q), st.size⟩
  have offs : ∀ {b ob}, s.heap.get? b = some ob → (∀ es ep, ob.data ≠ .dict es ep) ∧ (∀ v, ob.data ≠ .cell v) ∨ s'.heap.get? b = some ob := fun {b ob} e => by
    by_cases hb : b ∈ θ.as
    · obtain ⟨k, o, _, _, r⟩ := I.objAt hb
      exact .inl (r.notDict e)
    · exact .inr (keep b ob e hb)
  refine ⟨⟨I'.pres, I'.nodup, fun x hx => ?_, fun b hb => I'.badLive b (hbad b hb), fun b hb hx => ?_, I'.len, fun k x o e1 e2 => ?_, ?_, I.llen, I.keys, I'.gens, I'.drawn, I'.os, I'.toks, I'.gtok, I'.gfun⟩, st'⟩
  · rcases hx with q | q
    · exact I'.new x (.inl q)
    · exact I.new x (.inr q)
  · rcases hx with q | q
    · exact I'.badOut b (hbad b hb) (.inl q)
    · exact I.badOut b hb (.inr q)
  · have r := I'.objs k x o e1 e2
    cases o with
    | list xs => obtain ⟨vs, n, e, r⟩ := r; exact ⟨vs, n, e, r.weak rfl (fun _ _ q => q) hbad⟩
    | barr l => exact r
  · obtain ⟨m, ⟨oL, es, ep, eL, dL, zL⟩, hm⟩ := I.loc
    refine ⟨m, ⟨oL, es, ep, ?_, dL, zL⟩, fun i l v e1 e2 => ?_⟩
    · rcases offs eL with q | q
      · exact absurd dL (q.1 _ _)
      · exact q
    · have z := hm i l v e1 e2
      have cm : ∀ {c v'}, s.heap.IsCell c v' → s'.heap.IsCell c v' := fun {c v'} q => by
        obtain ⟨o, e, hd⟩ := q
        rcases offs e with q | q
        · exact absurd hd (q.2 _)
        · exact ⟨o, q, hd⟩
      cases l with
      | dict y => exact I.mvo st' z
      | cell c => obtain ⟨v', q, z⟩ := z; exact ⟨v', cm q, I.mvo st' z⟩
      | ro c => obtain ⟨v', q, z⟩ := z; exact ⟨v', cm q, I.mvo st' z⟩

/-- an object that nobody may read changes -/
theorem Inv.chgBad (I : Inv C bad θ a σ s) {c : Addr} (x : Chg (fun b => b = c) s s') (hc : bad c) (h0 : C.h₀.objs.size ≤ c) (live : ∃ o, s'.heap.get? c = some o) {its : Array Value} {n : Nat} {oc : Obj} (hs : s.heap.get? c = some oc) (hd : oc.data = .seq its n) :
    Inv C bad θ a σ s' ∧ (∀ {v w}, VR bad θ s.heap v w → VR bad θ s'.heap v w) ∧ (∀ {v w}, VRs bad θ s.heap v w → VRs bad θ s'.heap v w) := by
  have mv : ∀ {v w}, VR bad θ s.heap v w → VR bad θ s'.heap v w := fun r => r.move (fun b its h1 h2 l => ⟨h1, h2, by obtain ⟨o, e, q⟩ := l; exact ⟨o, x.keep _ _ e fun z => h2 (z ▸ hc), q⟩⟩)
    (fun b its h1 h2 l => ⟨h1, h2, by obtain ⟨o, e, q⟩ := l; exact ⟨o, x.keep _ _ e fun z => h2 (z ▸ hc), q⟩⟩) (fun _ _ e => e) fun _ _ e => e
  have mvs : ∀ {v w}, VRs bad θ s.heap v w → VRs bad θ s'.heap v w := fun r => r.move (fun b its h1 h2 l => ⟨h1, h2, by obtain ⟨o, e, q⟩ := l; exact ⟨o, x.keep _ _ e fun z => h2 (z ▸ hc), q⟩⟩)
    (fun b its h1 h2 l => ⟨h1, h2, by obtain ⟨o, e, q⟩ := l; exact ⟨o, x.keep _ _ e fun z => h2 (z ▸ hc), q⟩⟩) (fun _ _ e => e) fun _ _ e => e
  have mvo : ∀ {v w}, VRo bad θ s.heap v w → VRo bad θ s'.heap v w := fun {v w} r => by
    cases v <;> cases w <;> first | exact r | exact mv r
  have no : ∀ b, Own θ a b → b ≠ c := fun b hb e => I.badOut c hc (e ▸ hb)
  refine ⟨⟨fun b o e => x.keep b o (I.pres b o e) fun q => absurd (Heap.lt_size e) (Nat.not_lt.mpr (q ▸ h0)), I.nodup, I.new, fun b hb => ?_, I.badOut, I.len, fun k y o e1 e2 => ?_, ?_, I.llen, I.keys, x.gens.trans I.gens, x.drawn.trans I.drawn, x.os.trans I.os,
    Nat.lt_of_lt_of_le I.toks x.gr.1, fun t b q => Nat.lt_of_lt_of_le (I.gtok t b q) x.gr.1, I.gfun⟩, mv, mvs⟩
  · by_cases e : b = c
    · subst e; exact live
    · obtain ⟨o, q⟩ := I.badLive b hb; exact ⟨o, x.keep b o q e⟩
  · have hne := no y (.inl (List.mem_of_getElem? e1))
    have r := I.objs k y o e1 e2
    cases o with
    | list xs => obtain ⟨vs, n, l, r⟩ := r; exact ⟨vs, n, x.keep _ _ l hne, mvs r⟩
    | barr b => obtain ⟨bs, e, q⟩ := r; exact ⟨bs, x.keep _ _ e hne, q⟩
  · obtain ⟨m, ⟨oL, es, ep, eL, dL, zL⟩, hm⟩ := I.loc
    refine ⟨m, ⟨oL, es, ep, x.keep _ _ eL (no _ (.inr (.inl rfl))), dL, zL⟩, fun i l v e1 e2 => ?_⟩
    have z := hm i l v e1 e2
    have cm : ∀ {d v'}, s.heap.IsCell d v' → s'.heap.IsCell d v' := fun {d v'} q => by
      obtain ⟨o, e, hd'⟩ := q
      refine ⟨o, x.keep _ _ e fun z => ?_, hd'⟩
      rw [z, hs] at e
      (first | exact nos e | cases e)
      rw [hd] at hd'
      cases hd'
    cases l with
    | dict y => exact mvo z
    | cell d => obtain ⟨v', q, z⟩ := z; exact ⟨v', cm q, mvo z⟩
    | ro d => obtain ⟨v', q, z⟩ := z; exact ⟨v', cm q, mvo z⟩
end

/-! the cells of a comprehension -/
noncomputable def freeStep (env : Env) (p : Str × NameKind) (acc : List (Str × Addr)) : List (Str × Addr) := if p.2 == .free then (p.1, (env.cells.lookup p.1).getD 0) :: acc else acc
theorem closure_loop {env : Env} (f : Str × NameKind → List (Str × Addr) → Sem (ForInStep (List (Str × Addr))))
    (hf : ∀ name kind cs, f (name, kind) cs = if (kind == NameKind.free) = true then (cellOf env name >>= fun c => pure (.yield ((name, c) :: cs))) else pure (.yield cs)) :
    ∀ (l : Nm) (acc : List (Str × Addr)), (∀ x, (x, NameKind.free) ∈ l → (env.cells.lookup x).isSome = true) → forIn l acc f = pure (l.foldl (fun acc p => freeStep env p acc) acc)
  | [], acc, _ => rfl
  | (name, kind) :: l, acc, hl => by
    rw [List.forIn_cons, List.foldl_cons, hf]
    by_cases hk : (kind == NameKind.free) = true
    · have hk' : kind = .free := by simpa using hk
      subst hk'
      obtain ⟨c, hc⟩ := Option.isSome_iff_exists.mp (hl name (.head _))
      have : cellOf env name = pure c := by unfold cellOf; rw [hc]
      rw [if_pos hk, this]
      have e : freeStep env (name, .free) acc = (name, c) :: acc := by simp [freeStep, hc]
      rw [e]
      exact closure_loop f hf l _ fun x hx => hl x (.tail _ hx)
    · rw [if_neg hk]
      have e : freeStep env (name, kind) acc = acc := by simp only [freeStep]; rw [if_neg hk]
      rw [e]
      exact closure_loop f hf l _ fun x hx => hl x (.tail _ hx)
theorem closureFor_eq {scope : Scope} {env : Env} (h : ∀ x, (x, NameKind.free) ∈ scope.names → (env.cells.lookup x).isSome = true) : closureFor scope env = pure (scope.names.foldl (fun acc p => freeStep env p acc) []) := by
  unfold closureFor
  show (forIn scope.names [] _ >>= fun r => pure r) = _
  rw [closure_loop (env := env) _ (fun _ _ _ => rfl) scope.names [] h]
  rfl
theorem free_lookup {env : Env} : ∀ (l : Nm) (acc : List (Str × Addr)) (x : Str), (l.map (·.1)).Nodup →
    (l.foldl (fun acc p => freeStep env p acc) acc).lookup x = if (x, NameKind.free) ∈ l then some ((env.cells.lookup x).getD 0) else acc.lookup x
  | [], acc, x, _ => by simp
  | (y, k) :: l, acc, x, h => by
    rw [List.map_cons] at h
    obtain ⟨h1, h2⟩ := List.nodup_cons.mp h
    rw [List.foldl_cons, free_lookup l _ x h2]
    by_cases hx : (x, NameKind.free) ∈ l
    · rw [if_pos hx, if_pos (.tail _ hx)]
    · rw [if_neg hx]
      by_cases he : (x, NameKind.free) = (y, k)
      · (first | exact nos he | cases he)
        rw [if_pos (.head _)]
        simp [freeStep]
      · rw [if_neg (fun q => by rcases List.mem_cons.mp q with q | q; exact he q; exact hx q)]
        unfold freeStep
        split
        · rename_i hk
          have hk' : k = .free := by simpa using hk
          subst hk'
          rw [List.lookup_cons, show (x == y) = false from beq_eq_false_iff_ne.mpr fun e => he (by rw [e])]
        · rfl

theorem cellsFrom_acc : ∀ (names : Nm) (n : Nat) (acc cl : List (Str × Addr)), cellsFrom n names (acc ++ cl) = cellsFrom n names acc ++ cl
  | [], _, _, _ => rfl
  | (y, k) :: r, n, acc, cl => by
    unfold cellsFrom
    split
    · exact cellsFrom_acc r (n + 1) ((y, n) :: acc) cl
    · exact cellsFrom_acc r n acc cl
theorem cellsFrom_mem {x : Str} {c : Addr} : ∀ (names : Nm) (n : Nat) (acc : List (Str × Addr)), (x, c) ∈ cellsFrom n names acc → (x, c) ∈ acc ∨ (x, NameKind.cell) ∈ names
  | [], _, _, h => .inl h
  | (y, k) :: r, n, acc, h => by
    unfold cellsFrom at h
    split at h
    · rename_i hk
      have hk' : k = .cell := by simpa using hk
      subst hk'
      rcases cellsFrom_mem r _ _ h with q | q
      · rcases List.mem_cons.mp q with q | q
        · cases q; exact .inr (.head _)
        · exact .inl q
      · exact .inr (.tail _ q)
    · rcases cellsFrom_mem r _ _ h with q | q
      · exact .inl q
      · exact .inr (.tail _ q)
theorem lookup_none_of {l : List (Str × Addr)} {x : Str} (h : ∀ c, (x, c) ∉ l) : l.lookup x = none := by
  cases e : l.lookup x with
  | none => rfl
  | some c => exact absurd (mem_of_lookup e) (h c)
theorem lookup_append (l r : List (Str × Addr)) (x : Str) : (l ++ r).lookup x = (l.lookup x).or (r.lookup x) := by
  induction l with
  | nil => simp
  | cons p l ih =>
    obtain ⟨y, c⟩ := p
    rw [List.cons_append, List.lookup_cons, List.lookup_cons]
    split
    · rfl
    · exact ih

section
variable {prog : Program} {w : World} {M : Model} {A : Around} {E : Value → Shared → Prop} {s : Shared} {env : Env}
noncomputable def compEnvK (scope : Scope) (cells : List (Str × Addr)) (L : Addr) (env : Env) : Env := { scope, locals := L, globals := env.globals, cells, qual := env.qual, func := none, code := env.code, frame := env.frame, builtins := env.builtins }
/-- the frame of a comprehension -/
theorem newFrame_comp {scope : Scope} {cl : List (Str × Addr)} {Q : Env → Shared → Prop}
    (hQ : ∀ h', h'.Ns s.heap.objs.size (fun _ => none) → (∀ b o, s.heap.get? b = some o → h'.get? b = some o) → CellsOk h' (s.heap.objs.size + 1) (cellsFrom (s.heap.objs.size + 1) scope.names []) →
      Q (compEnvK scope (cellsFrom (s.heap.objs.size + 1) scope.names [] ++ cl) s.heap.objs.size env) { s with heap := h' }) :
    wpAny M A (newFunctionEnv scope env.globals cl [] env.qual none .none (some env)) Q E s := by
  simp only [newFunctionEnv, Option.isSome_some, if_true]
  refine wpAny_bind (wpAny_alloc ?_)
  refine wpAny_bind (wpAny_layCells _ (fun name kind cells => by cases hkc : kind == NameKind.cell <;> simp [hkc]) _ _ _ _ ?_)
  have ok := cellsFrom_ok scope.names (s.heap.push { cls := .type "dict", data := .dict #[] }) (s.heap.objs.size + 1) [] ⟨fun _ _ hm => (nomatch hm), List.Pairwise.nil⟩ (by rw [Heap.size_push]; exact Nat.le_refl _)
  rw [Heap.size_push] at ok
  rw [show ({ s with heap := s.heap.push { cls := .type "dict", data := .dict #[] } } : Shared).heap.objs.size = s.heap.objs.size + 1 from Heap.size_push ..]
  refine wpAny_bind (wpAny_pure ?_)
  rw [show cellsFrom (s.heap.objs.size + 1) scope.names cl = cellsFrom (s.heap.objs.size + 1) scope.names [] ++ cl from cellsFrom_acc _ _ [] cl]
  refine wpAny_pure (hQ _ ((Heap.Ns.new s.heap (.type "dict")).keeps (pushCells_keeps _ _)) (fun b o e => pushCells_keeps _ _ b o (Heap.get?_push_of_some _ e)) ok)

noncomputable def compPostC (M : Model) (A : Around) (E : Value → Shared → Prop) (use : Option (Value → Sem Unit)) (Q : Value → Shared → Prop) (acc : Value) (L : Addr) (r : Result) (s' : Shared) : Prop :=
  match r, use with
  | .ok _, none => ∃ m, s'.heap.Ns L m ∧ ∀ h', Heap.SameBut L s'.heap h' → Q acc { s' with heap := h' }
  | .ok _, some u => wpC M A (u acc) (fun _ s'' => ∃ m, s''.heap.Ns L m ∧ ∀ h', Heap.SameBut L s''.heap h' → Q .none { s'' with heap := h' }) E s'
  | .error _, _ => False

theorem wpC_standIf {α : Type} {c : Prop} [Decidable c] {pos : Pos} {k : PUnit → Sem α} {Q : α → Shared → Prop} (h : wpC M A (k ()) Q E s) :
    wpC M A (if c then (standAt pos >>= k) else k ()) Q E s := by
  split
  · exact wpC_bind (wpC_standAt h)
  · exact h

theorem comp_C {e : PySem.Expr} {scope : Scope} {pos : Pos} {newAcc first : Sem Value} {g : Comprehension} {gs : List Comprehension} {cl : List (Str × Addr)} {use : Option (Value → Sem Unit)}
    {Q : Value → Shared → Prop}
    (hcl : clausesOf e = g :: gs) (hs : ∀ x, foldedSetIterable g.iter env x = pure x) (hclos : closureFor scope env = pure cl)
    (hkind : scope.kind = .function) (hnames : ∀ x ∈ scope.names, x.2 = .local → scope.names.lookup x.1 = some .local)
    (h : wpC M A first (fun x s₁ => wpC M A (pyIter x) (fun it s₂ => wpC M A newAcc (fun acc s₃ =>
      wpC M A (newFunctionEnv scope env.globals cl [] env.qual none .none (some env)) (fun cenv s₄ =>
        codeC M A (.compStart e 0 it acc { cenv with scope := relabel scope env }) (compPostC M A E use Q acc cenv.locals) s₄) E s₃) E s₂) E s₁) E s) :
    wpC M A (comprehension e scope env pos newAcc false first use) Q E s := by
  unfold comprehension
  rw [hclos, hcl]
  refine wpC_bind (wpC_mono h (fun x s₁ h₁ => wpC_bind (wpC_standAt (wpC_bind (wpC_of_eq (hs x) (wpC_bind (wpC_holding (wpC_mono h₁ (fun it s₂ h₂ =>
    wpC_standIf (wpC_bind (wpC_mono h₂ (fun acc s₃ h₃ => wpC_bind (wpC_pure (wpC_bind (wpC_mono h₃ (fun cenv s₄ h₄ => ?_) fun _ _ h' => h')))) fun _ _ h' => h')))
      fun _ _ h' => h'))))))) fun _ _ h' => h')
  dsimp only
  have hv : ∀ x ∈ (scope.names.filter fun x => (x.2 == .local || x.2 == .cell) && x.1 != (".0" : Str)).reverse, x.2 = .local →
      Env.kindOf { cenv with scope := relabel scope env } x.1 = some .local := fun x hx hl => lookup_relabel_local (hnames x (List.mem_filter.mp (List.mem_reverse.mp hx)).1 hl)
  have hv' : ∀ x ∈ (scope.names.filter fun x => (x.2 == .local || x.2 == .cell) && x.1 != (".0" : Str)).reverse.drop 1 ++ (scope.names.filter fun x => (x.2 == .local || x.2 == .cell) && x.1 != (".0" : Str)).reverse.take 1,
      x.2 = .local → Env.kindOf { cenv with scope := relabel scope env } x.1 = some .local := fun x hx hl => by
    rcases List.mem_append.mp hx with h1 | h1
    · exact hv x (List.mem_of_mem_drop h1) hl
    · exact hv x (List.mem_of_mem_take h1) hl
  refine wpC_holding (wpC_bind (wpC_attempt (wpC_holding (wpC_run (codeC_mono h₄ fun r s' hr => ?_)))))
  cases r with
  | ok f =>
    cases use with
    | none =>
      obtain ⟨m, hn, hr⟩ := hr
      exact wpC_bind (wpC_holding (wpC_of (wpAny_comp_letGo (cenv := { cenv with scope := relabel scope env }) hkind _ s' m hv hn fun h' m' _ hs' => wpC_pure (hr h' hs'))))
    | some u =>
      refine wpC_bind (wpC_of (wpAny_rule ?_))
      refine wpC_bind (wpC_holding (wpC_mono hr (fun _ s'' hr' => ?_) fun _ _ h' => h'))
      obtain ⟨m, hn, hr'⟩ := hr'
      exact wpC_bind (wpC_of (wpAny_comp_letGo (cenv := { cenv with scope := relabel scope env }) hkind _ s'' m hv' hn fun h' m' _ hs' => wpC_pure (hr' h' hs')))
  | error x => exact hr.elim
end
end Mine
end
section
namespace Mine
open PySem PySem.W PyProof.Rows PySem.Calls

section
variable {C : Cfg} {F : List Fn} {fns : List Str} {n : Nat} {A : Around} {bad : Addr → Prop} {a : Act} {θ : Th} {s : Shared} {σ σ' : St} {nm : Nm} {env : Env} {k : Nat}

theorem ifs_skip {ifs : List PySem.Expr} {f : PySem.Expr → Bool → Sem (ForInStep Bool)} (hf : ∀ c, f c false = pure (.yield false)) : forIn ifs false f = pure false := by
  induction ifs with
  | nil => rfl
  | cons c r ih => rw [List.forIn_cons, hf]; exact ih
theorem ifs_at (ST : SndT C F fns n) (hA : Fit A n) (Z : EnvOk a nm env) (f : PySem.Expr → Bool → Sem (ForInStep Bool)) (hf0 : ∀ c, f c false = pure (.yield false)) (hf1 : ∀ c, f c true = (isTrue c env (eval c env) >>= fun ok => pure (.yield ok))) :
    ∀ {es : List PySem.Expr} {xs : List X} {b : Bool} {θ : Th} {s : Shared} {σ σ' : St}, Inv C bad θ a σ s → cL (cX fns k nm) es = some xs → evAll (ev F n) xs σ = some (b, σ') →
    At C A bad a θ s (forIn es true f) (PostT σ' b)
  | [], xs, b, θ, s, σ, σ', I, hc, he => by cases hc; cases he; exact At.pure I ⟨rfl, rfl⟩
  | e :: es, xs, b, θ, s, σ, σ', I, hc, he => by
    rw [cL] at hc
    set_option smartUnfolding false in refine elS hc ?_; clear hc; intro x hx hc
    set_option smartUnfolding false in refine elS hc ?_; clear hc; intro xs' hxs hc
    (first | exact nos hc | cases hc)
    simp only [evAll] at he
    rw [List.forIn_cons, hf1]
    split at he
    · rename_i σ1 h1
      refine At.bind (At.bind (ST _ _ _ _ _ _ _ _ _ _ _ _ _ hA Z I hx h1) (Ψ := fun _ σ'' _ r => σ'' = σ1 ∧ r = ForInStep.yield true) fun θ1 σ1' s1 w st I1 p => ?_) fun θ1 σ1' s1 w st I1 p => ?_
      · obtain ⟨rfl, rfl⟩ := p
        exact At.pure I1 ⟨rfl, rfl⟩
      · obtain ⟨rfl, rfl⟩ := p
        exact ifs_at ST hA Z f hf0 hf1 I1 hxs he
    · rename_i σ1 h1
      (first | exact nos he | cases he)
      refine At.bind (At.bind (ST _ _ _ _ _ _ _ _ _ _ _ _ _ hA Z I hx h1) (Ψ := fun _ σ'' _ r => σ'' = σ' ∧ r = ForInStep.yield false) fun θ1 σ1' s1 w st I1 p => ?_) fun θ1 σ1' s1 w st I1 p => ?_
      · obtain ⟨rfl, rfl⟩ := p
        exact At.pure I1 ⟨rfl, rfl⟩
      · obtain ⟨rfl, rfl⟩ := p
        show At C A bad a θ1 s1 (forIn es false f) _
        rw [ifs_skip hf0]
        exact At.pure I1 ⟨rfl, rfl⟩
    · (first | exact nos he | cases he)

theorem IterAt.chgBad {n0 : Nat} {s s' : Shared} {t : It} {i : Nat} {w : Value} {c : Addr} (x : IterAt n0 bad θ a s.heap false t i w) (ch : Chg (fun b => b = c) s s') (hc : bad c) (mvs : ∀ {v w}, VRs bad θ s.heap v w → VRs bad θ s'.heap v w) : IterAt n0 bad θ a s'.heap false t i w := by
  have ne : ∀ {b}, ¬ bad b → b ≠ c := fun h e => h (e ▸ hc)
  cases x with
  | list o hit h1 h2 hl r =>
    obtain ⟨ob, e, q⟩ := hl
    exact .list o (listIter_keep (fun ob e => ch.keep _ _ e (ne o.nb)) hit) h1 h2 ⟨ob, ch.keep _ _ e (ne h2), q⟩ (mvs r)
  | tuple o hit h1 h2 hl r =>
    obtain ⟨ob, e, q⟩ := hl
    obtain ⟨ob2, e2, q2⟩ := hit
    exact .tuple o ⟨ob2, ch.keep _ _ e2 (ne o.nb), q2⟩ h1 h2 ⟨ob, ch.keep _ _ e (ne h2), q⟩ (mvs r)
  | range o hit => exact .range o (ch.keep _ _ hit (ne o.nb))
  | str o hit =>
    obtain ⟨ob2, e2, q2⟩ := hit
    exact .str o ⟨ob2, ch.keep _ _ e2 (ne o.nb), q2⟩
  | ref o hit hk => exact .ref o (listIter_keep (fun ob e => ch.keep _ _ e (ne o.nb)) hit) hk

theorem append_any {D : Addr} {ys : List Value} {m : Nat} {w : Value} (e : s.heap.get? D = some (listObj ys m)) (hz : ys.length ≤ sizeLine) {E : Value → Shared → Prop} {Q : Value → Shared → Prop}
    (hQ : ∀ h' m', h'.get? D = some (listObj (ys ++ [w]) m') → Heap.SameBut D s.heap h' → Q .none { s with heap := h' }) : wpAny (model C.prog C.w) A (call (.builtin "list.append") [.ref D, w]) Q E s := by
  have hL : s.heap.IsList D ys.toArray := isList_obj e
  obtain ⟨n', hd'⟩ := Obj.data_mapSeq (o := listObj ys m) (xs := ys.toArray) (n := m) rfl (·.push w)
  refine wpAny_call_entry slot_list_append hL.typeIs entry_list_append ?_ (args_list_append _ _)
  show wpAny _ _ (updateSeq D (·.push w) >>= fun _ => ret .none) _ _ s
  refine wpAny_bind ?_
  refine wpAny_updateSeq (hz := by rw [List.size_toArray]; exact hz) (_hz' := by rw [Array.size_push, List.size_toArray]; omega) e rfl (wpAny_pure ⟨.none, rfl, hQ _ n' ?_ (Heap.SameBut.update ..)⟩)
  rw [Heap.get?_update_self _ e (Obj.isFreed_of_seq hd')]
  have : Obj.mapSeq (fun x => x.push w) (listObj ys m) = { cls := .type "list", data := (Obj.mapSeq (fun x => x.push w) (listObj ys m)).data } := rfl
  rw [this, hd']
  simp

theorem comp_code (SX : SndX C F fns n) (ST : SndT C F fns n) (hA : Fit A n) (Z : EnvOk a nm env) {s0 : Shared} {θ0 : Th} (h0 : C.h₀.objs.size ≤ s0.heap.objs.size) {t : It} {tgt : Tgt} {te ee ie : PySem.Expr} {ifs : List PySem.Expr} {sc : Scope} {pos : Pos} {xe : X} {xcs : List X} {w : Value} {D : Addr} {vs : List V} {σ' : St}
    (hc : cT nm te = some tgt) (hee : cX fns k nm ee = some xe) (hcs : cL (cX fns k nm) ifs = some xcs) (hD : bad D) (hD0 : s0.heap.objs.size ≤ D) {R : Result → Shared → Prop}
    (hR : ∀ θ' s' ys m, Step θ0 a s0.heap θ' s'.heap → Inv C bad θ' a σ' s' → s'.heap.get? D = some (listObj ys m) → VRs bad θ' s'.heap vs ys → R (.ok .next) s') :
    ∀ (m i : Nat) {θ : Th} {s : Shared} {σ : St} {acc : List V} {ys : List Value} {q : Nat}, Inv C bad θ a σ s → IterAt s0.heap.objs.size bad θ a s.heap false t i w → Step θ0 a s0.heap θ s.heap → s.heap.get? D = some (listObj ys q) → VRs bad θ s.heap acc ys →
      evComp (ev F n) tgt xe xcs t m i σ acc = some (vs, σ') → codeC (model C.prog C.w) A (.compLoop (.ListComp ee [⟨te, ie, ifs, 0⟩] sc pos) 0 w (.ref D) env) R s
  | 0, i, θ, s, σ, acc, ys, q, I, it, st, eD, rD, he => by simp [evComp] at he
  | m + 1, i, θ, s, σ, acc, ys, q, I, it, st, eD, rD, he => by
    simp only [evComp] at he
    refine codeC_of_tree rfl ?_
    rw [Around.under_of_weight rfl]
    show wpC _ A ((compTurn (.ListComp ee [⟨te, ie, ifs, 0⟩] sc pos) 0 w (.ref D) env).onRaise (fun x => do noteFrame x env; theTreesLotGoes x)) _ _ s
    refine wpC_onRaise ?_
    unfold compTurn
    refine wpC_bind (wpC_standAt ?_)
    show wpC _ A (pyNext w >>= _) _ _ s
    cases hat : t.at σ.objs i with
    | none => rw [hat] at he; cases he
    | some r =>
      rw [hat] at he
      refine wpC_bind (wpC_of (next_any hA.handled h0 I it hat ?_ ?_))
      · rintro rfl s1 I1 K
        (first | exact nos he | cases he)
        exact wpC_pure (hR θ s1 ys q (st.after K) I1 (K.old _ _ (.inr hD) eD) (K.mvs rD))
      · rintro v rfl s1 x I1 K rx mid
        dsimp only at he
        have eD1 := K.old _ _ (.inr hD) eD
        have rD1 := K.mvs rD
        refine wpC_bind (wpC_of (letGo_any h0 I1 mid (fun e => nomatch e) fun s2 I2 K2 it2 mv2 => ?_))
        have eD2 := K2.old _ _ (.inr hD) eD1
        have rD2 := K2.mvs rD1
        cases hs : setTgt σ.loc σ.objs tgt v with
        | none => rw [hs] at he; cases he
        | some loc =>
          rw [hs] at he
          dsimp only at he
          refine wpC_bind (wpC_of (setTgt_any hA.handled Z I2 hc hs (mv2 rx) _ _ fun θ3 σ3 s3 _ st3 I3 p3 => ?_))
          subst p3
          have it3 := it2.mv I2 st3
          have base3 := ((st.after K).after K2).trans st3
          have eD3 := st3.keep _ _ eD2 (I2.badOut D hD)
          have rD3 := I2.mvs st3 rD2
          cases hall : evAll (ev F n) xcs ⟨loc, σ.objs⟩ with
          | none => rw [hall] at he; cases he
          | some ar =>
            obtain ⟨b, σ4⟩ := ar
            rw [hall] at he
            refine wpC_bind ?_
            refine ifs_at ST hA Z (env := env) _ (fun c => rfl) (fun c => rfl) I3 hcs hall _ _ fun θ4 σ4' s4 b' st4 I4 p4 => ?_
            obtain ⟨rfl, rfl⟩ := p4
            have it4 := it3.mv I3 st4
            have base4 := base3.trans st4
            have eD4 := st4.keep _ _ eD3 (I3.badOut D hD)
            have rD4 := I3.mvs st4 rD3
            cases b' with
            | false =>
              dsimp only at he
              refine ifC_false rfl ?_
              exact wpC_pure ⟨rfl, comp_code SX ST hA Z h0 hc hee hcs hD hD0 hR m (i + 1) I4 it4 base4 eD4 rD4 he⟩
            | true =>
              dsimp only at he
              refine ifC_true rfl ?_
              cases hel : (ev F n).x xe σ4' with
              | none => rw [hel] at he; cases he
              | some ur =>
                obtain ⟨u, σ5⟩ := ur
                rw [hel] at he
                dsimp only at he
                first | (set_option smartUnfolding false in refine elT he ?_; clear he; intro hz he) | (set_option smartUnfolding false in refine elS he ?_; clear he; intro _ hz he)
                have hz' := bigN_lt hz
                refine wpC_bind ?_
                show wpC _ A (eval ee env >>= fun v => call (.builtin "list.append") [.ref D, v] >>= fun _ => pure ()) _ _ _
                refine wpC_bind (SX _ _ _ _ _ _ _ _ _ _ _ _ _ hA Z I4 hee hel _ _ fun θ5 σ5' s5 wu st5 I5 p5 => ?_)
                obtain ⟨rfl, ru⟩ := p5
                have it5 := it4.mv I4 st5
                have base5 := base4.trans st5
                have eD5 := st5.keep _ _ eD4 (I4.badOut D hD)
                have rD5 := I4.mvs st5 rD4
                refine wpC_bind (wpC_of (wpAny_gr (append_any eD5 (by rw [rD5.length, line_eq]; omega) fun h' m' e6 hs6 g => ?_)))
                have x6 : Chg (fun b => b = D) s5 { s5 with heap := h' } := ⟨fun b o e n => (hs6.2 b n).trans e, g, rfl, rfl, rfl⟩
                obtain ⟨I6, mv6, mvs6⟩ := I5.chgBad x6 hD (Nat.le_trans h0 hD0) ⟨_, e6⟩ eD5 rfl
                refine wpC_pure (wpC_pure ⟨rfl, ?_⟩)
                have base6 : Step θ0 a s0.heap θ5 h' := ⟨base5.ext, base5.g, fun b o e nn => x6.keep b o (base5.keep b o e nn) fun z => absurd (Heap.lt_size e) (Nat.not_lt.mpr (z ▸ hD0)), Nat.le_trans base5.size g.2⟩
                exact comp_code SX ST hA Z h0 hc hee hcs hD hD0 hR m (i + 1) I6 (it5.chgBad x6 hD mvs6) base6 e6 ((mvs6 rD5).append (VRs.one (mv6 ru))) he
end
end Mine
end
section
namespace Mine
open PySem PySem.W PyProof.Rows PySem.Calls

theorem cX_range {fns : List Str} {k : Nat} {nm : Nm} {e : PySem.Expr} {xs : List X} (h : cX fns k nm e = some (.range xs)) :
    ∃ k' f p args pos, k = k' + 1 ∧ e = .Call (.Name f p) args [] pos ∧ isGlob nm f = true ∧ cL (cX fns k' nm) args = some xs ∧ f = "range" := by
  obtain ⟨n, e1, hc⟩ := cX_inv h
  exact hc (fun e => ∃ k' f p args pos, k = k' + 1 ∧ e = .Call (.Name f p) args [] pos ∧ isGlob nm f = true ∧ cL (cX fns k' nm) args = some xs ∧ f = "range") fun q args p h1 h2 => ⟨n, "range", q, args, p, e1, rfl, h1, h2, rfl⟩
theorem cX_enum {fns : List Str} {k : Nat} {nm : Nm} {e : PySem.Expr} {x : X} (h : cX fns k nm e = some (.enum x)) :
    ∃ k' f p args pos, k = k' + 1 ∧ e = .Call (.Name f p) args [] pos ∧ isGlob nm f = true ∧ cL (cX fns k' nm) args = some [x] ∧ f = "enumerate" := by
  obtain ⟨n, e1, hc⟩ := cX_inv h
  exact hc (fun e => ∃ k' f p args pos, k = k' + 1 ∧ e = .Call (.Name f p) args [] pos ∧ isGlob nm f = true ∧ cL (cX fns k' nm) args = some [x] ∧ f = "enumerate") fun q args p h1 h2 => ⟨n, "enumerate", q, args, p, e1, rfl, h1, h2, rfl⟩
theorem cX_notSet {fns : List Str} {k : Nat} {nm : Nm} {e : PySem.Expr} {x : X} (h : cX fns k nm e = some x) (env : Env) (v : Value) : foldedSetIterable e env v = pure v := by
  cases e <;> first | rfl | (cases k <;> exact nos h)

section
variable {C : Cfg} {F : List Fn} {fns : List Str} {K : Nat} {mg mb : Str → Option Value} {n : Nat} {A : Around} {bad : Addr → Prop} {a : Act} {θ : Th} {s : Shared} {σ σ' : St} {nm : Nm} {env : Env} {k : Nat}

theorem eval_name {id : Str} {p : Pos} (h : (id == ("__debug__" : Str)) = false) : eval (.Name id p) env = (do standAt p; loadName env id) := by rw [eval_Name]; exact h
theorem nameB_at (G : GOk C F fns K mg mb) (Z : EnvOk a nm env) (I : Inv C bad θ a σ s) {x : Str} {p : Pos} {w : Value} (hx : isGlob nm x = true) (h0 : mg x = none) (hv : mb x = some w) :
    At C A bad a θ s (eval (.Name x p) env) (fun _ σ' s' w' => σ' = σ ∧ w' = w ∧ s' = s) := by
  obtain ⟨i, hi⟩ := isGlob_spec hx
  rw [eval_name (Z.dbg hi).1]
  exact At.stand (At.any (built_at Z I G.gns G.bns hx h0 hv))
theorem nameG_at (G : GOk C F fns K mg mb) (Z : EnvOk a nm env) (I : Inv C bad θ a σ s) {x : Str} {p : Pos} {w : Value} (hx : isGlob nm x = true) (hv : mg x = some w) :
    At C A bad a θ s (eval (.Name x p) env) (fun _ σ' s' w' => σ' = σ ∧ w' = w ∧ s' = s) := by
  obtain ⟨i, hi⟩ := isGlob_spec hx
  rw [eval_name (Z.dbg hi).1]
  exact At.stand (At.any (glob_at Z I G.gns hx hv))

/-- a call of a name -/
theorem callName_at {α : Type} {f : Str} {p pos : Pos} {args : List PySem.Expr} {xs : List X} {w : Value} {g : List V × St → Option α} {r : α} {Ψ : Th → St → Shared → Value → Prop} (SX : SndX C F fns n) (hA : Fit A n) (Z : EnvOk a nm env) (hn : At C A bad a θ s (eval (.Name f p) env) (fun _ σ' s' w' => σ' = σ ∧ w' = w ∧ s' = s)) (hf : PlainFn C.h₀ w)
    (hc : cL (cX fns k nm) args = some xs) (he : @Option.rec (List V × St) (fun _ => Option α) none g (evL (ev F n) xs σ) = some r)
    (h : ∀ vs σ1 θ1 s1 ws, Step θ a s.heap θ1 s1.heap → Inv C bad θ1 a σ1 s1 → VRs bad θ1 s1.heap vs ws → g (vs, σ1) = some r → At C A bad a θ1 s1 (call w ws) Ψ) : At C A bad a θ s (eval (.Call (.Name f p) args [] pos) env) Ψ :=
  At.bind (f := fun fv => callWith pos fv [] (backTo pos (starEach args env)) (backToKw pos (keywordEach [] env))) hn fun θ1 σ1 s1 w1 st I1 q => by
    obtain ⟨rfl, rfl, rfl⟩ := q
    exact callL_at SX hA Z I1 hf hc he fun vs σ1 θ2 s2 ws st2 => h vs σ1 θ2 s2 ws (st.trans st2)
noncomputable def FirstR (bad : Addr → Prop) (t : It) (σ1 : St) : Th → St → Shared → Value → Prop := fun θ' σ' s' w => σ' = σ1 ∧ ((∃ v, VR bad θ' s'.heap v w ∧ itOf σ1.objs v = some t) ∨ RangeR s'.heap.objs.size t σ1 θ' σ1 s' w)
set_option smartUnfolding false in
theorem iterP_el {r : Ev} {x : X} {t : It} {P : Prop} (h : (match r.x x σ with | some (v, σ1) => (match itOf σ1.objs v with | some it => some (it, σ1) | none => none) | none => none) = some (t, σ')) (k : ∀ v, r.x x σ = some (v, σ') → itOf σ'.objs v = some t → P) : P :=
  eP h fun v σ1 h1 h => elS h fun it h2 h => pI h fun e1 e2 => by subst e1 e2; exact k v h1 h2
set_option smartUnfolding false in
theorem iter_el {r : Ev} {x : X} {t : It} {P : Prop} (h : iterEval r x σ = some (t, σ')) (k1 : ∀ args vs, x = .range args → evL r args σ = some (vs, σ') → rangeOf vs = some t → P) (k2 : ∀ v, r.x x σ = some (v, σ') → itOf σ'.objs v = some t → P) : P := by
  cases x <;> first | exact iterP_el h k2 | skip
  case range args => exact eP h fun v σ1 h1 h => elS h fun it h2 h => pI h fun e1 e2 => by subst e1 e2; exact k1 args v rfl h1 h2
/-- what a loop goes over is made -/
theorem first_at (G : GOk C F fns K mg mb) (SX : SndX C F fns n) (hA : Fit A n) (Z : EnvOk a nm env) (I : Inv C bad θ a σ s) {e : PySem.Expr} {x : X} {t : It} (hx : cX fns k nm e = some x) (he : iterEval (ev F n) x σ = some (t, σ')) :
    At C A bad a θ s (eval e env) (FirstR bad t σ') :=
  iter_el he (fun args vs e0 h1 h2 => by
    subst e0
    obtain ⟨k', f, p, as, pos, rfl, rfl, hg, ha, rfl⟩ := cX_range hx
    exact callName_at (g := some) (r := (vs, σ')) SX hA Z (nameB_at G Z I hg G.range.1 G.range.2) (.inl ⟨_, rfl⟩) ha (by rw [h1]) fun vs' σ1 θ2 s2 ws st2 I2 r2 he => pI he fun e1 e2 => by
      subst e1 e2
      exact (At.any (range_at (n0 := s2.heap.objs.size) I2 (Nat.le_refl _) r2 h2)).mono fun θ3 σ3 s3 w st3 I3 q => ⟨q.1, .inr ⟨rfl, Nat.le_refl _, q.2.2⟩⟩)
    fun v h1 h2 => (SX _ _ _ _ _ _ _ _ _ _ _ _ _ hA Z I hx h1).mono fun _ _ _ _ _ _ p => ⟨p.1, .inl ⟨v, p.2, h2⟩⟩
theorem firstIter_grow (I : Inv C bad θ a σ s) {t : It} {w : Value} (h : FirstR bad t σ θ σ s w) : ∀ E Q, (∀ s' x, Grow s s' → Made s.heap.objs.size bad a false t σ θ σ s' x → Q x s') → wpAny (model C.prog C.w) A (pyIter w) Q E s := by
  obtain ⟨_, h | h⟩ := h
  · obtain ⟨v, r, e⟩ := h
    exact iter_grow I (Nat.le_refl _) r e
  · exact rangeIter_grow I h
theorem firstIter_at (I : Inv C bad θ a σ s) {t : It} {w : Value} (h : FirstR bad t σ θ σ s w) : AtA C A bad a θ s (pyIter w) (Made s.heap.objs.size bad a false t σ) := AtA.grow I (firstIter_grow I h)

theorem capOne_spec {x : Str} {k : NameKind} {c : Option Nat} (h : capOne nm (x, k) = some c) : (k ≠ .free → c = none) ∧ (k = .free → ∃ j, c = some j ∧ slotOf nm x = some j ∧ (nm.lookup x = some .cell ∨ nm.lookup x = some .free)) := by
  cases k with
  | free =>
    refine ⟨fun q => absurd rfl q, fun _ => ?_⟩
    have h : (match nm.lookup x with
      | some k => (match k with
        | .cell => (match slotOf nm x with | some i => some (some i) | none => none)
        | .free => (match slotOf nm x with | some i => some (some i) | none => none)
        | _ => none)
      | none => none) = some c := h
    cases e : nm.lookup x with
    | none => rw [e] at h; exact nos h
    | some k =>
      rw [e] at h
      cases k <;> first | exact nos h | skip
      case cell => set_option smartUnfolding false in exact elS h fun j h1 h => ⟨j, (Option.some.inj h).symm, h1, .inl rfl⟩
      case free => set_option smartUnfolding false in exact elS h fun j h1 h => ⟨j, (Option.some.inj h).symm, h1, .inr rfl⟩
  | _ => exact ⟨fun _ => (Option.some.inj h).symm, fun q => nomatch q⟩
theorem capOf_spec {names : Nm} {cap : List (Option Nat)} (h : capOf nm names = some cap) : cap.length = names.length ∧ ∀ (i : Nat) x k, names[i]? = some (x, k) →
    (k ≠ .free → cap[i]? = some none) ∧ (k = .free → ∃ j, cap[i]? = some (some j) ∧ slotOf nm x = some j ∧ (nm.lookup x = some .cell ∨ nm.lookup x = some .free)) := by
  induction names generalizing cap with
  | nil => exact Option.some.inj h ▸ ⟨rfl, fun i x k e => nos e⟩
  | cons p r ih =>
    obtain ⟨c, h1, h⟩ := ob_inv (x := capOne nm p) h
    obtain ⟨cs, h2, h⟩ := ob_inv (x := capOf nm r) h
    obtain rfl := Option.some.inj h
    have q := ih h2
    refine ⟨congrArg (· + 1) q.1, fun i x k e => ?_⟩
    cases i with
    | zero =>
      obtain rfl := Option.some.inj e
      have z := capOne_spec h1
      exact ⟨fun n => congrArg some (z.1 n), fun e => (z.2 e).elim fun j y => ⟨j, congrArg some y.1, y.2⟩⟩
    | succ i => exact q.2 i x k e
theorem capLoc_get {loc : List (Option V)} : ∀ (cs : List (Option Nat)) (i : Nat), (capLoc loc cs)[i]? = (cs[i]?).map fun c => match c with | none => none | some k => (match loc[k]? with | some v => v | none => none)
  | [], i => by simp [capLoc]
  | none :: cs, 0 => by simp [capLoc]
  | some k :: cs, 0 => by simp [capLoc] <;> cases loc[k]? <;> rfl
  | none :: cs, i + 1 => by simp [capLoc, capLoc_get cs i]
  | some k :: cs, i + 1 => by simp [capLoc, capLoc_get cs i]
theorem capLoc_len {loc : List (Option V)} : ∀ (cs : List (Option Nat)), (capLoc loc cs).length = cs.length
  | [] => rfl
  | none :: cs => by simp [capLoc, capLoc_len cs]
  | some k :: cs => by simp [capLoc, capLoc_len cs]

/-- what is known where a comprehension enters its own frame -/
structure CompK (C : Cfg) (bad : Addr → Prop) (θ : Th) (a : Act) (σ : St) (s : Shared) (nm : Nm) (env : Env) (sc : Scope) (cap : List (Option Nat)) (s4 : Shared) (D : Addr) (h' : Heap) (cs cl : List (Str × Addr)) : Prop where
  Z : EnvOk a nm env
  I : Inv C bad θ a σ s
  kind : sc.kind = .function
  plain : (sc.names.all fun p => !(p.1 == ("__debug__" : Str)) && !(p.1 == ("__classdict__" : Str))) = true
  nodup : (sc.names.map (·.1)).Nodup
  capLen : cap.length = sc.names.length
  capAt : ∀ (i : Nat) x k, sc.names[i]? = some (x, k) → (k ≠ .free → cap[i]? = some none) ∧ (k = .free → ∃ j, cap[i]? = some (some j) ∧ slotOf nm x = some j ∧ (nm.lookup x = some .cell ∨ nm.lookup x = some .free))
  D0 : s.heap.objs.size ≤ D
  Dob : ∃ ob, s4.heap.get? D = some ob
  g : Grow s s4
  hn : h'.Ns s4.heap.objs.size (fun _ => none)
  hk : ∀ b o, s4.heap.get? b = some o → h'.get? b = some o
  ok : CellsOk h' (s4.heap.objs.size + 1) cs
  has : ∀ x, (x, NameKind.cell) ∈ sc.names → ∃ c, cs.lookup x = some c
  mem : ∀ x c, (x, c) ∈ cs → (x, NameKind.cell) ∈ sc.names
  free : ∀ x, (x, NameKind.free) ∈ sc.names → cl.lookup x = some ((env.cells.lookup x).getD 0)
  gr : Gr s4 { s4 with heap := h' }
structure Taken (bad : Addr → Prop) (θ : Th) (a : Act) (σ : St) (s : Shared) (nm : Nm) (env : Env) (cc : List (Str × Addr)) (x : Str) (c : Addr) (j : Nat) (l : Loc) : Prop where
  lk : cc.lookup x = some c
  slot : slotOf nm x = some j
  loc : a.locs[j]? = some l
  key : l.key = .inr c
  kind : env.kindOf x = some .free ∨ env.kindOf x = some .cell
  val : ∀ v, σ.loc[j]? = some v → ∃ v', s.heap.IsCell c v' ∧ VRo bad θ s.heap v v'
  lt : c < s.heap.objs.size
noncomputable abbrev badD (bad : Addr → Prop) (D : Addr) : Addr → Prop := fun b => bad b ∨ b = D
noncomputable abbrev compA (s4 : Shared) (sc : Scope) (cc : List (Str × Addr)) : Act := ⟨s4.heap.objs.size, sc.names.map (locOf cc)⟩
theorem relabel_lookup {env : Env} {x : Str} {k : NameKind} {names : Nm} (h : names.lookup x = some k) : (names.map fun (n, k) => if (k == NameKind.free && env.scope.kind == .function && env.kindOf n == some .cell) then (n, NameKind.cell) else (n, k)).lookup x = some (if (k == NameKind.free && env.scope.kind == .function && env.kindOf x == some .cell) then .cell else k) := by
  induction names with
  | nil => exact nos h
  | cons p r ih =>
    obtain ⟨y, ky⟩ := p
    rw [List.lookup_cons] at h
    show List.lookup x ((if (ky == NameKind.free && env.scope.kind == .function && env.kindOf y == some .cell) = true then (y, NameKind.cell) else (y, ky)) :: _) = _
    cases hxy : x == y with
    | true =>
      rw [hxy] at h
      obtain rfl : x = y := eq_of_beq hxy
      obtain rfl := Option.some.inj h
      split <;> rw [List.lookup_cons, beq_self_eq_true]
    | false =>
      rw [hxy] at h
      split <;> rw [List.lookup_cons, hxy] <;> exact ih h
section
variable {sc : Scope} {cap : List (Option Nat)} {s4 : Shared} {D : Addr} {h' : Heap} {cs cl : List (Str × Addr)}
theorem CompK.same (K : CompK C bad θ a σ s nm env sc cap s4 D h' cs cl) {x : Str} {k1 k2 : NameKind} (h1 : (x, k1) ∈ sc.names) (h2 : (x, k2) ∈ sc.names) : k1 = k2 :=
  (List.mem_iff_getElem?.mp h1).elim fun _ e1 => (List.mem_iff_getElem?.mp h2).elim fun _ e2 => Option.some.inj ((lookup_nodup K.nodup e1).symm.trans (lookup_nodup K.nodup e2))
theorem CompK.own (K : CompK C bad θ a σ s nm env sc cap s4 D h' cs cl) {x : Str} (hx : (x, NameKind.cell) ∈ sc.names) : ∃ c, cs.lookup x = some c ∧ (cs ++ cl).lookup x = some c ∧ h'.IsCell c none ∧ s4.heap.objs.size + 1 ≤ c :=
  (K.has x hx).elim fun c hc => ⟨c, hc, by rw [lookup_append, hc]; rfl, (K.ok.empty x c (mem_of_lookup hc)).1, (K.ok.empty x c (mem_of_lookup hc)).2⟩
theorem CompK.lenJ (K : CompK C bad θ a σ s nm env sc cap s4 D h' cs cl) {j : Nat} {p : Str × NameKind} (h : nm[j]? = some p) : j < σ.loc.length := by
  rw [K.I.llen, K.Z.len]; exact (List.getElem?_eq_some_iff.mp h).1
theorem CompK.taken (K : CompK C bad θ a σ s nm env sc cap s4 D h' cs cl) {x : Str} (hx : (x, NameKind.free) ∈ sc.names) : ∃ c j l, Taken bad θ a σ s nm env (cs ++ cl) x c j l := by
  obtain ⟨i, hi⟩ := List.mem_iff_getElem?.mp hx
  obtain ⟨j, _, hj, hlk⟩ := (K.capAt i x _ hi).2 rfl
  obtain ⟨kk, h1, h2, _⟩ := slotOf_spec hj
  have lk : ∀ c, env.cells.lookup x = some c → (cs ++ cl).lookup x = some c := fun c e => by
    rw [lookup_append, lookup_none_of fun c hc => absurd (K.same hx (K.mem x c hc)) (by decide), K.free x hx, e]; rfl
  obtain ⟨m, hns, hm⟩ := K.I.loc
  have fin : ∀ c l, env.cells.lookup x = some c → a.locs[j]? = some l → l.key = .inr c → (∀ v, σ.loc[j]? = some v → ∃ v', s.heap.IsCell c v' ∧ VRo bad θ s.heap v v') → (env.kindOf x = some .free ∨ env.kindOf x = some .cell) → ∃ c j l, Taken bad θ a σ s nm env (cs ++ cl) x c j l := fun c l e1 e2 e3 e4 e5 =>
    ⟨c, j, l, lk c e1, hj, e2, e3, e5, e4, (e4 _ (List.getElem?_eq_getElem (K.lenJ h1))).elim fun v' q => q.1.elim fun o e => Heap.lt_size e.1⟩
  have sl := K.Z.slots j x kk h1
  rcases hlk with q | q
  · obtain rfl := Option.some.inj (h2.symm.trans q)
    obtain ⟨e1, c, e2, e3⟩ := sl
    exact fin c _ e2 e3 rfl (fun v hv => hm j _ v e3 hv) (.inr e1)
  · obtain rfl := Option.some.inj (h2.symm.trans q)
    obtain ⟨e1, c, e2, e3⟩ := sl
    exact fin c _ e2 e3 rfl (fun v hv => hm j _ v e3 hv) e1
theorem CompK.keep (K : CompK C bad θ a σ s nm env sc cap s4 D h' cs cl) {b : Addr} {o : Obj} (e : s.heap.get? b = some o) : h'.get? b = some o := K.hk b o (K.g.keep b o e id)
theorem CompK.mvB (K : CompK C bad θ a σ s nm env sc cap s4 D h' cs cl) : (∀ {v w}, VR bad θ s.heap v w → VR (badD bad D) θ h' v w) ∧ ∀ {v w}, VRs bad θ s.heap v w → VRs (badD bad D) θ h' v w :=
  VR.moveB (fun b its h1 h2 l => ⟨h1, fun q => q.elim h2 fun z => absurd (isList_lt l) (Nat.not_lt.mpr (z ▸ K.D0)), l.elim fun o q => ⟨o, K.keep q.1, q.2⟩⟩)
    (fun b its h1 h2 l => ⟨h1, fun q => q.elim h2 fun z => absurd (isTuple_lt l) (Nat.not_lt.mpr (z ▸ K.D0)), l.elim fun o q => ⟨o, K.keep q.1, q.2⟩⟩) (fun _ _ e => e) fun _ _ q => q
theorem CompK.mvo (K : CompK C bad θ a σ s nm env sc cap s4 D h' cs cl) {v : Option V} {w : Option Value} (r : VRo bad θ s.heap v w) : VRo (badD bad D) θ h' v w := by
  cases v <;> cases w <;> first | exact r | exact K.mvB.1 r
theorem CompK.ownb (K : CompK C bad θ a σ s nm env sc cap s4 D h' cs cl) {y : Addr} (q : Own θ (compA s4 sc (cs ++ cl)) y) : y ∈ θ.as ∨ s4.heap.objs.size ≤ y := by
  rcases q with q | q | q
  · exact .inl q
  · exact .inr (Nat.le_of_eq q.symm)
  · obtain ⟨⟨z, kz⟩, hp, e⟩ := List.mem_map.mp q
    cases kz <;> first | (cases e; done) | skip
    obtain ⟨c, _, hc, _, hc2⟩ := K.own hp
    have e : Loc.cell (((cs ++ cl).lookup z).getD 0) = Loc.cell y := e
    rw [hc] at e
    cases e
    exact .inr (Nat.le_of_succ_le hc2)
theorem CompK.badOut (K : CompK C bad θ a σ s nm env sc cap s4 D h' cs cl) {b : Addr} (q : badD bad D b) (r : Own θ (compA s4 sc (cs ++ cl)) b) : False := by
  rcases K.ownb r with r | r
  · rcases q with q | q
    · exact K.I.badOut b q (.inl r)
    · exact (K.I.live (.inl r)).elim fun o e => absurd (Heap.lt_size e) (Nat.not_lt.mpr (q ▸ K.D0))
  · rcases q with q | q
    · exact (K.I.badLive b q).elim fun o e => absurd (Heap.lt_size e) (Nat.not_lt.mpr (Nat.le_trans K.g.gr.2 r))
    · exact K.Dob.elim fun o e => absurd (Heap.lt_size e) (Nat.not_lt.mpr (q ▸ r))
theorem CompK.objs (K : CompK C bad θ a σ s nm env sc cap s4 D h' cs cl) {o : O} {y : Addr} (r : OR bad θ s.heap o y) : OR (badD bad D) θ h' o y := by
  cases o with
  | list xs => obtain ⟨vs, n, e, r⟩ := r; exact ⟨vs, n, K.keep e, K.mvB.2 r⟩
  | barr l => obtain ⟨bs, e, q⟩ := r; exact ⟨bs, K.keep e, q⟩
theorem CompK.slotFree (K : CompK C bad θ a σ s nm env sc cap s4 D h' cs cl) {x : Str} {i : Nat} {v : Option V} (hp : sc.names[i]? = some (x, .free)) (e2 : (capLoc σ.loc cap)[i]? = some v) : SlotR (badD bad D) θ h' (fun _ => none) (locOf (cs ++ cl) (x, .free)) v := by
  obtain ⟨j, hj1, hj2, _⟩ := (K.capAt i x _ hp).2 rfl
  obtain ⟨c, j', l, T⟩ := K.taken (List.mem_of_getElem? hp)
  obtain rfl := Option.some.inj (hj2.symm.trans T.slot)
  rw [capLoc_get, hj1] at e2
  show SlotR _ θ h' _ (.ro (((cs ++ cl).lookup x).getD 0)) v
  rw [T.lk]
  obtain ⟨kk, h1, _, _⟩ := slotOf_spec hj2
  have hjl := List.getElem?_eq_getElem (K.lenJ h1)
  obtain ⟨v', z1, z2⟩ := T.val _ hjl
  have e2 : some (match σ.loc[j]? with | some v => v | none => none) = some v := e2
  rw [hjl] at e2
  obtain ⟨o, eo, hd⟩ := z1
  exact ⟨v', ⟨o, K.keep eo, hd⟩, K.mvo ((Option.some.inj e2 : σ.loc[j]'(K.lenJ h1) = v) ▸ z2)⟩
theorem CompK.slotNone (K : CompK C bad θ a σ s nm env sc cap s4 D h' cs cl) {x : Str} {k : NameKind} {i : Nat} {v : Option V} (hp : sc.names[i]? = some (x, k)) (hf : k ≠ .free) (e2 : (capLoc σ.loc cap)[i]? = some v) : v = none := by
  rw [capLoc_get, (K.capAt i x k hp).1 hf] at e2
  exact (Option.some.inj e2).symm
theorem CompK.slotR (K : CompK C bad θ a σ s nm env sc cap s4 D h' cs cl) {i : Nat} {l : Loc} {v : Option V} (e1 : (sc.names.map (locOf (cs ++ cl)))[i]? = some l) (e2 : (capLoc σ.loc cap)[i]? = some v) : SlotR (badD bad D) θ h' (fun _ => none) l v := by
  rw [List.getElem?_map, Option.map_eq_some_iff] at e1
  obtain ⟨⟨x, k⟩, hp, rfl⟩ := e1
  cases k with
  | free => exact K.slotFree hp e2
  | cell =>
    obtain rfl := K.slotNone hp (by decide) e2
    obtain ⟨c, _, q1, q2, _⟩ := K.own (List.mem_of_getElem? hp)
    show SlotR _ θ h' _ (.cell (((cs ++ cl).lookup x).getD 0)) none
    rw [q1]
    exact ⟨none, q2, trivial⟩
  | _ =>
    obtain rfl := K.slotNone hp (by decide) e2
    exact trivial
/-- what a name's place is -/
noncomputable def Desc (a : Act) (s s4 : Shared) (nm : Nm) (cs : List (Str × Addr)) (x : Str) (κ : Str ⊕ Addr) : Prop := κ = .inl x ∨ (∃ c, κ = .inr c ∧ cs.lookup x = some c ∧ s4.heap.objs.size + 1 ≤ c) ∨ ∃ c j l, κ = .inr c ∧ slotOf nm x = some j ∧ a.locs[j]? = some l ∧ l.key = .inr c ∧ c < s.heap.objs.size
theorem CompK.desc (K : CompK C bad θ a σ s nm env sc cap s4 D h' cs cl) {x : Str} {k : NameKind} (hx : (x, k) ∈ sc.names) : Desc a s s4 nm cs x (locOf (cs ++ cl) (x, k)).key := by
  cases k with
  | free =>
    obtain ⟨c, j, l, T⟩ := K.taken hx
    exact .inr (.inr ⟨c, j, l, by show (Loc.ro (((cs ++ cl).lookup x).getD 0)).key = _; rw [T.lk]; rfl, T.slot, T.loc, T.key, T.lt⟩)
  | cell =>
    obtain ⟨c, q0, q1, _, q3⟩ := K.own hx
    exact .inr (.inl ⟨c, by show (Loc.cell (((cs ++ cl).lookup x).getD 0)).key = _; rw [q1]; rfl, q0, q3⟩)
  | _ => exact .inl rfl
theorem CompK.descEq (K : CompK C bad θ a σ s nm env sc cap s4 D h' cs cl) {y z : Str} {κ : Str ⊕ Addr} (p : Desc a s s4 nm cs y κ) (q : Desc a s s4 nm cs z κ) : y = z := by
  have lt : ∀ {c}, c < s.heap.objs.size → s4.heap.objs.size + 1 ≤ c → False := fun h1 h2 => absurd h1 (Nat.not_lt.mpr (Nat.le_trans K.g.gr.2 (Nat.le_of_succ_le h2)))
  rcases p with d1 | ⟨c, d1, d2, d3⟩ | ⟨c, j, l, d1, d2, d3, d4, d5⟩ <;> rcases q with f1 | ⟨c', f1, f2, f3⟩ | ⟨c', j', l', f1, f2, f3, f4, f5⟩ <;> first | (cases (d1.symm.trans f1); done) | skip
  · exact Sum.inl.inj (d1.symm.trans f1)
  · obtain rfl := Sum.inr.inj (d1.symm.trans f1)
    exact name_of_addr K.ok.apart (mem_of_lookup d2) (mem_of_lookup f2)
  · obtain rfl := Sum.inr.inj (d1.symm.trans f1)
    exact (lt f5 d3).elim
  · obtain rfl := Sum.inr.inj (d1.symm.trans f1)
    exact (lt d5 f3).elim
  · obtain rfl := Sum.inr.inj (d1.symm.trans f1)
    by_cases hj : j = j'
    · subst hj
      obtain ⟨k1, g1, _, _⟩ := slotOf_spec d2
      obtain ⟨k2, g2, _, _⟩ := slotOf_spec f2
      exact congrArg Prod.fst (Option.some.inj (g1.symm.trans g2))
    · exact absurd (d4.trans f4.symm) (key_ne K.I.keys d3 f3 hj)
theorem CompK.keys (K : CompK C bad θ a σ s nm env sc cap s4 D h' cs cl) : ((sc.names.map (locOf (cs ++ cl))).map Loc.key).Nodup := by
  rw [List.map_map]
  unfold List.Nodup
  rw [List.pairwise_map]
  have hp : sc.names.Pairwise fun p q => p.1 ≠ q.1 := by have := K.nodup; unfold List.Nodup at this; rw [List.pairwise_map] at this; exact this
  exact hp.imp_of_mem fun {p q} hp hq hne e => hne (K.descEq (K.desc hp) (show Desc a s s4 nm cs q.1 (locOf (cs ++ cl) p).key from (show (locOf (cs ++ cl) p).key = (locOf (cs ++ cl) q).key from e) ▸ K.desc hq))
theorem CompK.slots (K : CompK C bad θ a σ s nm env sc cap s4 D h' cs cl) (i : Nat) (x : Str) (k : NameKind) (hi : sc.names[i]? = some (x, k)) : SlotOk { compEnvK sc (cs ++ cl) s4.heap.objs.size env with scope := relabel sc env } (compA s4 sc (cs ++ cl)) i x k := by
  have hx := List.mem_of_getElem? hi
  have hloc : (sc.names.map (locOf (cs ++ cl)))[i]? = some (locOf (cs ++ cl) (x, k)) := by rw [List.getElem?_map, hi]; rfl
  have hrel := relabel_lookup (env := env) (lookup_nodup K.nodup hi)
  cases k with
  | cell =>
    obtain ⟨c, _, q1, _, _⟩ := K.own hx
    exact ⟨hrel, c, q1, hloc.trans (congrArg (fun z : Option Addr => some (Loc.cell (z.getD 0))) q1)⟩
  | free =>
    obtain ⟨c, j, l, T⟩ := K.taken hx
    refine ⟨?_, c, T.lk, hloc.trans (congrArg (fun z : Option Addr => some (Loc.ro (z.getD 0))) T.lk)⟩
    have : (relabel sc env).names.lookup x = some (if (NameKind.free == NameKind.free && env.scope.kind == .function && env.kindOf x == some .cell) then .cell else .free) := hrel
    split at this
    · exact .inr this
    · exact .inl this
  | _ => exact ⟨hrel, hloc⟩
theorem CompK.all (K : CompK C bad θ a σ s nm env sc cap s4 D h' cs cl) : Inv C (badD bad D) θ (compA s4 sc (cs ++ cl)) ⟨capLoc σ.loc cap, σ.objs⟩ { s4 with heap := h' } ∧ EnvOk (compA s4 sc (cs ++ cl)) sc.names { compEnvK sc (cs ++ cl) s4.heap.objs.size env with scope := relabel sc env } :=
  ⟨⟨fun b o e => K.keep (K.I.pres b o e), K.I.nodup, fun y q => (K.ownb q).elim (fun q => K.I.new y (.inl q)) fun q => Nat.le_trans (Nat.le_trans K.I.sizeOk K.g.gr.2) q, fun b q => q.elim (fun q => (K.I.badLive b q).elim fun o e => ⟨o, K.keep e⟩) fun q => K.Dob.elim fun o e => ⟨o, q ▸ K.hk _ _ e⟩, fun b q r => K.badOut q r, K.I.len,
    fun j y o e1 e2 => K.objs (K.I.objs j y o e1 e2), ⟨_, K.hn, fun i l v e1 e2 => K.slotR e1 e2⟩, by show (capLoc σ.loc cap).length = (sc.names.map (locOf (cs ++ cl))).length; rw [capLoc_len, K.capLen, List.length_map], K.keys, K.g.gens.trans K.I.gens, K.g.drawn.trans K.I.drawn, K.g.os.trans K.I.os,
    Nat.lt_of_lt_of_le K.I.toks (Nat.le_trans K.g.gr.1 K.gr.1), fun t b q => Nat.lt_of_lt_of_le (K.I.gtok t b q) (Nat.le_trans K.g.gr.1 K.gr.1), K.I.gfun⟩,
   ⟨K.kind, rfl, K.Z.globals, K.Z.builtins, K.slots, List.length_map .., K.plain⟩⟩
end
theorem scOk_kind {sc : Scope} (h : scOk sc = true) : sc.kind = .function := by
  have h := (Bool.and_eq_true_iff.mp (Bool.and_eq_true_iff.mp h).1).1
  split at h
  · assumption
  · exact nob h
/-- the comprehension's own frame -/
theorem comp_inv {sc : Scope} {cap : List (Option Nat)} {s4 : Shared} (Z : EnvOk a nm env) (I : Inv C bad θ a σ s) (hsc : scOk sc = true) (hcap : capOf nm sc.names = some cap) {D : Addr} {ob : Obj} (hD : s4.heap.get? D = some ob) (hD0 : s.heap.objs.size ≤ D)
    (g : Grow s s4) {h' : Heap} (hn : h'.Ns s4.heap.objs.size (fun _ => none)) (hk : ∀ b o, s4.heap.get? b = some o → h'.get? b = some o) (ok : CellsOk h' (s4.heap.objs.size + 1) (cellsFrom (s4.heap.objs.size + 1) sc.names [])) (gr : Gr s4 { s4 with heap := h' })
    {cl : List (Str × Addr)} (hcl : cl = sc.names.foldl (fun acc p => freeStep env p acc) []) :
      Inv C (badD bad D) θ (compA s4 sc (cellsFrom (s4.heap.objs.size + 1) sc.names [] ++ cl)) ⟨capLoc σ.loc cap, σ.objs⟩ { s4 with heap := h' } ∧
      EnvOk (compA s4 sc (cellsFrom (s4.heap.objs.size + 1) sc.names [] ++ cl)) sc.names { compEnvK sc (cellsFrom (s4.heap.objs.size + 1) sc.names [] ++ cl) s4.heap.objs.size env with scope := relabel sc env } :=
  have hnd := of_decide_eq_true (Bool.and_eq_true_iff.mp (Bool.and_eq_true_iff.mp hsc).1).2
  CompK.all (cap := cap) ⟨Z, I, scOk_kind hsc, (Bool.and_eq_true_iff.mp hsc).2, hnd, (capOf_spec hcap).1, (capOf_spec hcap).2, hD0, ⟨ob, hD⟩, g, hn, hk, ok,
    fun x hx => Option.isSome_iff_exists.mp (cellsFrom_has (x := x) sc.names (s4.heap.objs.size + 1) [] hx), fun x c hc => (cellsFrom_mem _ _ _ hc).elim (fun q => (nomatch q)) id, fun x hx => (by rw [hcl, free_lookup sc.names [] x hnd, if_pos hx]), gr⟩
end
end Mine
end
section
namespace Mine
open PySem PySem.W PyProof.Rows PySem.Calls

section
variable {C : Cfg} {F : List Fn} {fns : List Str} {K : Nat} {mg mb : Str → Option Value} {n : Nat} {A : Around} {bad : Addr → Prop} {a : Act} {θ : Th} {s s' : Shared} {σ σ' : St} {nm : Nm} {env : Env} {k : Nat}

/-- a dict that is nobody's changes -/
theorem Inv.chgDict (I : Inv C bad θ a σ s) {L : Addr} {m : Str → Option Value} (hn : s.heap.Ns L m) (x : Chg (fun b => b = L) s s') (h0 : C.h₀.objs.size ≤ L) (h1 : L ≠ a.L) (h2 : ¬ bad L) :
    Inv C bad θ a σ s' ∧ (∀ {v w}, VR bad θ s.heap v w → VR bad θ s'.heap v w) := by
  obtain ⟨od, es, ep, eD, dD, _⟩ := hn
  have ne : ∀ {b ob}, s.heap.get? b = some ob → (∀ es ep, ob.data ≠ .dict es ep) → b ≠ L := fun {b ob} e h q => by
    rw [q, eD] at e; cases e; exact h _ _ dD
  have kl : ∀ b its, s.heap.IsList b its → s'.heap.IsList b its := fun b its ⟨o, e, c, n, hd⟩ => ⟨o, x.keep b o e (ne e (by rw [hd]; exact fun _ _ q => nomatch q)), c, n, hd⟩
  have kt : ∀ b its, s.heap.IsTuple b its → s'.heap.IsTuple b its := fun b its ⟨o, e, c, n, hd⟩ => ⟨o, x.keep b o e (ne e (by rw [hd]; exact fun _ _ q => nomatch q)), c, n, hd⟩
  have kc : ∀ b v, s.heap.IsCell b v → s'.heap.IsCell b v := fun b v ⟨o, e, hd⟩ => ⟨o, x.keep b o e (ne e (by rw [hd]; exact fun _ _ q => nomatch q)), hd⟩
  have mv : ∀ {v w}, VR bad θ s.heap v w → VR bad θ s'.heap v w := fun r => r.move (fun b its q1 q2 l => ⟨q1, q2, kl b its l⟩) (fun b its q1 q2 l => ⟨q1, q2, kt b its l⟩) (fun _ _ e => e) fun _ _ e => e
  have mvs : ∀ {v w}, VRs bad θ s.heap v w → VRs bad θ s'.heap v w := fun r => r.move (fun b its q1 q2 l => ⟨q1, q2, kl b its l⟩) (fun b its q1 q2 l => ⟨q1, q2, kt b its l⟩) (fun _ _ e => e) fun _ _ e => e
  have mvo : ∀ {v w}, VRo bad θ s.heap v w → VRo bad θ s'.heap v w := fun {v w} r => by
    cases v <;> cases w <;> first | exact r | exact mv r
  refine ⟨⟨fun b o e => x.keep b o (I.pres b o e) fun q => absurd (Heap.lt_size e) (Nat.not_lt.mpr (q ▸ h0)), I.nodup, I.new, fun b hb => ?_, I.badOut, I.len, fun k y o e1 e2 => ?_, ?_, I.llen, I.keys, x.gens.trans I.gens, x.drawn.trans I.drawn, x.os.trans I.os,
    Nat.lt_of_lt_of_le I.toks x.gr.1, fun t b q => Nat.lt_of_lt_of_le (I.gtok t b q) x.gr.1, I.gfun⟩, mv⟩
  · obtain ⟨o, e⟩ := I.badLive b hb; exact ⟨o, x.keep b o e fun q => h2 (q ▸ hb)⟩
  · have r := I.objs k y o e1 e2
    cases o with
    | list xs => obtain ⟨vs, n, l, r⟩ := r; exact ⟨vs, n, x.keep _ _ l (ne l fun _ _ q => nomatch q), mvs r⟩
    | barr b => obtain ⟨bs, e, q⟩ := r; exact ⟨bs, x.keep _ _ e (ne e fun _ _ q => nomatch q), q⟩
  · obtain ⟨m, ⟨oL, es', ep', eL, dL, zL⟩, hm⟩ := I.loc
    refine ⟨m, ⟨oL, es', ep', x.keep _ _ eL (Ne.symm h1), dL, zL⟩, fun i l v e1 e2 => ?_⟩
    have r := hm i l v e1 e2
    cases l with
    | dict y => exact mvo r
    | cell c => obtain ⟨v', q, r⟩ := r; exact ⟨v', kc _ _ q, mvo r⟩
    | ro c => obtain ⟨v', q, r⟩ := r; exact ⟨v', kc _ _ q, mvo r⟩

theorem IterAt.enter {n0 : Nat} {D L : Addr} {locs : List Loc} {h h' : Heap} {t : It} {i : Nat} {w : Value} (x : IterAt n0 bad θ a h false t i w) (hD : h.objs.size ≤ D) (keep : ∀ b o, h.get? b = some o → h'.get? b = some o)
    (own : ∀ b, b < h.objs.size → Own θ ⟨L, locs⟩ b → b ∈ θ.as) (mvs : ∀ {v w}, VRs bad θ h v w → VRs (fun b => bad b ∨ b = D) θ h' v w) : IterAt n0 (fun b => bad b ∨ b = D) θ ⟨L, locs⟩ h' false t i w := by
  have off : ∀ {b}, b < h.objs.size → Off n0 bad θ a b → Off n0 (fun b => bad b ∨ b = D) θ ⟨L, locs⟩ b := fun hb o => ⟨o.lo, fun q => q.elim o.nb fun z => absurd hb (Nat.not_lt.mpr (z ▸ hD)), fun q => o.no (.inl (own _ hb q))⟩
  have nD : ∀ {b}, b < h.objs.size → ¬ bad b → ¬ (bad b ∨ b = D) := fun hb h1 q => q.elim h1 fun z => absurd hb (Nat.not_lt.mpr (z ▸ hD))
  cases x with
  | list o hit h1 h2 hl r =>
    have l1 := isList_lt hl
    obtain ⟨ob, e, q⟩ := hl
    exact .list (off (listIter_lt hit) o) (listIter_keep (fun ob e => keep _ _ e) hit) h1 (nD l1 h2) ⟨ob, keep _ _ e, q⟩ (mvs r)
  | tuple o hit h1 h2 hl r =>
    have l1 := isTuple_lt hl
    obtain ⟨ob, e, q⟩ := hl
    obtain ⟨ob2, e2, q2⟩ := hit
    exact .tuple (off (Heap.lt_size e2) o) ⟨ob2, keep _ _ e2, q2⟩ h1 (nD l1 h2) ⟨ob, keep _ _ e, q⟩ (mvs r)
  | range o hit => exact .range (off (Heap.lt_size hit) o) (keep _ _ hit)
  | str o hit =>
    obtain ⟨ob2, e2, q2⟩ := hit
    exact .str (off (Heap.lt_size e2) o) ⟨ob2, keep _ _ e2, q2⟩
  | ref o hit hk => exact .ref (off (listIter_lt hit) o) (listIter_keep (fun ob e => keep _ _ e) hit) hk

theorem comp_run (G : GOk C F fns K mg mb) (SX : SndX C F fns n) (ST : SndT C F fns n) (hA : Fit A n) (Z : EnvOk a nm env) (I : Inv C bad θ a σ s) {te ee ie : PySem.Expr} {ifs : List PySem.Expr} {sc : Scope} {pos ipos : Pos} {xe xi : X} {xcs : List X} {cap : List (Option Nat)} {tgt : Tgt} {t : It} {σ1 σ2 : St} {vs : List V}
    (hsc : scOk sc = true) (hcap : capOf nm sc.names = some cap) (hc : cT sc.names te = some tgt) (hee : cX fns k sc.names ee = some xe) (hie : cX fns k nm ie = some xi) (hcs : cL (cX fns k sc.names) ifs = some xcs)
    (he1 : iterEval (ev F n) xi σ = some (t, σ1)) (he2 : evComp (ev F n) tgt xe xcs t (t.turns σ1.objs) 0 ⟨capLoc σ1.loc cap, σ1.objs⟩ [] = some (vs, σ2))
    {use : Option (Value → Sem Unit)} {E : Value → Shared → Prop} {Q : Value → Shared → Prop}
    (hQ : ∀ θ5 s5 w, Step θ a s.heap θ5 s5.heap → Inv C bad θ5 a ⟨σ1.loc, σ2.objs⟩ s5 → VR bad θ5 s5.heap (.list vs) w →
      match use with | none => Q w s5 | some u => ∃ σ6, At C A bad a θ5 s5 (u w) (fun _ σ' _ _ => σ' = σ6) ∧ ∀ θ6 s6, Step θ a s.heap θ6 s6.heap → Inv C bad θ6 a σ6 s6 → Q .none s6) :
    wpC (model C.prog C.w) A (comprehension (.ListComp ee [⟨te, ie, ifs, 0⟩] sc pos) sc env ipos (newList []) false (eval ie env) use) Q E s := by
  obtain ⟨hsc1, hplain⟩ := Bool.and_eq_true_iff.mp hsc
  obtain ⟨hkd, hnd⟩ := Bool.and_eq_true_iff.mp hsc1
  have hkind : sc.kind = .function := by
    split at hkd
    · assumption
    · cases hkd
  have hnames : (sc.names.map (·.1)).Nodup := of_decide_eq_true hnd
  obtain ⟨_, hcl2⟩ := capOf_spec hcap
  have hfree : ∀ x, (x, NameKind.free) ∈ sc.names → (env.cells.lookup x).isSome = true := fun x hx => by
    obtain ⟨i, hi⟩ := List.mem_iff_getElem?.mp hx
    obtain ⟨j, _, hj, hlk⟩ := (hcl2 i x _ hi).2 rfl
    obtain ⟨kk, h1, h2, _⟩ := slotOf_spec hj
    have sl := Z.slots j x kk h1
    rcases hlk with q | q <;> rw [h2] at q <;> cases q
    · obtain ⟨_, c, e2, _⟩ := sl; rw [e2]; rfl
    · obtain ⟨_, c, e2, _⟩ := sl; rw [e2]; rfl
  refine comp_C rfl (cX_notSet hie env) (closureFor_eq hfree) hkind (fun x hx hl => ?_) ?_
  · obtain ⟨i, hi⟩ := List.mem_iff_getElem?.mp hx
    obtain ⟨y, ky⟩ := x
    have : ky = .local := hl
    subst this
    exact lookup_nodup hnames hi
  · refine first_at G SX hA Z I hie he1 _ _ fun θ1 σ1' s1 w1 st1 I1 p1 => ?_
    have hσ : σ1' = σ1 := p1.1
    subst hσ
    refine wpC_of (firstIter_grow I1 p1 _ _ fun s2 it g2 p2 => ?_)
    have I2 := I1.grow g2
    obtain ⟨_, itA⟩ := p2
    refine wpC_of (wpAny_newObj_type (T := "list") ?_ (by show (0 : Nat) ≤ _; omega))
    have g3 : Grow s2 { s2 with heap := s2.heap.push { cls := .type "list", data := .seq (([] : List Value)).toArray } } := Chg.push
    have eD : (s2.heap.push { cls := .type "list", data := .seq (([] : List Value)).toArray }).get? s2.heap.objs.size = some (listObj [] 0) := Heap.get?_push_size _ rfl
    refine wpC_of (wpAny_gr (newFrame_comp fun h' hn hk ok gr => ?_))
    generalize hs3 : ({ s2 with heap := s2.heap.push { cls := .type "list", data := .seq (([] : List Value)).toArray } } : Shared) = s3 at hn hk ok gr g3 ⊢
    have eD3 : s3.heap.get? s2.heap.objs.size = some (listObj [] 0) := by rw [← hs3]; exact eD
    obtain ⟨I4, Z4⟩ := comp_inv Z I2 hsc hcap eD3 (Nat.le_refl _) g3 hn hk ok gr rfl
    have keep24 : ∀ b o, s2.heap.get? b = some o → h'.get? b = some o := fun b o e => hk b o (g3.keep b o e id)
    have sz23 : s2.heap.objs.size ≤ s3.heap.objs.size := g3.gr.2
    have ownlt : ∀ b, b < s2.heap.objs.size → Own θ1 ⟨s3.heap.objs.size, sc.names.map (locOf (cellsFrom (s3.heap.objs.size + 1) sc.names [] ++ sc.names.foldl (fun acc p => freeStep env p acc) []))⟩ b → b ∈ θ1.as := fun b hb q => by
      rcases q with q | q | q
      · exact q
      · have : b = s3.heap.objs.size := q
        exact absurd hb (Nat.not_lt.mpr (by rw [this]; exact sz23))
      · obtain ⟨p, hp, e⟩ := List.mem_map.mp q
        obtain ⟨z, kz⟩ := p
        cases kz <;> simp only [locOf] at e <;> try (first | exact nos e | (cases e; done))
        obtain ⟨c, hc⟩ := Option.isSome_iff_exists.mp (cellsFrom_has (x := z) sc.names (s3.heap.objs.size + 1) [] hp)
        have hc2 := (ok.empty z c (mem_of_lookup hc)).2
        rw [lookup_append, hc] at e
        (first | exact nos e | cases e)
        exact absurd hb (Nat.not_lt.mpr (Nat.le_trans sz23 (Nat.le_of_succ_le hc2)))
    have mvs4 : ∀ {v w}, VRs bad θ1 s2.heap v w → VRs (fun b => bad b ∨ b = s2.heap.objs.size) θ1 h' v w := fun r => r.move (fun b its h1 h2 l => ⟨h1, fun q => q.elim h2 fun z => absurd (isList_lt l) (Nat.not_lt.mpr (z ▸ Nat.le_refl _)), by obtain ⟨o, e, q⟩ := l; exact ⟨o, keep24 _ _ e, q⟩⟩)
      (fun b its h1 h2 l => ⟨h1, fun q => q.elim h2 fun z => absurd (isTuple_lt l) (Nat.not_lt.mpr (z ▸ Nat.le_refl _)), by obtain ⟨o, e, q⟩ := l; exact ⟨o, keep24 _ _ e, q⟩⟩) (fun _ _ e => e) fun _ _ q => q
    have it4 := itA.enter (D := s2.heap.objs.size) (L := s3.heap.objs.size) (locs := sc.names.map (locOf (cellsFrom (s3.heap.objs.size + 1) sc.names [] ++ sc.names.foldl (fun acc p => freeStep env p acc) []))) (Nat.le_refl _) keep24 ownlt mvs4
    have base4 : Step θ1 ⟨s3.heap.objs.size, sc.names.map (locOf (cellsFrom (s3.heap.objs.size + 1) sc.names [] ++ sc.names.foldl (fun acc p => freeStep env p acc) []))⟩ s1.heap θ1 h' :=
      ⟨⟨[], by simp, by simp⟩, fun _ _ q => q, fun b o e _ => keep24 b o (g2.keep b o e id), Nat.le_trans g2.gr.2 (Nat.le_trans sz23 gr.2)⟩
    have hlen1 : s1.heap.objs.size ≤ s2.heap.objs.size := g2.gr.2
    -- the loop
    refine codeC_of_tree rfl ?_
    rw [Around.under_of_weight rfl]
    show wpC _ A ((compStart (.ListComp ee [⟨te, ie, ifs, 0⟩] sc pos) 0 it (.ref s2.heap.objs.size) _).onRaise (fun x => do noteFrame x _; standAt theWindowsPlace)) _ _ _
    refine wpC_onRaise ?_
    have loop : ∀ s5', s5' = ({ s3 with heap := h' } : Shared) → codeC (model C.prog C.w) A (.compLoop (.ListComp ee [⟨te, ie, ifs, 0⟩] sc pos) 0 it (.ref s2.heap.objs.size)
        { compEnvK sc (cellsFrom (s3.heap.objs.size + 1) sc.names [] ++ sc.names.foldl (fun acc p => freeStep env p acc) []) s3.heap.objs.size env with scope := relabel sc env })
        (compPostC (model C.prog C.w) A E use Q (.ref s2.heap.objs.size) s3.heap.objs.size) s5' := fun s5' e5 => by
      subst e5
      refine comp_code (s0 := s1) (θ0 := θ1) (D := s2.heap.objs.size) (vs := vs) (σ' := σ2) SX ST hA Z4 I1.sizeOk hc hee hcs (.inr rfl) hlen1 ?_ _ 0 I4 it4 base4 (hk _ _ eD3) .nil he2
      intro θ5 s5 ys m st5 I5 e5 r5
      obtain ⟨I6, st6⟩ := I1.outer I5 st5 (fun b o e q => ownlt b (Nat.lt_of_lt_of_le (Heap.lt_size e) hlen1) q) (fun b hb => .inl hb)
      have hD5 : s2.heap.objs.size ∉ θ5.as := fun q => I5.badOut _ (.inr rfl) (.inl q)
      have hDb : ¬ bad s2.heap.objs.size := fun q => by obtain ⟨o, e⟩ := I2.badLive _ q; exact absurd (Heap.lt_size e) (Nat.lt_irrefl _)
      have rw5 : VR bad θ5 s5.heap (.list vs) (.ref s2.heap.objs.size) := .list hD5 hDb (isList_obj e5) (r5.weak rfl (fun _ _ q => q) fun b hb => .inl hb)
      have sz12 : s.heap.objs.size ≤ s1.heap.objs.size := st1.size
      have hL0 : C.h₀.objs.size ≤ s3.heap.objs.size := Nat.le_trans I2.sizeOk sz23
      have hLa : s3.heap.objs.size ≠ a.L := fun q => by
        obtain ⟨_, ⟨o, _, _, e, _⟩, _⟩ := I2.loc
        have := Heap.lt_size e
        rw [← q] at this
        exact absurd this (Nat.not_lt.mpr sz23)
      have hLb : ¬ bad s3.heap.objs.size := fun q => by
        obtain ⟨o, e⟩ := I2.badLive _ q; exact absurd (Heap.lt_size e) (Nat.not_lt.mpr sz23)
      obtain ⟨mL, hnL, _⟩ := I5.loc
      have stO : Step θ a s.heap θ5 s5.heap := st1.trans st6
      have sL : s.heap.objs.size ≤ s3.heap.objs.size := Nat.le_trans sz12 (Nat.le_trans hlen1 sz23)
      cases use with
      | none =>
        refine ⟨mL, hnL, fun h6 hs6 => ?_⟩
        have x6 : Chg (fun b => b = s3.heap.objs.size) s5 { s5 with heap := h6 } := ⟨fun b o e n => (hs6.2 b n).trans e, ⟨Nat.le_refl _, Nat.le_of_eq hs6.1.symm⟩, rfl, rfl, rfl⟩
        obtain ⟨I7, mv7⟩ := I6.chgDict hnL x6 hL0 hLa hLb
        exact hQ θ5 _ (.ref s2.heap.objs.size) ⟨stO.ext, stO.g, fun b o e nn => x6.keep b o (stO.keep b o e nn) fun z => absurd (Heap.lt_size e) (Nat.not_lt.mpr (z ▸ sL)), Nat.le_trans stO.size x6.gr.2⟩ I7 (mv7 rw5)
      | some u =>
        obtain ⟨σ6, hAt, hfin⟩ := hQ θ5 s5 (.ref s2.heap.objs.size) stO I6 rw5
        show wpC _ A (u (.ref s2.heap.objs.size)) _ E s5
        refine hAt _ _ fun θ6 σ6' s6 _ st7 I7 e7 => ?_
        subst e7
        obtain ⟨oL, es, ep, eL, dL, zL⟩ := hnL
        have nown : ¬ Own θ5 a s3.heap.objs.size := fun q => by
          rcases q with q | q | q
          · obtain ⟨_, _, _, _, r⟩ := I6.objAt q
            exact (r.notDict eL).1 _ _ dL
          · exact hLa q
          · obtain ⟨_, o, e, hd⟩ := I6.cellAt q
            rw [eL] at e; cases e; rw [dL] at hd; cases hd
        have hnL6 : s6.heap.Ns s3.heap.objs.size mL := ⟨oL, es, ep, st7.keep _ _ eL nown, dL, zL⟩
        refine ⟨mL, hnL6, fun h6 hs6 => ?_⟩
        have x6 : Chg (fun b => b = s3.heap.objs.size) s6 { s6 with heap := h6 } := ⟨fun b o e n => (hs6.2 b n).trans e, ⟨Nat.le_refl _, Nat.le_of_eq hs6.1.symm⟩, rfl, rfl, rfl⟩
        obtain ⟨I8, mv8⟩ := I7.chgDict hnL6 x6 hL0 hLa hLb
        have stO7 := stO.trans st7
        exact hfin θ6 _ ⟨stO7.ext, stO7.g, fun b o e nn => x6.keep b o (stO7.keep b o e nn) fun z => absurd (Heap.lt_size e) (Nat.not_lt.mpr (z ▸ sL)), Nat.le_trans stO7.size x6.gr.2⟩ I8
    unfold compStart
    show wpC _ A (ask >>= _) _ _ _
    refine wpC_bind (wpC_of (wpAny_askSetting ?_))
    split
    · exact wpC_pure ⟨rfl, loop _ rfl⟩
    · refine wpC_bind (wpC_of (wpAny_rule ?_))
      refine wpC_bind (wpC_standAt ?_)
      refine wpC_bind (wpC_of (self_any I4 it4 ?_))
      exact wpC_pure ⟨rfl, loop _ rfl⟩
end
end Mine
end
section
namespace Mine
open PySem PySem.W PyProof.Rows PySem.Calls

theorem cX_notMark {fns : List Str} {k : Nat} {nm : Nm} {e : PySem.Expr} {x : X} (h : cX fns k nm e = some x) (op : CmpOp) (t : Sem Value) : markedBehindIn op e t = t := by
  unfold markedBehindIn
  have : behindInMarks op e = false := by cases e <;> first | rfl | (cases k <;> exact nos h)
  rw [this]
theorem cX_notSlice {fns : List Str} {k : Nat} {nm : Nm} {e : PySem.Expr} {x : X} (h : cX fns k nm e = some x) (o i : Value) : subscripted e false o i = PySem.operate [o, i] (getItem o i) := by
  cases e <;> first | rfl | (cases k <;> exact nos h)

section
variable {C : Cfg} {F : List Fn} {fns : List Str} {K : Nat} {mg mb : Str → Option Value} {n : Nat} {A : Around} {bad : Addr → Prop} {a : Act} {θ : Th} {s s' : Shared} {σ σ' : St} {nm : Nm} {env : Env} {k : Nat}

theorem slot_at (Z : EnvOk a nm env) (I : Inv C bad θ a σ s) {id : Str} {p : Pos} {i : Nat} {v : V} (hi : slotOf nm id = some i) (hv : σ.loc[i]? = some (some v)) : At C A bad a θ s (eval (.Name id p) env) (Post bad σ v) := by
  obtain ⟨kk, h1, _, _⟩ := slotOf_spec hi
  exact At.eqv (eval_name (Z.dbg h1).1) (At.stand (At.any (load_at Z I hi hv)))

theorem lineN {k : Nat} (h : Nat.blt k bigN = true) : k ≤ sizeLine := by rw [line_eq]; exact Nat.le_trans (Nat.le_of_lt (bigN_lt h)) (by decide)
set_option smartUnfolding false in
theorem bin_at (SX : SndX C F fns n) (hA : Fit A n) (Z : EnvOk a nm env) (I : Inv C bad θ a σ s) {l r : PySem.Expr} {op : Operator} {o : BOp} {pos : Pos} {xa xb : X} {v : V} (ho : opOf op = some o) (hl : cX fns k nm l = some xa) (hr : cX fns k nm r = some xb)
    (he : evX F (ev F n) (.bin o xa xb) σ = some (v, σ')) : At C A bad a θ s (eval (.BinOp l op r pos) env) (Post bad σ' v) :=
  At.eqv (eval_BinOp ..) (SX.step hA Z I hl he fun va σ1 θ1 s1 wa st1 I1 ra he => SX.stepH hA Z I1 hr he fun vb σ2 θ2 s2 wb st2 I2 rb he => elS he fun v' h3 he => Post.cast he (At.stand (At.operate (binop_at I2 ho h3 (I1.mv st2 ra) rb))))

set_option smartUnfolding false in
theorem addlX_at (SX : SndX C F fns n) (hA : Fit A n) (Z : EnvOk a nm env) (I : Inv C bad θ a σ s) {l r : PySem.Expr} {pos : Pos} {xa xb : X} {mu : Bool} {v : V} (hl : cX fns k nm l = some xa) (hr : cX fns k nm r = some xb)
    (he : evX F (ev F n) (.addl mu xa xb) σ = some (v, σ')) : At C A bad a θ s (eval (.BinOp l .Add r pos) env) (Post bad σ' v) :=
  At.eqv (eval_BinOp ..) (SX.step hA Z I hl he fun va σ1 θ1 s1 wa st1 I1 ra he => SX.stepH hA Z I1 hr he fun vb σ2 θ2 s2 wb st2 I2 rb he => elS he fun xs h3 he => elS he fun ys h4 he => elT he fun hz he => At.stand (At.operate (by
    have q := addl_at (A := A) I2 (I1.mv st2 ra) rb h3 h4 hz mu
    cases mu with
    | true => exact Post.cast he q
    | false => exact Post.cast he q)))

/-- a list or a tuple that is made of its parts -/
theorem lit_at {α β : Type} {es : List PySem.Expr} {pos : Pos} {xs : List X} {g : List V × St → Option α} {r : α} {f : List Value → Sem β} {Ψ : Th → St → Shared → β → Prop} (SX : SndX C F fns n) (hA : Fit A n) (Z : EnvOk a nm env) (I : Inv C bad θ a σ s) (hc : cL (cX fns k nm) es = some xs)
    (he : @Option.rec (List V × St) (fun _ => Option α) none g (evL (ev F n) xs σ) = some r) (h : ∀ vs σ1 θ1 s1 ws, Inv C bad θ1 a σ1 s1 → VRs bad θ1 s1.heap vs ws → g (vs, σ1) = some r → At C A bad a θ1 s1 (f ws) Ψ) :
    At C A bad a θ s (standAt pos >>= fun _ => spliced (backTo pos (starEach es env)) >>= f) Ψ :=
  eP he fun vs σ1 h1 he => At.stand (At.bind (evL_at SX hA Z pos I hc h1) fun θ1 σ1' s1 ws st1 I1 p1 => h vs σ1 θ1 s1 ws (p1.1 ▸ I1) p1.2 he)
set_option smartUnfolding false in
theorem listX_at (SX : SndX C F fns n) (hA : Fit A n) (Z : EnvOk a nm env) (I : Inv C bad θ a σ s) {es : List PySem.Expr} {pos : Pos} {xs : List X} {mu : Bool} {v : V} (hc : cL (cX fns k nm) es = some xs)
    (he : evX F (ev F n) (.list mu xs) σ = some (v, σ')) : At C A bad a θ s (eval (.List es pos) env) (Post bad σ' v) :=
  lit_at (f := newList) SX hA Z I hc he fun vs σ1 θ1 s1 ws I1 r he => elT he fun hz he => by
    cases mu with
    | true => exact Post.cast he (newMut_at I1 r (lineN hz))
    | false => exact Post.cast he (newList_at I1 r (lineN hz))
set_option smartUnfolding false in
theorem tup_at (SX : SndX C F fns n) (hA : Fit A n) (Z : EnvOk a nm env) (I : Inv C bad θ a σ s) {es : List PySem.Expr} {kd : Nat} {pos : Pos} {xs : List X} {v : V} (hc : cL (cX fns k nm) es = some xs)
    (he : evX F (ev F n) (.tup xs) σ = some (v, σ')) : At C A bad a θ s (eval (.Tuple es kd pos) env) (Post bad σ' v) :=
  lit_at (f := newTuple) SX hA Z I hc he fun vs σ1 θ1 s1 ws I1 r he => elT he fun hz he => Post.cast he (newTuple_at I1 r (lineN hz))

set_option smartUnfolding false in
theorem cmp2_at {α : Type} {f : Bool → St → Option α} {q : α} (SX : SndX C F fns n) (hA : Fit A n) (Z : EnvOk a nm env) (I : Inv C bad θ a σ s) {β : Type} {g : Value → Sem β} {Ψ : Th → St → Shared → β → Prop} {l r : PySem.Expr} {op : CmpOp} {o : COp} {pos : Pos} {xa xb : X} (ho : copOf op = some o) (hl : cX fns k nm l = some xa) (hr : cX fns k nm r = some xb)
    (he : (match (ev F n).x xa σ with | some (va, σ1) => (match (ev F n).x xb σ1 with | some (vb, σ2) => (match cmpop σ2.objs o va vb with | some v => f v σ2 | none => none) | none => none) | none => none) = some q)
    (h : ∀ b σ2 θ2 s2 w, Inv C bad θ2 a σ2 s2 → VR bad θ2 s2.heap (.bool b) w → f b σ2 = some q → At C A bad a θ2 s2 (g w) Ψ) :
    At C A bad a θ s (do let a ← eval l env; let b ← PySem.holding [a] (markedBehindIn op r (eval r env)); standAt pos; PySem.operate [a, b] (compareOp op a b) >>= g) Ψ :=
  SX.step hA Z I hl he fun va σ1 θ1 s1 wa st1 I1 ra he => At.eqv (congrArg (fun t => PySem.holding [wa] t >>= _) (cX_notMark hr op _)) (SX.stepH hA Z I1 hr he fun vb σ2 θ2 s2 wb st2 I2 rb he => elS he fun b h3 he =>
    At.stand (At.to (At.operate (cmp_at hA I2 ho h3 (I1.mv st2 ra) rb)) fun θ3 s3 w st3 I3 r => h b σ2 θ3 s3 w I3 r he))

set_option smartUnfolding false in
theorem idx_at (SX : SndX C F fns n) (hA : Fit A n) (Z : EnvOk a nm env) (I : Inv C bad θ a σ s) {e i : PySem.Expr} {pos : Pos} {xa xi : X} {v : V} (hl : cX fns k nm e = some xa) (hr : cX fns k nm i = some xi)
    (he : evX F (ev F n) (.idx xa xi) σ = some (v, σ')) : At C A bad a θ s (eval (.Subscript e i pos) env) (Post bad σ' v) :=
  SX.step (f := fun o => PySem.holding [o] (eval i env) >>= fun j => standAt pos >>= fun _ => subscriptTail e i o j) hA Z I hl he fun va σ1 θ1 s1 wa st1 I1 ra he => SX.stepH hA Z I1 hr he fun vb σ2 θ2 s2 wb st2 I2 rb he => elS he fun v' h3 he => Post.cast he (At.stand (index_at I2 (I1.mv st2 ra) rb h3 (cX_notSlice hr)))

set_option smartUnfolding false in
theorem sliceX_at (SX : SndX C F fns n) (hA : Fit A n) (Z : EnvOk a nm env) (I : Inv C bad θ a σ s) {id : Str} {p p2 pos : Pos} {lo hi : Option PySem.Expr} {xa : X} {xl xh : Option X} {v : V} (ha : cX fns k nm (.Name id p) = some xa) (hl : cO (cX fns k nm) lo = some xl) (hh : cO (cX fns k nm) hi = some xh)
    (he : evX F (ev F n) (.slice xa xl xh) σ = some (v, σ')) : At C A bad a θ s (eval (.Subscript (.Name id p) (.Slice lo hi none p2) pos) env) (Post bad σ' v) :=
  SX.step (f := fun o => PySem.holding [o] (valueOrNone (evalOpt lo env) >>= fun l => PySem.holding [l] (valueOrNone (evalOpt hi env)) >>= fun u => PySem.holding [l, u] (Pure.pure Value.none) >>= fun st => newFields "slice" [l, u, st]) >>= fun j => standAt pos >>= fun _ => subscriptTail (.Name id p) (.Slice lo hi none p2) o j) hA Z I ha he fun va σ1 θ1 s1 wa st1 I1 ra he =>
    eP he fun vl σ2 h2 he => eP he fun vh σ3 h3 he => elS he fun v' h4 he => Post.cast he fun E Q hQ =>
      wpC_bind (wpC_holding (wpC_bind (evO_at SX hA Z I1 hl h2 _ _ fun θ2 σ2' s2 wl st2 I2 q2 => wpC_bind (wpC_holding (evO_at SX hA Z (q2.1 ▸ I2) hh h3 _ _ fun θ3 σ3' s3 wh st3 I3 q3 => wpC_bind (wpC_holding (wpC_pure
        (wpC_of (wpAny_mono (slice_any (id := id) (p := p) (slice := .Slice lo hi none p2) (q3.1 ▸ I3) (I2.mv st3 (I1.mv st2 ra)) (by cases vl with | none => exact q2.2 | some x => exact I2.mv st3 q2.2) q3.2 h4 (fun _ _ => rfl)
          fun θ4 σ4 s4 w4 st4 I4 q4 => hQ θ4 σ4 s4 w4 ((st2.trans st3).trans st4) I4 q4) (fun i s4 h => wpC_bind (wpC_standAt (wpC_of h))) fun _ _ h => h)))))))))

theorem fnIdx_spec {x : Str} : ∀ {l : List Str} {j i : Nat}, fnIdx x l j = some i → j ≤ i ∧ l[i - j]? = some x
  | [], _, _, h => nos h
  | y :: r, j, i, h => by
    unfold fnIdx at h
    by_cases e : y = x
    · rw [if_pos e] at h; cases h; exact ⟨Nat.le_refl _, by simp [e]⟩
    · rw [if_neg e] at h
      obtain ⟨h1, h2⟩ := fnIdx_spec h
      refine ⟨Nat.le_of_succ_le h1, ?_⟩
      rw [show i - j = (i - (j + 1)) + 1 by omega]
      exact h2

set_option smartUnfolding false in
theorem callFn_at (G : GOk C F fns K mg mb) (SX : SndX C F fns n) (SB : SndB C F fns n) (hA : Fit A (n + 1)) (Z : EnvOk a nm env) (I : Inv C bad θ a σ s) {f : Str} {p pos : Pos} {args : List PySem.Expr} {xs : List X} {i : Nat} {v : V} (hg : isGlob nm f = true) (hi : fnIdx f fns 0 = some i) (hc : cL (cX fns k nm) args = some xs)
    (he : evX F (ev F n) (.call i xs) σ = some (v, σ')) : At C A bad a θ s (eval (.Call (.Name f p) args [] pos) env) (Post bad σ' v) := by
  obtain ⟨fn, b, o, fd, body, params, Fo⟩ := G.fn i f (fnIdx_spec hi).2
  exact callName_at SX (hA.mono (Nat.le_succ n)) Z (nameG_at G Z I hg Fo.glob) (.inr (.inr ⟨b, o, fd, rfl, Fo.get, Fo.data⟩)) hc he fun vs σ1 θ1 s1 ws st1 I1 r he => eP he fun v' objs h2 he => Post.cast he (call_at SB G.lim Fo hA I1 h2 r)
set_option smartUnfolding false in
theorem callPrim_at (G : GOk C F fns K mg mb) (SX : SndX C F fns n) (hA : Fit A n) (Z : EnvOk a nm env) (I : Inv C bad θ a σ s) {f : Str} {p pos : Pos} {args : List PySem.Expr} {xs : List X} {pr : Prim} {v : V} (hg : isGlob nm f = true) (hp : primOf f = some pr) (hc : cL (cX fns k nm) args = some xs)
    (he : evX F (ev F n) (.prim pr xs) σ = some (v, σ')) : At C A bad a θ s (eval (.Call (.Name f p) args [] pos) env) (Post bad σ' v) :=
  callName_at SX hA Z (nameB_at G Z I hg (G.prim f pr hp).1 (G.prim f pr hp).2) (by cases pr <;> first | exact .inl ⟨_, rfl⟩ | exact .inr (.inl ⟨_, rfl⟩)) hc he fun vs σ1 θ1 s1 ws st1 I1 r he => eP he fun v' objs h2 he => Post.cast he (prim_at hA.handled hA.guards I1 r h2)

/-- a method that is called -/
theorem methOf_inv {x : Str} {q : Meth} (h : methOf x = some q) : (x = "append" ∧ q = .append) ∨ (x = "insert" ∧ q = .insert) ∨ (x = "find" ∧ q = .find) := by
  unfold methOf at h
  by_cases h1 : x = "append"
  · rw [if_pos h1] at h
    exact .inl ⟨h1, (Option.some.inj h).symm⟩
  · rw [if_neg h1] at h
    by_cases h2 : x = "insert"
    · rw [if_pos h2] at h
      exact .inr (.inl ⟨h2, (Option.some.inj h).symm⟩)
    · rw [if_neg h2] at h
      by_cases h3 : x = "find"
      · rw [if_pos h3] at h
        exact .inr (.inr ⟨h3, (Option.some.inj h).symm⟩)
      · rw [if_neg h3] at h
        exact nos h
/-- a list that is there -/
theorem list_el {o : Option O} {α : Type} {f : List V → Option α} {r : α} {P : Prop} (h : (match o with | some (.list xs) => f xs | _ => none) = some r) (k : ∀ xs, o = some (.list xs) → f xs = some r → P) : P := by
  cases o with
  | none => exact nos h
  | some o => cases o with
    | list xs => exact k xs rfl h
    | barr b => exact nos h
theorem methOk_a {objs : List O} {vo : V} {M : V → Prop} (h : methOk objs .append vo = true) (k : ∀ k xs, objs[k]? = some (.list xs) → M (.ref k)) : M vo := by
  cases vo <;> first | exact nob h | skip
  case ref i =>
    have h : (match objs[i]? with | some (.list _) => true | _ => false) = true := h
    cases e : objs[i]? with
    | none => rw [e] at h; exact nob h
    | some o => cases o with
      | list xs => exact k i xs e
      | barr b => rw [e] at h; exact nob h
theorem methOk_f {objs : List O} {vo : V} {M : V → Prop} (h : methOk objs .find vo = true) (k : ∀ x, M (.str x)) : M vo := by
  cases vo <;> first | exact nob h | exact k _
set_option smartUnfolding false in
theorem meth_a {objs objs' : List O} {o v : V} {args : List V} {M : V → List V → V → List O → Prop} (h : meth objs .append o args = some (v, objs')) (k : ∀ k xs x, objs[k]? = some (.list xs) → Nat.blt xs.length bigN = true → M (.ref k) [x] .none (objs.set k (.list (xs ++ [x])))) : M o args v objs' := by
  cases o <;> first | exact nos h | skip
  case ref i => cases args with
    | nil => exact nos h
    | cons x t => cases t with
      | cons => exact nos h
      | nil => exact list_el h fun xs h1 h => elT h fun h2 h => pI h fun e1 e2 => by subst e1 e2; exact k i xs x h1 h2
set_option smartUnfolding false in
theorem meth_i {objs objs' : List O} {o v : V} {args : List V} {M : V → List V → V → List O → Prop} (h : meth objs .insert o args = some (v, objs')) (k : ∀ k xs i x, objs[k]? = some (.list xs) → (Nat.ble i xs.length && Nat.blt xs.length bigN) = true → M (.ref k) [.int (.ofNat i), x] .none (objs.set k (.list (xs.take i ++ x :: xs.drop i)))) : M o args v objs' := by
  cases o <;> first | exact nos h | skip
  case ref i => cases args with
    | nil => exact nos h
    | cons x t => cases x <;> first | exact nos h | skip
                  case int j => cases j with
                    | negSucc j => exact nos h
                    | ofNat j => cases t with
                      | nil => exact nos h
                      | cons x t => cases t with
                        | cons => exact nos h
                        | nil => exact list_el h fun xs h1 h => elT h fun h2 h => pI h fun e1 e2 => by subst e1 e2; exact k i xs j x h1 h2
theorem meth_f {objs objs' : List O} {o v : V} {args : List V} {M : V → List V → V → List O → Prop} (h : meth objs .find o args = some (v, objs')) (k : ∀ x c, M (.str x) [.str [c]] (.int (lfind c x 0)) objs) : M o args v objs' := by
  cases o <;> first | exact nos h | skip
  case str x => cases args with
    | nil => exact nos h
    | cons y t => cases y <;> first | exact nos h | skip
                  case str y => cases y with
                    | nil => exact nos h
                    | cons c u => cases u with
                      | cons => exact nos h
                      | nil => cases t with
                        | cons => exact nos h
                        | nil => exact pI h fun e1 e2 => e1 ▸ e2 ▸ k x c
/-- the arguments of a method and its call -/
theorem mcall_at {α : Type} {o mname : Str} {id : String} {p apos pos : Pos} {args : List PySem.Expr} {xs : List X} {wo : Value} {g : List V × St → Option α} {r : α} {Ψ : Th → St → Shared → Value → Prop} (SX : SndX C F fns n) (hA : Fit A n) (Z : EnvOk a nm env) (I : Inv C bad θ a σ s) (hl : apos.endLine == pos.line) (hn : args.length < 30) (hc : cL (cX fns k nm) args = some xs)
    (getm : ∀ pl, At C A bad a θ s (getMethod wo mname pl) (fun _ σ'' s' r => σ'' = σ ∧ s' = s ∧ r = (.builtin id, [wo]))) (he : @Option.rec (List V × St) (fun _ => Option α) none g (evL (ev F n) xs σ) = some r)
    (h : ∀ vs σ1 θ1 s1 ws, Step θ a s.heap θ1 s1.heap → Inv C bad θ1 a σ1 s1 → VRs bad θ1 s1.heap vs ws → g (vs, σ1) = some r → At C A bad a θ1 s1 (call (.builtin id) ([wo] ++ ws)) Ψ) :
    At C A bad a θ s (methodCall (.Name o p) mname apos pos env wo (args.length + 0) (backTo pos (starEach args env)) (backToKw pos (keywordEach [] env))) Ψ := by
  have hform : methodCallForm (args.length + 0) (backTo pos (starEach args env)) (backToKw pos (keywordEach [] env)) = true := by
    have := stars_false (env := env) (pos := pos) hc
    unfold methodCallForm
    have h1 : (backTo pos (starEach args env)).all (!·.1) = true := by
      rw [List.any_eq_false] at this
      rw [List.all_eq_true]
      intro x hx
      have := this x hx
      simpa using this
    rw [h1]
    show (true && true && decide (args.length + 0 + (if true = true then 0 else 1) < 30)) = true
    exact decide_eq_true hn
  unfold methodCall
  rw [hform]
  have hpos : methodCallPos true (.Name o p) env apos pos = pure pos := by
    unfold methodCallPos
    rw [hl]; rfl
  refine At.bind (f := fun fr => methodCallPos true (.Name o p) env apos pos >>= fun cp => callWith cp fr.1 fr.2 (backTo pos (starEach args env)) (backToKw pos (keywordEach [] env))) (At.holding (getm (do return (← importBound (.Name o p) env).getD true))) fun θ2 σ2' s2 fr st2 I2 p2 => ?_
  obtain ⟨rfl, rfl, rfl⟩ := p2
  rw [hpos]
  exact At.pureB (callL_at SX hA Z I2 (.inr (.inl ⟨_, rfl⟩)) hc he fun vs σ1 θ1 s1 ws st => h vs σ1 θ1 s1 ws (st2.trans st))
/-- a method of a name -/
theorem mhead_at {α : Type} {o mname : Str} {p apos pos : Pos} {args : List PySem.Expr} {i : Nat} {g : V × St → Option α} {r : α} {Ψ : Th → St → Shared → Value → Prop} (SX : SndX C F fns n) (hA : Fit A n) (Z : EnvOk a nm env) (I : Inv C bad θ a σ s) (hi : slotOf nm o = some i)
    (he : @Option.rec (V × St) (fun _ => Option α) none g ((ev F n).x (.slot i) σ) = some r) (h : ∀ v σ1 θ1 s1 w, Step θ a s.heap θ1 s1.heap → Inv C bad θ1 a σ1 s1 → VR bad θ1 s1.heap v w → g (v, σ1) = some r →
      At C A bad a θ1 s1 (methodCall (.Name o p) mname apos pos env w (args.length + 0) (backTo pos (starEach args env)) (backToKw pos (keywordEach [] env))) Ψ) : At C A bad a θ s (eval (.Call (.Attribute (.Name o p) mname apos) args [] pos) env) Ψ :=
  SX.step (k := 1) (e := .Name o p) (f := fun ov => standAt apos.atName >>= fun _ => methodCall (.Name o p) mname apos pos env ov (args.length + 0) (backTo pos (starEach args env)) (backToKw pos (keywordEach [] env))) hA Z I
    (by show ob (slotOf nm o) _ = _; rw [hi]; rfl) he fun v σ1 θ1 s1 w st I1 r he => At.stand (h v σ1 θ1 s1 w st I1 r he)
theorem getM_at {id : String} {m : Str} {w : Value} (I : Inv C bad θ a σ s) (h : ∀ (E : Value × List Value → Shared → Prop) (E0 : Value → Shared → Prop) pl, E (.builtin id, [w]) s → wpAny (model C.prog C.w) A (getMethod w m pl) E E0 s) (pl : Sem Bool) :
    At C A bad a θ s (getMethod w m pl) (fun _ σ'' s' r => σ'' = σ ∧ s' = s ∧ r = (.builtin id, [w])) :=
  At.any (AtA.grow I fun E Q q => h Q E pl (q s _ Chg.same ⟨rfl, rfl, rfl⟩))
set_option smartUnfolding false in
theorem meth_at (SX : SndX C F fns n) (hA : Fit A n) (Z : EnvOk a nm env) (I : Inv C bad θ a σ s) {o mname : Str} {p apos pos : Pos} {args : List PySem.Expr} {xs : List X} {m : Meth} {i : Nat} {v : V} (hl : apos.endLine == pos.line) (hn : args.length < 30) (hi : slotOf nm o = some i) (hm : methOf mname = some m) (hc : cL (cX fns k nm) args = some xs)
    (he : evX F (ev F n) (.meth m (.slot i) xs) σ = some (v, σ')) : At C A bad a θ s (eval (.Call (.Attribute (.Name o p) mname apos) args [] pos) env) (Post bad σ' v) := by
  rcases methOf_inv hm with ⟨rfl, rfl⟩ | ⟨rfl, rfl⟩ | ⟨rfl, rfl⟩
  · refine mhead_at SX hA Z I hi he fun vo σ1 θ1 s1 wo st1 I1 ro he => elT he fun h2 he => mcall_at SX hA Z I1 hl hn hc (getM_at (id := "list.append") I1 fun E E0 pl q => ?_) he fun vs σ2 θ2 s2 ws st2 I2 rs he => eP he fun v' objs h4 he => Post.cast he ?_
    · exact methOk_a (M := fun vo => VR bad θ1 s1.heap vo wo → wpAny (model C.prog C.w) A (getMethod wo "append" pl) E E0 s1) h2 (fun k' xs' e1 ro => by
        obtain ⟨_, rfl, hk⟩ := ro.inv
        obtain ⟨vs', n', e2, _⟩ := I1.objs _ _ _ hk e1
        exact getMethod_list_append e2 rfl rfl q) ro
    · exact meth_a (M := fun vo vs v objs => VR bad θ2 s2.heap vo wo → VRs bad θ2 s2.heap vs ws → At C A bad a θ2 s2 (call (.builtin "list.append") ([wo] ++ ws)) (PostO bad σ2 v objs)) h4 (fun k' xs' x e1 hz ro r3 => by
        cases r3 with
        | cons r4 r5 => cases r5; exact append_at I2 ro e1 r4 hz) (I1.mv st2 ro) rs
  · refine mhead_at SX hA Z I hi he fun vo σ1 θ1 s1 wo st1 I1 ro he => elT he fun h2 he => mcall_at SX hA Z I1 hl hn hc (getM_at (id := "list.insert") I1 fun E E0 pl q => ?_) he fun vs σ2 θ2 s2 ws st2 I2 rs he => eP he fun v' objs h4 he => Post.cast he ?_
    · exact methOk_a (M := fun vo => VR bad θ1 s1.heap vo wo → wpAny (model C.prog C.w) A (getMethod wo "insert" pl) E E0 s1) h2 (fun k' xs' e1 ro => by
        obtain ⟨_, rfl, hk⟩ := ro.inv
        obtain ⟨vs', n', e2, _⟩ := I1.objs _ _ _ hk e1
        exact getMethod_list_of PySem.F.slot_list_insert PySem.F.type_list_insert (isList_obj e2) ⟨_, e2, rfl⟩ q) ro
    · exact meth_i (M := fun vo vs v objs => VR bad θ2 s2.heap vo wo → VRs bad θ2 s2.heap vs ws → At C A bad a θ2 s2 (call (.builtin "list.insert") ([wo] ++ ws)) (PostO bad σ2 v objs)) h4 (fun k' xs' j x e1 hz ro r3 => by
        cases r3 with
        | cons r4 r5 => cases r5 with
          | cons r5 r6 => cases r6; exact insert_at I2 ro e1 r4 r5 (Nat.le_of_ble_eq_true (Bool.and_eq_true_iff.mp hz).1) (Bool.and_eq_true_iff.mp hz).2) (I1.mv st2 ro) rs
  · refine mhead_at SX hA Z I hi he fun vo σ1 θ1 s1 wo st1 I1 ro he => elT he fun h2 he => mcall_at SX hA Z I1 hl hn hc (getM_at (id := "str.find") I1 fun E E0 pl q => ?_) he fun vs σ2 θ2 s2 ws st2 I2 rs he => eP he fun v' objs h4 he => Post.cast he ?_
    · exact methOk_f (M := fun vo => VR bad θ1 s1.heap vo wo → wpAny (model C.prog C.w) A (getMethod wo "find" pl) E E0 s1) h2 (fun x ro => by
        obtain ⟨_, _, rfl, rfl⟩ := ro.inv
        exact GM.find q) ro
    · exact meth_f (M := fun vo vs v objs => VR bad θ2 s2.heap vo wo → VRs bad θ2 s2.heap vs ws → At C A bad a θ2 s2 (call (.builtin "str.find") ([wo] ++ ws)) (PostO bad σ2 v objs)) h4 (fun x c ro r3 => by
        cases r3 with
        | cons r4 r5 => cases r5; exact find_at I2 ro r4) (I1.mv st2 ro) rs
end
end Mine
end
section
namespace Mine
open PySem PySem.W PyProof.Rows PySem.Calls

section
variable {C : Cfg} {F : List Fn} {fns : List Str} {K : Nat} {mg mb : Str → Option Value} {n : Nat} {A : Around} {bad : Addr → Prop} {a : Act} {θ : Th} {s s' : Shared} {σ σ' : St} {nm : Nm} {env : Env} {k : Nat}

theorem meth_s {objs objs' : List O} {o v : V} {args : List V} {M : List V → V → List O → Prop} (h : meth objs .search o args = some (v, objs')) (k : ∀ x, noIp x = true → M [.str x] .none objs) : M args v objs' := by
  cases args with
  | nil => exact nos h
  | cons x t => cases x <;> first | exact nos h | skip
                case str x => cases t with
                  | cons => exact nos h
                  | nil => exact elT h fun h1 h => pI h fun e1 e2 => by subst e1 e2; exact k x h1
set_option smartUnfolding false in
theorem search_at (G : GOk C F fns K mg mb) (SX : SndX C F fns n) (hA : Fit A n) (Z : EnvOk a nm env) (I : Inv C bad θ a σ s) {p apos pos : Pos} {args : List PySem.Expr} {xs : List X} {x0 : X} {v : V} (hl : apos.endLine == pos.line) (hn : args.length < 30) (hg : isGlob nm "IPV4_RE" = true) (hc : cL (cX fns k nm) args = some xs)
    (he : evX F (ev F n) (.meth .search x0 xs) σ = some (v, σ')) : At C A bad a θ s (eval (.Call (.Attribute (.Name "IPV4_RE" p) "search" apos) args [] pos) env) (Post bad σ' v) := by
  obtain ⟨R, g1, g2, g3⟩ := G.srch
  refine At.bind (f := fun ov => standAt apos.atName >>= fun _ => methodCall (.Name "IPV4_RE" p) "search" apos pos env ov (args.length + 0) (backTo pos (starEach args env)) (backToKw pos (keywordEach [] env))) (nameG_at G Z I hg g1) fun θ1 σ1' s1 wo st1 I1 q => ?_
  obtain ⟨rfl, rfl, rfl⟩ := q
  refine At.stand (mcall_at (id := "re.Pattern.search") SX hA Z I1 hl hn hc (fun pl => At.any (AtA.grow I1 fun E Q q => g2 A s1 E Q pl I1.pres (q _ _ Chg.same ⟨rfl, rfl, rfl⟩))) he fun vs σ2 θ2 s2 ws st2 I2 rs he => eP he fun v' objs h2 he => Post.cast he ?_)
  exact meth_s (M := fun vs v objs => VRs bad θ2 s2.heap vs ws → At C A bad a θ2 s2 (call (.builtin "re.Pattern.search") ([.ref R] ++ ws)) (PostO bad σ2 v objs)) h2 (fun x hz r3 => by
    cases r3 with
    | cons r4 r5 =>
      cases r5
      obtain ⟨_, _, rfl, rfl⟩ := r4.inv
      exact (At.any (AtA.grow I2 fun E Q q => g3 A s2 E Q _ _ hA.handled I2.pres hz fun s' g => q s' _ g ⟨rfl, .none⟩)).objs) rs

theorem slotV_el {o : Option (Option V)} {α : Type} {f : V → Option α} {r : α} {P : Prop} (h : (match o with | some (some v) => f v | _ => none) = some r) (k : ∀ v, o = some (some v) → f v = some r → P) : P := by
  cases o with
  | none => exact nos h
  | some o => cases o with
    | none => exact nos h
    | some v => exact k v rfl h
set_option smartUnfolding false in
theorem slot1_at (Z : EnvOk a nm env) (I : Inv C bad θ a σ s) {id : Str} {p : Pos} {i : Nat} {v : V} (hi : slotOf nm id = some i) (he : evX F (ev F n) (.slot i) σ = some (v, σ')) : At C A bad a θ s (eval (.Name id p) env) (Post bad σ' v) :=
  slotV_el he fun v' hv he => Post.cast he (slot_at Z I hi hv)
set_option smartUnfolding false in
theorem const1_at (I : Inv C bad θ a σ s) {c : Const} {kd : Nat} {p : Pos} {v c0 : V} (hv : cConst c = some c0) (he : evX F (ev F n) (.const c0) σ = some (v, σ')) : At C A bad a θ s (eval (.Constant c kd p) env) (Post bad σ' v) :=
  elT he fun _ he => Post.cast he (At.any (const_at I hv))
set_option smartUnfolding false in
theorem nott_at (SX : SndX C F fns n) (hA : Fit A n) (Z : EnvOk a nm env) (I : Inv C bad θ a σ s) {y : PySem.Expr} {p : Pos} {xa : X} {v : V} (h1 : cX fns k nm y = some xa) (he : evX F (ev F n) (.nott xa) σ = some (v, σ')) : At C A bad a θ s (eval (.UnaryOp .Not y p) env) (Post bad σ' v) :=
  SX.step (f := fun v => standAt p >>= fun _ => PySem.holding [v] (unaryOp .Not v)) hA Z I h1 he fun v σ1 θ1 s1 w st1 I1 r he => elS he fun b h3 he => Post.cast he (At.stand (At.holding (not_at I1 r h3)))
theorem neg1_at (SX : SndX C F fns n) (hA : Fit A n) (Z : EnvOk a nm env) (I : Inv C bad θ a σ s) {y : PySem.Expr} {p : Pos} {xa : X} {v : V} (h1 : cX fns k nm y = some xa) (he : evX F (ev F n) (.neg xa) σ = some (v, σ')) : At C A bad a θ s (eval (.UnaryOp .USub y p) env) (Post bad σ' v) := by
  have he : (match (ev F n).x xa σ with | some (.int i, σ1) => some (V.int (-i), σ1) | _ => none) = some (v, σ') := he
  cases h2 : (ev F n).x xa σ with
  | none => rw [h2] at he; exact nos he
  | some o =>
    rw [h2] at he
    obtain ⟨vi, σ1⟩ := o
    cases vi <;> first | exact nos he | skip
    exact Post.cast he (SX.go (f := fun v => standAt p >>= fun _ => PySem.holding [v] (unaryOp .USub v)) hA Z I h1 h2 fun θ1 s1 w st1 I1 r => At.stand (At.holding (At.any (neg_at I1 r))))
set_option smartUnfolding false in
theorem cmpX_at (SX : SndX C F fns n) (hA : Fit A n) (Z : EnvOk a nm env) (I : Inv C bad θ a σ s) {l r : PySem.Expr} {op : CmpOp} {o : COp} {p : Pos} {xa xb : X} {v : V} (ho : copOf op = some o) (hl : cX fns k nm l = some xa) (hr : cX fns k nm r = some xb)
    (he : evX F (ev F n) (.cmp o xa xb) σ = some (v, σ')) : At C A bad a θ s (eval (.Compare l [op] [r] p) env) (Post bad σ' v) :=
  At.eqv (eval_Compare1 ..) (SX.step hA Z I hl he fun va σ1 θ1 s1 wa st1 I1 ra he => At.eqv (congrArg (fun t => PySem.holding [wa] t >>= _) (cX_notMark hr op _)) (SX.stepH hA Z I1 hr he fun vb σ2 θ2 s2 wb st2 I2 rb he => elS he fun b h3 he =>
    Post.cast he (At.stand (At.operate (cmp_at hA I2 ho h3 (I1.mv st2 ra) rb)))))
set_option smartUnfolding false in
theorem compX_at (G : GOk C F fns K mg mb) (SX : SndX C F fns n) (ST : SndT C F fns n) (hA : Fit A n) (Z : EnvOk a nm env) (I : Inv C bad θ a σ s) {te ee ie : PySem.Expr} {ifs : List PySem.Expr} {sc : Scope} {p : Pos} {xe xi : X} {xcs : List X} {cap : List (Option Nat)} {tgt : Tgt} {v : V}
    (hsc : scOk sc = true) (hcap : capOf nm sc.names = some cap) (hc : cT sc.names te = some tgt) (hee : cX fns k sc.names ee = some xe) (hie : cX fns k nm ie = some xi) (hcs : cL (cX fns k sc.names) ifs = some xcs)
    (he : evX F (ev F n) (.comp cap tgt xe xi xcs) σ = some (v, σ')) : At C A bad a θ s (eval (.ListComp ee [⟨te, ie, ifs, 0⟩] sc p) env) (Post bad σ' v) :=
  eP he fun it σ1 e1 he => eP he fun vs σ2 e2 he => Post.cast he fun E Q hQ =>
    comp_run G SX ST hA Z I hsc hcap hc hee hie hcs e1 e2 (use := none) fun θ5 s5 w st5 I5 r5 => hQ θ5 _ s5 w st5 I5 ⟨rfl, r5⟩
theorem sndX_succ (G : GOk C F fns K mg mb) (SX : SndX C F fns n) (ST : SndT C F fns n) (SB : SndB C F fns n) : SndX C F fns (n + 1) := by
  intro A bad a θ s σ nm env k e x v σ' hA1 Z I hc0 he
  have hA := hA1.mono (Nat.le_succ n)
  have he : evX F (ev F n) x σ = some (v, σ') := he
  obtain ⟨k, rfl, hc⟩ := cX_inv hc0
  clear hc0
  cases x with
  | slot i => exact hc (fun e => At C A bad a θ s (eval e env) (Post bad σ' v)) fun id p hi => slot1_at Z I hi he
  | const c => exact hc (fun e => At C A bad a θ s (eval e env) (Post bad σ' v)) fun c' k' p hv => const1_at I hv he
  | bin o xa xb => exact hc (fun e => At C A bad a θ s (eval e env) (Post bad σ' v)) fun l op r p h1 h2 h3 => bin_at SX hA Z I h1 h2 h3 he
  | addl mu xa xb => exact hc (fun mu e => evX F (ev F n) (.addl mu xa xb) σ = some (v, σ') → At C A bad a θ s (eval e env) (Post bad σ' v)) (fun l r p h2 h3 he => addlX_at SX hA Z I h2 h3 he) he
  | nott xa => exact hc (fun e => At C A bad a θ s (eval e env) (Post bad σ' v)) fun y p h1 => nott_at SX hA Z I h1 he
  | neg xa => exact hc (fun e => At C A bad a θ s (eval e env) (Post bad σ' v)) fun y p h1 => neg1_at SX hA Z I h1 he
  | andd xs => exact hc (fun e => At C A bad a θ s (eval e env) (Post bad σ' v)) fun vs p h1 => evAnd_at SX hA Z _ I h1 he
  | orr xs => exact hc (fun e => At C A bad a θ s (eval e env) (Post bad σ' v)) fun vs p h1 => evOr_at SX hA Z _ I h1 he
  | cmp o xa xb => exact hc (fun e => At C A bad a θ s (eval e env) (Post bad σ' v)) fun l op r p h1 h2 h3 => cmpX_at SX hA Z I h1 h2 h3 he
  | call i xs => exact hc (fun e => At C A bad a θ s (eval e env) (Post bad σ' v)) fun g q args p hg h1 hi => callFn_at G SX SB hA1 Z I hg hi h1 he
  | prim pr xs => exact hc (fun e => At C A bad a θ s (eval e env) (Post bad σ' v)) fun g q args p hg h1 hp => callPrim_at G SX hA Z I hg hp h1 he
  | range xs => exact nos he
  | enum x => exact nos he
  | meth m o xs => exact hc (fun m o e => evX F (ev F n) (.meth m o xs) σ = some (v, σ') → At C A bad a θ s (eval e env) (Post bad σ' v)) (fun o q mn apos args p i m hl1 hl2 h1 hi hq he => meth_at SX hA Z I hl1 hl2 hi hq h1 he) (fun q apos args p hl1 hl2 h1 z0 he => search_at G SX hA Z I hl1 hl2 z0 h1 he) he
  | slice xa xl xh => exact hc (fun e => At C A bad a θ s (eval e env) (Post bad σ' v)) fun id q lo hi p2 p h1 h2 h3 => sliceX_at SX hA Z I h1 h2 h3 he
  | idx xa xi => exact hc (fun e => At C A bad a θ s (eval e env) (Post bad σ' v)) fun v' i p h1 h2 => idx_at SX hA Z I h1 h2 he
  | list mu xs => exact hc (fun mu e => evX F (ev F n) (.list mu xs) σ = some (v, σ') → At C A bad a θ s (eval e env) (Post bad σ' v)) (fun es p h1 he => listX_at SX hA Z I h1 he) he
  | tup xs => exact hc (fun e => At C A bad a θ s (eval e env) (Post bad σ' v)) fun es k' p h1 => tup_at SX hA Z I h1 he
  | comp cap t xa xit xcs => exact hc (fun e => At C A bad a θ s (eval e env) (Post bad σ' v)) fun elt te ie ifs sc p h1 h2 h3 h4 h5 h6 => compX_at G SX ST hA Z I h1 h2 h3 h4 h5 h6 he

/-- one object, or none can tell -/
theorem is_at (G : GOk C F fns K mg mb) (I : Inv C bad θ a σ s) {va vb : V} {wa wb : Value} {c : Bool} (e : sameOr va vb = some c) (ra : VR bad θ s.heap va wa) (rb : VR bad θ s.heap vb wb) :
    At C A bad a θ s (compareOp .Is wa wb) (fun _ σ' s' w => σ' = σ ∧ s' = s ∧ ∃ r : Bool, w = .bool r ∧ (r = true → c = true)) := by
  unfold sameOr at e
  split at e
  · (first | exact nos e | cases e)
    rename_i x y
    obtain rfl := ra.inv
    obtain rfl := rb.inv
    refine At.any (AtA.grow I fun E Q q => wpAny_is_plain rfl (q _ _ Chg.same ⟨rfl, rfl, _, rfl, fun h => ?_⟩))
    have : (Value.bool x == Value.bool y) = (x == y) := by cases x <;> cases y <;> decide
    rw [← this]; exact h
  · (first | exact nos e | cases e)
    rename_i x y
    obtain ⟨b1, t, rfl, rfl, h1⟩ := ra.inv
    obtain ⟨b2, u, rfl, rfl, h2⟩ := rb.inv
    ·
      ·
        obtain ⟨t0, gt⟩ := h1 rfl
        obtain ⟨u0, gu⟩ := h2 rfl
        obtain ⟨ms, hms, hno⟩ := G.stat
        have hns : s.heap.Ns cStatics ms := hms.keeps I.pres
        have fin : ∀ (E : Value → Shared → Prop) (Q : Value → Shared → Prop), (∀ s' (x : Value), Grow s s' → (σ = σ ∧ s' = s ∧ ∃ r : Bool, x = .bool r ∧ (r = true → eqNats (b1.toList.map UInt8.toNat) (b2.toList.map UInt8.toNat) = true)) → Q x s') → ∀ r : Bool, (r = true → b1 = b2) → Q (.bool r) s := fun E Q q r hr =>
          q s _ Chg.same ⟨rfl, rfl, r, rfl, fun h => by rw [hr h]; exact eqNats_iff.mpr rfl⟩
        refine At.any (AtA.grow I fun E Q q => ?_)
        have fin := fin E Q q
        show wpAny _ A (isSame (.bytes b1 t) (.bytes b2 u) >>= fun r => pure (Value.bool r)) Q E s
        refine wpAny_bind ?_
        show wpAny _ A (isSame.created (b1 == b2) t u) _ E s
        unfold isSame.created
        refine bm_if_false (by rw [show (t == 0) = false from beq_eq_false_iff_ne.mpr (Nat.ne_of_gt t0), show (u == 0) = false from beq_eq_false_iff_ne.mpr (Nat.ne_of_gt u0)]; rfl) ?_
        by_cases htu : t = u
        · refine bm_if_true (by simp [htu]) ?_
          exact wpAny_pure (wpAny_pure (fin true fun _ => I.gfun t b1 b2 gt (htu ▸ gu)))
        · refine bm_if_false (by simp [htu]) ?_
          by_cases hb : b1 = b2
          · refine bm_if_false (by simp [hb]) ?_
            have snt : ∀ (v : Tok) {Q : Bool → Shared → Prop}, Q false s → wpAny (model C.prog C.w) A (sharingNotTold v) Q E s := fun v {Q} q => by
              unfold sharingNotTold
              refine wpAny_bind (wpAny_nsGet hns ?_)
              rw [hno]; exact wpAny_pure q
            refine wpAny_bind (snt _ ?_)
            refine bm_if_false rfl ?_
            refine wpAny_bind (snt _ ?_)
            refine bm_if_false rfl ?_
            refine wpAny_bind (wpAny_rule (wpAny_bind (wpAny_askSetting ?_)))
            exact wpAny_pure (wpAny_pure (fin _ fun _ => hb))
          · refine bm_if_true (by simp [hb]) ?_
            exact wpAny_pure (wpAny_pure (fin false fun h => nomatch h))
  · (first | exact nos e | cases e)

theorem cX_cmpSlots {x : PySem.Expr} {o : COp} {i j : Nat} {M : PySem.Expr → Prop} (h : cX fns k nm x = some (.cmp o (.slot i) (.slot j))) (f : ∀ id p op id2 p2 pos, copOf op = some o → slotOf nm id = some i → slotOf nm id2 = some j → M (.Compare (.Name id p) [op] [.Name id2 p2] pos)) : M x := by
  obtain ⟨k, rfl, h0⟩ := cX_inv h
  exact h0 M fun l op r pos ho hl hr => by
    obtain ⟨_, _, hl1⟩ := cX_inv hl
    obtain ⟨_, _, hr1⟩ := cX_inv hr
    exact hl1 (fun l => M (.Compare l [op] [r] pos)) fun id p hi => hr1 (fun r => M (.Compare (.Name id p) [op] [r] pos)) fun id2 p2 hj => f id p op id2 p2 pos ho hi hj
theorem copIs {op : CmpOp} {M : CmpOp → Prop} (h : copOf op = some .is_) (k : M .Is) : M op := by cases op <;> first | exact k | cases h
theorem copEq {op : CmpOp} {M : CmpOp → Prop} (h : copOf op = some .eq) (k : M .Eq) : M op := by cases op <;> first | exact k | cases h
theorem cL_two {f : PySem.Expr → Option X} {es : List PySem.Expr} {a b : X} {M : List PySem.Expr → Prop} (h : cL f es = some [a, b]) (k : ∀ e1 e2, f e1 = some a → f e2 = some b → M [e1, e2]) : M es := by
  cases es with
  | nil => cases h
  | cons e1 es => refine cL_el h fun x xs h1 h2 e0 => ?_
                  obtain ⟨rfl, rfl⟩ := List.cons.inj e0
                  cases es with
                  | nil => cases h2
                  | cons e2 es => refine cL_el h2 fun x xs h3 h4 e0 => ?_
                                  obtain ⟨rfl, rfl⟩ := List.cons.inj e0
                                  cases es with
                                  | nil => exact k e1 e2 h1 h3
                                  | cons e3 es => exact cL_el h4 fun x xs h3 h4 e0 => nomatch e0

theorem twoSlots_inv {g : COp → Bool} {x : X} {i j : Nat} {M : X → Prop} (h : twoSlots g x = some (i, j)) (k : ∀ o, g o = true → M (.cmp o (.slot i) (.slot j))) : M x := by
  cases x <;> first | exact nos h | skip
  case cmp o xa xb =>
    set_option smartUnfolding false in refine elT h ?_
    intro hg h
    cases xa <;> first | exact nos h | skip
    case slot i' => cases xb <;> first | exact nos h | exact pI h fun e1 e2 => by subst e1 e2; exact k o hg
theorem isOrEq_spec {xs : List X} {i j : Nat} {M : List X → Prop} (h : isOrEq? xs = some (i, j)) (k : M [.cmp .is_ (.slot i) (.slot j), .cmp .eq (.slot i) (.slot j)]) : M xs := by
  cases xs with
  | nil => exact nos h
  | cons x xs => cases xs with
    | nil => exact nos h
    | cons y xs => cases xs with
      | cons => exact nos h
      | nil =>
        set_option smartUnfolding false in refine eP h ?_
        intro i1 j1 h1 h
        set_option smartUnfolding false in refine eP h ?_
        intro i2 j2 h2 h
        set_option smartUnfolding false in refine elT h ?_
        intro h3 h4
        obtain ⟨z1, z2⟩ := Bool.and_eq_true_iff.mp h3
        obtain rfl := Nat.eq_of_beq_eq_true z1
        obtain rfl := Nat.eq_of_beq_eq_true z2
        refine pI h4 fun e1 e2 => ?_
        subst e1 e2
        exact twoSlots_inv (M := fun x => M [x, y]) h1 fun o ho => twoSlots_inv (M := fun y => M [_, y]) h2 fun o2 ho2 => by
          cases o <;> first | exact nob ho | skip
          cases o2 <;> first | exact nob ho2 | exact k
theorem sameOr_el {va vb : V} {c : Bool} {M : V → V → Prop} (h : sameOr va vb = some c) (k1 : ∀ x y, (x == y) = c → M (.bool x) (.bool y)) (k2 : ∀ x y, eqNats x y = c → M (.bytes true x) (.bytes true y)) : M va vb := by
  cases va <;> first | exact nos h | skip
  case bool x => cases vb <;> first | exact nos h | exact k1 _ _ (Option.some.inj h)
  case bytes g x => cases g with
    | false => exact nos h
    | true => cases vb <;> first | exact nos h | skip
              case bytes g y => cases g with
                | false => exact nos h
                | true => exact k2 _ _ (Option.some.inj h)

/-- the same slots on the left and on the right -/
theorem isS_at (G : GOk C F fns K mg mb) (Z : EnvOk a nm env) (I : Inv C bad θ a σ s) {id id2 : Str} {p p2 pos : Pos} {i j : Nat} {va vb : V} {c : Bool} (hi : slotOf nm id = some i) (hj : slotOf nm id2 = some j)
    (ha : σ.loc[i]? = some (some va)) (hb : σ.loc[j]? = some (some vb)) (hs : sameOr va vb = some c) : At C A bad a θ s (isTrue (.Compare (.Name id p) [.Is] [.Name id2 p2] pos) env (eval (.Compare (.Name id p) [.Is] [.Name id2 p2] pos) env)) (fun _ σ'' _ r => σ'' = σ ∧ (r = true → c = true)) :=
  At.eqv (isTrue_Compare1 ..) (At.to (slot_at Z I hi ha) fun θ1 s1 wa st1 I1 ra => At.to (At.holding (slot_at Z I1 hj hb)) fun θ2 s2 wb st2 I2 rb => At.stand (At.bind (At.operate (is_at G I2 hs (I1.mv st2 ra) rb)) fun θ3 σ3 s3 w st3 I3 p3 => by
    obtain ⟨rfl, _, r, rfl, hr⟩ := p3
    exact At.holding (At.any (AtA.grow I3 fun E Q q => wpAny_truthy_bool (q _ _ Chg.same ⟨rfl, hr⟩)))))
theorem boolT_at {w : Value} {b : Bool} {vs : List Value} (I : Inv C bad θ a σ s) (r : VR bad θ s.heap (.bool b) w) : At C A bad a θ s (PySem.holding vs (truthy w)) (PostT σ b) := by
  obtain rfl := r.inv
  exact At.holding (At.any (AtA.grow I fun E Q q => wpAny_truthy_bool (q _ _ Chg.same ⟨rfl, rfl⟩)))
theorem eqS_at (hA : Fit A n) (Z : EnvOk a nm env) (I : Inv C bad θ a σ s) {id id2 : Str} {p p2 pos : Pos} {i j : Nat} {va vb : V} {c : Bool} (hi : slotOf nm id = some i) (hj : slotOf nm id2 = some j)
    (ha : σ.loc[i]? = some (some va)) (hb : σ.loc[j]? = some (some vb)) (hs : sameOr va vb = some c) : At C A bad a θ s (isTrue (.Compare (.Name id p) [.Eq] [.Name id2 p2] pos) env (eval (.Compare (.Name id p) [.Eq] [.Name id2 p2] pos) env)) (PostT σ c) :=
  At.eqv (isTrue_Compare1 ..) (At.to (slot_at Z I hi ha) fun θ1 s1 wa st1 I1 ra => At.to (At.holding (slot_at Z I1 hj hb)) fun θ2 s2 wb st2 I2 rb =>
    At.stand (At.to (At.operate (eq_at hA I2 (I2.frz (I1.mv st2 ra) (sameOr_el (M := fun va _ => frz σ.objs va = some va) hs (fun _ _ _ => rfl) fun _ _ _ => rfl)) (I2.frz rb (sameOr_el (M := fun _ vb => frz σ.objs vb = some vb) hs (fun _ _ _ => rfl) fun _ _ _ => rfl))
      (sameOr_el (M := fun va vb => eqV va vb = some c) hs (fun _ _ e => congrArg some e) fun _ _ e => congrArg some e))) fun θ4 s4 w st4 I4 r => boolT_at I4 r))
theorem sameOr_at (G : GOk C F fns K mg mb) (hA : Fit A n) (Z : EnvOk a nm env) (I : Inv C bad θ a σ s) {es : List PySem.Expr} {xs : List X} {i j : Nat} {va vb : V} {c : Bool} (hc : cL (cX fns k nm) es = some xs) (ho : isOrEq? xs = some (i, j))
    (ha : σ.loc[i]? = some (some va)) (hb : σ.loc[j]? = some (some vb)) (hs : sameOr va vb = some c) : At C A bad a θ s (allTrue .Or es env) (PostT σ c) := by
  refine cL_two (M := fun es => At C A bad a θ s (allTrue .Or es env) (PostT σ c)) (isOrEq_spec (M := fun xs => cL (cX fns k nm) es = some xs → cL (cX fns k nm) es = some [.cmp .is_ (.slot i) (.slot j), .cmp .eq (.slot i) (.slot j)]) ho id hc) fun e1 e2 q1 q2 => ?_
  refine At.bind (t := isTrue e1 env (eval e1 env)) (f := fun t => match BoolOp.Or, t with
    | .And, false => Pure.pure false
    | .Or, true => Pure.pure true
    | _, _ => allTrue .Or [e2] env) (Φ := fun _ σ'' _ r => σ'' = σ ∧ (r = true → c = true)) ?_ fun θ1 σ1 s1 b st1 I1 p1 => ?_
  · exact cX_cmpSlots (M := fun e1 => At C A bad a θ s (isTrue e1 env (eval e1 env)) fun _ σ'' _ r => σ'' = σ ∧ (r = true → c = true)) q1 fun id p op id2 p2 pos h1 h2 h3 => copIs (M := fun op => At C A bad a θ s (isTrue (.Compare (.Name id p) [op] [.Name id2 p2] pos) env (eval (.Compare (.Name id p) [op] [.Name id2 p2] pos) env)) fun _ σ'' _ r => σ'' = σ ∧ (r = true → c = true)) h1 (isS_at G Z I h2 h3 ha hb hs)
  · obtain ⟨rfl, hr⟩ := p1
    cases b with
    | true => exact At.pure I1 ⟨rfl, (hr rfl).symm⟩
    | false =>
      refine At.bind (t := isTrue e2 env (eval e2 env)) (f := fun t => match BoolOp.Or, t with
        | .And, false => Pure.pure false
        | .Or, true => Pure.pure true
        | _, _ => allTrue .Or [] env) (Φ := PostT σ1 c) ?_ fun θ2 σ2 s2 b2 st2 I2 p2 => ?_
      · exact cX_cmpSlots (M := fun e1 => At C A bad a θ1 s1 (isTrue e1 env (eval e1 env)) (PostT σ1 c)) q2 fun id p op id2 p2 pos h1 h2 h3 => copEq (M := fun op => At C A bad a θ1 s1 (isTrue (.Compare (.Name id p) [op] [.Name id2 p2] pos) env (eval (.Compare (.Name id p) [op] [.Name id2 p2] pos) env)) (PostT σ1 c)) h1 (eqS_at hA Z I1 h2 h3 ha hb hs)
      · cases b2 <;> exact At.pure I2 p2

/-- an expression that is asked for its truth by its value -/
noncomputable def PlainE (env : Env) (e : PySem.Expr) : Prop := isTrue e env (eval e env) = (do let v ← eval e env; standAt e.pos; PySem.holding [v] (truthy v))
set_option smartUnfolding false in
theorem value_at (SX : SndX C F fns n) (hA : Fit A n) (Z : EnvOk a nm env) (I : Inv C bad θ a σ s) {e : PySem.Expr} {x : X} {b : Bool} (hc : cX fns k nm e = some x)
    (he : (match (ev F n).x x σ with | some (v, σ1) => (match truth v with | some b => some (b, σ1) | none => none) | none => none) = some (b, σ')) (hi : PlainE env e) : At C A bad a θ s (isTrue e env (eval e env)) (PostT σ' b) :=
  At.eqv hi (SX.step hA Z I hc he fun v σ1 θ1 s1 w st1 I1 r he => elS he fun b' h2 he => PostT.cast he (At.stand (At.holding (At.any (truthy_at I1 r h2)))))
set_option smartUnfolding false in
theorem nottT_at (ST : SndT C F fns n) (hA : Fit A n) (Z : EnvOk a nm env) (I : Inv C bad θ a σ s) {y : PySem.Expr} {p : Pos} {xa : X} {b : Bool} (h1 : cX fns k nm y = some xa) (he : evT (ev F n) (.nott xa) σ = some (b, σ')) :
    At C A bad a θ s (isTrue (.UnaryOp .Not y p) env (eval (.UnaryOp .Not y p) env)) (PostT σ' b) :=
  eP he fun b1 σ1 h2 he => PostT.cast he (ST.go (f := fun b => Pure.pure (!b)) hA Z I h1 h2 fun θ1 s1 st1 I1 => At.pure I1 ⟨rfl, rfl⟩)
theorem evOrr_el {r : Ev} {xs : List X} {b : Bool} {P : Prop} (h : evT r (.orr xs) σ = some (b, σ')) (k1 : ∀ i j va vb c, isOrEq? xs = some (i, j) → σ.loc[i]? = some (some va) → σ.loc[j]? = some (some vb) → sameOr va vb = some c → some (c, σ) = some (b, σ') → P) (k2 : evAny r xs σ = some (b, σ') → P) : P := by
  have h : (match isOrEq? xs with
    | some (i, j) => (match σ.loc[i]?, σ.loc[j]? with
      | some (some va), some (some vb) => (match sameOr va vb with | some c => some (c, σ) | none => none)
      | _, _ => none)
    | none => evAny r xs σ) = some (b, σ') := h
  cases h1 : isOrEq? xs with
  | none => rw [h1] at h; exact k2 h
  | some p =>
    rw [h1] at h
    obtain ⟨i, j⟩ := p
    dsimp only at h
    cases h2 : σ.loc[i]? with
    | none => rw [h2] at h; exact nos h
    | some x => rw [h2] at h; cases x with
      | none => exact nos h
      | some va => cases h3 : σ.loc[j]? with
        | none => rw [h3] at h; exact nos h
        | some y => rw [h3] at h; cases y with
          | none => exact nos h
          | some vb => set_option smartUnfolding false in refine elS h ?_
                       exact fun c h4 h => k1 i j va vb c h1 h2 h3 h4 h
theorem orrT_at (G : GOk C F fns K mg mb) (ST : SndT C F fns n) (hA : Fit A n) (Z : EnvOk a nm env) (I : Inv C bad θ a σ s) {vs : List PySem.Expr} {p : Pos} {xs : List X} {b : Bool} (h1 : cL (cX fns k nm) vs = some xs) (he : evT (ev F n) (.orr xs) σ = some (b, σ')) :
    At C A bad a θ s (isTrue (.BoolOp .Or vs p) env (eval (.BoolOp .Or vs p) env)) (PostT σ' b) :=
  evOrr_el he (fun i j va vb c h2 h3 h4 h5 he => PostT.cast he (sameOr_at G hA Z I h1 h2 h3 h4 h5)) fun he => evAny_at ST hA Z I h1 he
set_option smartUnfolding false in
theorem cmpT_at (SX : SndX C F fns n) (hA : Fit A n) (Z : EnvOk a nm env) (I : Inv C bad θ a σ s) {l r : PySem.Expr} {op : CmpOp} {o : COp} {p : Pos} {xa xb : X} {b : Bool} (ho : copOf op = some o) (hl : cX fns k nm l = some xa) (hr : cX fns k nm r = some xb)
    (he : evT (ev F n) (.cmp o xa xb) σ = some (b, σ')) : At C A bad a θ s (isTrue (.Compare l [op] [r] p) env (eval (.Compare l [op] [r] p) env)) (PostT σ' b) :=
  At.eqv (isTrue_Compare1 ..) (SX.step hA Z I hl he fun va σ1 θ1 s1 wa st1 I1 ra he => At.eqv (congrArg (fun t => PySem.holding [wa] t >>= _) (cX_notMark hr op _)) (SX.stepH hA Z I1 hr he fun vb σ2 θ2 s2 wb st2 I2 rb he => elS he fun b h3 he =>
    PostT.cast he (At.stand (At.to (At.operate (cmp_at hA I2 ho h3 (I1.mv st2 ra) rb)) fun θ3 s3 w st3 I3 r => boolT_at I3 r))))
theorem sndT_succ (G : GOk C F fns K mg mb) (SX : SndX C F fns n) (ST : SndT C F fns n) : SndT C F fns (n + 1) := by
  intro A bad a θ s σ nm env k e x b σ' hA1 Z I hc0 he
  have hA := hA1.mono (Nat.le_succ n)
  have he : evT (ev F n) x σ = some (b, σ') := he
  obtain ⟨k, rfl, hc⟩ := cX_inv hc0
  cases x with
  | nott xa => exact hc (fun e => At C A bad a θ s (isTrue e env (eval e env)) (PostT σ' b)) fun y p h1 => nottT_at ST hA Z I h1 he
  | andd xs => exact hc (fun e => At C A bad a θ s (isTrue e env (eval e env)) (PostT σ' b)) fun vs p h1 => evAll_at ST hA Z I h1 he
  | orr xs => exact hc (fun e => At C A bad a θ s (isTrue e env (eval e env)) (PostT σ' b)) fun vs p h1 => orrT_at G ST hA Z I h1 he
  | cmp o xa xb => exact hc (fun e => At C A bad a θ s (isTrue e env (eval e env)) (PostT σ' b)) fun l op r p h1 h2 h3 => cmpT_at SX hA Z I h1 h2 h3 he
  | slot i => exact value_at SX hA Z I hc0 he (hc (PlainE env) fun _ _ _ => rfl)
  | const v => exact value_at SX hA Z I hc0 he (hc (PlainE env) fun _ _ _ _ => rfl)
  | bin o xa xb => exact value_at SX hA Z I hc0 he (hc (PlainE env) fun _ _ _ _ _ _ _ => rfl)
  | neg xa => exact value_at SX hA Z I hc0 he (hc (PlainE env) fun _ _ _ => rfl)
  | call i xs => exact value_at SX hA Z I hc0 he (hc (PlainE env) fun _ _ _ _ _ _ _ => rfl)
  | prim pr xs => exact value_at SX hA Z I hc0 he (hc (PlainE env) fun _ _ _ _ _ _ _ => rfl)
  | range xs => exact value_at SX hA Z I hc0 he (hc (PlainE env) fun _ _ _ _ _ => rfl)
  | enum x => exact value_at SX hA Z I hc0 he (hc (PlainE env) fun _ _ _ _ _ => rfl)
  | slice xa xl xh => exact value_at SX hA Z I hc0 he (hc (PlainE env) fun _ _ _ _ _ _ _ _ _ => rfl)
  | idx xa xi => exact value_at SX hA Z I hc0 he (hc (PlainE env) fun _ _ _ _ _ => rfl)
  | tup xs => exact value_at SX hA Z I hc0 he (hc (PlainE env) fun _ _ _ _ => rfl)
  | comp cap t xa xit xcs => exact value_at SX hA Z I hc0 he (hc (PlainE env) fun _ _ _ _ _ _ _ _ _ _ _ _ => rfl)
  | addl mu xa xb => exact value_at SX hA Z I hc0 he (hc (fun _ => PlainE env) fun _ _ _ _ _ => rfl)
  | list mu xs => exact value_at SX hA Z I hc0 he (hc (fun _ => PlainE env) fun _ _ _ => rfl)
  | meth m o xs => exact value_at SX hA Z I hc0 he (hc (fun _ _ => PlainE env) (fun _ _ _ _ _ _ _ _ _ _ _ _ _ => rfl) fun _ _ _ _ _ _ _ _ => rfl)
end
end Mine
end
section
namespace Mine
open PySem PySem.W PyProof.Rows PySem.Calls

noncomputable def SndR (C : Cfg) (F : List Fn) (fns : List Str) (n : Nat) : Prop := ∀ (A : Around) (bad : Addr → Prop) (a : Act) (θ : Th) (s : Shared) (σ : St) (nm : Nm) (env : Env) (k : Nat) (e : PySem.Expr) (x : X) (v : V) (σ' : St),
  Fit A n → EnvOk a nm env → Inv C bad θ a σ s → cR fns k nm e = some x → (ev F n).x x σ = some (v, σ') → At C A bad a θ s (eval e env) (Post bad σ' v)

section
variable {C : Cfg} {F : List Fn} {fns : List Str} {K : Nat} {mg mb : Str → Option Value} {n : Nat} {A : Around} {bad : Addr → Prop} {a : Act} {θ : Th} {s s' : Shared} {σ σ' : St} {nm : Nm} {env : Env} {k : Nat}

theorem sndR_succ (SX : SndX C F fns n) (SX1 : SndX C F fns (n + 1)) : SndR C F fns (n + 1) := by
  intro A bad a θ s σ nm env k e x v σ' hA1 Z I hc he
  have hA := hA1.mono (Nat.le_succ n)
  have he' : evX F (ev F n) x σ = some (v, σ') := he
  unfold cR at hc
  cases hm : isMk e with
  | false =>
    rw [hm] at hc
    exact SX1 _ _ _ _ _ _ _ _ _ _ _ _ _ hA1 Z I hc he
  | true =>
    rw [hm] at hc
    obtain ⟨x', h0, ht⟩ := ob_inv hc
    clear hc
    obtain ⟨k', rfl, h1⟩ := cX_inv h0
    clear h0
    cases x' <;> first | exact nos ht | skip
    case list mu xs =>
      cases ht
      exact h1 (fun _ e => At C A bad a θ s (eval e env) (Post bad σ' v)) fun es p h3 => listX_at SX hA Z I h3 he'
    case bin o xa xb =>
      cases ht
      exact h1 (fun e => isMk e = true → At C A bad a θ s (eval e env) (Post bad σ' v)) (fun l op r p _ h3 h4 hm => by
        obtain rfl := isAdd_inv (Bool.and_eq_true_iff.mp hm).2
        exact addlX_at SX hA Z I h3 h4 he') hm
    case addl mu xa xb =>
      cases ht
      exact h1 (fun _ e => At C A bad a θ s (eval e env) (Post bad σ' v)) fun l r p h3 h4 => addlX_at SX hA Z I h3 h4 he'
end
end Mine
end
section
namespace Mine
open PySem PySem.W PyProof.Rows PySem.Calls

section
variable {C : Cfg} {F : List Fn} {fns : List Str} {K : Nat} {mg mb : Str → Option Value} {n : Nat} {A : Around} {bad : Addr → Prop} {a : Act} {θ : Th} {s s' : Shared} {σ σ' : St} {nm : Nm} {env : Env} {k : Nat}

theorem IterAt.enumOf {n0 : Nat} {h : Heap} {t : It} {i : Nat} {w : Value} (x : IterAt n0 bad θ a h true t i w) : ∃ (e it : Addr) (old : Value), w = .ref e ∧ IsEnum h e it (i : Int) old := by
  cases x with
  | enum o o2 ne he => exact ⟨_, _, _, rfl, he⟩
theorem EnvOk.inter (Z : EnvOk a nm env) : interactive env = false := by
  unfold interactive
  rw [Z.kind]; rfl
theorem swaps_plain {e : PySem.Expr} {t : Option PySem.Expr} {l : Nat} (h : ∀ elt gens sc pos, e ≠ .ListComp elt gens sc pos) (h2 : ∀ elt gens sc pos, e ≠ .SetComp elt gens sc pos) (h3 : ∀ x y gens sc pos, e ≠ .DictComp x y gens sc pos) : swapsWith e t l env = pure false := by
  cases e <;> first | rfl | exact absurd rfl (h _ _ _ _) | exact absurd rfl (h2 _ _ _ _) | exact absurd rfl (h3 _ _ _ _ _)
theorem cX_noSet {e : PySem.Expr} {x : X} (h : cX fns k nm e = some x) : (∀ elt gens sc pos, e ≠ .SetComp elt gens sc pos) ∧ (∀ x y gens sc pos, e ≠ .DictComp x y gens sc pos) := by
  constructor <;> intros <;> intro q <;> subst q <;> cases k <;> exact nos h
theorem cR_noSet {e : PySem.Expr} {x : X} (h : cR fns k nm e = some x) : (∀ elt gens sc pos, e ≠ .SetComp elt gens sc pos) ∧ (∀ x y gens sc pos, e ≠ .DictComp x y gens sc pos) := by
  constructor <;> intros <;> intro q <;> subst q <;> cases k <;> exact nos h
theorem cX_comp {elt : PySem.Expr} {gens : List Comprehension} {sc : Scope} {pos : Pos} {x : X} {M : List Comprehension → X → Prop} (h : cX fns k nm (.ListComp elt gens sc pos) = some x) (f : ∀ k' te ie ifs cap t xa xi xcs, scOk sc = true → capOf nm sc.names = some cap → cT sc.names te = some t → cX fns k' sc.names elt = some xa → cX fns k' nm ie = some xi → cL (cX fns k' sc.names) ifs = some xcs →
    M [⟨te, ie, ifs, 0⟩] (.comp cap t xa xi xcs)) : M gens x := by
  cases k with
  | zero => exact nos h
  | succ k =>
    obtain ⟨te, ie, ifs, cap, t, a, it, cs, rfl, rfl, c1, c2, c3, c4, c5, c6⟩ := gComp_inv (gens := gens) h
    exact f k te ie ifs cap t a it cs c1 c2 c3 c4 c5 c6
theorem setIdx_at (SX : SndX C F fns n) (hA : Fit A n) (Z : EnvOk a nm env) (I : Inv C bad θ a σ s) {o i : PySem.Expr} {pos : Pos} {xo xi : X} {vx vo vi : V} {wx : Value} {σ1 σ2 : St} {objs : List O} (ho : cX fns k nm o = some xo) (hi : cX fns k nm i = some xi)
    (h1 : (ev F n).x xo σ = some (vo, σ1)) (h2 : (ev F n).x xi σ1 = some (vi, σ2)) (h3 : setitem σ2.objs vo vi vx = some objs) (rx : VR bad θ s.heap vx wx) :
    At C A bad a θ s (assign (.Subscript o i pos) env wx) (fun _ σ' _ _ => σ' = ⟨σ2.loc, objs⟩) :=
  At.eqv (assign_Subscript ..) (SX.goH hA Z I ho h1 fun θ1 s1 wo st1 I1 ro => SX.goH hA Z I1 hi h2 fun θ2 s2 wi st2 I2 ri =>
    At.stand (At.bind (At.holding (setitem_at I2 (I1.mv st2 ro) ri (I1.mv st2 (I.mv st1 rx)) h3)) fun θ3 σ3 s3 _ st3 I3 p3 E Q hQ => wpC_of (wpAny_release (hQ _ _ _ _ (Step.refl ..) I3 p3))))

set_option smartUnfolding false in
theorem index_ref {objs : List O} {kk : Nat} {vi v : V} {M : V → Prop} (e : index objs (.ref kk) vi = some v) (f : ∀ (j : Nat) xs, Nat.blt (Int.ofNat j).natAbs bigN = true → itemsOf objs (.ref kk) = some xs → xs[j]? = some v → M (.int (.ofNat j))) : M vi := by
  cases vi <;> first | exact nos e | skip
  case int z => exact elT e fun h1 e => elS e fun xs h2 e => by
                  cases z with
                  | negSucc z => exact nos e
                  | ofNat j => exact f j xs h1 h2 e
theorem getItem_at (I : Inv C bad θ a σ s) {va vi v : V} {wa wi : Value} (hr : ∃ r, va = .ref r) (ra : VR bad θ s.heap va wa) (ri : VR bad θ s.heap vi wi) (e : index σ.objs va vi = some v) : At C A bad a θ s (getItem wa wi) (Post bad σ v) := by
  obtain ⟨r, rfl⟩ := hr
  refine index_ref (M := fun vi => VR bad θ s.heap vi wi → At C A bad a θ s (getItem wa wi) (Post bad σ v)) e (fun j xs h1 h2 h3 ri => ?_) ri
  obtain ⟨l, vs, rfl, hl, hi⟩ := itemsR I ra h2
  obtain ⟨_, rfl⟩ := ri.inv
  obtain ⟨w, e3, r1⟩ := hi.get h3
  exact At.any (AtA.grow I fun E Q hQ => wpAny_getItem_list hl (Int.natCast_nonneg j) (small_range h1).2 (by simpa using e3) (hQ s w Chg.same ⟨rfl, r1⟩))

theorem runOwn_at {c : Code} {Ψ : Th → St → Shared → Flow → Prop} (h : ∀ (R : Result → Shared → Prop), (∀ θ' σ' s' f, Step θ a s.heap θ' s'.heap → Inv C bad θ' a σ' s' → Ψ θ' σ' s' f → R (.ok f) s') → codeC (model C.prog C.w) A c R s) : At C A bad a θ s (runOwn c env) Ψ := fun E Q hQ =>
  wpC_runOwn (h _ fun θ' σ' s' f st I p => hQ θ' σ' s' f st I p)

set_option smartUnfolding false in
theorem evForI_el {r : Ev} {tgt : Tgt} {it : X} {b e : List S} {q : Fl × St} {P : Prop} (h : (match iterEval r it σ with | some (it, σ1) => evFor r tgt b e it (it.turns σ1.objs) 0 σ1 | none => none) = some q) (k : ∀ t σ1, iterEval r it σ = some (t, σ1) → evFor r tgt b e t (t.turns σ1.objs) 0 σ1 = some q → P) : P :=
  eP h k
set_option smartUnfolding false in
theorem enum_el {tgt : Tgt} {o : V × St} {r : Ev} {b e : List S} {q : Fl × St} {P : Prop} (h : evEnum r tgt b e o = some q) (k : ∀ xs σ1 is, o = (.list xs, σ1) → tgt = .many is → evFor r tgt b e (.vals (enumItems 0 xs)) (xs.length + 1) 0 σ1 = some q → P) : P := by
  obtain ⟨v, σ1⟩ := o
  cases v <;> first | exact nos h | skip
  case list xs => cases tgt with
    | one i => exact nos h
    | many is => exact elT h fun _ h => k xs σ1 is rfl rfl h
set_option smartUnfolding false in
theorem evFor_el {r : Ev} {tgt : Tgt} {it : X} {b e : List S} {q : Fl × St} {P : Prop} (h : evS r (.forr tgt it b e) σ = some q) (k1 : ∀ x xs σ1 is, it = .enum x → tgt = .many is → r.x x σ = some (.list xs, σ1) → evFor r tgt b e (.vals (enumItems 0 xs)) (xs.length + 1) 0 σ1 = some q → P)
    (k2 : ∀ t σ1, iterEval r it σ = some (t, σ1) → evFor r tgt b e t (t.turns σ1.objs) 0 σ1 = some q → P) : P := by
  cases it <;> first | exact evForI_el h k2 | skip
  case enum x => exact eS h fun p h1 h => enum_el h fun xs σ1 is e1 e2 h => k1 x xs σ1 is rfl e2 (h1.trans (congrArg some e1)) h
theorem cT_many {te : PySem.Expr} {is : List Nat} (hc : cT nm te = some (.many is)) : ∃ es k p, te = .Tuple es k p := by
  cases te <;> first | exact nos hc | exact ⟨_, _, _, rfl⟩ | skip
  case Name id p =>
    obtain ⟨i, _, hc⟩ := ob_inv (x := slotW nm id) hc
    cases hc
/-- what enumerate makes -/
noncomputable def EnumMade (C : Cfg) (bad : Addr → Prop) (a : Act) (θ : Th) (h : Heap) (σ1 : St) (xs : List V) : Th → St → Shared → Value → Prop := fun θ' σ'' s' w =>
  σ'' = σ1 ∧ ∃ (θb : Th) (sb : Shared), Step θ a h θb sb.heap ∧ C.h₀.objs.size ≤ sb.heap.objs.size ∧ Step θb a sb.heap θ' s'.heap ∧ IterAt sb.heap.objs.size bad θ' a s'.heap true (.vals (enumItems 0 xs)) 0 w
theorem enumC_at (G : GOk C F fns K mg mb) (SX : SndX C F fns n) (hA : Fit A n) (Z : EnvOk a nm env) (I : Inv C bad θ a σ s) {p cpos : Pos} {as : List PySem.Expr} {x : X} {xs : List V} {σ1 : St} (hg : isGlob nm "enumerate" = true) (ha : cL (cX fns k nm) as = some [x]) (h1 : (ev F n).x x σ = some (.list xs, σ1)) :
    At C A bad a θ s (eval (.Call (.Name "enumerate" p) as [] cpos) env) (EnumMade C bad a θ s.heap σ1 xs) :=
  callName_at (g := some) (r := ([V.list xs], σ1)) SX hA Z (nameB_at G Z I hg G.enum.1 G.enum.2) (.inl ⟨_, rfl⟩) ha (by simp [evL, h1]) fun vs σ2 θ2 s2 ws st2 I2 r2 he => pI he fun e1 e2 => by
    subst e1 e2
    cases r2 with
    | cons r2 r3 =>
      cases r3
      exact At.mono (At.any (enum_at (n0 := s2.heap.objs.size) I2 (Nat.le_refl _) r2)) fun θ3 σ3 s3 w st3 I3 q => ⟨q.1, θ2, s2, st2, I2.sizeOk, st3, q.2.2⟩
theorem forEnum_at (SB : SndB C F fns n) (hA : Fit A n) (Z : EnvOk a nm env) {te ie : PySem.Expr} {bs es : List Stmt} {pos : Pos} {is : List Nat} {xi : X} {xs : List V} {σ1 : St} {f : Fl} (hc : cT nm te = some (.many is)) (hi : cX fns k nm ie = some xi) (h : At C A bad a θ s (eval ie env) (EnumMade C bad a θ s.heap σ1 xs))
    (he : evFor (ev F n) (.many is) (cB (cS fns k nm) bs) (cB (cS fns k nm) es) (.vals (enumItems 0 xs)) (xs.length + 1) 0 σ1 = some (f, σ')) : At C A bad a θ s (exec (.For te ie bs es pos) env) (PostF bad σ' f) :=
  At.eqv (exec_For ..) (At.stand fun E Q hQ => wpC_bind (h E _ fun θ1 σ1' s1 w st1 I1 p1 => by
    obtain ⟨rfl, θb, sb, stb, szb, st3, it⟩ := p1
    obtain ⟨e1, it1, old, rfl, he'⟩ := it.enumOf
    rw [cX_notSet hi env _]
    exact wpC_bind (wpC_pure (wpC_bind (wpC_standAt (wpC_bind (wpC_holding (wpC_of (wpAny_pyIter_enum he' (wpC_runOwn
      (for_code SB hA Z (s0 := sb) (θ0 := θb) szb hc (fun _ => cT_many hc) (fun θ' s' f' st' I' rf => hQ θ' _ s' f' (stb.trans st') I' ⟨rfl, rf⟩) _ 0 I1 it st3 he)))))))))))
theorem for_at (G : GOk C F fns K mg mb) (SX : SndX C F fns n) (SB : SndB C F fns n) (hA : Fit A n) (Z : EnvOk a nm env) (I : Inv C bad θ a σ s) {te ie : PySem.Expr} {bs es : List Stmt} {pos : Pos} {tgt : Tgt} {xi : X} {f : Fl} (hc : cT nm te = some tgt) (hi : cX fns k nm ie = some xi)
    (he : evS (ev F n) (.forr tgt xi (cB (cS fns k nm) bs) (cB (cS fns k nm) es)) σ = some (f, σ')) : At C A bad a θ s (exec (.For te ie bs es pos) env) (PostF bad σ' f) := by
  refine evFor_el he (fun x xs σ1 is e1 e2 h1 he2 => ?_) fun t σ1 h1 he => ?_
  · subst e1 e2
    refine forEnum_at SB hA Z hc hi ?_ he2
    obtain ⟨k', fn, p, as, cpos, rfl, rfl, hg, ha, rfl⟩ := cX_enum hi
    exact enumC_at G SX hA Z I hg ha h1
  · exact At.eqv (exec_For ..) (At.stand (At.bind (first_at G SX hA Z I hi h1) fun θ1 σ1' s1 w st1 I1 p1 => At.eqv (congrArg (fun t => t >>= _) (cX_notSet hi env _)) (At.pureB (At.stand fun E Q hQ => wpC_bind (wpC_holding (wpC_of (firstIter_grow I1 (p1.1 ▸ p1) _ _ fun s2 it g2 p2 => wpC_runOwn
      (for_code SB hA Z (s0 := s1) (θ0 := θ1) (en := false) I1.sizeOk hc (fun e => nomatch e) (fun θ' s' f' st' I' rf => hQ θ' _ s' f' st' I' ⟨rfl, rf⟩) _ 0 (p1.1 ▸ I1.grow g2) p2.2 (Step.of_grow g2) he))))))))

/-- the value of a comprehension is used before its variables go -/
noncomputable def SndU (C : Cfg) (F : List Fn) (fns : List Str) (n : Nat) : Prop := ∀ (A : Around) (bad : Addr → Prop) (a : Act) (θ : Th) (s : Shared) (σ : St) (nm : Nm) (env : Env) (k : Nat) (elt : PySem.Expr) (gens : List Comprehension) (sc : Scope) (pos : Pos) (x : X) (v : V) (σ' : St) (u : Value → Sem Unit) (E : Value → Shared → Prop) (Q : Unit → Shared → Prop),
  Fit A n → EnvOk a nm env → Inv C bad θ a σ s → cX fns k nm (.ListComp elt gens sc pos) = some x → (ev F n).x x σ = some (v, σ') →
  (∀ θ5 s5 w, Step θ a s.heap θ5 s5.heap → Inv C bad θ5 a σ' s5 → VR bad θ5 s5.heap v w → ∃ σ6, At C A bad a θ5 s5 (u w) (fun _ σ' _ _ => σ' = σ6) ∧ ∀ θ6 s6, Step θ a s.heap θ6 s6.heap → Inv C bad θ6 a σ6 s6 → Q () s6) →
  wpC (model C.prog C.w) A (evalThenUse (.ListComp elt gens sc pos) env u) Q E s
set_option smartUnfolding false in
theorem sndU_succ (G : GOk C F fns K mg mb) (SX : SndX C F fns n) (ST : SndT C F fns n) : SndU C F fns (n + 1) := by
  intro A bad a θ s σ nm env k elt gens sc pos x v σ' u E Q hA1 Z I hc he hQ
  have hA := hA1.mono (Nat.le_succ n)
  refine cX_comp (M := fun gens x => evX F (ev F n) x σ = some (v, σ') → wpC (model C.prog C.w) A (evalThenUse (.ListComp elt gens sc pos) env u) Q E s) hc (fun k' te ie ifs cap t xa xi xcs c1 c2 c3 c4 c5 c6 he => eP he fun it σ1 e1 he => eP he fun vs σ2 e2 he => pI he fun q1 q2 => ?_) he
  subst q1 q2
  exact wpC_bind (m := comprehension (.ListComp elt [⟨te, ie, ifs, 0⟩] sc pos) sc env (firstIterPos [⟨te, ie, ifs, 0⟩] pos) (newList []) false (eval ie env) (some u)) (comp_run G SX ST hA Z I c1 c2 c3 c4 c5 c6 e1 e2 (use := some u) fun θ5 s5 w st5 I5 r5 =>
    (hQ θ5 s5 w st5 I5 r5).elim fun σ6 h => ⟨σ6, h.1, fun θ6 s6 st6 I6 => wpC_pure (h.2 θ6 s6 st6 I6)⟩)

/-- what a statement leaves when it goes on -/
theorem PostF.nextC {σ1 σ2 : St} {fl : Fl} (e : some (Fl.next, σ1) = some (fl, σ2)) {θ1 : Th} {s1 : Shared} {σ3 : St} (I : Inv C bad θ1 a σ3 s1) (h : σ3 = σ1) : At C A bad a θ1 s1 (Pure.pure Flow.next) (PostF bad σ2 fl) := PostF.next e (h ▸ I)
set_option smartUnfolding false in
theorem assign_at (G : GOk C F fns K mg mb) (SU : SndU C F fns n) (SR : SndR C F fns n) (hA : Fit A n) (Z : EnvOk a nm env) (I : Inv C bad θ a σ s) {id : Str} {p2 pos : Pos} {v : PySem.Expr} {i : Nat} {x : X} {f : Fl} (hi : slotW nm id = some i) (hx : cR fns k nm v = some x)
    (he : evS (ev F n) (.assign i x) σ = some (f, σ')) : At C A bad a θ s (exec (.Assign [.Name id p2] v pos) env) (PostF bad σ' f) := by
  refine eP he fun vv σ1 h1 he => ?_
  have plain : swapsWith v (some (.Name id p2)) pos.line env = pure false → At C A bad a θ s (exec (.Assign [.Name id p2] v pos) env) (PostF bad σ' f) := fun hs =>
    At.eqv (exec_Assign_Name (hs := hs) ..) (At.stand (At.to (SR _ _ _ _ _ _ _ _ _ _ _ _ _ hA Z I hx h1) fun θ1 s1 w st1 I1 r => At.stand (At.bind (store_at Z I1 hi r) fun θ2 σ2 s2 _ st2 I2 p2 => PostF.nextC he I2 p2)))
  by_cases hcomp : ∃ elt gens sc pos, v = .ListComp elt gens sc pos
  · obtain ⟨elt, gens, sc, cpos, rfl⟩ := hcomp
    have hsw : ∃ b, swapsWith (.ListComp elt gens sc cpos) (some (.Name id p2)) pos.line env = pure b := ⟨_, rfl⟩
    obtain ⟨b, hsw⟩ := hsw
    cases b with
    | false => exact plain hsw
    | true =>
      refine At.eqv (exec_Assign_Name_used (hs := hsw) ..) (At.stand fun E Q hQ => wpC_bind (SU _ _ _ _ _ _ _ _ _ _ _ _ _ _ _ _ _ _ _ hA Z I hx h1 fun θ5 s5 w st5 I5 r5 => ⟨⟨σ1.loc.set i (some vv), σ1.objs⟩, ?_, fun θ6 s6 st6 I6 => wpC_pure (pI he fun e1 e2 => hQ _ _ _ _ st6 I6 ⟨e2, e1 ▸ trivial⟩)⟩))
      exact At.stand (f := fun _ => bindName env id w) (pos := p2) (store_at Z I5 hi r5)
  · have hns := (cR_noSet hx)
    exact plain (swaps_plain (fun elt gens sc pos q => hcomp ⟨_, _, _, _, q⟩) hns.1 hns.2)
end
end Mine
end
section
namespace Mine
open PySem PySem.W PyProof.Rows PySem.Calls

section
variable {C : Cfg} {F : List Fn} {fns : List Str} {K : Nat} {mg mb : Str → Option Value} {n : Nat} {A : Around} {bad : Addr → Prop} {a : Act} {θ : Th} {s s' : Shared} {σ σ' : St} {nm : Nm} {env : Env} {k : Nat}

theorem comp_notNone {elt : PySem.Expr} {gens : List Comprehension} {sc : Scope} {pos : Pos} {x : X} {σ1 : St} (hx : cX fns k nm (.ListComp elt gens sc pos) = some x) (h1 : (ev F n).x x σ = some (.none, σ1)) : False :=
  cX_comp (M := fun gens x => (ev F n).x x σ = some (.none, σ1) → False) hx (fun _ _ _ _ _ _ _ _ _ _ _ _ _ _ _ h1 => by
    cases n with
    | zero => exact nos h1
    | succ n => set_option smartUnfolding false in exact eP h1 fun it σ1 e1 h => eP h fun vs σ2 e2 h => pI h fun q _ => nomatch q) h1
theorem expr_el {r : Ev} {x : X} {q : Fl × St} {P : Prop} (h : evS r (.expr x) σ = some q) (f : ∀ σ1, r.x x σ = some (.none, σ1) → some (Fl.next, σ1) = some q → P) : P := by
  have h : (match r.x x σ with | some (.none, σ1) => some (Fl.next, σ1) | _ => none) = some q := h
  cases h1 : r.x x σ with
  | none => rw [h1] at h; exact nos h
  | some p =>
    rw [h1] at h
    obtain ⟨v, σ1⟩ := p
    cases v <;> first | exact nos h | exact f _ h1 h
theorem expr_at (SX : SndX C F fns n) (hA : Fit A n) (Z : EnvOk a nm env) (I : Inv C bad θ a σ s) {v : PySem.Expr} {pos : Pos} {x : X} {f : Fl} (hx : cX fns k nm v = some x)
    (he : evS (ev F n) (.expr x) σ = some (f, σ')) : At C A bad a θ s (exec (.Expr v pos) env) (PostF bad σ' f) :=
  expr_el he fun σ1 h1 he => At.eqv (exec_Expr (hi := Z.inter) (hs := swaps_plain (fun elt gens sc cpos q => by subst q; exact comp_notNone hx h1) (cX_noSet hx).1 (cX_noSet hx).2) ..) (At.stand (SX.go hA Z I hx h1 fun θ1 s1 w st1 I1 r => by
    obtain rfl := r.inv
    exact At.eqv (dropValue_plain (fun a q => nomatch q)) (PostF.next he I1)))

theorem swaps_sub {v o i : PySem.Expr} {p2 : Pos} {l : Nat} : swapsWith v (some (.Subscript o i p2)) l env = pure false := by cases v <;> rfl
set_option smartUnfolding false in
theorem setS_at (SX : SndX C F fns n) (hA : Fit A n) (Z : EnvOk a nm env) (I : Inv C bad θ a σ s) {o i v : PySem.Expr} {p2 pos : Pos} {xo xi x : X} {f : Fl} (ho : cX fns k nm o = some xo) (hi : cX fns k nm i = some xi) (hx : cX fns k nm v = some x)
    (he : evS (ev F n) (.setidx xo xi x) σ = some (f, σ')) : At C A bad a θ s (exec (.Assign [.Subscript o i p2] v pos) env) (PostF bad σ' f) :=
  At.eqv (exec_Assign_Subscript (hs := swaps_sub) ..) (At.stand (SX.step hA Z I hx he fun vv σ1 θ1 s1 w st1 I1 r he => eP he fun vo σ2 h2 he => eP he fun vi σ3 h3 he => elS he fun objs h4 he =>
    At.bind (setIdx_at SX hA Z I1 ho hi h2 h3 h4 r) fun θ2 σ2' s2 _ st2 I2 p2 => PostF.nextC he I2 p2))

theorem augT_el {α : Type} {o : BOp} {w : V} {z q : α} {M : BOp → Prop} (h : (match o, w with | .add, .int _ => some z | .add, .str _ => some z | _, _ => none) = some q) (f : ((∃ i, w = .int i) ∨ ∃ x, w = .str x) → some z = some q → M .add) : M o := by
  cases o <;> first | exact nos h | skip
  case add => cases w <;> first | exact nos h | exact f (.inl ⟨_, rfl⟩) h | exact f (.inr ⟨_, rfl⟩) h
theorem augJ_el {α : Type} {o : BOp} {w : V} {z : Option α} {q : α} {M : BOp → Prop} (h : (match o, w with | .add, .int _ => z | _, _ => none) = some q) (f : (∃ i, w = .int i) → z = some q → M .add) : M o := by
  cases o <;> first | exact nos h | skip
  case add => cases w <;> first | exact nos h | exact f ⟨_, rfl⟩ h
theorem opAdd {op : Operator} {M : Operator → Prop} (h : opOf op = some .add) (f : M .Add) : M op := by cases op <;> first | exact f | cases h
theorem slotW_slot {x : Str} {i : Nat} (h : slotW nm x = some i) : slotOf nm x = some i := by
  unfold slotW at h
  split at h
  · exact h
  · exact h
  · exact nos h
theorem augAdd_at (SX : SndX C F fns n) (hA : Fit A n) (Z : EnvOk a nm env) (I : Inv C bad θ a σ s) {id : Str} {v : PySem.Expr} {p2 pos : Pos} {i : Nat} {x : X} {old vv w0 : V} {σ1 : St} {f : Fl} (hi : slotW nm id = some i) (hx : cX fns k nm v = some x) (hold : σ.loc[i]? = some (some old)) (h1 : (ev F n).x x σ = some (vv, σ1)) (h2 : binop .add old vv = some w0)
    (hw : (∃ i, w0 = .int i) ∨ ∃ x, w0 = .str x) (he : some (Fl.next, (⟨σ1.loc.set i (some w0), σ1.objs⟩ : St)) = some (f, σ')) : At C A bad a θ s (exec (.AugAssign (.Name id p2) .Add v pos) env) (PostF bad σ' f) :=
  At.eqv (exec_AugAssign_Name ..) (At.stand (At.to (At.any (load_at Z I (slotW_slot hi) hold)) fun θ0 s0 w st0 I0 r0 => SX.goH hA Z I0 hx h1 fun θ1 s1 w1 st1 I1 r1 =>
    At.stand (At.to (At.operate (iadd_at I1 h2 hw (I0.mv st1 r0) r1)) fun θ2 s2 w2 st2 I2 r2 => At.stand (At.bind (store_at Z I2 hi r2) fun θ3 σ3 s3 _ st3 I3 p3 => PostF.nextC he I3 p3))))
set_option smartUnfolding false in
theorem augN_at (SX : SndX C F fns n) (hA : Fit A n) (Z : EnvOk a nm env) (I : Inv C bad θ a σ s) {id : Str} {v : PySem.Expr} {p2 pos : Pos} {op : Operator} {o : BOp} {i : Nat} {x : X} {f : Fl} (hi : slotW nm id = some i) (ho : opOf op = some o) (hx : cX fns k nm v = some x)
    (he : evS (ev F n) (.augname i o x) σ = some (f, σ')) : At C A bad a θ s (exec (.AugAssign (.Name id p2) op v pos) env) (PostF bad σ' f) :=
  slotV_el he fun old hold he => eP he fun vv σ1 h1 he => elS he fun w0 h2 he =>
    augT_el (M := fun o => opOf op = some o → binop o old vv = some w0 → At C A bad a θ s (exec (.AugAssign (.Name id p2) op v pos) env) (PostF bad σ' f)) he (fun hw he ho h2 => opAdd (M := fun op => At C A bad a θ s (exec (.AugAssign (.Name id p2) op v pos) env) (PostF bad σ' f)) ho (augAdd_at SX hA Z I hi hx hold h1 h2 hw he)) ho h2

theorem setitem_ref {objs objs' : List O} {vo vi vx : V} (h : setitem objs vo vi vx = some objs') : ∃ r, vo = .ref r := by
  cases vo <;> first | exact nos h | exact ⟨_, rfl⟩
theorem augStore_plain {i : PySem.Expr} {xi : X} {ov iv new : Value} (hi : cX fns k nm i = some xi) : augStore i ov iv new = (do PySem.holding [new, ov, iv] (setItem ov iv new); release [new, ov, iv] []; pure .next) := by
  cases i <;> first | rfl | (cases k <;> exact nos hi)
theorem augIdx_at (SX : SndX C F fns n) (hA : Fit A n) (Z : EnvOk a nm env) (I : Inv C bad θ a σ s) {o i v : PySem.Expr} {p2 pos : Pos} {xo xi x : X} {vo vi old vv w0 : V} {σ1 σ2 σ3 : St} {objs : List O} {f : Fl} (hoo : cX fns k nm o = some xo) (hi : cX fns k nm i = some xi) (hx : cX fns k nm v = some x)
    (h1 : (ev F n).x xo σ = some (vo, σ1)) (h2 : (ev F n).x xi σ1 = some (vi, σ2)) (h3 : index σ2.objs vo vi = some old) (h4 : (ev F n).x x σ2 = some (vv, σ3)) (h5 : binop .add old vv = some w0) (hw : ∃ z, w0 = .int z) (h6 : setitem σ3.objs vo vi w0 = some objs)
    (he : some (Fl.next, (⟨σ3.loc, objs⟩ : St)) = some (f, σ')) : At C A bad a θ s (exec (.AugAssign (.Subscript o i p2) .Add v pos) env) (PostF bad σ' f) :=
  At.stand (pos := pos) (SX.go (f := fun ov => PySem.holding [ov] (eval i env) >>= fun iv => (PySem.holding [ov, iv] (standAt p2 >>= fun _ => getItem ov iv >>= fun old => PySem.holding [old] (eval v env) >>= fun v => standAt pos >>= fun _ => PySem.operate [old, v] (inplaceOp .Add old v))) >>= fun new => standAt p2 >>= fun _ => augStore i ov iv new) hA Z I hoo h1 fun θ1 s1 wo st1 I1 ro =>
    SX.goH hA Z I1 hi h2 fun θ2 s2 wi st2 I2 ri => At.bind (Φ := fun θ' σ'' s' w => σ'' = σ3 ∧ VR bad θ' s'.heap w0 w) (At.holding (At.stand (At.to (getItem_at I2 (setitem_ref h6) (I1.mv st2 ro) ri h3) fun θ3 s3 w3 st3 I3 r3 =>
        SX.goH hA Z I3 hx h4 fun θ4 s4 w4 st4 I4 r4 => At.stand (At.operate (iadd_at I4 h5 (.inl hw) (I3.mv st4 r3) r4))))) fun θ3 σ3' s3 wn st23 I3 p3 =>
      At.stand (At.eqv (augStore_plain hi) (At.bind (At.holding (setitem_at (p3.1 ▸ I3) (I2.mv st23 (I1.mv st2 ro)) (I2.mv st23 ri) p3.2 h6)) fun θ4 σ4 s4 _ st4 I4 p4 => At.rel (PostF.nextC he I4 p4))))
set_option smartUnfolding false in
theorem augI_at (SX : SndX C F fns n) (hA : Fit A n) (Z : EnvOk a nm env) (I : Inv C bad θ a σ s) {o i v : PySem.Expr} {p2 pos : Pos} {op : Operator} {ob : BOp} {xo xi x : X} {f : Fl} (hoo : cX fns k nm o = some xo) (hi : cX fns k nm i = some xi) (ho : opOf op = some ob) (hx : cX fns k nm v = some x)
    (he : evS (ev F n) (.augidx xo xi ob x) σ = some (f, σ')) : At C A bad a θ s (exec (.AugAssign (.Subscript o i p2) op v pos) env) (PostF bad σ' f) :=
  eP he fun vo σ1 h1 he => eP he fun vi σ2 h2 he => elS he fun old h3 he => eP he fun vv σ3 h4 he => elS he fun w0 h5 he =>
    augJ_el (M := fun ob => opOf op = some ob → binop ob old vv = some w0 → At C A bad a θ s (exec (.AugAssign (.Subscript o i p2) op v pos) env) (PostF bad σ' f)) he (fun hw he ho h5 => opAdd (M := fun op => At C A bad a θ s (exec (.AugAssign (.Subscript o i p2) op v pos) env) (PostF bad σ' f)) ho
      (elS he fun objs h6 he => augIdx_at SX hA Z I hoo hi hx h1 h2 h3 h4 h5 hw h6 he)) ho h5

theorem oS_el {α : Type} {x : Option α} {g : α → S} {r : Ev} {q : Fl × St} {P : Prop} (h : evS r (oS x g) σ = some q) (f : ∀ y, x = some y → evS r (g y) σ = some q → P) : P := by
  cases x with
  | none => exact nos h
  | some y => exact f y rfl h
theorem iff_el {r : Ev} {t : X} {b e : List S} {q : Fl × St} {P : Prop} (h : evS r (.iff t b e) σ = some q) (f : ∀ c σ1, r.t t σ = some (c, σ1) → @Bool.rec (fun _ => Option (Fl × St)) (r.b e σ1) (r.b b σ1) c = some q → P) : P := by
  have h : (match r.t t σ with | some (true, σ1) => r.b b σ1 | some (false, σ1) => r.b e σ1 | none => none) = some q := h
  cases h1 : r.t t σ with
  | none => rw [h1] at h; exact nos h
  | some p =>
    rw [h1] at h
    obtain ⟨c, σ1⟩ := p
    exact f c σ1 h1 (by cases c <;> exact h)
set_option smartUnfolding false in
theorem if_at (ST : SndT C F fns n) (SB : SndB C F fns n) (hA : Fit A n) (Z : EnvOk a nm env) (I : Inv C bad θ a σ s) {t : PySem.Expr} {b e : List Stmt} {p : Pos} {x : X} {f : Fl} (h1 : cX fns k nm t = some x) (he : evS (ev F n) (.iff x (cB (cS fns k nm) b) (cB (cS fns k nm) e)) σ = some (f, σ')) :
    At C A bad a θ s (exec (.If t b e p) env) (PostF bad σ' f) :=
  iff_el he fun c σ1 h2 he => At.eqv (exec_If ..) (At.stand (ST.go hA Z I h1 h2 fun θ1 s1 st1 I1 => by
    cases c with
    | true => exact SB _ _ _ _ _ _ _ _ _ _ _ _ hA Z I1 he
    | false => exact SB _ _ _ _ _ _ _ _ _ _ _ _ hA Z I1 he))
theorem stmt_at (G : GOk C F fns K mg mb) (SX : SndX C F fns n) (ST : SndT C F fns n) (SB : SndB C F fns n) (SR : SndR C F fns n) (SU : SndU C F fns n) (hA : Fit A n) (Z : EnvOk a nm env) (I : Inv C bad θ a σ s) {st : Stmt} {f : Fl}
    (he : evS (ev F n) (cS fns k nm st) σ = some (f, σ')) : At C A bad a θ s (exec st env) (PostF bad σ' f) := by
  cases k with
  | zero => exact nos he
  | succ k =>
    cases st <;> first | exact nos he | skip
    case Expr v p => exact oS_el he fun x h1 he => expr_at SX hA Z I h1 he
    case Assign ts v p =>
      cases ts with
      | nil => exact nos he
      | cons t ts => cases ts with
        | cons t2 ts => exact nos he
        | nil =>
          cases t <;> first | exact nos he | skip
          case Name id p2 => exact oS_el (x := slotW nm id) he fun i h1 he => oS_el he fun x h2 he => assign_at G SU SR hA Z I h1 h2 he
          case Subscript o i p2 => exact oS_el (x := cX fns k nm o) he fun xo h1 he => oS_el he fun xi h2 he => oS_el he fun x h3 he => setS_at SX hA Z I h1 h2 h3 he
    case AugAssign t op v p =>
      cases t <;> first | exact nos he | skip
      case Name id p2 => exact oS_el (x := slotW nm id) he fun i h1 he => oS_el he fun o h2 he => oS_el he fun x h3 he => augN_at SX hA Z I h1 h2 h3 he
      case Subscript o i p2 => exact oS_el (x := cX fns k nm o) he fun xo h1 he => oS_el he fun xi h2 he => oS_el he fun ob h3 he => oS_el he fun x h4 he => augI_at SX hA Z I h1 h2 h3 h4 he
    case If t b e p => exact oS_el he fun x h1 he => if_at ST SB hA Z I h1 he
    case While t b els p =>
      cases els with
      | cons s0 ss => exact nos he
      | nil => exact oS_el (x := cX fns k nm t) he fun x h1 he => At.eqv (exec_While ..) (At.stand fun E Q hQ => wpC_runOwn
          (while_code SB ST hA Z h1 (h0 := s.heap) (θ0 := θ) (fun θ' s' f' st' I' rf => hQ θ' _ s' f' st' I' ⟨rfl, rf⟩) 64 I (Step.refl ..) he))
    case For tgt it b e p => exact oS_el he fun t h1 he => oS_el he fun x h2 he => for_at G SX SB hA Z I h1 h2 he
    case Return v p =>
      cases v with
      | none => exact PostF.cast he fun E Q hQ => wpC_of (wpAny_Return_none (hQ _ _ _ _ (Step.refl ..) I ⟨rfl, .none⟩))
      | some v =>
        refine oS_el (x := cX fns k nm v) he fun x h1 he => ?_
        set_option smartUnfolding false in
        exact At.eqv (exec_Return_some ..) (At.stand (SX.step (f := fun v => Pure.pure (Flow.ret v)) hA Z I h1 he fun v σ1 θ1 s1 w st1 I1 r he => PostF.cast he (At.pure I1 ⟨rfl, r⟩)))
    case Break p => exact PostF.cast he (At.stand (f := fun _ => Pure.pure Flow.brk) (pos := p) (At.pure I ⟨rfl, trivial⟩))

theorem evB_el {r : Ev} {st : S} {ss : List S} {q : Fl × St} {P : Prop} (h : evB r (st :: ss) σ = some q) (k1 : ∀ σ1, evS r st σ = some (.next, σ1) → evB r ss σ1 = some q → P) (k2 : ∀ f σ1, f ≠ .next → evS r st σ = some (f, σ1) → some (f, σ1) = some q → P) : P := by
  rw [evB] at h
  cases h1 : evS r st σ with
  | none => rw [h1] at h; exact nos h
  | some p =>
    rw [h1] at h
    obtain ⟨f, σ1⟩ := p
    cases f with
    | next => exact k1 σ1 h1 h
    | brk => exact k2 .brk σ1 (fun q => nomatch q) h1 h
    | ret v => exact k2 (.ret v) σ1 (fun q => nomatch q) h1 h
theorem block_at (G : GOk C F fns K mg mb) (SX : SndX C F fns n) (ST : SndT C F fns n) (SB : SndB C F fns n) (SR : SndR C F fns n) (SU : SndU C F fns n) (hA : Fit A n) (Z : EnvOk a nm env) : ∀ {ss : List Stmt} {f : Fl} {θ : Th} {s : Shared} {σ σ' : St}, Inv C bad θ a σ s →
    evB (ev F n) (cB (cS fns k nm) ss) σ = some (f, σ') → At C A bad a θ s (execs ss env) (PostF bad σ' f)
  | [], f, θ, s, σ, σ', I, he => PostF.next he I
  | st :: ss, f, θ, s, σ, σ', I, he => At.eqv (execs_cons ..) (evB_el he
      (fun σ1 h1 he => At.bind (stmt_at G SX ST SB SR SU hA Z I h1) fun θ1 σ1' s1 fl st1 I1 p1 => by
        cases fl <;> first | exact p1.2.elim | exact block_at G SX ST SB SR SU hA Z (p1.1 ▸ I1) he)
      fun f1 σ1 hne h1 he => At.bind (stmt_at G SX ST SB SR SU hA Z I h1) fun θ1 σ1' s1 fl st1 I1 p1 => PostF.cast he (by
        cases f1 with
        | next => exact (hne rfl).elim
        | brk => cases fl <;> first | exact p1.2.elim | exact At.pure I1 p1
        | ret v => cases fl <;> first | exact p1.2.elim | exact At.pure I1 p1))

theorem sndB_succ (G : GOk C F fns K mg mb) (SX : SndX C F fns n) (ST : SndT C F fns n) (SB : SndB C F fns n) (SR : SndR C F fns n) (SU : SndU C F fns n) : SndB C F fns (n + 1) := by
  intro A bad a θ s σ nm env k ss f σ' hA1 Z I he
  exact block_at G SX ST SB SR SU (hA1.mono (Nat.le_succ n)) Z I he

theorem snd_all (G : GOk C F fns K mg mb) : ∀ n, SndX C F fns n ∧ SndT C F fns n ∧ SndB C F fns n ∧ SndR C F fns n ∧ SndU C F fns n
  | 0 => ⟨fun _ _ _ _ _ _ _ _ _ _ _ _ _ _ _ _ _ h => by simp [ev] at h, fun _ _ _ _ _ _ _ _ _ _ _ _ _ _ _ _ _ h => by simp [ev] at h, fun _ _ _ _ _ _ _ _ _ _ _ _ _ _ _ h => by simp [ev] at h,
      fun _ _ _ _ _ _ _ _ _ _ _ _ _ _ _ _ _ h => by simp [ev] at h, fun _ _ _ _ _ _ _ _ _ _ _ _ _ _ _ _ _ _ _ _ _ _ _ h => by simp [ev] at h⟩
  | n + 1 => by
    obtain ⟨SX, ST, SB, SR, SU⟩ := snd_all G n
    have SX1 := sndX_succ G SX ST SB
    exact ⟨SX1, sndT_succ G SX ST, sndB_succ G SX ST SB SR SU, sndR_succ SX SX1, sndU_succ G SX ST⟩
end
end Mine
end
section
namespace Mine
open PySem PySem.W PyProof.Rows PySem.Calls

theorem clean_caller : Clean ⟨.builtin "claim.caller" {}, none, none, [], none⟩ := ⟨by decide +kernel, fun x hx => by cases hx⟩

theorem thread_endsC {prog : Program} {w : World} {t : Sem PySem.Fin} {s : Shared} {R : Result → Shared → Prop} (hreg : s.asleep)
    (h : wpC (model prog w) callerA t (fun fin s' => ∃ f, fin = .done f ∧ (R (.ok f) s' ∧ leftWithCleanup s'.gens = false)) (fun e s' => R (.error e) s' ∧ leftWithCleanup s'.gens = false) s) :
    ∃ n r s' s'', runN (denote table) prog w n s ⟨t, .builtin "claim.caller" {}, default, []⟩ = .halted (outcomeOf r) s' ∧
      schedN (denote table) prog w n (.single s ⟨t, .builtin "claim.caller" {}, default, []⟩) = .halted (outcomeOf r) s' ∧ s'.forget = s''.forget ∧ R r s'' := by
  have h1 : Sem.wp (model prog w) ⟨.builtin "claim.caller" {}, none, none, [], none⟩ t (Sem.finPost (model prog w) ⟨.builtin "claim.caller" {}, none, none, [], none⟩ fun r s' => R r s' ∧ leftWithCleanup s'.gens = false) (fun e _ s' => R (.error e) s' ∧ leftWithCleanup s'.gens = false) default s := by
    refine Sem.wp_mono _ _ t (fun fin p' s' h' => ?_) (fun _ _ _ h' => h') default s (h _ default caller_in clean_caller)
    obtain ⟨f, rfl, hf⟩ := h'
    exact hf
  obtain ⟨n, r, s₁, s₂, hs, hn, hfo, hR⟩ := wp_halts_full (M := model prog w) (R := R) hreg h1
  exact ⟨n, r, s₂, s₁, hn, hs, hfo, hR⟩

/-- what is wanted of the call, over a clean stack -/
noncomputable abbrev WalkC (q : Program) (loose : List Str) (XP : (Str → Option Value) → Heap → Prop) (YP : World → Heap → Prop) (r : RowW) (d : DefRec) (kwd : List (Str × PySem.Expr)) : Prop :=
  ∀ (w : World) (s₀ s₁ : Shared) (mg mb : Str → Option Value), Ground q loose r.records XP w s₀ mg mb s₁.heap → YP w s₁.heap → ∀ (a : Addr) (o : Obj) (pm cd doc dV kV : Value), s₁.heap.get? a = some o →
    o.data = .func { docDef d.name d.params d.body d.scope pm cd doc with defaults := dV, kwdefaults := kV } → s₁.heap.CodeRec cd d.name → Dflts mg s₁.heap d.params kwd dV kV → mg d.name = some (.ref a) → s₁.gens = #[] → 0 < s₁.toks →
    ∀ (args : List WData) (vals : List Value) (as : List Addr), r.claim.pre args = true → WData.layableAll args = true → ReadsAllW r.records (classAt s₀.heap) s₁.heap vals args as → WellAll w.params s₁.heap vals args → (∀ a ∈ as, (a == sysModules) = false) →
      wpC (model r.prog w) callerA (PySem.call (.ref a) vals) (fun v s' => GoodWG r.claim (classAt s₀.heap) (ExcName.means s₀.heap) args s₁ (.ok (.ret v)) s')
        (fun e s' => GoodWG r.claim (classAt s₀.heap) (ExcName.means s₀.heap) args s₁ (.error e) s') s₁

theorem callFromC {c : ClaimW} {tree : List Value → Sem PySem.Fin} {w : World} {s : Shared} {free : Addr → Prop} {gens : Prop} {kept : Heap → Prop} (hz : s.asleep) (hgens : s.gens = #[])
    (hspec : ∀ args, c.pre args = true → WData.layableAll args = true →
      ∀ ord : List DictEntry → List DictEntry, (∀ l, (ord l).Perm l) →
      ∃ vs s₁, layAllW c.records (classAt s.heap) w.params ord args s = some (vs, s₁) ∧
        wpC (model c.prog w) callerA (tree vs) (fun fin s' => ∃ f, fin = .done f ∧ (c.Ends s args vs s₁ (.ok f) s' ∧ s'.os = s.os ∧ AllBare s'.gens ∧ kept s'.heap))
          (fun e s' => c.Ends s args vs s₁ (.error e) s' ∧ s'.os = s.os ∧ AllBare s'.gens ∧ kept s'.heap) s₁) :
    c.CallFrom (fun vs => ⟨tree vs, .builtin "claim.caller" {}, default, []⟩) w free gens kept s := by
  intro args hpre hlay ord hord
  obtain ⟨vs, s₁, hlaid, hcode⟩ := hspec args hpre hlay ord hord
  have hal := layAllW_rest _ _ _ hlaid
  obtain ⟨k, r, s', s'', hrun, hsched, hfo, hcase, hos, hkp⟩ := thread_endsC (prog := c.prog) (w := w) (t := tree vs) (s := s₁)
    (R := fun r s' => c.Ends s args vs s₁ r s' ∧ s'.os = s.os ∧ kept s'.heap)
    (Shared.asleep_of_life hal.2.2.2 hz)
    (wpC_mono hcode (by
      rintro fin s' ⟨f, e, h1, h2, h3, h4⟩
      exact ⟨f, e, ⟨h1, h2, h4⟩, leftWithCleanup_false_of_bare h3⟩) (by
      rintro e s' ⟨h1, h2, h3, h4⟩
      exact ⟨⟨h1, h2, h4⟩, leftWithCleanup_false_of_bare h3⟩))
  obtain ⟨eh, _, _, eo, _⟩ := Shared.forget_eq hfo
  have hcase := hcase.congr eh
  have hkp : kept s'.heap := by first | exact eh ▸ hkp | (rw [eh] at hkp; exact hkp) | (rw [← eh] at hkp; exact hkp)
  rw [← eo] at hos
  have hlife : s'.heap.life = s.heap.life := (runN_life _ _ _ hrun).trans hal.2.2.2
  refine ⟨vs, s₁, hlaid, k, _, s', hsched, ?_, (fun _ i x hx => by rw [hgens] at hx; simp at hx), hkp, by rw [hlife], Shared.rest_eq hos⟩
  rcases hcase with ⟨v, rfl, d1, d2, d3, d4, d5⟩ | ⟨e, ob, cls, rfl, d1, d2, d3, d4, d5⟩
  · exact .inl ⟨v, rfl, d1, d2, d3, fun b o y _ => d4 b o y, d5⟩
  · exact .inr ⟨e, ob, cls, rfl, d1, d2, d3, d4, fun b o y _ => d5 b o y⟩

theorem lawC {r : OpenRow} {q : Program} {loose : List Str} {Xt : Shared → Bool} {XP : (Str → Option Value) → Heap → Prop} {α : Type} {Yf : Shared → α} {Ya : World → α} {YP : World → Heap → Prop} {d : DefRec} {kwd : List (Str × PySem.Expr)} {N : Nat}
    (left : LeftO r.prog q loose Xt Yf Ya N) (hY : ∀ w s, Yf s = Ya w → YP w s.heap) (hTk : ∀ w s, Yf s = Ya w → 0 < s.toks) (hYk : ∀ w h h', YP w h → (∀ b o, h.get? b = some o → h'.get? b = some o) → YP w h')
    (hX : ∀ s, Xt s = true → XP (s.heap.nsMap mainGlobals) s.heap) (hXk : ∀ mg h h', XP mg h → (∀ b o, h.get? b = some o → h'.get? b = some o) → XP mg h')
    (hdef : defOf q r.name = some (d, kwd)) (hp : r.prog.theDef r.name = some (d.params, d.body, d.scope)) (hk : kwWritten? d.params.kwonlyargs d.params.kw_defaults = some kwd) (hRf : ∀ s, Xt s = true → RecFacts r.records s.heap) (hwr : (!r.writes || r.records.isEmpty) = true)
    (k1 : r.wellSaid = true) (ok : (chainsOk q && opensWell r.prog && (frees r.toRowW && r.within.isEmpty)) = true) (hb : r.prog.bare) (hw : r.toRowW.promised)
    (call : WalkC q loose XP YP r.toRowW d kwd) : r.Holds := by
  refine ⟨k1, hw, ?_⟩
  obtain ⟨ok, k5⟩ := Bool.and_eq_true_iff.mp ok
  obtain ⟨hch, o1⟩ := Bool.and_eq_true_iff.mp ok
  obtain ⟨k5, k6⟩ := Bool.and_eq_true_iff.mp k5
  obtain ⟨hsame, hu, ha, hap, hm⟩ := frees_parts k5
  refine ⟨⟨hb, o1, by show r.makers.map _ = []; rw [hm]; rfl⟩, hw.witness, fun w => ⟨(left.behind hX hch w).1, fun s' hs' => ?_⟩⟩
  obtain ⟨s₀, hf, hg0, s, hT, hz, hgens, hg, G00, y⟩ := (left.behind (XP := fun mg h => XP mg h ∧ RecFacts r.records h) (fun s hs => ⟨hX s hs, hRf s hs⟩) hch w).2 s' hs'
  have G0 : Ground q loose [] XP w s (s.heap.nsMap mainGlobals) (s.heap.nsMap builtinsNs) s.heap := ⟨G00.T, G00.B, G00.D, G00.TE, G00.TD, G00.W, G00.X.1, G00.cls, G00.has, G00.apart, G00.once, G00.K⟩
  have RF := G00.X.2
  have hT' := hT
  refine ⟨s₀, hf, hg0, s, hT, ?_, RF.1, RF.2.1, ?_⟩
  · intro n hn
    obtain rfl : n = r.name := by split at hn <;> simp_all
    exact pinned_of_view hg G0 hdef hp hk
  have hgens : s.gens = #[] := Array.eq_empty_of_size_eq_zero (beq_iff_eq.mp hgens)
  have G : Ground q loose r.records XP w s _ _ s.heap := RF.ground G0
  refine callFromC (c := r.toRowW.claim) hz hgens fun args hpre hlay ord hord => ?_
  obtain ⟨⟨vs, s₁⟩, hlaid⟩ := Option.isSome_iff_exists.mp (layAllW_isSome (P := w.params) (ord := ord) G.has args r.args s (pre_splitW hpre).1)
  have keeps := layAllW_keeps _ _ _ hlaid
  have hal := layAllW_rest _ _ _ hlaid
  obtain ⟨as, hrd, hin, hold⟩ := reads_layAllW hord _ _ _ hlaid hlay s₁.heap (fun _ _ e => e)
  have L : Laid r.records w s s₁ args vs as := ⟨⟨ord, hord, hlaid⟩, hrd, hin, hold, keeps, hal.1.trans hgens, hal.2.2.1⟩
  have G₁ := G.keeps hXk keeps
  obtain ⟨a, o, pm, cd, doc, dV, kV, h1, h2, h3, h4, h5⟩ := G₁.fn hdef
  have hcall := call w s s₁ _ _ G₁ (hYk _ _ _ (hY w s y) keeps) a o pm cd doc dV kV h2 h3 h4 h5 (defOf_name hdef ▸ h1) L.gens (Nat.lt_of_lt_of_le (hTk w s y) (layAllW_grows _ _ _ hlaid).toks) args vs as hpre hlay L.reads L.well (L.low G.low)
  have hi := ident_freeW hu ha hap
  have hwi : r.toRowW.claim.within = [] := List.isEmpty_iff.mp k6
  refine ⟨vs, s₁, hlaid, ?_⟩
  refine wpC_bind (wpC_of (wpAny_nsGet G₁.T.g ?_))
  rw [h1]
  refine wpC_bind (wpC_mono hcall (fun v s' g => wpC_pure ⟨_, rfl, ?_⟩) fun e s' g => ?_)
  · have z := g.laid (c := r.toRowW.claim) hsame hwi hi L
    exact ⟨z.1, z.2.1, z.2.2, fun q => ⟨namesKept_of hT' hg _ keeps g.2.1.old, noTable hwr q⟩⟩
  · have z := g.laid (c := r.toRowW.claim) hsame hwi hi L
    exact ⟨z.1, z.2.1, z.2.2, fun q => ⟨namesKept_of hT' hg _ keeps g.2.1.old, noTable hwr q⟩⟩
end Mine
end
section
namespace Mine
noncomputable def f_is_HDN : Fn := { init := [some 0, none], nargs := 1, dflt := [], body := [.iff (.meth .search (.const .none) [.slot 0]) [.ret (some (.const (.bool false)))] [], .iff (.cmp .eq (.slot 0) (.const (.str []))) [.ret (some (.const (.bool false)))] [], .iff (.orr [.cmp .eq (.idx (.slot 0) (.const (.int 0))) (.const (.str [46])), .cmp .eq (.idx (.slot 0) (.neg (.const (.int 1)))) (.const (.str [46]))]) [.ret (some (.const (.bool false)))] [], .ret (some (.const (.bool true)))], byRef := false, kwo := 0 }
noncomputable def f_reach : Fn := { init := [some 0, none, none, none], nargs := 1, dflt := [], body := [.assign 1 (.meth .find (.slot 0) [.const (.str [46])]), .iff (.cmp .ge (.slot 1) (.const (.int 0))) [.assign 2 (.slice (.slot 0) (some (.bin .add (.slot 1) (.const (.int 1)))) none), .assign 1 (.meth .find (.slot 2) [.const (.str [46])]), .iff (.andd [.call 0 [.slot 0], .orr [.cmp .ge (.slot 1) (.const (.int 0)), .cmp .eq (.slot 2) (.const (.str [108, 111, 99, 97, 108]))]]) [.ret (some (.bin .add (.const (.str [46])) (.slot 2)))] []] [], .ret (some (.slot 0))], byRef := false, kwo := 0 }
noncomputable def f_insort_left : Fn := { init := [some 0, some 1, some 2, some 3, some 4, none], nargs := 5, dflt := [.int 0, .none, .none], body := [.iff (.cmp .is_ (.slot 4) (.const .none)) [.assign 2 (.call 3 [.slot 0, .slot 1, .slot 2, .slot 3])] [.fail], .expr (.meth .insert (.slot 0) [.slot 2, .slot 1])], byRef := true, kwo := 1 }
noncomputable def f_bisect_left : Fn := { init := [some 0, some 1, some 2, some 3, some 4, none, none, none], nargs := 5, dflt := [.int 0, .none, .none], body := [.iff (.cmp .lt (.slot 2) (.const (.int 0))) [.fail] [], .iff (.cmp .is_ (.slot 3) (.const .none)) [.assign 3 (.prim .len [.slot 0])] [], .iff (.cmp .is_ (.slot 4) (.const .none)) [.whil (.cmp .lt (.slot 2) (.slot 3)) [.assign 5 (.bin .fdiv (.bin .add (.slot 2) (.slot 3)) (.const (.int 2))), .iff (.cmp .lt (.idx (.slot 0) (.slot 5)) (.slot 1)) [.assign 2 (.bin .add (.slot 5) (.const (.int 1)))] [.assign 3 (.slot 5)]]] [.whil (.cmp .lt (.slot 2) (.slot 3)) [.assign 5 (.bin .fdiv (.bin .add (.slot 2) (.slot 3)) (.const (.int 2))), .fail]], .ret (some (.slot 2))], byRef := false, kwo := 1 }
noncomputable def f_ge : Fn := { init := [some 0, some 1], nargs := 2, dflt := [], body := [.ret (some (.cmp .ge (.slot 0) (.slot 1)))], byRef := false, kwo := 0 }
noncomputable def f_add : Fn := { init := [some 0, some 1], nargs := 2, dflt := [], body := [.ret (some (.bin .add (.slot 0) (.slot 1)))], byRef := false, kwo := 0 }
noncomputable def f_sub : Fn := { init := [some 0, some 1], nargs := 2, dflt := [], body := [.ret (some (.bin .sub (.slot 0) (.slot 1)))], byRef := false, kwo := 0 }
noncomputable def f_contains : Fn := { init := [some 0, some 1], nargs := 2, dflt := [], body := [.ret (some (.cmp .isin (.slot 1) (.slot 0)))], byRef := false, kwo := 0 }
noncomputable def f_countOf : Fn := { init := [some 0, some 1, none, none], nargs := 2, dflt := [], body := [.assign 2 (.const (.int 0)), .forr (.one 3) (.slot 0) [.iff (.orr [.cmp .is_ (.slot 3) (.slot 1), .cmp .eq (.slot 3) (.slot 1)]) [.augname 2 .add (.const (.int 1))] []] [], .ret (some (.slot 2))], byRef := false, kwo := 0 }
noncomputable def f_indexOf : Fn := { init := [some 0, some 1, none, none, none, none], nargs := 2, dflt := [], body := [.forr (.many [2, 3]) (.enum (.slot 0)) [.iff (.orr [.cmp .is_ (.slot 3) (.slot 1), .cmp .eq (.slot 3) (.slot 1)]) [.ret (some (.slot 2))] []] [.fail]], byRef := false, kwo := 0 }
noncomputable def f_byteswap : Fn := { init := [some 0, some 1, none, none, none, none, none, none, none], nargs := 2, dflt := [], body := [.assign 2 (.prim .bytearray [.prim .len [.slot 0]]), .forr (.one 3) (.range [.const (.int 0), .prim .len [.slot 0], .slot 1]) [.forr (.one 4) (.range [.slot 1]) [.setidx (.slot 2) (.bin .sub (.bin .sub (.bin .add (.slot 3) (.slot 1)) (.const (.int 1))) (.slot 4)) (.idx (.slot 0) (.bin .add (.slot 3) (.slot 4)))] []] [], .ret (some (.prim .bytes [.slot 2]))], byRef := false, kwo := 0 }
noncomputable def f_size : Fn := { init := [some 0], nargs := 1, dflt := [], body := [.ret (some (.bin .add (.bin .add (.bin .add (.bin .mod (.slot 0) (.const (.int 2))) (.bin .mod (.bin .fdiv (.slot 0) (.const (.int 2))) (.const (.int 2)))) (.bin .mod (.bin .fdiv (.slot 0) (.const (.int 4))) (.const (.int 2)))) (.bin .mod (.bin .fdiv (.slot 0) (.const (.int 8))) (.const (.int 2)))))], byRef := false, kwo := 0 }
noncomputable def f_books : Fn := { init := [some 0, none, none, none, none, none, none, none, none, none], nargs := 1, dflt := [], body := [.assign 1 (.list true [.const (.int 115), .const (.int 195), .const (.int 6)]), .forr (.many [2, 3]) (.enum (.slice (.slot 0) none (some (.const (.int 24))))) [.augidx (.slot 1) (.bin .mod (.slot 2) (.const (.int 3))) .add (.bin .mod (.slot 3) (.const (.int 1000000)))] [], .assign 4 (.list true []), .forr (.one 5) (.slot 1) [.assign 6 (.list true []), .forr (.one 7) (.list false [.bin .mod (.slot 5) (.const (.int 16)), .bin .mod (.bin .fdiv (.slot 5) (.const (.int 16))) (.const (.int 16)), .bin .mod (.bin .fdiv (.slot 5) (.const (.int 256))) (.const (.int 16))]) [.iff (.cmp .isin (.call 11 [.slot 7]) (.tup [.const (.int 2), .const (.int 3)])) [.iff (.cmp .eq (.comp [none, none, some 7] (.one 1) (.slot 1) (.slot 6) [.orr [.cmp .eq (.slot 1) (.slot 2), .cmp .notin (.bin .band (.slot 2) (.slot 1)) (.tup [.const (.int 0), .slot 2, .slot 1])]]) (.list false [])) [.expr (.meth .append (.slot 6) [.slot 7])] []] []] [], .expr (.meth .append (.slot 4) [.slot 6])] [], .ret (some (.slot 4))], byRef := false, kwo := 0 }
noncomputable def f_hosts : Fn := { init := [some 0, some 1, some 2, none, none, none, none, none, none, none, none], nargs := 3, dflt := [], body := [.assign 3 (.list true []), .forr (.one 4) (.range [.const (.int 4)]) [.assign 5 (.idx (.const (.str [97, 98, 99, 100])) (.slot 4)), .forr (.one 6) (.tup [.const (.int 2), .const (.int 3)]) [.forr (.one 7) (.range [.prim .len [.slot 0]]) [.iff (.andd [.cmp .eq (.bin .mod (.bin .fdiv (.idx (.slot 0) (.slot 7)) (.bin .pow (.const (.int 2)) (.slot 4))) (.const (.int 2))) (.const (.int 1)), .cmp .eq (.call 11 [.idx (.slot 0) (.slot 7)]) (.slot 6)]) [.assign 5 (.bin .add (.bin .add (.slot 5) (.const (.str [46]))) (.idx (.slot 1) (.slot 7)))] []] []] [], .expr (.meth .append (.slot 3) [.bin .add (.slot 5) (.slot 2)])] [], .ret (some (.slot 3))], byRef := false, kwo := 0 }
noncomputable def f_climb : Fn := { init := [some 0, none, none, none, none, none, none, none, none, none, none], nargs := 1, dflt := [], body := [.assign 1 (.list true []), .assign 2 (.list true []), .forr (.one 3) (.slot 0) [.assign 4 (.list true []), .assign 5 (.slot 3), .forr (.one 6) (.range [.const (.int 3)]) [.assign 7 (.call 1 [.slot 5]), .iff (.cmp .eq (.slot 7) (.slot 5)) [.brk] [], .iff (.orr [.nott (.call 7 [.slot 2, .slot 7]), .call 7 [.slot 4, .slot 7]]) [.expr (.meth .append (.slot 2) [.slot 7])] [], .expr (.meth .append (.slot 4) [.slot 7]), .assign 5 (.slice (.slot 7) (some (.const (.int 1))) none)] [], .expr (.meth .append (.slot 1) [.slot 4])] [], .ret (some (.comp [none, none, some 1] (.one 1) (.tup [.slot 1, .comp [none, none, none, some 1] (.one 1) (.call 7 [.slot 1, .slot 3]) (.slot 2) []]) (.slot 2) []))], byRef := false, kwo := 0 }
noncomputable def f_set : Fn := { init := [some 0, none, none], nargs := 1, dflt := [], body := [.ret (some (.prim .sum [.comp [none, none, some 0] (.one 1) (.bin .pow (.const (.int 2)) (.slot 1)) (.range [.const (.int 4)]) [.idx (.slot 2) (.slot 1)]]))], byRef := false, kwo := 0 }
noncomputable def f_turned : Fn := { init := [some 0, none, none, none, none], nargs := 1, dflt := [], body := [.assign 1 (.prim .bytes [.comp [none, none, none] (.one 1) (.prim .ord [.slot 1]) (.slot 0) []]), .ret (some (.call 10 [.slot 1, .prim .len [.slot 1]]))], byRef := false, kwo := 0 }
noncomputable def f_nearest : Fn := { init := [some 0, none, none, none, none, none, none, none, none, none, none, none], nargs := 1, dflt := [], body := [.assign 1 (.list true [.const (.int 3), .const (.int 5), .const (.int 6), .const (.int 7), .const (.int 9), .const (.int 10), .const (.int 11), .const (.int 12), .const (.int 13), .const (.int 14)]), .assign 2 (.addl true (.list false [.list false []]) (.comp [none, none] (.one 1) (.list false [.slot 1]) (.slot 1) [])), .forr (.one 3) (.range [.const (.int 10)]) [.forr (.one 4) (.slice (.slot 1) (some (.bin .add (.slot 3) (.const (.int 1)))) none) [.iff (.cmp .isin (.bin .band (.idx (.slot 1) (.slot 3)) (.slot 4)) (.tup [.const (.int 0), .idx (.slot 1) (.slot 3), .slot 4])) [.expr (.meth .append (.slot 2) [.list false [.idx (.slot 1) (.slot 3), .slot 4]])] []] []] [], .assign 5 (.const (.int 99)), .assign 6 (.list true []), .forr (.one 7) (.slot 2) [.assign 8 (.const (.int 0)), .forr (.one 9) (.slot 0) [.augname 8 .add (.bin .sub (.bin .add (.prim .len [.slot 7]) (.prim .len [.slot 9])) (.bin .mul (.const (.int 2)) (.prim .len [.comp [none, none, some 9] (.one 1) (.slot 1) (.slot 7) [.cmp .isin (.slot 1) (.slot 2)]])))] [], .iff (.cmp .lt (.slot 8) (.slot 5)) [.assign 5 (.slot 8), .assign 6 (.list true [.slot 7])] [.iff (.cmp .eq (.slot 8) (.slot 5)) [.expr (.meth .append (.slot 6) [.slot 7])] []]] [], .ret (some (.slot 6))], byRef := false, kwo := 0 }
noncomputable def f_law : Fn := { init := [some 0, none, none, none, none, none, none, none, none, none, none, none, none, none, none, none, none, none, none, none, none, none, none, none, none, none, none, none, none, none, none, none, none, none, none, none, none, none, none, none, none, none], nargs := 1, dflt := [], body := [.assign 1 (.call 12 [.slot 0]), .assign 2 (.list true []), .forr (.one 3) (.range [.const (.int 3)]) [.assign 4 (.call 13 [.idx (.slot 1) (.slot 3), .idx (.list false [.const (.str [107, 122]), .const (.str [55, 107]), .const (.str [97, 98])]) (.slot 3), .const (.str [46, 108, 111, 99, 97, 108])]), .assign 5 (.call 14 [.slot 4]), .iff (.cmp .ne (.prim .sorted [.comp [none, none, none] (.one 1) (.call 15 [.idx (.slot 1) (.const (.int 1))]) (.slot 5) []]) (.prim .sorted [.addl false (.idx (.slot 1) (.slot 3)) (.list false [.const (.int 15)])])) [.ret (some (.const (.bool false)))] [], .assign 6 (.comp [none, none, none] (.one 1) (.call 16 [.slot 1]) (.slot 4) []), .assign 7 (.list true []), .forr (.one 8) (.slot 6) [.expr (.call 2 [.slot 7, .slot 8])] [], .assign 9 (.list true []), .forr (.many [10, 11]) (.slot 5) [.assign 12 (.call 16 [.slot 10]), .assign 13 (.call 3 [.slot 7, .slot 12]), .assign 14 (.call 3 [.slot 7, .call 5 [.slot 12, .const (.bytes false [126])]]), .iff (.cmp .ne (.comp [none, none, none, some 14, some 7, some 13] (.one 1) (.call 7 [.slice (.slot 4) (some (.slot 5)) (some (.slot 3)), .slot 1]) (.slot 6) []) (.slot 11)) [.ret (some (.const (.bool false)))] [], .expr (.meth .append (.slot 9) [.tup [.slot 13, .slot 14]])] [], .expr (.meth .append (.slot 2) [.tup [.slot 5, .slot 9, .comp [none, none, none, some 7] (.one 1) (.call 9 [.slot 3, .slot 1]) (.slot 6) []]])] [], .assign 15 (.list true []), .forr (.many [5, 9, 16]) (.slot 2) [.forr (.many [10, 11]) (.slot 5) [.assign 17 (.list true []), .forr (.one 18) (.slot 2) [.assign 19 (.comp [none, none, some 11, some 18] (.one 1) (.idx (.idx (.slot 3) (.const (.int 2))) (.slot 1)) (.range [.const (.int 4)]) [.idx (.slot 2) (.slot 1)]), .assign 13 (.prim .min [.slot 19]), .assign 14 (.bin .add (.prim .max [.slot 19]) (.const (.int 1))), .expr (.meth .append (.slot 17) [.andd [.cmp .eq (.call 6 [.slot 14, .slot 13]) (.prim .len [.slot 19]), .call 7 [.idx (.slot 18) (.const (.int 1)), .tup [.slot 13, .slot 14]]]])] [], .assign 20 (.call 15 [.slot 11]), .iff (.cmp .ne (.slot 17) (.comp [none, none, some 20] (.one 1) (.cmp .isin (.slot 2) (.addl false (.slot 1) (.list false [.const (.int 15)]))) (.slot 1) [])) [.ret (some (.const (.bool false)))] [], .iff (.andd [.cmp .ne (.slot 20) (.const (.int 15)), .call 4 [.call 8 [.slot 17, .const (.bool true)], .const (.int 2)], .nott (.call 7 [.slot 15, .slot 20])]) [.expr (.meth .append (.slot 15) [.slot 20])] []] []] [], .assign 21 (.call 13 [.prim .sorted [.slot 15], .const (.str [112, 113]), .const (.str [46, 111, 114, 103])]), .assign 22 (.comp [none, none, none] (.one 1) (.call 5 [.slot 1, .const (.str [46])]) (.slot 21) []), .iff (.cmp .ne (.comp [none, none, none] (.one 1) (.call 1 [.slot 1]) (.slot 22) []) (.slot 22)) [.ret (some (.const (.bool false)))] [], .assign 23 (.comp [none, none, none] (.one 1) (.call 15 [.idx (.slot 1) (.const (.int 1))]) (.call 14 [.slot 21]) []), .ret (some (.cmp .eq (.list false [.prim .sorted [.slot 23]]) (.call 17 [.slot 1])))], byRef := false, kwo := 0 }
noncomputable def F : List Fn := [f_is_HDN, f_reach, f_insort_left, f_bisect_left, f_ge, f_add, f_sub, f_contains, f_countOf, f_indexOf, f_byteswap, f_size, f_books, f_hosts, f_climb, f_set, f_turned, f_nearest, f_law]
end Mine
end
section
namespace Mine
open PySem PySem.W PyProof.Rows PySem.Calls

noncomputable abbrev P0 : Program := PySem.Challenge.pw_zo0014_01
noncomputable def keepIdx : List Nat := [0, 2, 3, 4, 9, 10, 11, 12, 13, 14, 16, 18, 19, 20, 21, 22, 23, 24, 25]
noncomputable def q0 : Program := PySem.W.view P0 keepIdx
noncomputable def names : List Str := ["is_HDN", "reach", "insort_left", "bisect_left", "ge", "add", "sub", "contains", "countOf", "indexOf", "_byteswap", "_law_size", "_law_books", "_law_hosts", "_law_climb", "_law_set", "_law_turned", "_law_nearest", "law"]
noncomputable def dr (i : Nat) : DefRec := match P0.main.body[i]? with
  | some (.FunctionDef n a b _ _ _ sc _ _ pos) => ⟨n, a, b, sc, pos⟩
  | _ => ⟨"", { posonlyargs := [], args := [], vararg := none, kwonlyargs := [], kw_defaults := [], kwarg := none, defaults := [] }, [], { kind := .function, names := [], isGenerator := false, isCoroutine := false }, default⟩
noncomputable def prm (i : Nat) : List Str := (dr i).params.args.map (·.arg) ++ (dr i).params.kwonlyargs.map (·.arg)

section
variable {C : Cfg} {loose : List Str} {mean : ExcName → Option Value} {mg mb : Str → Option Value}

noncomputable def fineB (d : DefRec) (ps : List Str) : Bool := decide ps.Nodup && (ps.all fun p => decide (d.scope.names.lookup p = some .local) || decide (d.scope.names.lookup p = some .cell)) &&
  decide (d.scope.names.map (·.1)).Nodup && (d.scope.names.all fun p => decide (p.2 ≠ .free)) && (d.scope.names.all fun p => !(p.1 == ("__debug__" : Str)) && !(p.1 == ("__classdict__" : Str)))

theorem fnOk_of {i : Nat} {nm : Str} {fn : Fn} {ps : List Str} {d : DefRec} {a : Addr} {o : Obj} {pm code doc dV kV : Value}
    (h1 : mg nm = some (.ref a)) (h2 : C.h₀.get? a = some o) (h3 : o.data = .func { docDef d.name d.params d.body d.scope pm code doc with defaults := dV, kwdefaults := kV }) (h4 : C.h₀.CodeRec code d.name)
    (hF : F[i]? = some fn) (co : d.scope.isCoroutine = false) (gen : d.scope.isGenerator = false) (kind : d.scope.kind = .function)
    (hB : fn.body = cB (cS names 60 d.scope.names) d.body) (hI : fn.init = initOf ps d.scope.names) (hn : ps.length = fn.nargs) (fine : fineB d ps = true) (hd : fn.dflt.length ≤ fn.nargs)
    (hbind : ∀ (vals : List Value) (s : Shared), (∀ b o, C.h₀.get? b = some o → s.heap.get? b = some o) → vals.length + fn.kwo ≤ fn.nargs → fn.nargs ≤ vals.length + fn.dflt.length →
      ∃ ds : List Value, (∀ bad θ h, VRs bad θ h (fn.dflt.drop (vals.length + fn.dflt.length - fn.nargs)) ds) ∧ BindsTo s { docDef d.name d.params d.body d.scope pm code doc with defaults := dV, kwdefaults := kV } ⟨vals, []⟩ (ps.zip (vals ++ ds))) :
    ∃ fn a o fd body params, FnOk C F names 60 mg i nm fn a o fd body params := by
  simp only [fineB, Bool.and_eq_true, decide_eq_true_eq] at fine
  obtain ⟨⟨⟨⟨f1, f2⟩, f3⟩, f4⟩, f5⟩ := fine
  refine ⟨fn, a, o, _, d.body, ps, ⟨hF, h1, h2, h3, co, gen, kind, rfl, h4, rfl, rfl, rfl, hB, hI, hn, f1, fun p hp => ?_, f3, fun p hp => ?_, ?_, hd, hbind⟩⟩
  · have := List.all_eq_true.mp f2 p hp
    exact (Bool.or_eq_true_iff.mp this).imp of_decide_eq_true of_decide_eq_true
  · exact of_decide_eq_true (List.all_eq_true.mp f4 p hp)
  · exact f5

theorem bind_1 {fd : FuncData} {fn : Fn} {ps : List Str} {x : Str} (hn : fn.nargs = 1) (hk : fn.kwo = 0) (hd : fn.dflt = []) (hp : ps = [x]) (e : ∀ v, bindArgs fd ⟨[v], []⟩ = pure [(x, v)]) :
    ∀ (vals : List Value) (s : Shared), (∀ b o, C.h₀.get? b = some o → s.heap.get? b = some o) → vals.length + fn.kwo ≤ fn.nargs → fn.nargs ≤ vals.length + fn.dflt.length →
      ∃ ds : List Value, (∀ bad θ h, VRs bad θ h (fn.dflt.drop (vals.length + fn.dflt.length - fn.nargs)) ds) ∧ BindsTo s fd ⟨vals, []⟩ (ps.zip (vals ++ ds)) := by
  intro vals s _ l1 l2
  rw [hk, hn] at l1
  rw [hn, hd] at l2
  subst hp
  match vals, l1, l2 with
  | [v], _, _ => exact ⟨[], fun _ _ _ => by rw [hd]; simpa using VRs.nil, BindsTo.of_eq (e v)⟩
  | [], _, l2 => simp at l2
  | _ :: _ :: _, l1, _ => simp at l1

theorem bind_2 {fd : FuncData} {fn : Fn} {ps : List Str} {x y : Str} (hn : fn.nargs = 2) (hk : fn.kwo = 0) (hd : fn.dflt = []) (hp : ps = [x, y]) (e : ∀ v u, bindArgs fd ⟨[v, u], []⟩ = pure [(x, v), (y, u)]) :
    ∀ (vals : List Value) (s : Shared), (∀ b o, C.h₀.get? b = some o → s.heap.get? b = some o) → vals.length + fn.kwo ≤ fn.nargs → fn.nargs ≤ vals.length + fn.dflt.length →
      ∃ ds : List Value, (∀ bad θ h, VRs bad θ h (fn.dflt.drop (vals.length + fn.dflt.length - fn.nargs)) ds) ∧ BindsTo s fd ⟨vals, []⟩ (ps.zip (vals ++ ds)) := by
  intro vals s _ l1 l2
  rw [hk, hn] at l1
  rw [hn, hd] at l2
  subst hp
  match vals, l1, l2 with
  | [v, u], _, _ => exact ⟨[], fun _ _ _ => by rw [hd]; simpa using VRs.nil, BindsTo.of_eq (e v u)⟩
  | [], _, l2 => simp at l2
  | [_], _, l2 => simp at l2
  | _ :: _ :: _ :: _, l1, _ => simp at l1

theorem bind_3 {fd : FuncData} {fn : Fn} {ps : List Str} {x y z : Str} (hn : fn.nargs = 3) (hk : fn.kwo = 0) (hd : fn.dflt = []) (hp : ps = [x, y, z]) (e : ∀ v u t, bindArgs fd ⟨[v, u, t], []⟩ = pure [(x, v), (y, u), (z, t)]) :
    ∀ (vals : List Value) (s : Shared), (∀ b o, C.h₀.get? b = some o → s.heap.get? b = some o) → vals.length + fn.kwo ≤ fn.nargs → fn.nargs ≤ vals.length + fn.dflt.length →
      ∃ ds : List Value, (∀ bad θ h, VRs bad θ h (fn.dflt.drop (vals.length + fn.dflt.length - fn.nargs)) ds) ∧ BindsTo s fd ⟨vals, []⟩ (ps.zip (vals ++ ds)) := by
  intro vals s _ l1 l2
  rw [hk, hn] at l1
  rw [hn, hd] at l2
  subst hp
  match vals, l1, l2 with
  | [v, u, t], _, _ => exact ⟨[], fun _ _ _ => by rw [hd]; simpa using VRs.nil, BindsTo.of_eq (e v u t)⟩
  | [], _, l2 => simp at l2
  | [_], _, l2 => simp at l2
  | [_, _], _, l2 => simp at l2
  | _ :: _ :: _ :: _ :: _, l1, _ => simp at l1

theorem fn_is_HDN (T : Top q0 loose mean mg mb C.h₀) : ∃ fn a o fd body params, FnOk C F names 60 mg 0 "is_HDN" fn a o fd body params := by
  obtain ⟨a, o, pm, code, doc, h1, h2, h3, h4⟩ := T.fn (dr 3) (List.mem_of_getElem? (i := 0) (by kernel_rfl))
  exact fnOk_of (d := dr 3) (ps := ["text"]) (nm := "is_HDN") (fn := f_is_HDN) (by exact h1) h2 h3 h4 (by kernel_rfl) (by kernel_rfl) (by kernel_rfl) (by kernel_rfl) (by kernel_rfl) (by kernel_rfl) (by kernel_rfl) (by decide +kernel) (by decide) (bind_1 (by rfl) (by rfl) (by rfl) (by rfl) (fun _ => by kernel_rfl))
theorem fn_reach (T : Top q0 loose mean mg mb C.h₀) : ∃ fn a o fd body params, FnOk C F names 60 mg 1 "reach" fn a o fd body params := by
  obtain ⟨a, o, pm, code, doc, h1, h2, h3, h4⟩ := T.fn (dr 4) (List.mem_of_getElem? (i := 1) (by kernel_rfl))
  exact fnOk_of (d := dr 4) (ps := ["h"]) (nm := "reach") (fn := f_reach) (by exact h1) h2 h3 h4 (by kernel_rfl) (by kernel_rfl) (by kernel_rfl) (by kernel_rfl) (by kernel_rfl) (by kernel_rfl) (by kernel_rfl) (by decide +kernel) (by decide) (bind_1 (by rfl) (by rfl) (by rfl) (by rfl) (fun _ => by kernel_rfl))
theorem fn_ge (T : Top q0 loose mean mg mb C.h₀) : ∃ fn a o fd body params, FnOk C F names 60 mg 4 "ge" fn a o fd body params := by
  obtain ⟨a, o, pm, code, doc, h1, h2, h3, h4⟩ := T.fn (dr 9) (List.mem_of_getElem? (i := 2) (by kernel_rfl))
  exact fnOk_of (d := dr 9) (ps := ["a", "b"]) (nm := "ge") (fn := f_ge) (by exact h1) h2 h3 h4 (by kernel_rfl) (by kernel_rfl) (by kernel_rfl) (by kernel_rfl) (by kernel_rfl) (by kernel_rfl) (by kernel_rfl) (by decide +kernel) (by decide) (bind_2 (by rfl) (by rfl) (by rfl) (by rfl) (fun _ _ => by kernel_rfl))
theorem fn_add (T : Top q0 loose mean mg mb C.h₀) : ∃ fn a o fd body params, FnOk C F names 60 mg 5 "add" fn a o fd body params := by
  obtain ⟨a, o, pm, code, doc, h1, h2, h3, h4⟩ := T.fn (dr 10) (List.mem_of_getElem? (i := 3) (by kernel_rfl))
  exact fnOk_of (d := dr 10) (ps := ["a", "b"]) (nm := "add") (fn := f_add) (by exact h1) h2 h3 h4 (by kernel_rfl) (by kernel_rfl) (by kernel_rfl) (by kernel_rfl) (by kernel_rfl) (by kernel_rfl) (by kernel_rfl) (by decide +kernel) (by decide) (bind_2 (by rfl) (by rfl) (by rfl) (by rfl) (fun _ _ => by kernel_rfl))
theorem fn_sub (T : Top q0 loose mean mg mb C.h₀) : ∃ fn a o fd body params, FnOk C F names 60 mg 6 "sub" fn a o fd body params := by
  obtain ⟨a, o, pm, code, doc, h1, h2, h3, h4⟩ := T.fn (dr 11) (List.mem_of_getElem? (i := 4) (by kernel_rfl))
  exact fnOk_of (d := dr 11) (ps := ["a", "b"]) (nm := "sub") (fn := f_sub) (by exact h1) h2 h3 h4 (by kernel_rfl) (by kernel_rfl) (by kernel_rfl) (by kernel_rfl) (by kernel_rfl) (by kernel_rfl) (by kernel_rfl) (by decide +kernel) (by decide) (bind_2 (by rfl) (by rfl) (by rfl) (by rfl) (fun _ _ => by kernel_rfl))
theorem fn_contains (T : Top q0 loose mean mg mb C.h₀) : ∃ fn a o fd body params, FnOk C F names 60 mg 7 "contains" fn a o fd body params := by
  obtain ⟨a, o, pm, code, doc, h1, h2, h3, h4⟩ := T.fn (dr 12) (List.mem_of_getElem? (i := 5) (by kernel_rfl))
  exact fnOk_of (d := dr 12) (ps := ["a", "b"]) (nm := "contains") (fn := f_contains) (by exact h1) h2 h3 h4 (by kernel_rfl) (by kernel_rfl) (by kernel_rfl) (by kernel_rfl) (by kernel_rfl) (by kernel_rfl) (by kernel_rfl) (by decide +kernel) (by decide) (bind_2 (by rfl) (by rfl) (by rfl) (by rfl) (fun _ _ => by kernel_rfl))
theorem fn_countOf (T : Top q0 loose mean mg mb C.h₀) : ∃ fn a o fd body params, FnOk C F names 60 mg 8 "countOf" fn a o fd body params := by
  obtain ⟨a, o, pm, code, doc, h1, h2, h3, h4⟩ := T.fn (dr 13) (List.mem_of_getElem? (i := 6) (by kernel_rfl))
  exact fnOk_of (d := dr 13) (ps := ["a", "b"]) (nm := "countOf") (fn := f_countOf) (by exact h1) h2 h3 h4 (by kernel_rfl) (by kernel_rfl) (by kernel_rfl) (by kernel_rfl) (by kernel_rfl) (by kernel_rfl) (by kernel_rfl) (by decide +kernel) (by decide) (bind_2 (by rfl) (by rfl) (by rfl) (by rfl) (fun _ _ => by kernel_rfl))
theorem fn_indexOf (T : Top q0 loose mean mg mb C.h₀) : ∃ fn a o fd body params, FnOk C F names 60 mg 9 "indexOf" fn a o fd body params := by
  obtain ⟨a, o, pm, code, doc, h1, h2, h3, h4⟩ := T.fn (dr 14) (List.mem_of_getElem? (i := 7) (by kernel_rfl))
  exact fnOk_of (d := dr 14) (ps := ["a", "b"]) (nm := "indexOf") (fn := f_indexOf) (by exact h1) h2 h3 h4 (by kernel_rfl) (by kernel_rfl) (by kernel_rfl) (by kernel_rfl) (by kernel_rfl) (by kernel_rfl) (by kernel_rfl) (by decide +kernel) (by decide) (bind_2 (by rfl) (by rfl) (by rfl) (by rfl) (fun _ _ => by kernel_rfl))
theorem fn_byteswap (T : Top q0 loose mean mg mb C.h₀) : ∃ fn a o fd body params, FnOk C F names 60 mg 10 "_byteswap" fn a o fd body params := by
  obtain ⟨a, o, pm, code, doc, h1, h2, h3, h4⟩ := T.fn (dr 16) (List.mem_of_getElem? (i := 8) (by kernel_rfl))
  exact fnOk_of (d := dr 16) (ps := ["data", "width"]) (nm := "_byteswap") (fn := f_byteswap) (by exact h1) h2 h3 h4 (by kernel_rfl) (by kernel_rfl) (by kernel_rfl) (by kernel_rfl) (by kernel_rfl) (by kernel_rfl) (by kernel_rfl) (by decide +kernel) (by decide) (bind_2 (by rfl) (by rfl) (by rfl) (by rfl) (fun _ _ => by kernel_rfl))
theorem fn_size (T : Top q0 loose mean mg mb C.h₀) : ∃ fn a o fd body params, FnOk C F names 60 mg 11 "_law_size" fn a o fd body params := by
  obtain ⟨a, o, pm, code, doc, h1, h2, h3, h4⟩ := T.fn (dr 18) (List.mem_of_getElem? (i := 9) (by kernel_rfl))
  exact fnOk_of (d := dr 18) (ps := ["some"]) (nm := "_law_size") (fn := f_size) (by exact h1) h2 h3 h4 (by kernel_rfl) (by kernel_rfl) (by kernel_rfl) (by kernel_rfl) (by kernel_rfl) (by kernel_rfl) (by kernel_rfl) (by decide +kernel) (by decide) (bind_1 (by rfl) (by rfl) (by rfl) (by rfl) (fun _ => by kernel_rfl))
theorem fn_books (T : Top q0 loose mean mg mb C.h₀) : ∃ fn a o fd body params, FnOk C F names 60 mg 12 "_law_books" fn a o fd body params := by
  obtain ⟨a, o, pm, code, doc, h1, h2, h3, h4⟩ := T.fn (dr 19) (List.mem_of_getElem? (i := 10) (by kernel_rfl))
  exact fnOk_of (d := dr 19) (ps := ["script"]) (nm := "_law_books") (fn := f_books) (by exact h1) h2 h3 h4 (by kernel_rfl) (by kernel_rfl) (by kernel_rfl) (by kernel_rfl) (by kernel_rfl) (by kernel_rfl) (by kernel_rfl) (by decide +kernel) (by decide) (bind_1 (by rfl) (by rfl) (by rfl) (by rfl) (fun _ => by kernel_rfl))
theorem fn_hosts (T : Top q0 loose mean mg mb C.h₀) : ∃ fn a o fd body params, FnOk C F names 60 mg 13 "_law_hosts" fn a o fd body params := by
  obtain ⟨a, o, pm, code, doc, h1, h2, h3, h4⟩ := T.fn (dr 20) (List.mem_of_getElem? (i := 11) (by kernel_rfl))
  exact fnOk_of (d := dr 20) (ps := ["book", "labels", "top"]) (nm := "_law_hosts") (fn := f_hosts) (by exact h1) h2 h3 h4 (by kernel_rfl) (by kernel_rfl) (by kernel_rfl) (by kernel_rfl) (by kernel_rfl) (by kernel_rfl) (by kernel_rfl) (by decide +kernel) (by decide) (bind_3 (by rfl) (by rfl) (by rfl) (by rfl) (fun _ _ _ => by kernel_rfl))
theorem fn_climb (T : Top q0 loose mean mg mb C.h₀) : ∃ fn a o fd body params, FnOk C F names 60 mg 14 "_law_climb" fn a o fd body params := by
  obtain ⟨a, o, pm, code, doc, h1, h2, h3, h4⟩ := T.fn (dr 21) (List.mem_of_getElem? (i := 12) (by kernel_rfl))
  exact fnOk_of (d := dr 21) (ps := ["hosts"]) (nm := "_law_climb") (fn := f_climb) (by exact h1) h2 h3 h4 (by kernel_rfl) (by kernel_rfl) (by kernel_rfl) (by kernel_rfl) (by kernel_rfl) (by kernel_rfl) (by kernel_rfl) (by decide +kernel) (by decide) (bind_1 (by rfl) (by rfl) (by rfl) (by rfl) (fun _ => by kernel_rfl))
theorem fn_set (T : Top q0 loose mean mg mb C.h₀) : ∃ fn a o fd body params, FnOk C F names 60 mg 15 "_law_set" fn a o fd body params := by
  obtain ⟨a, o, pm, code, doc, h1, h2, h3, h4⟩ := T.fn (dr 22) (List.mem_of_getElem? (i := 13) (by kernel_rfl))
  exact fnOk_of (d := dr 22) (ps := ["held"]) (nm := "_law_set") (fn := f_set) (by exact h1) h2 h3 h4 (by kernel_rfl) (by kernel_rfl) (by kernel_rfl) (by kernel_rfl) (by kernel_rfl) (by kernel_rfl) (by kernel_rfl) (by decide +kernel) (by decide) (bind_1 (by rfl) (by rfl) (by rfl) (by rfl) (fun _ => by kernel_rfl))
theorem fn_turned (T : Top q0 loose mean mg mb C.h₀) : ∃ fn a o fd body params, FnOk C F names 60 mg 16 "_law_turned" fn a o fd body params := by
  obtain ⟨a, o, pm, code, doc, h1, h2, h3, h4⟩ := T.fn (dr 23) (List.mem_of_getElem? (i := 14) (by kernel_rfl))
  exact fnOk_of (d := dr 23) (ps := ["text"]) (nm := "_law_turned") (fn := f_turned) (by exact h1) h2 h3 h4 (by kernel_rfl) (by kernel_rfl) (by kernel_rfl) (by kernel_rfl) (by kernel_rfl) (by kernel_rfl) (by kernel_rfl) (by decide +kernel) (by decide) (bind_1 (by rfl) (by rfl) (by rfl) (by rfl) (fun _ => by kernel_rfl))
theorem fn_nearest (T : Top q0 loose mean mg mb C.h₀) : ∃ fn a o fd body params, FnOk C F names 60 mg 17 "_law_nearest" fn a o fd body params := by
  obtain ⟨a, o, pm, code, doc, h1, h2, h3, h4⟩ := T.fn (dr 24) (List.mem_of_getElem? (i := 15) (by kernel_rfl))
  exact fnOk_of (d := dr 24) (ps := ["books"]) (nm := "_law_nearest") (fn := f_nearest) (by exact h1) h2 h3 h4 (by kernel_rfl) (by kernel_rfl) (by kernel_rfl) (by kernel_rfl) (by kernel_rfl) (by kernel_rfl) (by kernel_rfl) (by decide +kernel) (by decide) (bind_1 (by rfl) (by rfl) (by rfl) (by rfl) (fun _ => by kernel_rfl))
theorem fn_law (T : Top q0 loose mean mg mb C.h₀) : ∃ fn a o fd body params, FnOk C F names 60 mg 18 "law" fn a o fd body params := by
  obtain ⟨a, o, pm, code, doc, h1, h2, h3, h4⟩ := T.fn (dr 25) (List.mem_of_getElem? (i := 16) (by kernel_rfl))
  exact fnOk_of (d := dr 25) (ps := ["script"]) (nm := "law") (fn := f_law) (by exact h1) h2 h3 h4 (by kernel_rfl) (by kernel_rfl) (by kernel_rfl) (by kernel_rfl) (by kernel_rfl) (by kernel_rfl) (by kernel_rfl) (by decide +kernel) (by decide) (bind_1 (by rfl) (by rfl) (by rfl) (by rfl) (fun _ => by kernel_rfl))
end
end Mine
end
section
namespace Mine
open PySem PySem.W PyProof.Rows PySem.Calls

noncomputable def fnOb (i code dV kV : Nat) : Obj := { cls := .type "function", data := .func { docDef (dr i).name (dr i).params (dr i).body (dr i).scope (.str "cpy313.bisect" 330) (.ref code) .none with defaults := .ref dV, kwdefaults := .ref kV } }
noncomputable def tupOb (vs : List Value) : Obj := { cls := .type "tuple", data := .seq vs.toArray }
noncomputable def keyOb (P : Params) (t : Nat) : Obj := { cls := .type "dict", data := .dict #[{ hash := PyData.keyHash P ("key" : Str), key := .str ("key" : Str) t, val := .none }] 1 }
noncomputable def codeInts : List Int := [14, 8, 1, 2, 4294967295, 1, 1, 46, 0, 16, 46, 24, 9, 1, 4294967295, 13, 4, 8, 0, 0, 1, 6, 5, 1]
noncomputable def patOb : Obj := { cls := .type "re.Pattern", data := .fields #[.str "\\.\\d+$" 285, .int 256 312, .int 0 0, .none, .none, .ref 35, .int 0 0] }
noncomputable def codeOb (nm : Str) (l a b x y z u v t t3 m : Nat) : Obj := { cls := .type "code", data := .fields #[.str nm a, .str nm b, .str "/claim/cut.py" x, .int l 0, .int 4 0, .int 0 0, .int 1 0, .int 3 0, .ref y, .bool true, .int 276 0, .ref z, .none, .ref u, .ref v, .ref t, .int t3 0, .int l 0, .str "/claim/cut.py" m] }
noncomputable def KO (P : Params) : Frag := [
  (35, tupOb (codeInts.map fun i => .int i 0)),
  (36, patOb),
  (51, tupOb [.int 0 332, .none]),
  (52, keyOb P 333),
  (58, codeOb "insort_left" 21 334 335 336 53 54 55 56 57 342 343),
  (59, fnOb 6 58 51 52),
  (60, tupOb [.int 0 345, .none]),
  (61, keyOb P 346),
  (67, codeOb "bisect_left" 27 347 348 349 62 63 64 65 66 356 357),
  (68, fnOb 7 67 60 61)]
noncomputable def KOas : List Addr := [35, 36, 51, 52, 58, 59, 60, 61, 67, 68]
theorem KOas_eq : ∀ P, KOas = (KO P).map (·.1) := fun _ => by kernel_rfl

noncomputable def refIs (k : Addr) : Option Value → Bool
  | some (.ref j) => Nat.beq j k
  | _ => false
theorem refIs_iff {k : Addr} {v : Option Value} (h : refIs k v = true) : v = some (.ref k) := by
  unfold refIs at h
  split at h
  · rw [Nat.eq_of_beq_eq_true h]
  · (first | exact nos h | cases h)
noncomputable def seenB (h : Heap) : Bool := h.isNs cStatics && (h.nsMap cStatics sharingNotToldKey).isNone && (h.isNs mainGlobals && refIs 36 (h.nsMap mainGlobals "IPV4_RE") && (refIs 59 (h.nsMap mainGlobals "insort_left") && refIs 68 (h.nsMap mainGlobals "bisect_left")))
noncomputable def Says (w : World) (h : Heap) : Prop := (KO w.params).In h ∧ (∃ ms, h.Ns cStatics ms ∧ ms sharingNotToldKey = none) ∧
  ∃ m, h.Ns mainGlobals m ∧ m "IPV4_RE" = some (.ref 36) ∧ m "insort_left" = some (.ref 59) ∧ m "bisect_left" = some (.ref 68)
noncomputable def hook : Hook := ⟨List (Option Obj) × Bool, fun s => (KOas.map s.heap.get?, seenB s.heap && Nat.blt 0 s.toks), fun w => ((KO w.params).map fun p => some p.2, true), Says,
  fun w s e => by
    have e1 := congrArg Prod.fst e
    have e2 : seenB s.heap = true := (Bool.and_eq_true_iff.mp (congrArg Prod.snd e : _ = true)).1
    simp only [seenB, Bool.and_eq_true] at e2
    obtain ⟨⟨a1, a2⟩, ⟨b1, b2⟩, b3, b4⟩ := e2
    exact ⟨InK.of KOas_eq w s e1, ⟨_, .of_isNs a1, Option.isNone_iff_eq_none.mp a2⟩, _, .of_isNs b1, refIs_iff b2, refIs_iff b3, refIs_iff b4⟩,
  fun w h h' x k => by
    obtain ⟨a, ⟨ms, b, c⟩, m, d, e⟩ := x
    exact ⟨fun q o z => k _ _ (a q o z), ⟨ms, b.keeps k, c⟩, m, d.keeps k, e⟩⟩

theorem hook_toks : ∀ w s, hook.obs s = hook.val w → 0 < s.toks := fun w s e => Nat.le_of_ble_eq_true (Bool.and_eq_true_iff.mp (congrArg Prod.snd e : _ = true)).2

section
variable {C : Cfg} {loose : List Str} {mean : ExcName → Option Value} {mg mb : Str → Option Value}

theorem bindK {K : Frag} {s : Shared} {fd : FuncData} {args : Args} {binds : List (Str × Value)} (X : K.In s.heap) (e : ∀ S, peek K S (bindArgs fd args) = some binds) : BindsTo s fd args binds :=
  fun M _ _ _ q => (Looks.of_peek (M := M) X (e _)).here q

theorem bind_5 {fd : FuncData} {fn : Fn} {ps : List Str} {x1 x2 x3 x4 x5 : Str} {K : Frag} {t : Tok} (X : K.In C.h₀) (hn : fn.nargs = 5) (hk : fn.kwo = 1) (hd : fn.dflt = [.int 0, .none, .none]) (hp : ps = [x1, x2, x3, x4, x5])
    (e2 : ∀ v u S, peek K S (bindArgs fd ⟨[v, u], []⟩) = some [(x1, v), (x2, u), (x3, .int 0 t), (x4, .none), (x5, .none)])
    (e3 : ∀ v u a S, peek K S (bindArgs fd ⟨[v, u, a], []⟩) = some [(x1, v), (x2, u), (x3, a), (x4, .none), (x5, .none)])
    (e4 : ∀ v u a b S, peek K S (bindArgs fd ⟨[v, u, a, b], []⟩) = some [(x1, v), (x2, u), (x3, a), (x4, b), (x5, .none)]) :
    ∀ (vals : List Value) (s : Shared), (∀ b o, C.h₀.get? b = some o → s.heap.get? b = some o) → vals.length + fn.kwo ≤ fn.nargs → fn.nargs ≤ vals.length + fn.dflt.length →
      ∃ ds : List Value, (∀ bad θ h, VRs bad θ h (fn.dflt.drop (vals.length + fn.dflt.length - fn.nargs)) ds) ∧ BindsTo s fd ⟨vals, []⟩ (ps.zip (vals ++ ds)) := by
  intro vals s hk' l1 l2
  have X' : K.In s.heap := fun a o e => hk' _ _ (X a o e)
  rw [hk, hn] at l1
  rw [hn, hd] at l2
  subst hp
  match vals, l1, l2 with
  | [v, u], _, _ => exact ⟨[.int 0 t, .none, .none], fun _ _ _ => by rw [hd, hn]; exact .cons (.int _ _) (.cons .none (.cons .none .nil)), bindK X' (e2 v u)⟩
  | [v, u, a], _, _ => exact ⟨[.none, .none], fun _ _ _ => by rw [hd, hn]; exact .cons .none (.cons .none .nil), bindK X' (e3 v u a)⟩
  | [v, u, a, b], _, _ => exact ⟨[.none], fun _ _ _ => by rw [hd, hn]; exact .cons .none .nil, bindK X' (e4 v u a b)⟩
  | [], _, l2 => simp at l2
  | [_], _, l2 => simp at l2
  | _ :: _ :: _ :: _ :: _ :: _, l1, _ => simp at l1

theorem fn_insort_left {P : Params} (X : (KO P).In C.h₀) (g : mg "insort_left" = some (.ref 59)) : ∃ fn a o fd body params, FnOk C F names 60 mg 2 "insort_left" fn a o fd body params :=
  fnOk_of (d := dr 6) (ps := ["a", "x", "lo", "hi", "key"]) (nm := "insort_left") (fn := f_insort_left) (pm := .str "cpy313.bisect" 330) (doc := .none) (dV := .ref 51) (kV := .ref 52) (code := .ref 58) g (X 59 (fnOb 6 58 51 52) (by kernel_rfl)) rfl
    ⟨58, codeOb "insort_left" 21 334 335 336 53 54 55 56 57 342 343, _, 335, rfl, X 58 _ (by kernel_rfl), rfl, by kernel_rfl⟩
    (by kernel_rfl) (by kernel_rfl) (by kernel_rfl) (by kernel_rfl) (by kernel_rfl) (by kernel_rfl) (by kernel_rfl) (by decide +kernel) (by decide)
    (bind_5 (t := 332) X (by rfl) (by rfl) (by rfl) (by rfl) (fun _ _ _ => by kernel_rfl) (fun _ _ _ _ => by kernel_rfl) (fun _ _ _ _ _ => by kernel_rfl))
theorem fn_bisect_left {P : Params} (X : (KO P).In C.h₀) (g : mg "bisect_left" = some (.ref 68)) : ∃ fn a o fd body params, FnOk C F names 60 mg 3 "bisect_left" fn a o fd body params :=
  fnOk_of (d := dr 7) (ps := ["a", "x", "lo", "hi", "key"]) (nm := "bisect_left") (fn := f_bisect_left) (pm := .str "cpy313.bisect" 330) (doc := .none) (dV := .ref 60) (kV := .ref 61) (code := .ref 67) g (X 68 (fnOb 7 67 60 61) (by kernel_rfl)) rfl
    ⟨67, codeOb "bisect_left" 27 347 348 349 62 63 64 65 66 356 357, _, 348, rfl, X 67 _ (by kernel_rfl), rfl, by kernel_rfl⟩
    (by kernel_rfl) (by kernel_rfl) (by kernel_rfl) (by kernel_rfl) (by kernel_rfl) (by kernel_rfl) (by kernel_rfl) (by decide +kernel) (by decide)
    (bind_5 (t := 345) X (by rfl) (by rfl) (by rfl) (by rfl) (fun _ _ _ => by kernel_rfl) (fun _ _ _ _ => by kernel_rfl) (fun _ _ _ _ _ => by kernel_rfl))
end
end Mine
end
section
namespace Mine
open PySem PySem.W PyProof.Rows PySem.Calls

noncomputable def loose0 : List Str := ["IPV4_RE", "insort_left", "bisect_left"]
section
variable {C : Cfg} {mean : ExcName → Option Value} {mg mb : Str → Option Value}

noncomputable def absentB (x : Str) : Bool := !startupNames.contains x && !(looseW q0 loose0).contains x && !((recsOf q0).map (·.name)).contains x && !((litsOf q0).map (·.1)).contains x && !((clssOf q0 (looseW q0 loose0)).map (·.name)).contains x
theorem absent (T : Top q0 (looseW q0 loose0) mean mg mb C.h₀) {x : Str} (e : absentB x = true) : mg x = none := by
  simp only [absentB, Bool.and_eq_true, Bool.not_eq_true', List.contains_eq_mem, decide_eq_false_iff_not] at e
  obtain ⟨⟨⟨⟨a, b⟩, c⟩, d⟩, f⟩ := e
  exact T.free x a b c d f
theorem isBoot (T : Top q0 (looseW q0 loose0) mean mg mb C.h₀) {x : Str} {v : Value} (e1 : absentB x = true) (e2 : (x == ("__name__" : Str)) = false) (e3 : bootBuiltins x = some v) : mg x = none ∧ mb x = some v :=
  ⟨absent T e1, (T.builtins x (fun q => by rw [q] at e2; revert e2; decide)).trans e3⟩

theorem fn_all {P : Params} (T : Top q0 (looseW q0 loose0) mean mg mb C.h₀) (X : (KO P).In C.h₀) (g1 : mg "insort_left" = some (.ref 59)) (g2 : mg "bisect_left" = some (.ref 68)) :
    ∀ i f, names[i]? = some f → ∃ fn a o fd body params, FnOk C F names 60 mg i f fn a o fd body params := by
  intro i f h
  match i, h with
  | 0, h => cases h; exact fn_is_HDN T
  | 1, h => cases h; exact fn_reach T
  | 2, h => cases h; exact fn_insort_left X g1
  | 3, h => cases h; exact fn_bisect_left X g2
  | 4, h => cases h; exact fn_ge T
  | 5, h => cases h; exact fn_add T
  | 6, h => cases h; exact fn_sub T
  | 7, h => cases h; exact fn_contains T
  | 8, h => cases h; exact fn_countOf T
  | 9, h => cases h; exact fn_indexOf T
  | 10, h => cases h; exact fn_byteswap T
  | 11, h => cases h; exact fn_size T
  | 12, h => cases h; exact fn_books T
  | 13, h => cases h; exact fn_hosts T
  | 14, h => cases h; exact fn_climb T
  | 15, h => cases h; exact fn_set T
  | 16, h => cases h; exact fn_turned T
  | 17, h => cases h; exact fn_nearest T
  | 18, h => cases h; exact fn_law T
  | k + 19, h => simp [names] at h

theorem gok_of {w : World} (T : Top q0 (looseW q0 loose0) mean mg mb C.h₀) (Y : Says w C.h₀)
    (hs : (∀ (A : Around) (s : Shared) (E : Value → Shared → Prop) (Q : Value × List Value → Shared → Prop) (pl : Sem Bool), (∀ b o, C.h₀.get? b = some o → s.heap.get? b = some o) → Q (.builtin "re.Pattern.search", [.ref 36]) s → wpAny (model C.prog C.w) A (getMethod (.ref 36) "search" pl) Q E s) ∧
      (∀ (A : Around) (s : Shared) (E : Value → Shared → Prop) (Q : Value → Shared → Prop) (x : Str) (t : Tok), A.handled = none → (∀ b o, C.h₀.get? b = some o → s.heap.get? b = some o) → noIp x.cps.toList = true → (∀ s', Grow s s' → Q .none s') →
        wpAny (model C.prog C.w) A (call (.builtin "re.Pattern.search") [.ref 36, .str x t]) Q E s)) :
    GOk C F names 60 mg mb := by
  obtain ⟨X, st, m, m1, m2, m3, m4⟩ := Y
  have ag := fun n => Heap.Ns.agree T.g m1 n
  refine ⟨T.g, T.b, T.nolimit, fn_all T X ((ag _).trans m3) ((ag _).trans m4), fun f p h => ?_, isBoot T (by decide +kernel) (by decide +kernel) (by kernel_rfl), isBoot T (by decide +kernel) (by decide +kernel) (by kernel_rfl), st, 36, (ag _).trans m2, hs.1, hs.2⟩
  unfold primOf at h
  split at h
  · rename_i e; cases h; subst e; exact isBoot T (by decide +kernel) (by decide +kernel) (by kernel_rfl)
  split at h
  · rename_i e; cases h; subst e; exact isBoot T (by decide +kernel) (by decide +kernel) (by kernel_rfl)
  split at h
  · rename_i e; cases h; subst e; exact isBoot T (by decide +kernel) (by decide +kernel) (by kernel_rfl)
  split at h
  · rename_i e; cases h; subst e; exact isBoot T (by decide +kernel) (by decide +kernel) (by kernel_rfl)
  split at h
  · rename_i e; cases h; subst e; exact isBoot T (by decide +kernel) (by decide +kernel) (by kernel_rfl)
  split at h
  · rename_i e; cases h; subst e; exact isBoot T (by decide +kernel) (by decide +kernel) (by kernel_rfl)
  split at h
  · rename_i e; cases h; subst e; exact isBoot T (by decide +kernel) (by decide +kernel) (by kernel_rfl)
  split at h
  · rename_i e; cases h; subst e; exact isBoot T (by decide +kernel) (by decide +kernel) (by kernel_rfl)
  · (first | exact nos h | cases h)
end
end Mine
end
section
namespace Mine
open PySem PySem.W PyProof.Rows PySem.Calls
namespace RE
theorem plainAttrs : PlainAttrs "re.Pattern" :=
  ⟨⟨"object.__getattribute__", by rw [typeLookup_type, builtinLookup_eq_fast]; kernel_rfl, by decide +kernel⟩, by rw [typeLookup_type, builtinLookup_eq_fast]; kernel_rfl⟩
theorem slot : Slot "re.Pattern" "search" "re.Pattern.search" :=
  .of (owner := "re.Pattern") (n := "search") (by rw [typeLookup_type, builtinLookup_eq_fast]; kernel_rfl) (by decide +kernel) (by decide +kernel) (by decide +kernel)
    (by first | exact .inl (by decide +kernel) | exact .inr (by decide +kernel)) (by rw [isSubtype_type]; kernel_rfl)
theorem type : typeOf (.builtin "re.Pattern.search") = pure (.type "method_descriptor") := by show builtinType _ = _; rw [builtinType_eq_fast]; kernel_rfl
theorem entry : entryFor table "re.Pattern.search" = some Builtin.«re.Pattern.search» := by first | exact entryFor_of_tree (by kernel_rfl) | exact entryFor_of_fast (by kernel_rfl)
theorem args (a b : Value) : argsOk "re.Pattern.search" ⟨[a, b], []⟩ := by unfold argsOk; kernel_rfl
end RE
noncomputable def isRetNone : Option PySem.Fin → Bool
  | some (.done (.ret .none)) => true
  | _ => false
theorem isRetNone_iff {x : Option PySem.Fin} (h : isRetNone x = true) : x = some (.done (.ret .none)) := by
  unfold isRetNone at h
  split at h
  · rfl
  · (first | exact nos h | cases h)
noncomputable def srchOn (P : Params) (S : Setting) (t : Tok) (s : List Nat) : Bool := isRetNone (peek (KO P) S (Builtin.«re.Pattern.search» ⟨[.ref 36, .str ⟨s.toArray⟩ t], []⟩))
theorem srchA (P : Params) (S : Setting) (t : Tok) : tailsA.all (fun r => srchOn P S t (97 :: r)) = true := by kernel_rfl
theorem srchB (P : Params) (S : Setting) (t : Tok) : tailsA.all (fun r => srchOn P S t (98 :: r)) = true := by kernel_rfl
theorem srchC (P : Params) (S : Setting) (t : Tok) : tailsA.all (fun r => srchOn P S t (99 :: r)) = true := by kernel_rfl
theorem srchD (P : Params) (S : Setting) (t : Tok) : tailsA.all (fun r => srchOn P S t (100 :: r)) = true := by kernel_rfl
theorem srchO (P : Params) (S : Setting) (t : Tok) : headsO.all (fun r => srchOn P S t r) = true := by kernel_rfl
theorem anyEq_mem {s : List Nat} : ∀ {l : List (List Nat)}, anyEq s l = true → s ∈ l
  | x :: xs, h => by
    unfold anyEq at h
    split at h
    · rename_i e
      rw [eqNats_iff.mp e]; exact .head _
    · exact .tail _ (anyEq_mem h)
theorem srch_of {P : Params} {S : Setting} {t : Tok} {s : List Nat} (h : noIp s = true) : srchOn P S t s = true := by
  unfold noIp at h
  split at h
  · (first | exact nos h | cases h)
  · rename_i c r
    split at h
    · rename_i e
      obtain ⟨e1, e2⟩ := Bool.and_eq_true_iff.mp e
      have e1 := Nat.le_of_ble_eq_true e1
      have e2 := Nat.le_of_ble_eq_true e2
      have m := anyEq_mem h
      have hc : c = 97 ∨ c = 98 ∨ c = 99 ∨ c = 100 := by omega
      rcases hc with rfl | rfl | rfl | rfl
      · exact List.all_eq_true.mp (srchA P S t) r m
      · exact List.all_eq_true.mp (srchB P S t) r m
      · exact List.all_eq_true.mp (srchC P S t) r m
      · exact List.all_eq_true.mp (srchD P S t) r m
    · exact List.all_eq_true.mp (srchO P S t) _ (anyEq_mem h)

section
variable {C : Cfg} {mean : ExcName → Option Value} {mg mb : Str → Option Value}
theorem srch_meth {P : Params} (X : (KO P).In C.h₀) : ∀ (A : Around) (s : Shared) (E : Value → Shared → Prop) (Q : Value × List Value → Shared → Prop) (pl : Sem Bool), (∀ b o, C.h₀.get? b = some o → s.heap.get? b = some o) → Q (.builtin "re.Pattern.search", [.ref 36]) s → wpAny (model C.prog C.w) A (getMethod (.ref 36) "search" pl) Q E s := by
  intro A s E Q pl hk h
  have ho : s.heap.get? 36 = some patOb := hk _ _ (X 36 patOb (by kernel_rfl))
  exact getMethod_builtin ⟨_, ho, rfl⟩ RE.plainAttrs RE.slot RE.type (fun a e => by cases e; exact ⟨_, ho, rfl⟩) h
theorem srch_call {P : Params} (X : (KO P).In C.h₀) : ∀ (A : Around) (s : Shared) (E : Value → Shared → Prop) (Q : Value → Shared → Prop) (x : Str) (t : Tok), A.handled = none → (∀ b o, C.h₀.get? b = some o → s.heap.get? b = some o) → noIp x.cps.toList = true → (∀ s', Grow s s' → Q .none s') →
    wpAny (model C.prog C.w) A (call (.builtin "re.Pattern.search") [.ref 36, .str x t]) Q E s := by
  intro A s E Q x t _ hk hx h
  have ho : s.heap.get? 36 = some patOb := hk _ _ (X 36 patOb (by kernel_rfl))
  have X' : (KO P).In s.heap := fun a o e => hk _ _ (X a o e)
  refine wpAny_call_entry RE.slot ⟨_, ho, rfl⟩ RE.entry ?_ (RE.args _ _)
  have q := isRetNone_iff (srch_of (P := P) (S := ⟨(model C.prog C.w).prog, (model C.prog C.w).w.params⟩) (t := t) hx)
  refine (Looks.of_peek (M := model C.prog C.w) X' (r := .done (.ret .none)) ?_).here ⟨_, rfl, h s Chg.same⟩
  exact q

theorem gok {w : World} (T : Top q0 (looseW q0 loose0) mean mg mb C.h₀) (Y : Says w C.h₀) : GOk C F names 60 mg mb := gok_of T Y ⟨srch_meth Y.1, srch_call Y.1⟩
end
end Mine
end
section
set_option maxHeartbeats 8000000
namespace Mine
open PySem PySem.W PyProof.Rows PySem.Calls
theorem head_left : ∀ w, (openEnds treeTable P0 w 1696).map (fun s => (openSeen q0 loose0 (importedModules P0.main.body) (fun s => xlAt q0 [] s && recOk [] s) true s, hook.obs s)) = some (openGood q0 loose0, hook.val w) := fun w => by kernel_rfl
end Mine
end
section
namespace Mine
open PySem PySem.W PyProof.Rows PySem.Calls

theorem fit_caller {n : Nat} (h : n ≤ 100) : Fit callerA n := by
  refine ⟨rfl, ?_, rfl, ?_⟩
  · have e : callerA.depth ≤ 550 := by decide
    omega
  · have e : callerA.units ≤ 100 := by decide
    omega

theorem law_core {w : World} {s : Shared} {mean : ExcName → Option Value} {mg mb : Str → Option Value} {a l : Addr} {vs : List Value} {xs : List Int} {n : Nat} {σ' : St} {E Q : Value → Shared → Prop}
    (T : Top q0 (looseW q0 loose0) mean mg mb s.heap) (Y : Says w s.heap) (hfn : mg "law" = some (.ref a)) (ht : 0 < s.toks) (hL : s.heap.IsList l vs.toArray) (hI : IntsAre vs xs) (hn : n + 1 ≤ 100)
    (hev : (ev F n).b f_law.body ⟨initLoc [.list (vints xs)] f_law.init, []⟩ = some (.ret (.bool true), σ'))
    (hQ : ∀ s', (∀ b o, s.heap.get? b = some o → s'.heap.get? b = some o) → s'.os = s.os → s'.gens = s.gens → Q (.bool true) s') :
    wpC (model P0 w) callerA (call (.ref a) [.ref l]) Q E s := by
  have G : GOk ⟨P0, w, s.heap, s.gens, s.drawn, s.os⟩ F names 60 mg mb := gok T Y
  obtain ⟨fn, a', o, fd, body, params, Fo⟩ := G.fn 18 "law" rfl
  obtain rfl : a' = a := by have := Fo.glob; rw [hfn] at this; cases this; rfl
  have hf : fn = f_law := by have := Fo.at_; exact (Option.some.inj this).symm
  subst hf
  have SB := (snd_all G n).2.2.1
  refine body_at (C := ⟨P0, w, s.heap, s.gens, s.drawn, s.os⟩) (bad1 := fun _ => False) (θ1 := ⟨[], fun _ _ => False⟩) (objs := []) (us := [.list (vints xs)]) SB G.lim Fo (fit_caller hn) (fun _ _ e => e) (Nat.le_refl _) (by simp) (by simp) (fun _ h => h.elim) rfl (by simp) rfl rfl rfl ht (fun _ _ h => h.elim) (fun _ _ _ h => h.elim) (.cons (.list (by simp) (fun h => h) hL (vints_vr hI)) .nil) (Nat.le_of_ble_eq_true rfl) (Nat.le_of_ble_eq_true rfl) hev ?_
  intro θ2 s2 v hext hg hkeep g hI2 hv
  obtain ⟨a2, I2⟩ := hI2
  have hv : VR _ θ2 s2.heap (.bool true) v := hv
  (first | exact nos hv | cases hv)
  exact hQ s2 (fun b o e => hkeep b o e (by simp)) I2.os I2.gens
end Mine
end
section
namespace Mine
noncomputable section
variable {R : Type}
/-! A second evaluator, in continuations, for the kernel's speed: one small function for each construct. -/
noncomputable abbrev Lc := List (Option V)
noncomputable abbrev Os := List O
noncomputable abbrev KX (R : Type) := Lc → Os → (V → Os → Option R) → Option R
noncomputable abbrev KT (R : Type) := Lc → Os → (Bool → Os → Option R) → Option R
noncomputable abbrev KS (R : Type) := Lc → Os → (Lc → Os → Option R) → (Lc → Os → Option R) → (V → Os → Option R) → Option R

/-! eliminators -/
noncomputable def lcase {α : Type} (n : Option R) (c : α → List α → Option R) (l : List α) : Option R := @List.rec α (fun _ => Option R) n (fun x t _ => c x t) l
noncomputable def onTrue (b : Bool) (r : Option R) : Option R := @Bool.rec (fun _ => Option R) none r b
noncomputable def bfi (b : Bool) (r s : Option R) : Option R := @Bool.rec (fun _ => Option R) s r b
noncomputable def nt (b : Bool) : Bool := @Bool.rec (fun _ => Bool) true false b
noncomputable def an (b c : Bool) : Bool := @Bool.rec (fun _ => Bool) false c b
noncomputable def no {α : Type} : α → Option R := fun _ => none
noncomputable def no1 : Bool → List Nat → Option R := fun _ _ => none
noncomputable def no2 : Lc → Os → Option R := fun _ _ => none
noncomputable def vCase (n : Option R) (kb : Bool → Option R) (ki : Int → Option R) (ks : List Nat → Option R) (kby : Bool → List Nat → Option R) (kl kt : List V → Option R) (kr : Nat → Option R) (v : V) : Option R :=
  @V.rec (fun _ => Option R) (fun _ => Unit) n kb ki ks kby (fun l _ => kl l) (fun l _ => kt l) kr ⟨⟩ (fun _ _ _ _ => ⟨⟩) v
noncomputable def iCase (p n : Nat → Option R) (i : Int) : Option R := @Int.rec (fun _ => Option R) p n i
noncomputable def vInt (v : V) (k : Int → Option R) : Option R := vCase none no k no no1 no no no v
noncomputable def vNat (v : V) (k : Nat → Option R) : Option R := vInt v (iCase k no)
noncomputable def vStr (v : V) (k : List Nat → Option R) : Option R := vCase none no no k no1 no no no v
noncomputable def vISB (v : V) (ki : Int → Option R) (ks : List Nat → Option R) (kb : Bool → List Nat → Option R) : Option R := vCase none no ki ks kb no no no v
noncomputable def vLR (v : V) (kl : List V → Option R) (kr : Nat → Option R) : Option R := vCase none no no no no1 kl no kr v
noncomputable def vRef (v : V) (kr : Nat → Option R) : Option R := vCase none no no no no1 no no kr v
noncomputable def vTuple (v : V) (kl : List V → Option R) : Option R := vCase none no no no no1 no kl no v
noncomputable def vTruth (v : V) (k : Bool → Option R) : Option R := vCase (k false) k no no no1 no no no v
noncomputable def vBytes (v : V) (k : Bool → List Nat → Option R) : Option R := vCase none no no no k no no no v
noncomputable def oList (k : List V → Option R) (o : O) : Option R := @O.rec (fun _ => Option R) k no o

noncomputable def nth {α : Type} (i : Nat) (l : List α) (k : α → Option R) : Option R :=
  @Nat.rec (fun _ => List α → Option R) (lcase none (fun x _ => k x)) (fun _ ih => lcase none (fun _ t => ih t)) i l
noncomputable def nthD {α : Type} (i : Nat) (l : List α) (d : Option R) (k : α → Option R) : Option R :=
  @Nat.rec (fun _ => List α → Option R) (lcase d (fun x _ => k x)) (fun _ ih => lcase d (fun _ t => ih t)) i l
noncomputable def upd {α : Type} (i : Nat) (l : List α) (v : α) (k : List α → Option R) : Option R :=
  @Nat.rec (fun _ => List α → (List α → Option R) → Option R) (fun l k => lcase none (fun _ t => k (v :: t)) l) (fun _ ih l k => lcase none (fun x t => ih t (fun t' => k (x :: t'))) l) i l k
noncomputable def app {α : Type} (l m : List α) (k : List α → Option R) : Option R :=
  @List.rec α (fun _ => (List α → Option R) → Option R) (fun k => k m) (fun x _ ih k => ih (fun t => k (x :: t))) l k
noncomputable def lenK {α : Type} (l : List α) (n : Nat) (k : Nat → Option R) : Option R :=
  @List.rec α (fun _ => Nat → Option R) k (fun _ _ ih n => ih (Nat.succ n)) l n
noncomputable def dropK {α : Type} (i : Nat) (s : List α) (k : List α → Option R) : Option R :=
  @Nat.rec (fun _ => List α → Option R) k (fun _ ih s => lcase (k []) (fun _ t => ih t) s) i s
noncomputable def takeK {α : Type} (i : Nat) (s : List α) (k : List α → Option R) : Option R :=
  @Nat.rec (fun _ => List α → (List α → Option R) → Option R) (fun _ k => k []) (fun _ ih s k => lcase (k []) (fun x t => ih t (fun t' => k (x :: t'))) s) i s k
noncomputable def getK (i : Nat) (l : Lc) (k : V → Option R) : Option R := nth i l (fun o => @Option.rec V (fun _ => Option R) none k o)
noncomputable def objK (r : Nat) (o : Os) (k : List V → Option R) : Option R := nth r o (oList k)
noncomputable def itemsK (o : Os) (v : V) (k : List V → Option R) : Option R := vLR v k (fun r => objK r o k)

/-! tests of values -/
noncomputable def okIB (i : Int) : Bool := @Int.rec (fun _ => Bool) (fun n => Nat.ble n 18446744073709551615) (fun n => Nat.ble n 18446744073709551614) i
noncomputable def okIK (i : Int) (r : Option R) : Option R := onTrue (okIB i) r
noncomputable def shortK (n : Nat) (r : Option R) : Option R := onTrue (Nat.ble n 65535) r
noncomputable def slen {α : Type} (l : List α) (k : Nat → Option R) : Option R := lenK l 0 fun n => shortK n (k n)
noncomputable def okS (s : List Nat) : Bool := @List.rec Nat (fun _ => Bool) true (fun c _ ih => an (Nat.ble c 1114111) ih) s
noncomputable def eqN (s : List Nat) : List Nat → Bool := @List.rec Nat (fun _ => List Nat → Bool) (fun t => @List.rec Nat (fun _ => Bool) true (fun _ _ _ => false) t)
  (fun c _ ih t => @List.rec Nat (fun _ => Bool) false (fun d t' _ => an (Nat.beq c d) (ih t')) t) s
noncomputable def ltN (s : List Nat) : List Nat → Bool := @List.rec Nat (fun _ => List Nat → Bool) (fun t => @List.rec Nat (fun _ => Bool) false (fun _ _ _ => true) t)
  (fun c _ ih t => @List.rec Nat (fun _ => Bool) false (fun d t' _ => @Bool.rec (fun _ => Bool) (Nat.blt c d) (ih t') (Nat.beq c d)) t) s
noncomputable def eqI (a b : Int) : Bool := @Int.rec (fun _ => Bool) (fun m => @Int.rec (fun _ => Bool) (fun n => Nat.beq m n) (fun _ => false) b) (fun m => @Int.rec (fun _ => Bool) (fun _ => false) (fun n => Nat.beq m n) b) a
noncomputable def ltI (a b : Int) : Bool := @Int.rec (fun _ => Bool) (fun m => @Int.rec (fun _ => Bool) (fun n => Nat.blt m n) (fun _ => false) b) (fun m => @Int.rec (fun _ => Bool) (fun _ => true) (fun n => Nat.blt n m) b) a
noncomputable def nrB (v : V) : Bool := @V.rec (fun _ => Bool) (fun _ => Bool) true (fun _ => true) (fun _ => true) (fun _ => true) (fun _ _ => true) (fun _ ih => ih) (fun _ ih => ih) (fun _ => false) true (fun _ _ ih1 ih2 => an ih1 ih2) v
noncomputable def nrL (v : List V) : Bool := @List.rec V (fun _ => Bool) true (fun x _ ih => an (nrB x) ih) v
noncomputable def scalB (v : V) : Bool := @V.rec (fun _ => Bool) (fun _ => Unit) true (fun _ => true) (fun _ => true) (fun _ => true) (fun _ _ => true) (fun _ _ => false) (fun _ _ => false) (fun _ => false) ⟨⟩ (fun _ _ _ _ => ⟨⟩) v
noncomputable def pB (v : V) : Nat → Bool := @V.rec (fun _ => Nat → Bool) (fun _ => Nat → Bool) (fun _ => true) (fun _ _ => true) (fun _ _ => true) (fun s _ => okS s) (fun _ _ _ => false)
  (fun _ ih d => @Nat.rec (fun _ => Bool) false (fun d _ => ih d) d) (fun _ ih d => @Nat.rec (fun _ => Bool) false (fun d _ => ih d) d) (fun _ _ => false) (fun _ => true) (fun _ _ ih1 ih2 d => an (ih1 d) (ih2 d)) v
noncomputable def pBs (v : List V) (d : Nat) : Bool := @List.rec V (fun _ => Bool) true (fun x _ ih => an (pB x d) ih) v
/-- equality of good values -/
noncomputable def eqR (v : V) : V → Option Bool := @V.rec (fun _ => V → Option Bool) (fun _ => List V → Option Bool)
  (vCase (some true) no no no no1 no no no) (fun b => vCase none (fun c => some (@Bool.rec (fun _ => Bool) (nt c) c b)) no no no1 no no no) (fun i => vCase none no (fun j => some (eqI i j)) no no1 no no no)
  (fun s => vCase none no no (fun t => some (eqN s t)) no1 no no no) (fun _ _ => no) (fun _ ih => vCase none no no no no1 ih no no) (fun _ ih => vCase none no no no no1 no ih no) (fun _ => no)
  (lcase (some true) fun _ _ => some false)
  (fun _ _ ih1 ih2 => lcase (some false) fun y t => @Option.rec Bool (fun _ => Option Bool) none (fun a => @Option.rec Bool (fun _ => Option Bool) none (fun b => some (an a b)) (ih2 t)) (ih1 y)) v
noncomputable def anyR (x : V) (ys : List V) : Option Bool := @List.rec V (fun _ => Option Bool) (some false) (fun y _ ih => @Option.rec Bool (fun _ => Option Bool) none (fun a => @Option.rec Bool (fun _ => Option Bool) none (fun b => some (@Bool.rec (fun _ => Bool) b true a)) ih) (eqR y x)) ys
noncomputable def obK (x : Option Bool) (k : Bool → Option R) : Option R := @Option.rec Bool (fun _ => Option R) none k x
noncomputable def allS (ys : List V) : Bool := @List.rec V (fun _ => Bool) true (fun y _ ih => @V.rec (fun _ => Bool) (fun _ => Unit) false (fun _ => false) (fun _ => false) (fun s => an (okS s) ih) (fun _ _ => false) (fun _ _ => false) (fun _ _ => false) (fun _ => false) ⟨⟩ (fun _ _ _ _ => ⟨⟩) y) ys
noncomputable def anyS (x : List Nat) (ys : List V) : Bool := @List.rec V (fun _ => Bool) false (fun y _ ih => @V.rec (fun _ => Bool) (fun _ => Unit) false (fun _ => false) (fun _ => false) (fun s => @Bool.rec (fun _ => Bool) ih true (eqN s x)) (fun _ _ => false) (fun _ _ => false) (fun _ _ => false) (fun _ => false) ⟨⟩ (fun _ _ _ _ => ⟨⟩) y) ys
/-- is it in a list of bytes: none where the list has other things -/
noncomputable def anyBR (x : List Nat) (ys : List V) : Option Bool := @List.rec V (fun _ => Option Bool) (some false) (fun y _ ih => vCase none no no no (fun _ s => @Option.rec Bool (fun _ => Option Bool) none (fun b => some (@Bool.rec (fun _ => Bool) b true (eqN s x))) ih) no no no y) ys

/-! freezing -/
noncomputable def frzSlow (o : Os) (v : V) (k : V → Option R) : Option R := @Option.rec V (fun _ => Option R) none k (frz o v)
noncomputable def frzK (o : Os) (v : V) (k : V → Option R) : Option R := vCase (k v) (fun _ => k v) (fun _ => k v) (fun _ => k v) (fun _ _ => k v)
  (fun xs => bfi (nrL xs) (k v) (frzSlow o v k)) (fun xs => bfi (nrL xs) (k v) (frzSlow o v k)) (fun r => objK r o fun xs => bfi (nrL xs) (k (.list xs)) (frzSlow o v k)) v
noncomputable def frzsK (o : Os) (vs : List V) (k : Lc → Option R) : Option R := @List.rec V (fun _ => (Lc → Option R) → Option R) (fun k => k []) (fun v _ ih k => frzK o v fun u => ih fun us => k (some u :: us)) vs k

/-! operators -/
noncomputable def addInt (x y : Int) : Int := @Int.rec (fun _ => Int) (fun a => @Int.rec (fun _ => Int) (fun b => .ofNat (Nat.add a b)) (fun _ => Int.add x y) y) (fun _ => Int.add x y) x
noncomputable def modInt (x : Int) (y : Nat) : Int := @Int.rec (fun _ => Int) (fun m => .ofNat (Nat.mod m y)) (fun _ => Int.fmod x (.ofNat y)) x
noncomputable def addK (a b : V) (k : V → Option R) : Option R := vISB a
  (fun x => vInt b fun y => okIK x (okIK y (k (.int (addInt x y)))))
  (fun x => vStr b fun y => app x y fun z => slen z fun _ => k (.str z))
  (fun _ x => vBytes b fun _ y => app x y fun z => slen z fun _ => k (.bytes false z))
noncomputable def subK (a b : V) (k : V → Option R) : Option R := vInt a fun x => vInt b fun y => okIK x (okIK y (k (.int (Int.sub x y))))
noncomputable def mulK (a b : V) (k : V → Option R) : Option R := vInt a fun x => vInt b fun y => okIK x (okIK y (k (.int (Int.mul x y))))
noncomputable def modK (a b : V) (k : V → Option R) : Option R := vInt a fun x => vNat b fun y => okIK (.ofNat y) (onTrue (Nat.ble 1 y) (k (.int (modInt x y))))
noncomputable def fdivK (a b : V) (k : V → Option R) : Option R := vNat a fun x => vNat b fun y => okIK (.ofNat x) (okIK (.ofNat y) (onTrue (Nat.ble 1 y) (k (.int (.ofNat (Nat.div x y))))))
noncomputable def powK (a b : V) (k : V → Option R) : Option R := vNat a fun x => vNat b fun y => onTrue (Nat.beq x 2) (onTrue (Nat.ble y 15) (k (.int (.ofNat (Nat.pow 2 y)))))
noncomputable def bandK (a b : V) (k : V → Option R) : Option R := vNat a fun x => vNat b fun y => okIK (.ofNat x) (okIK (.ofNat y) (k (.int (.ofNat (Nat.land x y)))))

/-! comparisons -/
noncomputable def eqGen (o : Os) (a b : V) (k : Bool → Option R) : Option R := frzK o a fun x => frzK o b fun y => onTrue (pB x 8) (onTrue (pB y 8) (obK (eqR x y) k))
noncomputable def eqK (o : Os) (a b : V) (k : Bool → Option R) : Option R := vCase (eqGen o a b k) (fun _ => eqGen o a b k)
  (fun x => vInt b fun y => k (eqI x y))
  (fun x => vStr b fun y => onTrue (okS x) (onTrue (okS y) (k (eqN x y))))
  (fun _ x => vBytes b fun _ y => k (eqN x y)) (fun _ => eqGen o a b k) (fun _ => eqGen o a b k) (fun _ => eqGen o a b k) a
noncomputable def neK (o : Os) (a b : V) (k : Bool → Option R) : Option R := eqGen o a b fun r => k (nt r)
noncomputable def ltK (_o : Os) (a b : V) (k : Bool → Option R) : Option R := vISB a (fun x => vInt b fun y => k (ltI x y)) no (fun _ x => vBytes b fun _ y => k (ltN x y))
noncomputable def geK (_o : Os) (a b : V) (k : Bool → Option R) : Option R := vInt a fun x => vInt b fun y => k (nt (ltI x y))
noncomputable def inGen (x : V) (ys : List V) (k : Bool → Option R) : Option R := onTrue (pB x 8) (onTrue (pBs ys 8) (obK (anyR x ys) k))
noncomputable def inStr (x : List Nat) (ys : List V) (k : Bool → Option R) : Option R := onTrue (okS x) (onTrue (allS ys) (k (anyS x ys)))
noncomputable def inAny (x : V) (ys : List V) (k : Bool → Option R) : Option R := vCase (inGen x ys k) (fun _ => inGen x ys k) (fun _ => inGen x ys k) (fun s => inStr s ys k) (fun _ _ => inGen x ys k) (fun _ => inGen x ys k) (fun _ => inGen x ys k) (fun _ => inGen x ys k) x
noncomputable def inList (x : V) (ys : List V) (k : Bool → Option R) : Option R := vCase (inGen x ys k) (fun _ => inGen x ys k) (fun _ => inGen x ys k) (fun s => inStr s ys k) (fun _ s => obK (anyBR s ys) k) (fun _ => inGen x ys k) (fun _ => inGen x ys k) (fun _ => inGen x ys k) x
noncomputable def isinK (o : Os) (a b : V) (k : Bool → Option R) : Option R := frzK o a fun x => frzK o b fun y => vCase none no no no no1 (fun ys => inList x ys k) (fun ys => inAny x ys k) no y
noncomputable def notinK (o : Os) (a b : V) (k : Bool → Option R) : Option R := frzK o a fun x => frzK o b fun y => vTuple y fun ys => inAny x ys fun r => k (nt r)
noncomputable def isK (_o : Os) (a b : V) (k : Bool → Option R) : Option R := vCase (vCase (k true) no no no no1 no no no b) (fun x => vCase none (fun y => k (@Bool.rec (fun _ => Bool) (nt y) y x)) no no no1 no no no b) (fun _ => vCase (k false) no no no no1 no no no b) no no1 no no no a

/-! expressions -/
noncomputable def kSlot (i : Nat) : KX R := fun l o k => getK i l fun v => k v o
noncomputable def kConst (v : V) : KX R := fun _ o k => k v o
noncomputable def kBin (f : V → V → (V → Option R) → Option R) (a b : KX R) : KX R := fun l o k => a l o fun x o => b l o fun y o => f x y fun v => k v o
noncomputable def kAddl (a b : KX R) : KX R := fun l o k => a l o fun x o => b l o fun y o => itemsK o x fun xs => itemsK o y fun ys => app xs ys fun zs => slen zs fun _ => k (.list zs) o
noncomputable def kAddlM (a b : KX R) : KX R := fun l o k => a l o fun x o => b l o fun y o => itemsK o x fun xs => itemsK o y fun ys => app xs ys fun zs => slen zs fun _ => lenK o 0 fun n => app o [.list zs] fun o => k (.ref n) o
noncomputable def kCmp (f : Os → V → V → (Bool → Option R) → Option R) (a b : KX R) : KT R := fun l o k => a l o fun x o => b l o fun y o => f o x y fun v => k v o
noncomputable def kB (t : KT R) : KX R := fun l o k => t l o fun b o => k (.bool b) o
noncomputable def kAnd (x y : KX R) : KX R := fun l o k => x l o fun v o => vTruth v fun b => bfi b (y l o k) (k v o)
noncomputable def kOr (x y : KX R) : KX R := fun l o k => x l o fun v o => vTruth v fun b => bfi b (k v o) (y l o k)
noncomputable def kNot (x : KX R) : KX R := fun l o k => x l o fun v o => vTruth v fun b => k (.bool (nt b)) o
noncomputable def kNeg (x : KX R) : KX R := fun l o k => x l o fun v o => vInt v fun i => k (.int (Int.neg i)) o
noncomputable def placeK (n : Nat) (i : Int) (k : Nat → Option R) : Option R := iCase (fun m => onTrue (Nat.blt m n) (k m)) (fun m => onTrue (Nat.blt m n) (k (Nat.sub n (Nat.succ m)))) i
noncomputable def idxL (i : Int) (xs : List V) (k : V → Option R) : Option R := iCase (fun p => shortK p (nth p xs k)) no i
noncomputable def idxK (o : Os) (a i : V) (k : V → Option R) : Option R := vInt i fun j => vCase none no no
   (fun s => slen s fun n => placeK n j fun p => nth p s fun c => k (.str [c])) (fun _ s => slen s fun _ => iCase (fun p => nth p s fun c => k (.int (.ofNat c))) no j)
   (fun xs => idxL j xs k) (fun xs => slen xs fun n => placeK n j fun p => nth p xs k) (fun r => objK r o fun xs => idxL j xs k) a
noncomputable def kIdx (a i : KX R) : KX R := fun l o k => a l o fun x o => i l o fun y o => idxK o x y fun v => k v o
/-- x[i:] -/
noncomputable def sliceLo (o : Os) (x : V) (n : Nat) (k : V → Option R) : Option R := shortK n (vCase none no no (fun s => slen s fun _ => dropK n s fun t => k (.str t)) no1
  (fun xs => slen xs fun _ => dropK n xs fun t => k (.list t)) no (fun r => objK r o fun xs => slen xs fun _ => dropK n xs fun t => k (.list t)) x)
noncomputable def kSliceLo (a i : KX R) : KX R := fun l o k => a l o fun x o => i l o fun y o => vNat y fun n => sliceLo o x n fun v => k v o
/-- x[:i] of a list -/
noncomputable def kSliceHi (a i : KX R) : KX R := fun l o k => a l o fun x o => i l o fun y o => vNat y fun n => shortK n (itemsK o x fun xs => slen xs fun _ => takeK n xs fun t => k (.list t) o)
/-- x[i:j] of a list -/
noncomputable def kSlice2 (a i j : KX R) : KX R := fun l o k => a l o fun x o => i l o fun y o => j l o fun z o => vNat y fun m => vNat z fun n => shortK m (shortK n (itemsK o x fun xs => slen xs fun _ => takeK n xs fun t => dropK m t fun t => k (.list t) o))
noncomputable def kArgs (xs : List (KX R)) (l : Lc) (o : Os) (k : List V → Os → Option R) : Option R :=
  @List.rec (KX R) (fun _ => Os → (List V → Os → Option R) → Option R) (fun o k => k [] o) (fun x _ ih o k => x l o fun v o => ih o fun vs o => k (v :: vs) o) xs o k
noncomputable def kTup (xs : List (KX R)) : KX R := fun l o k => kArgs xs l o fun vs o => slen vs fun _ => k (.tuple vs) o
noncomputable def kListM (xs : List (KX R)) : KX R := fun l o k => kArgs xs l o fun vs o => slen vs fun _ => lenK o 0 fun n => app o [.list vs] fun o => k (.ref n) o
noncomputable def kList (xs : List (KX R)) : KX R := fun l o k => kArgs xs l o fun vs o => slen vs fun _ => k (.list vs) o
/-- a call; rest: the callee's slots behind the arguments -/
noncomputable def kCall (g : KS R) (rest : Lc) (xs : List (KX R)) : KX R := fun l o k => kArgs xs l o fun vs o => frzsK o vs fun us => app us rest fun l' => g l' [] no2 no2 fun v o' => frzK o' v fun w => onTrue (@Bool.rec (fun _ => Bool) (nrL vs) true (scalB w)) (k w o)
/-- a call that hands its first argument, a list, by reference -/
noncomputable def kCallR (g : KS R) (rest : Lc) (xs : List (KX R)) : KX R := fun l o k => kArgs xs l o fun vs o => lcase none (fun v us => vRef v fun r => objK r o fun ys => onTrue (nrL ys) (onTrue (nrL us)
  (frzsK [] us fun us => app us rest fun l' => g (some (.ref 0) :: l') [.list ys] (fun _ o' => lcase none (fun ob _ => oList (fun zs => onTrue (nrL zs) (upd r o (.list zs) fun o => k .none o)) ob) o') no2 (fun _ _ => none)))) vs
noncomputable def kLen (x : KX R) : KX R := fun l o k => x l o fun v o => vCase none no no (fun s => slen s fun n => k (.int (.ofNat n)) o) (fun _ s => slen s fun n => k (.int (.ofNat n)) o) (fun s => slen s fun n => k (.int (.ofNat n)) o) no (fun r => objK r o fun s => slen s fun n => k (.int (.ofNat n)) o) v
noncomputable def kOrd (x : KX R) : KX R := fun l o k => x l o fun v o => vStr v fun s => lcase none (fun c t => lcase (k (.int (.ofNat c)) o) (fun _ _ => none) t) s
/-- the other primitives -/
noncomputable def kPrim (p : Prim) (xs : List (KX R)) : KX R := fun l o k => kArgs xs l o fun vs o => @Option.rec (V × List O) (fun _ => Option R) none (fun r => @Prod.rec V (List O) (fun _ => Option R) k r) (prim o p vs)
noncomputable def kAppend (x y : KX R) : KX R := fun l o k => x l o fun v o => vRef v fun r => objK r o fun _ => y l o fun w o => objK r o fun xs => slen xs fun _ => app xs [w] fun ys => upd r o (.list ys) fun o => k .none o
noncomputable def kInsert (x i y : KX R) : KX R := fun l o k => x l o fun v o => vRef v fun r => objK r o fun _ => i l o fun p o => y l o fun w o => vNat p fun p => objK r o fun xs => slen xs fun n => onTrue (Nat.ble p n) (takeK p xs fun t => dropK p xs fun u => app t (w :: u) fun ys => upd r o (.list ys) fun o => k .none o)
noncomputable def findK (c : Nat) (s : List Nat) (n : Nat) (k : V → Option R) : Option R := @List.rec Nat (fun _ => Nat → Option R) (fun _ => k (.int (.negSucc 0))) (fun x _ ih n => bfi (Nat.beq x c) (k (.int (.ofNat n))) (ih (Nat.succ n))) s n
noncomputable def kFind (x : KX R) (c : Nat) : KX R := fun l o k => x l o fun v o => vStr v fun s => findK c s 0 fun v => k v o
noncomputable def kSearch (x : KX R) : KX R := fun l o k => x l o fun v o => vStr v fun s => onTrue (noIp s) (k .none o)

/-! tests -/
noncomputable def kTx (x : KX R) : KT R := fun l o k => x l o fun v o => vTruth v fun b => k b o
noncomputable def kTnot (x : KT R) : KT R := fun l o k => x l o fun v o => k (nt v) o
noncomputable def kTt : KT R := fun _ o k => k true o
noncomputable def kTf : KT R := fun _ o k => k false o
noncomputable def kTand (x y : KT R) : KT R := fun l o k => x l o fun v o => bfi v (y l o k) (k false o)
noncomputable def kTor (x y : KT R) : KT R := fun l o k => x l o fun v o => bfi v (k true o) (y l o k)
noncomputable def sameK (a b : V) (k : Bool → Option R) : Option R := vCase none (fun x => vCase none (fun y => k (@Bool.rec (fun _ => Bool) (nt y) y x)) no no no1 no no no b) no no
  (fun t x => onTrue t (vBytes b fun u y => onTrue u (k (eqN x y)))) no no no a
noncomputable def kTsame (i j : Nat) : KT R := fun l o k => getK i l fun a => getK j l fun b => sameK a b fun c => k c o

/-! loops -/
/-- going over something: X is what the loop carries besides the state -/
noncomputable abbrev KStep (R X : Type) := V → Lc → Os → X → (Lc → Os → X → Option R) → Option R
noncomputable abbrev KRest (R X : Type) := Lc → Os → X → Option R
noncomputable def goVals {X : Type} (xs : List V) (step : KStep R X) (fin : KRest R X) : KRest R X := @List.rec V (fun _ => KRest R X) fin (fun v _ ih l o x => step v l o x ih) xs
noncomputable def goRange {X : Type} (w : Nat) (n i : Nat) (step : KStep R X) (fin : KRest R X) : KRest R X := @Nat.rec (fun _ => Nat → KRest R X) (fun _ => fin) (fun _ ih i l o x => step (.int (.ofNat i)) l o x (ih (Nat.add i w))) n i
noncomputable def goEnum {X : Type} (i : Nat) (xs : List V) (step : KStep R X) (fin : KRest R X) : KRest R X := @List.rec V (fun _ => Nat → KRest R X) (fun _ => fin) (fun v _ ih i l o x => step (.tuple [.int (.ofNat i), v]) l o x (ih (Nat.succ i))) xs i
noncomputable def goChars {X : Type} (xs : List Nat) (step : KStep R X) (fin : KRest R X) : KRest R X := @List.rec Nat (fun _ => KRest R X) fin (fun v _ ih l o x => step (.str [v]) l o x ih) xs
noncomputable def goRef {X : Type} (r n i : Nat) (step : KStep R X) (fin : KRest R X) : KRest R X := @Nat.rec (fun _ => Nat → KRest R X) (fun _ _ _ _ => none) (fun _ ih i l o x => objK r o fun xs => nthD i xs (fin l o x) fun v => step v l o x (ih (Nat.succ i))) n i
noncomputable def goOf {X : Type} (v : V) (step : KStep R X) (fin : KRest R X) : KRest R X := fun l o x => vCase none no no (fun s => slen s fun _ => goChars s step fin l o x) no1 (fun xs => slen xs fun _ => goVals xs step fin l o x) (fun xs => slen xs fun _ => goVals xs step fin l o x)
  (fun r => objK r o fun xs => slen xs fun n => goRef r (Nat.succ n) 0 step fin l o x) v
/-- what a loop goes over, evaluated in one frame (l) and gone over in another (l') -/
noncomputable abbrev KIt (R X : Type) := Lc → Os → KStep R X → KRest R X → (Os → Lc) → X → Option R
noncomputable def itX {X : Type} (x : KX R) : KIt R X := fun l o step fin l' c => x l o fun v o => goOf v step fin (l' o) o c
noncomputable def itRange {X : Type} (x : KX R) : KIt R X := fun l o step fin l' c => x l o fun v o => vNat v fun n => shortK n (goRange 1 n 0 step fin (l' o) o c)
noncomputable def itRange3 {X : Type} (x y z : KX R) : KIt R X := fun l o step fin l' c => x l o fun a o => y l o fun b o => z l o fun d o => vNat a fun a => vNat b fun n => vNat d fun w => onTrue (Nat.beq a 0) (onTrue (Nat.ble 1 w) (shortK n (onTrue (Nat.ble w 65536) (goRange w (Nat.div (Nat.add n (Nat.sub w 1)) w) 0 step fin (l' o) o c))))
noncomputable def itEnum {X : Type} (x : KX R) : KIt R X := fun l o step fin l' c => x l o fun v o => vLR v (fun xs => slen xs fun _ => goEnum 0 xs step fin (l' o) o c) no
noncomputable abbrev KG (R : Type) := V → Lc → (Lc → Option R) → Option R
noncomputable def tgOne (i : Nat) : KG R := fun v l k => upd i l (some v) k
noncomputable def setMany (is : List Nat) (xs : List V) (l : Lc) (k : Lc → Option R) : Option R := @List.rec Nat (fun _ => List V → Lc → Option R) (fun xs l => lcase (k l) (fun _ _ => none) xs) (fun i _ ih xs l => lcase none (fun x t => upd i l (some x) fun l => ih t l) xs) is xs l
noncomputable def tgMany (is : List Nat) : KG R := fun v l k => vTuple v fun xs => setMany is xs l k
noncomputable def capK (c : List (Option Nat)) (l : Lc) : Lc := @List.rec (Option Nat) (fun _ => Lc) [] (fun x _ ih => @Option.rec Nat (fun _ => Lc) (none :: ih) (fun i => @Option.rec (Option V) (fun _ => Lc) (none :: ih) (fun v => v :: ih) l[i]?) x) c
noncomputable abbrev Acc (R : Type) := List V → Os → Option R
noncomputable def kComp (cap : Lc → (Lc → Option R) → Option R) (tg : KG R) (elt : KX R) (it : KIt R (Acc R)) (cond : KT R) : KX R := fun l o k => cap l fun l' =>
  it l o (fun v l o c nx => tg v l fun l => cond l o fun b o => bfi b (elt l o fun u o => nx l o fun us o => c (u :: us) o) (nx l o c)) (fun _ o c => c [] o) (fun _ => l') (fun us o => k (.list us) o)
noncomputable def capNil : Lc → (Lc → Option R) → Option R := fun _ k => k []
noncomputable def capNo (c : Lc → (Lc → Option R) → Option R) : Lc → (Lc → Option R) → Option R := fun l k => c l fun l' => k (none :: l')
noncomputable def capAt (i : Nat) (c : Lc → (Lc → Option R) → Option R) : Lc → (Lc → Option R) → Option R := fun l k => nth i l fun v => c l fun l' => k (v :: l')

/-! statements -/
noncomputable def kNil : KS R := fun l o kn _ _ => kn l o
noncomputable def kSeq (a b : KS R) : KS R := fun l o kn kb kr => a l o (fun l o => b l o kn kb kr) kb kr
noncomputable def kExpr (x : KX R) : KS R := fun l o kn _ _ => x l o fun v o => vCase (kn l o) no no no no1 no no no v
noncomputable def kAssign (i : Nat) (x : KX R) : KS R := fun l o kn _ _ => x l o fun v o => upd i l (some v) fun l => kn l o
noncomputable def setK (o : Os) (r j : Nat) (x : V) (k : Os → Option R) : Option R := nth r o fun ob => @O.rec (fun _ => Option R) (fun xs => slen xs fun _ => upd j xs x fun ys => upd r o (.list ys) k)
  (fun b => vNat x fun n => onTrue (Nat.ble n 255) (slen b fun _ => upd j b n fun b => upd r o (.barr b) k)) ob
noncomputable def kSetidx (x i y : KX R) : KS R := fun l o kn _ _ => y l o fun w o => x l o fun v o => i l o fun p o => vRef v fun r => vNat p fun j => setK o r j w fun o => kn l o
noncomputable def kAug (i : Nat) (x : KX R) : KS R := fun l o kn _ _ => getK i l fun old => x l o fun v o => vISB old (fun _ => addK old v fun w => upd i l (some w) fun l => kn l o) (fun _ => addK old v fun w => upd i l (some w) fun l => kn l o) no1
noncomputable def kAugidx (x i y : KX R) : KS R := fun l o kn _ _ => x l o fun v o => i l o fun p o => idxK o v p fun old => y l o fun w o => vInt old fun _ => addK old w fun w => vRef v fun r => vNat p fun j => setK o r j w fun o => kn l o
noncomputable def kIf (t : KT R) (a b : KS R) : KS R := fun l o kn kb kr => t l o fun c o => bfi c (a l o kn kb kr) (b l o kn kb kr)
noncomputable def kRet (x : KX R) : KS R := fun l o _ _ kr => x l o kr
noncomputable def kBrk : KS R := fun l o _ kb _ => kb l o
noncomputable def kFail : KS R := fun _ _ _ _ _ => none
noncomputable def kWhile (t : KT R) (b : KS R) : KS R := fun l o kn _ kr => @Nat.rec (fun _ => Lc → Os → Option R) (fun _ _ => none) (fun _ ih l o => t l o fun c o => bfi c (b l o ih kn kr) (kn l o)) 64 l o
noncomputable def kFor (tg : KG R) (it : KIt R Unit) (b e : KS R) : KS R := fun l o kn kb kr => it l o (fun v l o _ nx => tg v l fun l => b l o (fun l o => nx l o ⟨⟩) kn kr) (fun l o _ => e l o kn kb kr) (fun _ => l) ⟨⟩
end
end Mine
end
section
namespace Mine
noncomputable section
variable {R : Type}
noncomputable def k_is_HDN : KS R := (kSeq (kIf (kTx (kSearch (kSlot 0))) (kSeq (kRet (kConst (.bool false))) kNil) kNil) (kSeq (kIf (kCmp eqK (kSlot 0) (kConst (.str []))) (kSeq (kRet (kConst (.bool false))) kNil) kNil) (kSeq (kIf (kTor (kCmp eqK (kIdx (kSlot 0) (kConst (.int 0))) (kConst (.str [46]))) (kTor (kCmp eqK (kIdx (kSlot 0) (kNeg (kConst (.int 1)))) (kConst (.str [46]))) kTf)) (kSeq (kRet (kConst (.bool false))) kNil) kNil) (kSeq (kRet (kConst (.bool true))) kNil))))
noncomputable def k_reach : KS R := (kSeq (kAssign 1 (kFind (kSlot 0) 46)) (kSeq (kIf (kCmp geK (kSlot 1) (kConst (.int 0))) (kSeq (kAssign 2 (kSliceLo (kSlot 0) (kBin addK (kSlot 1) (kConst (.int 1))))) (kSeq (kAssign 1 (kFind (kSlot 2) 46)) (kSeq (kIf (kTand (kTx (kCall k_is_HDN [none] [(kSlot 0)])) (kTand (kTor (kCmp geK (kSlot 1) (kConst (.int 0))) (kTor (kCmp eqK (kSlot 2) (kConst (.str [108, 111, 99, 97, 108]))) kTf)) kTt)) (kSeq (kRet (kBin addK (kConst (.str [46])) (kSlot 2))) kNil) kNil) kNil))) kNil) (kSeq (kRet (kSlot 0)) kNil)))
noncomputable def k_bisect_left_b1 : KS R := (kSeq (kAssign 5 (kBin fdivK (kBin addK (kSlot 2) (kSlot 3)) (kConst (.int 2)))) (kSeq (kIf (kCmp ltK (kIdx (kSlot 0) (kSlot 5)) (kSlot 1)) (kSeq (kAssign 2 (kBin addK (kSlot 5) (kConst (.int 1)))) kNil) (kSeq (kAssign 3 (kSlot 5)) kNil)) kNil))
noncomputable def k_bisect_left_b2 : KS R := (kSeq (kAssign 5 (kBin fdivK (kBin addK (kSlot 2) (kSlot 3)) (kConst (.int 2)))) (kSeq kFail kNil))
noncomputable def k_bisect_left : KS R := (kSeq (kIf (kCmp ltK (kSlot 2) (kConst (.int 0))) (kSeq kFail kNil) kNil) (kSeq (kIf (kCmp isK (kSlot 3) (kConst .none)) (kSeq (kAssign 3 (kLen (kSlot 0))) kNil) kNil) (kSeq (kIf (kCmp isK (kSlot 4) (kConst .none)) (kSeq (kWhile (kCmp ltK (kSlot 2) (kSlot 3)) k_bisect_left_b1) kNil) (kSeq (kWhile (kCmp ltK (kSlot 2) (kSlot 3)) k_bisect_left_b2) kNil)) (kSeq (kRet (kSlot 2)) kNil))))
noncomputable def k_insort_left : KS R := (kSeq (kIf (kCmp isK (kSlot 4) (kConst .none)) (kSeq (kAssign 2 (kCall k_bisect_left [(some .none), none, none, none] [(kSlot 0), (kSlot 1), (kSlot 2), (kSlot 3)])) kNil) (kSeq kFail kNil)) (kSeq (kExpr (kInsert (kSlot 0) (kSlot 2) (kSlot 1))) kNil))
noncomputable def k_ge : KS R := (kSeq (kRet (kB (kCmp geK (kSlot 0) (kSlot 1)))) kNil)
noncomputable def k_add : KS R := (kSeq (kRet (kBin addK (kSlot 0) (kSlot 1))) kNil)
noncomputable def k_sub : KS R := (kSeq (kRet (kBin subK (kSlot 0) (kSlot 1))) kNil)
noncomputable def k_contains : KS R := (kSeq (kRet (kB (kCmp isinK (kSlot 1) (kSlot 0)))) kNil)
noncomputable def k_countOf_b1 : KS R := (kSeq (kIf (kTsame 3 1) (kSeq (kAug 2 (kConst (.int 1))) kNil) kNil) kNil)
noncomputable def k_countOf : KS R := (kSeq (kAssign 2 (kConst (.int 0))) (kSeq (kFor (tgOne 3) (itX (kSlot 0)) k_countOf_b1 kNil) (kSeq (kRet (kSlot 2)) kNil)))
noncomputable def k_indexOf_b1 : KS R := (kSeq (kIf (kTsame 3 1) (kSeq (kRet (kSlot 2)) kNil) kNil) kNil)
noncomputable def k_indexOf : KS R := (kSeq (kFor (tgMany [2, 3]) (itEnum (kSlot 0)) k_indexOf_b1 (kSeq kFail kNil)) kNil)
noncomputable def k_byteswap_b1 : KS R := (kSeq (kSetidx (kSlot 2) (kBin subK (kBin subK (kBin addK (kSlot 3) (kSlot 1)) (kConst (.int 1))) (kSlot 4)) (kIdx (kSlot 0) (kBin addK (kSlot 3) (kSlot 4)))) kNil)
noncomputable def k_byteswap_b2 : KS R := (kSeq (kFor (tgOne 4) (itRange (kSlot 1)) k_byteswap_b1 kNil) kNil)
noncomputable def k_byteswap : KS R := (kSeq (kAssign 2 (kPrim .bytearray [(kLen (kSlot 0))])) (kSeq (kFor (tgOne 3) (itRange3 (kConst (.int 0)) (kLen (kSlot 0)) (kSlot 1)) k_byteswap_b2 kNil) (kSeq (kRet (kPrim .bytes [(kSlot 2)])) kNil)))
noncomputable def k_size : KS R := (kSeq (kRet (kBin addK (kBin addK (kBin addK (kBin modK (kSlot 0) (kConst (.int 2))) (kBin modK (kBin fdivK (kSlot 0) (kConst (.int 2))) (kConst (.int 2)))) (kBin modK (kBin fdivK (kSlot 0) (kConst (.int 4))) (kConst (.int 2)))) (kBin modK (kBin fdivK (kSlot 0) (kConst (.int 8))) (kConst (.int 2))))) kNil)
noncomputable def k_books_b1_s1 : KS R := (kAugidx (kSlot 1) (kBin modK (kSlot 2) (kConst (.int 3))) (kBin modK (kSlot 3) (kConst (.int 1000000))))
noncomputable def k_books_b1 : KS R := (kSeq k_books_b1_s1 kNil)
noncomputable def k_books_b2_s1 : KS R := (kIf (kCmp isinK (kCall k_size [] [(kSlot 7)]) (kTup [(kConst (.int 2)), (kConst (.int 3))])) (kSeq (kIf (kCmp eqK (kComp (capNo (capNo (capAt 7 capNil))) (tgOne 1) (kSlot 1) (itX (kSlot 6)) (kTand (kTor (kCmp eqK (kSlot 1) (kSlot 2)) (kTor (kCmp notinK (kBin bandK (kSlot 2) (kSlot 1)) (kTup [(kConst (.int 0)), (kSlot 2), (kSlot 1)])) kTf)) kTt)) (kList [])) (kSeq (kExpr (kAppend (kSlot 6) (kSlot 7))) kNil) kNil) kNil) kNil)
noncomputable def k_books_b2 : KS R := (kSeq k_books_b2_s1 kNil)
noncomputable def k_books_b3_s1 : KS R := (kAssign 6 (kListM []))
noncomputable def k_books_b3_s2 : KS R := (kFor (tgOne 7) (itX (kList [(kBin modK (kSlot 5) (kConst (.int 16))), (kBin modK (kBin fdivK (kSlot 5) (kConst (.int 16))) (kConst (.int 16))), (kBin modK (kBin fdivK (kSlot 5) (kConst (.int 256))) (kConst (.int 16)))])) k_books_b2 kNil)
noncomputable def k_books_b3_s3 : KS R := (kExpr (kAppend (kSlot 4) (kSlot 6)))
noncomputable def k_books_b3 : KS R := (kSeq k_books_b3_s1 (kSeq k_books_b3_s2 (kSeq k_books_b3_s3 kNil)))
noncomputable def k_books_s1 : KS R := (kAssign 1 (kListM [(kConst (.int 115)), (kConst (.int 195)), (kConst (.int 6))]))
noncomputable def k_books_s2 : KS R := (kFor (tgMany [2, 3]) (itEnum (kSliceHi (kSlot 0) (kConst (.int 24)))) k_books_b1 kNil)
noncomputable def k_books_s3 : KS R := (kAssign 4 (kListM []))
noncomputable def k_books_s4 : KS R := (kFor (tgOne 5) (itX (kSlot 1)) k_books_b3 kNil)
noncomputable def k_books_s5 : KS R := (kRet (kSlot 4))
noncomputable def k_books : KS R := (kSeq k_books_s1 (kSeq k_books_s2 (kSeq k_books_s3 (kSeq k_books_s4 (kSeq k_books_s5 kNil)))))
noncomputable def k_hosts_b1 : KS R := (kSeq (kIf (kTand (kCmp eqK (kBin modK (kBin fdivK (kIdx (kSlot 0) (kSlot 7)) (kBin powK (kConst (.int 2)) (kSlot 4))) (kConst (.int 2))) (kConst (.int 1))) (kTand (kCmp eqK (kCall k_size [] [(kIdx (kSlot 0) (kSlot 7))]) (kSlot 6)) kTt)) (kSeq (kAssign 5 (kBin addK (kBin addK (kSlot 5) (kConst (.str [46]))) (kIdx (kSlot 1) (kSlot 7)))) kNil) kNil) kNil)
noncomputable def k_hosts_b2 : KS R := (kSeq (kFor (tgOne 7) (itRange (kLen (kSlot 0))) k_hosts_b1 kNil) kNil)
noncomputable def k_hosts_b3 : KS R := (kSeq (kAssign 5 (kIdx (kConst (.str [97, 98, 99, 100])) (kSlot 4))) (kSeq (kFor (tgOne 6) (itX (kTup [(kConst (.int 2)), (kConst (.int 3))])) k_hosts_b2 kNil) (kSeq (kExpr (kAppend (kSlot 3) (kBin addK (kSlot 5) (kSlot 2)))) kNil)))
noncomputable def k_hosts : KS R := (kSeq (kAssign 3 (kListM [])) (kSeq (kFor (tgOne 4) (itRange (kConst (.int 4))) k_hosts_b3 kNil) (kSeq (kRet (kSlot 3)) kNil)))
noncomputable def k_climb_b1 : KS R := (kSeq (kAssign 7 (kCall k_reach [none, none, none] [(kSlot 5)])) (kSeq (kIf (kCmp eqK (kSlot 7) (kSlot 5)) (kSeq kBrk kNil) kNil) (kSeq (kIf (kTor (kTnot (kTx (kCall k_contains [] [(kSlot 2), (kSlot 7)]))) (kTor (kTx (kCall k_contains [] [(kSlot 4), (kSlot 7)])) kTf)) (kSeq (kExpr (kAppend (kSlot 2) (kSlot 7))) kNil) kNil) (kSeq (kExpr (kAppend (kSlot 4) (kSlot 7))) (kSeq (kAssign 5 (kSliceLo (kSlot 7) (kConst (.int 1)))) kNil)))))
noncomputable def k_climb_b2 : KS R := (kSeq (kAssign 4 (kListM [])) (kSeq (kAssign 5 (kSlot 3)) (kSeq (kFor (tgOne 6) (itRange (kConst (.int 3))) k_climb_b1 kNil) (kSeq (kExpr (kAppend (kSlot 1) (kSlot 4))) kNil))))
noncomputable def k_climb : KS R := (kSeq (kAssign 1 (kListM [])) (kSeq (kAssign 2 (kListM [])) (kSeq (kFor (tgOne 3) (itX (kSlot 0)) k_climb_b2 kNil) (kSeq (kRet (kComp (capNo (capNo (capAt 1 capNil))) (tgOne 1) (kTup [(kSlot 1), (kComp (capNo (capNo (capNo (capAt 1 capNil)))) (tgOne 1) (kCall k_contains [] [(kSlot 1), (kSlot 3)]) (itX (kSlot 2)) kTt)]) (itX (kSlot 2)) kTt)) kNil))))
noncomputable def k_set : KS R := (kSeq (kRet (kPrim .sum [(kComp (capNo (capNo (capAt 0 capNil))) (tgOne 1) (kBin powK (kConst (.int 2)) (kSlot 1)) (itRange (kConst (.int 4))) (kTand (kTx (kIdx (kSlot 2) (kSlot 1))) kTt))])) kNil)
noncomputable def k_turned : KS R := (kSeq (kAssign 1 (kPrim .bytes [(kComp (capNo (capNo (capNo capNil))) (tgOne 1) (kOrd (kSlot 1)) (itX (kSlot 0)) kTt)])) (kSeq (kRet (kCall k_byteswap [none, none, none, none, none, none, none] [(kSlot 1), (kLen (kSlot 1))])) kNil))
noncomputable def k_nearest_b1_s1 : KS R := (kIf (kCmp isinK (kBin bandK (kIdx (kSlot 1) (kSlot 3)) (kSlot 4)) (kTup [(kConst (.int 0)), (kIdx (kSlot 1) (kSlot 3)), (kSlot 4)])) (kSeq (kExpr (kAppend (kSlot 2) (kList [(kIdx (kSlot 1) (kSlot 3)), (kSlot 4)]))) kNil) kNil)
noncomputable def k_nearest_b1 : KS R := (kSeq k_nearest_b1_s1 kNil)
noncomputable def k_nearest_b2_s1 : KS R := (kFor (tgOne 4) (itX (kSliceLo (kSlot 1) (kBin addK (kSlot 3) (kConst (.int 1))))) k_nearest_b1 kNil)
noncomputable def k_nearest_b2 : KS R := (kSeq k_nearest_b2_s1 kNil)
noncomputable def k_nearest_b3_s1 : KS R := (kAug 8 (kBin subK (kBin addK (kLen (kSlot 7)) (kLen (kSlot 9))) (kBin mulK (kConst (.int 2)) (kLen (kComp (capNo (capNo (capAt 9 capNil))) (tgOne 1) (kSlot 1) (itX (kSlot 7)) (kTand (kCmp isinK (kSlot 1) (kSlot 2)) kTt))))))
noncomputable def k_nearest_b3 : KS R := (kSeq k_nearest_b3_s1 kNil)
noncomputable def k_nearest_b4_s1 : KS R := (kAssign 8 (kConst (.int 0)))
noncomputable def k_nearest_b4_s2 : KS R := (kFor (tgOne 9) (itX (kSlot 0)) k_nearest_b3 kNil)
noncomputable def k_nearest_b4_s3 : KS R := (kIf (kCmp ltK (kSlot 8) (kSlot 5)) (kSeq (kAssign 5 (kSlot 8)) (kSeq (kAssign 6 (kListM [(kSlot 7)])) kNil)) (kSeq (kIf (kCmp eqK (kSlot 8) (kSlot 5)) (kSeq (kExpr (kAppend (kSlot 6) (kSlot 7))) kNil) kNil) kNil))
noncomputable def k_nearest_b4 : KS R := (kSeq k_nearest_b4_s1 (kSeq k_nearest_b4_s2 (kSeq k_nearest_b4_s3 kNil)))
noncomputable def k_nearest_s1 : KS R := (kAssign 1 (kListM [(kConst (.int 3)), (kConst (.int 5)), (kConst (.int 6)), (kConst (.int 7)), (kConst (.int 9)), (kConst (.int 10)), (kConst (.int 11)), (kConst (.int 12)), (kConst (.int 13)), (kConst (.int 14))]))
noncomputable def k_nearest_s2 : KS R := (kAssign 2 (kAddlM (kList [(kList [])]) (kComp (capNo (capNo capNil)) (tgOne 1) (kList [(kSlot 1)]) (itX (kSlot 1)) kTt)))
noncomputable def k_nearest_s3 : KS R := (kFor (tgOne 3) (itRange (kConst (.int 10))) k_nearest_b2 kNil)
noncomputable def k_nearest_s4 : KS R := (kAssign 5 (kConst (.int 99)))
noncomputable def k_nearest_s5 : KS R := (kAssign 6 (kListM []))
noncomputable def k_nearest_s6 : KS R := (kFor (tgOne 7) (itX (kSlot 2)) k_nearest_b4 kNil)
noncomputable def k_nearest_s7 : KS R := (kRet (kSlot 6))
noncomputable def k_nearest : KS R := (kSeq k_nearest_s1 (kSeq k_nearest_s2 (kSeq k_nearest_s3 (kSeq k_nearest_s4 (kSeq k_nearest_s5 (kSeq k_nearest_s6 (kSeq k_nearest_s7 kNil)))))))
noncomputable def k_law_b1_s1 : KS R := (kExpr (kCallR k_insort_left [(some (.int 0)), (some .none), (some .none), none] [(kSlot 7), (kSlot 8)]))
noncomputable def k_law_b1 : KS R := (kSeq k_law_b1_s1 kNil)
noncomputable def k_law_b2_s1 : KS R := (kAssign 12 (kCall k_turned [none, none, none, none] [(kSlot 10)]))
noncomputable def k_law_b2_s2 : KS R := (kAssign 13 (kCall k_bisect_left [(some (.int 0)), (some .none), (some .none), none, none, none] [(kSlot 7), (kSlot 12)]))
noncomputable def k_law_b2_s3 : KS R := (kAssign 14 (kCall k_bisect_left [(some (.int 0)), (some .none), (some .none), none, none, none] [(kSlot 7), (kCall k_add [] [(kSlot 12), (kConst (.bytes false [126]))])]))
noncomputable def k_law_b2_s4 : KS R := (kIf (kCmp neK (kComp (capNo (capNo (capNo (capAt 14 (capAt 7 (capAt 13 capNil)))))) (tgOne 1) (kCall k_contains [] [(kSlice2 (kSlot 4) (kSlot 5) (kSlot 3)), (kSlot 1)]) (itX (kSlot 6)) kTt) (kSlot 11)) (kSeq (kRet (kConst (.bool false))) kNil) kNil)
noncomputable def k_law_b2_s5 : KS R := (kExpr (kAppend (kSlot 9) (kTup [(kSlot 13), (kSlot 14)])))
noncomputable def k_law_b2 : KS R := (kSeq k_law_b2_s1 (kSeq k_law_b2_s2 (kSeq k_law_b2_s3 (kSeq k_law_b2_s4 (kSeq k_law_b2_s5 kNil)))))
noncomputable def k_law_b3_s1 : KS R := (kAssign 4 (kCall k_hosts [none, none, none, none, none, none, none, none] [(kIdx (kSlot 1) (kSlot 3)), (kIdx (kList [(kConst (.str [107, 122])), (kConst (.str [55, 107])), (kConst (.str [97, 98]))]) (kSlot 3)), (kConst (.str [46, 108, 111, 99, 97, 108]))]))
noncomputable def k_law_b3_s2 : KS R := (kAssign 5 (kCall k_climb [none, none, none, none, none, none, none, none, none, none] [(kSlot 4)]))
noncomputable def k_law_b3_s3 : KS R := (kIf (kCmp neK (kPrim .sorted [(kComp (capNo (capNo (capNo capNil))) (tgOne 1) (kCall k_set [none, none] [(kIdx (kSlot 1) (kConst (.int 1)))]) (itX (kSlot 5)) kTt)]) (kPrim .sorted [(kAddl (kIdx (kSlot 1) (kSlot 3)) (kList [(kConst (.int 15))]))])) (kSeq (kRet (kConst (.bool false))) kNil) kNil)
noncomputable def k_law_b3_s4 : KS R := (kAssign 6 (kComp (capNo (capNo (capNo capNil))) (tgOne 1) (kCall k_turned [none, none, none, none] [(kSlot 1)]) (itX (kSlot 4)) kTt))
noncomputable def k_law_b3_s5 : KS R := (kAssign 7 (kListM []))
noncomputable def k_law_b3_s6 : KS R := (kFor (tgOne 8) (itX (kSlot 6)) k_law_b1 kNil)
noncomputable def k_law_b3_s7 : KS R := (kAssign 9 (kListM []))
noncomputable def k_law_b3_s8 : KS R := (kFor (tgMany [10, 11]) (itX (kSlot 5)) k_law_b2 kNil)
noncomputable def k_law_b3_s9 : KS R := (kExpr (kAppend (kSlot 2) (kTup [(kSlot 5), (kSlot 9), (kComp (capNo (capNo (capNo (capAt 7 capNil)))) (tgOne 1) (kCall k_indexOf [none, none, none, none] [(kSlot 3), (kSlot 1)]) (itX (kSlot 6)) kTt)])))
noncomputable def k_law_b3 : KS R := (kSeq k_law_b3_s1 (kSeq k_law_b3_s2 (kSeq k_law_b3_s3 (kSeq k_law_b3_s4 (kSeq k_law_b3_s5 (kSeq k_law_b3_s6 (kSeq k_law_b3_s7 (kSeq k_law_b3_s8 (kSeq k_law_b3_s9 kNil)))))))))
noncomputable def k_law_b4_s1 : KS R := (kAssign 19 (kComp (capNo (capNo (capAt 11 (capAt 18 capNil)))) (tgOne 1) (kIdx (kIdx (kSlot 3) (kConst (.int 2))) (kSlot 1)) (itRange (kConst (.int 4))) (kTand (kTx (kIdx (kSlot 2) (kSlot 1))) kTt)))
noncomputable def k_law_b4_s2 : KS R := (kAssign 13 (kPrim .min [(kSlot 19)]))
noncomputable def k_law_b4_s3 : KS R := (kAssign 14 (kBin addK (kPrim .max [(kSlot 19)]) (kConst (.int 1))))
noncomputable def k_law_b4_s4 : KS R := (kExpr (kAppend (kSlot 17) (kAnd (kB (kCmp eqK (kCall k_sub [] [(kSlot 14), (kSlot 13)]) (kLen (kSlot 19)))) (kCall k_contains [] [(kIdx (kSlot 18) (kConst (.int 1))), (kTup [(kSlot 13), (kSlot 14)])]))))
noncomputable def k_law_b4 : KS R := (kSeq k_law_b4_s1 (kSeq k_law_b4_s2 (kSeq k_law_b4_s3 (kSeq k_law_b4_s4 kNil))))
noncomputable def k_law_b5_s1 : KS R := (kAssign 17 (kListM []))
noncomputable def k_law_b5_s2 : KS R := (kFor (tgOne 18) (itX (kSlot 2)) k_law_b4 kNil)
noncomputable def k_law_b5_s3 : KS R := (kAssign 20 (kCall k_set [none, none] [(kSlot 11)]))
noncomputable def k_law_b5_s4 : KS R := (kIf (kCmp neK (kSlot 17) (kComp (capNo (capNo (capAt 20 capNil))) (tgOne 1) (kB (kCmp isinK (kSlot 2) (kAddl (kSlot 1) (kList [(kConst (.int 15))])))) (itX (kSlot 1)) kTt)) (kSeq (kRet (kConst (.bool false))) kNil) kNil)
noncomputable def k_law_b5_s5 : KS R := (kIf (kTand (kCmp neK (kSlot 20) (kConst (.int 15))) (kTand (kTx (kCall k_ge [] [(kCall k_countOf [none, none] [(kSlot 17), (kConst (.bool true))]), (kConst (.int 2))])) (kTand (kTnot (kTx (kCall k_contains [] [(kSlot 15), (kSlot 20)]))) kTt))) (kSeq (kExpr (kAppend (kSlot 15) (kSlot 20))) kNil) kNil)
noncomputable def k_law_b5 : KS R := (kSeq k_law_b5_s1 (kSeq k_law_b5_s2 (kSeq k_law_b5_s3 (kSeq k_law_b5_s4 (kSeq k_law_b5_s5 kNil)))))
noncomputable def k_law_b6_s1 : KS R := (kFor (tgMany [10, 11]) (itX (kSlot 5)) k_law_b5 kNil)
noncomputable def k_law_b6 : KS R := (kSeq k_law_b6_s1 kNil)
noncomputable def k_law_s1 : KS R := (kAssign 1 (kCall k_books [none, none, none, none, none, none, none, none, none] [(kSlot 0)]))
noncomputable def k_law_s2 : KS R := (kAssign 2 (kListM []))
noncomputable def k_law_s3 : KS R := (kFor (tgOne 3) (itRange (kConst (.int 3))) k_law_b3 kNil)
noncomputable def k_law_s4 : KS R := (kAssign 15 (kListM []))
noncomputable def k_law_s5 : KS R := (kFor (tgMany [5, 9, 16]) (itX (kSlot 2)) k_law_b6 kNil)
noncomputable def k_law_s6 : KS R := (kAssign 21 (kCall k_hosts [none, none, none, none, none, none, none, none] [(kPrim .sorted [(kSlot 15)]), (kConst (.str [112, 113])), (kConst (.str [46, 111, 114, 103]))]))
noncomputable def k_law_s7 : KS R := (kAssign 22 (kComp (capNo (capNo (capNo capNil))) (tgOne 1) (kCall k_add [] [(kSlot 1), (kConst (.str [46]))]) (itX (kSlot 21)) kTt))
noncomputable def k_law_s8 : KS R := (kIf (kCmp neK (kComp (capNo (capNo (capNo capNil))) (tgOne 1) (kCall k_reach [none, none, none] [(kSlot 1)]) (itX (kSlot 22)) kTt) (kSlot 22)) (kSeq (kRet (kConst (.bool false))) kNil) kNil)
noncomputable def k_law_s9 : KS R := (kAssign 23 (kComp (capNo (capNo (capNo capNil))) (tgOne 1) (kCall k_set [none, none] [(kIdx (kSlot 1) (kConst (.int 1)))]) (itX (kCall k_climb [none, none, none, none, none, none, none, none, none, none] [(kSlot 21)])) kTt))
noncomputable def k_law_s10 : KS R := (kRet (kB (kCmp eqK (kList [(kPrim .sorted [(kSlot 23)])]) (kCall k_nearest [none, none, none, none, none, none, none, none, none, none, none] [(kSlot 1)]))))
noncomputable def k_law : KS R := (kSeq k_law_s1 (kSeq k_law_s2 (kSeq k_law_s3 (kSeq k_law_s4 (kSeq k_law_s5 (kSeq k_law_s6 (kSeq k_law_s7 (kSeq k_law_s8 (kSeq k_law_s9 (kSeq k_law_s10 kNil))))))))))
end
end Mine
end
section
namespace Mine
section
variable {R : Type}
theorem onTrue_inv {b : Bool} {s : Option R} {r : R} (h : onTrue b s = some r) : b = true ∧ s = some r := by
  cases b
  · (first | exact nos h | cases h)
  · exact ⟨rfl, h⟩
theorem nt_eq (b : Bool) : nt b = !b := by cases b <;> rfl
theorem an_eq (a b : Bool) : an a b = (a && b) := by cases a <;> rfl
theorem lcase_inv {α R : Type} {c : α → List α → Option R} {l : List α} {r : R} (h : lcase none c l = some r) : ∃ x t, l = x :: t ∧ c x t = some r := by
  cases l with
  | nil => exact nos h
  | cons x t => exact ⟨x, t, rfl, h⟩
theorem lend_inv {α R : Type} {k : Option R} {l : List α} {r : R} (h : lcase k (fun _ _ => none) l = some r) : l = [] ∧ k = some r := by
  cases l with
  | nil => exact ⟨rfl, h⟩
  | cons x t => exact nos h
theorem oList_inv {R : Type} {k : List V → Option R} {o : O} {r : R} (h : oList k o = some r) : ∃ l, o = .list l ∧ k l = some r := by
  cases o with
  | list l => exact ⟨l, rfl, h⟩
  | barr b => exact nos h
theorem vInt_inv {v : V} {k : Int → Option R} {r : R} (h : vInt v k = some r) : ∃ i, v = .int i ∧ k i = some r := by
  cases v <;> first | exact ⟨_, rfl, h⟩ | cases h
theorem iCase_inv {p : Nat → Option R} {i : Int} {r : R} (h : iCase p no i = some r) : ∃ n, i = .ofNat n ∧ p n = some r := by
  cases i <;> first | exact ⟨_, rfl, h⟩ | cases h
theorem vNat_inv {v : V} {k : Nat → Option R} {r : R} (h : vNat v k = some r) : ∃ i, v = .int (.ofNat i) ∧ k i = some r := by
  replace h := vInt_inv h
  obtain ⟨i, rfl, h⟩ := h
  replace h := iCase_inv h
  obtain ⟨n, rfl, h⟩ := h
  exact ⟨n, rfl, h⟩
theorem vStr_inv {v : V} {k : List Nat → Option R} {r : R} (h : vStr v k = some r) : ∃ i, v = .str i ∧ k i = some r := by
  cases v <;> first | exact ⟨_, rfl, h⟩ | cases h
theorem vRef_inv {v : V} {k : Nat → Option R} {r : R} (h : vRef v k = some r) : ∃ i, v = .ref i ∧ k i = some r := by
  cases v <;> first | exact ⟨_, rfl, h⟩ | cases h
theorem vTuple_inv {v : V} {k : List V → Option R} {r : R} (h : vTuple v k = some r) : ∃ i, v = .tuple i ∧ k i = some r := by
  cases v <;> first | exact ⟨_, rfl, h⟩ | cases h
theorem vBytes_inv {v : V} {k : Bool → List Nat → Option R} {r : R} (h : vBytes v k = some r) : ∃ t i, v = .bytes t i ∧ k t i = some r := by
  cases v <;> first | exact ⟨_, _, rfl, h⟩ | cases h
theorem vTruth_inv {v : V} {k : Bool → Option R} {r : R} (h : vTruth v k = some r) : ∃ b, truth v = some b ∧ k b = some r := by
  cases v <;> first | exact ⟨_, rfl, h⟩ | cases h
theorem nth_inv {α : Type} {i : Nat} {l : List α} {k : α → Option R} {r : R} (h : nth i l k = some r) : ∃ x, l[i]? = some x ∧ k x = some r := by
  induction i generalizing l with
  | zero => cases l with
    | nil => cases h
    | cons x t => exact ⟨x, rfl, h⟩
  | succ i ih => cases l with
    | nil => cases h
    | cons x t => exact ih (l := t) h
theorem nthD_eq {α : Type} {i : Nat} {l : List α} {d : Option R} {k : α → Option R} : nthD i l d k = match l[i]? with | some x => k x | none => d := by
  induction i generalizing l with
  | zero => cases l <;> rfl
  | succ i ih => cases l with
    | nil => rfl
    | cons x t => exact ih (l := t)
theorem upd_inv {α : Type} {i : Nat} {l : List α} {v : α} {k : List α → Option R} {r : R} (h : upd i l v k = some r) : i < l.length ∧ k (l.set i v) = some r := by
  induction i generalizing l k with
  | zero => cases l with
    | nil => cases h
    | cons x t => exact ⟨Nat.zero_lt_succ _, h⟩
  | succ i ih => cases l with
    | nil => cases h
    | cons x t => obtain ⟨a, b⟩ := ih (l := t) h; exact ⟨Nat.succ_lt_succ a, b⟩
theorem app_eq {α : Type} (l m : List α) (k : List α → Option R) : app l m k = k (l ++ m) := by
  induction l generalizing k with
  | nil => rfl
  | cons x t ih => exact ih (k := fun t => k (x :: t))
theorem lenK_eq {α : Type} (l : List α) (n : Nat) (k : Nat → Option R) : lenK l n k = k (n + l.length) := by
  induction l generalizing n with
  | nil => rfl
  | cons x t ih => exact (ih (n := Nat.succ n)).trans (by rw [List.length_cons]; congr 1; omega)
theorem dropK_eq {α : Type} (i : Nat) (l : List α) (k : List α → Option R) : dropK i l k = k (l.drop i) := by
  induction i generalizing l with
  | zero => rfl
  | succ i ih => cases l with
    | nil => rfl
    | cons x t => exact ih (l := t)
theorem takeK_eq {α : Type} (i : Nat) (l : List α) (k : List α → Option R) : takeK i l k = k (l.take i) := by
  induction i generalizing l k with
  | zero => rfl
  | succ i ih => cases l with
    | nil => rfl
    | cons x t => exact ih (l := t) (k := fun t => k (x :: t))
theorem getK_inv {i : Nat} {l : Lc} {k : V → Option R} {r : R} (h : getK i l k = some r) : ∃ v, l[i]? = some (some v) ∧ k v = some r := by
  obtain ⟨x, e, h⟩ := nth_inv h
  cases x with
  | none => cases h
  | some v => exact ⟨v, e, h⟩
theorem objK_inv {i : Nat} {o : Os} {k : List V → Option R} {r : R} (h : objK i o k = some r) : ∃ xs, o[i]? = some (.list xs) ∧ k xs = some r := by
  obtain ⟨x, e, h⟩ := nth_inv h
  cases x with
  | list xs => exact ⟨xs, e, h⟩
  | barr b => cases h
theorem itemsK_inv {o : Os} {v : V} {k : List V → Option R} {r : R} (h : itemsK o v k = some r) : ∃ xs, itemsOf o v = some xs ∧ k xs = some r := by
  cases v <;> first | exact ⟨_, rfl, h⟩ | cases h | skip
  case ref i => obtain ⟨xs, e, h⟩ := objK_inv h; exact ⟨xs, by simp only [itemsOf, e], h⟩
theorem blt_of {n : Nat} (h : Nat.ble n 65535 = true) : Nat.blt n bigN = true := by
  have := Nat.le_of_ble_eq_true h
  exact Nat.ble_eq_true_of_le (by show n + 1 ≤ 65536; omega)
theorem shortK_inv {n : Nat} {s : Option R} {r : R} (h : shortK n s = some r) : Nat.blt n bigN = true ∧ s = some r := by
  obtain ⟨a, h⟩ := onTrue_inv h; exact ⟨blt_of a, h⟩
theorem slen_inv {α : Type} {l : List α} {k : Nat → Option R} {r : R} (h : slen l k = some r) : Nat.blt l.length bigN = true ∧ k l.length = some r := by
  unfold slen at h; rw [lenK_eq, Nat.zero_add] at h; exact shortK_inv h
theorem bfi_inv {b : Bool} {s t : Option R} {r : R} (h : bfi b s t = some r) : (b = true ∧ s = some r) ∨ (b = false ∧ t = some r) := by
  cases b
  · exact .inr ⟨rfl, h⟩
  · exact .inl ⟨rfl, h⟩

theorem okIB_eq (i : Int) : okIB i = okI i := by
  cases i with
  | ofNat n =>
    show Nat.ble n 18446744073709551615 = Nat.ble (n + 1) 18446744073709551616
    rw [Bool.eq_iff_iff]; constructor
    · intro h; have := Nat.le_of_ble_eq_true h; exact Nat.ble_eq_true_of_le (by omega)
    · intro h; have := Nat.le_of_ble_eq_true h; exact Nat.ble_eq_true_of_le (by omega)
  | negSucc n =>
    show Nat.ble n 18446744073709551614 = Nat.ble (n + 1 + 1) 18446744073709551616
    rw [Bool.eq_iff_iff]; constructor
    · intro h; have := Nat.le_of_ble_eq_true h; exact Nat.ble_eq_true_of_le (by omega)
    · intro h; have := Nat.le_of_ble_eq_true h; exact Nat.ble_eq_true_of_le (by omega)
theorem okIK_inv {i : Int} {s : Option R} {r : R} (h : okIK i s = some r) : okI i = true ∧ s = some r := by
  obtain ⟨a, h⟩ := onTrue_inv h; exact ⟨okIB_eq i ▸ a, h⟩
theorem ble_blt (c n : Nat) : Nat.ble c n = Nat.blt c (n + 1) := by
  rw [Bool.eq_iff_iff]; constructor
  · intro h; have := Nat.le_of_ble_eq_true h; exact Nat.ble_eq_true_of_le (by omega)
  · intro h; have := Nat.le_of_ble_eq_true h; exact Nat.ble_eq_true_of_le (by omega)
theorem okS_eq : ∀ s : List Nat, okS s = s.all fun c => Nat.blt c 1114112
  | [] => rfl
  | c :: s => by rw [List.all_cons, ← okS_eq s]; show an (Nat.ble c 1114111) (okS s) = _; rw [an_eq, ble_blt]
theorem eqN_eq : ∀ s t : List Nat, eqN s t = eqNats s t
  | [], [] => rfl
  | [], _ :: _ => rfl
  | _ :: _, [] => rfl
  | c :: s, d :: t => by
    show an (Nat.beq c d) (eqN s t) = _
    rw [an_eq, eqN_eq s t, eqNats]; cases Nat.beq c d <;> rfl
theorem ltN_eq : ∀ s t : List Nat, ltN s t = ltNats s t
  | [], [] => rfl
  | [], _ :: _ => rfl
  | _ :: _, [] => rfl
  | c :: s, d :: t => by
    show @Bool.rec (fun _ => Bool) (Nat.blt c d) (ltN s t) (Nat.beq c d) = _
    rw [ltN_eq s t, ltNats]; cases Nat.beq c d <;> rfl
theorem eqI_eq (a b : Int) : eqI a b = eqInt a b := by cases a <;> cases b <;> rfl
theorem ltI_eq (a b : Int) : ltI a b = ltInt a b := by cases a <;> cases b <;> rfl
mutual
theorem nrB_eq : ∀ v : V, nrB v = noRef v
  | .none | .bool _ | .int _ | .str _ | .bytes _ _ | .ref _ => rfl
  | .list xs => nrM_eq xs
  | .tuple xs => nrM_eq xs
theorem nrM_eq : ∀ xs : List V, @V.rec_1 (fun _ => Bool) (fun _ => Bool) true (fun _ => true) (fun _ => true) (fun _ => true) (fun _ _ => true) (fun _ ih => ih) (fun _ ih => ih) (fun _ => false) true (fun _ _ ih1 ih2 => an ih1 ih2) xs = noRefs xs
  | [] => rfl
  | x :: xs => by
    show an (nrB x) _ = (noRef x && noRefs xs)
    rw [nrB_eq x, nrM_eq xs, an_eq]
end
theorem nrL_eq : ∀ xs : List V, nrL xs = noRefs xs
  | [] => rfl
  | x :: xs => by show an (nrB x) (nrL xs) = (noRef x && noRefs xs); rw [nrB_eq, nrL_eq xs, an_eq]
theorem scalB_eq (v : V) : scalB v = scalar v := by cases v <;> rfl
mutual
theorem pB_eq : ∀ (v : V) (d : Nat), pB v d = pOk d v
  | .none, _ | .bool _, _ | .int _, _ | .bytes _ _, _ | .ref _, _ => rfl
  | .str s, d => okS_eq s
  | .list xs, 0 => rfl
  | .tuple xs, 0 => rfl
  | .list xs, d + 1 => pM_eq xs d
  | .tuple xs, d + 1 => pM_eq xs d
theorem pM_eq : ∀ (xs : List V) (d : Nat), @V.rec_1 (fun _ => Nat → Bool) (fun _ => Nat → Bool) (fun _ => true) (fun _ _ => true) (fun _ _ => true) (fun s _ => okS s) (fun _ _ _ => false)
  (fun _ ih d => @Nat.rec (fun _ => Bool) false (fun d _ => ih d) d) (fun _ ih d => @Nat.rec (fun _ => Bool) false (fun d _ => ih d) d) (fun _ _ => false) (fun _ => true) (fun _ _ ih1 ih2 d => an (ih1 d) (ih2 d)) xs d = pOks d xs
  | [], _ => rfl
  | x :: xs, d => by
    show an (pB x d) _ = (pOk d x && pOks d xs)
    rw [pB_eq x d, pM_eq xs d, an_eq]
end
theorem pBs_eq (d : Nat) : ∀ xs : List V, pBs xs d = pOks d xs
  | [] => rfl
  | x :: xs => by show an (pB x d) (pBs xs d) = (pOk d x && pOks d xs); rw [pB_eq, pBs_eq d xs, an_eq]
mutual
theorem eqR_eq : ∀ v w : V, eqR v w = veq v w
  | .none, w => by cases w <;> rfl
  | .bool b, w => by cases w <;> first | rfl | (rename_i c; cases b <;> cases c <;> rfl)
  | .int i, w => by cases w <;> first | rfl | (rename_i c; show some (eqI i c) = some (eqInt i c); rw [eqI_eq])
  | .str s, w => by cases w <;> first | rfl | (rename_i c; show some (eqN s c) = some (eqNats s c); rw [eqN_eq])
  | .bytes _ _, w => by cases w <;> rfl
  | .ref _, w => by cases w <;> rfl
  | .list xs, w => by cases w <;> first | rfl | exact eqM_eq xs _
  | .tuple xs, w => by cases w <;> first | rfl | exact eqM_eq xs _
theorem eqM_eq : ∀ xs ys : List V, @V.rec_1 (fun _ => V → Option Bool) (fun _ => List V → Option Bool)
  (vCase (some true) no no no no1 no no no) (fun b => vCase none (fun c => some (@Bool.rec (fun _ => Bool) (nt c) c b)) no no no1 no no no) (fun i => vCase none no (fun j => some (eqI i j)) no no1 no no no)
  (fun s => vCase none no no (fun t => some (eqN s t)) no1 no no no) (fun _ _ => no) (fun _ ih => vCase none no no no no1 ih no no) (fun _ ih => vCase none no no no no1 no ih no) (fun _ => no)
  (lcase (some true) fun _ _ => some false)
  (fun _ _ ih1 ih2 => lcase (some false) fun y t => @Option.rec Bool (fun _ => Option Bool) none (fun a => @Option.rec Bool (fun _ => Option Bool) none (fun b => some (an a b)) (ih2 t)) (ih1 y)) xs ys = veqs xs ys
  | [], [] => rfl
  | [], _ :: _ => rfl
  | _ :: _, [] => rfl
  | x :: xs, y :: ys => by
    show @Option.rec Bool (fun _ => Option Bool) none (fun a => @Option.rec Bool (fun _ => Option Bool) none (fun b => some (an a b)) _) (eqR x y) = veqs (x :: xs) (y :: ys)
    rw [eqR_eq x y, eqM_eq xs ys, veqs]
    cases veq x y with
    | none => rfl
    | some a => cases veqs xs ys with
      | none => rfl
      | some b => show some (an a b) = _; rw [an_eq]
end
theorem anyR_eq (x : V) : ∀ ys : List V, anyR x ys = anyV x ys
  | [] => rfl
  | y :: ys => by
    show @Option.rec Bool (fun _ => Option Bool) none (fun a => @Option.rec Bool (fun _ => Option Bool) none (fun b => some (@Bool.rec (fun _ => Bool) b true a)) (anyR x ys)) (eqR y x) = anyV x (y :: ys)
    rw [eqR_eq, anyR_eq x ys, anyV]
    cases veq y x with
    | none => rfl
    | some a => cases anyV x ys with
      | none => rfl
      | some b => cases a <;> rfl
theorem obK_inv {x : Option Bool} {k : Bool → Option R} {r : R} (h : obK x k = some r) : ∃ b, x = some b ∧ k b = some r := by
  cases x with
  | none => cases h
  | some b => exact ⟨b, rfl, h⟩
theorem allS_of {x : List Nat} : ∀ {ys : List V}, allS ys = true → pOks 8 ys = true ∧ anyV (.str x) ys = some (anyS x ys)
  | [], _ => ⟨rfl, rfl⟩
  | y :: ys, h => by
    cases y <;> first | cases h | skip
    case str s =>
      have h : an (okS s) (allS ys) = true := h
      rw [an_eq, Bool.and_eq_true, okS_eq] at h
      obtain ⟨p, q⟩ := allS_of (x := x) h.2
      refine ⟨?_, ?_⟩
      · show (pOk 8 (.str s) && pOks 8 ys) = true
        rw [p]; exact Bool.and_eq_true_iff.mpr ⟨h.1, rfl⟩
      · show (match veq (.str s) (.str x) with | some a => (match anyV (.str x) ys with | some b => some (a || b) | none => none) | none => none) = some (@Bool.rec (fun _ => Bool) (anyS x ys) true (eqN s x))
        rw [q, eqN_eq]; show some (eqNats s x || _) = _
        cases eqNats s x <;> rfl
theorem anyBR_eq (x : List Nat) : ∀ ys : List V, anyBR x ys = anyB x ys
  | [] => rfl
  | y :: ys => by
    cases y <;> first | rfl | skip
    case bytes t s =>
      show @Option.rec Bool (fun _ => Option Bool) none (fun b => some (@Bool.rec (fun _ => Bool) b true (eqN s x))) (anyBR x ys) = anyB x (.bytes t s :: ys)
      rw [anyBR_eq x ys, anyB, eqN_eq]
      cases anyB x ys with
      | none => rfl
      | some b => cases eqNats s x <;> rfl

theorem frzSlow_inv {o : Os} {v : V} {k : V → Option R} {r : R} (h : frzSlow o v k = some r) : ∃ u, frz o v = some u ∧ k u = some r := by
  unfold frzSlow at h
  cases e : frz o v with
  | none => rw [e] at h; cases h
  | some u => rw [e] at h; exact ⟨u, rfl, h⟩
theorem frzK_inv {o : Os} {v : V} {k : V → Option R} {r : R} (h : frzK o v k = some r) : ∃ u, frz o v = some u ∧ k u = some r := by
  cases v <;> first | exact ⟨_, rfl, h⟩ | skip
  case list xs =>
    rcases bfi_inv (b := nrL xs) h with ⟨e, h⟩ | ⟨e, h⟩
    · exact ⟨_, frz_noRef (x := .list xs) ((nrL_eq xs).symm.trans e), h⟩
    · exact frzSlow_inv h
  case tuple xs =>
    rcases bfi_inv (b := nrL xs) h with ⟨e, h⟩ | ⟨e, h⟩
    · exact ⟨_, frz_noRef (x := .tuple xs) ((nrL_eq xs).symm.trans e), h⟩
    · exact frzSlow_inv h
  case ref i =>
    obtain ⟨xs, e, h⟩ := objK_inv (k := fun xs => bfi (nrL xs) (k (.list xs)) (frzSlow o (.ref i) k)) h
    rcases bfi_inv h with ⟨e1, h⟩ | ⟨_, h⟩
    · refine ⟨_, ?_, h⟩
      show frzRef o 6 i = _
      rw [frzRef, e]
      show (match frzL (frzRef o 5) xs with | some ys => some (V.list ys) | none => none) = _
      rw [frz_noRefs (nrL_eq xs ▸ e1)]
    · exact frzSlow_inv h
theorem frzs_cons {o : Os} {v u : V} {vs us : List V} (a : frz o v = some u) (b : frzs o vs = some us) : frzs o (v :: vs) = some (u :: us) := by
  have a : frzS (frzRef o 6) v = some u := a
  have b : frzL (frzRef o 6) vs = some us := b
  show frzL (frzRef o 6) (v :: vs) = _
  rw [frzL, a, b]
theorem frzsK_inv {o : Os} {vs : List V} {k : Lc → Option R} {r : R} (h : frzsK o vs k = some r) : ∃ us, frzs o vs = some us ∧ us.length = vs.length ∧ k (us.map some) = some r := by
  induction vs generalizing k with
  | nil => exact ⟨[], rfl, rfl, h⟩
  | cons v vs ih =>
    obtain ⟨u, e, h⟩ := frzK_inv (k := fun u => frzsK o vs fun us => k (some u :: us)) h
    obtain ⟨us, e2, e3, h⟩ := ih h
    exact ⟨u :: us, frzs_cons e e2, by simp [e3], h⟩

/-! operators -/
theorem addInt_eq (x y : Int) : addInt x y = x + y := by cases x <;> cases y <;> rfl
theorem modInt_eq (x : Int) (y : Nat) : modInt x y = x.fmod (.ofNat y) := by
  cases x with
  | ofNat m => show Int.ofNat (m % y) = _; cases y <;> cases m <;> rfl
  | negSucc m => rfl
theorem pos_eqInt {y : Nat} (h : Nat.ble 1 y = true) : eqInt (.ofNat y) 0 = false := by
  have := Nat.le_of_ble_eq_true h
  show Nat.beq y 0 = false
  cases y with
  | zero => omega
  | succ y => rfl
noncomputable abbrev BinOk (op : BOp) (f : V → V → (V → Option R) → Option R) : Prop := ∀ a b k r, f a b k = some r → ∃ v, binop op a b = some v ∧ k v = some r
theorem ok2 {x y : Int} (a : okI x = true) (b : okI y = true) : ((false || okI x) && okI y) = true := by rw [a, b]; rfl
theorem fdiv_nat (x : Nat) {y : Nat} (h : Nat.blt 0 y = true) : some (V.int ((Int.ofNat x).fdiv (.ofNat y))) = some (.int (.ofNat (Nat.div x y))) := by
  cases y with
  | zero => exact nob h
  | succ z => cases x with
    | zero => show some (V.int 0) = some (V.int (Int.ofNat (0 / (z + 1)))); rw [Nat.zero_div]; rfl
    | succ x => rfl
theorem add_ok : BinOk (R := R) .add addK := by
  intro a b k r h
  unfold addK at h
  cases a <;> first | cases h | skip
  case int x =>
    replace h := vInt_inv h
    obtain ⟨y, rfl, h⟩ := h
    obtain ⟨a1, h⟩ := okIK_inv h
    obtain ⟨a2, h⟩ := okIK_inv h
    exact ⟨_, (by set_option smartUnfolding false in exact iT (ok2 a1 a2) rfl), addInt_eq x y ▸ h⟩
  case str x =>
    replace h := vStr_inv h
    obtain ⟨y, rfl, h⟩ := h
    rw [app_eq] at h
    obtain ⟨e, h⟩ := slen_inv h
    exact ⟨_, (by set_option smartUnfolding false in exact iT (List.length_append ▸ e) rfl), h⟩
  case bytes t x =>
    replace h := vBytes_inv h
    obtain ⟨t, y, rfl, h⟩ := h
    rw [app_eq] at h
    obtain ⟨e, h⟩ := slen_inv h
    exact ⟨_, (by set_option smartUnfolding false in exact iT (List.length_append ▸ e) rfl), h⟩
theorem sub_ok : BinOk (R := R) .sub subK := by
  intro a b k r h
  replace h := vInt_inv h
  obtain ⟨x, rfl, h⟩ := h
  replace h := vInt_inv h
  obtain ⟨y, rfl, h⟩ := h
  obtain ⟨a1, h⟩ := okIK_inv h
  obtain ⟨a2, h⟩ := okIK_inv h
  exact ⟨_, (by set_option smartUnfolding false in exact iT (ok2 a1 a2) rfl), h⟩
theorem mul_ok : BinOk (R := R) .mul mulK := by
  intro a b k r h
  replace h := vInt_inv h
  obtain ⟨x, rfl, h⟩ := h
  replace h := vInt_inv h
  obtain ⟨y, rfl, h⟩ := h
  obtain ⟨a1, h⟩ := okIK_inv h
  obtain ⟨a2, h⟩ := okIK_inv h
  exact ⟨_, (by set_option smartUnfolding false in exact iT (ok2 a1 a2) rfl), h⟩
theorem mod_ok : BinOk (R := R) .mod modK := by
  intro a b k r h
  replace h := vInt_inv h
  obtain ⟨x, rfl, h⟩ := h
  replace h := vNat_inv h
  obtain ⟨y, rfl, h⟩ := h
  obtain ⟨a1, h⟩ := okIK_inv h
  obtain ⟨a2, h⟩ := onTrue_inv h
  exact ⟨_, (by set_option smartUnfolding false in exact iT a1 (iF (pos_eqInt a2) rfl)), modInt_eq x y ▸ h⟩
theorem fdiv_ok : BinOk (R := R) .fdiv fdivK := by
  intro a b k r h
  replace h := vNat_inv h
  obtain ⟨x, rfl, h⟩ := h
  replace h := vNat_inv h
  obtain ⟨y, rfl, h⟩ := h
  obtain ⟨a1, h⟩ := okIK_inv h
  obtain ⟨a2, h⟩ := okIK_inv h
  obtain ⟨a3, h⟩ := onTrue_inv h
  refine ⟨.int (.ofNat (Nat.div x y)), ?_, h⟩
  set_option smartUnfolding false in refine iT (ok2 a1 a2) (iF (pos_eqInt a3) (fdiv_nat x a3))
theorem pow_ok : BinOk (R := R) .pow powK := by
  intro a b k r h
  replace h := vNat_inv h
  obtain ⟨x, rfl, h⟩ := h
  replace h := vNat_inv h
  obtain ⟨y, rfl, h⟩ := h
  replace h := onTrue_inv h
  obtain ⟨a1, h⟩ := h
  replace h := onTrue_inv h
  obtain ⟨a2, h⟩ := h
  have e2 : x = 2 := Nat.eq_of_beq_eq_true a1
  clear a1
  subst e2
  have hy := Nat.le_of_ble_eq_true a2
  have a3 : okI (.ofNat 2) = true := rfl
  have a4 : okI (.ofNat y) = true := Nat.ble_eq_true_of_le (by show y + 1 ≤ _; omega)
  have a5 : Nat.blt y 16 = true := Nat.ble_eq_true_of_le (by omega)
  exact ⟨.int (.ofNat (2 ^ y)), (by set_option smartUnfolding false in exact iT (ok2 a3 a4) (iT a5 rfl)), h⟩
theorem band_ok : BinOk (R := R) .band bandK := by
  intro a b k r h
  replace h := vNat_inv h
  obtain ⟨x, rfl, h⟩ := h
  replace h := vNat_inv h
  obtain ⟨y, rfl, h⟩ := h
  obtain ⟨a1, h⟩ := okIK_inv h
  obtain ⟨a2, h⟩ := okIK_inv h
  exact ⟨_, (by set_option smartUnfolding false in exact iT (ok2 a1 a2) rfl), h⟩

/-! comparisons -/
noncomputable abbrev CmpOk (op : COp) (f : Os → V → V → (Bool → Option R) → Option R) : Prop := ∀ o a b k r, f o a b k = some r → ∃ v, cmpop o op a b = some v ∧ k v = some r
theorem eqGen_inv {o : Os} {a b : V} {k : Bool → Option R} {r : R} (h : eqGen o a b k = some r) : ∃ x y c, frz o a = some x ∧ frz o b = some y ∧ pOk 8 x = true ∧ pOk 8 y = true ∧ veq x y = some c ∧ k c = some r := by
  obtain ⟨x, e1, h⟩ := frzK_inv h
  obtain ⟨y, e2, h⟩ := frzK_inv h
  obtain ⟨e3, h⟩ := onTrue_inv h
  obtain ⟨e4, h⟩ := onTrue_inv h
  obtain ⟨c, e5, h⟩ := obK_inv h
  exact ⟨x, y, c, e1, e2, pB_eq x 8 ▸ e3, pB_eq y 8 ▸ e4, eqR_eq x y ▸ e5, h⟩
theorem and2 {a b : Bool} (p : a = true) (q : b = true) : (a && b) = true := by rw [p, q]; rfl
theorem eqV_of {x y : V} {c : Bool} (p : pOk 8 x = true) (q : pOk 8 y = true) (e : veq x y = some c) : eqV x y = some c := by
  cases x <;> first | exact nob p | (set_option smartUnfolding false in exact iT (and2 p q) e)
theorem eqG_ok {o : Os} {a b : V} {k : Bool → Option R} {r : R} (h : eqGen o a b k = some r) : ∃ v, cmpop o .eq a b = some v ∧ k v = some r := by
  obtain ⟨x, y, c, e1, e2, e3, e4, e5, h⟩ := eqGen_inv h
  exact ⟨c, (by set_option smartUnfolding false in exact iS e1 (iS e2 (eqV_of e3 e4 e5))), h⟩
theorem eq_ok : CmpOk (R := R) .eq eqK := by
  intro o a b k r h
  cases a
  case none => exact eqG_ok (a := .none) h
  case bool c => exact eqG_ok (a := .bool c) h
  case list xs => exact eqG_ok (a := .list xs) h
  case tuple xs => exact eqG_ok (a := .tuple xs) h
  case ref i => exact eqG_ok (a := .ref i) h
  case int x =>
    replace h := vInt_inv (k := fun y => k (eqI x y)) h
    obtain ⟨y, rfl, h⟩ := h
    exact ⟨eqI x y, congrArg some (eqI_eq x y).symm, h⟩
  case str x =>
    replace h := vStr_inv (k := fun y => onTrue (okS x) (onTrue (okS y) (k (eqN x y)))) h
    obtain ⟨y, rfl, h⟩ := h
    obtain ⟨e1, h⟩ := onTrue_inv h
    obtain ⟨e2, h⟩ := onTrue_inv h
    exact ⟨eqN x y, eqV_of (x := .str x) (y := .str y) ((okS_eq x).symm.trans e1) ((okS_eq y).symm.trans e2) (congrArg some (eqN_eq x y).symm), h⟩
  case bytes t x =>
    replace h := vBytes_inv (k := fun _ y => k (eqN x y)) h
    obtain ⟨u, y, rfl, h⟩ := h
    exact ⟨eqN x y, congrArg some (eqN_eq x y).symm, h⟩
theorem ne_ok : CmpOk (R := R) .ne neK := by
  intro o a b k r h
  obtain ⟨x, y, c, e1, e2, e3, e4, e5, h⟩ := eqGen_inv h
  exact ⟨!c, (by set_option smartUnfolding false in exact iS e1 (iS e2 (iT (and2 e3 e4) (iS e5 rfl)))), nt_eq c ▸ h⟩
theorem lt_ok : CmpOk (R := R) .lt ltK := by
  intro o a b k r h
  cases a <;> first | cases h | skip
  case int x =>
    replace h := vInt_inv (k := fun y => k (ltI x y)) h
    obtain ⟨y, rfl, h⟩ := h
    exact ⟨ltI x y, congrArg some (ltI_eq x y).symm, h⟩
  case bytes t x =>
    replace h := vBytes_inv (k := fun _ y => k (ltN x y)) h
    obtain ⟨u, y, rfl, h⟩ := h
    exact ⟨ltN x y, congrArg some (ltN_eq x y).symm, h⟩
theorem ge_ok : CmpOk (R := R) .ge geK := by
  intro o a b k r h
  replace h := vInt_inv h
  obtain ⟨x, rfl, h⟩ := h
  replace h := vInt_inv h
  obtain ⟨y, rfl, h⟩ := h
  exact ⟨nt (ltI x y), by rw [nt_eq, ltI_eq]; rfl, h⟩
theorem inGen_inv {x : V} {ys : List V} {k : Bool → Option R} {r : R} (h : inGen x ys k = some r) : ∃ c, pOk 8 x = true ∧ pOks 8 ys = true ∧ anyV x ys = some c ∧ k c = some r := by
  obtain ⟨e3, h⟩ := onTrue_inv h
  obtain ⟨e4, h⟩ := onTrue_inv h
  obtain ⟨c, e5, h⟩ := obK_inv h
  exact ⟨c, pB_eq x 8 ▸ e3, pBs_eq 8 ys ▸ e4, anyR_eq x ys ▸ e5, h⟩
theorem inStr_inv {x : List Nat} {ys : List V} {k : Bool → Option R} {r : R} (h : inStr x ys k = some r) : ∃ c, pOk 8 (.str x) = true ∧ pOks 8 ys = true ∧ anyV (.str x) ys = some c ∧ k c = some r := by
  obtain ⟨e3, h⟩ := onTrue_inv h
  obtain ⟨e4, h⟩ := onTrue_inv h
  obtain ⟨p, q⟩ := allS_of (x := x) e4
  exact ⟨_, (okS_eq x).symm.trans e3, p, q, h⟩
theorem inAny_inv {x : V} {ys : List V} {k : Bool → Option R} {r : R} (h : inAny x ys k = some r) : ∃ c, pOk 8 x = true ∧ pOks 8 ys = true ∧ anyV x ys = some c ∧ k c = some r := by
  cases x <;> first | exact inStr_inv h | exact inGen_inv h
theorem isIn_of {x : V} {ys : List V} {c : Bool} (p : pOk 8 x = true) (q : pOks 8 ys = true) (e : anyV x ys = some c) : isIn x ys = some c := by
  cases x <;> first | exact nob p | (set_option smartUnfolding false in exact iT (and2 p q) e)
theorem inL_inv {x : V} {ys : List V} {k : Bool → Option R} {r : R} (h : inGen x ys k = some r) : ∃ c, isIn x ys = some c ∧ k c = some r := by
  obtain ⟨c, p, q, e, h⟩ := inGen_inv h
  exact ⟨c, isIn_of p q e, h⟩
theorem inList_inv {x : V} {ys : List V} {k : Bool → Option R} {r : R} (h : inList x ys k = some r) : ∃ c, isIn x ys = some c ∧ k c = some r := by
  cases x
  case bytes t s =>
    obtain ⟨c, e, h⟩ := obK_inv (x := anyBR s ys) h
    exact ⟨c, (anyBR_eq s ys).symm.trans e, h⟩
  case str s =>
    obtain ⟨c, p, q, e, h⟩ := inStr_inv h
    exact ⟨c, isIn_of p q e, h⟩
  case none => exact inL_inv (x := .none) h
  case bool b => exact inL_inv (x := .bool b) h
  case int i => exact inL_inv (x := .int i) h
  case list xs => exact inL_inv (x := .list xs) h
  case tuple xs => exact inL_inv (x := .tuple xs) h
  case ref i => exact inL_inv (x := .ref i) h
theorem isin_ok : CmpOk (R := R) .isin isinK := by
  intro o a b k r h
  obtain ⟨x, e1, h⟩ := frzK_inv h
  obtain ⟨y, e2, h⟩ := frzK_inv h
  cases y <;> first | cases h | skip
  case list ys =>
    obtain ⟨c, e, h⟩ := inList_inv (x := x) (ys := ys) h
    exact ⟨c, (by set_option smartUnfolding false in exact iS e1 (iS e2 e)), h⟩
  case tuple ys =>
    obtain ⟨c, p, q, e, h⟩ := inAny_inv (x := x) (ys := ys) h
    exact ⟨c, (by set_option smartUnfolding false in exact iS e1 (iS e2 (iT (and2 p q) e))), h⟩
theorem notin_ok : CmpOk (R := R) .notin notinK := by
  intro o a b k r h
  obtain ⟨x, e1, h⟩ := frzK_inv h
  obtain ⟨y, e2, h⟩ := frzK_inv h
  replace h := vTuple_inv h
  obtain ⟨ys, rfl, h⟩ := h
  obtain ⟨c, p, q, e, h⟩ := inAny_inv (x := x) (ys := ys) h
  exact ⟨!c, (by set_option smartUnfolding false in exact iS e1 (iS e2 (iS (iT (and2 p q) e) rfl))), nt_eq c ▸ h⟩
theorem is_ok : CmpOk (R := R) .is_ isK := by
  intro o a b k r h
  cases a <;> first | cases h | skip
  case none => cases b <;> first | cases h | exact ⟨_, rfl, h⟩
  case int i => cases b <;> first | cases h | exact ⟨_, rfl, h⟩
  case bool x => cases b <;> first | cases h | (rename_i y; cases x <;> cases y <;> exact ⟨_, rfl, h⟩)
theorem sameK_inv {a b : V} {k : Bool → Option R} {r : R} (h : sameK a b k = some r) : ∃ c, sameOr a b = some c ∧ k c = some r := by
  cases a <;> first | cases h | skip
  case bool x => cases b <;> first | cases h | (rename_i y; cases x <;> cases y <;> exact ⟨_, rfl, h⟩)
  case bytes t x =>
    replace h := onTrue_inv (b := t) h
    obtain ⟨rfl, h⟩ := h
    replace h := vBytes_inv h
    obtain ⟨u, y, rfl, h⟩ := h
    replace h := onTrue_inv h
    obtain ⟨rfl, h⟩ := h
    exact ⟨_, congrArg some (eqN_eq x y).symm, h⟩
end
end Mine
end
section
namespace Mine
section
variable {R : Type} {d1 d2 d3 : Nat}
noncomputable def fin (fl : Fl) (l : Lc) (o : Os) (kn kb : Lc → Os → Option R) (kr : V → Os → Option R) : Option R := match fl with
  | .next => kn l o
  | .brk => kb l o
  | .ret v => kr v o
/-- from the fuel d on: what an engine's piece gives is what the evaluator gives -/
noncomputable def GX (d : Nat) (x : X) (c : KX R) : Prop := ∀ n, d ≤ n → ∀ l o k r, c l o k = some r → ∀ {P : Prop}, (∀ v o', (ev F n).x x ⟨l, o⟩ = some (v, ⟨l, o'⟩) → k v o' = some r → P) → P
noncomputable def GT (d : Nat) (x : X) (c : KT R) : Prop := ∀ n, d ≤ n → ∀ l o k r, c l o k = some r → ∀ {P : Prop}, (∀ v o', (ev F n).t x ⟨l, o⟩ = some (v, ⟨l, o'⟩) → k v o' = some r → P) → P
noncomputable def GXs (d : Nat) (xs : List X) (cs : List (KX R)) : Prop := ∀ n, d ≤ n → ∀ l o k r, kArgs cs l o k = some r → ∀ {P : Prop}, (∀ vs o', evL (ev F n) xs ⟨l, o⟩ = some (vs, ⟨l, o'⟩) → vs.length = xs.length → k vs o' = some r → P) → P
noncomputable def GAll (d : Nat) (xs : List X) (c : KT R) : Prop := ∀ n, d ≤ n → ∀ l o k r, c l o k = some r → ∀ {P : Prop}, (∀ v o', evAll (ev F n) xs ⟨l, o⟩ = some (v, ⟨l, o'⟩) → k v o' = some r → P) → P
noncomputable def GAny (d : Nat) (xs : List X) (c : KT R) : Prop := ∀ n, d ≤ n → ∀ l o k r, c l o k = some r → ∀ {P : Prop}, (∀ v o', evAny (ev F n) xs ⟨l, o⟩ = some (v, ⟨l, o'⟩) → k v o' = some r → P) → P
noncomputable def GAnd (d : Nat) (xs : List X) (c : KX R) : Prop := ∀ n, d ≤ n → ∀ l o k r, c l o k = some r → ∀ {P : Prop}, (∀ v o', evAnd (ev F n) xs ⟨l, o⟩ = some (v, ⟨l, o'⟩) → k v o' = some r → P) → P
noncomputable def GB (d : Nat) (b : List S) (c : KS R) : Prop := ∀ n, d ≤ n → ∀ l o kn kb kr r, c l o kn kb kr = some r → ∀ {P : Prop}, (∀ fl l' o', evB (ev F n) b ⟨l, o⟩ = some (fl, ⟨l', o'⟩) → fin fl l' o' kn kb kr = some r → P) → P
noncomputable def GS (d : Nat) (s : S) (c : KS R) : Prop := ∀ n, d ≤ n → ∀ l o kn kb kr r, c l o kn kb kr = some r → ∀ {P : Prop}, (∀ fl l' o', evS (ev F n) s ⟨l, o⟩ = some (fl, ⟨l', o'⟩) → fin fl l' o' kn kb kr = some r → P) → P
theorem lf {n : Nat} (h : max d1 d2 ≤ n) : d1 ≤ n := Nat.le_trans (Nat.le_max_left _ _) h
theorem rt {n : Nat} (h : max d1 d2 ≤ n) : d2 ≤ n := Nat.le_trans (Nat.le_max_right _ _) h
theorem GX.mk {x : X} {c : KX R} (h : ∀ m, d1 ≤ m → ∀ l o k r, c l o k = some r → ∀ {P : Prop}, (∀ v o', evX F (ev F m) x ⟨l, o⟩ = some (v, ⟨l, o'⟩) → k v o' = some r → P) → P) : GX (d1 + 1) x c
  | m + 1, hm => h m (Nat.le_of_succ_le_succ hm)
theorem GX.mk2 {x : X} {c : KX R} (h : ∀ m, d1 ≤ m → d2 ≤ m → ∀ l o k r, c l o k = some r → ∀ {P : Prop}, (∀ v o', evX F (ev F m) x ⟨l, o⟩ = some (v, ⟨l, o'⟩) → k v o' = some r → P) → P) : GX (max d1 d2 + 1) x c :=
  GX.mk fun m hm => h m (lf hm) (rt hm)
theorem GX.mk3 {x : X} {c : KX R} (h : ∀ m, d1 ≤ m → d2 ≤ m → d3 ≤ m → ∀ l o k r, c l o k = some r → ∀ {P : Prop}, (∀ v o', evX F (ev F m) x ⟨l, o⟩ = some (v, ⟨l, o'⟩) → k v o' = some r → P) → P) : GX (max (max d1 d2) d3 + 1) x c :=
  GX.mk fun m hm => h m (lf (lf hm)) (rt (lf hm)) (rt hm)
theorem GT.mk {x : X} {c : KT R} (h : ∀ m, d1 ≤ m → ∀ l o k r, c l o k = some r → ∀ {P : Prop}, (∀ v o', evT (ev F m) x ⟨l, o⟩ = some (v, ⟨l, o'⟩) → k v o' = some r → P) → P) : GT (d1 + 1) x c
  | m + 1, hm => h m (Nat.le_of_succ_le_succ hm)
/-- the block's run one fuel higher -/
theorem GB.up {b : List S} {c : KS R} (h : GB d1 b c) {n : Nat} (hn : d1 + 1 ≤ n) {l : Lc} {o : Os} {kn kb : Lc → Os → Option R} {kr : V → Os → Option R} {r : R} (q : c l o kn kb kr = some r) {P : Prop}
    (K : ∀ fl l' o', (ev F n).b b ⟨l, o⟩ = some (fl, ⟨l', o'⟩) → fin fl l' o' kn kb kr = some r → P) : P := by
  match n, hn with
  | m + 1, hm => exact h m (Nat.le_of_succ_le_succ hm) _ _ _ _ _ _ q K

/-! expressions -/
theorem g_slot (i : Nat) : GX (R := R) 1 (.slot i) (kSlot i) := GX.mk (d1 := 0) fun m _ l o k r h P K => by
  obtain ⟨v, e, h⟩ := getK_inv h
  exact K v o (by set_option smartUnfolding false in exact iV e rfl) h
theorem g_const {v : V} (hv : scalar v = true) : GX (R := R) 1 (.const v) (kConst v) := GX.mk (d1 := 0) fun m _ l o k r h P K => K v o (by set_option smartUnfolding false in exact iT hv rfl) h
theorem g_bin {op : BOp} {f : V → V → (V → Option R) → Option R} (hf : BinOk op f) {a b : X} {ca cb : KX R} (ha : GX d1 a ca) (hb : GX d2 b cb) : GX (max d1 d2 + 1) (.bin op a b) (kBin f ca cb) :=
  GX.mk2 fun m m1 m2 _ _ _ _ h P K => ha m m1 _ _ _ _ h fun x _ e1 h => hb m m2 _ _ _ _ h fun y _ e2 h => by
    obtain ⟨v, e3, h⟩ := hf _ _ _ _ h
    exact K v _ (by set_option smartUnfolding false in exact iS e1 (iS e2 (iS e3 rfl))) h
theorem g_addl {a b : X} {ca cb : KX R} (ha : GX d1 a ca) (hb : GX d2 b cb) : GX (max d1 d2 + 1) (.addl false a b) (kAddl ca cb) :=
  GX.mk2 fun m m1 m2 _ _ _ _ h P K => ha m m1 _ _ _ _ h fun x _ e1 h => hb m m2 _ _ _ _ h fun y _ e2 h => by
    obtain ⟨xs, e3, h⟩ := itemsK_inv h
    obtain ⟨ys, e4, h⟩ := itemsK_inv h
    rw [app_eq] at h
    obtain ⟨e5, h⟩ := slen_inv h
    rw [List.length_append] at e5
    exact K _ _ (by set_option smartUnfolding false in exact iS e1 (iS e2 (iS e3 (iS e4 (iT e5 rfl))))) h
theorem g_addlM {a b : X} {ca cb : KX R} (ha : GX d1 a ca) (hb : GX d2 b cb) : GX (max d1 d2 + 1) (.addl true a b) (kAddlM ca cb) :=
  GX.mk2 fun m m1 m2 _ _ _ _ h P K => ha m m1 _ _ _ _ h fun x _ e1 h => hb m m2 _ _ _ _ h fun y _ e2 h => by
    obtain ⟨xs, e3, h⟩ := itemsK_inv h
    obtain ⟨ys, e4, h⟩ := itemsK_inv h
    rw [app_eq] at h
    obtain ⟨e5, h⟩ := slen_inv h
    rw [List.length_append] at e5
    rw [lenK_eq, Nat.zero_add, app_eq] at h
    exact K _ _ (by set_option smartUnfolding false in exact iS e1 (iS e2 (iS e3 (iS e4 (iT e5 rfl))))) h
theorem g_cmp {op : COp} {f : Os → V → V → (Bool → Option R) → Option R} (hf : CmpOk op f) {a b : X} {ca cb : KX R} (ha : GX d1 a ca) (hb : GX d2 b cb) : GX (max d1 d2 + 1) (.cmp op a b) (kB (kCmp f ca cb)) :=
  GX.mk2 fun m m1 m2 _ _ _ _ h P K => ha m m1 _ _ _ _ h fun x _ e1 h => hb m m2 _ _ _ _ h fun y _ e2 h => by
    obtain ⟨v, e3, h⟩ := hf _ _ _ _ _ h
    exact K _ _ (by set_option smartUnfolding false in exact iS e1 (iS e2 (iS e3 rfl))) h
theorem g_and1 {x : X} {c : KX R} (h : GX d1 x c) : GAnd d1 [x] c := fun n hn _ _ _ _ q P K => h n hn _ _ _ _ q fun v o e q => K v o e q
theorem g_andc {x y : X} {xs : List X} {c d : KX R} (h : GX d1 x c) (g : GAnd d2 (y :: xs) d) : GAnd (max d1 d2) (x :: y :: xs) (kAnd c d) :=
  fun n hn _ _ _ _ q P K => h n (lf hn) _ _ _ _ q fun v o e1 q => by
    obtain ⟨b, e2, q⟩ := vTruth_inv q
    cases b with
    | true => exact g n (rt hn) _ _ _ _ q fun w o e3 q => K w o (by simp only [evAnd, e1, e2, e3]) q
    | false => exact K v o (by simp only [evAnd, e1, e2]) q
theorem g_and {xs : List X} {c : KX R} (g : GAnd d1 xs c) : GX (d1 + 1) (.andd xs) c := GX.mk fun m hm _ _ _ _ q P K => g m hm _ _ _ _ q fun v o e q => K v o e q
theorem evX_neg {r : Ev} {x : X} {i : Int} {σ σ1 : St} (e : r.x x σ = some (.int i, σ1)) : evX F r (.neg x) σ = some (.int (-i), σ1) := by
  show (match r.x x σ with | some (.int i, σ1) => some (V.int (-i), σ1) | _ => none) = _
  rw [e]
theorem g_neg {x : X} {c : KX R} (h : GX d1 x c) : GX (d1 + 1) (.neg x) (kNeg c) := GX.mk fun m hm _ _ _ _ q P K => h m hm _ _ _ _ q fun v o e q => by
  replace q := vInt_inv q
  obtain ⟨i, rfl, q⟩ := q
  exact K _ _ (evX_neg e) q
theorem placeK_inv {n : Nat} {i : Int} {k : Nat → Option R} {r : R} (h : placeK n i k = some r) : i.natAbs ≤ n ∧ ∃ p, place n i = some p ∧ k p = some r := by
  cases i with
  | ofNat m =>
    replace h := onTrue_inv (b := Nat.blt m n) h
    obtain ⟨e, h⟩ := h
    have := Nat.le_of_ble_eq_true e
    exact ⟨by show m ≤ n; omega, m, by simp only [place, e], h⟩
  | negSucc m =>
    replace h := onTrue_inv (b := Nat.blt m n) h
    obtain ⟨e, h⟩ := h
    have := Nat.le_of_ble_eq_true e
    exact ⟨by show m + 1 ≤ n; omega, n - (m + 1), by simp only [place, e], h⟩
theorem blt_le {a b : Nat} (h : Nat.blt b bigN = true) (e : a ≤ b) : Nat.blt a bigN = true := by
  have := Nat.le_of_ble_eq_true h
  exact Nat.ble_eq_true_of_le (by omega)
theorem idxL_inv {i : Int} {xs : List V} {k : V → Option R} {r : R} (h : idxL i xs k = some r) : Nat.blt i.natAbs bigN = true ∧ ∃ p x, i = .ofNat p ∧ xs[p]? = some x ∧ k x = some r := by
  replace h := iCase_inv h
  obtain ⟨p, rfl, h⟩ := h
  replace h := shortK_inv h
  obtain ⟨e, h⟩ := h
  replace h := nth_inv h
  obtain ⟨x, e2, h⟩ := h
  exact ⟨e, p, x, rfl, e2, h⟩
set_option smartUnfolding false in
theorem itemsOf_ref {o : Os} {q : Nat} {xs : List V} (e : o[q]? = some (.list xs)) : itemsOf o (.ref q) = some xs := iL e rfl
theorem idxK_inv {o : Os} {a i : V} {k : V → Option R} {r : R} (h : idxK o a i k = some r) : ∃ v, index o a i = some v ∧ k v = some r := by
  replace h := vInt_inv h
  obtain ⟨j, rfl, h⟩ := h
  cases a <;> first | cases h | skip
  case str s =>
    replace h := slen_inv (k := fun n => placeK n j fun p => nth p s fun c => k (.str [c])) h
    obtain ⟨e1, h⟩ := h
    replace h := placeK_inv h
    obtain ⟨e2, p, e3, h⟩ := h
    replace h := nth_inv h
    obtain ⟨c, e4, h⟩ := h
    exact ⟨_, (by set_option smartUnfolding false in exact iT (blt_le e1 e2) (iS e3 (iS e4 rfl))), h⟩
  case bytes t s =>
    replace h := slen_inv (k := fun _ => iCase (fun p => nth p s fun c => k (.int (.ofNat c))) no j) h
    obtain ⟨e1, h⟩ := h
    replace h := iCase_inv h
    obtain ⟨p, rfl, h⟩ := h
    replace h := nth_inv h
    obtain ⟨c, e4, h⟩ := h
    obtain ⟨hl, _⟩ := List.getElem?_eq_some_iff.mp e4
    exact ⟨_, (by set_option smartUnfolding false in exact iT (blt_le e1 (Nat.le_of_lt hl : (Int.ofNat p).natAbs ≤ s.length)) (iT e1 (iS e4 rfl))), h⟩
  case list xs =>
    replace h := idxL_inv (xs := xs) h
    obtain ⟨e1, p, x, rfl, e2, h⟩ := h
    exact ⟨x, (by set_option smartUnfolding false in exact iT e1 e2), h⟩
  case tuple xs =>
    replace h := slen_inv (k := fun n => placeK n j fun p => nth p xs k) h
    obtain ⟨e1, h⟩ := h
    replace h := placeK_inv h
    obtain ⟨e2, p, e3, h⟩ := h
    replace h := nth_inv h
    obtain ⟨c, e4, h⟩ := h
    exact ⟨_, (by set_option smartUnfolding false in exact iT (blt_le e1 e2) (iS e3 e4)), h⟩
  case ref q =>
    replace h := objK_inv (k := fun xs => idxL j xs k) h
    obtain ⟨xs, e0, h⟩ := h
    replace h := idxL_inv (xs := xs) h
    obtain ⟨e1, p, x, rfl, e2, h⟩ := h
    exact ⟨x, (by set_option smartUnfolding false in exact iT e1 (iS (itemsOf_ref e0) e2)), h⟩
theorem g_idx {a b : X} {ca cb : KX R} (ha : GX d1 a ca) (hb : GX d2 b cb) : GX (max d1 d2 + 1) (.idx a b) (kIdx ca cb) :=
  GX.mk2 fun m m1 m2 _ _ _ _ h P K => ha m m1 _ _ _ _ h fun x _ e1 h => hb m m2 _ _ _ _ h fun y _ e2 h => by
    obtain ⟨v, e3, h⟩ := idxK_inv h
    exact K _ _ (by set_option smartUnfolding false in exact iS e1 (iS e2 (iS e3 rfl))) h
set_option smartUnfolding false in
theorem bound_int {n : Nat} (e : Nat.blt n bigN = true) : bound? (some (V.int (.ofNat n))) = some (some n) := iT e rfl
theorem sliceLo_inv {o : Os} {x : V} {n : Nat} {k : V → Option R} {r : R} (h : sliceLo o x n k = some r) : ∃ v, slice o x (some (.int (.ofNat n))) none = some v ∧ k v = some r := by
  replace h := shortK_inv h
  obtain ⟨e0, h⟩ := h
  cases x <;> first | cases h | skip
  case str s =>
    replace h := slen_inv (k := fun _ => dropK n s fun t => k (.str t)) h
    obtain ⟨e1, h⟩ := h
    rw [dropK_eq] at h
    exact ⟨_, (by set_option smartUnfolding false in exact i2 (bound_int e0) rfl (iT e1 rfl)), h⟩
  case list s =>
    replace h := slen_inv (k := fun _ => dropK n s fun t => k (.list t)) h
    obtain ⟨e1, h⟩ := h
    rw [dropK_eq] at h
    exact ⟨_, (by set_option smartUnfolding false in exact i2 (bound_int e0) rfl (iT e1 rfl)), h⟩
  case ref i =>
    replace h := objK_inv (k := fun s => slen s fun _ => dropK n s fun t => k (.list t)) h
    obtain ⟨s, e2, h⟩ := h
    replace h := slen_inv (k := fun _ => dropK n s fun t => k (.list t)) h
    obtain ⟨e1, h⟩ := h
    rw [dropK_eq] at h
    exact ⟨_, (by set_option smartUnfolding false in exact i2 (bound_int e0) rfl (iS (itemsOf_ref e2) (iT e1 rfl))), h⟩
theorem g_sliceLo {a b : X} {ca cb : KX R} (ha : GX d1 a ca) (hb : GX d2 b cb) : GX (max d1 d2 + 1) (.slice a (some b) none) (kSliceLo ca cb) :=
  GX.mk2 fun m m1 m2 _ _ _ _ h P K => ha m m1 _ _ _ _ h fun x _ e1 h => hb m m2 _ _ _ _ h fun y _ e2 h => by
    replace h := vNat_inv h
    obtain ⟨n, rfl, h⟩ := h
    obtain ⟨v, e3, h⟩ := sliceLo_inv h
    exact K _ _ (by set_option smartUnfolding false in exact iS e1 (iS (iS e2 rfl) (iS e3 rfl))) h
theorem slice_items {o : Os} {x : V} {xs : List V} (e : itemsOf o x = some xs) {lo : Option V} {n : Nat} {m : Option Nat} (e1 : bound? lo = some m) (e2 : Nat.blt n bigN = true) (e3 : Nat.blt xs.length bigN = true) : slice o x lo (some (.int (.ofNat n))) = some (.list (cut xs m (some n))) := by
  cases x <;> first | exact nos e | skip
  case list s =>
    obtain rfl := Option.some.inj e
    set_option smartUnfolding false in exact i2 e1 (bound_int e2) (iT e3 rfl)
  case ref i => set_option smartUnfolding false in exact i2 e1 (bound_int e2) (iS e (iT e3 rfl))
theorem g_sliceHi {a b : X} {ca cb : KX R} (ha : GX d1 a ca) (hb : GX d2 b cb) : GX (max d1 d2 + 1) (.slice a none (some b)) (kSliceHi ca cb) :=
  GX.mk2 fun m m1 m2 _ _ _ _ h P K => ha m m1 _ _ _ _ h fun x _ e1 h => hb m m2 _ _ _ _ h fun y _ e2 h => by
    replace h := vNat_inv h
    obtain ⟨n, rfl, h⟩ := h
    obtain ⟨e3, h⟩ := shortK_inv h
    obtain ⟨xs, e4, h⟩ := itemsK_inv h
    obtain ⟨e5, h⟩ := slen_inv h
    rw [takeK_eq] at h
    have e6 := slice_items e4 (lo := none) (m := none) rfl e3 e5
    exact K _ _ (by set_option smartUnfolding false in exact iS e1 (iS (iS e2 rfl) (iS e6 rfl))) h
theorem g_slice2 {a b z : X} {ca cb cd : KX R} (ha : GX d1 a ca) (hb : GX d2 b cb) (hd : GX d3 z cd) : GX (max (max d1 d2) d3 + 1) (.slice a (some b) (some z)) (kSlice2 ca cb cd) :=
  GX.mk3 fun m m1 m2 m3 _ _ _ _ h1 P K => ha m m1 _ _ _ _ h1 fun x _ e1 h2 => hb m m2 _ _ _ _ h2 fun y _ e2 h3 => hd m m3 _ _ _ _ h3 fun z _ e0 h4 => by
    obtain ⟨p, ey, h5⟩ := vNat_inv h4
    obtain ⟨n, ez, h⟩ := vNat_inv h5
    clear h1 h2 h3 h4 h5
    subst ey ez
    obtain ⟨e3, h⟩ := shortK_inv h
    obtain ⟨e6, h⟩ := shortK_inv h
    obtain ⟨xs, e4, h⟩ := itemsK_inv h
    obtain ⟨e5, h⟩ := slen_inv h
    rw [takeK_eq, dropK_eq] at h
    have e7 := slice_items e4 (m := some p) (bound_int e3) e6 e5
    exact K _ _ (by set_option smartUnfolding false in exact iS e1 (iS (iS e2 rfl) (iS (iS e0 rfl) (iS e7 rfl)))) h
theorem evL_c {r : Ev} {x : X} {xs : List X} {v : V} {vs : List V} {σ σ1 σ2 : St} (e1 : r.x x σ = some (v, σ1)) (e2 : evL r xs σ1 = some (vs, σ2)) : evL r (x :: xs) σ = some (v :: vs, σ2) := by simp only [evL, e1, e2]
theorem gs_nil : GXs (R := R) 0 [] [] := fun n _ _ _ _ _ h P K => K [] _ rfl rfl h
theorem gs_cons {x : X} {xs : List X} {c : KX R} {cs : List (KX R)} (hx : GX d1 x c) (hs : GXs d2 xs cs) : GXs (max d1 d2) (x :: xs) (c :: cs) :=
  fun n hn l o k r h P K => hx n (lf hn) l o (fun v o => kArgs cs l o fun vs o => k (v :: vs) o) r h fun v _ e1 h => hs n (rt hn) _ _ _ _ h fun vs _ e2 e3 h =>
    K (v :: vs) _ (evL_c e1 e2) (by simp only [List.length_cons, e3]) h
theorem g_tup {xs : List X} {cs : List (KX R)} (hs : GXs d1 xs cs) : GX (d1 + 1) (.tup xs) (kTup cs) := GX.mk fun m hm _ _ _ _ h P K => hs m hm _ _ _ _ h fun vs _ e1 _ h => by
  obtain ⟨e2, h⟩ := slen_inv h
  exact K _ _ (by set_option smartUnfolding false in exact iS e1 (iT e2 rfl)) h
theorem g_list {xs : List X} {cs : List (KX R)} (hs : GXs d1 xs cs) : GX (d1 + 1) (.list false xs) (kList cs) := GX.mk fun m hm _ _ _ _ h P K => hs m hm _ _ _ _ h fun vs _ e1 _ h => by
  obtain ⟨e2, h⟩ := slen_inv h
  exact K _ _ (by set_option smartUnfolding false in exact iS e1 (iT e2 rfl)) h
theorem g_listM {xs : List X} {cs : List (KX R)} (hs : GXs d1 xs cs) : GX (d1 + 1) (.list true xs) (kListM cs) := GX.mk fun m hm _ _ _ _ h P K => hs m hm _ _ _ _ h fun vs _ e1 _ h => by
  obtain ⟨e2, h⟩ := slen_inv h
  rw [lenK_eq, Nat.zero_add, app_eq] at h
  exact K _ _ (by set_option smartUnfolding false in exact iS e1 (iT e2 rfl)) h
theorem initLoc_eq (args : List V) (p : Nat) : initLoc args ((List.range args.length).map some ++ List.replicate p none) = args.map some ++ List.replicate p none := by
  have key : ∀ (m : Nat) (pre post : List V), args = pre ++ post → m = post.length → initLoc args (((List.range' pre.length m).map some) ++ List.replicate p none) = post.map some ++ List.replicate p none := by
    intro m
    induction m with
    | zero =>
      intro pre post h e
      cases post with
      | nil =>
        simp only [List.range'_zero, List.map_nil, List.nil_append]
        clear h e
        induction p with
        | zero => rfl
        | succ p ih => show none :: initLoc args (List.replicate p none) = _; rw [ih]; rfl
      | cons x t => cases e
    | succ m ih =>
      intro pre post h e
      cases post with
      | nil => cases e
      | cons x t =>
        have := ih (pre ++ [x]) t (by simp [h]) (by simpa using e)
        rw [List.length_append, List.length_singleton] at this
        rw [List.range'_succ, List.map_cons, List.cons_append, initLoc, this, List.map_cons, List.cons_append]
        congr 1
        rw [h]; simp
  have := key args.length [] args rfl rfl
  rw [List.range_eq_range']
  exact this
set_option smartUnfolding false in
theorem evCall_val {r : Ev} {f N : Nat} {fn : Fn} {vs us dd : List V} {objs : Os} {v w : V} {σ : St} {L : Lc} (hF : F[f]? = some fn) (hN : vs.length = N) (hn : (Nat.ble (N + fn.kwo) fn.nargs && Nat.ble fn.nargs (N + fn.dflt.length)) = true) (hr : fn.byRef = false) (e3 : frzs objs vs = some us)
    (hd : fn.dflt.drop (N + fn.dflt.length - fn.nargs) = dd) (hL : initLoc (us ++ dd) fn.init = L) (e5 : r.b fn.body ⟨L, []⟩ = some (.ret v, σ)) (e6 : frz σ.objs v = some w) (e7 : (scalar w || noRefs vs) = true) : evCall F r f vs objs = some (w, objs) := by
  subst hN hd hL
  have key : ∀ o : Option (Fl × St), o = some (.ret v, σ) → (match (generalizing := false) o with
    | some (.ret v, σ) => (match frz σ.objs v with
      | some w => (match scalar w || noRefs vs with | true => some (w, objs) | false => none)
      | none => none)
    | _ => none) = some (w, objs) := by
    rintro _ rfl
    exact iS e6 (iT e7 rfl)
  exact iS hF (iT hn (iF hr (iS e3 (key _ e5))))
set_option smartUnfolding false in
theorem evCall_ref {r : Ev} {f k N : Nat} {fn : Fn} {us xs ys dd : List V} {objs rest : Os} {l L : Lc} (hF : F[f]? = some fn) (hN : (V.ref k :: us).length = N) (hn : (Nat.ble (N + fn.kwo) fn.nargs && Nat.ble fn.nargs (N + fn.dflt.length)) = true) (hr : fn.byRef = true) (e3 : objs[k]? = some (.list xs)) (e4 : (noRefs xs && noRefs us) = true)
    (hd : fn.dflt.drop (N + fn.dflt.length - fn.nargs) = dd) (hL : initLoc (.ref 0 :: us ++ dd) fn.init = L) (e5 : r.b fn.body ⟨L, [.list xs]⟩ = some (.next, ⟨l, .list ys :: rest⟩)) (e6 : noRefs ys = true) : evCall F r f (.ref k :: us) objs = some (.none, objs.set k (.list ys)) := by
  subst hN hd hL
  exact iS hF (iT hn (iT hr (iL e3 (iT e4 (iNext e5 (iT e6 rfl))))))
theorem g_call {f : Nat} {fn : Fn} {g : KS R} {xs : List X} {cs : List (KX R)} {dd : List V} {rest : Lc} (p : Nat) (hF : F[f]? = some fn) (hr : fn.byRef = false) (hb : GB d1 fn.body g) (hs : GXs d2 xs cs)
    (hn : (Nat.ble (xs.length + fn.kwo) fn.nargs && Nat.ble fn.nargs (xs.length + fn.dflt.length)) = true) (hd : fn.dflt.drop (xs.length + fn.dflt.length - fn.nargs) = dd)
    (hi : fn.init = (List.range (xs.length + dd.length)).map some ++ List.replicate p none) (he : rest = dd.map some ++ List.replicate p none) : GX (max d2 (d1 + 1) + 1) (.call f xs) (kCall g rest cs) :=
  GX.mk2 fun m m1 m2 l o k r h P K => hs m m1 _ _ _ _ h fun vs o1 e1 e2 h => by
    obtain ⟨us, e3, e4, h⟩ := frzsK_inv h
    rw [app_eq] at h
    refine hb.up m2 h fun fl l2 o2 e5 h => ?_
    cases fl with
    | next => exact nos h
    | brk => exact nos h
    | ret v =>
      obtain ⟨w, e6, h⟩ := frzK_inv (k := fun w => onTrue (@Bool.rec (fun _ => Bool) (nrL vs) true (scalB w)) (k w o1)) h
      obtain ⟨e7, h⟩ := onTrue_inv h
      have e7 : (scalar w || noRefs vs) = true := by rw [← scalB_eq, ← nrL_eq]; revert e7; cases scalB w <;> exact id
      have hL : initLoc (us ++ dd) fn.init = us.map some ++ rest := by
        rw [hi, he, ← e2, ← e4, ← List.length_append, initLoc_eq, List.map_append, List.append_assoc]
      exact K w o1 (by set_option smartUnfolding false in exact iS e1 (iS (evCall_val hF e2 hn hr e3 hd hL e5 e6 e7) rfl)) h
theorem g_callR {f : Nat} {fn : Fn} {g : KS R} {x : X} {xs : List X} {c : KX R} {cs : List (KX R)} {dd : List V} {rest : Lc} (p : Nat) (hF : F[f]? = some fn) (hr : fn.byRef = true) (hb : GB d1 fn.body g) (hs : GXs d2 (x :: xs) (c :: cs))
    (hn : (Nat.ble ((x :: xs).length + fn.kwo) fn.nargs && Nat.ble fn.nargs ((x :: xs).length + fn.dflt.length)) = true) (hd : fn.dflt.drop ((x :: xs).length + fn.dflt.length - fn.nargs) = dd)
    (hi : fn.init = (List.range (xs.length + 1 + dd.length)).map some ++ List.replicate p none) (he : rest = dd.map some ++ List.replicate p none) : GX (max d2 (d1 + 1) + 1) (.call f (x :: xs)) (kCallR g rest (c :: cs)) :=
  GX.mk2 fun m m1 m2 l o k r h P K => hs m m1 _ _ _ _ h fun vs o1 e1 e2 h => by
    obtain ⟨v, us, rfl, h⟩ := lcase_inv h
    replace h := vRef_inv (v := v) h
    obtain ⟨q, rfl, h⟩ := h
    obtain ⟨ys, e3, h⟩ := objK_inv h
    obtain ⟨e4, h⟩ := onTrue_inv h
    obtain ⟨e5, h⟩ := onTrue_inv h
    obtain ⟨us', e6, e7, h9⟩ := frzsK_inv h
    clear h
    obtain rfl : us' = us := Option.some.inj (e6.symm.trans (frz_noRefs (f := frzRef [] 6) (x := us) ((nrL_eq us).symm.trans e5)))
    rw [app_eq] at h9
    refine hb.up m2 h9 fun fl l2 o2 e8 h => ?_
    cases fl with
    | ret v => exact nos h
    | brk => exact nos h
    | next =>
      obtain ⟨ob, o3, rfl, h⟩ := lcase_inv (l := o2) h
      obtain ⟨zs, rfl, h⟩ := oList_inv (o := ob) h
      obtain ⟨e9, h⟩ := onTrue_inv h
      obtain ⟨ea, h⟩ := upd_inv h
      have e2' : us'.length = xs.length := Nat.succ.inj e2
      have hL : initLoc (.ref 0 :: us' ++ dd) fn.init = (some (.ref 0) : Option V) :: (us'.map some ++ rest) := by
        have : xs.length + 1 + dd.length = (V.ref 0 :: us' ++ dd).length := by rw [List.length_append, List.length_cons, e2']
        rw [hi, he, this, initLoc_eq, List.map_append, List.map_cons, List.append_assoc, List.cons_append]
      have e10 : noRefs zs = true := (nrL_eq zs).symm.trans e9
      have e11 : (noRefs ys && noRefs us') = true := by rw [← nrL_eq, ← nrL_eq, e4, e5]; rfl
      have e12 : (V.ref q :: us').length = (x :: xs).length := e2
      exact K .none _ (by set_option smartUnfolding false in exact iS e1 (iS (evCall_ref hF e12 hn hr e3 e11 hd hL e8 e10) rfl)) h
theorem g_len {x : X} {c : KX R} (h : GX d1 x c) : GX (d1 + 1) (.prim .len [x]) (kLen c) := GX.mk fun m hm _ _ k _ q P K => h m hm _ _ _ _ q fun v o1 e q => by
  cases v <;> first | exact nos q | skip
  case str s =>
    obtain ⟨e2, q⟩ := slen_inv (k := fun n => k (.int (.ofNat n)) o1) q
    exact K _ _ (by set_option smartUnfolding false in exact iS (evL_c e rfl) (iS (iT e2 rfl) rfl)) q
  case bytes t s =>
    obtain ⟨e2, q⟩ := slen_inv (k := fun n => k (.int (.ofNat n)) o1) q
    exact K _ _ (by set_option smartUnfolding false in exact iS (evL_c e rfl) (iS (iT e2 rfl) rfl)) q
  case list s =>
    obtain ⟨e2, q⟩ := slen_inv (k := fun n => k (.int (.ofNat n)) o1) q
    exact K _ _ (by set_option smartUnfolding false in exact iS (evL_c e rfl) (iS (iT e2 rfl) rfl)) q
  case ref i =>
    obtain ⟨s, e3, q⟩ := objK_inv (k := fun s => slen s fun n => k (.int (.ofNat n)) o1) q
    obtain ⟨e2, q⟩ := slen_inv (k := fun n => k (.int (.ofNat n)) o1) q
    exact K _ _ (by set_option smartUnfolding false in exact iS (evL_c e rfl) (iS (iS (itemsOf_ref e3) (iT e2 rfl)) rfl)) q
theorem g_ord {x : X} {c : KX R} (h : GX d1 x c) : GX (d1 + 1) (.prim .ord [x]) (kOrd c) := GX.mk fun m hm _ _ k _ q P K => h m hm _ _ _ _ q fun v o1 e q => by
  replace q := vStr_inv q
  obtain ⟨s, rfl, q⟩ := q
  obtain ⟨c, t, rfl, q⟩ := lcase_inv q
  obtain ⟨rfl, q⟩ := lend_inv q
  exact K _ _ (by set_option smartUnfolding false in exact iS (evL_c e rfl) rfl) q
theorem g_prim {p : Prim} {xs : List X} {cs : List (KX R)} (hs : GXs d1 xs cs) : GX (d1 + 1) (.prim p xs) (kPrim p cs) := GX.mk fun m hm _ _ k _ h P K => hs m hm _ _ _ _ h fun vs o1 e1 _ h => by
  cases e2 : prim o1 p vs with
  | none => rw [e2] at h; exact nos h
  | some q =>
    rw [e2] at h
    exact K q.1 q.2 (by set_option smartUnfolding false in exact iS e1 (iS e2 rfl)) h
set_option smartUnfolding false in
theorem methOk_l {o : Os} {q : Nat} {xs : List V} (e : o[q]? = some (.list xs)) : methOk o .append (.ref q) = true := iL e rfl
theorem g_append {x y : X} {c d : KX R} (hx : GX d1 x c) (hy : GX d2 y d) : GX (max d1 d2 + 1) (.meth .append x [y]) (kAppend c d) :=
  GX.mk2 fun m m1 m2 _ _ _ _ h P K => hx m m1 _ _ _ _ h fun v o1 e1 h => by
    replace h := vRef_inv h
    obtain ⟨q, rfl, h⟩ := h
    obtain ⟨zs, e2, h⟩ := objK_inv h
    refine hy m m2 _ _ _ _ h fun w o2 e3 h => ?_
    obtain ⟨xs, e4, h⟩ := objK_inv h
    obtain ⟨e5, h⟩ := slen_inv h
    rw [app_eq] at h
    exact K _ _ (by set_option smartUnfolding false in exact iS e1 (iT (methOk_l e2) (iS (evL_c e3 rfl) (iS (iL e4 (iT e5 rfl)) rfl)))) (upd_inv h).2
theorem g_insert {x i y : X} {c b d : KX R} (hx : GX d1 x c) (hi : GX d2 i b) (hy : GX d3 y d) : GX (max (max d1 d2) d3 + 1) (.meth .insert x [i, y]) (kInsert c b d) :=
  GX.mk3 fun m m1 m2 m3 _ _ _ _ h P K => hx m m1 _ _ _ _ h fun v o1 e1 h => by
    replace h := vRef_inv h
    obtain ⟨q, rfl, h⟩ := h
    obtain ⟨zs, e2, h⟩ := objK_inv h
    refine hi m m2 _ _ _ _ h fun p o2 e3 h5 => hy m m3 _ _ _ _ h5 fun w o3 e4 h6 => ?_
    obtain ⟨p, ep, h⟩ := vNat_inv h6
    clear h5 h6
    subst ep
    obtain ⟨xs, e5, h⟩ := objK_inv h
    obtain ⟨e6, h⟩ := slen_inv h
    obtain ⟨e7, h⟩ := onTrue_inv h
    rw [takeK_eq, dropK_eq, app_eq] at h
    exact K _ _ (by set_option smartUnfolding false in exact iS e1 (iT (methOk_l e2) (iS (evL_c e3 (evL_c e4 rfl)) (iS (iL e5 (iT (by rw [e7, e6]; rfl) rfl)) rfl)))) (upd_inv h).2
theorem findK_eq (c : Nat) (k : V → Option R) : ∀ (s : List Nat) (n : Nat), findK c s n k = k (.int (lfind c s n))
  | [], _ => rfl
  | x :: s, n => by
    show bfi (Nat.beq x c) (k (.int (.ofNat n))) (findK c s (Nat.succ n) k) = _
    rw [findK_eq c k s, lfind]
    cases Nat.beq x c <;> rfl
theorem g_find {x : X} {c : KX R} (h : GX d1 x c) (d : Nat) : GX (max d1 1 + 1) (.meth .find x [.const (.str [d])]) (kFind c d) :=
  GX.mk2 fun m m1 m2 l o k r q P K => h m m1 _ _ _ _ q fun v o1 e1 q => by
    replace q := vStr_inv q
    obtain ⟨s, rfl, q⟩ := q
    rw [findK_eq] at q
    have e2 : (ev F m).x (.const (.str [d])) ⟨l, o1⟩ = some (.str [d], ⟨l, o1⟩) := by
      match m, m2 with
      | m + 1, _ => rfl
    exact K _ _ (by set_option smartUnfolding false in exact iS e1 (iS (evL_c e2 rfl) rfl)) q
theorem g_search {x : X} {c : KX R} (h : GX d1 x c) : GX (d1 + 1) (.meth .search (.const .none) [x]) (kSearch c) := GX.mk fun m hm _ _ k _ q P K => h m hm _ _ _ _ q fun v o1 e1 q => by
  replace q := vStr_inv q
  obtain ⟨s, rfl, q⟩ := q
  obtain ⟨e2, q⟩ := onTrue_inv q
  exact K _ _ (by set_option smartUnfolding false in exact iS (evL_c e1 rfl) (iS (iT e2 rfl) rfl)) q

/-! tests -/
noncomputable def plainT : X → Bool
  | .nott _ | .andd _ | .orr _ | .cmp _ _ _ => false
  | _ => true
theorem evT_plain {x : X} (hp : plainT x = true) {r : Ev} {σ σ1 : St} {v : V} {b : Bool} (e1 : r.x x σ = some (v, σ1)) (e2 : truth v = some b) : evT r x σ = some (b, σ1) := by
  have h : (match r.x x σ with | some (v, σ1) => (match truth v with | some b => some (b, σ1) | none => none) | none => none) = some (b, σ1) := by set_option smartUnfolding false in exact iS e1 (iS e2 rfl)
  cases x <;> first | exact h | exact nob hp
theorem t_x {x : X} {c : KX R} (hp : plainT x = true) (h : GX d1 x c) : GT (d1 + 1) x (kTx c) := GT.mk fun m hm _ _ _ _ q P K => h m hm _ _ _ _ q fun v o1 e q => by
  obtain ⟨b, e2, q⟩ := vTruth_inv q
  exact K b _ (evT_plain hp e e2) q
theorem t_not {x : X} {c : KT R} (h : GT d1 x c) : GT (d1 + 1) (.nott x) (kTnot c) := GT.mk fun m hm _ _ _ _ q P K => h m hm _ _ _ _ q fun v o1 e q => K (!v) _ (by set_option smartUnfolding false in exact iS e rfl) (nt_eq v ▸ q)
theorem t_cmp {op : COp} {f : Os → V → V → (Bool → Option R) → Option R} (hf : CmpOk op f) {a b : X} {ca cb : KX R} (ha : GX d1 a ca) (hb : GX d2 b cb) : GT (max d1 d2 + 1) (.cmp op a b) (kCmp f ca cb) :=
  GT.mk fun m hm _ _ _ _ h P K => ha m (lf hm) _ _ _ _ h fun x _ e1 h => hb m (rt hm) _ _ _ _ h fun y _ e2 h => by
    obtain ⟨v, e3, h⟩ := hf _ _ _ _ _ h
    exact K _ _ (by set_option smartUnfolding false in exact iS e1 (iS e2 (iS e3 rfl))) h
theorem a_nil : GAll (R := R) 0 [] kTt := fun n _ _ o _ _ h P K => K true o rfl h
theorem a_cons {x : X} {xs : List X} {c d : KT R} (hx : GT d1 x c) (hs : GAll d2 xs d) : GAll (max d1 d2) (x :: xs) (kTand c d) :=
  fun n hn _ _ _ _ h P K => hx n (lf hn) _ _ _ _ h fun v o1 e1 h => by
    cases v with
    | true => exact hs n (rt hn) _ _ _ _ h fun w o2 e2 h => K w o2 (by simp only [evAll, e1, e2]) h
    | false => exact K false o1 (by simp only [evAll, e1]) h
theorem t_and {xs : List X} {c : KT R} (h : GAll d1 xs c) : GT (d1 + 1) (.andd xs) c := GT.mk fun m hm _ _ _ _ q P K => h m hm _ _ _ _ q fun v o1 e q => K _ _ e q
theorem n_nil : GAny (R := R) 0 [] kTf := fun n _ _ o _ _ h P K => K false o rfl h
theorem n_cons {x : X} {xs : List X} {c d : KT R} (hx : GT d1 x c) (hs : GAny d2 xs d) : GAny (max d1 d2) (x :: xs) (kTor c d) :=
  fun n hn _ _ _ _ h P K => hx n (lf hn) _ _ _ _ h fun v o1 e1 h => by
    cases v with
    | true => exact K true o1 (by simp only [evAny, e1]) h
    | false => exact hs n (rt hn) _ _ _ _ h fun w o2 e2 h => K w o2 (by simp only [evAny, e1, e2]) h
theorem t_or {xs : List X} {c : KT R} (hn : isOrEq? xs = none) (h : GAny d1 xs c) : GT (d1 + 1) (.orr xs) c := GT.mk fun m hm _ _ _ _ q P K => h m hm _ _ _ _ q fun v o1 e q => K _ _ (by set_option smartUnfolding false in exact iN hn e) q
theorem t_same {xs : List X} {i j : Nat} (hn : isOrEq? xs = some (i, j)) : GT (R := R) 1 (.orr xs) (kTsame i j) := GT.mk (d1 := 0) fun m _ _ o _ _ q P K => by
  obtain ⟨a, e1, q⟩ := getK_inv q
  obtain ⟨b, e2, q⟩ := getK_inv q
  obtain ⟨c, e3, q⟩ := sameK_inv q
  exact K c o (by set_option smartUnfolding false in exact iS hn (iVV e1 e2 (iS e3 rfl))) q
end
end Mine
end
section
namespace Mine
section
variable {R : Type} {d1 d2 d3 : Nat}
/-! loops -/
noncomputable def going {Y : Type} (it : It) (step : KStep R Y) (fin : KRest R Y) : Nat → Nat → KRest R Y
  | 0, _ => fun _ _ _ => none
  | n + 1, i => fun l o x => match it.at o i with
    | none => none
    | some none => fin l o x
    | some (some v) => step v l o x (going it step fin n (i + 1))
theorem goVals_eq {Y : Type} {step : KStep R Y} {fin : KRest R Y} : ∀ (xs ys : List V) (i : Nat), ys.drop i = xs → goVals xs step fin = going (.vals ys) step fin (xs.length + 1) i
  | [], ys, i, h => by
    funext l o x
    have e : ys[i]? = none := List.getElem?_eq_none (List.drop_eq_nil_iff.mp h)
    show fin l o x = _
    simp only [going, It.at, e]
  | v :: t, ys, i, h => by
    funext l o x
    have e : ys[i]? = some v := by
      have := congrArg (·[0]?) h
      simpa [List.getElem?_drop] using this
    have e2 : ys.drop (i + 1) = t := by
      have := congrArg (List.drop 1) h
      simpa [List.drop_drop] using this
    show step v l o x (goVals t step fin) = _
    rw [goVals_eq t ys (i + 1) e2]
    simp only [going, It.at, e, List.length_cons]
theorem goVals_eq0 {Y : Type} {step : KStep R Y} {fin : KRest R Y} (xs : List V) : goVals xs step fin = going (.vals xs) step fin (xs.length + 1) 0 := goVals_eq xs xs 0 rfl
theorem goRange_eq {Y : Type} {step : KStep R Y} {fin : KRest R Y} (w : Nat) : ∀ n i : Nat, goRange w n i step fin = goVals (rangeItems (.ofNat w) n (.ofNat i)) step fin
  | 0, _ => rfl
  | n + 1, i => by
    funext l o x
    show step (.int (.ofNat i)) l o x (goRange w n (Nat.add i w) step fin) = step (.int (.ofNat i)) l o x (goVals (rangeItems (.ofNat w) n (Int.ofNat i + Int.ofNat w)) step fin)
    rw [goRange_eq w n (Nat.add i w)]; rfl
theorem goEnum_eq {Y : Type} {step : KStep R Y} {fin : KRest R Y} : ∀ (xs : List V) (i : Nat), goEnum i xs step fin = goVals (enumItems i xs) step fin
  | [], _ => rfl
  | v :: t, i => by
    funext l o x
    show step (.tuple [.int (.ofNat i), v]) l o x (goEnum (Nat.succ i) t step fin) = step (.tuple [.int (.ofNat i), v]) l o x (goVals (enumItems (i + 1) t) step fin)
    rw [goEnum_eq t (Nat.succ i)]
theorem goChars_eq {Y : Type} {step : KStep R Y} {fin : KRest R Y} : ∀ xs : List Nat, goChars xs step fin = goVals (chars xs) step fin
  | [] => rfl
  | c :: t => by
    funext l o x
    show step (.str [c]) l o x (goChars t step fin) = step (.str [c]) l o x (goVals (chars t) step fin)
    rw [goChars_eq t]
theorem nth_eq {α : Type} {i : Nat} {l : List α} {k : α → Option R} : nth i l k = match l[i]? with | some x => k x | none => none := by
  induction i generalizing l with
  | zero => cases l <;> rfl
  | succ i ih => cases l with
    | nil => rfl
    | cons x t => exact ih (l := t)
theorem objK_eq {i : Nat} {o : Os} {k : List V → Option R} : objK i o k = match o[i]? with | some (.list xs) => k xs | _ => none := by
  unfold objK
  rw [nth_eq]
  cases o[i]? with
  | none => rfl
  | some x => cases x <;> rfl
theorem goRef_eq {Y : Type} {step : KStep R Y} {fin : KRest R Y} (r : Nat) : ∀ n i : Nat, goRef r n i step fin = going (.ref r) step fin n i
  | 0, _ => rfl
  | n + 1, i => by
    funext l o x
    show (objK r o fun xs => nthD i xs (fin l o x) fun v => step v l o x (goRef r n (Nat.succ i) step fin)) = _
    rw [goRef_eq r n (Nat.succ i), objK_eq]
    simp only [going, It.at]
    cases o[r]? with
    | none => rfl
    | some y => cases y with
      | barr b => rfl
      | list xs =>
        show nthD i xs _ _ = _
        rw [nthD_eq]
        show _ = match some xs[i]? with | none => none | some none => fin l o x | some (some v) => _
        cases xs[i]? <;> rfl
theorem chars_length : ∀ s : List Nat, (chars s).length = s.length
  | [] => rfl
  | _ :: s => congrArg (· + 1) (chars_length s)
theorem enumItems_length : ∀ (s : List V) (i : Nat), (enumItems i s).length = s.length
  | [], _ => rfl
  | _ :: s, i => congrArg (· + 1) (enumItems_length s (i + 1))
theorem rangeItems_length (w : Int) : ∀ (n : Nat) (i : Int), (rangeItems w n i).length = n
  | 0, _ => rfl
  | n + 1, i => congrArg (· + 1) (rangeItems_length w n (i + w))
theorem blt_lt {a b : Nat} (h : Nat.blt a b = true) : a < b := Nat.le_of_ble_eq_true h

theorem le_of_eq_le {a b c : Nat} (h : a = b) (g : b ≤ c) : a ≤ c := h ▸ g
noncomputable def GI {Y : Type} (d : Nat) (x : X) (g : KIt R Y) : Prop := ∀ n, d ≤ n → ∀ l o step fin l' c r, g l o step fin l' c = some r → ∀ {P : Prop}, (∀ it o', iterEval (ev F n) x ⟨l, o⟩ = some (it, ⟨l, o'⟩) → it.turns o' ≤ bigN → going it step fin (it.turns o') 0 (l' o') o' c = some r → P) → P
theorem not_range {n : Nat} {x : X} {σ : St} {p : V × St} (h : (ev F n).x x σ = some p) : ∀ args, x ≠ .range args := by
  rintro args rfl
  cases n <;> exact nos h
theorem iterEval_x {x : X} (h : ∀ args, x ≠ .range args) {r : Ev} {σ σ1 : St} {v : V} {it : It} (e1 : r.x x σ = some (v, σ1)) (e2 : itOf σ1.objs v = some it) : iterEval r x σ = some (it, σ1) := by
  have k : (match r.x x σ with | some (v, σ1) => (match itOf σ1.objs v with | some it => some (it, σ1) | none => none) | none => none) = some (it, σ1) := by set_option smartUnfolding false in exact iS e1 (iS e2 rfl)
  cases x <;> first | exact k | exact absurd rfl (h _)
theorem goOf_inv {Y : Type} {v : V} {step : KStep R Y} {fin : KRest R Y} {l : Lc} {o : Os} {c : Y} {r : R} (h : goOf v step fin l o c = some r) : ∃ it, itOf o v = some it ∧ it.turns o ≤ bigN ∧ going it step fin (it.turns o) 0 l o c = some r := by
  cases v <;> first | exact nos h | skip
  case str s =>
    obtain ⟨e1, h⟩ := slen_inv (k := fun _ => goChars s step fin l o c) h
    rw [goChars_eq, goVals_eq0] at h
    exact ⟨.vals (chars s), (by set_option smartUnfolding false in exact iT e1 rfl), le_of_eq_le (congrArg (· + 1) (chars_length s)) (blt_lt e1), h⟩
  case list xs =>
    obtain ⟨e1, h⟩ := slen_inv (k := fun _ => goVals xs step fin l o c) h
    rw [goVals_eq0] at h
    exact ⟨.vals xs, (by set_option smartUnfolding false in exact iT e1 rfl), blt_lt e1, h⟩
  case tuple xs =>
    obtain ⟨e1, h⟩ := slen_inv (k := fun _ => goVals xs step fin l o c) h
    rw [goVals_eq0] at h
    exact ⟨.vals xs, (by set_option smartUnfolding false in exact iT e1 rfl), blt_lt e1, h⟩
  case ref i =>
    obtain ⟨xs, e0, h⟩ := objK_inv (k := fun xs => slen xs fun n => goRef i (Nat.succ n) 0 step fin l o c) h
    obtain ⟨e1, h⟩ := slen_inv h
    have e2 : (It.ref i).turns o = xs.length + 1 := (by set_option smartUnfolding false in exact iL e0 rfl)
    rw [goRef_eq] at h
    exact ⟨.ref i, (by set_option smartUnfolding false in exact iL e0 rfl), e2 ▸ blt_lt e1, e2 ▸ h⟩
theorem i_x {Y : Type} {x : X} {c : KX R} (hx : GX d1 x c) : GI (Y := Y) d1 x (itX c) := fun n hn _ _ _ _ _ _ _ h P K => hx n hn _ _ _ _ h fun v o1 e1 h => by
  obtain ⟨it, e2, e3, h⟩ := goOf_inv h
  exact K it o1 (iterEval_x (not_range e1) e1 e2) e3 h
theorem i_range {Y : Type} {x : X} {c : KX R} (hx : GX d1 x c) : GI (Y := Y) d1 (.range [x]) (itRange c) := fun n hn _ _ _ _ _ _ _ h P K => hx n hn _ _ _ _ h fun v o1 e1 h => by
  replace h := vNat_inv h
  obtain ⟨n, rfl, h⟩ := h
  obtain ⟨e2, h⟩ := shortK_inv h
  rw [goRange_eq, goVals_eq0] at h
  exact K (.vals (rangeItems 1 n 0)) o1 (by set_option smartUnfolding false in exact iS (evL_c e1 rfl) (iS (iT e2 rfl) rfl)) (le_of_eq_le (congrArg (· + 1) (rangeItems_length 1 n 0)) (blt_lt e2)) h
theorem range3_turns {n u : Nat} (h : Nat.blt n bigN = true) : (n + u) / (u + 1) + 1 ≤ bigN := by
  have h1 : (n + u) / (u + 1) ≤ n := by
    cases n with
    | zero => rw [Nat.zero_add, Nat.div_eq_of_lt (Nat.lt_succ_self u)]; exact Nat.le_refl 0
    | succ n =>
      refine Nat.div_le_of_le_mul ?_
      rw [Nat.succ_mul, Nat.add_comm (n + 1) u, Nat.add_comm (u * (n + 1))]
      exact Nat.add_comm u (n + 1) ▸ Nat.add_le_add_left (Nat.le_mul_of_pos_right u (Nat.succ_pos n)) (n + 1)
  exact Nat.le_trans (Nat.succ_le_succ h1) (blt_lt h)
theorem i_range3 {Y : Type} {x y z : X} {c d e : KX R} (hx : GX d1 x c) (hy : GX d2 y d) (hz : GX d3 z e) : GI (Y := Y) (max (max d1 d2) d3) (.range [x, y, z]) (itRange3 c d e) :=
  fun n hn _ _ _ _ _ _ _ h1 P K => hx n (lf (lf hn)) _ _ _ _ h1 fun v o1 e1 h2 => hy n (rt (lf hn)) _ _ _ _ h2 fun v2 o2 e2 h3 => hz n (rt hn) _ _ _ _ h3 fun v3 o3 e3 h4 => by
    obtain ⟨a, ea, h5⟩ := vNat_inv h4
    obtain ⟨b, eb, h6⟩ := vNat_inv h5
    obtain ⟨w, ew, h⟩ := vNat_inv h6
    clear h1 h2 h3 h4 h5 h6
    subst ea eb ew
    obtain ⟨e4, h1⟩ := onTrue_inv h
    obtain ⟨e5, h2⟩ := onTrue_inv h1
    obtain ⟨e6, h3⟩ := shortK_inv h2
    obtain ⟨e7, h4⟩ := onTrue_inv h3
    clear h h1 h2 h3
    cases a with
    | succ a => exact nob e4
    | zero =>
      cases w with
      | zero => exact nob e5
      | succ u =>
        have e8 : Nat.blt u bigN = true := e7
        rw [goRange_eq, goVals_eq0] at h4
        exact K (.vals (rangeItems (.ofNat (u + 1)) ((b + u) / (u + 1)) 0)) o3 (by set_option smartUnfolding false in exact iS (evL_c e1 (evL_c e2 (evL_c e3 rfl))) (iS (iT (by rw [e6, e8]; rfl) rfl) rfl)) (le_of_eq_le (congrArg (· + 1) (rangeItems_length _ _ _)) (range3_turns e6)) h4

noncomputable def GTg (t : Tgt) (g : KG R) : Prop := ∀ v l o k r, g v l k = some r → ∃ l', setTgt l o t v = some l' ∧ k l' = some r
theorem tg_one (i : Nat) : GTg (R := R) (.one i) (tgOne i) := by
  intro v l o k r h
  exact ⟨_, rfl, (upd_inv h).2⟩
theorem setMany_inv : ∀ (is : List Nat) (xs : List V) (l : Lc) (k : Lc → Option R) (r : R), setMany is xs l k = some r → is.length = xs.length ∧ k ((is.zip xs).foldl (fun l p => l.set p.1 (some p.2)) l) = some r
  | [], [], l, k, r, h => ⟨rfl, h⟩
  | [], _ :: _, l, k, r, h => by cases h
  | _ :: _, [], l, k, r, h => by cases h
  | i :: is, x :: xs, l, k, r, h => by
    replace h := (upd_inv (k := fun l => setMany is xs l k) h).2
    obtain ⟨a, h⟩ := setMany_inv is xs _ k r h
    exact ⟨congrArg (· + 1) a, h⟩
theorem tg_many (is : List Nat) : GTg (R := R) (.many is) (tgMany is) := by
  intro v l o k r h
  replace h := vTuple_inv h
  obtain ⟨xs, rfl, h⟩ := h
  obtain ⟨a, h⟩ := setMany_inv is xs l k r h
  have e : Nat.beq is.length xs.length = true := by rw [a]; exact Nat.beq_refl _
  exact ⟨_, (by set_option smartUnfolding false in exact iT e rfl), h⟩

/-- a block's run at one fuel -/
noncomputable def BU (n : Nat) (b : List S) (c : KS R) : Prop := ∀ l o kn kb kr r, c l o kn kb kr = some r → ∀ {P : Prop}, (∀ fl l' o', (ev F n).b b ⟨l, o⟩ = some (fl, ⟨l', o'⟩) → fin fl l' o' kn kb kr = some r → P) → P
theorem GB.bu {n : Nat} {b : List S} {c : KS R} (h : GB d1 b c) (hn : d1 + 1 ≤ n) : BU n b c := fun _ _ _ _ _ _ q _ K => h.up hn q K
theorem for_go {n : Nat} {it : It} {tgt : Tgt} {tg : KG R} (ht : GTg tgt tg) {b e : List S} {cb ce : KS R} (hb : BU n b cb) (he : BU n e ce) {kn kb : Lc → Os → Option R} {kr : V → Os → Option R} {r : R} {P : Prop} :
    ∀ (m i : Nat) (l : Lc) (o : Os), going (Y := Unit) it (fun v l o _ nx => tg v l fun l => cb l o (fun l o => nx l o ⟨⟩) kn kr) (fun l o _ => ce l o kn kb kr) m i l o ⟨⟩ = some r →
      (∀ fl l' o', evFor (ev F n) tgt b e it m i ⟨l, o⟩ = some (fl, ⟨l', o'⟩) → fin fl l' o' kn kb kr = some r → P) → P
  | 0, _, _, _, h, _ => nos h
  | m + 1, i, l, o, h, K => by
    simp only [going] at h
    cases e0 : it.at o i with
    | none => rw [e0] at h; exact nos h
    | some q => cases q with
      | none =>
        rw [e0] at h
        exact he _ _ _ _ _ _ h fun fl l' o' e1 h => K fl l' o' (by simp only [evFor, e0, e1]) h
      | some v =>
        rw [e0] at h
        obtain ⟨l1, e1, h⟩ := ht v l o _ _ h
        refine hb _ _ _ _ _ _ h fun fl l2 o2 e2 h => ?_
        cases fl with
        | next => exact for_go ht hb he m (i + 1) l2 o2 h fun fl l3 o3 e3 h => K fl l3 o3 (by simp only [evFor, e0, e1, e2, e3]) h
        | brk => exact K .next l2 o2 (by simp only [evFor, e0, e1, e2]) h
        | ret w => exact K (.ret w) l2 o2 (by simp only [evFor, e0, e1, e2]) h
theorem evS_for {x : X} (h : ∀ y, x ≠ .enum y) {r : Ev} {tgt : Tgt} {b e : List S} {σ σ1 : St} {it : It} {q : Fl × St} (e1 : iterEval r x σ = some (it, σ1)) (e2 : evFor r tgt b e it (it.turns σ1.objs) 0 σ1 = some q) : evS r (.forr tgt x b e) σ = some q := by
  have k : (match iterEval r x σ with | some (it, σ1) => evFor r tgt b e it (it.turns σ1.objs) 0 σ1 | none => none) = some q := by set_option smartUnfolding false in exact iS e1 e2
  cases x <;> first | exact k | exact absurd rfl (h _)
theorem s_for {tgt : Tgt} {tg : KG R} (ht : GTg tgt tg) {x : X} {g : KIt R Unit} (hne : ∀ y, x ≠ .enum y) (hx : GI d3 x g) {b e : List S} {cb ce : KS R} (hb : GB d1 b cb) (he : GB d2 e ce) : GS (max d3 (max (d1 + 1) (d2 + 1))) (.forr tgt x b e) (kFor tg g cb ce) :=
  fun n hn _ _ _ _ _ _ h P K => hx n (lf hn) _ _ _ _ _ _ _ h fun it o1 e1 _ h => for_go ht (hb.bu (lf (rt hn))) (he.bu (rt (rt hn))) _ _ _ _ h fun fl l2 o2 e2 h => K fl l2 o2 (evS_for hne e1 e2) h
theorem s_forEnum {is : List Nat} {tg : KG R} (ht : GTg (.many is) tg) {x : X} {c : KX R} (hx : GX d3 x c) {b e : List S} {cb ce : KS R} (hb : GB d1 b cb) (he : GB d2 e ce) : GS (max d3 (max (d1 + 1) (d2 + 1))) (.forr (.many is) (.enum x) b e) (kFor tg (itEnum c) cb ce) :=
  fun n hn l _ kn kb kr _ h P K => hx n (lf hn) _ _ _ _ h fun v o1 e1 h => by
    cases v <;> first | exact nos h | skip
    case list xs =>
      obtain ⟨e2, h⟩ := slen_inv (l := xs) (k := fun _ => goEnum (X := Unit) 0 xs (fun v l o _ nx => tg v l fun l => cb l o (fun l o => nx l o ⟨⟩) kn kr) (fun l o _ => ce l o kn kb kr) l o1 ()) h
      rw [goEnum_eq, goVals_eq0, enumItems_length] at h
      exact for_go ht (hb.bu (lf (rt hn))) (he.bu (rt (rt hn))) _ _ _ _ h fun fl l2 o2 e3 h => K fl l2 o2 (by set_option smartUnfolding false in exact iS e1 (iT e2 e3)) h

theorem comp_go {n : Nat} {it : It} {tgt : Tgt} {tg : KG R} (ht : GTg tgt tg) {elt : X} {ce : KX R} (he : GX d1 elt ce) {conds : List X} {cc : KT R} (hc : GAll d2 conds cc) (h1 : d1 ≤ n) (h2 : d2 ≤ n) {r : R} {P : Prop} :
    ∀ (m i : Nat) (l : Lc) (o : Os) (c : Acc R) (acc : List V), acc.length + m ≤ bigN →
      going (Y := Acc R) it (fun v l o c nx => tg v l fun l => cc l o fun b o => bfi b (ce l o fun u o => nx l o fun us o => c (u :: us) o) (nx l o c)) (fun _ o c => c [] o) m i l o c = some r →
      (∀ us l' o', evComp (ev F n) tgt elt conds it m i ⟨l, o⟩ acc = some (acc ++ us, ⟨l', o'⟩) → c us o' = some r → P) → P
  | 0, _, _, _, _, _, _, h, _ => nos h
  | m + 1, i, l, o, c, acc, ha, h, K => by
    simp only [going] at h
    cases e0 : it.at o i with
    | none => rw [e0] at h; exact nos h
    | some q => cases q with
      | none =>
        rw [e0] at h
        exact K [] l o (by simp only [evComp, e0, List.append_nil]) h
      | some v =>
        rw [e0] at h
        obtain ⟨l1, e1, h⟩ := ht v l o _ _ h
        refine hc n h2 _ _ _ _ h fun b o1 e2 h => ?_
        cases b with
        | true =>
          refine he n h1 _ _ _ _ h fun u o2 e3 h => ?_
          have e5 : Nat.blt acc.length bigN = true := Nat.ble_eq_true_of_le (Nat.le_trans (Nat.succ_le_succ (Nat.le_add_right _ m)) ha)
          refine comp_go ht he hc h1 h2 m (i + 1) l1 o2 _ (acc ++ [u]) (by rw [List.length_append, Nat.add_assoc, Nat.add_comm _ m]; exact ha) h fun us l3 o3 e4 h => K (u :: us) l3 o3 ?_ h
          simp only [evComp, e0, e1, e2, e3, e5, e4, List.append_assoc, List.singleton_append]
        | false => exact comp_go ht he hc h1 h2 m (i + 1) l1 o1 _ acc (Nat.le_trans (Nat.le_succ _) ha) h fun us l3 o3 e4 h => K us l3 o3 (by simp only [evComp, e0, e1, e2, e4]) h
noncomputable def GC (cs : List (Option Nat)) (c : Lc → (Lc → Option R) → Option R) : Prop := ∀ l k r, c l k = some r → k (capLoc l cs) = some r
theorem c_nil : GC (R := R) [] capNil := fun _ _ _ h => h
theorem c_no {cs : List (Option Nat)} {c : Lc → (Lc → Option R) → Option R} (h : GC cs c) : GC (none :: cs) (capNo c) := fun _ _ _ q => h _ _ _ q
theorem c_at {cs : List (Option Nat)} {c : Lc → (Lc → Option R) → Option R} (i : Nat) (h : GC cs c) : GC (some i :: cs) (capAt i c) := by
  intro l k r q
  obtain ⟨v, e, q⟩ := nth_inv q
  have := h _ _ _ q
  simp only [capLoc, e]
  exact this
theorem g_comp {cs : List (Option Nat)} {cap : Lc → (Lc → Option R) → Option R} (hk : GC cs cap) {tgt : Tgt} {tg : KG R} (ht : GTg tgt tg) {elt : X} {ce : KX R} (he : GX d1 elt ce) {x : X} {g : KIt R (Acc R)} (hx : GI d3 x g) {conds : List X} {cc : KT R} (hc : GAll d2 conds cc) : GX (max (max d1 d2) d3 + 1) (.comp cs tgt elt x conds) (kComp cap tg ce g cc) :=
  GX.mk3 fun m m1 m2 m3 _ _ _ _ h P K => hx m m3 _ _ _ _ _ _ _ (hk _ _ _ h) fun it o1 e1 e2 h => comp_go ht he hc m1 m2 _ _ _ _ _ [] (le_of_eq_le (Nat.zero_add _) e2) h fun us l2 o2 e3 h =>
    K (.list us) o2 (by set_option smartUnfolding false in exact iS e1 (iS e3 rfl)) h

theorem GB.weak {b : List S} {c : KS R} (h : GB d1 b c) (e : d1 ≤ d2) : GB d2 b c := fun n hn => h n (Nat.le_trans e hn)
theorem GS.weak {b : S} {c : KS R} (h : GS d1 b c) (e : d1 ≤ d2) : GS d2 b c := fun n hn => h n (Nat.le_trans e hn)
/-! statements -/
theorem b_nil : GB (R := R) 0 [] kNil := fun n _ l o _ _ _ _ h P K => K .next l o rfl h
theorem b_seq {s : S} {ss : List S} {c d : KS R} (hs : GS d1 s c) (hb : GB d2 ss d) : GB (max d1 d2) (s :: ss) (kSeq c d) :=
  fun n hn _ _ _ _ _ _ h P K => hs n (lf hn) _ _ _ _ _ _ h fun fl l1 o1 e1 h => by
    cases fl with
    | next => exact hb n (rt hn) _ _ _ _ _ _ h fun fl l2 o2 e2 h => K fl l2 o2 (by simp only [evB, e1, e2]) h
    | brk => exact K .brk l1 o1 (by simp only [evB, e1]) h
    | ret v => exact K (.ret v) l1 o1 (by simp only [evB, e1]) h
theorem evS_expr {r : Ev} {x : X} {σ σ1 : St} (e : r.x x σ = some (.none, σ1)) : evS r (.expr x) σ = some (.next, σ1) := by
  show (match r.x x σ with | some (.none, σ1) => some (Fl.next, σ1) | _ => none) = _
  rw [e]
theorem s_expr {x : X} {c : KX R} (hx : GX d1 x c) : GS d1 (.expr x) (kExpr c) := fun n hn l _ _ _ _ _ h P K => hx n hn _ _ _ _ h fun v o1 e1 h => by
  cases v <;> first | exact nos h | exact K .next l o1 (evS_expr e1) h
theorem s_assign {x : X} {c : KX R} (i : Nat) (hx : GX d1 x c) : GS d1 (.assign i x) (kAssign i c) := fun n hn _ _ _ _ _ _ h P K => hx n hn _ _ _ _ h fun v o1 e1 h =>
  K .next _ o1 (by set_option smartUnfolding false in exact iS e1 rfl) (upd_inv h).2
theorem setK_inv {o : Os} {i j : Nat} {x : V} {k : Os → Option R} {r : R} (h : setK o i j x k = some r) : ∃ o', setitem o (.ref i) (.int (.ofNat j)) x = some o' ∧ k o' = some r := by
  replace h := nth_inv h
  obtain ⟨ob, e0, h⟩ := h
  cases ob with
  | list xs =>
    replace h := slen_inv (k := fun _ => upd j xs x fun ys => upd i o (.list ys) k) h
    obtain ⟨e1, h⟩ := h
    replace h := upd_inv h
    obtain ⟨e2, h⟩ := h
    replace h := upd_inv h
    obtain ⟨_, h⟩ := h
    have e3 : Nat.blt j xs.length = true := Nat.ble_eq_true_of_le e2
    exact ⟨_, (by set_option smartUnfolding false in exact iM e0 (iT (by rw [e3, e1]; rfl) rfl)), h⟩
  | barr b =>
    replace h := vNat_inv (k := fun n => onTrue (Nat.ble n 255) (slen b fun _ => upd j b n fun b => upd i o (.barr b) k)) h
    obtain ⟨n, rfl, h⟩ := h
    replace h := onTrue_inv h
    obtain ⟨e4, h⟩ := h
    replace h := slen_inv h
    obtain ⟨e1, h⟩ := h
    replace h := upd_inv h
    obtain ⟨e2, h⟩ := h
    replace h := upd_inv h
    obtain ⟨_, h⟩ := h
    have e3 : Nat.blt j b.length = true := Nat.ble_eq_true_of_le e2
    have e5 : Nat.blt n 256 = true := ble_blt n 255 ▸ e4
    exact ⟨_, (by set_option smartUnfolding false in exact iR e0 (iT (by rw [e3, e5, e1]; rfl) rfl)), h⟩
theorem s_setidx {x i y : X} {c d e : KX R} (hx : GX d1 x c) (hi : GX d2 i d) (hy : GX d3 y e) : GS (max (max d3 d1) d2) (.setidx x i y) (kSetidx c d e) :=
  fun n hn l _ _ _ _ _ h1 P K => hy n (lf (lf hn)) _ _ _ _ h1 fun w o1 e1 h2 => hx n (rt (lf hn)) _ _ _ _ h2 fun v o2 e2 h3 => hi n (rt hn) _ _ _ _ h3 fun p o3 e3 h4 => by
    obtain ⟨q, ev, h5⟩ := vRef_inv h4
    obtain ⟨j, ep, h⟩ := vNat_inv h5
    clear h1 h2 h3 h4 h5
    subst ev ep
    obtain ⟨o4, e4, h⟩ := setK_inv h
    exact K .next l o4 (by set_option smartUnfolding false in exact iS e1 (iS e2 (iS e3 (iS e4 rfl)))) h
theorem add_int {x : Int} {b w : V} (h : binop .add (.int x) b = some w) : ∃ i, w = .int i := by
  cases b <;> first | cases h | skip
  case int y =>
    set_option smartUnfolding false in exact elT h fun _ h => ⟨_, (Option.some.inj h).symm⟩
theorem add_str {x : List Nat} {b w : V} (h : binop .add (.str x) b = some w) : ∃ i, w = .str i := by
  cases b <;> first | cases h | skip
  case str y =>
    set_option smartUnfolding false in exact elT h fun _ h => ⟨_, (Option.some.inj h).symm⟩
theorem s_aug {x : X} {c : KX R} (i : Nat) (hx : GX d1 x c) : GS d1 (.augname i .add x) (kAug i c) := fun n hn l _ kn _ _ r h1 P K => by
  obtain ⟨old, e0, h2⟩ := getK_inv h1
  refine hx n hn _ _ _ _ h2 fun v o1 e1 h => ?_
  clear h1 h2
  cases old <;> first | exact nos h | skip
  case int a =>
    obtain ⟨w, e2, h⟩ := add_ok (.int a) v (fun w => upd i l (some w) fun l => kn l o1) r h
    obtain ⟨j, rfl⟩ := add_int e2
    exact K .next _ o1 (by set_option smartUnfolding false in exact iV e0 (iS e1 (iS e2 rfl))) (upd_inv h).2
  case str a =>
    obtain ⟨w, e2, h⟩ := add_ok (.str a) v (fun w => upd i l (some w) fun l => kn l o1) r h
    obtain ⟨j, rfl⟩ := add_str e2
    exact K .next _ o1 (by set_option smartUnfolding false in exact iV e0 (iS e1 (iS e2 rfl))) (upd_inv h).2
theorem s_augidx {x i y : X} {c d e : KX R} (hx : GX d1 x c) (hi : GX d2 i d) (hy : GX d3 y e) : GS (max (max d1 d2) d3) (.augidx x i .add y) (kAugidx c d e) :=
  fun n hn l _ _ _ _ _ h1 P K => hx n (lf (lf hn)) _ _ _ _ h1 fun v o1 e1 h2 => hi n (rt (lf hn)) _ _ _ _ h2 fun p o2 e2 h3 => by
    obtain ⟨old, e3, h4⟩ := idxK_inv h3
    refine hy n (rt hn) _ _ _ _ h4 fun w o3 e4 h5 => ?_
    obtain ⟨a, ea, h6⟩ := vInt_inv h5
    clear h1 h2 h3 h4 h5
    subst ea
    obtain ⟨z, e5, h7⟩ := add_ok (.int a) w _ _ h6
    obtain ⟨b, rfl⟩ := add_int e5
    obtain ⟨q, ev, h8⟩ := vRef_inv h7
    obtain ⟨j, ep, h⟩ := vNat_inv h8
    clear h6 h7 h8
    subst ev ep
    obtain ⟨o4, e6, h⟩ := setK_inv h
    exact K .next l o4 (by set_option smartUnfolding false in exact iS e1 (iS e2 (iS e3 (iS e4 (iS e5 (iS e6 rfl)))))) h
theorem s_if {t : X} {ct : KT R} (ht : GT d3 t ct) {b e : List S} {cb ce : KS R} (hb : GB d1 b cb) (he : GB d2 e ce) : GS (max d3 (max (d1 + 1) (d2 + 1))) (.iff t b e) (kIf ct cb ce) :=
  fun n hn _ _ _ _ _ _ h P K => ht n (lf hn) _ _ _ _ h fun v o1 e1 h => by
    cases v with
    | true => exact hb.up (lf (rt hn)) h fun fl l2 o2 e2 h => K fl l2 o2 (by set_option smartUnfolding false in exact iS e1 e2) h
    | false => exact he.up (rt (rt hn)) h fun fl l2 o2 e2 h => K fl l2 o2 (by set_option smartUnfolding false in exact iS e1 e2) h
theorem s_ret {x : X} {c : KX R} (hx : GX d1 x c) : GS d1 (.ret (some x)) (kRet c) := fun n hn l _ _ _ _ _ h P K => hx n hn _ _ _ _ h fun v o1 e1 h => K (.ret v) l o1 (by set_option smartUnfolding false in exact iS e1 rfl) h
theorem s_brk : GS (R := R) 0 .brk kBrk := fun n _ l o _ _ _ _ h P K => K .brk l o rfl h
theorem s_fail : GS (R := R) 0 .fail kFail := fun _ _ _ _ _ _ _ _ h _ _ => nos h
theorem while_go {n : Nat} {t : X} {ct : KT R} (ht : GT d1 t ct) (h1 : d1 ≤ n) {b : List S} {cb : KS R} (hb : BU n b cb) {kn kb : Lc → Os → Option R} {kr : V → Os → Option R} {r : R} {P : Prop} :
    ∀ (m : Nat) (l : Lc) (o : Os), @Nat.rec (fun _ => Lc → Os → Option R) (fun _ _ => none) (fun _ ih l o => ct l o fun c o => bfi c (cb l o ih kn kr) (kn l o)) m l o = some r →
      (∀ fl l' o', evWhile (ev F n) t b m ⟨l, o⟩ = some (fl, ⟨l', o'⟩) → fin fl l' o' kn kb kr = some r → P) → P
  | 0, _, _, h, _ => nos h
  | m + 1, l, o, h, K => ht n h1 _ _ _ _ h fun v o1 e1 h => by
    cases v with
    | true =>
      refine hb _ _ _ _ _ _ h fun fl l2 o2 e2 h => ?_
      cases fl with
      | next => exact while_go ht h1 hb m l2 o2 h fun fl l3 o3 e3 h => K fl l3 o3 (by simp only [evWhile, e1, e2, e3]) h
      | brk => exact K .next l2 o2 (by simp only [evWhile, e1, e2]) h
      | ret w => exact K (.ret w) l2 o2 (by simp only [evWhile, e1, e2]) h
    | false => exact K .next l o1 (by simp only [evWhile, e1]) h
theorem s_while {t : X} {ct : KT R} (ht : GT d1 t ct) {b : List S} {cb : KS R} (hb : GB d2 b cb) : GS (max d1 (d2 + 1)) (.whil t b) (kWhile ct cb) :=
  fun n hn _ _ _ kb _ _ h P K => while_go (kb := kb) ht (lf hn) (hb.bu (rt hn)) 64 _ _ h fun fl l2 o2 e2 h => K fl l2 o2 e2 h
end
end Mine
end
section
namespace Mine
variable {R : Type}
theorem kg_is_HDN : GB (R := R) 5 f_is_HDN.body k_is_HDN := GB.weak (b_seq (s_if (t_x rfl (g_search (g_slot 0))) (b_seq (s_ret (g_const rfl)) b_nil) b_nil) (b_seq (s_if (t_cmp eq_ok (g_slot 0) (g_const rfl)) (b_seq (s_ret (g_const rfl)) b_nil) b_nil) (b_seq (s_if (t_or rfl (n_cons (t_cmp eq_ok (g_idx (g_slot 0) (g_const rfl)) (g_const rfl)) (n_cons (t_cmp eq_ok (g_idx (g_slot 0) (g_neg (g_const rfl))) (g_const rfl)) n_nil))) (b_seq (s_ret (g_const rfl)) b_nil) b_nil) (b_seq (s_ret (g_const rfl)) b_nil)))) (by decide)
theorem kg_reach : GB (R := R) 10 f_reach.body k_reach := GB.weak (b_seq (s_assign 1 (g_find (g_slot 0) 46)) (b_seq (s_if (t_cmp ge_ok (g_slot 1) (g_const rfl)) (b_seq (s_assign 2 (g_sliceLo (g_slot 0) (g_bin add_ok (g_slot 1) (g_const rfl)))) (b_seq (s_assign 1 (g_find (g_slot 2) 46)) (b_seq (s_if (t_and (a_cons (t_x rfl (g_call (fn := f_is_HDN) 1 rfl rfl kg_is_HDN (gs_cons (g_slot 0) gs_nil) rfl rfl rfl rfl)) (a_cons (t_or rfl (n_cons (t_cmp ge_ok (g_slot 1) (g_const rfl)) (n_cons (t_cmp eq_ok (g_slot 2) (g_const rfl)) n_nil))) a_nil))) (b_seq (s_ret (g_bin add_ok (g_const rfl) (g_slot 2))) b_nil) b_nil) b_nil))) b_nil) (b_seq (s_ret (g_slot 0)) b_nil))) (by decide)
theorem kg_bisect_left : GB (R := R) 5 f_bisect_left.body k_bisect_left := GB.weak (b_seq (s_if (t_cmp lt_ok (g_slot 2) (g_const rfl)) (b_seq s_fail b_nil) b_nil) (b_seq (s_if (t_cmp is_ok (g_slot 3) (g_const rfl)) (b_seq (s_assign 3 (g_len (g_slot 0))) b_nil) b_nil) (b_seq (s_if (t_cmp is_ok (g_slot 4) (g_const rfl)) (b_seq (s_while (t_cmp lt_ok (g_slot 2) (g_slot 3)) (b_seq (s_assign 5 (g_bin fdiv_ok (g_bin add_ok (g_slot 2) (g_slot 3)) (g_const rfl))) (b_seq (s_if (t_cmp lt_ok (g_idx (g_slot 0) (g_slot 5)) (g_slot 1)) (b_seq (s_assign 2 (g_bin add_ok (g_slot 5) (g_const rfl))) b_nil) (b_seq (s_assign 3 (g_slot 5)) b_nil)) b_nil))) b_nil) (b_seq (s_while (t_cmp lt_ok (g_slot 2) (g_slot 3)) (b_seq (s_assign 5 (g_bin fdiv_ok (g_bin add_ok (g_slot 2) (g_slot 3)) (g_const rfl))) (b_seq s_fail b_nil))) b_nil)) (b_seq (s_ret (g_slot 2)) b_nil)))) (by decide)
theorem kg_insort_left : GB (R := R) 8 f_insort_left.body k_insort_left := GB.weak (b_seq (s_if (t_cmp is_ok (g_slot 4) (g_const rfl)) (b_seq (s_assign 2 (g_call (fn := f_bisect_left) 3 rfl rfl kg_bisect_left (gs_cons (g_slot 0) (gs_cons (g_slot 1) (gs_cons (g_slot 2) (gs_cons (g_slot 3) gs_nil)))) rfl rfl rfl rfl)) b_nil) (b_seq s_fail b_nil)) (b_seq (s_expr (g_insert (g_slot 0) (g_slot 2) (g_slot 1))) b_nil)) (by decide)
theorem kg_ge : GB (R := R) 2 f_ge.body k_ge := GB.weak (b_seq (s_ret (g_cmp ge_ok (g_slot 0) (g_slot 1))) b_nil) (by decide)
theorem kg_add : GB (R := R) 2 f_add.body k_add := GB.weak (b_seq (s_ret (g_bin add_ok (g_slot 0) (g_slot 1))) b_nil) (by decide)
theorem kg_sub : GB (R := R) 2 f_sub.body k_sub := GB.weak (b_seq (s_ret (g_bin sub_ok (g_slot 0) (g_slot 1))) b_nil) (by decide)
theorem kg_contains : GB (R := R) 2 f_contains.body k_contains := GB.weak (b_seq (s_ret (g_cmp isin_ok (g_slot 1) (g_slot 0))) b_nil) (by decide)
theorem kg_countOf : GB (R := R) 3 f_countOf.body k_countOf := GB.weak (b_seq (s_assign 2 (g_const rfl)) (b_seq (s_for (tg_one 3) (by intro _ e; cases e) (i_x (g_slot 0)) (b_seq (s_if (t_same rfl) (b_seq (s_aug 2 (g_const rfl)) b_nil) b_nil) b_nil) b_nil) (b_seq (s_ret (g_slot 2)) b_nil))) (by decide)
theorem kg_indexOf : GB (R := R) 3 f_indexOf.body k_indexOf := GB.weak (b_seq (s_forEnum (tg_many [2, 3]) (g_slot 0) (b_seq (s_if (t_same rfl) (b_seq (s_ret (g_slot 2)) b_nil) b_nil) b_nil) (b_seq s_fail b_nil)) b_nil) (by decide)
theorem kg_byteswap : GB (R := R) 6 f_byteswap.body k_byteswap := GB.weak (b_seq (s_assign 2 (g_prim (gs_cons (g_len (g_slot 0)) gs_nil))) (b_seq (s_for (tg_one 3) (by intro _ e; cases e) (i_range3 (g_const rfl) (g_len (g_slot 0)) (g_slot 1)) (b_seq (s_for (tg_one 4) (by intro _ e; cases e) (i_range (g_slot 1)) (b_seq (s_setidx (g_slot 2) (g_bin sub_ok (g_bin sub_ok (g_bin add_ok (g_slot 3) (g_slot 1)) (g_const rfl)) (g_slot 4)) (g_idx (g_slot 0) (g_bin add_ok (g_slot 3) (g_slot 4)))) b_nil) b_nil) b_nil) b_nil) (b_seq (s_ret (g_prim (gs_cons (g_slot 2) gs_nil))) b_nil))) (by decide)
theorem kg_size : GB (R := R) 6 f_size.body k_size := GB.weak (b_seq (s_ret (g_bin add_ok (g_bin add_ok (g_bin add_ok (g_bin mod_ok (g_slot 0) (g_const rfl)) (g_bin mod_ok (g_bin fdiv_ok (g_slot 0) (g_const rfl)) (g_const rfl))) (g_bin mod_ok (g_bin fdiv_ok (g_slot 0) (g_const rfl)) (g_const rfl))) (g_bin mod_ok (g_bin fdiv_ok (g_slot 0) (g_const rfl)) (g_const rfl)))) b_nil) (by decide)
theorem kg_books : GB (R := R) 11 f_books.body k_books := GB.weak (b_seq (s_assign 1 (g_listM (gs_cons (g_const rfl) (gs_cons (g_const rfl) (gs_cons (g_const rfl) gs_nil))))) (b_seq (s_forEnum (tg_many [2, 3]) (g_sliceHi (g_slot 0) (g_const rfl)) (b_seq (s_augidx (g_slot 1) (g_bin mod_ok (g_slot 2) (g_const rfl)) (g_bin mod_ok (g_slot 3) (g_const rfl))) b_nil) b_nil) (b_seq (s_assign 4 (g_listM gs_nil)) (b_seq (s_for (tg_one 5) (by intro _ e; cases e) (i_x (g_slot 1)) (b_seq (s_assign 6 (g_listM gs_nil)) (b_seq (s_for (tg_one 7) (by intro _ e; cases e) (i_x (g_list (gs_cons (g_bin mod_ok (g_slot 5) (g_const rfl)) (gs_cons (g_bin mod_ok (g_bin fdiv_ok (g_slot 5) (g_const rfl)) (g_const rfl)) (gs_cons (g_bin mod_ok (g_bin fdiv_ok (g_slot 5) (g_const rfl)) (g_const rfl)) gs_nil))))) (b_seq (s_if (t_cmp isin_ok (g_call (fn := f_size) 0 rfl rfl kg_size (gs_cons (g_slot 7) gs_nil) rfl rfl rfl rfl) (g_tup (gs_cons (g_const rfl) (gs_cons (g_const rfl) gs_nil)))) (b_seq (s_if (t_cmp eq_ok (g_comp (c_no (c_no (c_at 7 c_nil))) (tg_one 1) (g_slot 1) (i_x (g_slot 6)) (a_cons (t_or rfl (n_cons (t_cmp eq_ok (g_slot 1) (g_slot 2)) (n_cons (t_cmp notin_ok (g_bin band_ok (g_slot 2) (g_slot 1)) (g_tup (gs_cons (g_const rfl) (gs_cons (g_slot 2) (gs_cons (g_slot 1) gs_nil))))) n_nil))) a_nil)) (g_list gs_nil)) (b_seq (s_expr (g_append (g_slot 6) (g_slot 7))) b_nil) b_nil) b_nil) b_nil) b_nil) b_nil) (b_seq (s_expr (g_append (g_slot 4) (g_slot 6))) b_nil))) b_nil) (b_seq (s_ret (g_slot 4)) b_nil))))) (by decide)
theorem kg_hosts : GB (R := R) 13 f_hosts.body k_hosts := GB.weak (b_seq (s_assign 3 (g_listM gs_nil)) (b_seq (s_for (tg_one 4) (by intro _ e; cases e) (i_range (g_const rfl)) (b_seq (s_assign 5 (g_idx (g_const rfl) (g_slot 4))) (b_seq (s_for (tg_one 6) (by intro _ e; cases e) (i_x (g_tup (gs_cons (g_const rfl) (gs_cons (g_const rfl) gs_nil)))) (b_seq (s_for (tg_one 7) (by intro _ e; cases e) (i_range (g_len (g_slot 0))) (b_seq (s_if (t_and (a_cons (t_cmp eq_ok (g_bin mod_ok (g_bin fdiv_ok (g_idx (g_slot 0) (g_slot 7)) (g_bin pow_ok (g_const rfl) (g_slot 4))) (g_const rfl)) (g_const rfl)) (a_cons (t_cmp eq_ok (g_call (fn := f_size) 0 rfl rfl kg_size (gs_cons (g_idx (g_slot 0) (g_slot 7)) gs_nil) rfl rfl rfl rfl) (g_slot 6)) a_nil))) (b_seq (s_assign 5 (g_bin add_ok (g_bin add_ok (g_slot 5) (g_const rfl)) (g_idx (g_slot 1) (g_slot 7)))) b_nil) b_nil) b_nil) b_nil) b_nil) b_nil) (b_seq (s_expr (g_append (g_slot 3) (g_bin add_ok (g_slot 5) (g_slot 2)))) b_nil))) b_nil) (b_seq (s_ret (g_slot 3)) b_nil))) (by decide)
theorem kg_climb : GB (R := R) 14 f_climb.body k_climb := GB.weak (b_seq (s_assign 1 (g_listM gs_nil)) (b_seq (s_assign 2 (g_listM gs_nil)) (b_seq (s_for (tg_one 3) (by intro _ e; cases e) (i_x (g_slot 0)) (b_seq (s_assign 4 (g_listM gs_nil)) (b_seq (s_assign 5 (g_slot 3)) (b_seq (s_for (tg_one 6) (by intro _ e; cases e) (i_range (g_const rfl)) (b_seq (s_assign 7 (g_call (fn := f_reach) 3 rfl rfl kg_reach (gs_cons (g_slot 5) gs_nil) rfl rfl rfl rfl)) (b_seq (s_if (t_cmp eq_ok (g_slot 7) (g_slot 5)) (b_seq s_brk b_nil) b_nil) (b_seq (s_if (t_or rfl (n_cons (t_not (t_x rfl (g_call (fn := f_contains) 0 rfl rfl kg_contains (gs_cons (g_slot 2) (gs_cons (g_slot 7) gs_nil)) rfl rfl rfl rfl))) (n_cons (t_x rfl (g_call (fn := f_contains) 0 rfl rfl kg_contains (gs_cons (g_slot 4) (gs_cons (g_slot 7) gs_nil)) rfl rfl rfl rfl)) n_nil))) (b_seq (s_expr (g_append (g_slot 2) (g_slot 7))) b_nil) b_nil) (b_seq (s_expr (g_append (g_slot 4) (g_slot 7))) (b_seq (s_assign 5 (g_sliceLo (g_slot 7) (g_const rfl))) b_nil))))) b_nil) (b_seq (s_expr (g_append (g_slot 1) (g_slot 4))) b_nil)))) b_nil) (b_seq (s_ret (g_comp (c_no (c_no (c_at 1 c_nil))) (tg_one 1) (g_tup (gs_cons (g_slot 1) (gs_cons (g_comp (c_no (c_no (c_no (c_at 1 c_nil)))) (tg_one 1) (g_call (fn := f_contains) 0 rfl rfl kg_contains (gs_cons (g_slot 1) (gs_cons (g_slot 3) gs_nil)) rfl rfl rfl rfl) (i_x (g_slot 2)) a_nil) gs_nil))) (i_x (g_slot 2)) a_nil)) b_nil)))) (by decide)
theorem kg_set : GB (R := R) 5 f_set.body k_set := GB.weak (b_seq (s_ret (g_prim (gs_cons (g_comp (c_no (c_no (c_at 0 c_nil))) (tg_one 1) (g_bin pow_ok (g_const rfl) (g_slot 1)) (i_range (g_const rfl)) (a_cons (t_x rfl (g_idx (g_slot 2) (g_slot 1))) a_nil)) gs_nil))) b_nil) (by decide)
theorem kg_turned : GB (R := R) 8 f_turned.body k_turned := GB.weak (b_seq (s_assign 1 (g_prim (gs_cons (g_comp (c_no (c_no (c_no c_nil))) (tg_one 1) (g_ord (g_slot 1)) (i_x (g_slot 0)) a_nil) gs_nil))) (b_seq (s_ret (g_call (fn := f_byteswap) 7 rfl rfl kg_byteswap (gs_cons (g_slot 1) (gs_cons (g_len (g_slot 1)) gs_nil)) rfl rfl rfl rfl)) b_nil)) (by decide)
theorem kg_nearest : GB (R := R) 8 f_nearest.body k_nearest := GB.weak (b_seq (s_assign 1 (g_listM (gs_cons (g_const rfl) (gs_cons (g_const rfl) (gs_cons (g_const rfl) (gs_cons (g_const rfl) (gs_cons (g_const rfl) (gs_cons (g_const rfl) (gs_cons (g_const rfl) (gs_cons (g_const rfl) (gs_cons (g_const rfl) (gs_cons (g_const rfl) gs_nil)))))))))))) (b_seq (s_assign 2 (g_addlM (g_list (gs_cons (g_list gs_nil) gs_nil)) (g_comp (c_no (c_no c_nil)) (tg_one 1) (g_list (gs_cons (g_slot 1) gs_nil)) (i_x (g_slot 1)) a_nil))) (b_seq (s_for (tg_one 3) (by intro _ e; cases e) (i_range (g_const rfl)) (b_seq (s_for (tg_one 4) (by intro _ e; cases e) (i_x (g_sliceLo (g_slot 1) (g_bin add_ok (g_slot 3) (g_const rfl)))) (b_seq (s_if (t_cmp isin_ok (g_bin band_ok (g_idx (g_slot 1) (g_slot 3)) (g_slot 4)) (g_tup (gs_cons (g_const rfl) (gs_cons (g_idx (g_slot 1) (g_slot 3)) (gs_cons (g_slot 4) gs_nil))))) (b_seq (s_expr (g_append (g_slot 2) (g_list (gs_cons (g_idx (g_slot 1) (g_slot 3)) (gs_cons (g_slot 4) gs_nil))))) b_nil) b_nil) b_nil) b_nil) b_nil) b_nil) (b_seq (s_assign 5 (g_const rfl)) (b_seq (s_assign 6 (g_listM gs_nil)) (b_seq (s_for (tg_one 7) (by intro _ e; cases e) (i_x (g_slot 2)) (b_seq (s_assign 8 (g_const rfl)) (b_seq (s_for (tg_one 9) (by intro _ e; cases e) (i_x (g_slot 0)) (b_seq (s_aug 8 (g_bin sub_ok (g_bin add_ok (g_len (g_slot 7)) (g_len (g_slot 9))) (g_bin mul_ok (g_const rfl) (g_len (g_comp (c_no (c_no (c_at 9 c_nil))) (tg_one 1) (g_slot 1) (i_x (g_slot 7)) (a_cons (t_cmp isin_ok (g_slot 1) (g_slot 2)) a_nil)))))) b_nil) b_nil) (b_seq (s_if (t_cmp lt_ok (g_slot 8) (g_slot 5)) (b_seq (s_assign 5 (g_slot 8)) (b_seq (s_assign 6 (g_listM (gs_cons (g_slot 7) gs_nil))) b_nil)) (b_seq (s_if (t_cmp eq_ok (g_slot 8) (g_slot 5)) (b_seq (s_expr (g_append (g_slot 6) (g_slot 7))) b_nil) b_nil) b_nil)) b_nil))) b_nil) (b_seq (s_ret (g_slot 6)) b_nil))))))) (by decide)
theorem kg_law : GB (R := R) 17 f_law.body k_law := GB.weak (b_seq (s_assign 1 (g_call (fn := f_books) 9 rfl rfl kg_books (gs_cons (g_slot 0) gs_nil) rfl rfl rfl rfl)) (b_seq (s_assign 2 (g_listM gs_nil)) (b_seq (s_for (tg_one 3) (by intro _ e; cases e) (i_range (g_const rfl)) (b_seq (s_assign 4 (g_call (fn := f_hosts) 8 rfl rfl kg_hosts (gs_cons (g_idx (g_slot 1) (g_slot 3)) (gs_cons (g_idx (g_list (gs_cons (g_const rfl) (gs_cons (g_const rfl) (gs_cons (g_const rfl) gs_nil)))) (g_slot 3)) (gs_cons (g_const rfl) gs_nil))) rfl rfl rfl rfl)) (b_seq (s_assign 5 (g_call (fn := f_climb) 10 rfl rfl kg_climb (gs_cons (g_slot 4) gs_nil) rfl rfl rfl rfl)) (b_seq (s_if (t_cmp ne_ok (g_prim (gs_cons (g_comp (c_no (c_no (c_no c_nil))) (tg_one 1) (g_call (fn := f_set) 2 rfl rfl kg_set (gs_cons (g_idx (g_slot 1) (g_const rfl)) gs_nil) rfl rfl rfl rfl) (i_x (g_slot 5)) a_nil) gs_nil)) (g_prim (gs_cons (g_addl (g_idx (g_slot 1) (g_slot 3)) (g_list (gs_cons (g_const rfl) gs_nil))) gs_nil))) (b_seq (s_ret (g_const rfl)) b_nil) b_nil) (b_seq (s_assign 6 (g_comp (c_no (c_no (c_no c_nil))) (tg_one 1) (g_call (fn := f_turned) 4 rfl rfl kg_turned (gs_cons (g_slot 1) gs_nil) rfl rfl rfl rfl) (i_x (g_slot 4)) a_nil)) (b_seq (s_assign 7 (g_listM gs_nil)) (b_seq (s_for (tg_one 8) (by intro _ e; cases e) (i_x (g_slot 6)) (b_seq (s_expr (g_callR (fn := f_insort_left) 1 rfl rfl kg_insort_left (gs_cons (g_slot 7) (gs_cons (g_slot 8) gs_nil)) rfl rfl rfl rfl)) b_nil) b_nil) (b_seq (s_assign 9 (g_listM gs_nil)) (b_seq (s_for (tg_many [10, 11]) (by intro _ e; cases e) (i_x (g_slot 5)) (b_seq (s_assign 12 (g_call (fn := f_turned) 4 rfl rfl kg_turned (gs_cons (g_slot 10) gs_nil) rfl rfl rfl rfl)) (b_seq (s_assign 13 (g_call (fn := f_bisect_left) 3 rfl rfl kg_bisect_left (gs_cons (g_slot 7) (gs_cons (g_slot 12) gs_nil)) rfl rfl rfl rfl)) (b_seq (s_assign 14 (g_call (fn := f_bisect_left) 3 rfl rfl kg_bisect_left (gs_cons (g_slot 7) (gs_cons (g_call (fn := f_add) 0 rfl rfl kg_add (gs_cons (g_slot 12) (gs_cons (g_const rfl) gs_nil)) rfl rfl rfl rfl) gs_nil)) rfl rfl rfl rfl)) (b_seq (s_if (t_cmp ne_ok (g_comp (c_no (c_no (c_no (c_at 14 (c_at 7 (c_at 13 c_nil)))))) (tg_one 1) (g_call (fn := f_contains) 0 rfl rfl kg_contains (gs_cons (g_slice2 (g_slot 4) (g_slot 5) (g_slot 3)) (gs_cons (g_slot 1) gs_nil)) rfl rfl rfl rfl) (i_x (g_slot 6)) a_nil) (g_slot 11)) (b_seq (s_ret (g_const rfl)) b_nil) b_nil) (b_seq (s_expr (g_append (g_slot 9) (g_tup (gs_cons (g_slot 13) (gs_cons (g_slot 14) gs_nil))))) b_nil))))) b_nil) (b_seq (s_expr (g_append (g_slot 2) (g_tup (gs_cons (g_slot 5) (gs_cons (g_slot 9) (gs_cons (g_comp (c_no (c_no (c_no (c_at 7 c_nil)))) (tg_one 1) (g_call (fn := f_indexOf) 4 rfl rfl kg_indexOf (gs_cons (g_slot 3) (gs_cons (g_slot 1) gs_nil)) rfl rfl rfl rfl) (i_x (g_slot 6)) a_nil) gs_nil)))))) b_nil))))))))) b_nil) (b_seq (s_assign 15 (g_listM gs_nil)) (b_seq (s_for (tg_many [5, 9, 16]) (by intro _ e; cases e) (i_x (g_slot 2)) (b_seq (s_for (tg_many [10, 11]) (by intro _ e; cases e) (i_x (g_slot 5)) (b_seq (s_assign 17 (g_listM gs_nil)) (b_seq (s_for (tg_one 18) (by intro _ e; cases e) (i_x (g_slot 2)) (b_seq (s_assign 19 (g_comp (c_no (c_no (c_at 11 (c_at 18 c_nil)))) (tg_one 1) (g_idx (g_idx (g_slot 3) (g_const rfl)) (g_slot 1)) (i_range (g_const rfl)) (a_cons (t_x rfl (g_idx (g_slot 2) (g_slot 1))) a_nil))) (b_seq (s_assign 13 (g_prim (gs_cons (g_slot 19) gs_nil))) (b_seq (s_assign 14 (g_bin add_ok (g_prim (gs_cons (g_slot 19) gs_nil)) (g_const rfl))) (b_seq (s_expr (g_append (g_slot 17) (g_and (g_andc (g_cmp eq_ok (g_call (fn := f_sub) 0 rfl rfl kg_sub (gs_cons (g_slot 14) (gs_cons (g_slot 13) gs_nil)) rfl rfl rfl rfl) (g_len (g_slot 19))) (g_and1 (g_call (fn := f_contains) 0 rfl rfl kg_contains (gs_cons (g_idx (g_slot 18) (g_const rfl)) (gs_cons (g_tup (gs_cons (g_slot 13) (gs_cons (g_slot 14) gs_nil))) gs_nil)) rfl rfl rfl rfl)))))) b_nil)))) b_nil) (b_seq (s_assign 20 (g_call (fn := f_set) 2 rfl rfl kg_set (gs_cons (g_slot 11) gs_nil) rfl rfl rfl rfl)) (b_seq (s_if (t_cmp ne_ok (g_slot 17) (g_comp (c_no (c_no (c_at 20 c_nil))) (tg_one 1) (g_cmp isin_ok (g_slot 2) (g_addl (g_slot 1) (g_list (gs_cons (g_const rfl) gs_nil)))) (i_x (g_slot 1)) a_nil)) (b_seq (s_ret (g_const rfl)) b_nil) b_nil) (b_seq (s_if (t_and (a_cons (t_cmp ne_ok (g_slot 20) (g_const rfl)) (a_cons (t_x rfl (g_call (fn := f_ge) 0 rfl rfl kg_ge (gs_cons (g_call (fn := f_countOf) 2 rfl rfl kg_countOf (gs_cons (g_slot 17) (gs_cons (g_const rfl) gs_nil)) rfl rfl rfl rfl) (gs_cons (g_const rfl) gs_nil)) rfl rfl rfl rfl)) (a_cons (t_not (t_x rfl (g_call (fn := f_contains) 0 rfl rfl kg_contains (gs_cons (g_slot 15) (gs_cons (g_slot 20) gs_nil)) rfl rfl rfl rfl))) a_nil)))) (b_seq (s_expr (g_append (g_slot 15) (g_slot 20))) b_nil) b_nil) b_nil))))) b_nil) b_nil) b_nil) (b_seq (s_assign 21 (g_call (fn := f_hosts) 8 rfl rfl kg_hosts (gs_cons (g_prim (gs_cons (g_slot 15) gs_nil)) (gs_cons (g_const rfl) (gs_cons (g_const rfl) gs_nil))) rfl rfl rfl rfl)) (b_seq (s_assign 22 (g_comp (c_no (c_no (c_no c_nil))) (tg_one 1) (g_call (fn := f_add) 0 rfl rfl kg_add (gs_cons (g_slot 1) (gs_cons (g_const rfl) gs_nil)) rfl rfl rfl rfl) (i_x (g_slot 21)) a_nil)) (b_seq (s_if (t_cmp ne_ok (g_comp (c_no (c_no (c_no c_nil))) (tg_one 1) (g_call (fn := f_reach) 3 rfl rfl kg_reach (gs_cons (g_slot 1) gs_nil) rfl rfl rfl rfl) (i_x (g_slot 22)) a_nil) (g_slot 22)) (b_seq (s_ret (g_const rfl)) b_nil) b_nil) (b_seq (s_assign 23 (g_comp (c_no (c_no (c_no c_nil))) (tg_one 1) (g_call (fn := f_set) 2 rfl rfl kg_set (gs_cons (g_idx (g_slot 1) (g_const rfl)) gs_nil) rfl rfl rfl rfl) (i_x (g_call (fn := f_climb) 10 rfl rfl kg_climb (gs_cons (g_slot 21) gs_nil) rfl rfl rfl rfl)) a_nil)) (b_seq (s_ret (g_cmp eq_ok (g_list (gs_cons (g_prim (gs_cons (g_slot 23) gs_nil)) gs_nil)) (g_call (fn := f_nearest) 11 rfl rfl kg_nearest (gs_cons (g_slot 1) gs_nil) rfl rfl rfl rfl))) b_nil)))))))))) (by decide)
noncomputable def i_law_s1 : S := (.assign 1 (.call 12 [(.slot 0)]))
theorem kg_law_s1 : GS (R := R) 17 i_law_s1 k_law_s1 := GS.weak (s_assign 1 (g_call (fn := f_books) 9 rfl rfl kg_books (gs_cons (g_slot 0) gs_nil) rfl rfl rfl rfl)) (by decide)
noncomputable def i_law_s2 : S := (.assign 2 (.list true []))
theorem kg_law_s2 : GS (R := R) 17 i_law_s2 k_law_s2 := GS.weak (s_assign 2 (g_listM gs_nil)) (by decide)
noncomputable def i_law_s3 : S := (.forr (.one 3) (.range [(.const (.int 3))]) [(.assign 4 (.call 13 [(.idx (.slot 1) (.slot 3)), (.idx (.list false [(.const (.str [107, 122])), (.const (.str [55, 107])), (.const (.str [97, 98]))]) (.slot 3)), (.const (.str [46, 108, 111, 99, 97, 108]))])), (.assign 5 (.call 14 [(.slot 4)])), (.iff (.cmp .ne (.prim .sorted [(.comp [none, none, none] (.one 1) (.call 15 [(.idx (.slot 1) (.const (.int 1)))]) (.slot 5) [])]) (.prim .sorted [(.addl false (.idx (.slot 1) (.slot 3)) (.list false [(.const (.int 15))]))])) [(.ret (some (.const (.bool false))))] []), (.assign 6 (.comp [none, none, none] (.one 1) (.call 16 [(.slot 1)]) (.slot 4) [])), (.assign 7 (.list true [])), (.forr (.one 8) (.slot 6) [(.expr (.call 2 [(.slot 7), (.slot 8)]))] []), (.assign 9 (.list true [])), (.forr (.many [10, 11]) (.slot 5) [(.assign 12 (.call 16 [(.slot 10)])), (.assign 13 (.call 3 [(.slot 7), (.slot 12)])), (.assign 14 (.call 3 [(.slot 7), (.call 5 [(.slot 12), (.const (.bytes false [126]))])])), (.iff (.cmp .ne (.comp [none, none, none, (some 14), (some 7), (some 13)] (.one 1) (.call 7 [(.slice (.slot 4) (some (.slot 5)) (some (.slot 3))), (.slot 1)]) (.slot 6) []) (.slot 11)) [(.ret (some (.const (.bool false))))] []), (.expr (.meth .append (.slot 9) [(.tup [(.slot 13), (.slot 14)])]))] []), (.expr (.meth .append (.slot 2) [(.tup [(.slot 5), (.slot 9), (.comp [none, none, none, (some 7)] (.one 1) (.call 9 [(.slot 3), (.slot 1)]) (.slot 6) [])])]))] [])
theorem kg_law_s3 : GS (R := R) 17 i_law_s3 k_law_s3 := GS.weak (s_for (tg_one 3) (by intro _ e; cases e) (i_range (g_const rfl)) (b_seq (s_assign 4 (g_call (fn := f_hosts) 8 rfl rfl kg_hosts (gs_cons (g_idx (g_slot 1) (g_slot 3)) (gs_cons (g_idx (g_list (gs_cons (g_const rfl) (gs_cons (g_const rfl) (gs_cons (g_const rfl) gs_nil)))) (g_slot 3)) (gs_cons (g_const rfl) gs_nil))) rfl rfl rfl rfl)) (b_seq (s_assign 5 (g_call (fn := f_climb) 10 rfl rfl kg_climb (gs_cons (g_slot 4) gs_nil) rfl rfl rfl rfl)) (b_seq (s_if (t_cmp ne_ok (g_prim (gs_cons (g_comp (c_no (c_no (c_no c_nil))) (tg_one 1) (g_call (fn := f_set) 2 rfl rfl kg_set (gs_cons (g_idx (g_slot 1) (g_const rfl)) gs_nil) rfl rfl rfl rfl) (i_x (g_slot 5)) a_nil) gs_nil)) (g_prim (gs_cons (g_addl (g_idx (g_slot 1) (g_slot 3)) (g_list (gs_cons (g_const rfl) gs_nil))) gs_nil))) (b_seq (s_ret (g_const rfl)) b_nil) b_nil) (b_seq (s_assign 6 (g_comp (c_no (c_no (c_no c_nil))) (tg_one 1) (g_call (fn := f_turned) 4 rfl rfl kg_turned (gs_cons (g_slot 1) gs_nil) rfl rfl rfl rfl) (i_x (g_slot 4)) a_nil)) (b_seq (s_assign 7 (g_listM gs_nil)) (b_seq (s_for (tg_one 8) (by intro _ e; cases e) (i_x (g_slot 6)) (b_seq (s_expr (g_callR (fn := f_insort_left) 1 rfl rfl kg_insort_left (gs_cons (g_slot 7) (gs_cons (g_slot 8) gs_nil)) rfl rfl rfl rfl)) b_nil) b_nil) (b_seq (s_assign 9 (g_listM gs_nil)) (b_seq (s_for (tg_many [10, 11]) (by intro _ e; cases e) (i_x (g_slot 5)) (b_seq (s_assign 12 (g_call (fn := f_turned) 4 rfl rfl kg_turned (gs_cons (g_slot 10) gs_nil) rfl rfl rfl rfl)) (b_seq (s_assign 13 (g_call (fn := f_bisect_left) 3 rfl rfl kg_bisect_left (gs_cons (g_slot 7) (gs_cons (g_slot 12) gs_nil)) rfl rfl rfl rfl)) (b_seq (s_assign 14 (g_call (fn := f_bisect_left) 3 rfl rfl kg_bisect_left (gs_cons (g_slot 7) (gs_cons (g_call (fn := f_add) 0 rfl rfl kg_add (gs_cons (g_slot 12) (gs_cons (g_const rfl) gs_nil)) rfl rfl rfl rfl) gs_nil)) rfl rfl rfl rfl)) (b_seq (s_if (t_cmp ne_ok (g_comp (c_no (c_no (c_no (c_at 14 (c_at 7 (c_at 13 c_nil)))))) (tg_one 1) (g_call (fn := f_contains) 0 rfl rfl kg_contains (gs_cons (g_slice2 (g_slot 4) (g_slot 5) (g_slot 3)) (gs_cons (g_slot 1) gs_nil)) rfl rfl rfl rfl) (i_x (g_slot 6)) a_nil) (g_slot 11)) (b_seq (s_ret (g_const rfl)) b_nil) b_nil) (b_seq (s_expr (g_append (g_slot 9) (g_tup (gs_cons (g_slot 13) (gs_cons (g_slot 14) gs_nil))))) b_nil))))) b_nil) (b_seq (s_expr (g_append (g_slot 2) (g_tup (gs_cons (g_slot 5) (gs_cons (g_slot 9) (gs_cons (g_comp (c_no (c_no (c_no (c_at 7 c_nil)))) (tg_one 1) (g_call (fn := f_indexOf) 4 rfl rfl kg_indexOf (gs_cons (g_slot 3) (gs_cons (g_slot 1) gs_nil)) rfl rfl rfl rfl) (i_x (g_slot 6)) a_nil) gs_nil)))))) b_nil))))))))) b_nil) (by decide)
noncomputable def i_law_s4 : S := (.assign 15 (.list true []))
theorem kg_law_s4 : GS (R := R) 17 i_law_s4 k_law_s4 := GS.weak (s_assign 15 (g_listM gs_nil)) (by decide)
noncomputable def i_law_s5 : S := (.forr (.many [5, 9, 16]) (.slot 2) [(.forr (.many [10, 11]) (.slot 5) [(.assign 17 (.list true [])), (.forr (.one 18) (.slot 2) [(.assign 19 (.comp [none, none, (some 11), (some 18)] (.one 1) (.idx (.idx (.slot 3) (.const (.int 2))) (.slot 1)) (.range [(.const (.int 4))]) [(.idx (.slot 2) (.slot 1))])), (.assign 13 (.prim .min [(.slot 19)])), (.assign 14 (.bin .add (.prim .max [(.slot 19)]) (.const (.int 1)))), (.expr (.meth .append (.slot 17) [(.andd [(.cmp .eq (.call 6 [(.slot 14), (.slot 13)]) (.prim .len [(.slot 19)])), (.call 7 [(.idx (.slot 18) (.const (.int 1))), (.tup [(.slot 13), (.slot 14)])])])]))] []), (.assign 20 (.call 15 [(.slot 11)])), (.iff (.cmp .ne (.slot 17) (.comp [none, none, (some 20)] (.one 1) (.cmp .isin (.slot 2) (.addl false (.slot 1) (.list false [(.const (.int 15))]))) (.slot 1) [])) [(.ret (some (.const (.bool false))))] []), (.iff (.andd [(.cmp .ne (.slot 20) (.const (.int 15))), (.call 4 [(.call 8 [(.slot 17), (.const (.bool true))]), (.const (.int 2))]), (.nott (.call 7 [(.slot 15), (.slot 20)]))]) [(.expr (.meth .append (.slot 15) [(.slot 20)]))] [])] [])] [])
theorem kg_law_s5 : GS (R := R) 17 i_law_s5 k_law_s5 := GS.weak (s_for (tg_many [5, 9, 16]) (by intro _ e; cases e) (i_x (g_slot 2)) (b_seq (s_for (tg_many [10, 11]) (by intro _ e; cases e) (i_x (g_slot 5)) (b_seq (s_assign 17 (g_listM gs_nil)) (b_seq (s_for (tg_one 18) (by intro _ e; cases e) (i_x (g_slot 2)) (b_seq (s_assign 19 (g_comp (c_no (c_no (c_at 11 (c_at 18 c_nil)))) (tg_one 1) (g_idx (g_idx (g_slot 3) (g_const rfl)) (g_slot 1)) (i_range (g_const rfl)) (a_cons (t_x rfl (g_idx (g_slot 2) (g_slot 1))) a_nil))) (b_seq (s_assign 13 (g_prim (gs_cons (g_slot 19) gs_nil))) (b_seq (s_assign 14 (g_bin add_ok (g_prim (gs_cons (g_slot 19) gs_nil)) (g_const rfl))) (b_seq (s_expr (g_append (g_slot 17) (g_and (g_andc (g_cmp eq_ok (g_call (fn := f_sub) 0 rfl rfl kg_sub (gs_cons (g_slot 14) (gs_cons (g_slot 13) gs_nil)) rfl rfl rfl rfl) (g_len (g_slot 19))) (g_and1 (g_call (fn := f_contains) 0 rfl rfl kg_contains (gs_cons (g_idx (g_slot 18) (g_const rfl)) (gs_cons (g_tup (gs_cons (g_slot 13) (gs_cons (g_slot 14) gs_nil))) gs_nil)) rfl rfl rfl rfl)))))) b_nil)))) b_nil) (b_seq (s_assign 20 (g_call (fn := f_set) 2 rfl rfl kg_set (gs_cons (g_slot 11) gs_nil) rfl rfl rfl rfl)) (b_seq (s_if (t_cmp ne_ok (g_slot 17) (g_comp (c_no (c_no (c_at 20 c_nil))) (tg_one 1) (g_cmp isin_ok (g_slot 2) (g_addl (g_slot 1) (g_list (gs_cons (g_const rfl) gs_nil)))) (i_x (g_slot 1)) a_nil)) (b_seq (s_ret (g_const rfl)) b_nil) b_nil) (b_seq (s_if (t_and (a_cons (t_cmp ne_ok (g_slot 20) (g_const rfl)) (a_cons (t_x rfl (g_call (fn := f_ge) 0 rfl rfl kg_ge (gs_cons (g_call (fn := f_countOf) 2 rfl rfl kg_countOf (gs_cons (g_slot 17) (gs_cons (g_const rfl) gs_nil)) rfl rfl rfl rfl) (gs_cons (g_const rfl) gs_nil)) rfl rfl rfl rfl)) (a_cons (t_not (t_x rfl (g_call (fn := f_contains) 0 rfl rfl kg_contains (gs_cons (g_slot 15) (gs_cons (g_slot 20) gs_nil)) rfl rfl rfl rfl))) a_nil)))) (b_seq (s_expr (g_append (g_slot 15) (g_slot 20))) b_nil) b_nil) b_nil))))) b_nil) b_nil) b_nil) (by decide)
noncomputable def i_law_s6 : S := (.assign 21 (.call 13 [(.prim .sorted [(.slot 15)]), (.const (.str [112, 113])), (.const (.str [46, 111, 114, 103]))]))
theorem kg_law_s6 : GS (R := R) 17 i_law_s6 k_law_s6 := GS.weak (s_assign 21 (g_call (fn := f_hosts) 8 rfl rfl kg_hosts (gs_cons (g_prim (gs_cons (g_slot 15) gs_nil)) (gs_cons (g_const rfl) (gs_cons (g_const rfl) gs_nil))) rfl rfl rfl rfl)) (by decide)
noncomputable def i_law_s7 : S := (.assign 22 (.comp [none, none, none] (.one 1) (.call 5 [(.slot 1), (.const (.str [46]))]) (.slot 21) []))
theorem kg_law_s7 : GS (R := R) 17 i_law_s7 k_law_s7 := GS.weak (s_assign 22 (g_comp (c_no (c_no (c_no c_nil))) (tg_one 1) (g_call (fn := f_add) 0 rfl rfl kg_add (gs_cons (g_slot 1) (gs_cons (g_const rfl) gs_nil)) rfl rfl rfl rfl) (i_x (g_slot 21)) a_nil)) (by decide)
noncomputable def i_law_s8 : S := (.iff (.cmp .ne (.comp [none, none, none] (.one 1) (.call 1 [(.slot 1)]) (.slot 22) []) (.slot 22)) [(.ret (some (.const (.bool false))))] [])
theorem kg_law_s8 : GS (R := R) 17 i_law_s8 k_law_s8 := GS.weak (s_if (t_cmp ne_ok (g_comp (c_no (c_no (c_no c_nil))) (tg_one 1) (g_call (fn := f_reach) 3 rfl rfl kg_reach (gs_cons (g_slot 1) gs_nil) rfl rfl rfl rfl) (i_x (g_slot 22)) a_nil) (g_slot 22)) (b_seq (s_ret (g_const rfl)) b_nil) b_nil) (by decide)
noncomputable def i_law_s9 : S := (.assign 23 (.comp [none, none, none] (.one 1) (.call 15 [(.idx (.slot 1) (.const (.int 1)))]) (.call 14 [(.slot 21)]) []))
theorem kg_law_s9 : GS (R := R) 17 i_law_s9 k_law_s9 := GS.weak (s_assign 23 (g_comp (c_no (c_no (c_no c_nil))) (tg_one 1) (g_call (fn := f_set) 2 rfl rfl kg_set (gs_cons (g_idx (g_slot 1) (g_const rfl)) gs_nil) rfl rfl rfl rfl) (i_x (g_call (fn := f_climb) 10 rfl rfl kg_climb (gs_cons (g_slot 21) gs_nil) rfl rfl rfl rfl)) a_nil)) (by decide)
noncomputable def i_law_s10 : S := (.ret (some (.cmp .eq (.list false [(.prim .sorted [(.slot 23)])]) (.call 17 [(.slot 1)]))))
theorem kg_law_s10 : GS (R := R) 17 i_law_s10 k_law_s10 := GS.weak (s_ret (g_cmp eq_ok (g_list (gs_cons (g_prim (gs_cons (g_slot 23) gs_nil)) gs_nil)) (g_call (fn := f_nearest) 11 rfl rfl kg_nearest (gs_cons (g_slot 1) gs_nil) rfl rfl rfl rfl))) (by decide)
noncomputable def i_law_b3 : List S := [(.assign 4 (.call 13 [(.idx (.slot 1) (.slot 3)), (.idx (.list false [(.const (.str [107, 122])), (.const (.str [55, 107])), (.const (.str [97, 98]))]) (.slot 3)), (.const (.str [46, 108, 111, 99, 97, 108]))])), (.assign 5 (.call 14 [(.slot 4)])), (.iff (.cmp .ne (.prim .sorted [(.comp [none, none, none] (.one 1) (.call 15 [(.idx (.slot 1) (.const (.int 1)))]) (.slot 5) [])]) (.prim .sorted [(.addl false (.idx (.slot 1) (.slot 3)) (.list false [(.const (.int 15))]))])) [(.ret (some (.const (.bool false))))] []), (.assign 6 (.comp [none, none, none] (.one 1) (.call 16 [(.slot 1)]) (.slot 4) [])), (.assign 7 (.list true [])), (.forr (.one 8) (.slot 6) [(.expr (.call 2 [(.slot 7), (.slot 8)]))] []), (.assign 9 (.list true [])), (.forr (.many [10, 11]) (.slot 5) [(.assign 12 (.call 16 [(.slot 10)])), (.assign 13 (.call 3 [(.slot 7), (.slot 12)])), (.assign 14 (.call 3 [(.slot 7), (.call 5 [(.slot 12), (.const (.bytes false [126]))])])), (.iff (.cmp .ne (.comp [none, none, none, (some 14), (some 7), (some 13)] (.one 1) (.call 7 [(.slice (.slot 4) (some (.slot 5)) (some (.slot 3))), (.slot 1)]) (.slot 6) []) (.slot 11)) [(.ret (some (.const (.bool false))))] []), (.expr (.meth .append (.slot 9) [(.tup [(.slot 13), (.slot 14)])]))] []), (.expr (.meth .append (.slot 2) [(.tup [(.slot 5), (.slot 9), (.comp [none, none, none, (some 7)] (.one 1) (.call 9 [(.slot 3), (.slot 1)]) (.slot 6) [])])]))]
theorem kg_law_b3 : GB (R := R) 17 i_law_b3 k_law_b3 := GB.weak (b_seq (s_assign 4 (g_call (fn := f_hosts) 8 rfl rfl kg_hosts (gs_cons (g_idx (g_slot 1) (g_slot 3)) (gs_cons (g_idx (g_list (gs_cons (g_const rfl) (gs_cons (g_const rfl) (gs_cons (g_const rfl) gs_nil)))) (g_slot 3)) (gs_cons (g_const rfl) gs_nil))) rfl rfl rfl rfl)) (b_seq (s_assign 5 (g_call (fn := f_climb) 10 rfl rfl kg_climb (gs_cons (g_slot 4) gs_nil) rfl rfl rfl rfl)) (b_seq (s_if (t_cmp ne_ok (g_prim (gs_cons (g_comp (c_no (c_no (c_no c_nil))) (tg_one 1) (g_call (fn := f_set) 2 rfl rfl kg_set (gs_cons (g_idx (g_slot 1) (g_const rfl)) gs_nil) rfl rfl rfl rfl) (i_x (g_slot 5)) a_nil) gs_nil)) (g_prim (gs_cons (g_addl (g_idx (g_slot 1) (g_slot 3)) (g_list (gs_cons (g_const rfl) gs_nil))) gs_nil))) (b_seq (s_ret (g_const rfl)) b_nil) b_nil) (b_seq (s_assign 6 (g_comp (c_no (c_no (c_no c_nil))) (tg_one 1) (g_call (fn := f_turned) 4 rfl rfl kg_turned (gs_cons (g_slot 1) gs_nil) rfl rfl rfl rfl) (i_x (g_slot 4)) a_nil)) (b_seq (s_assign 7 (g_listM gs_nil)) (b_seq (s_for (tg_one 8) (by intro _ e; cases e) (i_x (g_slot 6)) (b_seq (s_expr (g_callR (fn := f_insort_left) 1 rfl rfl kg_insort_left (gs_cons (g_slot 7) (gs_cons (g_slot 8) gs_nil)) rfl rfl rfl rfl)) b_nil) b_nil) (b_seq (s_assign 9 (g_listM gs_nil)) (b_seq (s_for (tg_many [10, 11]) (by intro _ e; cases e) (i_x (g_slot 5)) (b_seq (s_assign 12 (g_call (fn := f_turned) 4 rfl rfl kg_turned (gs_cons (g_slot 10) gs_nil) rfl rfl rfl rfl)) (b_seq (s_assign 13 (g_call (fn := f_bisect_left) 3 rfl rfl kg_bisect_left (gs_cons (g_slot 7) (gs_cons (g_slot 12) gs_nil)) rfl rfl rfl rfl)) (b_seq (s_assign 14 (g_call (fn := f_bisect_left) 3 rfl rfl kg_bisect_left (gs_cons (g_slot 7) (gs_cons (g_call (fn := f_add) 0 rfl rfl kg_add (gs_cons (g_slot 12) (gs_cons (g_const rfl) gs_nil)) rfl rfl rfl rfl) gs_nil)) rfl rfl rfl rfl)) (b_seq (s_if (t_cmp ne_ok (g_comp (c_no (c_no (c_no (c_at 14 (c_at 7 (c_at 13 c_nil)))))) (tg_one 1) (g_call (fn := f_contains) 0 rfl rfl kg_contains (gs_cons (g_slice2 (g_slot 4) (g_slot 5) (g_slot 3)) (gs_cons (g_slot 1) gs_nil)) rfl rfl rfl rfl) (i_x (g_slot 6)) a_nil) (g_slot 11)) (b_seq (s_ret (g_const rfl)) b_nil) b_nil) (b_seq (s_expr (g_append (g_slot 9) (g_tup (gs_cons (g_slot 13) (gs_cons (g_slot 14) gs_nil))))) b_nil))))) b_nil) (b_seq (s_expr (g_append (g_slot 2) (g_tup (gs_cons (g_slot 5) (gs_cons (g_slot 9) (gs_cons (g_comp (c_no (c_no (c_no (c_at 7 c_nil)))) (tg_one 1) (g_call (fn := f_indexOf) 4 rfl rfl kg_indexOf (gs_cons (g_slot 3) (gs_cons (g_slot 1) gs_nil)) rfl rfl rfl rfl) (i_x (g_slot 6)) a_nil) gs_nil)))))) b_nil))))))))) (by decide)
theorem law_body : f_law.body = [i_law_s1, i_law_s2, i_law_s3, i_law_s4, i_law_s5, i_law_s6, i_law_s7, i_law_s8, i_law_s9, i_law_s10] := rfl
theorem law_s3 : i_law_s3 = .forr (.one 3) (.range [.const (.int 3)]) i_law_b3 [] := rfl
end Mine
end
section
namespace Mine
noncomputable def herds : List Nat := [3, 5, 6, 7, 9, 10, 11, 12, 13, 14]
noncomputable def books41 : List (List Nat) := [[], [3], [5], [6], [7], [9], [10], [11], [12], [13], [14], [3, 7], [3, 11], [3, 12], [5, 7], [5, 10], [5, 13], [6, 7], [6, 9], [6, 14], [7, 3], [7, 5], [7, 6], [9, 6], [9, 11], [9, 13], [10, 5], [10, 11], [10, 14], [11, 3], [11, 9], [11, 10], [12, 3], [12, 13], [12, 14], [13, 5], [13, 9], [13, 12], [14, 6], [14, 10], [14, 12]]
/-- what a line tells: the sets of its climbs in their order, its spans, its places -/
noncomputable abbrev Tl := List Nat × List (Nat × Nat) × List Nat
noncomputable def tab0 : List Tl := [
  ([15], [(0, 4)], [0, 1, 2, 3]),
  ([3, 15], [(2, 4), (0, 4)], [2, 3, 0, 1]),
  ([5, 15], [(2, 4), (0, 4)], [2, 0, 3, 1]),
  ([15, 6], [(0, 4), (2, 4)], [0, 2, 3, 1]),
  ([7, 15], [(1, 4), (0, 4)], [1, 2, 3, 0]),
  ([9, 15], [(2, 4), (0, 4)], [2, 0, 1, 3]),
  ([15, 10], [(0, 4), (2, 4)], [0, 2, 1, 3]),
  ([11, 15], [(1, 4), (0, 4)], [1, 2, 0, 3]),
  ([15, 12], [(0, 4), (2, 4)], [0, 1, 2, 3]),
  ([13, 15], [(1, 4), (0, 4)], [1, 0, 2, 3]),
  ([15, 14], [(0, 4), (1, 4)], [0, 1, 2, 3]),
  ([3, 7, 15], [(2, 4), (1, 4), (0, 4)], [2, 3, 1, 0]),
  ([3, 11, 15], [(2, 4), (1, 4), (0, 4)], [2, 3, 0, 1]),
  ([3, 15, 12], [(0, 2), (0, 4), (2, 4)], [0, 1, 2, 3]),
  ([5, 7, 15], [(2, 4), (1, 4), (0, 4)], [2, 1, 3, 0]),
  ([5, 15, 10], [(0, 2), (0, 4), (2, 4)], [0, 2, 1, 3]),
  ([5, 13, 15], [(2, 4), (1, 4), (0, 4)], [2, 0, 3, 1]),
  ([7, 15, 6], [(1, 4), (0, 4), (2, 4)], [1, 2, 3, 0]),
  ([9, 15, 6], [(2, 4), (0, 4), (0, 2)], [2, 0, 1, 3]),
  ([15, 6, 14], [(0, 4), (2, 4), (1, 4)], [0, 2, 3, 1]),
  ([3, 7, 15], [(2, 4), (1, 4), (0, 4)], [2, 3, 1, 0]),
  ([5, 7, 15], [(2, 4), (1, 4), (0, 4)], [2, 1, 3, 0]),
  ([7, 15, 6], [(1, 4), (0, 4), (2, 4)], [1, 2, 3, 0]),
  ([9, 15, 6], [(0, 2), (0, 4), (2, 4)], [0, 2, 3, 1]),
  ([9, 11, 15], [(2, 4), (1, 4), (0, 4)], [2, 1, 0, 3]),
  ([9, 13, 15], [(2, 4), (1, 4), (0, 4)], [2, 0, 1, 3]),
  ([5, 15, 10], [(2, 4), (0, 4), (0, 2)], [2, 0, 3, 1]),
  ([11, 15, 10], [(1, 4), (0, 4), (2, 4)], [1, 2, 0, 3]),
  ([15, 10, 14], [(0, 4), (2, 4), (1, 4)], [0, 2, 1, 3]),
  ([3, 11, 15], [(2, 4), (1, 4), (0, 4)], [2, 3, 0, 1]),
  ([9, 11, 15], [(2, 4), (1, 4), (0, 4)], [2, 1, 0, 3]),
  ([11, 15, 10], [(1, 4), (0, 4), (2, 4)], [1, 2, 0, 3]),
  ([3, 15, 12], [(2, 4), (0, 4), (0, 2)], [2, 3, 0, 1]),
  ([13, 15, 12], [(1, 4), (0, 4), (2, 4)], [1, 0, 2, 3]),
  ([15, 14, 12], [(0, 4), (1, 4), (2, 4)], [0, 1, 2, 3]),
  ([5, 13, 15], [(2, 4), (1, 4), (0, 4)], [2, 0, 3, 1]),
  ([9, 13, 15], [(2, 4), (1, 4), (0, 4)], [2, 0, 1, 3]),
  ([13, 15, 12], [(1, 4), (0, 4), (2, 4)], [1, 0, 2, 3]),
  ([15, 6, 14], [(0, 4), (2, 4), (1, 4)], [0, 2, 3, 1]),
  ([15, 10, 14], [(0, 4), (2, 4), (1, 4)], [0, 2, 1, 3]),
  ([15, 14, 12], [(0, 4), (1, 4), (2, 4)], [0, 1, 2, 3])]
noncomputable def tab1 : List Tl := [
  ([15], [(0, 4)], [0, 1, 2, 3]),
  ([3, 15], [(0, 2), (0, 4)], [0, 1, 2, 3]),
  ([5, 15], [(0, 2), (0, 4)], [0, 2, 1, 3]),
  ([15, 6], [(0, 4), (0, 2)], [2, 0, 1, 3]),
  ([7, 15], [(0, 3), (0, 4)], [0, 1, 2, 3]),
  ([9, 15], [(0, 2), (0, 4)], [0, 2, 3, 1]),
  ([15, 10], [(0, 4), (0, 2)], [2, 0, 3, 1]),
  ([11, 15], [(0, 3), (0, 4)], [0, 1, 3, 2]),
  ([15, 12], [(0, 4), (0, 2)], [2, 3, 0, 1]),
  ([13, 15], [(0, 3), (0, 4)], [0, 3, 1, 2]),
  ([15, 14], [(0, 4), (0, 3)], [3, 0, 1, 2]),
  ([3, 7, 15], [(1, 3), (1, 4), (0, 4)], [1, 2, 3, 0]),
  ([3, 11, 15], [(1, 3), (1, 4), (0, 4)], [1, 2, 0, 3]),
  ([3, 15, 12], [(0, 2), (0, 4), (2, 4)], [0, 1, 2, 3]),
  ([5, 7, 15], [(1, 3), (1, 4), (0, 4)], [1, 3, 2, 0]),
  ([5, 15, 10], [(0, 2), (0, 4), (2, 4)], [0, 2, 1, 3]),
  ([5, 13, 15], [(1, 3), (1, 4), (0, 4)], [1, 0, 2, 3]),
  ([7, 15, 6], [(1, 4), (0, 4), (1, 3)], [3, 1, 2, 0]),
  ([9, 15, 6], [(2, 4), (0, 4), (0, 2)], [2, 0, 1, 3]),
  ([15, 6, 14], [(0, 4), (1, 3), (1, 4)], [0, 1, 2, 3]),
  ([3, 7, 15], [(1, 3), (0, 3), (0, 4)], [1, 2, 0, 3]),
  ([5, 7, 15], [(1, 3), (0, 3), (0, 4)], [1, 0, 2, 3]),
  ([7, 15, 6], [(0, 3), (0, 4), (1, 3)], [0, 1, 2, 3]),
  ([9, 15, 6], [(0, 2), (0, 4), (2, 4)], [0, 2, 3, 1]),
  ([9, 11, 15], [(1, 3), (1, 4), (0, 4)], [1, 3, 0, 2]),
  ([9, 13, 15], [(1, 3), (1, 4), (0, 4)], [1, 0, 3, 2]),
  ([5, 15, 10], [(2, 4), (0, 4), (0, 2)], [2, 0, 3, 1]),
  ([11, 15, 10], [(1, 4), (0, 4), (1, 3)], [3, 1, 0, 2]),
  ([15, 10, 14], [(0, 4), (1, 3), (1, 4)], [0, 1, 3, 2]),
  ([3, 11, 15], [(1, 3), (0, 3), (0, 4)], [1, 2, 3, 0]),
  ([9, 11, 15], [(1, 3), (0, 3), (0, 4)], [1, 0, 3, 2]),
  ([11, 15, 10], [(0, 3), (0, 4), (1, 3)], [0, 1, 3, 2]),
  ([3, 15, 12], [(2, 4), (0, 4), (0, 2)], [2, 3, 0, 1]),
  ([13, 15, 12], [(1, 4), (0, 4), (1, 3)], [3, 0, 1, 2]),
  ([15, 14, 12], [(0, 4), (1, 4), (1, 3)], [0, 3, 1, 2]),
  ([5, 13, 15], [(1, 3), (0, 3), (0, 4)], [1, 3, 2, 0]),
  ([9, 13, 15], [(1, 3), (0, 3), (0, 4)], [1, 3, 0, 2]),
  ([13, 15, 12], [(0, 3), (0, 4), (1, 3)], [0, 3, 1, 2]),
  ([15, 6, 14], [(0, 4), (1, 3), (0, 3)], [3, 1, 2, 0]),
  ([15, 10, 14], [(0, 4), (1, 3), (0, 3)], [3, 1, 0, 2]),
  ([15, 14, 12], [(0, 4), (0, 3), (1, 3)], [3, 0, 1, 2])]
noncomputable def tab2 : List Tl := [
  ([15], [(0, 4)], [0, 1, 2, 3]),
  ([3, 15], [(0, 2), (0, 4)], [0, 1, 2, 3]),
  ([5, 15], [(0, 2), (0, 4)], [0, 2, 1, 3]),
  ([15, 6], [(0, 4), (1, 3)], [0, 1, 2, 3]),
  ([7, 15], [(0, 3), (0, 4)], [0, 1, 2, 3]),
  ([9, 15], [(0, 2), (0, 4)], [0, 2, 3, 1]),
  ([15, 10], [(0, 4), (1, 3)], [0, 1, 3, 2]),
  ([11, 15], [(0, 3), (0, 4)], [0, 1, 3, 2]),
  ([15, 12], [(0, 4), (1, 3)], [0, 3, 1, 2]),
  ([13, 15], [(0, 3), (0, 4)], [0, 3, 1, 2]),
  ([15, 14], [(0, 4), (1, 4)], [0, 1, 2, 3]),
  ([3, 7, 15], [(0, 2), (0, 3), (0, 4)], [0, 1, 2, 3]),
  ([3, 11, 15], [(0, 2), (0, 3), (0, 4)], [0, 1, 3, 2]),
  ([3, 15, 12], [(0, 2), (0, 4), (2, 4)], [0, 1, 2, 3]),
  ([5, 7, 15], [(0, 2), (0, 3), (0, 4)], [0, 2, 1, 3]),
  ([5, 15, 10], [(0, 2), (0, 4), (2, 4)], [0, 2, 1, 3]),
  ([5, 13, 15], [(1, 3), (1, 4), (0, 4)], [1, 0, 2, 3]),
  ([7, 15, 6], [(0, 3), (0, 4), (1, 3)], [0, 1, 2, 3]),
  ([9, 15, 6], [(2, 4), (0, 4), (0, 2)], [2, 0, 1, 3]),
  ([15, 6, 14], [(0, 4), (1, 3), (1, 4)], [0, 1, 2, 3]),
  ([3, 7, 15], [(0, 2), (0, 3), (0, 4)], [0, 1, 2, 3]),
  ([5, 7, 15], [(1, 3), (0, 3), (0, 4)], [1, 0, 2, 3]),
  ([7, 15, 6], [(0, 3), (0, 4), (1, 3)], [0, 1, 2, 3]),
  ([9, 15, 6], [(0, 2), (0, 4), (2, 4)], [0, 2, 3, 1]),
  ([9, 11, 15], [(0, 2), (0, 3), (0, 4)], [0, 2, 3, 1]),
  ([9, 13, 15], [(1, 3), (1, 4), (0, 4)], [1, 0, 3, 2]),
  ([5, 15, 10], [(2, 4), (0, 4), (0, 2)], [2, 0, 3, 1]),
  ([11, 15, 10], [(0, 3), (0, 4), (1, 3)], [0, 1, 3, 2]),
  ([15, 10, 14], [(0, 4), (1, 3), (1, 4)], [0, 1, 3, 2]),
  ([3, 11, 15], [(0, 2), (0, 3), (0, 4)], [0, 1, 3, 2]),
  ([9, 11, 15], [(1, 3), (0, 3), (0, 4)], [1, 0, 3, 2]),
  ([11, 15, 10], [(0, 3), (0, 4), (1, 3)], [0, 1, 3, 2]),
  ([3, 15, 12], [(2, 4), (0, 4), (0, 2)], [2, 3, 0, 1]),
  ([13, 15, 12], [(1, 4), (0, 4), (2, 4)], [1, 0, 2, 3]),
  ([15, 14, 12], [(0, 4), (1, 4), (1, 3)], [0, 3, 1, 2]),
  ([5, 13, 15], [(0, 2), (0, 3), (0, 4)], [0, 3, 1, 2]),
  ([9, 13, 15], [(0, 2), (0, 3), (0, 4)], [0, 3, 2, 1]),
  ([13, 15, 12], [(0, 3), (0, 4), (1, 3)], [0, 3, 1, 2]),
  ([15, 6, 14], [(0, 4), (1, 3), (1, 4)], [0, 1, 2, 3]),
  ([15, 10, 14], [(0, 4), (1, 3), (1, 4)], [0, 1, 3, 2]),
  ([15, 14, 12], [(0, 4), (1, 4), (2, 4)], [0, 1, 2, 3])]
end Mine
end
section
namespace Mine
open PyProof.Rows
noncomputable section
variable {R : Type}
noncomputable def nv (n : Nat) : V := .int (.ofNat n)
noncomputable def nvs : List Nat → List V
  | [] => []
  | n :: l => nv n :: nvs l
noncomputable def iv (l : List Nat) : V := .list (nvs l)
noncomputable def pv (p : Nat × Nat) : V := .tuple [nv p.1, nv p.2]
noncomputable def pvs : List (Nat × Nat) → List V
  | [] => []
  | p :: l => pv p :: pvs l
noncomputable def bit (b : Bool) (n : Nat) : Nat := @Bool.rec (fun _ => Nat) 0 n b
/-- the things of a set, as a list of four truths -/
noncomputable def hv (m : Nat) : V := .list [.bool (Nat.beq (m % 2) 1), .bool (Nat.beq (m / 2 % 2) 1), .bool (Nat.beq (m / 4 % 2) 1), .bool (Nat.beq (m / 8 % 2) 1)]
noncomputable def masks11 : List Nat := [3, 5, 6, 7, 9, 10, 11, 12, 13, 14, 15]
noncomputable def perms21 : List (List Nat) := [[0, 1, 2, 3], [0, 1, 3, 2], [0, 2, 1, 3], [0, 2, 3, 1], [0, 3, 1, 2], [0, 3, 2, 1], [1, 0, 2, 3], [1, 0, 3, 2], [1, 2, 0, 3], [1, 2, 3, 0], [1, 3, 0, 2], [1, 3, 2, 0], [2, 0, 1, 3], [2, 0, 3, 1], [2, 1, 0, 3], [2, 1, 3, 0], [2, 3, 0, 1], [2, 3, 1, 0], [3, 0, 1, 2], [3, 1, 0, 2], [3, 1, 2, 0]]
noncomputable def spans25 : List (List (Nat × Nat)) := [[(0, 2), (0, 3), (0, 4)], [(0, 2), (0, 4)], [(0, 2), (0, 4), (2, 4)], [(0, 3), (0, 4)], [(0, 3), (0, 4), (1, 3)], [(0, 4)], [(0, 4), (0, 2)], [(0, 4), (0, 3)], [(0, 4), (0, 3), (1, 3)], [(0, 4), (1, 3)], [(0, 4), (1, 3), (0, 3)], [(0, 4), (1, 3), (1, 4)], [(0, 4), (1, 4)], [(0, 4), (1, 4), (1, 3)], [(0, 4), (1, 4), (2, 4)], [(0, 4), (2, 4)], [(0, 4), (2, 4), (1, 4)], [(1, 3), (0, 3), (0, 4)], [(1, 3), (1, 4), (0, 4)], [(1, 4), (0, 4)], [(1, 4), (0, 4), (1, 3)], [(1, 4), (0, 4), (2, 4)], [(2, 4), (0, 4)], [(2, 4), (0, 4), (0, 2)], [(2, 4), (1, 4), (0, 4)]]
noncomputable def sel : Nat → List Nat → List Nat
  | _, [] => []
  | m, p :: ps => match Nat.beq (m % 2) 1 with | true => p :: sel (m / 2) ps | false => sel (m / 2) ps
noncomputable def minL : List Nat → Nat
  | [] => 0
  | [x] => x
  | x :: xs => Nat.min x (minL xs)
noncomputable def maxL : List Nat → Nat
  | [] => 0
  | [x] => x
  | x :: xs => Nat.max x (maxL xs)
noncomputable def hasP (a b : Nat) : List (Nat × Nat) → Bool
  | [] => false
  | p :: l => (Nat.beq p.1 a && Nat.beq p.2 b) || hasP a b l
noncomputable def hasN (a : Nat) : List Nat → Bool
  | [] => false
  | p :: l => Nat.beq p a || hasN a l
/-- is it a set of the book, or the whole -/
noncomputable def inBk (m : Nat) (b : List Nat) : Bool := hasN m b || Nat.beq m 15
structure Sl where
  (x3 x4 x5 x6 x7 x8 x9 x10 x11 x12 x13 x14 x16 x17 x18 x19 x20 : Option V)
/-- law's frame in loop 2 -/
noncomputable def LC (scr bk : V) (s : Sl) (rest : Lc) : Lc := some scr :: some bk :: some (.ref 0) :: s.x3 :: s.x4 :: s.x5 :: s.x6 :: s.x7 :: s.x8 :: s.x9 :: s.x10 :: s.x11 :: s.x12 :: s.x13 :: s.x14 :: some (.ref 7) :: s.x16 :: s.x17 :: s.x18 :: s.x19 :: s.x20 :: rest
noncomputable def oc (c0 c1 c2 c3 c4 c5 c6 c7 : O) (t : Os) : Os := c0 :: c1 :: c2 :: c3 :: c4 :: c5 :: c6 :: c7 :: t
noncomputable def kA : KS R := kSeq k_law_b4_s1 (kSeq k_law_b4_s2 k_law_b4_s3)
noncomputable def kE : KX R := (kAnd (kB (kCmp eqK (kCall k_sub [] [(kSlot 14), (kSlot 13)]) (kLen (kSlot 19)))) (kCall k_contains [] [(kIdx (kSlot 18) (kConst (.int 1))), (kTup [(kSlot 13), (kSlot 14)])]))
theorem b4_split {l : Lc} {o : Os} {kn kb : Lc → Os → Option R} {kr : V → Os → Option R} :
    k_law_b4 l o kn kb kr = kA l o (fun l o => kExpr (kAppend (kSlot 17) kE) l o kn kb kr) kb kr := by kernel_rfl
noncomputable def sA (s : Sl) (m : Nat) (c d : V) (pl : List Nat) : Sl := { s with x11 := some (hv m), x18 := some (.tuple [c, d, iv pl]), x19 := some (iv (sel m pl)), x13 := some (nv (minL (sel m pl))), x14 := some (nv (maxL (sel m pl) + 1)) }
theorem kA_all (scr bk c d : V) (s : Sl) (rest : Lc) (o : Os) (kn kb : Lc → Os → Option R) (kr : V → Os → Option R) :
    perms21.map (fun pl => masks11.map fun m => kA (LC scr bk { s with x11 := some (hv m), x18 := some (.tuple [c, d, iv pl]) } rest) o kn kb kr) =
    perms21.map (fun pl => masks11.map fun m => kn (LC scr bk (sA s m c d pl) rest) o) := by kernel_rfl
noncomputable def combos : List (Nat × Nat × Nat) := [(0, 2, 2), (1, 3, 2), (2, 4, 2), (0, 3, 2), (0, 3, 3), (1, 4, 2), (1, 4, 3), (0, 4, 2), (0, 4, 3), (0, 4, 4)]
noncomputable def inl (c : Nat × Nat × Nat) (sp : List (Nat × Nat)) : Bool := Nat.beq (c.2.1 - c.1) c.2.2 && hasP c.1 c.2.1 sp
noncomputable def sE (s : Sl) (T : V) (c : Nat × Nat × Nat) (y1 y2 y3 y4 : V) : Sl := { s with x18 := some T, x13 := some (nv c.1), x14 := some (nv c.2.1), x19 := some (.list (List.take c.2.2 [y1, y2, y3, y4])) }
theorem kE_0 (scr bk a d y1 y2 y3 y4 : V) (s : Sl) (rest : Lc) (c0 c1 c3 c4 c5 c6 c7 : O) (t : Os) (k : V → Os → Option R) :
    spans25.map (fun sp => combos.map fun c => kE (LC scr bk (sE s (.tuple [a, .ref 2, d]) c y1 y2 y3 y4) rest) (oc c0 c1 (.list (pvs sp)) c3 c4 c5 c6 c7 t) k) =
    spans25.map (fun sp => combos.map fun c => k (.bool (inl c sp)) (oc c0 c1 (.list (pvs sp)) c3 c4 c5 c6 c7 t)) := by kernel_rfl
theorem kE_1 (scr bk a d y1 y2 y3 y4 : V) (s : Sl) (rest : Lc) (c0 c1 c2 c3 c5 c6 c7 : O) (t : Os) (k : V → Os → Option R) :
    spans25.map (fun sp => combos.map fun c => kE (LC scr bk (sE s (.tuple [a, .ref 4, d]) c y1 y2 y3 y4) rest) (oc c0 c1 c2 c3 (.list (pvs sp)) c5 c6 c7 t) k) =
    spans25.map (fun sp => combos.map fun c => k (.bool (inl c sp)) (oc c0 c1 c2 c3 (.list (pvs sp)) c5 c6 c7 t)) := by kernel_rfl
theorem kE_2 (scr bk a d y1 y2 y3 y4 : V) (s : Sl) (rest : Lc) (c0 c1 c2 c3 c4 c5 c7 : O) (t : Os) (k : V → Os → Option R) :
    spans25.map (fun sp => combos.map fun c => kE (LC scr bk (sE s (.tuple [a, .ref 6, d]) c y1 y2 y3 y4) rest) (oc c0 c1 c2 c3 c4 c5 (.list (pvs sp)) c7 t) k) =
    spans25.map (fun sp => combos.map fun c => k (.bool (inl c sp)) (oc c0 c1 c2 c3 c4 c5 (.list (pvs sp)) c7 t)) := by kernel_rfl
theorem s3_all (scr bk : V) (s : Sl) (rest : Lc) (o : Os) (kn kb : Lc → Os → Option R) (kr : V → Os → Option R) :
    masks11.map (fun m => k_law_b5_s3 (LC scr bk { s with x11 := some (hv m) } rest) o kn kb kr) =
    masks11.map (fun m => kn (LC scr bk { s with x11 := some (hv m), x20 := some (nv m) } rest) o) := by kernel_rfl
noncomputable def kBk : KX R := (kB (kCmp isinK (kSlot 2) (kAddl (kSlot 1) (kList [(kConst (.int 15))]))))
theorem kBk_all (o : Os) (k : V → Os → Option R) :
    books41.map (fun b => masks11.map fun m => kBk [none, some (iv b), some (nv m)] o k) =
    books41.map (fun b => masks11.map fun m => k (.bool (inBk m b)) o) := by kernel_rfl
end
end Mine
end
section
namespace Mine
open PyProof.Rows
section
variable {R : Type}
theorem map2_get {α β γ : Type} {xs : List α} {ys : List β} {f g : α → β → γ} (h : (xs.map fun x => ys.map (f x)) = xs.map fun x => ys.map (g x)) {x : α} {y : β} (hx : x ∈ xs) (hy : y ∈ ys) : f x y = g x y :=
  List.map_inj_left.mp (List.map_inj_left.mp h x hx) y hy
theorem objK_of {i : Nat} {o : Os} {xs : List V} {k : List V → Option R} (h : o[i]? = some (.list xs)) : objK i o k = k xs := by rw [objK_eq, h]
theorem upd_of {α : Type} {i : Nat} {l : List α} {v : α} {k : List α → Option R} (h : i < l.length) : upd i l v k = k (l.set i v) := by
  induction i generalizing l k with
  | zero => cases l with
    | nil => cases h
    | cons x t => rfl
  | succ i ih => cases l with
    | nil => cases h
    | cons x t => exact ih (l := t) (Nat.lt_of_succ_lt_succ h)
theorem slen_of {α : Type} {l : List α} {k : Nat → Option R} (h : l.length ≤ 65535) : slen l k = k l.length := by
  unfold slen
  rw [lenK_eq, Nat.zero_add]
  unfold shortK
  rw [Nat.ble_eq_true_of_le h]
  rfl
theorem take4 {xs : List V} (h : xs.length ≤ 4) : ∃ y1 y2 y3 y4, xs = List.take xs.length [y1, y2, y3, y4] := by
  match xs, h with
  | [], _ => exact ⟨.none, .none, .none, .none, rfl⟩
  | [a], _ => exact ⟨a, .none, .none, .none, rfl⟩
  | [a, b], _ => exact ⟨a, b, .none, .none, rfl⟩
  | [a, b, c], _ => exact ⟨a, b, c, .none, rfl⟩
  | [a, b, c, d], _ => exact ⟨a, b, c, d, rfl⟩
theorem nvs_length : ∀ l : List Nat, (nvs l).length = l.length
  | [] => rfl
  | _ :: l => congrArg (· + 1) (nvs_length l)
/-- the stretch of a set's places -/
noncomputable def str (m : Nat) (pl : List Nat) : Nat × Nat × Nat := (minL (sel m pl), maxL (sel m pl) + 1, (sel m pl).length)
theorem combos_all : (perms21.all fun pl => masks11.all fun m => combos.elem (str m pl)) = true := by decide +kernel
theorem str_mem {pl : List Nat} {m : Nat} (hp : pl ∈ perms21) (hm : m ∈ masks11) : str m pl ∈ combos :=
  List.elem_iff.mp (List.all_eq_true.mp (List.all_eq_true.mp combos_all pl hp) m hm)
theorem combos_len : ∀ c ∈ combos, c.2.2 ≤ 4 := by decide
theorem sA_eq {s : Sl} {m : Nat} {c d : V} {pl : List Nat} (hp : pl ∈ perms21) (hm : m ∈ masks11) : ∃ y1 y2 y3 y4, sA s m c d pl = sE { s with x11 := some (hv m) } (.tuple [c, d, iv pl]) (str m pl) y1 y2 y3 y4 := by
  have h4 : (nvs (sel m pl)).length ≤ 4 := by rw [nvs_length]; exact combos_len _ (str_mem hp hm)
  obtain ⟨y1, y2, y3, y4, e⟩ := take4 h4
  rw [nvs_length] at e
  refine ⟨y1, y2, y3, y4, ?_⟩
  show (⟨_, _, _, _, _, _, _, _, _, _, _, _, _, _, _, some (.list (nvs (sel m pl))), _⟩ : Sl) = ⟨_, _, _, _, _, _, _, _, _, _, _, _, _, _, _, some (.list (List.take (sel m pl).length [y1, y2, y3, y4])), _⟩
  rw [← e]
  rfl
theorem kA_at {pl : List Nat} {m : Nat} (hp : pl ∈ perms21) (hm : m ∈ masks11) (scr bk c d : V) (s : Sl) (rest : Lc) (o : Os) (kn kb : Lc → Os → Option R) (kr : V → Os → Option R) :
    kA (LC scr bk { s with x11 := some (hv m), x18 := some (.tuple [c, d, iv pl]) } rest) o kn kb kr = kn (LC scr bk (sA s m c d pl) rest) o := map2_get (kA_all scr bk c d s rest o kn kb kr) hp hm
theorem app_split {scr bk : V} {s : Sl} {q : Nat} {rest : Lc} {o : Os} {kn kb : Lc → Os → Option R} {kr : V → Os → Option R} (h : s.x17 = some (.ref q)) :
    kExpr (kAppend (kSlot 17) kE) (LC scr bk s rest) o kn kb kr = objK q o fun _ => kE (LC scr bk s rest) o fun w o => objK q o fun xs => slen xs fun _ => app xs [w] fun ys => upd q o (.list ys) fun o => kn (LC scr bk s rest) o := by
  obtain ⟨x3, x4, x5, x6, x7, x8, x9, x10, x11, x12, x13, x14, x16, x17, x18, x19, x20⟩ := s
  (first | exact nos h | cases h)
  kernel_rfl
theorem oc_get (c0 c1 c2 c3 c4 c5 c6 c7 x : O) (t : Os) : (oc c0 c1 c2 c3 c4 c5 c6 c7 (t ++ [x]))[t.length + 8]? = some x := by
  show (t ++ [x])[t.length]? = some x
  simp
theorem oc_set (c0 c1 c2 c3 c4 c5 c6 c7 x y : O) (t : Os) : (oc c0 c1 c2 c3 c4 c5 c6 c7 (t ++ [x])).set (t.length + 8) y = oc c0 c1 c2 c3 c4 c5 c6 c7 (t ++ [y]) := by
  show c0 :: c1 :: c2 :: c3 :: c4 :: c5 :: c6 :: c7 :: (t ++ [x]).set t.length y = _
  simp [oc]
theorem oc_lt (c0 c1 c2 c3 c4 c5 c6 c7 x : O) (t : Os) : t.length + 8 < (oc c0 c1 c2 c3 c4 c5 c6 c7 (t ++ [x])).length := by
  simp [oc]
/-- one line asked for one set: j = 0, 1, 2 -/
theorem b4_at {scr bk c d : V} {s : Sl} {rest : Lc} {c0 c1 c2 c3 c4 c5 c6 c7 : O} {t : Os} {sh : List V} {pl : List Nat} {m : Nat} {w : Bool} (hp : pl ∈ perms21) (hm : m ∈ masks11) (hs : sh.length ≤ 65535)
    (hE : ∀ {R : Type} (y1 y2 y3 y4 : V) (k : V → Os → Option R), kE (LC scr bk (sE { s with x11 := some (hv m), x17 := some (.ref (t.length + 8)) } (.tuple [c, d, iv pl]) (str m pl) y1 y2 y3 y4) rest) (oc c0 c1 c2 c3 c4 c5 c6 c7 (t ++ [.list sh])) k = k (.bool w) (oc c0 c1 c2 c3 c4 c5 c6 c7 (t ++ [.list sh])))
    (kn kb : Lc → Os → Option R) (kr : V → Os → Option R) :
    k_law_b4 (LC scr bk { s with x11 := some (hv m), x17 := some (.ref (t.length + 8)), x18 := some (.tuple [c, d, iv pl]) } rest) (oc c0 c1 c2 c3 c4 c5 c6 c7 (t ++ [.list sh])) kn kb kr =
      kn (LC scr bk (sA { s with x17 := some (.ref (t.length + 8)) } m c d pl) rest) (oc c0 c1 c2 c3 c4 c5 c6 c7 (t ++ [.list (sh ++ [.bool w])])) := by
  rw [b4_split]
  refine (kA_at hp hm scr bk c d { s with x17 := some (.ref (t.length + 8)) } rest _ _ _ _).trans ?_
  rw [app_split (q := t.length + 8) rfl, objK_of (oc_get ..)]
  obtain ⟨y1, y2, y3, y4, e⟩ := sA_eq (s := { s with x17 := some (.ref (t.length + 8)) }) (c := c) (d := d) hp hm
  rw [e]
  refine (hE y1 y2 y3 y4 _).trans ?_
  rw [objK_of (oc_get ..), slen_of hs, app_eq, upd_of (oc_lt ..), oc_set]
noncomputable def forC (kn kb : Lc → Os → Option R) (kr : V → Os → Option R) (n i : Nat) : Lc → Os → Option R := fun l o => goRef (X := Unit) 0 n i (fun v l o _ nx => tgOne 18 v l fun l => k_law_b4 l o (fun l o => nx l o ⟨⟩) kn kr) (fun l o _ => kNil l o kn kb kr) l o ⟨⟩
section
variable (scr bk : V) (s : Sl) (rest : Lc) (T0 T1 T2 : V) (c1 c2 c3 c4 c5 c6 c7 : O) (t : Os) (kn kb : Lc → Os → Option R) (kr : V → Os → Option R)
theorem forC_start : k_law_b5_s2 (LC scr bk s rest) (oc (.list [T0, T1, T2]) c1 c2 c3 c4 c5 c6 c7 t) kn kb kr = forC kn kb kr 4 0 (LC scr bk s rest) (oc (.list [T0, T1, T2]) c1 c2 c3 c4 c5 c6 c7 t) := by kernel_rfl
theorem forC_0 : forC kn kb kr 4 0 (LC scr bk s rest) (oc (.list [T0, T1, T2]) c1 c2 c3 c4 c5 c6 c7 t) = k_law_b4 (LC scr bk { s with x18 := some T0 } rest) (oc (.list [T0, T1, T2]) c1 c2 c3 c4 c5 c6 c7 t) (forC kn kb kr 3 1) kn kr := by kernel_rfl
theorem forC_1 : forC kn kb kr 3 1 (LC scr bk s rest) (oc (.list [T0, T1, T2]) c1 c2 c3 c4 c5 c6 c7 t) = k_law_b4 (LC scr bk { s with x18 := some T1 } rest) (oc (.list [T0, T1, T2]) c1 c2 c3 c4 c5 c6 c7 t) (forC kn kb kr 2 2) kn kr := by kernel_rfl
theorem forC_2 : forC kn kb kr 2 2 (LC scr bk s rest) (oc (.list [T0, T1, T2]) c1 c2 c3 c4 c5 c6 c7 t) = k_law_b4 (LC scr bk { s with x18 := some T2 } rest) (oc (.list [T0, T1, T2]) c1 c2 c3 c4 c5 c6 c7 t) (forC kn kb kr 1 3) kn kr := by kernel_rfl
theorem forC_3 : forC kn kb kr 1 3 (LC scr bk s rest) (oc (.list [T0, T1, T2]) c1 c2 c3 c4 c5 c6 c7 t) = kn (LC scr bk s rest) (oc (.list [T0, T1, T2]) c1 c2 c3 c4 c5 c6 c7 t) := by kernel_rfl
end
theorem s2_at {scr bk a0 a1 a2 : V} {s : Sl} {rest : Lc} {c1 c3 c5 c7 : O} {t : Os} {pl0 pl1 pl2 : List Nat} {sp0 sp1 sp2 : List (Nat × Nat)} {m : Nat} (hm : m ∈ masks11)
    (hp0 : pl0 ∈ perms21) (hp1 : pl1 ∈ perms21) (hp2 : pl2 ∈ perms21) (hs0 : sp0 ∈ spans25) (hs1 : sp1 ∈ spans25) (hs2 : sp2 ∈ spans25) (h11 : s.x11 = some (hv m)) (h17 : s.x17 = some (.ref (t.length + 8))) :
    ∃ s' : Sl, s'.x11 = some (hv m) ∧ s'.x17 = some (.ref (t.length + 8)) ∧ s'.x5 = s.x5 ∧ ∀ {R : Type} (kn kb : Lc → Os → Option R) (kr : V → Os → Option R),
      k_law_b5_s2 (LC scr bk s rest) (oc (.list [.tuple [a0, .ref 2, iv pl0], .tuple [a1, .ref 4, iv pl1], .tuple [a2, .ref 6, iv pl2]]) c1 (.list (pvs sp0)) c3 (.list (pvs sp1)) c5 (.list (pvs sp2)) c7 (t ++ [.list []])) kn kb kr =
        kn (LC scr bk s' rest) (oc (.list [.tuple [a0, .ref 2, iv pl0], .tuple [a1, .ref 4, iv pl1], .tuple [a2, .ref 6, iv pl2]]) c1 (.list (pvs sp0)) c3 (.list (pvs sp1)) c5 (.list (pvs sp2)) c7 (t ++ [.list [.bool (inl (str m pl0) sp0), .bool (inl (str m pl1) sp1), .bool (inl (str m pl2) sp2)]])) := by
  obtain ⟨x3, x4, x5, x6, x7, x8, x9, x10, x11, x12, x13, x14, x16, x17, x18, x19, x20⟩ := s
  cases h11
  cases h17
  let s0 : Sl := ⟨x3, x4, x5, x6, x7, x8, x9, x10, some (hv m), x12, x13, x14, x16, some (.ref (t.length + 8)), x18, x19, x20⟩
  let s1 : Sl := sA s0 m a0 (.ref 2) pl0
  let s2 : Sl := sA s1 m a1 (.ref 4) pl1
  let s3 : Sl := sA s2 m a2 (.ref 6) pl2
  refine ⟨s3, rfl, rfl, rfl, fun kn kb kr => ?_⟩
  rw [forC_start, forC_0]
  refine (b4_at (s := s0) (c := a0) (d := .ref 2) (w := inl (str m pl0) sp0) hp0 hm (by simp) (fun y1 y2 y3 y4 k => map2_get (kE_0 scr bk a0 (iv pl0) y1 y2 y3 y4 _ rest _ _ _ _ _ _ _ _ k) hs0 (str_mem hp0 hm)) _ _ _).trans ?_
  rw [forC_1]
  refine (b4_at (s := s1) (c := a1) (d := .ref 4) (w := inl (str m pl1) sp1) hp1 hm (by simp) (fun y1 y2 y3 y4 k => map2_get (kE_1 scr bk a1 (iv pl1) y1 y2 y3 y4 _ rest _ _ _ _ _ _ _ _ k) hs1 (str_mem hp1 hm)) _ _ _).trans ?_
  rw [forC_2]
  refine (b4_at (s := s2) (c := a2) (d := .ref 6) (w := inl (str m pl2) sp2) hp2 hm (by simp) (fun y1 y2 y3 y4 k => map2_get (kE_2 scr bk a2 (iv pl2) y1 y2 y3 y4 _ rest _ _ _ _ _ _ _ _ k) hs2 (str_mem hp2 hm)) _ _ _).trans ?_
  rw [forC_3]
  rfl
end
end Mine
end
section
namespace Mine
open PyProof.Rows
noncomputable section
variable {R : Type}
theorem bfi_true {b : Bool} {x y : Option R} (h : b = true) : bfi b x y = x := by subst h; rfl
theorem onTrue_true {b : Bool} {x : Option R} (h : b = true) : onTrue b x = x := by subst h; rfl
theorem obK_some {b : Option Bool} {c : Bool} {k : Bool → Option R} (h : b = some c) : obK b k = k c := by subst h; rfl
theorem nrL_nvs : ∀ l : List Nat, nrL (nvs l) = true
  | [] => rfl
  | n :: l => by show an true (nrL (nvs l)) = true; rw [nrL_nvs l]; rfl
theorem pBs_nvs (d : Nat) : ∀ l : List Nat, pBs (nvs l) d = true
  | [] => rfl
  | n :: l => by show an true (pBs (nvs l) d) = true; rw [pBs_nvs d l]; rfl
theorem anyR_nvs (m : Nat) : ∀ l : List Nat, anyR (nv m) (nvs l) = some (hasN m l)
  | [] => rfl
  | n :: l => by
    show @Option.rec Bool (fun _ => Option Bool) none (fun a => @Option.rec Bool (fun _ => Option Bool) none (fun b => some (@Bool.rec (fun _ => Bool) b true a)) (anyR (nv m) (nvs l))) (some (Nat.beq n m)) = some (Nat.beq n m || hasN m l)
    rw [anyR_nvs m l]
    show some (@Bool.rec (fun _ => Bool) (hasN m l) true (Nat.beq n m)) = _
    cases Nat.beq n m <;> rfl
theorem nvs_app : ∀ (l m : List Nat), nvs (l ++ m) = nvs l ++ nvs m
  | [], _ => rfl
  | n :: l, m => congrArg (nv n :: ·) (nvs_app l m)

section
variable (scr bk : V) (s : Sl) (rest : Lc) (kn kb : Lc → Os → Option R) (kr : V → Os → Option R)
theorem b5_split (l : Lc) (o : Os) : k_law_b5 l o kn kb kr = k_law_b5_s1 l o (fun l o => k_law_b5_s2 l o (fun l o => k_law_b5_s3 l o (fun l o => k_law_b5_s4 l o (fun l o => k_law_b5_s5 l o kn kb kr) kb kr) kb kr) kb kr) kb kr := by kernel_rfl
theorem b5_s1 (c0 c1 c2 c3 c4 c5 c6 c7 : O) (t : Os) : k_law_b5_s1 (LC scr bk s rest) (oc c0 c1 c2 c3 c4 c5 c6 c7 t) kn kb kr = kn (LC scr bk { s with x17 := some (.ref (t.length + 8)) } rest) (oc c0 c1 c2 c3 c4 c5 c6 c7 (t ++ [.list []])) := by
  have h : k_law_b5_s1 (LC scr bk s rest) (oc c0 c1 c2 c3 c4 c5 c6 c7 t) kn kb kr = lenK t 8 fun n => app t [.list []] fun t => kn (LC scr bk { s with x17 := some (.ref n) } rest) (oc c0 c1 c2 c3 c4 c5 c6 c7 t) := by kernel_rfl
  rw [h, lenK_eq, app_eq, Nat.add_comm 8]
theorem b5_s3 {m : Nat} (hm : m ∈ masks11) (o : Os) : k_law_b5_s3 (LC scr bk { s with x11 := some (hv m) } rest) o kn kb kr = kn (LC scr bk { s with x11 := some (hv m), x20 := some (nv m) } rest) o :=
  List.map_inj_left.mp (s3_all scr bk s rest o kn kb kr) m hm
noncomputable def kCB : KX R := (kComp (capNo (capNo (capAt 20 capNil))) (tgOne 1) (kB (kCmp isinK (kSlot 2) (kAddl (kSlot 1) (kList [(kConst (.int 15))])))) (itX (kSlot 1)) kTt)
theorem comp3 (elt : KX R) (B0 B1 B2 N : V) (o : Os) (k : V → Os → Option R) : kComp (capNo (capNo (capAt 20 capNil))) (tgOne 1) elt (itX (kSlot 1)) kTt (LC scr (.list [B0, B1, B2]) { s with x20 := some N } rest) o k =
    elt [none, some B0, some N] o fun u o => elt [none, some B1, some N] o fun v o => elt [none, some B2, some N] o fun w o => k (.list [u, v, w]) o := by kernel_rfl
theorem kCB_at (B0 B1 B2 N : V) (o : Os) (k : V → Os → Option R) : kCB (LC scr (.list [B0, B1, B2]) { s with x20 := some N } rest) o k =
    kBk [none, some B0, some N] o fun u o => kBk [none, some B1, some N] o fun v o => kBk [none, some B2, some N] o fun w o => k (.list [u, v, w]) o := comp3 scr s rest kBk B0 B1 B2 N o k
theorem kBk_at {b : List Nat} {m : Nat} (hb : b ∈ books41) (hm : m ∈ masks11) (o : Os) (k : V → Os → Option R) : kBk [none, some (iv b), some (nv m)] o k = k (.bool (inBk m b)) o := map2_get (kBk_all o k) hb hm
theorem s4_split (q : Nat) (o : Os) : k_law_b5_s4 (LC scr bk { s with x17 := some (.ref q) } rest) o kn kb kr =
    kCB (LC scr bk { s with x17 := some (.ref q) } rest) o fun y o => neK o (.ref q) y fun v => bfi v (kr (.bool false) o) (kn (LC scr bk { s with x17 := some (.ref q) } rest) o) := by kernel_rfl
theorem neK_bools {o : Os} {q : Nat} {a b c : Bool} (h : o[q]? = some (.list [.bool a, .bool b, .bool c])) (k : Bool → Option R) : neK o (.ref q) (.list [.bool a, .bool b, .bool c]) k = k false := by
  refine (objK_of h).trans ?_
  cases a <;> cases b <;> cases c <;> rfl
theorem b5_s4 {b0 b1 b2 : List Nat} {m q : Nat} {o : Os} (hm : m ∈ masks11) (h0 : b0 ∈ books41) (h1 : b1 ∈ books41) (h2 : b2 ∈ books41) (h : o[q]? = some (.list [.bool (inBk m b0), .bool (inBk m b1), .bool (inBk m b2)])) :
    k_law_b5_s4 (LC scr (.list [iv b0, iv b1, iv b2]) { s with x17 := some (.ref q), x20 := some (nv m) } rest) o kn kb kr = kn (LC scr (.list [iv b0, iv b1, iv b2]) { s with x17 := some (.ref q), x20 := some (nv m) } rest) o := by
  refine (s4_split scr (.list [iv b0, iv b1, iv b2]) { s with x20 := some (nv m) } rest kn kb kr q o).trans ?_
  refine (kCB_at scr { s with x17 := some (.ref q) } rest (iv b0) (iv b1) (iv b2) (nv m) o _).trans ?_
  rw [kBk_at h0 hm, kBk_at h1 hm, kBk_at h2 hm, neK_bools h]
  rfl
noncomputable def kT3 : KT R := (kTand (kTnot (kTx (kCall k_contains [] [(kSlot 15), (kSlot 20)]))) kTt)
noncomputable def kT2 : KT R := (kTand (kTx (kCall k_ge [] [(kCall k_countOf [none, none] [(kSlot 17), (kConst (.bool true))]), (kConst (.int 2))])) kT3)
theorem s5_15 (o : Os) : k_law_b5_s5 (LC scr bk { s with x20 := some (nv 15) } rest) o kn kb kr = kn (LC scr bk { s with x20 := some (nv 15) } rest) o := by kernel_rfl
theorem s5_all (c0 c1 c2 c3 c4 c5 c6 : O) (t : Os) (K : List V) : herds.map (fun m => k_law_b5_s5 (LC scr bk { s with x20 := some (nv m) } rest) (oc c0 c1 c2 c3 c4 c5 c6 (.list K) t) kn kb kr) =
    herds.map fun m => kT2 (LC scr bk { s with x20 := some (nv m) } rest) (oc c0 c1 c2 c3 c4 c5 c6 (.list K) t) fun c o => bfi c (kExpr (kAppend (kSlot 15) (kSlot 20)) (LC scr bk { s with x20 := some (nv m) } rest) o kn kb kr) (kn (LC scr bk { s with x20 := some (nv m) } rest) o) := by kernel_rfl
theorem s5_app (c0 c1 c2 c3 c4 c5 c6 : O) (t : Os) (K : List V) (N : V) : kExpr (kAppend (kSlot 15) (kSlot 20)) (LC scr bk { s with x20 := some N } rest) (oc c0 c1 c2 c3 c4 c5 c6 (.list K) t) kn kb kr =
    slen K fun _ => app K [N] fun ys => kn (LC scr bk { s with x20 := some N } rest) (oc c0 c1 c2 c3 c4 c5 c6 (.list ys) t) := by kernel_rfl
noncomputable def maj3 (a b c : Bool) : Bool := (a && b) || (a && c) || (b && c)
theorem kT2_at {q : Nat} {o : Os} {a b c : Bool} (h : o[q]? = some (.list [.bool a, .bool b, .bool c])) (k : Bool → Os → Option R) :
    kT2 (LC scr bk { s with x17 := some (.ref q) } rest) o k = bfi (maj3 a b c) (kT3 (LC scr bk { s with x17 := some (.ref q) } rest) o k) (k false o) := by
  refine (objK_of h).trans ?_
  cases a <;> cases b <;> cases c <;> kernel_rfl
theorem kT3_at (c0 c1 c2 c3 c4 c5 c6 : O) (t : Os) (K : List Nat) (m : Nat) (k : Bool → Os → Option R) :
    kT3 (LC scr bk { s with x20 := some (nv m) } rest) (oc c0 c1 c2 c3 c4 c5 c6 (.list (nvs K)) t) k = k (!hasN m K) (oc c0 c1 c2 c3 c4 c5 c6 (.list (nvs K)) t) := by
  refine (bfi_true (nrL_nvs K)).trans ?_
  refine (bfi_true (nrL_nvs K)).trans ?_
  refine (onTrue_true (pBs_nvs 8 K)).trans ?_
  refine (obK_some (anyR_nvs m K)).trans ?_
  cases hasN m K <;> kernel_rfl
end
end
end Mine
end
section
namespace Mine
open PyProof.Rows
noncomputable section
/-- a line in order: what it tells (places, spans) is what the book b says -/
structure LineOk (b pl : List Nat) (sp : List (Nat × Nat)) : Prop where
  b41 : b ∈ books41
  pl21 : pl ∈ perms21
  sp25 : sp ∈ spans25
  says : ∀ m ∈ masks11, inl (str m pl) sp = inBk m b
noncomputable def kst (b0 b1 b2 K : List Nat) (m : Nat) : List Nat := match Nat.beq m 15 with
  | true => K
  | false => match maj3 (inBk m b0) (inBk m b1) (inBk m b2) with
    | true => (match hasN m K with | true => K | false => K ++ [m])
    | false => K
theorem kst_len (b0 b1 b2 K : List Nat) (m : Nat) : (kst b0 b1 b2 K m).length ≤ K.length + 1 := by
  unfold kst
  split
  · omega
  · split
    · split
      · omega
      · simp
    · omega
theorem masks_herds : ∀ m ∈ masks11, m = 15 ∨ m ∈ herds := by decide
theorem herds_ne : ∀ m ∈ herds, Nat.beq m 15 = false := by decide
section
variable {scr a0 a1 a2 : V} {rest : Lc} {c1 c3 c5 : O} {b0 b1 b2 pl0 pl1 pl2 : List Nat} {sp0 sp1 sp2 : List (Nat × Nat)}
noncomputable abbrev bkV (b0 b1 b2 : List Nat) : V := .list [iv b0, iv b1, iv b2]
noncomputable abbrev ocL (a0 a1 a2 : V) (pl0 pl1 pl2 : List Nat) (sp0 sp1 sp2 : List (Nat × Nat)) (c1 c3 c5 : O) (K : List Nat) (t : Os) : Os :=
  oc (.list [.tuple [a0, .ref 2, iv pl0], .tuple [a1, .ref 4, iv pl1], .tuple [a2, .ref 6, iv pl2]]) c1 (.list (pvs sp0)) c3 (.list (pvs sp1)) c5 (.list (pvs sp2)) (.list (nvs K)) t
theorem s5_at {m q : Nat} {K : List Nat} {t : Os} (hm : m ∈ masks11) (hK : K.length ≤ 60000) (s : Sl)
    (h : (ocL a0 a1 a2 pl0 pl1 pl2 sp0 sp1 sp2 c1 c3 c5 K t)[q]? = some (.list [.bool (inBk m b0), .bool (inBk m b1), .bool (inBk m b2)])) {R : Type} (kn kb : Lc → Os → Option R) (kr : V → Os → Option R) :
    k_law_b5_s5 (LC scr (bkV b0 b1 b2) { s with x17 := some (.ref q), x20 := some (nv m) } rest) (ocL a0 a1 a2 pl0 pl1 pl2 sp0 sp1 sp2 c1 c3 c5 K t) kn kb kr =
      kn (LC scr (bkV b0 b1 b2) { s with x17 := some (.ref q), x20 := some (nv m) } rest) (ocL a0 a1 a2 pl0 pl1 pl2 sp0 sp1 sp2 c1 c3 c5 (kst b0 b1 b2 K m) t) := by
  rcases masks_herds m hm with rfl | hh
  · exact s5_15 scr _ { s with x17 := some (.ref q) } rest kn kb kr _
  · obtain ⟨x3, x4, x5, x6, x7, x8, x9, x10, x11, x12, x13, x14, x16, x17, x18, x19, x20⟩ := s
    let S : Sl := ⟨x3, x4, x5, x6, x7, x8, x9, x10, x11, x12, x13, x14, x16, some (.ref q), x18, x19, some (nv m)⟩
    let K1 : Bool → Os → Option R := fun c o => bfi c (kExpr (kAppend (kSlot 15) (kSlot 20)) (LC scr (bkV b0 b1 b2) S rest) o kn kb kr) (kn (LC scr (bkV b0 b1 b2) S rest) o)
    have e1 : k_law_b5_s5 (LC scr (bkV b0 b1 b2) S rest) (ocL a0 a1 a2 pl0 pl1 pl2 sp0 sp1 sp2 c1 c3 c5 K t) kn kb kr = kT2 (LC scr (bkV b0 b1 b2) S rest) (ocL a0 a1 a2 pl0 pl1 pl2 sp0 sp1 sp2 c1 c3 c5 K t) K1 :=
      List.map_inj_left.mp (s5_all scr (bkV b0 b1 b2) S rest kn kb kr _ _ _ _ _ _ _ t (nvs K)) m hh
    have e2 : kT2 (LC scr (bkV b0 b1 b2) S rest) (ocL a0 a1 a2 pl0 pl1 pl2 sp0 sp1 sp2 c1 c3 c5 K t) K1 = bfi (maj3 (inBk m b0) (inBk m b1) (inBk m b2)) (kT3 (LC scr (bkV b0 b1 b2) S rest) (ocL a0 a1 a2 pl0 pl1 pl2 sp0 sp1 sp2 c1 c3 c5 K t) K1) (K1 false (ocL a0 a1 a2 pl0 pl1 pl2 sp0 sp1 sp2 c1 c3 c5 K t)) := kT2_at scr (bkV b0 b1 b2) S rest h K1
    have e3 : kT3 (LC scr (bkV b0 b1 b2) S rest) (ocL a0 a1 a2 pl0 pl1 pl2 sp0 sp1 sp2 c1 c3 c5 K t) K1 = K1 (!hasN m K) (ocL a0 a1 a2 pl0 pl1 pl2 sp0 sp1 sp2 c1 c3 c5 K t) := kT3_at scr (bkV b0 b1 b2) S rest _ _ _ _ _ _ _ t K m K1
    have e4 : kExpr (kAppend (kSlot 15) (kSlot 20)) (LC scr (bkV b0 b1 b2) S rest) (ocL a0 a1 a2 pl0 pl1 pl2 sp0 sp1 sp2 c1 c3 c5 K t) kn kb kr = kn (LC scr (bkV b0 b1 b2) S rest) (ocL a0 a1 a2 pl0 pl1 pl2 sp0 sp1 sp2 c1 c3 c5 (K ++ [m]) t) := by
      refine (s5_app scr (bkV b0 b1 b2) S rest kn kb kr _ _ _ _ _ _ _ t (nvs K) (nv m)).trans ?_
      rw [slen_of (by rw [nvs_length]; omega), app_eq]
      unfold ocL
      rw [nvs_app]
      rfl
    have e5 : k_law_b5_s5 (LC scr (bkV b0 b1 b2) S rest) (ocL a0 a1 a2 pl0 pl1 pl2 sp0 sp1 sp2 c1 c3 c5 K t) kn kb kr = kn (LC scr (bkV b0 b1 b2) S rest) (ocL a0 a1 a2 pl0 pl1 pl2 sp0 sp1 sp2 c1 c3 c5 (kst b0 b1 b2 K m) t) := by
      rw [e1, e2, e3]
      unfold kst
      rw [herds_ne m hh]
      cases maj3 (inBk m b0) (inBk m b1) (inBk m b2) with
      | false => rfl
      | true =>
        cases hasN m K with
        | true => rfl
        | false => exact (bfi_true rfl).trans ((bfi_true rfl).trans e4)
    exact e5
theorem b5_at (L0 : LineOk b0 pl0 sp0) (L1 : LineOk b1 pl1 sp1) (L2 : LineOk b2 pl2 sp2) {m : Nat} (hm : m ∈ masks11) {K : List Nat} (hK : K.length ≤ 60000) (s : Sl) (h11 : s.x11 = some (hv m)) (t : Os) :
    ∃ (s' : Sl) (t' : Os), ∀ {R : Type} (kn kb : Lc → Os → Option R) (kr : V → Os → Option R),
      k_law_b5 (LC scr (bkV b0 b1 b2) s rest) (ocL a0 a1 a2 pl0 pl1 pl2 sp0 sp1 sp2 c1 c3 c5 K t) kn kb kr = kn (LC scr (bkV b0 b1 b2) s' rest) (ocL a0 a1 a2 pl0 pl1 pl2 sp0 sp1 sp2 c1 c3 c5 (kst b0 b1 b2 K m) t') := by
  obtain ⟨s2, e11, e17, _, e⟩ := s2_at (scr := scr) (bk := bkV b0 b1 b2) (rest := rest) (a0 := a0) (a1 := a1) (a2 := a2) (c1 := c1) (c3 := c3) (c5 := c5) (c7 := .list (nvs K)) (t := t)
    (s := { s with x17 := some (.ref (t.length + 8)) }) hm L0.pl21 L1.pl21 L2.pl21 L0.sp25 L1.sp25 L2.sp25 h11 rfl
  obtain ⟨x3, x4, x5, x6, x7, x8, x9, x10, x11, x12, x13, x14, x16, x17, x18, x19, x20⟩ := s2
  cases e11
  cases e17
  refine ⟨⟨x3, x4, x5, x6, x7, x8, x9, x10, some (hv m), x12, x13, x14, x16, some (.ref (t.length + 8)), x18, x19, some (nv m)⟩, t ++ [.list [.bool (inBk m b0), .bool (inBk m b1), .bool (inBk m b2)]], fun kn kb kr => ?_⟩
  rw [b5_split, b5_s1, e, L0.says m hm, L1.says m hm, L2.says m hm]
  refine (b5_s3 scr _ ⟨x3, x4, x5, x6, x7, x8, x9, x10, some (hv m), x12, x13, x14, x16, some (.ref (t.length + 8)), x18, x19, x20⟩ rest _ _ _ hm _).trans ?_
  refine (b5_s4 scr ⟨x3, x4, x5, x6, x7, x8, x9, x10, some (hv m), x12, x13, x14, x16, some (.ref (t.length + 8)), x18, x19, x20⟩ rest _ _ _ (q := t.length + 8) hm L0.b41 L1.b41 L2.b41 (oc_get ..)).trans ?_
  exact s5_at hm hK ⟨x3, x4, x5, x6, x7, x8, x9, x10, some (hv m), x12, x13, x14, x16, some (.ref (t.length + 8)), x18, x19, x20⟩ (oc_get ..) kn kb kr

/-! the loops -/
noncomputable def nx {α R : Type} (c : α → List α → Option R) : List α → Option R := lcase none c
noncomputable def vList {R : Type} (v : V) (k : List V → Option R) : Option R := vCase none no no no no1 k no no v
theorem vList_inv {R : Type} {v : V} {k : List V → Option R} {r : R} (h : vList v k = some r) : ∃ l, v = .list l ∧ k l = some r := by
  cases v <;> first | exact ⟨_, rfl, h⟩ | cases h
noncomputable def vBool {R : Type} (v : V) (k : Bool → Option R) : Option R := vCase none k no no no1 no no no v
theorem vBool_inv {R : Type} {v : V} {k : Bool → Option R} {r : R} (h : vBool v k = some r) : ∃ b, v = .bool b ∧ k b = some r := by
  cases v <;> first | exact ⟨_, rfl, h⟩ | cases h
noncomputable def oCase {α R : Type} (x : Option α) (k : α → Option R) : Option R := @Option.rec α (fun _ => Option R) none k x
theorem oCase_inv {α R : Type} {x : Option α} {k : α → Option R} {r : R} (h : oCase x k = some r) : ∃ a, x = some a ∧ k a = some r := by
  cases x with
  | none => cases h
  | some a => exact ⟨a, rfl, h⟩
noncomputable def mask (v : V) : Option Nat := vList v (nx fun a => nx fun b => nx fun c => nx fun d => lcase (vBool a fun a => vBool b fun b => vBool c fun c => vBool d fun d => some (bit a 1 + bit b 2 + bit c 4 + bit d 8)) fun _ _ => none)
/-- the sets of a list of pairs (zone, held) -/
noncomputable def masks (l : List V) : Option (List Nat) := @List.rec V (fun _ => Option (List Nat)) (some []) (fun v _ ih => vTuple v (nx fun z => nx fun h => lcase (vStr z fun _ => oCase (mask h) fun m => oCase ih fun ms => some (m :: ms)) fun _ _ => none)) l
theorem hv_bits : ∀ a b c d : Bool, V.list [.bool a, .bool b, .bool c, .bool d] = hv (bit a 1 + bit b 2 + bit c 4 + bit d 8) := by
  intro a b c d
  cases a <;> cases b <;> cases c <;> cases d <;> rfl
theorem mask_inv {h : V} {m : Nat} (e : mask h = some m) : h = hv m := by
  replace e := vList_inv e
  obtain ⟨l, rfl, e⟩ := e
  replace e := lcase_inv e
  obtain ⟨a, l, rfl, e⟩ := e
  replace e := lcase_inv e
  obtain ⟨b, l, rfl, e⟩ := e
  replace e := lcase_inv e
  obtain ⟨c, l, rfl, e⟩ := e
  replace e := lcase_inv e
  obtain ⟨d, l, rfl, e⟩ := e
  replace e := lend_inv e
  obtain ⟨rfl, e⟩ := e
  replace e := vBool_inv e
  obtain ⟨a, rfl, e⟩ := e
  replace e := vBool_inv e
  obtain ⟨b, rfl, e⟩ := e
  replace e := vBool_inv e
  obtain ⟨c, rfl, e⟩ := e
  replace e := vBool_inv e
  obtain ⟨d, rfl, e⟩ := e
  (first | exact nos e | cases e)
  exact hv_bits a b c d
theorem masks_inv {v : V} {cl : List V} {ms : List Nat} (e : masks (v :: cl) = some ms) : ∃ z m ns, v = .tuple [.str z, hv m] ∧ masks cl = some ns ∧ ms = m :: ns := by
  replace e := vTuple_inv (v := v) e
  obtain ⟨l, rfl, e⟩ := e
  replace e := lcase_inv e
  obtain ⟨z, l, rfl, e⟩ := e
  replace e := lcase_inv e
  obtain ⟨h, l, rfl, e⟩ := e
  replace e := lend_inv e
  obtain ⟨rfl, e⟩ := e
  replace e := vStr_inv e
  obtain ⟨z, rfl, e⟩ := e
  obtain ⟨m, hm, e⟩ := oCase_inv e
  obtain ⟨ns, hn, e⟩ := oCase_inv e
  exact ⟨z, m, ns, by rw [mask_inv hm], hn, (Option.some.inj e).symm⟩
noncomputable def forD {R : Type} (B : KS R) (kn : Lc → Os → Option R) (kr : V → Os → Option R) (cl : List V) : Lc → Os → Option R := fun l o =>
  goVals (X := Unit) cl (fun v l o _ nx => tgMany [10, 11] v l fun l => B l o (fun l o => nx l o ⟨⟩) kn kr) (fun l o _ => kn l o) l o ⟨⟩
theorem forD_nil {R : Type} (B : KS R) (kn : Lc → Os → Option R) (kr : V → Os → Option R) (l : Lc) (o : Os) : forD B kn kr [] l o = kn l o := rfl
theorem forD_cons {R : Type} (B : KS R) (kn : Lc → Os → Option R) (kr : V → Os → Option R) (z h : V) (cl : List V) (scr bk : V) (s : Sl) (rest : Lc) (o : Os) :
    forD B kn kr (.tuple [z, h] :: cl) (LC scr bk s rest) o = B (LC scr bk { s with x10 := some z, x11 := some h } rest) o (forD B kn kr cl) kn kr := by kernel_rfl
theorem b6_start {R : Type} (kn kb : Lc → Os → Option R) (kr : V → Os → Option R) (cl : List V) (scr bk : V) (s : Sl) (rest : Lc) (o : Os) :
    k_law_b6 (LC scr bk { s with x5 := some (.list cl) } rest) o kn kb kr = slen cl fun _ => forD k_law_b5 kn kr cl (LC scr bk { s with x5 := some (.list cl) } rest) o := by kernel_rfl
theorem forD_at (L0 : LineOk b0 pl0 sp0) (L1 : LineOk b1 pl1 sp1) (L2 : LineOk b2 pl2 sp2) : ∀ (cl : List V) (ms : List Nat), masks cl = some ms → (∀ m ∈ ms, m ∈ masks11) → ∀ (K : List Nat), K.length + ms.length ≤ 60000 → ∀ (s : Sl) (t : Os),
    ∃ (s' : Sl) (t' : Os), ∀ {R : Type} (kn : Lc → Os → Option R) (kr : V → Os → Option R),
      forD k_law_b5 kn kr cl (LC scr (bkV b0 b1 b2) s rest) (ocL a0 a1 a2 pl0 pl1 pl2 sp0 sp1 sp2 c1 c3 c5 K t) = kn (LC scr (bkV b0 b1 b2) s' rest) (ocL a0 a1 a2 pl0 pl1 pl2 sp0 sp1 sp2 c1 c3 c5 (ms.foldl (kst b0 b1 b2) K) t')
  | [], ms, e, _, K, _, s, t => by
    (first | exact nos e | cases e)
    exact ⟨s, t, fun kn kr => forD_nil ..⟩
  | v :: cl, ms, e, hm, K, hK, s, t => by
    replace e := masks_inv e
    obtain ⟨z, m, ns, rfl, e2, rfl⟩ := e
    have hl := kst_len b0 b1 b2 K m
    rw [List.length_cons] at hK
    obtain ⟨s1, t1, f1⟩ := b5_at (scr := scr) (rest := rest) (a0 := a0) (a1 := a1) (a2 := a2) (c1 := c1) (c3 := c3) (c5 := c5) L0 L1 L2 (hm m (.head _)) (K := K) (by omega) { s with x10 := some (.str z), x11 := some (hv m) } rfl t
    obtain ⟨s2, t2, f2⟩ := forD_at L0 L1 L2 cl ns e2 (fun m h => hm m (.tail _ h)) (kst b0 b1 b2 K m) (by omega) s1 t1
    refine ⟨s2, t2, fun kn kr => ?_⟩
    rw [forD_cons, f1, f2]
    rfl
theorem masks_length : ∀ (cl : List V) (ms : List Nat), masks cl = some ms → cl.length = ms.length
  | [], ms, e => by cases e; rfl
  | v :: cl, ms, e => by
    replace e := masks_inv e
    obtain ⟨z, m, ns, rfl, e2, rfl⟩ := e
    exact congrArg (· + 1) (masks_length cl ns e2)
theorem b6_at (L0 : LineOk b0 pl0 sp0) (L1 : LineOk b1 pl1 sp1) (L2 : LineOk b2 pl2 sp2) {cl : List V} {ms : List Nat} (e : masks cl = some ms) (hm : ∀ m ∈ ms, m ∈ masks11) (hl : ms.length ≤ 50) {K : List Nat} (hK : K.length ≤ 50000) (s : Sl) (h5 : s.x5 = some (.list cl)) (t : Os) :
    ∃ (s' : Sl) (t' : Os), ∀ {R : Type} (kn kb : Lc → Os → Option R) (kr : V → Os → Option R),
      k_law_b6 (LC scr (bkV b0 b1 b2) s rest) (ocL a0 a1 a2 pl0 pl1 pl2 sp0 sp1 sp2 c1 c3 c5 K t) kn kb kr = kn (LC scr (bkV b0 b1 b2) s' rest) (ocL a0 a1 a2 pl0 pl1 pl2 sp0 sp1 sp2 c1 c3 c5 (ms.foldl (kst b0 b1 b2) K) t') := by
  obtain ⟨s2, t2, f⟩ := forD_at (scr := scr) (rest := rest) (a0 := a0) (a1 := a1) (a2 := a2) (c1 := c1) (c3 := c3) (c5 := c5) L0 L1 L2 cl ms e hm K (by omega) s t
  refine ⟨s2, t2, fun kn kb kr => ?_⟩
  obtain ⟨x3, x4, x5, x6, x7, x8, x9, x10, x11, x12, x13, x14, x16, x17, x18, x19, x20⟩ := s
  (first | exact nos h5 | cases h5)
  refine (b6_start kn kb kr cl scr (bkV b0 b1 b2) ⟨x3, x4, x3, x6, x7, x8, x9, x10, x11, x12, x13, x14, x16, x17, x18, x19, x20⟩ rest _).trans ?_
  rw [slen_of (by rw [masks_length cl ms e]; omega)]
  exact f kn kr
noncomputable def forE {R : Type} (B : KS R) (kn : Lc → Os → Option R) (kr : V → Os → Option R) (n i : Nat) : Lc → Os → Option R := fun l o =>
  goRef (X := Unit) 0 n i (fun v l o _ nx => tgMany [5, 9, 16] v l fun l => B l o (fun l o => nx l o ⟨⟩) kn kr) (fun l o _ => kn l o) l o ⟨⟩
end
section
variable {R : Type} (B : KS R) (scr bk : V) (s : Sl) (rest : Lc) (a0 a1 a2 d0 d1 d2 e0 e1 e2 : V) (c1 c2 c3 c4 c5 c6 c7 : O) (t : Os) (kn kb : Lc → Os → Option R) (kr : V → Os → Option R)
noncomputable abbrev TT (a0 a1 a2 d0 d1 d2 e0 e1 e2 : V) : O := .list [.tuple [a0, d0, e0], .tuple [a1, d1, e1], .tuple [a2, d2, e2]]
theorem forE_start : k_law_s5 (LC scr bk s rest) (oc (TT a0 a1 a2 d0 d1 d2 e0 e1 e2) c1 c2 c3 c4 c5 c6 c7 t) kn kb kr = forE k_law_b6 kn kr 4 0 (LC scr bk s rest) (oc (TT a0 a1 a2 d0 d1 d2 e0 e1 e2) c1 c2 c3 c4 c5 c6 c7 t) := by kernel_rfl
theorem forE_0 : forE B kn kr 4 0 (LC scr bk s rest) (oc (TT a0 a1 a2 d0 d1 d2 e0 e1 e2) c1 c2 c3 c4 c5 c6 c7 t) = B (LC scr bk { s with x5 := some a0, x9 := some d0, x16 := some e0 } rest) (oc (TT a0 a1 a2 d0 d1 d2 e0 e1 e2) c1 c2 c3 c4 c5 c6 c7 t) (forE B kn kr 3 1) kn kr := by kernel_rfl
theorem forE_1 : forE B kn kr 3 1 (LC scr bk s rest) (oc (TT a0 a1 a2 d0 d1 d2 e0 e1 e2) c1 c2 c3 c4 c5 c6 c7 t) = B (LC scr bk { s with x5 := some a1, x9 := some d1, x16 := some e1 } rest) (oc (TT a0 a1 a2 d0 d1 d2 e0 e1 e2) c1 c2 c3 c4 c5 c6 c7 t) (forE B kn kr 2 2) kn kr := by kernel_rfl
theorem forE_2 : forE B kn kr 2 2 (LC scr bk s rest) (oc (TT a0 a1 a2 d0 d1 d2 e0 e1 e2) c1 c2 c3 c4 c5 c6 c7 t) = B (LC scr bk { s with x5 := some a2, x9 := some d2, x16 := some e2 } rest) (oc (TT a0 a1 a2 d0 d1 d2 e0 e1 e2) c1 c2 c3 c4 c5 c6 c7 t) (forE B kn kr 1 3) kn kr := by kernel_rfl
theorem forE_3 : forE B kn kr 1 3 (LC scr bk s rest) (oc (TT a0 a1 a2 d0 d1 d2 e0 e1 e2) c1 c2 c3 c4 c5 c6 c7 t) = kn (LC scr bk s rest) (oc (TT a0 a1 a2 d0 d1 d2 e0 e1 e2) c1 c2 c3 c4 c5 c6 c7 t) := by kernel_rfl
end
/-- what a line and its climbs are -/
structure TurnOk (b pl : List Nat) (sp : List (Nat × Nat)) (cl : List V) (ms : List Nat) : Prop extends LineOk b pl sp where
  masks_eq : masks cl = some ms
  masks_in : ∀ m ∈ ms, m ∈ masks11
  masks_len : ms.length ≤ 50
theorem foldl_kst_len (b0 b1 b2 : List Nat) : ∀ (ms K : List Nat), (ms.foldl (kst b0 b1 b2) K).length ≤ K.length + ms.length
  | [], K => Nat.le_refl _
  | m :: ms, K => by
    have h1 := foldl_kst_len b0 b1 b2 ms (kst b0 b1 b2 K m)
    have h2 := kst_len b0 b1 b2 K m
    rw [List.foldl_cons, List.length_cons]
    omega
theorem loop2 {scr : V} {rest : Lc} {c1 c3 c5 : O} {b0 b1 b2 pl0 pl1 pl2 : List Nat} {sp0 sp1 sp2 : List (Nat × Nat)} {cl0 cl1 cl2 : List V} {ms0 ms1 ms2 : List Nat}
    (L0 : TurnOk b0 pl0 sp0 cl0 ms0) (L1 : TurnOk b1 pl1 sp1 cl1 ms1) (L2 : TurnOk b2 pl2 sp2 cl2 ms2) (s : Sl) :
    ∃ (s' : Sl) (t' : Os), ∀ {R : Type} (kn kb : Lc → Os → Option R) (kr : V → Os → Option R),
      k_law_s5 (LC scr (bkV b0 b1 b2) s rest) (ocL (.list cl0) (.list cl1) (.list cl2) pl0 pl1 pl2 sp0 sp1 sp2 c1 c3 c5 [] []) kn kb kr =
        kn (LC scr (bkV b0 b1 b2) s' rest) (ocL (.list cl0) (.list cl1) (.list cl2) pl0 pl1 pl2 sp0 sp1 sp2 c1 c3 c5 ((ms0 ++ ms1 ++ ms2).foldl (kst b0 b1 b2) []) t') := by
  have h0 := foldl_kst_len b0 b1 b2 ms0 []
  have h1 := foldl_kst_len b0 b1 b2 ms1 (ms0.foldl (kst b0 b1 b2) [])
  have k0 := L0.masks_len
  have k1 := L1.masks_len
  rw [List.length_nil] at h0
  obtain ⟨s1, t1, f1⟩ := b6_at (scr := scr) (rest := rest) (a0 := .list cl0) (a1 := .list cl1) (a2 := .list cl2) (c1 := c1) (c3 := c3) (c5 := c5) L0.toLineOk L1.toLineOk L2.toLineOk L0.masks_eq L0.masks_in L0.masks_len (K := []) (by decide)
    { s with x5 := some (.list cl0), x9 := some (.ref 2), x16 := some (iv pl0) } rfl []
  obtain ⟨s2, t2, f2⟩ := b6_at (scr := scr) (rest := rest) (a0 := .list cl0) (a1 := .list cl1) (a2 := .list cl2) (c1 := c1) (c3 := c3) (c5 := c5) L0.toLineOk L1.toLineOk L2.toLineOk L1.masks_eq L1.masks_in L1.masks_len (K := ms0.foldl (kst b0 b1 b2) []) (by omega)
    { s1 with x5 := some (.list cl1), x9 := some (.ref 4), x16 := some (iv pl1) } rfl t1
  obtain ⟨s3, t3, f3⟩ := b6_at (scr := scr) (rest := rest) (a0 := .list cl0) (a1 := .list cl1) (a2 := .list cl2) (c1 := c1) (c3 := c3) (c5 := c5) L0.toLineOk L1.toLineOk L2.toLineOk L2.masks_eq L2.masks_in L2.masks_len (K := ms1.foldl (kst b0 b1 b2) (ms0.foldl (kst b0 b1 b2) [])) (by omega)
    { s2 with x5 := some (.list cl2), x9 := some (.ref 6), x16 := some (iv pl2) } rfl t2
  refine ⟨s3, t3, fun kn kb kr => ?_⟩
  rw [forE_start, forE_0, f1]
  refine (forE_1 ..).trans ?_
  rw [f2]
  refine (forE_2 ..).trans ?_
  rw [f3]
  refine (forE_3 ..).trans ?_
  rw [List.foldl_append, List.foldl_append]
end
end Mine
end
section
namespace Mine
open PyProof.Rows
noncomputable section
/-! loop 1 of law: the body for each turn and each book -/
structure Old where
  (g4 g5 g6 g7 g8 g9 g10 g11 g12 g13 g14 : Option V)
noncomputable def loc1 (scr bk t : V) (g : Old) (rest : Lc) : Lc := some scr :: some bk :: some (.ref 0) :: some t :: g.g4 :: g.g5 :: g.g6 :: g.g7 :: g.g8 :: g.g9 :: g.g10 :: g.g11 :: g.g12 :: g.g13 :: g.g14 :: rest
noncomputable def skip7 {R : Type} (k : Lc → Option R) : Lc → Option R := nx fun _ => nx fun _ => nx fun _ => nx fun _ => nx fun _ => nx fun _ => nx fun _ l => k l
theorem skip7_inv {R : Type} {k : Lc → Option R} {l : Lc} {r : R} (h : skip7 k l = some r) : ∃ a b c d e f g t, l = a :: b :: c :: d :: e :: f :: g :: t ∧ k t = some r := by
  replace h := lcase_inv h
  obtain ⟨a, l, rfl, h⟩ := h
  replace h := lcase_inv h
  obtain ⟨b, l, rfl, h⟩ := h
  replace h := lcase_inv h
  obtain ⟨c, l, rfl, h⟩ := h
  replace h := lcase_inv h
  obtain ⟨d, l, rfl, h⟩ := h
  replace h := lcase_inv h
  obtain ⟨e, l, rfl, h⟩ := h
  replace h := lcase_inv h
  obtain ⟨f, l, rfl, h⟩ := h
  replace h := lcase_inv h
  obtain ⟨g, l, rfl, h⟩ := h
  exact ⟨a, b, c, d, e, f, g, l, rfl, h⟩
noncomputable def nx4 {R : Type} (k : Option V → Option V → Option V → Option V → Lc → Option R) : Lc → Option R := nx fun a => nx fun b => nx fun c => nx fun d l => k a b c d l
theorem nx4_inv {R : Type} {k : Option V → Option V → Option V → Option V → Lc → Option R} {l : Lc} {r : R} (h : nx4 k l = some r) : ∃ a b c d t, l = a :: b :: c :: d :: t ∧ k a b c d t = some r := by
  replace h := lcase_inv h
  obtain ⟨a, l, rfl, h⟩ := h
  replace h := lcase_inv h
  obtain ⟨b, l, rfl, h⟩ := h
  replace h := lcase_inv h
  obtain ⟨c, l, rfl, h⟩ := h
  replace h := lcase_inv h
  obtain ⟨d, l, rfl, h⟩ := h
  exact ⟨a, b, c, d, l, rfl, h⟩
noncomputable def seeL (l : Lc) : Option (List (Option V) × Lc) := nx4 (fun a b c d => nx4 (fun _ _ _ _ => skip7 fun l => some ([a, b, c, d], l))) l
theorem seeL_inv {l : Lc} {a b c d : Option V} {rest : Lc} (h : seeL l = some ([a, b, c, d], rest)) : ∃ g : Old, l = a :: b :: c :: d :: g.g4 :: g.g5 :: g.g6 :: g.g7 :: g.g8 :: g.g9 :: g.g10 :: g.g11 :: g.g12 :: g.g13 :: g.g14 :: rest := by
  replace h := nx4_inv h
  obtain ⟨a', b', c', d', l, rfl, h⟩ := h
  replace h := nx4_inv h
  obtain ⟨e, f, g, i, l, rfl, h⟩ := h
  replace h := skip7_inv h
  obtain ⟨j, k, m, n, o, p, q, l, rfl, h⟩ := h
  obtain ⟨e1, e2⟩ := Prod.mk.inj (Option.some.inj h)
  obtain ⟨e3, e1⟩ := List.cons.inj e1
  obtain ⟨e4, e1⟩ := List.cons.inj e1
  obtain ⟨e5, e1⟩ := List.cons.inj e1
  exact ⟨⟨e, f, g, i, j, k, m, n, o, p, q⟩, by rw [e2, e3, e4, e5, (List.cons.inj e1).1]⟩
noncomputable def seeT (v : V) : Option (Option (List Nat) × V × List V) := vTuple v (nx fun x => nx fun k => nx fun p => lcase (vList x fun cl => vList p fun pl => some (masks cl, k, pl)) fun _ _ => none)
theorem seeT_inv {v : V} {ms : List Nat} {k : V} {pl : List V} (h : seeT v = some (some ms, k, pl)) : ∃ cl, v = .tuple [.list cl, k, .list pl] ∧ masks cl = some ms := by
  replace h := vTuple_inv h
  obtain ⟨l, rfl, h⟩ := h
  replace h := lcase_inv h
  obtain ⟨x, l, rfl, h⟩ := h
  replace h := lcase_inv h
  obtain ⟨k', l, rfl, h⟩ := h
  replace h := lcase_inv h
  obtain ⟨p, l, rfl, h⟩ := h
  replace h := lend_inv h
  obtain ⟨rfl, h⟩ := h
  replace h := vList_inv h
  obtain ⟨cl, rfl, h⟩ := h
  replace h := vList_inv h
  obtain ⟨pl', rfl, h⟩ := h
  simp only [Option.some.injEq, Prod.mk.injEq] at h
  obtain ⟨h1, rfl, rfl⟩ := h
  exact ⟨cl, rfl, h1⟩
noncomputable abbrev SeeO := Option (List V × Os × V × List V)
/-- the line and its spans, at the end of the store -/
noncomputable def seeE (k : List V → SeeO) : Os → SeeO := nx fun x => nx fun y => lcase (oList (fun _ => oList k y) x) fun _ _ => none
theorem seeE_inv {k : List V → SeeO} {o : Os} {r : List V × Os × V × List V} (h : seeE k o = some r) : ∃ ln sp, o = [.list ln, .list sp] ∧ k sp = some r := by
  replace h := lcase_inv h
  obtain ⟨x, o, rfl, h⟩ := h
  replace h := lcase_inv h
  obtain ⟨y, o, rfl, h⟩ := h
  replace h := lend_inv h
  obtain ⟨rfl, h⟩ := h
  replace h := oList_inv h
  obtain ⟨ln, rfl, h⟩ := h
  replace h := oList_inv h
  obtain ⟨sp, rfl, h⟩ := h
  exact ⟨ln, sp, rfl, h⟩
noncomputable def seeO0 : Os → SeeO := nx fun x => seeE fun sp => oList (nx fun T => lcase (some ([], [], T, sp)) fun _ _ => none) x
noncomputable def seeO1 : Os → SeeO := nx fun x => nx fun c1 => nx fun c2 => seeE fun sp => oList (nx fun a => nx fun T => lcase (some ([a], [c1, c2], T, sp)) fun _ _ => none) x
noncomputable def seeO2 : Os → SeeO := nx fun x => nx fun c1 => nx fun c2 => nx fun c3 => nx fun c4 => seeE fun sp => oList (nx fun a => nx fun b => nx fun T => lcase (some ([a, b], [c1, c2, c3, c4], T, sp)) fun _ _ => none) x
theorem seeO0_inv {o : Os} {T : V} {sp : List V} (h : seeO0 o = some ([], [], T, sp)) : ∃ ln, o = [.list [T], .list ln, .list sp] := by
  replace h := lcase_inv h
  obtain ⟨x, o, rfl, h⟩ := h
  replace h := seeE_inv h
  obtain ⟨ln, sp', rfl, h⟩ := h
  replace h := oList_inv h
  obtain ⟨l, rfl, h⟩ := h
  replace h := lcase_inv h
  obtain ⟨T', l, rfl, h⟩ := h
  obtain ⟨el, h⟩ := lend_inv h
  obtain ⟨_, h⟩ := Prod.mk.inj (Option.some.inj h)
  obtain ⟨_, h⟩ := Prod.mk.inj h
  obtain ⟨e1, e2⟩ := Prod.mk.inj h
  exact ⟨ln, by rw [el, e1, e2]⟩
theorem seeO1_inv {o : Os} {x : V} {c1 c2 : O} {T : V} {sp : List V} (h : seeO1 o = some ([x], [c1, c2], T, sp)) : ∃ ln, o = [.list [x, T], c1, c2, .list ln, .list sp] := by
  replace h := lcase_inv h
  obtain ⟨y, o, rfl, h⟩ := h
  replace h := lcase_inv h
  obtain ⟨d1, o, rfl, h⟩ := h
  replace h := lcase_inv h
  obtain ⟨d2, o, rfl, h⟩ := h
  replace h := seeE_inv h
  obtain ⟨ln, sp', rfl, h⟩ := h
  replace h := oList_inv h
  obtain ⟨l, rfl, h⟩ := h
  replace h := lcase_inv h
  obtain ⟨a, l, rfl, h⟩ := h
  replace h := lcase_inv h
  obtain ⟨T', l, rfl, h⟩ := h
  obtain ⟨el, h⟩ := lend_inv h
  obtain ⟨hx, h⟩ := Prod.mk.inj (Option.some.inj h)
  obtain ⟨hc, h⟩ := Prod.mk.inj h
  obtain ⟨e1, e2⟩ := Prod.mk.inj h
  obtain ⟨c1', hc⟩ := List.cons.inj hc
  exact ⟨ln, by rw [el, e1, e2, (List.cons.inj hx).1, c1', (List.cons.inj hc).1]⟩
theorem seeO2_inv {o : Os} {x y : V} {c1 c2 c3 c4 : O} {T : V} {sp : List V} (h : seeO2 o = some ([x, y], [c1, c2, c3, c4], T, sp)) : ∃ ln, o = [.list [x, y, T], c1, c2, c3, c4, .list ln, .list sp] := by
  replace h := lcase_inv h
  obtain ⟨z, o, rfl, h⟩ := h
  replace h := lcase_inv h
  obtain ⟨d1, o, rfl, h⟩ := h
  replace h := lcase_inv h
  obtain ⟨d2, o, rfl, h⟩ := h
  replace h := lcase_inv h
  obtain ⟨d3, o, rfl, h⟩ := h
  replace h := lcase_inv h
  obtain ⟨d4, o, rfl, h⟩ := h
  replace h := seeE_inv h
  obtain ⟨ln, sp', rfl, h⟩ := h
  replace h := oList_inv h
  obtain ⟨l, rfl, h⟩ := h
  replace h := lcase_inv h
  obtain ⟨a, l, rfl, h⟩ := h
  replace h := lcase_inv h
  obtain ⟨b, l, rfl, h⟩ := h
  replace h := lcase_inv h
  obtain ⟨T', l, rfl, h⟩ := h
  obtain ⟨el, h⟩ := lend_inv h
  obtain ⟨hx, h⟩ := Prod.mk.inj (Option.some.inj h)
  obtain ⟨hc, h⟩ := Prod.mk.inj h
  obtain ⟨e1, e2⟩ := Prod.mk.inj h
  obtain ⟨x1, hx⟩ := List.cons.inj hx
  obtain ⟨c1', hc⟩ := List.cons.inj hc
  obtain ⟨c2', hc⟩ := List.cons.inj hc
  obtain ⟨c3', hc⟩ := List.cons.inj hc
  exact ⟨ln, by rw [el, e1, e2, x1, (List.cons.inj hx).1, c1', c2', c3', (List.cons.inj hc).1]⟩
noncomputable abbrev See := (List (Option V) × Lc) × List V × Os × List V × Option (List Nat) × V × List V
noncomputable def see (f : Os → SeeO) (l : Lc) (o : Os) : Option See := oCase (seeL l) fun p => oCase (f o) fun q => oCase (seeT q.2.2.1) fun u => some (p, q.1, q.2.1, q.2.2.2, u)
theorem see_inv {f : Os → SeeO} {l : Lc} {o : Os} {a : List (Option V)} {r : Lc} {x : List V} {c : Os} {ms : List Nat} {k : V} {pl sp : List V} (h : see f l o = some ((a, r), x, c, sp, some ms, k, pl)) :
    seeL l = some (a, r) ∧ ∃ cl, masks cl = some ms ∧ f o = some (x, c, .tuple [.list cl, k, .list pl], sp) := by
  obtain ⟨p, h1, h⟩ := oCase_inv h
  obtain ⟨q, h2, h⟩ := oCase_inv h
  obtain ⟨u, h3, h⟩ := oCase_inv h
  obtain ⟨e1, h⟩ := Prod.mk.inj (Option.some.inj h)
  obtain ⟨e2, h⟩ := Prod.mk.inj h
  obtain ⟨e3, h⟩ := Prod.mk.inj h
  obtain ⟨e4, e5⟩ := Prod.mk.inj h
  rw [e5] at h3
  obtain ⟨cl, e6, e7⟩ := seeT_inv h3
  refine ⟨e1 ▸ h1, cl, e7, h2.trans ?_⟩
  rw [← e2, ← e3, ← e4, ← e6]
noncomputable def want (scr bk t : V) (rest : Lc) (x : List V) (c : Os) (k : Nat) (w : Tl) : Option See := some (([some scr, some bk, some (.ref 0), some t], rest), x, c, pvs w.2.1, some w.1, .ref k, nvs w.2.2)
theorem loop1_0 (scr B1 B2 : V) (g : Old) (rest : Lc) : books41.map (fun b => k_law_b3 (loc1 scr (.list [iv b, B1, B2]) (nv 0) g rest) [.list []] (see seeO0) no2 (fun _ _ => none)) =
    (books41.zip tab0).map (fun p => want scr (.list [iv p.1, B1, B2]) (nv 0) rest [] [] 2 p.2) := by kernel_rfl
end
end Mine
end
section
namespace Mine
open PyProof.Rows
theorem loop1_1 (scr B0 B2 x0 : V) (c1 c2 : O) (g : Old) (rest : Lc) : books41.map (fun b => k_law_b3 (loc1 scr (.list [B0, iv b, B2]) (nv 1) g rest) [.list [x0], c1, c2] (see seeO1) no2 (fun _ _ => none)) =
    (books41.zip tab1).map (fun p => want scr (.list [B0, iv p.1, B2]) (nv 1) rest [x0] [c1, c2] 4 p.2) := by kernel_rfl
end Mine
end
section
namespace Mine
open PyProof.Rows
theorem loop1_2 (scr B0 B1 x0 x1 : V) (c1 c2 c3 c4 : O) (g : Old) (rest : Lc) : books41.map (fun b => k_law_b3 (loc1 scr (.list [B0, B1, iv b]) (nv 2) g rest) [.list [x0, x1], c1, c2, c3, c4] (see seeO2) no2 (fun _ _ => none)) =
    (books41.zip tab2).map (fun p => want scr (.list [B0, B1, iv p.1]) (nv 2) rest [x0, x1] [c1, c2, c3, c4] 6 p.2) := by kernel_rfl
end Mine
end
section
namespace Mine
open PyProof.Rows
noncomputable def allEq (b ms : List Nat) : Bool := herds.all fun m => hasN m ms == hasN m b
/-- what is asked of a row of a table -/
noncomputable def chk (p : List Nat × Tl) : Bool := perms21.elem p.2.2.2 && spans25.elem p.2.2.1 && (masks11.all fun m => inl (str m p.2.2.2) p.2.2.1 == inBk m p.1) && (p.2.1.all fun m => masks11.elem m) && Nat.ble p.2.1.length 3 && allEq p.1 p.2.1
theorem chk0 : ((books41.zip tab0).all chk) = true := by decide +kernel
theorem chk1 : ((books41.zip tab1).all chk) = true := by decide +kernel
theorem chk2 : ((books41.zip tab2).all chk) = true := by decide +kernel
theorem fst0 : books41 = (books41.zip tab0).map Prod.fst := by decide +kernel
theorem fst1 : books41 = (books41.zip tab1).map Prod.fst := by decide +kernel
theorem fst2 : books41 = (books41.zip tab2).map Prod.fst := by decide +kernel
/-- what holds of a turn's row -/
structure RowOk (b : List Nat) (w : Tl) : Prop where
  pl : w.2.2 ∈ perms21
  sp : w.2.1 ∈ spans25
  says : ∀ m ∈ masks11, inl (str m w.2.2) w.2.1 = inBk m b
  ms : ∀ m ∈ w.1, m ∈ masks11
  len : w.1.length ≤ 3
  sets : ∀ m ∈ herds, hasN m w.1 = hasN m b
theorem chk_ok {p : List Nat × Tl} (h : chk p = true) : RowOk p.1 p.2 := by
  simp only [chk, allEq, Bool.and_eq_true, List.all_eq_true, List.elem_iff, beq_iff_eq] at h
  obtain ⟨⟨⟨⟨⟨h1, h2⟩, h3⟩, h4⟩, h5⟩, h6⟩ := h
  exact ⟨h1, h2, h3, h4, Nat.le_of_ble_eq_true h5, h6⟩
theorem row_of {α : Type} {tab : List Tl} (hf : books41 = (books41.zip tab).map Prod.fst) (hc : ((books41.zip tab).all chk) = true) {f : List Nat → α} {g : List Nat × Tl → α} (h : books41.map f = (books41.zip tab).map g) {b : List Nat} (hb : b ∈ books41) :
    ∃ w : Tl, RowOk b w ∧ f b = g (b, w) := by
  rw [hf] at hb
  obtain ⟨p, hp, rfl⟩ := List.mem_map.mp hb
  refine ⟨p.2, chk_ok (List.all_eq_true.mp hc p hp), ?_⟩
  have h2 : (books41.zip tab).map (fun p => f p.1) = (books41.zip tab).map g := by
    rw [← h]
    conv => rhs; rw [hf]
    rw [List.map_map]; rfl
  exact List.map_inj_left.mp h2 p hp
theorem RowOk.turn {b : List Nat} {w : Tl} (h : RowOk b w) (hb : b ∈ books41) {cl : List V} (e : masks cl = some w.1) : TurnOk b w.2.2 w.2.1 cl w.1 :=
  ⟨⟨hb, h.pl, h.sp, h.says⟩, e, h.ms, Nat.le_trans h.len (by decide)⟩
noncomputable abbrev oT (cl : List V) (k : Nat) (w : Tl) : V := .tuple [.list cl, .ref k, iv w.2.2]
theorem seen_run {n : Nat} (hn : 17 ≤ n) {l : Lc} {o : Os} {f : Os → Option (List V × Os × V × List V)} {scr bk t : V} {rest : Lc} {x : List V} {c : Os} {k : Nat} {w : Tl}
    (h : k_law_b3 l o (see f) no2 (fun _ _ => none) = want scr bk t rest x c k w) : ∃ (g : Old) (o' : Os) (cl : List V), evB (ev F n) i_law_b3 ⟨l, o⟩ = some (.next, ⟨loc1 scr bk t g rest, o'⟩) ∧ masks cl = some w.1 ∧ f o' = some (x, c, oT cl k w, pvs w.2.1) := by
  refine kg_law_b3 n hn l o _ _ _ _ h fun fl l' o' e q => ?_
  cases fl with
  | brk => cases q
  | ret v => cases q
  | next =>
    obtain ⟨h1, cl, h2, h3⟩ := see_inv q
    obtain ⟨g, rfl⟩ := seeL_inv h1
    exact ⟨g, o', cl, e, h2, h3⟩
theorem turn0 {n : Nat} (hn : 17 ≤ n) {b0 : List Nat} (h0 : b0 ∈ books41) (scr B1 B2 : V) (g : Old) (rest : Lc) : ∃ (w : Tl) (cl : List V) (g' : Old) (ln : List V), RowOk b0 w ∧ masks cl = some w.1 ∧
    evB (ev F n) i_law_b3 ⟨loc1 scr (.list [iv b0, B1, B2]) (nv 0) g rest, [.list []]⟩ = some (.next, ⟨loc1 scr (.list [iv b0, B1, B2]) (nv 0) g' rest, [.list [oT cl 2 w], .list ln, .list (pvs w.2.1)]⟩) := by
  obtain ⟨w, hw, e⟩ := row_of fst0 chk0 (loop1_0 scr B1 B2 g rest) h0
  obtain ⟨g', o', cl, e1, e2, e3⟩ := seen_run hn e
  obtain ⟨ln, rfl⟩ := seeO0_inv e3
  exact ⟨w, cl, g', ln, hw, e2, e1⟩
theorem turn1 {n : Nat} (hn : 17 ≤ n) {b1 : List Nat} (h1 : b1 ∈ books41) (scr B0 B2 x0 : V) (c1 c2 : O) (g : Old) (rest : Lc) : ∃ (w : Tl) (cl : List V) (g' : Old) (ln : List V), RowOk b1 w ∧ masks cl = some w.1 ∧
    evB (ev F n) i_law_b3 ⟨loc1 scr (.list [B0, iv b1, B2]) (nv 1) g rest, [.list [x0], c1, c2]⟩ = some (.next, ⟨loc1 scr (.list [B0, iv b1, B2]) (nv 1) g' rest, [.list [x0, oT cl 4 w], c1, c2, .list ln, .list (pvs w.2.1)]⟩) := by
  obtain ⟨w, hw, e⟩ := row_of fst1 chk1 (loop1_1 scr B0 B2 x0 c1 c2 g rest) h1
  obtain ⟨g', o', cl, e1, e2, e3⟩ := seen_run hn e
  obtain ⟨ln, rfl⟩ := seeO1_inv e3
  exact ⟨w, cl, g', ln, hw, e2, e1⟩
theorem turn2 {n : Nat} (hn : 17 ≤ n) {b2 : List Nat} (h2 : b2 ∈ books41) (scr B0 B1 x0 x1 : V) (c1 c2 c3 c4 : O) (g : Old) (rest : Lc) : ∃ (w : Tl) (cl : List V) (g' : Old) (ln : List V), RowOk b2 w ∧ masks cl = some w.1 ∧
    evB (ev F n) i_law_b3 ⟨loc1 scr (.list [B0, B1, iv b2]) (nv 2) g rest, [.list [x0, x1], c1, c2, c3, c4]⟩ = some (.next, ⟨loc1 scr (.list [B0, B1, iv b2]) (nv 2) g' rest, [.list [x0, x1, oT cl 6 w], c1, c2, c3, c4, .list ln, .list (pvs w.2.1)]⟩) := by
  obtain ⟨w, hw, e⟩ := row_of fst2 chk2 (loop1_2 scr B0 B1 x0 x1 c1 c2 c3 c4 g rest) h2
  obtain ⟨g', o', cl, e1, e2, e3⟩ := seen_run hn e
  obtain ⟨ln, rfl⟩ := seeO2_inv e3
  exact ⟨w, cl, g', ln, hw, e2, e1⟩
/-- law's loop 1, whole -/
theorem loop1 {n : Nat} (hn : 17 ≤ n) {b0 b1 b2 : List Nat} (h0 : b0 ∈ books41) (h1 : b1 ∈ books41) (h2 : b2 ∈ books41) (scr : V) (g : Old) (rest : Lc) :
    ∃ (w0 w1 w2 : Tl) (cl0 cl1 cl2 : List V) (g' : Old) (ln0 ln1 ln2 : List V), RowOk b0 w0 ∧ RowOk b1 w1 ∧ RowOk b2 w2 ∧ TurnOk b0 w0.2.2 w0.2.1 cl0 w0.1 ∧ TurnOk b1 w1.2.2 w1.2.1 cl1 w1.1 ∧ TurnOk b2 w2.2.2 w2.2.1 cl2 w2.1 ∧
      evS (ev F (n + 1)) i_law_s3 ⟨some scr :: some (bkV b0 b1 b2) :: some (.ref 0) :: none :: g.g4 :: g.g5 :: g.g6 :: g.g7 :: g.g8 :: g.g9 :: g.g10 :: g.g11 :: g.g12 :: g.g13 :: g.g14 :: rest, [.list []]⟩ =
        some (.next, ⟨loc1 scr (bkV b0 b1 b2) (nv 2) g' rest, [.list [oT cl0 2 w0, oT cl1 4 w1, oT cl2 6 w2], .list ln0, .list (pvs w0.2.1), .list ln1, .list (pvs w1.2.1), .list ln2, .list (pvs w2.2.1)]⟩) := by
  obtain ⟨w0, cl0, g0, ln0, r0, m0, e0⟩ := turn0 hn h0 scr (iv b1) (iv b2) g rest
  obtain ⟨w1, cl1, g1, ln1, r1, m1, e1⟩ := turn1 hn h1 scr (iv b0) (iv b2) (oT cl0 2 w0) (.list ln0) (.list (pvs w0.2.1)) g0 rest
  obtain ⟨w2, cl2, g2, ln2, r2, m2, e2⟩ := turn2 hn h2 scr (iv b0) (iv b1) (oT cl0 2 w0) (oT cl1 4 w1) (.list ln0) (.list (pvs w0.2.1)) (.list ln1) (.list (pvs w1.2.1)) g1 rest
  refine ⟨w0, w1, w2, cl0, cl1, cl2, g2, ln0, ln1, ln2, r0, r1, r2, r0.turn h0 m0, r1.turn h1 m1, r2.turn h2 m2, ?_⟩
  rw [law_s3]
  have hi : ∀ l o, iterEval (ev F (n + 1)) (.range [.const (.int 3)]) ⟨l, o⟩ = some (.vals [nv 0, nv 1, nv 2], ⟨l, o⟩) := fun l o => rfl
  show (match iterEval (ev F (n + 1)) (.range [.const (.int 3)]) _ with
    | some (it, σ1) => evFor (ev F (n + 1)) (.one 3) i_law_b3 [] it (it.turns σ1.objs) 0 σ1
    | none => none) = _
  rw [hi]
  show evFor (ev F (n + 1)) (.one 3) i_law_b3 [] (.vals [nv 0, nv 1, nv 2]) 4 0 _ = _
  have g0 : ∀ (i : Nat) (v : V) (m : Nat) (l : Lc) (o : Os) (l1 l' : Lc) (o' : Os), [nv 0, nv 1, nv 2][i]? = some v → l.set 3 (some v) = l1 → evB (ev F n) i_law_b3 ⟨l1, o⟩ = some (.next, ⟨l', o'⟩) →
      evFor (ev F (n + 1)) (.one 3) i_law_b3 [] (.vals [nv 0, nv 1, nv 2]) (m + 1) i ⟨l, o⟩ = evFor (ev F (n + 1)) (.one 3) i_law_b3 [] (.vals [nv 0, nv 1, nv 2]) m (i + 1) ⟨l', o'⟩ := by
    intro i v m l o l1 l' o' hv hs he
    subst hs
    have he : (ev F (n + 1)).b i_law_b3 ⟨l.set 3 (some v), o⟩ = some (.next, ⟨l', o'⟩) := he
    simp only [evFor, It.at, hv, setTgt, he]
  refine (g0 0 (nv 0) 3 _ _ _ _ _ rfl (by rfl) e0).trans ?_
  refine (g0 1 (nv 1) 2 _ _ _ _ _ rfl (by rfl) e1).trans ?_
  refine (g0 2 (nv 2) 1 _ _ _ _ _ rfl (by rfl) e2).trans ?_
  rfl
end Mine
end
section
namespace Mine
open PyProof.Rows
noncomputable section
/-! _law_books gives three of the 41 books -/
noncomputable def okTwo (d a : Nat) : Bool := !(Nat.beq a d) && (Nat.beq (Nat.land d a) 0 || Nat.beq (Nat.land d a) d || Nat.beq (Nat.land d a) a)
noncomputable def bstep (b : List Nat) (d : Nat) : List Nat := match hasN d herds && b.all (okTwo d) with
  | true => b ++ [d]
  | false => b
noncomputable def lb (scr x2 x3 x5 : Option V) (q : Nat) (d : V) (rest : Lc) : Lc := scr :: some (.ref 0) :: x2 :: x3 :: some (.ref 1) :: x5 :: some (.ref q) :: some d :: rest
noncomputable def d16 : List Nat := List.range 16
theorem closed : (books41.all fun b => d16.all fun d => books41.elem (bstep b d)) = true := by decide +kernel
theorem bstep_mem {b : List Nat} {d : Nat} (hb : b ∈ books41) (hd : d < 16) : bstep b d ∈ books41 :=
  List.elem_iff.mp (List.all_eq_true.mp (List.all_eq_true.mp closed b hb) d (List.mem_range.mpr hd))
section
variable {R : Type}
theorem b2_0 (scr x2 x3 x5 : Option V) (rest : Lc) (c0 c1 : O) (kn kb : Lc → Os → Option R) (kr : V → Os → Option R) :
    books41.map (fun b => d16.map fun d => k_books_b2 (lb scr x2 x3 x5 2 (nv d) rest) [c0, c1, .list (nvs b)] kn kb kr) = books41.map fun b => d16.map fun d => kn (lb scr x2 x3 x5 2 (nv d) rest) [c0, c1, .list (nvs (bstep b d))] := by kernel_rfl
theorem b2_1 (scr x2 x3 x5 : Option V) (rest : Lc) (c0 c1 c2 : O) (kn kb : Lc → Os → Option R) (kr : V → Os → Option R) :
    books41.map (fun b => d16.map fun d => k_books_b2 (lb scr x2 x3 x5 3 (nv d) rest) [c0, c1, c2, .list (nvs b)] kn kb kr) = books41.map fun b => d16.map fun d => kn (lb scr x2 x3 x5 3 (nv d) rest) [c0, c1, c2, .list (nvs (bstep b d))] := by kernel_rfl
theorem b2_2 (scr x2 x3 x5 : Option V) (rest : Lc) (c0 c1 c2 c3 : O) (kn kb : Lc → Os → Option R) (kr : V → Os → Option R) :
    books41.map (fun b => d16.map fun d => k_books_b2 (lb scr x2 x3 x5 4 (nv d) rest) [c0, c1, c2, c3, .list (nvs b)] kn kb kr) = books41.map fun b => d16.map fun d => kn (lb scr x2 x3 x5 4 (nv d) rest) [c0, c1, c2, c3, .list (nvs (bstep b d))] := by kernel_rfl
end
end
end Mine
end
section
namespace Mine
open PyProof.Rows
noncomputable section
theorem okIK_of {R : Type} {N : Nat} {r : Option R} (h : N ≤ 1000000000) : okIK (.ofNat N) r = r := onTrue_true (Nat.ble_eq_true_of_le (by omega))
noncomputable def fr (scr x2 x3 x5 x6 x7 : Option V) (rest : Lc) : Lc := scr :: some (.ref 0) :: x2 :: x3 :: some (.ref 1) :: x5 :: x6 :: x7 :: rest
noncomputable def forG {R : Type} (B : KS R) (kn : Lc → Os → Option R) (kr : V → Os → Option R) (vs : List V) : Lc → Os → Option R := fun l o =>
  goVals (X := Unit) vs (fun v l o _ nx => tgOne 7 v l fun l => B l o (fun l o => nx l o ⟨⟩) kn kr) (fun l o _ => kn l o) l o ⟨⟩
noncomputable def ds (N : Nat) : List V := [nv (N % 16), nv (N / 16 % 16), nv (N / 256 % 16)]
section
variable {R : Type} (scr x2 x3 x5 x6 x7 : Option V) (rest : Lc) (kn kb : Lc → Os → Option R) (kr : V → Os → Option R)
theorem b3_split (l : Lc) (o : Os) : k_books_b3 l o kn kb kr = k_books_b3_s1 l o (fun l o => k_books_b3_s2 l o (fun l o => k_books_b3_s3 l o kn kb kr) kb kr) kb kr := by kernel_rfl
theorem b3s1_0 (c0 c1 : O) : k_books_b3_s1 (fr scr x2 x3 x5 x6 x7 rest) [c0, c1] kn kb kr = kn (fr scr x2 x3 x5 (some (.ref 2)) x7 rest) [c0, c1, .list []] := by kernel_rfl
theorem b3s1_1 (c0 c1 c2 : O) : k_books_b3_s1 (fr scr x2 x3 x5 x6 x7 rest) [c0, c1, c2] kn kb kr = kn (fr scr x2 x3 x5 (some (.ref 3)) x7 rest) [c0, c1, c2, .list []] := by kernel_rfl
theorem b3s1_2 (c0 c1 c2 c3 : O) : k_books_b3_s1 (fr scr x2 x3 x5 x6 x7 rest) [c0, c1, c2, c3] kn kb kr = kn (fr scr x2 x3 x5 (some (.ref 4)) x7 rest) [c0, c1, c2, c3, .list []] := by kernel_rfl
theorem forG_start (B : KS R) (N : Nat) (o : Os) : kFor (tgOne 7) (itX (kList [(kBin modK (kSlot 5) (kConst (.int 16))), (kBin modK (kBin fdivK (kSlot 5) (kConst (.int 16))) (kConst (.int 16))), (kBin modK (kBin fdivK (kSlot 5) (kConst (.int 256))) (kConst (.int 16)))])) B kNil (fr scr x2 x3 (some (nv N)) x6 x7 rest) o kn kb kr =
    okIK (.ofNat N) (okIK (.ofNat N) (forG B kn kr (ds N) (fr scr x2 x3 (some (nv N)) x6 x7 rest) o)) := by kernel_rfl
theorem b3_0 (N : Nat) (c0 c1 : O) : k_books_b3 (fr scr x2 x3 (some (nv N)) x6 x7 rest) [c0, c1] kn kb kr =
    okIK (.ofNat N) (okIK (.ofNat N) (forG k_books_b2 (fun l o => k_books_b3_s3 l o kn kb kr) kr (ds N) (fr scr x2 x3 (some (nv N)) (some (.ref 2)) x7 rest) [c0, c1, .list []])) := by
  rw [b3_split, b3s1_0]; exact forG_start ..
theorem b3_1 (N : Nat) (c0 c1 c2 : O) : k_books_b3 (fr scr x2 x3 (some (nv N)) x6 x7 rest) [c0, c1, c2] kn kb kr =
    okIK (.ofNat N) (okIK (.ofNat N) (forG k_books_b2 (fun l o => k_books_b3_s3 l o kn kb kr) kr (ds N) (fr scr x2 x3 (some (nv N)) (some (.ref 3)) x7 rest) [c0, c1, c2, .list []])) := by
  rw [b3_split, b3s1_1]; exact forG_start ..
theorem b3_2 (N : Nat) (c0 c1 c2 c3 : O) : k_books_b3 (fr scr x2 x3 (some (nv N)) x6 x7 rest) [c0, c1, c2, c3] kn kb kr =
    okIK (.ofNat N) (okIK (.ofNat N) (forG k_books_b2 (fun l o => k_books_b3_s3 l o kn kb kr) kr (ds N) (fr scr x2 x3 (some (nv N)) (some (.ref 4)) x7 rest) [c0, c1, c2, c3, .list []])) := by
  rw [b3_split, b3s1_2]; exact forG_start ..
theorem forG_ds (B : KS R) (q N : Nat) (o : Os) : forG B kn kr (ds N) (fr scr x2 x3 x5 (some (.ref q)) x7 rest) o =
    B (lb scr x2 x3 x5 q (nv (N % 16)) rest) o (fun l o => tgOne 7 (nv (N / 16 % 16)) l fun l => B l o (fun l o => tgOne 7 (nv (N / 256 % 16)) l fun l => B l o kn kn kr) kn kr) kn kr := by kernel_rfl
theorem tg7 (q : Nat) (d e : V) (k : Lc → Option R) : tgOne 7 e (lb scr x2 x3 x5 q d rest) k = k (lb scr x2 x3 x5 q e rest) := rfl
theorem b3s3_0 (q : Nat) (d : V) (c0 c2 : O) : k_books_b3_s3 (lb scr x2 x3 x5 q d rest) [c0, .list [], c2] kn kb kr = kn (lb scr x2 x3 x5 q d rest) [c0, .list [.ref q], c2] := by kernel_rfl
theorem b3s3_1 (q : Nat) (d v : V) (c0 c2 c3 : O) : k_books_b3_s3 (lb scr x2 x3 x5 q d rest) [c0, .list [v], c2, c3] kn kb kr = kn (lb scr x2 x3 x5 q d rest) [c0, .list [v, .ref q], c2, c3] := by kernel_rfl
theorem b3s3_2 (q : Nat) (d v w : V) (c0 c2 c3 c4 : O) : k_books_b3_s3 (lb scr x2 x3 x5 q d rest) [c0, .list [v, w], c2, c3, c4] kn kb kr = kn (lb scr x2 x3 x5 q d rest) [c0, .list [v, w, .ref q], c2, c3, c4] := by kernel_rfl
end
noncomputable def bk3 (N : Nat) : List Nat := bstep (bstep (bstep [] (N % 16)) (N / 16 % 16)) (N / 256 % 16)
theorem nil41 : ([] : List Nat) ∈ books41 := .head _
theorem m16 (N : Nat) : N % 16 < 16 := Nat.mod_lt _ (by decide)
theorem mem16 (N : Nat) : N % 16 ∈ d16 := List.mem_range.mpr (m16 N)
theorem bk3_mem (N : Nat) : bk3 N ∈ books41 := bstep_mem (bstep_mem (bstep_mem nil41 (m16 _)) (m16 _)) (m16 _)
section
variable {R : Type} (scr x2 x3 x6 x7 : Option V) (rest : Lc) (kn kb : Lc → Os → Option R) (kr : V → Os → Option R) {N : Nat} (hN : N ≤ 1000000000)
include hN
theorem b3_at0 (c0 : O) : k_books_b3 (fr scr x2 x3 (some (nv N)) x6 x7 rest) [c0, .list []] kn kb kr =
    kn (lb scr x2 x3 (some (nv N)) 2 (nv (N / 256 % 16)) rest) [c0, .list [.ref 2], .list (nvs (bk3 N))] := by
  rw [b3_0, okIK_of hN, okIK_of hN, forG_ds]
  refine (map2_get (b2_0 scr x2 x3 (some (nv N)) rest c0 (.list []) _ _ _) nil41 (mem16 N)).trans ?_
  rw [tg7]
  refine (map2_get (b2_0 scr x2 x3 (some (nv N)) rest c0 (.list []) _ _ _) (bstep_mem nil41 (m16 N)) (mem16 (N / 16))).trans ?_
  rw [tg7]
  refine (map2_get (b2_0 scr x2 x3 (some (nv N)) rest c0 (.list []) _ _ _) (bstep_mem (bstep_mem nil41 (m16 N)) (m16 (N / 16))) (mem16 (N / 256))).trans ?_
  rw [b3s3_0]
  rfl
theorem b3_at1 (v : V) (c0 c2 : O) : k_books_b3 (fr scr x2 x3 (some (nv N)) x6 x7 rest) [c0, .list [v], c2] kn kb kr =
    kn (lb scr x2 x3 (some (nv N)) 3 (nv (N / 256 % 16)) rest) [c0, .list [v, .ref 3], c2, .list (nvs (bk3 N))] := by
  rw [b3_1, okIK_of hN, okIK_of hN, forG_ds]
  refine (map2_get (b2_1 scr x2 x3 (some (nv N)) rest c0 (.list [v]) c2 _ _ _) nil41 (mem16 N)).trans ?_
  rw [tg7]
  refine (map2_get (b2_1 scr x2 x3 (some (nv N)) rest c0 (.list [v]) c2 _ _ _) (bstep_mem nil41 (m16 N)) (mem16 (N / 16))).trans ?_
  rw [tg7]
  refine (map2_get (b2_1 scr x2 x3 (some (nv N)) rest c0 (.list [v]) c2 _ _ _) (bstep_mem (bstep_mem nil41 (m16 N)) (m16 (N / 16))) (mem16 (N / 256))).trans ?_
  rw [b3s3_1]
  rfl
theorem b3_at2 (v w : V) (c0 c2 c3 : O) : k_books_b3 (fr scr x2 x3 (some (nv N)) x6 x7 rest) [c0, .list [v, w], c2, c3] kn kb kr =
    kn (lb scr x2 x3 (some (nv N)) 4 (nv (N / 256 % 16)) rest) [c0, .list [v, w, .ref 4], c2, c3, .list (nvs (bk3 N))] := by
  rw [b3_2, okIK_of hN, okIK_of hN, forG_ds]
  refine (map2_get (b2_2 scr x2 x3 (some (nv N)) rest c0 (.list [v, w]) c2 c3 _ _ _) nil41 (mem16 N)).trans ?_
  rw [tg7]
  refine (map2_get (b2_2 scr x2 x3 (some (nv N)) rest c0 (.list [v, w]) c2 c3 _ _ _) (bstep_mem nil41 (m16 N)) (mem16 (N / 16))).trans ?_
  rw [tg7]
  refine (map2_get (b2_2 scr x2 x3 (some (nv N)) rest c0 (.list [v, w]) c2 c3 _ _ _) (bstep_mem (bstep_mem nil41 (m16 N)) (m16 (N / 16))) (mem16 (N / 256))).trans ?_
  rw [b3s3_2]
  rfl
end
/-! the loop over the three numbers -/
noncomputable def forH {R : Type} (B : KS R) (kn : Lc → Os → Option R) (kr : V → Os → Option R) (n i : Nat) : Lc → Os → Option R := fun l o =>
  goRef (X := Unit) 0 n i (fun v l o _ nx => tgOne 5 v l fun l => B l o (fun l o => nx l o ⟨⟩) kn kr) (fun l o _ => kn l o) l o ⟨⟩
section
variable {R : Type} (B : KS R) (scr x2 x3 x5 x6 x7 : Option V) (rest : Lc) (kn kb : Lc → Os → Option R) (kr : V → Os → Option R) (A0 A1 A2 : V) (t : Os)
theorem forH_start : k_books_s4 (fr scr x2 x3 x5 x6 x7 rest) (.list [A0, A1, A2] :: t) kn kb kr = forH k_books_b3 kn kr 4 0 (fr scr x2 x3 x5 x6 x7 rest) (.list [A0, A1, A2] :: t) := by kernel_rfl
theorem forH_0 : forH B kn kr 4 0 (fr scr x2 x3 x5 x6 x7 rest) (.list [A0, A1, A2] :: t) = B (fr scr x2 x3 (some A0) x6 x7 rest) (.list [A0, A1, A2] :: t) (forH B kn kr 3 1) kn kr := by kernel_rfl
theorem forH_1 : forH B kn kr 3 1 (fr scr x2 x3 x5 x6 x7 rest) (.list [A0, A1, A2] :: t) = B (fr scr x2 x3 (some A1) x6 x7 rest) (.list [A0, A1, A2] :: t) (forH B kn kr 2 2) kn kr := by kernel_rfl
theorem forH_2 : forH B kn kr 2 2 (fr scr x2 x3 x5 x6 x7 rest) (.list [A0, A1, A2] :: t) = B (fr scr x2 x3 (some A2) x6 x7 rest) (.list [A0, A1, A2] :: t) (forH B kn kr 1 3) kn kr := by kernel_rfl
theorem forH_3 : forH B kn kr 1 3 (fr scr x2 x3 x5 x6 x7 rest) (.list [A0, A1, A2] :: t) = kn (fr scr x2 x3 x5 x6 x7 rest) (.list [A0, A1, A2] :: t) := by kernel_rfl
theorem s4_at {a b c : Nat} (ha : a ≤ 1000000000) (hb : b ≤ 1000000000) (hc : c ≤ 1000000000) : k_books_s4 (fr scr x2 x3 x5 x6 x7 rest) [.list [nv a, nv b, nv c], .list []] kn kb kr =
    kn (lb scr x2 x3 (some (nv c)) 4 (nv (c / 256 % 16)) rest) [.list [nv a, nv b, nv c], .list [.ref 2, .ref 3, .ref 4], .list (nvs (bk3 a)), .list (nvs (bk3 b)), .list (nvs (bk3 c))] := by
  rw [forH_start, forH_0, b3_at0 _ _ _ _ _ _ _ _ _ ha]
  refine (forH_1 _ scr x2 x3 (some (nv a)) (some (.ref 2)) (some (nv (a / 256 % 16))) rest kn kr _ _ _ _).trans ?_
  rw [b3_at1 _ _ _ _ _ _ _ _ _ hb]
  refine (forH_2 _ scr x2 x3 (some (nv b)) (some (.ref 3)) (some (nv (b / 256 % 16))) rest kn kr _ _ _ _).trans ?_
  rw [b3_at2 _ _ _ _ _ _ _ _ _ hc]
  exact forH_3 k_books_b3 scr x2 x3 (some (nv c)) (some (.ref 4)) (some (nv (c / 256 % 16))) rest kn kr _ _ _ _
end
end
end Mine
end
section
namespace Mine
open PyProof.Rows
noncomputable section
theorem modInt_nat (x : Int) : ∃ r : Nat, r ≤ 1000000 ∧ modInt x 1000000 = .ofNat r := by
  rw [modInt_eq]
  have h : x.fmod (Int.ofNat 1000000) = x % 1000000 := Int.fmod_eq_emod_of_nonneg x (by decide)
  rw [h]
  have h1 : 0 ≤ x % 1000000 := Int.emod_nonneg x (by decide)
  have h2 : x % 1000000 < 1000000 := Int.emod_lt_of_pos x (by decide)
  exact ⟨(x % 1000000).toNat, by omega, by rw [Int.ofNat_eq_natCast]; omega⟩
/-- a number's entry of the list at 0, made greater -/
noncomputable def augAt {R : Type} (p : Nat) (y : Int) (l : Lc) (o : Os) (kn : Lc → Os → Option R) : Option R := idxK o (.ref 0) (nv p) fun old => vInt old fun _ => addK old (.int y) fun w => setK o 0 p w fun o => kn l o
noncomputable def forN {R : Type} (B : KS R) (kn : Lc → Os → Option R) (kr : V → Os → Option R) (i : Nat) (vs : List V) : Lc → Os → Option R := fun l o =>
  goEnum (X := Unit) i vs (fun v l o _ nx => tgMany [2, 3] v l fun l => B l o (fun l o => nx l o ⟨⟩) kn kr) (fun l o _ => kn l o) l o ⟨⟩
section
variable {R : Type} (scr x2 x3 : Option V) (rest : Lc) (kn kb : Lc → Os → Option R) (kr : V → Os → Option R)
theorem b1_eq (i : Nat) (x : Int) (o : Os) : k_books_b1 (scr :: some (.ref 0) :: some (nv i) :: some (.int x) :: rest) o kn kb kr =
    augAt (i % 3) (modInt x 1000000) (scr :: some (.ref 0) :: some (nv i) :: some (.int x) :: rest) o kn := by kernel_rfl
theorem aug_0 (a y : Nat) (B C : V) (t : Os) (l : Lc) : augAt 0 (.ofNat y) l (.list [nv a, B, C] :: t) kn = okIK (.ofNat a) (okIK (.ofNat y) (kn l (.list [nv (a + y), B, C] :: t))) := by kernel_rfl
theorem aug_1 (b y : Nat) (A C : V) (t : Os) (l : Lc) : augAt 1 (.ofNat y) l (.list [A, nv b, C] :: t) kn = okIK (.ofNat b) (okIK (.ofNat y) (kn l (.list [A, nv (b + y), C] :: t))) := by kernel_rfl
theorem aug_2 (c y : Nat) (A B : V) (t : Os) (l : Lc) : augAt 2 (.ofNat y) l (.list [A, B, nv c] :: t) kn = okIK (.ofNat c) (okIK (.ofNat y) (kn l (.list [A, B, nv (c + y)] :: t))) := by kernel_rfl
theorem forN_start (B : KS R) (xs : List V) (o : Os) : kFor (tgMany [2, 3]) (itEnum (kSliceHi (kSlot 0) (kConst (.int 24)))) B kNil (some (.list xs) :: some (.ref 0) :: x2 :: x3 :: rest) o kn kb kr =
    slen xs fun _ => takeK 24 xs fun ys => slen ys fun _ => forN B kn kr 0 ys (some (.list xs) :: some (.ref 0) :: x2 :: x3 :: rest) o := by kernel_rfl
theorem forN_cons (B : KS R) (i : Nat) (v : V) (vs : List V) (o : Os) : forN B kn kr i (v :: vs) (scr :: some (.ref 0) :: x2 :: x3 :: rest) o =
    B (scr :: some (.ref 0) :: some (nv i) :: some v :: rest) o (forN B kn kr (i + 1) vs) kn kr := by kernel_rfl
end
theorem b1_at {a b c : Nat} (ha : a ≤ 900000000) (hb : b ≤ 900000000) (hc : c ≤ 900000000) (i : Nat) (x : Int) : ∃ a' b' c' : Nat, a' ≤ a + 1000000 ∧ b' ≤ b + 1000000 ∧ c' ≤ c + 1000000 ∧ ∀ {R : Type} (scr : Option V) (rest : Lc) (t : Os) (kn kb : Lc → Os → Option R) (kr : V → Os → Option R),
    k_books_b1 (scr :: some (.ref 0) :: some (nv i) :: some (.int x) :: rest) (.list [nv a, nv b, nv c] :: t) kn kb kr = kn (scr :: some (.ref 0) :: some (nv i) :: some (.int x) :: rest) (.list [nv a', nv b', nv c'] :: t) := by
  obtain ⟨r, hr, e⟩ := modInt_nat x
  have h3 : i % 3 = 0 ∨ i % 3 = 1 ∨ i % 3 = 2 := by omega
  rcases h3 with h | h | h
  · refine ⟨a + r, b, c, by omega, by omega, by omega, fun scr rest t kn kb kr => ?_⟩
    rw [b1_eq, h, e, aug_0, okIK_of (by omega), okIK_of (by omega)]
  · refine ⟨a, b + r, c, by omega, by omega, by omega, fun scr rest t kn kb kr => ?_⟩
    rw [b1_eq, h, e, aug_1, okIK_of (by omega), okIK_of (by omega)]
  · refine ⟨a, b, c + r, by omega, by omega, by omega, fun scr rest t kn kb kr => ?_⟩
    rw [b1_eq, h, e, aug_2, okIK_of (by omega), okIK_of (by omega)]
theorem forN_at : ∀ (ys : List Int) (i a b c M : Nat) (x2 x3 : Option V), a ≤ M → b ≤ M → c ≤ M → M + 1000000 * ys.length ≤ 900000000 → ∃ (a' b' c' : Nat) (y2 y3 : Option V), a' ≤ 900000000 ∧ b' ≤ 900000000 ∧ c' ≤ 900000000 ∧
    ∀ {R : Type} (scr : Option V) (rest : Lc) (t : Os) (kn : Lc → Os → Option R) (kr : V → Os → Option R),
      forN k_books_b1 kn kr i (vints ys) (scr :: some (.ref 0) :: x2 :: x3 :: rest) (.list [nv a, nv b, nv c] :: t) = kn (scr :: some (.ref 0) :: y2 :: y3 :: rest) (.list [nv a', nv b', nv c'] :: t)
  | [], i, a, b, c, M, x2, x3, ha, hb, hc, hM => ⟨a, b, c, x2, x3, by omega, by omega, by omega, fun scr rest t kn kr => rfl⟩
  | y :: ys, i, a, b, c, M, x2, x3, ha, hb, hc, hM => by
    rw [List.length_cons] at hM
    obtain ⟨a1, b1, c1, h1, h2, h3, f⟩ := b1_at (a := a) (b := b) (c := c) (by omega) (by omega) (by omega) i y
    obtain ⟨a2, b2, c2, y2, y3, k1, k2, k3, g⟩ := forN_at ys (i + 1) a1 b1 c1 (M + 1000000) (some (nv i)) (some (.int y)) (by omega) (by omega) (by omega) (by omega)
    refine ⟨a2, b2, c2, y2, y3, k1, k2, k3, fun scr rest t kn kr => ?_⟩
    show forN k_books_b1 kn kr i (.int y :: vints ys) _ _ = _
    rw [forN_cons, f, g]
theorem vints_length : ∀ xs : List Int, (vints xs).length = xs.length
  | [] => rfl
  | _ :: xs => congrArg (· + 1) (vints_length xs)
theorem vints_take : ∀ (n : Nat) (xs : List Int), (vints xs).take n = vints (xs.take n)
  | 0, _ => rfl
  | _ + 1, [] => rfl
  | n + 1, x :: xs => congrArg (V.int x :: ·) (vints_take n xs)
section
variable {R : Type} (scr x2 x3 x5 x6 x7 : Option V) (rest : Lc) (kn kb : Lc → Os → Option R) (kr : V → Os → Option R)
theorem books_split (l : Lc) (o : Os) : k_books l o kn kb kr = k_books_s1 l o (fun l o => k_books_s2 l o (fun l o => k_books_s3 l o (fun l o => k_books_s4 l o (fun l o => k_books_s5 l o kn kb kr) kb kr) kb kr) kb kr) kb kr := by kernel_rfl
theorem books_s1 : k_books_s1 (scr :: List.replicate 9 none) [] kn kb kr = kn (scr :: some (.ref 0) :: none :: none :: List.replicate 6 none) [.list [nv 115, nv 195, nv 6]] := by kernel_rfl
theorem books_s3 (c0 : O) : k_books_s3 (scr :: some (.ref 0) :: x2 :: x3 :: List.replicate 6 none) [c0] kn kb kr = kn (fr scr x2 x3 none none none [none, none]) [c0, .list []] := by kernel_rfl
theorem books_s5 (q : Nat) (d : V) (o : Os) : k_books_s5 (lb scr x2 x3 x5 q d rest) o kn kb kr = kr (.ref 1) o := by kernel_rfl
end
theorem books_at (xs : List Int) (h : xs.length ≤ 63) : ∃ a b c : Nat, ∀ {R : Type} (kn kb : Lc → Os → Option R) (kr : V → Os → Option R),
    k_books (some (.list (vints xs)) :: List.replicate 9 none) [] kn kb kr = kr (.ref 1) [.list [nv a, nv b, nv c], .list [.ref 2, .ref 3, .ref 4], .list (nvs (bk3 a)), .list (nvs (bk3 b)), .list (nvs (bk3 c))] := by
  have hl : (xs.take 24).length ≤ 24 := by rw [List.length_take]; omega
  obtain ⟨a, b, c, y2, y3, ha, hb, hc, f⟩ := forN_at (xs.take 24) 0 115 195 6 1000 none none (by decide) (by decide) (by decide) (by omega)
  refine ⟨a, b, c, fun kn kb kr => ?_⟩
  rw [books_split, books_s1]
  refine (forN_start none none (List.replicate 6 none) _ kb kr k_books_b1 (vints xs) [.list [nv 115, nv 195, nv 6]]).trans ?_
  rw [slen_of (by rw [vints_length]; omega), takeK_eq, vints_take, slen_of (by rw [vints_length]; omega), f, books_s3, s4_at _ _ _ _ _ _ _ _ _ _ (by omega) (by omega) (by omega), books_s5]
/-! the call -/
theorem nrL_vints : ∀ xs : List Int, nrL (vints xs) = true
  | [] => rfl
  | x :: xs => by show an true (nrL (vints xs)) = true; rw [nrL_vints xs]; rfl
theorem noRefs_nvs (b : List Nat) : noRefs (nvs b) = true := by rw [← nrL_eq]; exact nrL_nvs b
theorem frz_three {n : Nat} {c0 : O} {b0 b1 b2 : List Nat} : frzRef [c0, .list [.ref 2, .ref 3, .ref 4], .list (nvs b0), .list (nvs b1), .list (nvs b2)] (n + 2) 1 = some (bkV b0 b1 b2) := by
  have e : ∀ (k : Nat) (b : List Nat), [c0, O.list [.ref 2, .ref 3, .ref 4], .list (nvs b0), .list (nvs b1), .list (nvs b2)][k]? = some (.list (nvs b)) → frzRef [c0, .list [.ref 2, .ref 3, .ref 4], .list (nvs b0), .list (nvs b1), .list (nvs b2)] (n + 1) k = some (iv b) := by
    intro k b h
    rw [frzRef, h]
    show (match frzL _ (nvs b) with | some ys => some (V.list ys) | none => none) = _
    rw [frz_noRefs (noRefs_nvs b)]
    rfl
  rw [frzRef]
  show (match frzL (frzRef _ (n + 1)) [.ref 2, .ref 3, .ref 4] with | some ys => some (V.list ys) | none => none) = _
  simp only [frzL, frzS]
  rw [e 2 b0 rfl, e 3 b1 rfl, e 4 b2 rfl]
theorem nrB_vints (xs : List Int) : nrL [V.list (vints xs)] = true := by
  rw [nrL_eq]
  show (noRefs (vints xs) && true) = true
  rw [← nrL_eq, nrL_vints]; rfl
theorem law_s1_at (xs : List Int) (h : xs.length ≤ 63) : ∃ b0 b1 b2, b0 ∈ books41 ∧ b1 ∈ books41 ∧ b2 ∈ books41 ∧ ∀ {R : Type} (x1 : Option V) (rest : Lc) (kn kb : Lc → Os → Option R) (kr : V → Os → Option R),
    k_law_s1 (some (.list (vints xs)) :: x1 :: rest) [] kn kb kr = kn (some (.list (vints xs)) :: some (bkV b0 b1 b2) :: rest) [] := by
  obtain ⟨a, b, c, f⟩ := books_at xs h
  refine ⟨bk3 a, bk3 b, bk3 c, bk3_mem a, bk3_mem b, bk3_mem c, fun x1 rest kn kb kr => ?_⟩
  refine (bfi_true (nrL_vints xs)).trans ?_
  refine (f _ _ _).trans ?_
  show frzSlow _ (.ref 1) _ = _
  unfold frzSlow
  have e : frz [.list [nv a, nv b, nv c], .list [.ref 2, .ref 3, .ref 4], .list (nvs (bk3 a)), .list (nvs (bk3 b)), .list (nvs (bk3 c))] (.ref 1) = some (bkV (bk3 a) (bk3 b) (bk3 c)) := frz_three (n := 4)
  rw [e]
  exact (onTrue_true (nrB_vints xs)).trans rfl
end
end Mine
end
section
namespace Mine
open PyProof.Rows
noncomputable section
/-! _law_nearest -/
noncomputable def pairsOf : List Nat → List (List Nat)
  | [] => []
  | h :: l => (l.filter fun o => Nat.beq (Nat.land h o) 0 || Nat.beq (Nat.land h o) h || Nat.beq (Nat.land h o) o).map (fun o => [h, o]) ++ pairsOf l
noncomputable def fams : List (List Nat) := [] :: (herds.map fun h => [h]) ++ pairsOf herds
noncomputable def ivs : List (List Nat) → List V
  | [] => []
  | f :: l => iv f :: ivs l
noncomputable def common : List Nat → List Nat → Nat
  | [], _ => 0
  | x :: f, b => match hasN x b with | true => common f b + 1 | false => common f b
/-- how many sets one has and the other has not -/
noncomputable def dst (f b : List Nat) : Nat := f.length + b.length - 2 * common f b
noncomputable def nfr (bk : Option V) (x3 x4 x5 x6 x7 x8 x9 : Option V) : Lc := bk :: some (.ref 0) :: some (.ref 1) :: x3 :: x4 :: x5 :: x6 :: x7 :: x8 :: x9 :: [none, none]
noncomputable def kD {R : Type} : KX R := (kBin subK (kBin addK (kLen (kSlot 7)) (kLen (kSlot 9))) (kBin mulK (kConst (.int 2)) (kLen (kComp (capNo (capNo (capAt 9 capNil))) (tgOne 1) (kSlot 1) (itX (kSlot 7)) (kTand (kCmp isinK (kSlot 1) (kSlot 2)) kTt)))))
section
variable {R : Type} (bk x3 x4 x5 x6 x7 x8 x9 : Option V) (kn kb : Lc → Os → Option R) (kr : V → Os → Option R)
theorem near_init : kSeq k_nearest_s1 (kSeq k_nearest_s2 (kSeq k_nearest_s3 (kSeq k_nearest_s4 k_nearest_s5))) (bk :: List.replicate 11 none) [] kn kb kr =
    kn (nfr bk (some (nv 9)) (some (nv 14)) (some (nv 99)) (some (.ref 2)) none none none) [.list (nvs herds), .list (ivs fams), .list []] := by kernel_rfl
theorem kD_all (o : Os) (k : V → Os → Option R) : fams.map (fun f => books41.map fun b => kD (nfr bk x3 x4 x5 x6 (some (iv f)) x8 (some (iv b))) o k) = fams.map fun f => books41.map fun b => k (nv (dst f b)) o := by kernel_rfl
theorem nb3_eq (n : Nat) (o : Os) : k_nearest_b3 (nfr bk x3 x4 x5 x6 x7 (some (nv n)) x9) o kn kb kr = kD (nfr bk x3 x4 x5 x6 x7 (some (nv n)) x9) o fun v o => addK (nv n) v fun w => kn (nfr bk x3 x4 x5 x6 x7 (some w) x9) o := by kernel_rfl
theorem addK_nv (n d : Nat) (k : V → Option R) : addK (nv n) (nv d) k = okIK (.ofNat n) (okIK (.ofNat d) (k (nv (n + d)))) := by kernel_rfl
theorem nb4_split (l : Lc) (o : Os) : k_nearest_b4 l o kn kb kr = k_nearest_b4_s1 l o (fun l o => k_nearest_b4_s2 l o (fun l o => k_nearest_b4_s3 l o kn kb kr) kb kr) kb kr := by kernel_rfl
theorem nb4_s1 (o : Os) : k_nearest_b4_s1 (nfr bk x3 x4 x5 x6 x7 x8 x9) o kn kb kr = kn (nfr bk x3 x4 x5 x6 x7 (some (nv 0)) x9) o := by kernel_rfl
theorem for9 (B : KS R) (B0 B1 B2 : V) (o : Os) : kFor (tgOne 9) (itX (kSlot 0)) B kNil (nfr (some (.list [B0, B1, B2])) x3 x4 x5 x6 x7 x8 x9) o kn kb kr =
    B (nfr (some (.list [B0, B1, B2])) x3 x4 x5 x6 x7 x8 (some B0)) o (fun l o => tgOne 9 B1 l fun l => B l o (fun l o => tgOne 9 B2 l fun l => B l o kn kn kr) kn kr) kn kr := by kernel_rfl
theorem tg9 (v : V) (k : Lc → Option R) : tgOne 9 v (nfr bk x3 x4 x5 x6 x7 x8 x9) k = k (nfr bk x3 x4 x5 x6 x7 x8 (some v)) := rfl
theorem nb4_s3 (D L : Nat) (q : Nat) (v : V) (o : Os) : k_nearest_b4_s3 (nfr bk x3 x4 (some (nv L)) (some (.ref q)) (some v) (some (nv D)) x9) o kn kb kr =
    bfi (Nat.blt D L) (lenK o 0 fun n => app o [.list [v]] fun o => kn (nfr bk x3 x4 (some (nv D)) (some (.ref n)) (some v) (some (nv D)) x9) o)
      (bfi (Nat.beq D L) (objK q o fun _ => objK q o fun xs => slen xs fun _ => app xs [v] fun ys => upd q o (.list ys) fun o => kn (nfr bk x3 x4 (some (nv L)) (some (.ref q)) (some v) (some (nv D)) x9) o) (kn (nfr bk x3 x4 (some (nv L)) (some (.ref q)) (some v) (some (nv D)) x9) o)) := by kernel_rfl
theorem near_split (l : Lc) (o : Os) : k_nearest l o kn kb kr = kSeq k_nearest_s1 (kSeq k_nearest_s2 (kSeq k_nearest_s3 (kSeq k_nearest_s4 k_nearest_s5))) l o (fun l o => k_nearest_s6 l o (fun l o => k_nearest_s7 l o kn kb kr) kb kr) kb kr := by kernel_rfl
theorem near_s7 (v : V) (o : Os) : k_nearest_s7 (nfr bk x3 x4 x5 (some v) x7 x8 x9) o kn kb kr = kr v o := by kernel_rfl
noncomputable def forR (B : KS R) (kn : Lc → Os → Option R) (kr : V → Os → Option R) (n i : Nat) : Lc → Os → Option R := fun l o =>
  goRef (X := Unit) 1 n i (fun v l o _ nx => tgOne 7 v l fun l => B l o (fun l o => nx l o ⟨⟩) kn kr) (fun l o _ => kn l o) l o ⟨⟩
theorem forR_start (B : KS R) (H : O) (fs : List V) (t : Os) : kFor (tgOne 7) (itX (kSlot 2)) B kNil (nfr bk x3 x4 x5 x6 x7 x8 x9) (H :: .list fs :: t) kn kb kr =
    slen fs fun n => forR B kn kr (Nat.succ n) 0 (nfr bk x3 x4 x5 x6 x7 x8 x9) (H :: .list fs :: t) := by kernel_rfl
theorem forR_step (B : KS R) (n i : Nat) (H : O) (fs : List V) (t : Os) : forR B kn kr (Nat.succ n) i (nfr bk x3 x4 x5 x6 x7 x8 x9) (H :: .list fs :: t) =
    nthD i fs (kn (nfr bk x3 x4 x5 x6 x7 x8 x9) (H :: .list fs :: t)) fun v => B (nfr bk x3 x4 x5 x6 (some v) x8 x9) (H :: .list fs :: t) (forR B kn kr n (Nat.succ i)) kn kr := by kernel_rfl
end
end
end Mine
end
section
namespace Mine
open PyProof.Rows
section
theorem dst_le_all : (fams.all fun f => books41.all fun b => Nat.ble (dst f b) 4) = true := by decide +kernel
theorem dst_le {f b : List Nat} (hf : f ∈ fams) (hb : b ∈ books41) : dst f b ≤ 4 := Nat.le_of_ble_eq_true (List.all_eq_true.mp (List.all_eq_true.mp dst_le_all f hf) b hb)
noncomputable def D3 (b0 b1 b2 f : List Nat) : Nat := dst f b0 + dst f b1 + dst f b2
noncomputable def nst (b0 b1 b2 : List Nat) (S : Nat × List (List Nat)) (f : List Nat) : Nat × List (List Nat) := match Nat.blt (D3 b0 b1 b2 f) S.1 with
  | true => (D3 b0 b1 b2 f, [f])
  | false => match Nat.beq (D3 b0 b1 b2 f) S.1 with
    | true => (S.1, S.2 ++ [f])
    | false => S
theorem ivs_app : ∀ (l m : List (List Nat)), ivs (l ++ m) = ivs l ++ ivs m
  | [], _ => rfl
  | n :: l, m => congrArg (iv n :: ·) (ivs_app l m)
theorem ivs_length : ∀ l : List (List Nat), (ivs l).length = l.length
  | [] => rfl
  | _ :: l => congrArg (· + 1) (ivs_length l)
theorem ivs_get : ∀ (l : List (List Nat)) (i : Nat), (ivs l)[i]? = l[i]?.map iv
  | [], _ => rfl
  | f :: l, 0 => rfl
  | f :: l, i + 1 => by simpa [ivs] using ivs_get l i
theorem kD_at {R : Type} {f b : List Nat} (hf : f ∈ fams) (hb : b ∈ books41) (bk x3 x4 x5 x6 x8 : Option V) (o : Os) (k : V → Os → Option R) : kD (nfr bk x3 x4 x5 x6 (some (iv f)) x8 (some (iv b))) o k = k (nv (dst f b)) o := map2_get (kD_all bk x3 x4 x5 x6 x8 o k) hf hb
theorem nb3_at {R : Type} {f b : List Nat} (hf : f ∈ fams) (hb : b ∈ books41) {n : Nat} (hn : n ≤ 1000) (bk x3 x4 x5 x6 : Option V) (o : Os) (kn kb : Lc → Os → Option R) (kr : V → Os → Option R) :
    k_nearest_b3 (nfr bk x3 x4 x5 x6 (some (iv f)) (some (nv n)) (some (iv b))) o kn kb kr = kn (nfr bk x3 x4 x5 x6 (some (iv f)) (some (nv (n + dst f b))) (some (iv b))) o := by
  have := dst_le hf hb
  rw [nb3_eq, kD_at hf hb, addK_nv, okIK_of (by omega), okIK_of (by omega)]
variable {b0 b1 b2 : List Nat} (h0 : b0 ∈ books41) (h1 : b1 ∈ books41) (h2 : b2 ∈ books41)
include h0 h1 h2
theorem nb4_at {f : List Nat} (hf : f ∈ fams) (L : Nat) {cur : List (List Nat)} (hc : cur.length ≤ 1000) (olds : Os) (x8 x9 : Option V) : ∃ (olds' : Os) (y8 y9 : Option V), ∀ {R : Type} (x3 x4 : Option V) (c0 c1 : O) (kn kb : Lc → Os → Option R) (kr : V → Os → Option R),
    k_nearest_b4 (nfr (some (bkV b0 b1 b2)) x3 x4 (some (nv L)) (some (.ref (olds.length + 2))) (some (iv f)) x8 x9) (c0 :: c1 :: (olds ++ [.list (ivs cur)])) kn kb kr =
      kn (nfr (some (bkV b0 b1 b2)) x3 x4 (some (nv (nst b0 b1 b2 (L, cur) f).1)) (some (.ref (olds'.length + 2))) (some (iv f)) y8 y9) (c0 :: c1 :: (olds' ++ [.list (ivs (nst b0 b1 b2 (L, cur) f).2)])) := by
  have e0 := dst_le hf h0
  have e1 := dst_le hf h1
  have e2 := dst_le hf h2
  have key : ∀ {R : Type} (x3 x4 : Option V) (c0 c1 : O) (kn kb : Lc → Os → Option R) (kr : V → Os → Option R), k_nearest_b4 (nfr (some (bkV b0 b1 b2)) x3 x4 (some (nv L)) (some (.ref (olds.length + 2))) (some (iv f)) x8 x9) (c0 :: c1 :: (olds ++ [.list (ivs cur)])) kn kb kr =
      k_nearest_b4_s3 (nfr (some (bkV b0 b1 b2)) x3 x4 (some (nv L)) (some (.ref (olds.length + 2))) (some (iv f)) (some (nv (D3 b0 b1 b2 f))) (some (iv b2))) (c0 :: c1 :: (olds ++ [.list (ivs cur)])) kn kb kr := by
    intro R x3 x4 c0 c1 kn kb kr
    rw [nb4_split, nb4_s1]
    refine (for9 x3 x4 (some (nv L)) (some (.ref (olds.length + 2))) (some (iv f)) (some (nv 0)) x9 _ kb kr k_nearest_b3 (iv b0) (iv b1) (iv b2) _).trans ?_
    rw [nb3_at hf h0 (by omega), tg9, nb3_at hf h1 (by omega), tg9, nb3_at hf h2 (by omega)]
    unfold D3
    rw [Nat.zero_add]
  unfold nst
  cases hb : Nat.blt (D3 b0 b1 b2 f) L with
  | true =>
    refine ⟨olds ++ [.list (ivs cur)], some (nv (D3 b0 b1 b2 f)), some (iv b2), fun x3 x4 c0 c1 kn kb kr => ?_⟩
    rw [key, nb4_s3, hb]
    refine (bfi_true rfl).trans ?_
    rw [lenK_eq, app_eq, Nat.zero_add]
    simp [ivs]
  | false =>
    cases he : Nat.beq (D3 b0 b1 b2 f) L with
    | true =>
      refine ⟨olds, some (nv (D3 b0 b1 b2 f)), some (iv b2), fun x3 x4 c0 c1 kn kb kr => ?_⟩
      have hg : (c0 :: c1 :: (olds ++ [.list (ivs cur)]))[olds.length + 2]? = some (.list (ivs cur)) := by
        show (olds ++ [O.list (ivs cur)])[olds.length]? = _
        simp
      have hs : (c0 :: c1 :: (olds ++ [.list (ivs cur)])).set (olds.length + 2) (.list (ivs cur ++ [iv f])) = c0 :: c1 :: (olds ++ [.list (ivs (cur ++ [f]))]) := by
        show c0 :: c1 :: (olds ++ [O.list (ivs cur)]).set olds.length (.list (ivs cur ++ [iv f])) = _
        rw [ivs_app]
        simp [ivs]
      rw [key, nb4_s3, hb, he]
      rw [objK_of hg, objK_of hg, slen_of (by rw [ivs_length]; omega), app_eq, upd_of (by simp), hs]
      rfl
    | false =>
      refine ⟨olds, some (nv (D3 b0 b1 b2 f)), some (iv b2), fun x3 x4 c0 c1 kn kb kr => ?_⟩
      rw [key, nb4_s3, hb, he]
      rfl
theorem nst_len (L : Nat) (cur : List (List Nat)) (f : List Nat) : (nst b0 b1 b2 (L, cur) f).2.length ≤ cur.length + 1 := by
  unfold nst
  split
  · simp
  · split
    · simp
    · simp
theorem forR_at : ∀ (gs : List (List Nat)) (i : Nat), fams.drop i = gs → ∀ (L : Nat) (cur : List (List Nat)) (olds : Os) (x7 x8 x9 : Option V), cur.length + gs.length ≤ 1000 → ∃ (olds' : Os) (y7 y8 y9 : Option V), ∀ {R : Type} (x3 x4 : Option V) (c0 : O) (kn : Lc → Os → Option R) (kr : V → Os → Option R),
    forR k_nearest_b4 kn kr (gs.length + 1) i (nfr (some (bkV b0 b1 b2)) x3 x4 (some (nv L)) (some (.ref (olds.length + 2))) x7 x8 x9) (c0 :: .list (ivs fams) :: (olds ++ [.list (ivs cur)])) =
      kn (nfr (some (bkV b0 b1 b2)) x3 x4 (some (nv (gs.foldl (nst b0 b1 b2) (L, cur)).1)) (some (.ref (olds'.length + 2))) y7 y8 y9) (c0 :: .list (ivs fams) :: (olds' ++ [.list (ivs (gs.foldl (nst b0 b1 b2) (L, cur)).2)]))
  | [], i, hd, L, cur, olds, x7, x8, x9, hl => by
    refine ⟨olds, x7, x8, x9, fun x3 x4 c0 kn kr => ?_⟩
    have hi : fams[i]? = none := List.getElem?_eq_none (List.drop_eq_nil_iff.mp hd)
    refine (forR_step _ x3 x4 _ _ x7 x8 x9 kn kr k_nearest_b4 0 i c0 (ivs fams) _).trans ?_
    rw [nthD_eq, ivs_get, hi]
    rfl
  | f :: gs, i, hd, L, cur, olds, x7, x8, x9, hl => by
    rw [List.length_cons] at hl
    have hi : fams[i]? = some f := by
      have := congrArg (·[0]?) hd
      simpa [List.getElem?_drop] using this
    have hd2 : fams.drop (i + 1) = gs := by
      have := congrArg (List.drop 1) hd
      simpa [List.drop_drop] using this
    have hf : f ∈ fams := List.mem_of_getElem? hi
    obtain ⟨o1, y8, y9, e1⟩ := nb4_at h0 h1 h2 hf L (cur := cur) (by omega) olds x8 x9
    have hn := nst_len h0 h1 h2 L cur f
    obtain ⟨o2, z7, z8, z9, e2⟩ := forR_at gs (i + 1) hd2 (nst b0 b1 b2 (L, cur) f).1 (nst b0 b1 b2 (L, cur) f).2 o1 (some (iv f)) y8 y9 (by omega)
    refine ⟨o2, z7, z8, z9, fun x3 x4 c0 kn kr => ?_⟩
    refine (forR_step _ x3 x4 _ _ x7 x8 x9 kn kr k_nearest_b4 (gs.length + 1) i c0 (ivs fams) _).trans ?_
    rw [nthD_eq, ivs_get, hi]
    refine (e1 x3 x4 c0 (.list (ivs fams)) _ _ _).trans ?_
    exact e2 x3 x4 c0 kn kr
theorem near_at : ∃ olds : Os, ∀ {R : Type} (kn kb : Lc → Os → Option R) (kr : V → Os → Option R),
    k_nearest (some (bkV b0 b1 b2) :: List.replicate 11 none) [] kn kb kr = kr (.ref (olds.length + 2)) (.list (nvs herds) :: .list (ivs fams) :: (olds ++ [.list (ivs (fams.foldl (nst b0 b1 b2) (99, [])).2)])) := by
  obtain ⟨olds, y7, y8, y9, e⟩ := forR_at h0 h1 h2 fams 0 rfl 99 [] [] none none none (by decide)
  refine ⟨olds, fun kn kb kr => ?_⟩
  rw [near_split, near_init]
  refine (forR_start (some (bkV b0 b1 b2)) (some (nv 9)) (some (nv 14)) (some (nv 99)) (some (.ref 2)) none none none _ kb kr k_nearest_b4 (.list (nvs herds)) (ivs fams) [.list []]).trans ?_
  rw [slen_of (by rw [ivs_length]; decide), ivs_length]
  refine (e _ _ _ _ _).trans ?_
  rw [near_s7]
end
end Mine
end
section
namespace Mine
section
/-! the plain law: the sets that two books share are a book, and the only one that is nearest -/
theorem hasN_iff {a : Nat} : ∀ {l : List Nat}, hasN a l = true ↔ a ∈ l
  | [] => by simp [hasN]
  | p :: l => by
    unfold hasN
    rw [Bool.or_eq_true, List.mem_cons, hasN_iff (l := l)]
    constructor
    · rintro (h | h)
      · exact .inl (Nat.eq_of_beq_eq_true h).symm
      · exact .inr h
    · rintro (rfl | h)
      · exact .inl (Nat.beq_refl _)
      · exact .inr h
noncomputable def mj (b0 b1 b2 : List Nat) (m : Nat) : Bool := maj3 (hasN m b0) (hasN m b1) (hasN m b2)
noncomputable def Mj (b0 b1 b2 : List Nat) : List Nat := herds.filter (mj b0 b1 b2)

/-! it is a book -/
noncomputable def pick : List Nat → List Bool → List Nat
  | h :: hs, true :: ps => h :: pick hs ps
  | _ :: hs, false :: ps => pick hs ps
  | _, _ => []
theorem pick_filter (p : Nat → Bool) : ∀ l : List Nat, l.filter p = pick l (l.map p)
  | [] => rfl
  | h :: l => by
    rw [List.filter_cons, List.map_cons]
    cases e : p h with
    | true => simp [pick, pick_filter p l]
    | false => simp [pick, pick_filter p l]
noncomputable def allB : Nat → (List Bool → Bool) → Bool
  | 0, f => f []
  | n + 1, f => allB n (fun l => f (true :: l)) && allB n (fun l => f (false :: l))
theorem allB_spec : ∀ (n : Nat) (f : List Bool → Bool), allB n f = true → ∀ l : List Bool, l.length = n → f l = true
  | 0, f, h, [], _ => h
  | n + 1, f, h, b :: l, e => by
    rw [allB, Bool.and_eq_true] at h
    have e2 : l.length = n := by simpa using e
    clear e
    cases b with
    | true => exact allB_spec n _ h.1 l e2
    | false => exact allB_spec n _ h.2 l e2
noncomputable def okPair (x y : Nat) : Bool := Nat.beq (Nat.land x y) 0 || Nat.beq (Nat.land x y) x || Nat.beq (Nat.land x y) y
noncomputable def okAll : List Nat → Bool
  | [] => true
  | x :: l => l.all (okPair x) && okAll l
theorem pick_fams : allB 10 (fun ps => !okAll (pick herds ps) || fams.elem (pick herds ps)) = true := by decide +kernel
theorem okAll_of : ∀ {l : List Nat}, l.Nodup → (∀ x ∈ l, ∀ y ∈ l, x ≠ y → okPair x y = true) → okAll l = true
  | [], _, _ => rfl
  | x :: l, hn, h => by
    rw [List.nodup_cons] at hn
    rw [okAll, Bool.and_eq_true, List.all_eq_true]
    exact ⟨fun y hy => h x (.head _) y (.tail _ hy) (fun e => hn.1 (e ▸ hy)), okAll_of hn.2 fun a ha b hb => h a (.tail _ ha) b (.tail _ hb)⟩
theorem books_ok : (books41.all fun b => b.all fun x => b.all fun y => Nat.beq x y || okPair x y) = true := by decide +kernel
theorem maj_two : ∀ a b c d e f : Bool, maj3 a b c = true → maj3 d e f = true → (a = true ∧ d = true) ∨ (b = true ∧ e = true) ∨ (c = true ∧ f = true) := by decide
theorem pair_of {b : List Nat} (hb : b ∈ books41) {x y : Nat} (hx : hasN x b = true) (hy : hasN y b = true) (hne : x ≠ y) : okPair x y = true := by
  have h := List.all_eq_true.mp (List.all_eq_true.mp (List.all_eq_true.mp books_ok b hb) x (hasN_iff.mp hx)) y (hasN_iff.mp hy)
  rw [Bool.or_eq_true] at h
  exact h.resolve_left fun e => hne (Nat.eq_of_beq_eq_true e)
theorem herds_nodup : herds.Nodup := by decide
theorem Mj_fams {b0 b1 b2 : List Nat} (h0 : b0 ∈ books41) (h1 : b1 ∈ books41) (h2 : b2 ∈ books41) : Mj b0 b1 b2 ∈ fams := by
  have hp := allB_spec 10 _ pick_fams (herds.map (mj b0 b1 b2)) rfl
  rw [← pick_filter, Bool.or_eq_true] at hp
  have hk : okAll (herds.filter (mj b0 b1 b2)) = true := by
    refine okAll_of (herds_nodup.filter _) fun x hx y hy hne => ?_
    have mx := (List.mem_filter.mp hx).2
    have my := (List.mem_filter.mp hy).2
    rcases maj_two _ _ _ _ _ _ mx my with h | h | h
    · exact pair_of h0 h.1 h.2 hne
    · exact pair_of h1 h.1 h.2 hne
    · exact pair_of h2 h.1 h.2 hne
  rcases hp with h | h
  · rw [hk] at h; cases h
  · exact List.elem_iff.mp h

/-! it is the only nearest -/
noncomputable def xr (a b : Bool) : Nat := match a, b with
  | true, true => 0
  | false, false => 0
  | _, _ => 1
noncomputable def sumH (f : Nat → Nat) : List Nat → Nat
  | [] => 0
  | h :: l => f h + sumH f l
theorem dst_sum : (fams.all fun f => books41.all fun b => Nat.beq (dst f b) (sumH (fun h => xr (hasN h f) (hasN h b)) herds)) = true := by decide +kernel
theorem dst_eq {f b : List Nat} (hf : f ∈ fams) (hb : b ∈ books41) : dst f b = sumH (fun h => xr (hasN h f) (hasN h b)) herds :=
  Nat.eq_of_beq_eq_true (List.all_eq_true.mp (List.all_eq_true.mp dst_sum f hf) b hb)
theorem sumH_add (f g : Nat → Nat) : ∀ l : List Nat, sumH f l + sumH g l = sumH (fun h => f h + g h) l
  | [] => rfl
  | h :: l => by
    have := sumH_add f g l
    simp only [sumH]
    omega
theorem sumH_le {f g : Nat → Nat} : ∀ {l : List Nat}, (∀ h ∈ l, f h ≤ g h) → sumH f l ≤ sumH g l
  | [], _ => Nat.le_refl _
  | h :: l, p => by
    have h1 := p h (.head _)
    have h2 := sumH_le (l := l) fun x hx => p x (.tail _ hx)
    simp only [sumH]
    omega
theorem sumH_lt {f g : Nat → Nat} : ∀ {l : List Nat}, (∀ h ∈ l, f h ≤ g h) → (∃ h ∈ l, f h < g h) → sumH f l < sumH g l
  | [], _, ⟨_, hx, _⟩ => by cases hx
  | h :: l, p, ⟨x, hx, hlt⟩ => by
    have h1 := p h (.head _)
    have h2 := sumH_le (l := l) fun x hx => p x (.tail _ hx)
    simp only [sumH]
    rcases List.mem_cons.mp hx with rfl | hx
    · omega
    · have := sumH_lt (l := l) (fun x hx => p x (.tail _ hx)) ⟨x, hx, hlt⟩
      omega
noncomputable def cost (a p q r : Bool) : Nat := xr a p + xr a q + xr a r
theorem cost_lt : ∀ a p q r : Bool, a ≠ maj3 p q r → cost (maj3 p q r) p q r < cost a p q r := by decide
theorem fams_self : (fams.all fun f => f == herds.filter fun h => hasN h f) = true := by decide +kernel
theorem fam_self {f : List Nat} (hf : f ∈ fams) : f = herds.filter fun h => hasN h f := by simpa using List.all_eq_true.mp fams_self f hf
variable {b0 b1 b2 : List Nat}
theorem hasN_Mj {h : Nat} (hh : h ∈ herds) : hasN h (Mj b0 b1 b2) = mj b0 b1 b2 h := by
  rw [Bool.eq_iff_iff, hasN_iff]
  unfold Mj
  rw [List.mem_filter]
  exact ⟨fun x => x.2, fun x => ⟨hh, x⟩⟩
section
variable (h0 : b0 ∈ books41) (h1 : b1 ∈ books41) (h2 : b2 ∈ books41)
include h0 h1 h2
theorem D3_sum {f : List Nat} (hf : f ∈ fams) : D3 b0 b1 b2 f = sumH (fun h => cost (hasN h f) (hasN h b0) (hasN h b1) (hasN h b2)) herds := by
  unfold D3
  rw [dst_eq hf h0, dst_eq hf h1, dst_eq hf h2, sumH_add, sumH_add]
  rfl
theorem D3_lt {f : List Nat} (hf : f ∈ fams) (hne : f ≠ Mj b0 b1 b2) : D3 b0 b1 b2 (Mj b0 b1 b2) < D3 b0 b1 b2 f := by
  rw [D3_sum h0 h1 h2 (Mj_fams h0 h1 h2), D3_sum h0 h1 h2 hf]
  have hle : ∀ h ∈ herds, hasN h f ≠ mj b0 b1 b2 h → cost (hasN h (Mj b0 b1 b2)) (hasN h b0) (hasN h b1) (hasN h b2) < cost (hasN h f) (hasN h b0) (hasN h b1) (hasN h b2) := by
    intro h hh hn
    rw [hasN_Mj hh]
    exact cost_lt _ _ _ _ hn
  refine sumH_lt (fun h hh => ?_) ?_
  · by_cases e : hasN h f = mj b0 b1 b2 h
    · rw [hasN_Mj hh, e]; exact Nat.le_refl _
    · exact Nat.le_of_lt (hle h hh e)
  · by_cases e : ∃ h ∈ herds, hasN h f ≠ mj b0 b1 b2 h
    · obtain ⟨h, hh, hn⟩ := e
      exact ⟨h, hh, hle h hh hn⟩
    · exfalso
      apply hne
      rw [fam_self hf]
      unfold Mj
      refine List.filter_congr fun h hh => ?_
      exact Decidable.byContradiction fun hn => e ⟨h, hh, hn⟩
end
theorem nst_stay {M : List Nat} : ∀ (gs : List (List Nat)) (cur : List (List Nat)), (∀ f ∈ gs, D3 b0 b1 b2 M < D3 b0 b1 b2 f) → gs.foldl (nst b0 b1 b2) (D3 b0 b1 b2 M, cur) = (D3 b0 b1 b2 M, cur)
  | [], _, _ => rfl
  | f :: gs, cur, h => by
    have hf := h f (.head _)
    have e1 : Nat.blt (D3 b0 b1 b2 f) (D3 b0 b1 b2 M) = false := by
      cases e : Nat.blt (D3 b0 b1 b2 f) (D3 b0 b1 b2 M) with
      | false => rfl
      | true => have : D3 b0 b1 b2 f < D3 b0 b1 b2 M := Nat.le_of_ble_eq_true e; omega
    have e2 : Nat.beq (D3 b0 b1 b2 f) (D3 b0 b1 b2 M) = false := by
      cases e : Nat.beq (D3 b0 b1 b2 f) (D3 b0 b1 b2 M) with
      | false => rfl
      | true => have := Nat.eq_of_beq_eq_true e; omega
    have e3 : nst b0 b1 b2 (D3 b0 b1 b2 M, cur) f = (D3 b0 b1 b2 M, cur) := by
      unfold nst
      rw [e1, e2]
    rw [List.foldl_cons, e3]
    exact nst_stay gs cur fun f hf => h f (.tail _ hf)
theorem nst_min {M : List Nat} : ∀ (gs : List (List Nat)) (L : Nat) (cur : List (List Nat)), gs.Nodup → M ∈ gs → (∀ f ∈ gs, f ≠ M → D3 b0 b1 b2 M < D3 b0 b1 b2 f) → D3 b0 b1 b2 M < L → (gs.foldl (nst b0 b1 b2) (L, cur)).2 = [M]
  | f :: gs, L, cur, hn, hm, h, hL => by
    rw [List.nodup_cons] at hn
    rw [List.foldl_cons]
    by_cases e : f = M
    · subst e
      have e1 : Nat.blt (D3 b0 b1 b2 f) L = true := Nat.ble_eq_true_of_le hL
      have e3 : nst b0 b1 b2 (L, cur) f = (D3 b0 b1 b2 f, [f]) := by
        unfold nst
        rw [e1]
      rw [e3, nst_stay gs [f] fun g hg => h g (.tail _ hg) fun e => hn.1 (e ▸ hg)]
    · have hf := h f (.head _) e
      have hm : M ∈ gs := by
        rcases List.mem_cons.mp hm with h | h
        · exact absurd h.symm e
        · exact h
      have hL2 : D3 b0 b1 b2 M < (nst b0 b1 b2 (L, cur) f).1 := by
        unfold nst
        split
        · exact hf
        · split
          · exact hL
          · exact hL
      exact nst_min gs _ _ hn.2 hm (fun g hg => h g (.tail _ hg)) hL2
theorem fams_nodup : fams.Nodup := by decide +kernel
theorem nearest_is (h0 : b0 ∈ books41) (h1 : b1 ∈ books41) (h2 : b2 ∈ books41) : (fams.foldl (nst b0 b1 b2) (99, [])).2 = [Mj b0 b1 b2] := by
  have hM := Mj_fams h0 h1 h2
  refine nst_min fams 99 [] fams_nodup hM (fun f hf hne => D3_lt h0 h1 h2 hf hne) ?_
  have e0 := dst_le hM h0
  have e1 := dst_le hM h1
  have e2 := dst_le hM h2
  unfold D3
  omega
end
end Mine
end
section
namespace Mine
section
theorem inBk_ne {m : Nat} {b : List Nat} (h : m ≠ 15) : inBk m b = hasN m b := by
  unfold inBk
  have : Nat.beq m 15 = false := by
    cases e : Nat.beq m 15 with
    | false => rfl
    | true => exact absurd (Nat.eq_of_beq_eq_true e) h
  rw [this, Bool.or_false]
variable {b0 b1 b2 : List Nat}
theorem kst_mem {K : List Nat} {m x : Nat} : x ∈ kst b0 b1 b2 K m ↔ x ∈ K ∨ (x = m ∧ m ≠ 15 ∧ mj b0 b1 b2 m = true) := by
  unfold kst
  cases e : Nat.beq m 15 with
  | true =>
    have := Nat.eq_of_beq_eq_true e
    constructor
    · exact .inl
    · rintro (h | ⟨_, h, _⟩)
      · exact h
      · exact absurd this h
  | false =>
    have hne : m ≠ 15 := by rintro rfl; cases e
    have hm : maj3 (inBk m b0) (inBk m b1) (inBk m b2) = mj b0 b1 b2 m := by rw [inBk_ne hne, inBk_ne hne, inBk_ne hne]; rfl
    rw [hm]
    cases hj : mj b0 b1 b2 m with
    | false =>
      constructor
      · exact .inl
      · rintro (h | ⟨_, _, h⟩)
        · exact h
        · (first | exact nos h | cases h)
    | true =>
      cases hK : hasN m K with
      | true =>
        constructor
        · exact .inl
        · rintro (h | ⟨rfl, _, _⟩)
          · exact h
          · exact hasN_iff.mp hK
      | false =>
        show x ∈ K ++ [m] ↔ _
        rw [List.mem_append, List.mem_singleton]
        constructor
        · rintro (h | h)
          · exact .inl h
          · exact .inr ⟨h, hne, rfl⟩
        · rintro (h | ⟨h, _, _⟩)
          · exact .inl h
          · exact .inr h
theorem kst_nodup {K : List Nat} {m : Nat} (h : K.Nodup) : (kst b0 b1 b2 K m).Nodup := by
  unfold kst
  split
  · exact h
  · split
    · split
      · exact h
      · rename_i hK
        rw [List.nodup_append]
        refine ⟨h, by simp, ?_⟩
        rintro a ha b hb rfl
        rw [List.mem_singleton] at hb
        subst hb
        rw [hasN_iff.mpr ha] at hK
        cases hK
    · exact h
theorem fold_mem {x : Nat} : ∀ {ms K : List Nat}, x ∈ ms.foldl (kst b0 b1 b2) K ↔ x ∈ K ∨ (x ∈ ms ∧ x ≠ 15 ∧ mj b0 b1 b2 x = true)
  | [], K => by simp
  | m :: ms, K => by
    rw [List.foldl_cons, fold_mem, kst_mem, List.mem_cons]
    constructor
    · rintro ((h | ⟨rfl, h⟩) | ⟨h, h2⟩)
      · exact .inl h
      · exact .inr ⟨.inl rfl, h⟩
      · exact .inr ⟨.inr h, h2⟩
    · rintro (h | ⟨rfl | h, h2⟩)
      · exact .inl (.inl h)
      · exact .inl (.inr ⟨rfl, h2⟩)
      · exact .inr ⟨h, h2⟩
theorem fold_nodup : ∀ {ms K : List Nat}, K.Nodup → (ms.foldl (kst b0 b1 b2) K).Nodup
  | [], _, h => h
  | m :: ms, K, h => by rw [List.foldl_cons]; exact fold_nodup (kst_nodup h)
theorem maj_one : ∀ a b c : Bool, maj3 a b c = true → a = true ∨ b = true ∨ c = true := by decide
theorem kept_mem {ms0 ms1 ms2 : List Nat} (i0 : ∀ m ∈ ms0, m ∈ masks11) (i1 : ∀ m ∈ ms1, m ∈ masks11) (i2 : ∀ m ∈ ms2, m ∈ masks11)
    (s0 : ∀ m ∈ herds, hasN m ms0 = hasN m b0) (s1 : ∀ m ∈ herds, hasN m ms1 = hasN m b1) (s2 : ∀ m ∈ herds, hasN m ms2 = hasN m b2) (x : Nat) :
    x ∈ (ms0 ++ ms1 ++ ms2).foldl (kst b0 b1 b2) [] ↔ x ∈ Mj b0 b1 b2 := by
  rw [fold_mem]
  unfold Mj
  rw [List.mem_filter, List.mem_append, List.mem_append]
  constructor
  · rintro (h | ⟨h, hne, hm⟩)
    · (first | exact nos h | cases h)
    · refine ⟨?_, hm⟩
      have : x ∈ masks11 := by
        rcases h with (h | h) | h
        · exact i0 x h
        · exact i1 x h
        · exact i2 x h
      exact (masks_herds x this).resolve_left hne
  · rintro ⟨hh, hm⟩
    refine .inr ⟨?_, ?_, hm⟩
    · rcases maj_one _ _ _ hm with h | h | h
      · exact .inl (.inl (hasN_iff.mp ((s0 x hh).trans h)))
      · exact .inl (.inr (hasN_iff.mp ((s1 x hh).trans h)))
      · exact .inr (hasN_iff.mp ((s2 x hh).trans h))
    · rintro rfl
      exact absurd hh (by decide)
/-! sorting -/
noncomputable def insN (x : Nat) : List Nat → List Nat
  | [] => [x]
  | y :: ys => match Nat.blt y x with | true => y :: insN x ys | false => x :: y :: ys
noncomputable def sortN : List Nat → List Nat
  | [] => []
  | x :: xs => insN x (sortN xs)
theorem insInt_nat (x : Nat) : ∀ l : List Nat, insInt (.ofNat x) (l.map Int.ofNat) = (insN x l).map Int.ofNat
  | [] => rfl
  | y :: l => by
    show (match ltInt (.ofNat y) (.ofNat x) with | true => _ | false => _) = _
    unfold insN
    show (match Nat.blt y x with | true => Int.ofNat y :: insInt (.ofNat x) (l.map Int.ofNat) | false => _) = _
    cases Nat.blt y x with
    | true => rw [insInt_nat x l]; rfl
    | false => rfl
theorem sortInts_nat : ∀ l : List Nat, sortInts (l.map Int.ofNat) = (sortN l).map Int.ofNat
  | [] => rfl
  | x :: l => by
    show insInt (.ofNat x) (sortInts (l.map Int.ofNat)) = _
    rw [sortInts_nat l, insInt_nat]; rfl
theorem insN_mem {x z : Nat} : ∀ {l : List Nat}, z ∈ insN x l ↔ z = x ∨ z ∈ l
  | [] => by simp [insN]
  | y :: l => by
    unfold insN
    cases Nat.blt y x with
    | true =>
      show z ∈ y :: insN x l ↔ _
      rw [List.mem_cons, insN_mem, List.mem_cons]
      constructor
      · rintro (h | h | h)
        · exact .inr (.inl h)
        · exact .inl h
        · exact .inr (.inr h)
      · rintro (h | h | h)
        · exact .inr (.inl h)
        · exact .inl h
        · exact .inr (.inr h)
    | false => exact List.mem_cons
theorem sortN_mem {z : Nat} : ∀ {l : List Nat}, z ∈ sortN l ↔ z ∈ l
  | [] => Iff.rfl
  | x :: l => by
    show z ∈ insN x (sortN l) ↔ _
    rw [insN_mem, sortN_mem, List.mem_cons]
theorem insN_sorted {x : Nat} : ∀ {l : List Nat}, l.Pairwise (· < ·) → x ∉ l → (insN x l).Pairwise (· < ·)
  | [], _, _ => by simp [insN]
  | y :: l, h, hx => by
    rw [List.pairwise_cons] at h
    rw [List.mem_cons, not_or] at hx
    unfold insN
    cases e : Nat.blt y x with
    | true =>
      have hlt : y < x := Nat.le_of_ble_eq_true e
      show (y :: insN x l).Pairwise _
      rw [List.pairwise_cons]
      refine ⟨fun z hz => ?_, insN_sorted h.2 hx.2⟩
      rcases insN_mem.mp hz with rfl | hz
      · exact hlt
      · exact h.1 z hz
    | false =>
      have hlt : x < y := by
        have : ¬ y < x := fun h => by
          have : Nat.blt y x = true := Nat.ble_eq_true_of_le h
          rw [e] at this; cases this
        omega
      show (x :: y :: l).Pairwise _
      rw [List.pairwise_cons]
      refine ⟨fun z hz => ?_, List.pairwise_cons.mpr h⟩
      rcases List.mem_cons.mp hz with rfl | hz
      · exact hlt
      · have := h.1 z hz; omega
theorem sortN_sorted : ∀ {l : List Nat}, l.Nodup → (sortN l).Pairwise (· < ·)
  | [], _ => List.Pairwise.nil
  | x :: l, h => by
    rw [List.nodup_cons] at h
    exact insN_sorted (sortN_sorted h.2) fun hx => h.1 (sortN_mem.mp hx)
theorem sorted_ext : ∀ {l m : List Nat}, l.Pairwise (· < ·) → m.Pairwise (· < ·) → (∀ x, x ∈ l ↔ x ∈ m) → l = m
  | [], [], _, _, _ => rfl
  | [], y :: m, _, _, h => absurd ((h y).mpr (.head _)) (by simp)
  | x :: l, [], _, _, h => absurd ((h x).mp (.head _)) (by simp)
  | x :: l, y :: m, hl, hm, h => by
    rw [List.pairwise_cons] at hl hm
    have hxy : x = y := by
      have a := (h x).mp (.head _)
      have b := (h y).mpr (.head _)
      rcases List.mem_cons.mp a with a | a
      · exact a
      · rcases List.mem_cons.mp b with b | b
        · exact b.symm
        · have := hm.1 x a; have := hl.1 y b; omega
    subst hxy
    congr 1
    refine sorted_ext hl.2 hm.2 fun z => ⟨fun hz => ?_, fun hz => ?_⟩
    · have := hl.1 z hz
      rcases List.mem_cons.mp ((h z).mp (.tail _ hz)) with e | e
      · omega
      · exact e
    · have := hm.1 z hz
      rcases List.mem_cons.mp ((h z).mpr (.tail _ hz)) with e | e
      · omega
      · exact e
theorem herds_sorted : herds.Pairwise (· < ·) := by decide
theorem sortN_kept {K : List Nat} (hn : K.Nodup) (hm : ∀ x, x ∈ K ↔ x ∈ Mj b0 b1 b2) : sortN K = Mj b0 b1 b2 :=
  sorted_ext (sortN_sorted hn) (herds_sorted.filter _) fun x => sortN_mem.trans (hm x)
theorem ints_nvs : ∀ {l : List Nat}, (∀ x ∈ l, x ≤ 1000) → ints? (nvs l) = some (l.map Int.ofNat)
  | [], _ => rfl
  | x :: l, h => by
    have hx := h x (.head _)
    have e : okI (.ofNat x) = true := Nat.ble_eq_true_of_le (by show x + 1 ≤ 18446744073709551616; omega)
    show (match okI (.ofNat x) with | true => (match ints? (nvs l) with | some r => some (Int.ofNat x :: r) | none => none) | false => none) = _
    rw [e, ints_nvs fun y hy => h y (.tail _ hy)]
    rfl
theorem vints_nat : ∀ l : List Nat, vints (l.map Int.ofNat) = nvs l
  | [] => rfl
  | _ :: l => congrArg (_ :: ·) (vints_nat l)
theorem herds_small : ∀ x ∈ herds, x ≤ 1000 := by decide
theorem sorted_kept {K : List Nat} {o : Os} (ho : o[7]? = some (.list (nvs K))) (hn : K.Nodup) (hl : K.length < 64) (hm : ∀ x, x ∈ K ↔ x ∈ Mj b0 b1 b2) : prim o .sorted [.ref 7] = some (iv (Mj b0 b1 b2), o) := by
  have hi : itemsOf o (.ref 7) = some (nvs K) := by simp only [itemsOf, ho]
  have h1 : ∀ x ∈ K, x ≤ 1000 := fun x hx => herds_small x (List.mem_filter.mp ((hm x).mp hx)).1
  have h2 : Nat.blt (K.map Int.ofNat).length 64 = true := by rw [List.length_map]; exact Nat.ble_eq_true_of_le hl
  simp only [prim, hi, ints_nvs h1, h2]
  rw [sortInts_nat, vints_nat, sortN_kept hn hm]
  rfl
end
end Mine
end
section
namespace Mine
open PyProof.Rows
noncomputable section
section
variable {R : Type}
noncomputable def kS10 (CC : V → Os → (V → Os → Option R) → Option R) : KS R := kRet (kB (kCmp eqK (kList [(kPrim .sorted [(kSlot 23)])]) (fun l o k => getK 1 l fun v => CC v o k)))
noncomputable def kS6 (v : V) : KS R := kAssign 21 (kCall k_hosts [none, none, none, none, none, none, none, none] [kConst v, (kConst (.str [112, 113])), (kConst (.str [46, 111, 114, 103]))])
theorem tail_all (scr bk : V) (s : Sl) (rest : Lc) (o : Os) (CC : V → Os → (V → Os → Option R) → Option R) (kn kb : Lc → Os → Option R) (kr : V → Os → Option R) :
    fams.map (fun M => kSeq (kS6 (iv M)) (kSeq k_law_s7 (kSeq k_law_s8 (kSeq k_law_s9 (kSeq (kS10 CC) kNil)))) (LC scr bk s (none :: none :: none :: rest)) o kn kb kr) =
    fams.map fun M => CC bk o fun y o => eqK o (.list [iv M]) y fun b => kr (.bool b) o := by kernel_rfl
theorem eqK_all (o : Os) (k : Bool → Option R) : fams.map (fun M => eqK o (.list [iv M]) (.list [iv M]) k) = fams.map fun _ => k true := by kernel_rfl
theorem s6_gen (g : KS R) (rest : Lc) (x : KX R) (a b : V) (l : Lc) (o : Os) (kn kb : Lc → Os → Option R) (kr : V → Os → Option R) :
    kAssign 21 (kCall g rest [x, kConst a, kConst b]) l o kn kb kr = x l o fun v o => kAssign 21 (kCall g rest [kConst v, kConst a, kConst b]) l o kn kb kr := by kernel_rfl
theorem sorted_run {scr bk : V} {s : Sl} {rest : Lc} {o : Os} {v : V} {o' : Os} (k : V → Os → Option R) (h : prim o .sorted [.ref 7] = some (v, o')) : kPrim .sorted [(kSlot 15)] (LC scr bk s rest) o k = k v o' := by
  have e : kPrim .sorted [(kSlot 15)] (LC scr bk s rest) o k = @Option.rec (V × List O) (fun _ => Option R) none (fun r => @Prod.rec V (List O) (fun _ => Option R) k r) (prim o .sorted [.ref 7]) := by kernel_rfl
  rw [e, h]
noncomputable def CCg (g : KS R) (v : V) (o : Os) (k : V → Os → Option R) : Option R := frzsK o [v] fun us => app us (List.replicate 11 none) fun l' => g l' [] no2 no2 fun v' o' => frzK o' v' fun w => onTrue (@Bool.rec (fun _ => Bool) (nrL [v]) true (scalB w)) (k w o)
theorem CCg_at (g : KS R) (xs : List V) (o : Os) (k : V → Os → Option R) : CCg g (.list xs) o k =
    bfi (nrL xs) (g (some (.list xs) :: List.replicate 11 none) [] no2 no2 fun v' o' => frzK o' v' fun w => onTrue (@Bool.rec (fun _ => Bool) (nrL [.list xs]) true (scalB w)) (k w o))
      (frzSlow o (.list xs) fun u => app [some u] (List.replicate 11 none) fun l' => g l' [] no2 no2 fun v' o' => frzK o' v' fun w => onTrue (@Bool.rec (fun _ => Bool) (nrL [.list xs]) true (scalB w)) (k w o)) := by kernel_rfl
theorem frzK_ref (o : Os) (q : Nat) (k : V → Option R) : frzK o (.ref q) k = objK q o fun xs => bfi (nrL xs) (k (.list xs)) (frzSlow o (.ref q) k) := rfl
theorem s10_gen (A : KX R) (g : KS R) : kRet (kB (kCmp eqK A (kCall g (List.replicate 11 none) [kSlot 1]))) = kRet (kB (kCmp eqK A (fun l o k => getK 1 l fun v => CCg g v o k))) := by kernel_rfl
theorem s10_eq : k_law_s10 (R := R) = kS10 (CCg k_nearest) := s10_gen _ _
theorem s6_eq (l : Lc) (o : Os) (kn kb : Lc → Os → Option R) (kr : V → Os → Option R) : k_law_s6 l o kn kb kr = kPrim .sorted [(kSlot 15)] l o fun v o => kS6 v l o kn kb kr := s6_gen ..
theorem seq_eq (a b : KS R) (l : Lc) (o : Os) (kn kb : Lc → Os → Option R) (kr : V → Os → Option R) : kSeq a b l o kn kb kr = a l o (fun l o => b l o kn kb kr) kb kr := rfl
theorem tail_gen (T : KS R) {scr bk : V} {s : Sl} {rest : Lc} {o : Os} {v : V} (h : prim o .sorted [.ref 7] = some (v, o)) (kn kb : Lc → Os → Option R) (kr : V → Os → Option R) :
    kSeq k_law_s6 T (LC scr bk s rest) o kn kb kr = kSeq (kS6 v) T (LC scr bk s rest) o kn kb kr := by
  rw [seq_eq, seq_eq, s6_eq, sorted_run _ h]
end
theorem nrL_bk (b0 b1 b2 : List Nat) : nrL [iv b0, iv b1, iv b2] = true := by
  rw [nrL_eq]
  show (noRefs (nvs b0) && (noRefs (nvs b1) && (noRefs (nvs b2) && true))) = true
  rw [noRefs_nvs, noRefs_nvs, noRefs_nvs]; rfl
theorem nrL_bk1 (b0 b1 b2 : List Nat) : nrL [bkV b0 b1 b2] = true := by
  have := nrL_bk b0 b1 b2
  rw [nrL_eq] at this ⊢
  show (noRefs [iv b0, iv b1, iv b2] && true) = true
  rw [this]; rfl
theorem nrL_one (M : List Nat) : nrL [iv M] = true := by
  rw [nrL_eq]
  show (noRefs (nvs M) && true) = true
  rw [noRefs_nvs]; rfl
theorem CC0_at {R : Type} {b0 b1 b2 : List Nat} (h0 : b0 ∈ books41) (h1 : b1 ∈ books41) (h2 : b2 ∈ books41) (o : Os) (k : V → Os → Option R) : CCg k_nearest (bkV b0 b1 b2) o k = k (.list [iv (Mj b0 b1 b2)]) o := by
  obtain ⟨olds, f⟩ := near_at h0 h1 h2
  rw [nearest_is h0 h1 h2] at f
  have hg : (O.list (nvs herds) :: .list (ivs fams) :: (olds ++ [.list (ivs [Mj b0 b1 b2])]))[olds.length + 2]? = some (.list [iv (Mj b0 b1 b2)]) := by
    show (olds ++ [O.list (ivs [Mj b0 b1 b2])])[olds.length]? = _
    simp [ivs]
  rw [CCg_at, bfi_true (nrL_bk b0 b1 b2), f, frzK_ref, objK_of hg, bfi_true (nrL_one _)]
  exact onTrue_true (nrL_bk1 b0 b1 b2)
/-- the law's end -/
theorem tail_at {R : Type} {b0 b1 b2 : List Nat} (h0 : b0 ∈ books41) (h1 : b1 ∈ books41) (h2 : b2 ∈ books41) {o : Os} (h : prim o .sorted [.ref 7] = some (iv (Mj b0 b1 b2), o)) (scr : V) (s : Sl) (rest : Lc) (kn kb : Lc → Os → Option R) (kr : V → Os → Option R) :
    kSeq k_law_s6 (kSeq k_law_s7 (kSeq k_law_s8 (kSeq k_law_s9 (kSeq k_law_s10 kNil)))) (LC scr (bkV b0 b1 b2) s (none :: none :: none :: rest)) o kn kb kr = kr (.bool true) o := by
  have hM := Mj_fams h0 h1 h2
  have e1 := tail_gen (kSeq k_law_s7 (kSeq k_law_s8 (kSeq k_law_s9 (kSeq (kS10 (CCg k_nearest)) kNil)))) (scr := scr) (bk := bkV b0 b1 b2) (s := s) (rest := none :: none :: none :: rest) h kn kb kr
  have e2 := List.map_inj_left.mp (tail_all scr (bkV b0 b1 b2) s rest o (CCg k_nearest) kn kb kr) _ hM
  have e3 := List.map_inj_left.mp (eqK_all o fun b => kr (.bool b) o) _ hM
  rw [CC0_at h0 h1 h2, e3] at e2
  rw [s10_eq]
  exact e1.trans e2
end
end Mine
end
section
namespace Mine
open PyProof.Rows
section
theorem GS.next {d n : Nat} (hn : d ≤ n) {s : S} {c : KS (Lc × Os)} (h : GS d s c) {l : Lc} {o : Os} {l' : Lc} {o' : Os} (e : c l o (fun l o => some (l, o)) no2 (fun _ _ => none) = some (l', o')) :
    evS (ev F n) s ⟨l, o⟩ = some (.next, ⟨l', o'⟩) :=
  h n hn _ _ _ _ _ _ e fun fl l1 o1 e1 q => by
    cases fl with
    | brk => exact nos q
    | ret v => exact nos q
    | next => cases q; exact e1
theorem cons_next {r : Ev} {s : S} {ss : List S} {σ σ1 : St} (h : evS r s σ = some (.next, σ1)) : evB r (s :: ss) σ = evB r ss σ1 := by simp only [evB, h]
theorem law_s2_at {R : Type} (scr bk : V) (x2 : Option V) (rest : Lc) (kn kb : Lc → Os → Option R) (kr : V → Os → Option R) : k_law_s2 (some scr :: some bk :: x2 :: rest) [] kn kb kr = kn (some scr :: some bk :: some (.ref 0) :: rest) [.list []] := by kernel_rfl
noncomputable def sl4 (g : Old) : Sl := ⟨some (nv 2), g.g4, g.g5, g.g6, g.g7, g.g8, g.g9, g.g10, g.g11, g.g12, g.g13, g.g14, none, none, none, none, none⟩
theorem law_s4_at {R : Type} (scr bk : V) (g : Old) (c0 c1 c2 c3 c4 c5 c6 : O) (kn kb : Lc → Os → Option R) (kr : V → Os → Option R) : k_law_s4 (loc1 scr bk (nv 2) g (List.replicate 27 none)) [c0, c1, c2, c3, c4, c5, c6] kn kb kr =
    kn (LC scr bk (sl4 g) (List.replicate 21 none)) (oc c0 c1 c2 c3 c4 c5 c6 (.list []) []) := by kernel_rfl
theorem kg_tail {R : Type} : GB (R := R) 17 [i_law_s6, i_law_s7, i_law_s8, i_law_s9, i_law_s10] (kSeq k_law_s6 (kSeq k_law_s7 (kSeq k_law_s8 (kSeq k_law_s9 (kSeq k_law_s10 kNil))))) :=
  b_seq kg_law_s6 (b_seq kg_law_s7 (b_seq kg_law_s8 (b_seq kg_law_s9 (b_seq kg_law_s10 b_nil))))
theorem run_law {n : Nat} (hn : 17 ≤ n) (xs : List Int) (h : xs.length ≤ 63) : ∃ σ', evB (ev F (n + 1)) f_law.body ⟨initLoc [.list (vints xs)] f_law.init, []⟩ = some (.ret (.bool true), σ') := by
  have hm1 : 17 ≤ n + 1 := Nat.le_succ_of_le hn
  obtain ⟨b0, b1, b2, h0, h1, h2, f1⟩ := law_s1_at xs h
  have e1 := GS.next hm1 kg_law_s1 (f1 none (List.replicate 40 none) (fun l o => some (l, o)) no2 (fun _ _ => none))
  have e2 := GS.next hm1 kg_law_s2 (law_s2_at (.list (vints xs)) (bkV b0 b1 b2) none (List.replicate 39 none) (fun l o => some (l, o)) no2 (fun _ _ => none))
  obtain ⟨w0, w1, w2, cl0, cl1, cl2, g, ln0, ln1, ln2, r0, r1, r2, t0, t1, t2, e3⟩ := loop1 hn h0 h1 h2 (.list (vints xs)) ⟨none, none, none, none, none, none, none, none, none, none, none⟩ (List.replicate 27 none)
  have e4 := GS.next hm1 kg_law_s4 (law_s4_at (.list (vints xs)) (bkV b0 b1 b2) g (.list [oT cl0 2 w0, oT cl1 4 w1, oT cl2 6 w2]) (.list ln0) (.list (pvs w0.2.1)) (.list ln1) (.list (pvs w1.2.1)) (.list ln2) (.list (pvs w2.2.1)) (fun l o => some (l, o)) no2 (fun _ _ => none))
  obtain ⟨s', t', f5⟩ := loop2 (scr := .list (vints xs)) (rest := List.replicate 21 none) (c1 := .list ln0) (c3 := .list ln1) (c5 := .list ln2) t0 t1 t2 (sl4 g)
  have e5 := GS.next hm1 kg_law_s5 (f5 (fun l o => some (l, o)) no2 (fun _ _ => none))
  have hm := kept_mem (b0 := b0) (b1 := b1) (b2 := b2) r0.ms r1.ms r2.ms r0.sets r1.sets r2.sets
  have hn : ((w0.1 ++ w1.1 ++ w2.1).foldl (kst b0 b1 b2) []).Nodup := fold_nodup List.nodup_nil
  have hl : ((w0.1 ++ w1.1 ++ w2.1).foldl (kst b0 b1 b2) []).length < 64 := by
    have := foldl_kst_len b0 b1 b2 (w0.1 ++ w1.1 ++ w2.1) []
    have k0 := r0.len
    have k1 := r1.len
    have k2 := r2.len
    simp only [List.length_append, List.length_nil] at this
    omega
  have hs := sorted_kept (o := ocL (.list cl0) (.list cl1) (.list cl2) w0.2.2 w1.2.2 w2.2.2 w0.2.1 w1.2.1 w2.2.1 (.list ln0) (.list ln1) (.list ln2) ((w0.1 ++ w1.1 ++ w2.1).foldl (kst b0 b1 b2) []) t') rfl hn hl hm
  have f6 := tail_at (R := V) h0 h1 h2 hs (.list (vints xs)) s' (List.replicate 18 none) no2 no2 (fun v _ => some v)
  refine kg_tail (n + 1) hm1 _ _ _ _ _ _ f6 fun fl l7 o7 e7 q => ?_
  cases fl with
  | next => exact nos q
  | brk => exact nos q
  | ret v =>
    cases q
    refine ⟨⟨l7, o7⟩, ?_⟩
    rw [law_body]
    refine (cons_next e1).trans ?_
    refine (cons_next e2).trans ?_
    refine (cons_next e3).trans ?_
    refine (cons_next e4).trans ?_
    refine (cons_next e5).trans ?_
    exact e7
theorem pure_law (xs : List Int) (h : xs.length ≤ 63) : ∃ σ', (ev F 40).b f_law.body ⟨initLoc [.list (vints xs)] f_law.init, []⟩ = some (.ret (.bool true), σ') := by
  exact run_law (n := 38) (by decide) xs h
end
end Mine
end
section
set_option maxHeartbeats 8000000
namespace Mine
open PySem PySem.W PyProof.Rows PySem.Calls
theorem the_law : PySem.Challenge.rw_zo0014_01.Holds := by
  w_on
  refine holds_law (by decide +kernel) fun said => ?_
  refine lawC (q := q0) (loose := loose0) (Xt := fun s => xlAt q0 [] s && recOk [] s) (XP := XL q0 []) (Yf := hook.obs) (Ya := hook.val) (YP := hook.says) (N := 1696) ?hl hook.of hook_toks hook.keeps (fun s e => xl_of s (Bool.and_eq_true_iff.mp e).1) XL.keeps (by rfl) (by rfl) (by rfl) (fun s e => recFacts_of (Bool.and_eq_true_iff.mp e).2) (by rfl) (by assumption) (by decide +kernel) ⟨rfl, rfl, rfl, rfl, rfl, by decide +kernel⟩ ?hw ?hc
  case hl => exact head_left
  case hw => w_witness2
  case hc =>
    intro w s₀ s₁ mg mb G Y a o pm cd doc dV kV ho hd hcd hD hmg hg ht args vals as hpre hlay hrd hwl hlo
    have hfn : mg ("law" : Str) = some (.ref a) := hmg
    clear hd hcd hD hmg
    wrow_args hpre hlay hrd hwl hlo
    rename_i xs _ _ _ _ _ _ _ l vs _ hL _ _ _ hI _ hlen _
    have hlen' : xs.length ≤ 63 := by omega
    obtain ⟨σ', hev⟩ := pure_law xs hlen'
    refine law_core G.T Y hfn ht hL hI (by decide) hev fun s' hk hos hgens => GoodW.toG ⟨.inl ⟨.bool true, .bool true, [], rfl, raisesW_false ?hn, .bool true, ?hp, fun _ => ⟨List.nodup_nil, fun a h => nomatch h⟩⟩, hk, hos, hgens.trans hg⟩
    case hn => wrow_none_raised
    case hp => wrow_post
end Mine
end
theorem PySem.Challenge.cw_zo0014_01_holds : PySem.Challenge.rw_zo0014_01.Holds :=
  Mine.the_law
