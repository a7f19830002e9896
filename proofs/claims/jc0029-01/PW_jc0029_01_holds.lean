import PyProof.Rows.All
import Wide.All
import OpenK.AllK
import Wide.FinOn
import KE.KDictSum
import Lean
import PySem.Challenge.RW_jc0029_01
set_option Elab.async false
set_option linter.all false
set_option maxRecDepth 100000
section
open PySem PySem.W PyProof.Rows
set_option genSizeOf false
set_option genInjectivity false
namespace Mine
/-! a little interpreter of our own: data, owned objects, syntax with slots -/
inductive D where
  | none | bool (b : Bool) | int (i : Int) | str (s : List Nat)
  | list (xs : List D) | tup (xs : List D)
  | inst (c : Nat) (fs : List (Nat × D))
inductive V where
  | d (x : D) | ref (n : Nat)
inductive S where
  | frame (vs : List (Option V))
  | cell (v : Option D)
  | mlist (xs : List D)
  | mdict (lk : Bool) (es : List (List Nat × D))
  | inst (c : Nat)
  | idict (c : Nat) (fs : List (Nat × D))
inductive BO where | add | sub | mul | fdiv | mod | pow
inductive CO where | lt | gt | le | ge | eq | ne
inductive IK where | val | range | items | vals
inductive X where | loc (i : Nat) | cel (j : Nat)
structure CNT where
  loc : List Str
  own : List Str
  free : List (Str × Nat)
inductive E where
  | loc (i : Nat) | cel (j : Nat)
  | none | bool (b : Bool) | int (i : Int) | str (s : List Nat)
  | bin (o : BO) (fz : Bool) (a b : E)
  | neg (a : E)
  | cmp (o : CO) (a b : E)
  | is (ng : Bool) (a b : E)
  | inn (a b : E)
  | ite (t a b : E)
  | or (a b : E) | not (a : E)
  | call (f : Nat) (as : List E)
  | new (c : Nat) (as : List E)
  | meth (m : Nat) (o : E) (as : List E)
  | attr (a : Nat) (o : E)
  | cattr (c a : Nat)
  | len (a : E) | max1 (a : E) | max2 (a b : E)
  | sortset (a : E) | sortd (a : E)
  | isi (a : E) (ty : Nat) | hasget (a : E) | tuple (a : E)
  | append (o v : E) | split (o s : E)
  | sub (o i : E)
  | slc (o : E) (l u : Option E)
  | list (fz : Bool) (xs : List E) | tup (xs : List E)
  | dict (kvs : List (List Nat × E))
  | comp1 (nt : CNT) (x : X) (k : IK) (ia : List E) (t : Option E) (elt : E)
  | comp2 (nt : CNT) (x : X) (k : IK) (ia : List E) (x2 : X) (k2 : IK) (ia2 : List E) (t : Option E) (elt : E)
inductive T where
  | asg (x : X) (e : E)
  | asgs (xs : List X) (e : E)
  | two (x y : X) (a b : E)
  | unp (xs : List X) (e : E)
  | sets (o i e : E)
  | aug (x : X) (o : BO) (e : E)
  | augs (o i : E) (op : BO) (e : E)
  | seta (a : Nat) (o e : E)
  | ite (t : E) (b o : List T)
  | for1 (xs : List X) (tupl : Bool) (k : IK) (ia : List E) (b : List T)
  | brk | ret (e : E) | exp (e : E) | dead
inductive OB where
  | mul (a b : Int) | pow (a b : Int) | len (n : Nat) | prop (p : Prop)
inductive Fl where | next | brk | ret (v : V)
structure Dsc where
  fr : Nat
  cells : List Nat
structure FnD where
  nm : List Str
  np : Nat
  cel : List Str
  body : List T
structure Prog where
  fns : List FnD
  inits : List Nat
  meths : List (List (Nat × Nat))
  cattrs : List (List (Nat × D))
noncomputable abbrev Res (α : Type) := Option (α × List S × List OB)
noncomputable def bnd {α β : Type} (r : Res α) (f : α → List S → Res β) : Res β := match r with
  | none => none
  | some (a, σ, o) => match f a σ with
    | none => none
    | some (b, σ', o') => some (b, σ', o ++ o')
noncomputable def ok {α : Type} (a : α) (σ : List S) : Res α := some (a, σ, [])
structure Ops where
  ev : E → Dsc → List S → Res V
  ex : List T → Dsc → List S → Res Fl
  call : Nat → List V → List S → Res V

/-! values -/
noncomputable def lstOf (σ : List S) : V → Option (List D)
  | .d (.list xs) => some xs
  | .ref n => match σ[n]? with
    | some (.mlist xs) => some xs
    | _ => none
  | _ => none
noncomputable def room (n : Nat) : Bool := Nat.ble n 4096
noncomputable def numOf : Int → Option Nat
  | .ofNat n => some n
  | .negSucc _ => none
noncomputable def nonzero : Int → Bool
  | .ofNat 0 => false
  | _ => true
noncomputable def mkList (fz : Bool) (xs : List D) (σ : List S) : Res V := match room xs.length with
  | false => none
  | true => match fz with
    | true => ok (.d (.list xs)) σ
    | false => ok (.ref σ.length) (σ ++ [.mlist xs])
noncomputable def repD (n : Nat) (xs : List D) : List D := (List.replicate n xs).flatten
noncomputable def repS (n : Nat) (xs : List Nat) : List Nat := (List.replicate n xs).flatten
noncomputable def small64 : Int → Bool
  | .ofNat n => Nat.ble n 1000000
  | .negSucc n => Nat.ble n 1000000
noncomputable def gd {α : Type} (b : Bool) (r : Option α) : Option α := match b with
  | true => r
  | false => none
noncomputable def els {α β : Type} (o : Option α) (f : α → β) (g : β) : β := match o with
  | some a => f a
  | none => g
noncomputable def intV : V → Option Int
  | .d (.int i) => some i
  | _ => none
noncomputable def strV : V → Option (List Nat)
  | .d (.str s) => some s
  | _ => none
noncomputable def tupV : V → Option (List D)
  | .d (.tup s) => some s
  | _ => none
noncomputable def litV : V → Option (List D)
  | .d (.list s) => some s
  | _ => none
noncomputable def boV : V → Option Bool
  | .d (.bool s) => some s
  | _ => none
noncomputable def noV : V → Bool
  | .d .none => true
  | _ => false
noncomputable def refV : V → Option Nat
  | .ref n => some n
  | .d _ => none
noncomputable def dicA (σ : List S) (n : Nat) : Option (List (List Nat × D)) := match σ[n]? with
  | some (.mdict _ es) => some es
  | _ => none
noncomputable def opnA (σ : List S) (n : Nat) : Option (List (List Nat × D)) := match σ[n]? with
  | some (.mdict false es) => some es
  | _ => none
noncomputable def lisA (σ : List S) (n : Nat) : Option (List D) := match σ[n]? with
  | some (.mlist xs) => some xs
  | _ => none
noncomputable def lenV (σ : List S) (x : V) : Option Nat :=
  els (strV x) (fun s => some s.length) <|
  els (tupV x) (fun s => some s.length) <|
  (lstOf σ x).map List.length
noncomputable def frA (σ : List S) (n : Nat) : Option (List (Option V)) := match σ[n]? with
  | some (.frame vs) => some vs
  | _ => none
noncomputable def celA (σ : List S) (n : Nat) : Option (Option D) := match σ[n]? with
  | some (.cell v) => some v
  | _ => none
noncomputable def insV : V → Option (Nat × List (Nat × D))
  | .d (.inst c fs) => some (c, fs)
  | _ => none
noncomputable def datO : V → Option D
  | .d x => some x
  | .ref _ => none
noncomputable def insA (σ : List S) (n : Nat) : Option Nat := match σ[n]? with
  | some (.inst c) => some c
  | _ => none
noncomputable def idiA (σ : List S) (n : Nat) : Option (Nat × List (Nat × D)) := match σ[n]? with
  | some (.idict c fs) => some (c, fs)
  | _ => none
noncomputable def one1 {α : Type} : List α → Option α
  | [] => none
  | x :: r => match r with
    | [] => some x
    | _ :: _ => none
noncomputable def int2 {α : Type} (a b : V) (f : Int → Int → Option α) : Option α := (intV a).bind fun x => (intV b).bind fun y => f x y
noncomputable def evAdd (fz : Bool) (a b : V) (σ : List S) : Res V :=
  els (intV a) (fun x => (intV b).bind fun y => ok (.d (.int (x + y))) σ) <|
  els (strV a) (fun x => (strV b).bind fun y => some (.d (.str (x ++ y)), σ, [.len (x ++ y).length])) <|
  els (tupV a) (fun x => (tupV b).bind fun y => gd (room (x ++ y).length) (ok (.d (.tup (x ++ y))) σ)) <|
  (lstOf σ a).bind fun x => (lstOf σ b).bind fun y => mkList fz (x ++ y) σ
noncomputable def evMul (a b : V) (σ : List S) : Res V := (intV b).bind fun y =>
  els (intV a) (fun x => some (.d (.int (x * y)), σ, [.mul x y])) <|
  (numOf y).bind fun n => gd (room n) <|
  els (strV a) (fun x => gd (room (repS n x).length) (ok (.d (.str (repS n x))) σ)) <|
  (litV a).bind fun x => gd (room (repD n x).length) (ok (.d (.list (repD n x))) σ)
noncomputable def evBin (o : BO) (fz : Bool) (a b : V) (σ : List S) : Res V := match o with
  | .add => evAdd fz a b σ
  | .sub => int2 a b fun x y => ok (.d (.int (x - y))) σ
  | .mul => evMul a b σ
  | .fdiv => int2 a b fun x y => gd (nonzero y) (gd (small64 y) (ok (.d (.int (x.fdiv y))) σ))
  | .mod => int2 a b fun x y => gd (nonzero y) (ok (.d (.int (x.fmod y))) σ)
  | .pow => int2 a b fun x y => some (.d (.int (x ^ y.toNat)), σ, [.pow x y])
noncomputable def lexLt : List Nat → List Nat → Bool
  | _, [] => false
  | [], _ :: _ => true
  | a :: x, b :: y => Nat.blt a b || (Nat.beq a b && lexLt x y)
noncomputable def beqS : List Nat → List Nat → Bool
  | [], [] => true
  | a :: x, b :: y => Nat.beq a b && beqS x y
  | _, _ => false
mutual
noncomputable def D.eqv : D → D → Bool
  | .none, b => noV (.d b)
  | .bool a, b => els (boV (.d b)) (fun b => a == b) false
  | .int a, b => els (intV (.d b)) (fun b => decide (a = b)) false
  | .str a, b => els (strV (.d b)) (fun b => beqS a b) false
  | .list a, b => els (litV (.d b)) (fun b => D.eqvs a b) false
  | .tup a, b => els (tupV (.d b)) (fun b => D.eqvs a b) false
  | .inst _ _, _ => false
noncomputable def D.eqvs : List D → List D → Bool
  | [], b => b.isEmpty
  | a :: x, b => match b with
    | [] => false
    | b :: y => D.eqv a b && D.eqvs x y
end
/-- data that may be compared: ints, texts, lists and tuples of such, not too deep -/
noncomputable def plainD : Nat → D → Bool
  | _, .int _ => true
  | _, .str s => s.all fun c => Nat.blt c 1000
  | n + 1, .list xs => xs.all (plainD n)
  | n + 1, .tup xs => xs.all (plainD n)
  | _, _ => false
noncomputable def plainL (xs : List D) : Bool := xs.all (plainD 6)
noncomputable def eqIf (a b : List D) : Option Bool := match plainL a, plainL b with
  | true, true => some (D.eqvs a b)
  | _, _ => none
noncomputable def intsOf : List D → Option (List Int)
  | [] => some []
  | .int i :: r => (intsOf r).map (i :: ·)
  | _ :: _ => none
/-- two lists of ints by > -/
noncomputable def gtInts : List Int → List Int → Bool
  | [], _ => false
  | _ :: _, [] => true
  | a :: x, b :: y => if a = b then gtInts x y else decide (b < a)
noncomputable def evEq (a b : V) (σ : List S) : Option Bool :=
  els (intV a) (fun x => (intV b).bind fun y => some (decide (x = y))) <|
  els (strV a) (fun x => (strV b).bind fun y => some (beqS x y)) <|
  els (tupV a) (fun x => (tupV b).bind fun y => eqIf x y) <|
  (lstOf σ a).bind fun x => (lstOf σ b).bind fun y => eqIf x y
noncomputable def evGt (a b : V) : Option Bool :=
  els (intV a) (fun x => (intV b).bind fun y => some (decide (y < x))) <|
  (litV a).bind fun x => (litV b).bind fun y => (intsOf x).bind fun p => (intsOf y).bind fun q => some (gtInts p q)
noncomputable def evCmp (o : CO) (a b : V) (σ : List S) : Option Bool := match o with
  | .lt => int2 a b fun x y => some (decide (x < y))
  | .gt => evGt a b
  | .le => int2 a b fun x y => some (decide (x ≤ y))
  | .ge => int2 a b fun x y => some (decide (y ≤ x))
  | .eq => evEq a b σ
  | .ne => (evEq a b σ).map (!·)
noncomputable def objA (σ : List S) (n : Nat) : Bool := match σ[n]? with
  | some (.mdict _ _) => true
  | some (.mlist _) => true
  | _ => false
noncomputable def evIs (σ : List S) (a b : V) : Option Bool :=
  els (refV a) (fun m => (refV b).bind fun n => gd (objA σ m) (some (Nat.beq m n))) <|
  els (boV a) (fun x => (boV b).bind fun y => some (x == y)) <|
  gd (noV a) (gd (noV b) (some true))
noncomputable def lookS (k : List Nat) : List (List Nat × D) → Option D
  | [] => none
  | (j, v) :: r => match beqS j k with
    | true => some v
    | false => lookS k r
noncomputable def putS (k : List Nat) (v : D) : List (List Nat × D) → List (List Nat × D)
  | [] => [(k, v)]
  | (j, w) :: r => match beqS j k with
    | true => (j, v) :: r
    | false => (j, w) :: putS k v r
noncomputable def lookN (k : Nat) : List (Nat × D) → Option D
  | [] => none
  | (j, v) :: r => match Nat.beq j k with
    | true => some v
    | false => lookN k r
noncomputable def putN (k : Nat) (v : D) : List (Nat × D) → List (Nat × D)
  | [] => [(k, v)]
  | (j, w) :: r => match Nat.beq j k with
    | true => (j, v) :: r
    | false => (j, w) :: putN k v r
/-- a place in a sequence -/
noncomputable def placeOf (k : Int) : Option Nat := match numOf k with
  | some n => match room n with
    | true => some n
    | false => none
  | none => none
noncomputable def evSub (o i : V) (σ : List S) : Option D :=
  els (intV i) (fun k => (placeOf k).bind fun n =>
    els (tupV o) (fun xs => xs[n]?) <|
    els (strV o) (fun s => (s[n]?).bind fun c => some (.str [c])) <|
    (lstOf σ o).bind fun xs => xs[n]?) <|
  (strV i).bind fun k => (refV o).bind fun n => (dicA σ n).bind fun es => lookS k es
noncomputable def cut {α : Type} (l u : Nat) (xs : List α) : List α := (xs.take u).drop l
noncomputable def lowV (l : Option V) : Option Nat := match l with
  | none => some 0
  | some v => (intV v).bind numOf
noncomputable def uppV (l : Option V) : Option (Option Nat) := match l with
  | none => some none
  | some v => (intV v).bind fun k => (numOf k).map some
noncomputable def evSlc (o : V) (l u : Option V) (σ : List S) : Res V := (lowV l).bind fun l => (uppV u).bind fun u =>
  els (strV o) (fun s => gd (room s.length) (ok (.d (.str (cut l (u.getD s.length) s))) σ)) <|
  (lstOf σ o).bind fun xs => gd (room xs.length) (mkList true (cut l (u.getD xs.length) xs) σ)
noncomputable def uins (x : Int) : List Int → List Int
  | [] => [x]
  | y :: r => if x < y then x :: y :: r else if x = y then y :: r else y :: uins x r
noncomputable def usort : List Int → List Int
  | [] => []
  | x :: r => uins x (usort r)
noncomputable def sins (x : List Nat) : List (List Nat) → List (List Nat)
  | [] => [x]
  | y :: r => match lexLt y x with
    | true => y :: sins x r
    | false => x :: y :: r
noncomputable def ssort : List (List Nat) → List (List Nat)
  | [] => []
  | x :: r => sins x (ssort r)
noncomputable def maxL (x : Int) : List Int → Int
  | [] => x
  | y :: r => maxL (if x < y then y else x) r
noncomputable def splitC (c : Nat) : List Nat → List (List Nat)
  | [] => [[]]
  | x :: r => match Nat.beq x c with
    | true => [] :: splitC c r
    | false => match splitC c r with
      | [] => [[x]]
      | w :: ws => (x :: w) :: ws
noncomputable def rangeD (lo hi : Int) : List D := (List.range (hi - lo).toNat).map fun (i : Nat) => D.int (lo + (i : Int))
/-- items of an iteration, and the dict that is locked meanwhile -/
noncomputable def iterV (x : V) (σ : List S) : Option (List D × Option Nat) :=
  els (litV x) (fun xs => some (xs, none)) <|
  els (tupV x) (fun xs => some (xs, none)) <|
  els (strV x) (fun s => gd (s.all fun c => Nat.blt c 128) (some (s.map fun c => .str [c], none))) <|
  (refV x).bind fun n => (opnA σ n).bind fun es => some (es.map fun p => .str p.1, some n)
noncomputable def iterW (f : List Nat × D → D) (vs : List V) (σ : List S) : Option (List D × Option Nat) :=
  (one1 vs).bind fun x => (refV x).bind fun n => (opnA σ n).bind fun es => some (es.map f, some n)
noncomputable def iterR : List V → Option (List D × Option Nat)
  | [] => none
  | a :: r => match r with
    | [] => (intV a).bind fun hi => gd (small64 hi) (some (rangeD 0 hi, none))
    | b :: r => match r with
      | [] => int2 a b fun lo hi => gd (small64 lo) (gd (small64 hi) (some (rangeD lo hi, none)))
      | _ :: _ => none
noncomputable def iterOf (k : IK) (vs : List V) (σ : List S) : Option (List D × Option Nat) := match k with
  | .val => (one1 vs).bind fun x => iterV x σ
  | .range => iterR vs
  | .items => iterW (fun p => .tup [.str p.1, p.2]) vs σ
  | .vals => iterW (fun p => p.2) vs σ
noncomputable def lockAs (b : Bool) (n : Option Nat) (σ : List S) : List S := match n with
  | none => σ
  | some n => match σ[n]? with
    | some (.mdict _ es) => σ.set n (.mdict b es)
    | _ => σ
/-- the lock as it was ahead of the loop -/
noncomputable def unlock (n : Option Nat) (σ₀ σ : List S) : List S := match n with
  | none => σ
  | some n => match σ₀[n]? with
    | some x => σ.set n x
    | none => σ
noncomputable def putX (x : X) (d : Dsc) (v : V) (σ : List S) : Option (List S) := match x with
  | .loc i => (frA σ d.fr).bind fun vs => gd (Nat.blt i vs.length) (some (σ.set d.fr (.frame (vs.set i (some v)))))
  | .cel j => (d.cells[j]?).bind fun n => (celA σ n).bind fun _ => (datO v).bind fun x => some (σ.set n (.cell (some x)))
noncomputable def getX (x : X) (d : Dsc) (σ : List S) : Option V := match x with
  | .loc i => (frA σ d.fr).bind fun vs => (vs[i]?).bind id
  | .cel j => (d.cells[j]?).bind fun n => (celA σ n).bind fun v => v.map V.d
noncomputable def putXs : List X → List D → Dsc → List S → Option (List S)
  | [], vs, _, σ => match vs with
    | [] => some σ
    | _ :: _ => none
  | x :: xs, vs, d, σ => match vs with
    | [] => none
    | v :: vs => (putX x d (.d v) σ).bind fun σ' => putXs xs vs d σ'
noncomputable def putTarget (xs : List X) (tupl : Bool) (d : Dsc) (v : D) (σ : List S) : Option (List S) := match tupl with
  | false => (one1 xs).bind fun x => putX x d (.d v) σ
  | true => (tupV (.d v)).bind fun vs => putXs xs vs d σ
noncomputable def opt {α : Type} (r : Option α) (σ : List S) : Res α := match r with
  | some a => ok a σ
  | none => none
noncomputable def evs (O : Ops) (d : Dsc) : List E → List S → Res (List V)
  | [], σ => ok [] σ
  | e :: r, σ => bnd (O.ev e d σ) fun v σ => bnd (evs O d r σ) fun vs σ => ok (v :: vs) σ
noncomputable def optE (O : Ops) (l : Option E) (d : Dsc) (σ : List S) : Res (Option V) := match l with
  | none => ok none σ
  | some l => bnd (O.ev l d σ) fun v σ => ok (some v) σ
noncomputable def dats : List V → Option (List D)
  | [] => some []
  | .d x :: r => (dats r).map (x :: ·)
  | .ref _ :: _ => none
noncomputable def evD (O : Ops) (e : E) (d : Dsc) (σ : List S) : Res D := bnd (O.ev e d σ) fun v σ => (datO v).bind fun x => ok x σ
noncomputable def cmpR (O : Ops) (o : CO) (a b : E) (d : Dsc) (σ : List S) : Res Bool := bnd (O.ev a d σ) fun x σ => bnd (O.ev b d σ) fun y σ => opt (evCmp o x y σ) σ
noncomputable def isR (O : Ops) (ng : Bool) (a b : E) (d : Dsc) (σ : List S) : Res Bool := bnd (O.ev a d σ) fun x σ => bnd (O.ev b d σ) fun y σ => (evIs σ x y).bind fun t => ok (match ng with | true => !t | false => t) σ
noncomputable def innR (O : Ops) (a b : E) (d : Dsc) (σ : List S) : Res Bool := bnd (O.ev a d σ) fun x σ => bnd (O.ev b d σ) fun y σ => (strV x).bind fun k => (refV y).bind fun n => (dicA σ n).bind fun es => ok (lookS k es).isSome σ
noncomputable def valB (r : Res V) : Res Bool := bnd r fun v σ => (boV v).bind fun b => ok b σ
noncomputable def tst (O : Ops) : E → Dsc → List S → Res Bool
  | .or a b, d, σ => bnd (tst O a d σ) fun t σ => match t with
    | true => ok true σ
    | false => tst O b d σ
  | .not a, d, σ => bnd (tst O a d σ) fun t σ => ok (!t) σ
  | .cmp o a b, d, σ => cmpR O o a b d σ
  | .is ng a b, d, σ => isR O ng a b d σ
  | .inn a b, d, σ => innR O a b d σ
  | e, d, σ => valB (O.ev e d σ)
noncomputable def boolV (r : Res Bool) : Res V := bnd r fun b σ => ok (.d (.bool b)) σ
noncomputable def pushAt (n : Nat) (y : D) (σ : List S) : Res Unit := (lisA σ n).bind fun xs => gd (room xs.length) (ok () (σ.set n (.mlist (xs ++ [y]))))
noncomputable def tstO (O : Ops) (t : Option E) (d : Dsc) (σ : List S) : Res Bool := match t with
  | none => ok true σ
  | some t => tst O t d σ
noncomputable def emitL (O : Ops) (n : Nat) (elt : E) (d : Dsc) (b : Bool) (σ : List S) : Res Unit := match b with
  | true => bnd (evD O elt d σ) fun y σ => pushAt n y σ
  | false => ok () σ
noncomputable def compL (O : Ops) (n : Nat) (x : X) (t : Option E) (elt : E) (d : Dsc) : List D → List S → Res Unit
  | [], σ => ok () σ
  | it :: r, σ => (putX x d (.d it) σ).bind fun σ => bnd (tstO O t d σ) fun b σ => bnd (emitL O n elt d b σ) fun _ σ => compL O n x t elt d r σ
noncomputable def iterU (k : IK) (vs : List V) (σ : List S) : Option (List D) := (iterOf k vs σ).bind fun p => gd p.2.isNone (some p.1)
noncomputable def compL2 (O : Ops) (n : Nat) (x : X) (x2 : X) (k2 : IK) (ia2 : List E) (t : Option E) (elt : E) (d : Dsc) : List D → List S → Res Unit
  | [], σ => ok () σ
  | it :: r, σ => (putX x d (.d it) σ).bind fun σ => bnd (evs O d ia2 σ) fun vs σ => (iterU k2 vs σ).bind fun items => bnd (compL O n x2 t elt d items σ) fun _ σ => compL2 O n x x2 k2 ia2 t elt d r σ
/-- what a part of a run may be handed of the owned things -/
noncomputable def S.part : S → Bool
  | .cell _ => true
  | .mlist _ => true
  | .mdict _ _ => true
  | _ => false
noncomputable def memB (n : Nat) : List Nat → Bool
  | [] => false
  | m :: r => match Nat.beq m n with
    | true => true
    | false => memB n r
noncomputable def subS : List Nat → List S → Option (List S)
  | [], _ => some []
  | j :: js, σ => gd (!memB j js) <| (σ[j]?).bind fun x => (subS js σ).bind fun r => gd x.part (some (x :: r))
/-- writes the first parts back, hands on the rest -/
noncomputable def backS : List Nat → List S → List S → Option (List S × List S)
  | [], σs, σ => some (σ, σs)
  | j :: js, σs, σ => match σs with
    | [] => none
    | x :: σs => gd x.part (backS js σs (σ.set j x))
noncomputable def cellsAt (d : Dsc) : List (Str × Nat) → Option (List Nat)
  | [] => some []
  | p :: r => (d.cells[p.2]?).bind fun n => (cellsAt d r).bind fun js => some (n :: js)
noncomputable def compDsc (nt : CNT) (m : Nat) : Dsc := ⟨m + 1, (List.range nt.own.length).map (fun i => m + 2 + i) ++ List.range m⟩
noncomputable def compSt (nt : CNT) (fs : List S) : List S := fs ++ (.mlist [] :: .frame (nt.loc.map fun _ => none) :: nt.own.map fun _ => .cell none)
noncomputable def frHd (σ : List S) : Bool := match σ with
  | .frame _ :: _ => true
  | _ => false
noncomputable def lstHd (σ : List S) : Option (List D) := match σ with
  | .mlist xs :: r => gd (frHd r) (some xs)
  | _ => none
noncomputable def compRun (nt : CNT) (d : Dsc) (σ : List S) (f : Nat → Dsc → List S → Res Unit) : Res V := (cellsAt d nt.free).bind fun js => (subS js σ).bind fun fs =>
  bnd (f js.length (compDsc nt js.length) (compSt nt fs)) fun _ σc => (backS js σc σ).bind fun p => (lstHd p.2).bind fun xs => ok (.d (.list xs)) p.1
/-- the refs of a call's arguments, numbered anew -/
noncomputable def refsOf : List V → Nat → List V × List Nat
  | [], _ => ([], [])
  | .d x :: r, k => (.d x :: (refsOf r k).1, (refsOf r k).2)
  | .ref n :: r, k => (.ref k :: (refsOf r (k + 1)).1, n :: (refsOf r (k + 1)).2)
noncomputable def opnS (x : S) : Option (List (List Nat × D)) := match x with
  | .mdict false es => some es
  | _ => none
noncomputable def retA (js : List Nat) (σ : List S) (v : V) (σ' rest : List S) : Res V := match rest with
  | [] => match v with
    | .d x => ok (.d x) σ'
    | .ref k => (js[k]?).bind fun n => ok (.ref n) σ'
  | x :: r => gd r.isEmpty ((refV v).bind fun k => (opnS x).bind fun es => gd (Nat.beq k js.length) (ok (.ref σ.length) (σ' ++ [.mdict false es])))
noncomputable def callAt (O : Ops) (f : Nat) (vs : List V) (σ : List S) : Res V := (subS (refsOf vs 0).2 σ).bind fun σs =>
  bnd (O.call f (refsOf vs 0).1 σs) fun r σs' => (backS (refsOf vs 0).2 σs' σ).bind fun p => retA (refsOf vs 0).2 σ r p.1 p.2
noncomputable def lookNN (k : Nat) : List (Nat × Nat) → Option Nat
  | [] => none
  | (j, v) :: r => match Nat.beq j k with
    | true => some v
    | false => lookNN k r
noncomputable def newS (σ : List S) : Option (Nat × List (Nat × D)) := match σ with
  | .inst c :: r => match r with
    | .idict _ fs :: r => gd r.isEmpty (some (c, fs))
    | _ => none
  | _ => none
noncomputable def eInt (e : E) : Option Int := match e with
  | .int i => some i
  | _ => none
noncomputable def evStep (G : Prog) (O : Ops) : E → Dsc → List S → Res V
  | .loc i, d, σ => opt (getX (.loc i) d σ) σ
  | .cel j, d, σ => opt (getX (.cel j) d σ) σ
  | .none, _, σ => ok (.d .none) σ
  | .bool b, _, σ => ok (.d (.bool b)) σ
  | .int i, _, σ => ok (.d (.int i)) σ
  | .str s, _, σ => ok (.d (.str s)) σ
  | .bin o fz a b, d, σ => bnd (O.ev a d σ) fun x σ => bnd (O.ev b d σ) fun y σ => evBin o fz x y σ
  | .neg a, d, σ => bnd (O.ev a d σ) fun x σ => (intV x).bind fun i => ok (.d (.int (-i))) σ
  | .cmp o a b, d, σ => boolV (cmpR O o a b d σ)
  | .is ng a b, d, σ => boolV (isR O ng a b d σ)
  | .inn a b, d, σ => boolV (innR O a b d σ)
  | .ite t a b, d, σ => bnd (tst O t d σ) fun c σ => match c with
    | true => O.ev a d σ
    | false => O.ev b d σ
  | .or _ _, _, _ => none
  | .not _, _, _ => none
  | .call f as, d, σ => bnd (evs O d as σ) fun vs σ => callAt O f vs σ
  | .new c as, d, σ => bnd (evs O d as σ) fun vs σ => (G.inits[c]?).bind fun f => (dats vs).bind fun _ => bnd (O.call f (.ref 0 :: vs) [.inst c, .idict c []]) fun v σn => gd (noV v) ((newS σn).bind fun p => gd (Nat.beq p.1 c) (ok (.d (.inst c p.2)) σ))
  | .meth m o as, d, σ => bnd (O.ev o d σ) fun x σ => bnd (evs O d as σ) fun vs σ => (insV x).bind fun p => (G.meths[p.1]?).bind fun ms => (lookNN m ms).bind fun f => callAt O f (.d (.inst p.1 p.2) :: vs) σ
  | .attr a o, d, σ => bnd (O.ev o d σ) fun x σ => els (insV x) (fun p => gd (Nat.blt p.1 2) ((lookN a p.2).bind fun v => ok (.d v) σ)) <| (refV x).bind fun n => (insA σ n).bind fun c => (idiA σ (n + 1)).bind fun p => gd (Nat.blt c 2) ((lookN a p.2).bind fun v => ok (.d v) σ)
  | .cattr c a, _, σ => (G.cattrs[c]?).bind fun fs => (lookN a fs).bind fun v => ok (.d v) σ
  | .len a, d, σ => bnd (O.ev a d σ) fun x σ => (lenV σ x).bind fun n => gd (room n) (ok (.d (.int n)) σ)
  | .max1 a, d, σ => bnd (O.ev a d σ) fun x σ => (litV x).bind fun xs => (intsOf xs).bind fun is => match is with
    | [] => none
    | i :: r => ok (.d (.int (maxL i r))) σ
  | .max2 a b, d, σ => bnd (O.ev a d σ) fun x σ => bnd (O.ev b d σ) fun y σ => int2 x y fun i j => ok (.d (.int (if i < j then j else i))) σ
  | .sortset a, d, σ => bnd (O.ev a d σ) fun x σ => (litV x).bind fun xs => (intsOf xs).bind fun is => gd (Nat.ble xs.length 60) (ok (.d (.list ((usort is).map .int))) σ)
  | .sortd a, d, σ => bnd (O.ev a d σ) fun x σ => (refV x).bind fun n => (dicA σ n).bind fun es => gd (Nat.ble es.length 60 && es.all fun p => p.1.all fun c => Nat.blt c 128) (ok (.d (.list ((ssort (es.map (·.1))).map .str))) σ)
  | .isi a ty, d, σ => bnd (O.ev a d σ) fun x σ => (intV x).bind fun _ => ok (.d (.bool (Nat.beq ty 0))) σ
  | .hasget a, d, σ => bnd (O.ev a d σ) fun x σ => els (strV x) (fun _ => ok (.d (.bool true)) σ) <| (tupV x).bind fun _ => ok (.d (.bool true)) σ
  | .tuple a, d, σ => bnd (O.ev a d σ) fun x σ => (lstOf σ x).bind fun xs => gd (room xs.length) (ok (.d (.tup xs)) σ)
  | .append o v, d, σ => bnd (O.ev o d σ) fun x σ => (refV x).bind fun n => (lisA σ n).bind fun _ => bnd (evD O v d σ) fun y σ => bnd (pushAt n y σ) fun _ σ => ok (.d .none) σ
  | .split o s, d, σ => bnd (O.ev o d σ) fun x σ => bnd (O.ev s d σ) fun y σ => (strV x).bind fun s => (strV y).bind fun l => (one1 l).bind fun c => gd (room s.length && Nat.blt c 256) (ok (.d (.list ((splitC c s).map .str))) σ)
  | .sub o i, d, σ => bnd (O.ev o d σ) fun x σ => bnd (O.ev i d σ) fun y σ => (evSub x y σ).bind fun v => ok (.d v) σ
  | .slc o l u, d, σ => bnd (O.ev o d σ) fun x σ =>
    bnd (optE O l d σ) fun l σ => bnd (optE O u d σ) fun u σ => evSlc x l u σ
  | .list fz xs, d, σ => bnd (evs O d xs σ) fun vs σ => (dats vs).bind fun ds => mkList fz ds σ
  | .tup xs, d, σ => bnd (evs O d xs σ) fun vs σ => (dats vs).bind fun ds => gd (room ds.length) (ok (.d (.tup ds)) σ)
  | .dict kvs, _, σ => match kvs with
    | [] => ok (.ref σ.length) (σ ++ [.mdict false []])
    | p :: r => gd r.isEmpty ((eInt p.2).bind fun i => ok (.ref σ.length) (σ ++ [.mdict false [(p.1, .int i)]]))
  | .comp1 nt x k ia t elt, d, σ => bnd (evs O d ia σ) fun vs σ => (iterU k vs σ).bind fun items => compRun nt d σ fun m d' σc => compL O m x t elt d' items σc
  | .comp2 nt x k ia x2 k2 ia2 t elt, d, σ => bnd (evs O d ia σ) fun vs σ => (iterU k vs σ).bind fun items => compRun nt d σ fun m d' σc => compL2 O m x x2 k2 ia2 t elt d' items σc
noncomputable def putAll : List X → Dsc → V → List S → Option (List S)
  | [], _, _, σ => some σ
  | x :: r, d, v, σ => (putX x d v σ).bind fun σ => putAll r d v σ
noncomputable def setAtV (o i : V) (v : D) (σ : List S) : Option (List S) := (refV o).bind fun n =>
  els (intV i) (fun k => (lisA σ n).bind fun xs => (placeOf k).bind fun j => gd (Nat.blt j xs.length) (some (σ.set n (.mlist (xs.set j v))))) <|
  (strV i).bind fun k => (opnA σ n).bind fun es => gd (room es.length) (some (σ.set n (.mdict false (putS k v es))))
noncomputable def opI (o : BO) (x y : Int) (σ : List S) : Res Int := match o with
  | .add => ok (x + y) σ
  | .mul => some (x * y, σ, [.mul x y])
  | _ => none
noncomputable def forL (O : Ops) (xs : List X) (tupl : Bool) (b : List T) (d : Dsc) : List D → List S → Res Fl
  | [], σ => ok .next σ
  | it :: r, σ => (putTarget xs tupl d it σ).bind fun σ => bnd (O.ex b d σ) fun f σ => match f with
      | .next => forL O xs tupl b d r σ
      | .brk => ok .next σ
      | .ret v => ok (.ret v) σ
noncomputable def nextS (o : Option (List S)) : Res Fl := o.bind fun σ => ok .next σ
noncomputable def exT (O : Ops) : T → Dsc → List S → Res Fl
  | .asg x e, d, σ => bnd (O.ev e d σ) fun v σ => nextS (putX x d v σ)
  | .asgs xs e, d, σ => bnd (O.ev e d σ) fun v σ => nextS (putAll xs d v σ)
  | .two x y a b, d, σ => bnd (evD O a d σ) fun v σ => bnd (evD O b d σ) fun w σ => nextS (putXs [y, x] [w, v] d σ)
  | .unp xs e, d, σ => bnd (evD O e d σ) fun v σ => (tupV (.d v)).bind fun vs => nextS (putXs xs vs d σ)
  | .sets o i e, d, σ => bnd (evD O e d σ) fun v σ => bnd (O.ev o d σ) fun ov σ => bnd (O.ev i d σ) fun iv σ => nextS (setAtV ov iv v σ)
  | .aug x o e, d, σ => bnd (opt (getX x d σ) σ) fun v σ => bnd (O.ev e d σ) fun w σ => int2 v w fun i j => bnd (opI o i j σ) fun r σ => nextS (putX x d (.d (.int r)) σ)
  | .augs o i op e, d, σ => bnd (O.ev o d σ) fun ov σ => bnd (O.ev i d σ) fun iv σ => bnd (opt (evSub ov iv σ) σ) fun v σ => bnd (O.ev e d σ) fun w σ => int2 (.d v) w fun i j => bnd (opI op i j σ) fun r σ => nextS (setAtV ov iv (.int r) σ)
  | .seta a o e, d, σ => bnd (evD O e d σ) fun v σ => bnd (O.ev o d σ) fun ov σ => (refV ov).bind fun n => (insA σ n).bind fun c0 => (idiA σ (n + 1)).bind fun p => gd (Nat.blt c0 2) <| gd (Nat.ble p.2.length 500) <| (frA σ d.fr).bind fun _ => ok .next (σ.set (n + 1) (.idict p.1 (putN a v p.2)))
  | .ite t b o, d, σ => bnd (tst O t d σ) fun c σ => match c with
    | true => O.ex b d σ
    | false => O.ex o d σ
  | .for1 xs tupl k ia b, d, σ => bnd (evs O d ia σ) fun vs σ => (iterOf k vs σ).bind fun p => bnd (forL O xs tupl b d p.1 (lockAs true p.2 σ)) fun f σ' => ok f (unlock p.2 σ σ')
  | .brk, _, σ => ok .brk σ
  | .dead, _, _ => none
  | .ret e, d, σ => bnd (O.ev e d σ) fun v σ => ok (.ret v) σ
  | .exp e, d, σ => bnd (O.ev e d σ) fun v σ => gd (noV v) (ok .next σ)
noncomputable def exStep (O : Ops) : List T → Dsc → List S → Res Fl
  | [], _, σ => ok .next σ
  | t :: r, d, σ => bnd (exT O t d σ) fun f σ => match f with
    | .next => exStep O r d σ
    | f => ok f σ
noncomputable def callSt (F : FnD) (args : List V) (σ : List S) : List S := σ ++ (.frame (args.map some ++ List.replicate (F.nm.length - args.length) none) :: F.cel.map fun _ => .cell none)
noncomputable def callDsc (F : FnD) (n : Nat) : Dsc := ⟨n, (List.range F.cel.length).map fun i => n + 1 + i⟩
noncomputable def S.still : S → Bool
  | .frame _ => false
  | _ => true
noncomputable def lastB : List S → Bool
  | [] => true
  | [.inst _] => false
  | _ :: r => lastB r
/-- the first n entries, where none is a frame and the last is no object without its dict -/
noncomputable def cutAt : Nat → List S → Option (List S)
  | 0, _ => some []
  | n + 1, σ => match σ with
    | [] => none
    | x :: σ => gd x.still <| (cutAt n σ).bind fun r => gd (lastB (x :: r)) (some (x :: r))
noncomputable def retE (n k : Nat) (σ σ' : List S) : Res V := match Nat.blt k n with
  | true => ok (.ref k) σ'
  | false => els (lisA σ k) (fun xs => ok (.d (.list xs)) σ') <| (opnA σ k).bind fun es => ok (.ref n) (σ' ++ [.mdict false es])
noncomputable def callEnd (n : Nat) (f : Fl) (σ : List S) : Res V := (cutAt n σ).bind fun σ' => match f with
  | .next => ok (.d .none) σ'
  | .brk => ok (.d .none) σ'
  | .ret v => match v with
    | .d x => ok (.d x) σ'
    | .ref k => retE n k σ σ'
noncomputable abbrev Orc := Nat → Option (List V → List S → Res V)
noncomputable def callStep (G : Prog) (R : Orc) (O : Ops) (f : Nat) (args : List V) (σ : List S) : Res V := match R f with
  | some g => g args σ
  | none => (G.fns[f]?).bind fun F => gd (Nat.beq args.length F.np) <| bnd (O.ex F.body (callDsc F σ.length) (callSt F args σ)) fun fl σ' => callEnd σ.length fl σ'
noncomputable def step (G : Prog) (R : Orc) (O : Ops) : Ops := ⟨evStep G O, exStep O, callStep G R O⟩
noncomputable def run (G : Prog) (R : Orc) : Nat → Ops
  | 0 => ⟨fun _ _ _ => none, fun _ _ _ => none, fun _ _ _ => none⟩
  | n + 1 => step G R (run G R n)
noncomputable def noOrc : Orc := fun _ => none
end Mine
end
section
namespace Mine
open PySem
/-- TupleComp.__init__: locals ['self', 'comp_select_list'], cells [] -/
noncomputable def s_TupleComp_init_0 : T := .seta 0 (.loc 0) (.loc 1)
noncomputable def f_TupleComp_init : FnD := ⟨[Str.ofString "self", Str.ofString "comp_select_list"], 2, [], [s_TupleComp_init_0]⟩
/-- TupleComp.compare: locals ['self', 'left', 'right', 'index', 'direction', 'l', 'r'], cells [] -/
noncomputable def s_TupleComp_compare_0 : T := .for1 [.loc 3, .loc 4] true .val [.attr 0 (.loc 0)] [.asg (.loc 5) (.sub (.loc 1) (.loc 3)), .asg (.loc 6) (.sub (.loc 2) (.loc 3)), .ite (.cmp .lt (.loc 5) (.loc 6)) [.ret (.neg (.loc 4))] [], .ite (.cmp .gt (.loc 5) (.loc 6)) [.ret (.loc 4)] []]
noncomputable def s_TupleComp_compare_1 : T := .ret (.int 0)
noncomputable def f_TupleComp_compare : FnD := ⟨[Str.ofString "self", Str.ofString "left", Str.ofString "right", Str.ofString "index", Str.ofString "direction", Str.ofString "l", Str.ofString "r"], 3, [], [s_TupleComp_compare_0, s_TupleComp_compare_1]⟩
/-- add_callers: locals ['target', 'source', 'new_callers', 'func', 'caller'], cells [] -/
noncomputable def s_add_callers_0 : T := .asg (.loc 2) (.dict [])
noncomputable def s_add_callers_1 : T := .for1 [.loc 3, .loc 4] true .items [.loc 0] [.sets (.loc 2) (.loc 3) (.loc 4)]
noncomputable def s_add_callers_2 : T := .for1 [.loc 3, .loc 4] true .items [.loc 1] [.ite (.inn (.loc 3) (.loc 2)) [.ite (.isi (.loc 4) 2) [.dead] [.augs (.loc 2) (.loc 3) .add (.loc 4)]] [.sets (.loc 2) (.loc 3) (.loc 4)]]
noncomputable def s_add_callers_3 : T := .ret (.loc 2)
noncomputable def f_add_callers : FnD := ⟨[Str.ofString "target", Str.ofString "source", Str.ofString "new_callers", Str.ofString "func", Str.ofString "caller"], 2, [], [s_add_callers_0, s_add_callers_1, s_add_callers_2, s_add_callers_3]⟩
/-- count_calls: locals ['callers', 'nc', 'calls'], cells [] -/
noncomputable def s_count_calls_0 : T := .asg (.loc 1) (.int 0)
noncomputable def s_count_calls_1 : T := .for1 [.loc 2] false .vals [.loc 0] [.aug (.loc 1) .add (.loc 2)]
noncomputable def s_count_calls_2 : T := .ret (.loc 1)
noncomputable def f_count_calls : FnD := ⟨[Str.ofString "callers", Str.ofString "nc", Str.ofString "calls"], 1, [], [s_count_calls_0, s_count_calls_1, s_count_calls_2]⟩
/-- mul: locals ['a', 'b'], cells [] -/
noncomputable def s_mul_0 : T := .ret (.bin .mul true (.loc 0) (.loc 1))
noncomputable def f_mul : FnD := ⟨[Str.ofString "a", Str.ofString "b"], 2, [], [s_mul_0]⟩
/-- neg: locals ['a'], cells [] -/
noncomputable def s_neg_0 : T := .ret (.neg (.loc 0))
noncomputable def f_neg : FnD := ⟨[Str.ofString "a"], 1, [], [s_neg_0]⟩
/-- concat: locals ['a', 'b', 'msg'], cells [] -/
noncomputable def s_concat_0 : T := .ite (.not (.hasget (.loc 0))) [.dead, .dead] []
noncomputable def s_concat_1 : T := .ret (.bin .add true (.loc 0) (.loc 1))
noncomputable def f_concat : FnD := ⟨[Str.ofString "a", Str.ofString "b", Str.ofString "msg"], 2, [], [s_concat_0, s_concat_1]⟩
/-- setitem: locals ['a', 'b', 'c'], cells [] -/
noncomputable def s_setitem_0 : T := .sets (.loc 0) (.loc 1) (.loc 2)
noncomputable def f_setitem : FnD := ⟨[Str.ofString "a", Str.ofString "b", Str.ofString "c"], 3, [], [s_setitem_0]⟩
/-- Whitespace.__init__: locals ['self', 'ws', 'S', 'T', 'count', 'b', 'n', 'nt', 'ch'], cells [] -/
noncomputable def s_Whitespace_init_0 : T := .seta 1 (.loc 0) (.loc 1)
noncomputable def s_Whitespace_init_1 : T := .two (.loc 2) (.loc 3) (.cattr 1 6) (.cattr 1 7)
noncomputable def s_Whitespace_init_2 : T := .asg (.loc 4) (.list false [])
noncomputable def s_Whitespace_init_3 : T := .asgs [.loc 5, .loc 6, .loc 7] (.int 0)
noncomputable def s_Whitespace_init_4 : T := .for1 [.loc 8] false .val [.attr 1 (.loc 0)] [.ite (.cmp .eq (.loc 8) (.loc 2)) [.asg (.loc 6) (.bin .add true (.loc 6) (.int 1)), .asg (.loc 5) (.bin .add true (.loc 5) (.int 1))] [.ite (.cmp .eq (.loc 8) (.loc 3)) [.asg (.loc 6) (.bin .add true (.loc 6) (.int 1)), .asg (.loc 7) (.bin .add true (.loc 7) (.int 1)), .ite (.cmp .ge (.loc 5) (.len (.loc 4))) [.asg (.loc 4) (.bin .add false (.loc 4) (.bin .mul true (.list true [.int 0]) (.bin .add true (.bin .sub true (.loc 5) (.len (.loc 4))) (.int 1))))] [], .sets (.loc 4) (.loc 5) (.bin .add true (.sub (.loc 4) (.loc 5)) (.int 1)), .asg (.loc 5) (.int 0)] [.brk]]]
noncomputable def s_Whitespace_init_5 : T := .seta 2 (.loc 0) (.loc 6)
noncomputable def s_Whitespace_init_6 : T := .seta 3 (.loc 0) (.loc 7)
noncomputable def s_Whitespace_init_7 : T := .seta 4 (.loc 0) (.tup [.tuple (.loc 4), .loc 5])
noncomputable def s_Whitespace_init_8 : T := .seta 5 (.loc 0) (.cmp .le (.len (.loc 4)) (.int 1))
noncomputable def f_Whitespace_init : FnD := ⟨[Str.ofString "self", Str.ofString "ws", Str.ofString "S", Str.ofString "T", Str.ofString "count", Str.ofString "b", Str.ofString "n", Str.ofString "nt", Str.ofString "ch"], 2, [], [s_Whitespace_init_0, s_Whitespace_init_1, s_Whitespace_init_2, s_Whitespace_init_3, s_Whitespace_init_4, s_Whitespace_init_5, s_Whitespace_init_6, s_Whitespace_init_7, s_Whitespace_init_8]⟩
/-- Whitespace.longest_run_of_spaces: locals ['self', 'count', 'trailing'], cells [] -/
noncomputable def s_Whitespace_longest_run_of_spaces_0 : T := .unp [.loc 1, .loc 2] (.attr 4 (.loc 0))
noncomputable def s_Whitespace_longest_run_of_spaces_1 : T := .ret (.max2 (.bin .sub true (.len (.loc 1)) (.int 1)) (.loc 2))
noncomputable def f_Whitespace_longest_run_of_spaces : FnD := ⟨[Str.ofString "self", Str.ofString "count", Str.ofString "trailing"], 1, [], [s_Whitespace_longest_run_of_spaces_0, s_Whitespace_longest_run_of_spaces_1]⟩
/-- Whitespace.indent_level: locals ['self', 'tabsize', 'count', 'trailing', 'il', 'i'], cells [] -/
noncomputable def s_Whitespace_indent_level_0 : T := .unp [.loc 2, .loc 3] (.attr 4 (.loc 0))
noncomputable def s_Whitespace_indent_level_1 : T := .asg (.loc 4) (.int 0)
noncomputable def s_Whitespace_indent_level_2 : T := .for1 [.loc 5] false .range [.loc 1, .len (.loc 2)] [.asg (.loc 4) (.bin .add true (.loc 4) (.bin .mul true (.bin .fdiv true (.loc 5) (.loc 1)) (.sub (.loc 2) (.loc 5))))]
noncomputable def s_Whitespace_indent_level_3 : T := .ret (.bin .add true (.loc 3) (.bin .mul true (.loc 1) (.bin .add true (.loc 4) (.attr 3 (.loc 0)))))
noncomputable def f_Whitespace_indent_level : FnD := ⟨[Str.ofString "self", Str.ofString "tabsize", Str.ofString "count", Str.ofString "trailing", Str.ofString "il", Str.ofString "i"], 2, [], [s_Whitespace_indent_level_0, s_Whitespace_indent_level_1, s_Whitespace_indent_level_2, s_Whitespace_indent_level_3]⟩
/-- Whitespace.equal: locals ['self', 'other'], cells [] -/
noncomputable def s_Whitespace_equal_0 : T := .ret (.cmp .eq (.attr 4 (.loc 0)) (.attr 4 (.loc 1)))
noncomputable def f_Whitespace_equal : FnD := ⟨[Str.ofString "self", Str.ofString "other"], 2, [], [s_Whitespace_equal_0]⟩
/-- Whitespace.not_equal_witness: locals ['self', 'other', 'n', 'a', 'ts'], cells [] -/
noncomputable def s_Whitespace_not_equal_witness_0 : T := .asg (.loc 2) (.bin .add true (.max2 (.meth 1 (.loc 0) []) (.meth 1 (.loc 1) [])) (.int 1))
noncomputable def s_Whitespace_not_equal_witness_1 : T := .asg (.loc 3) (.list false [])
noncomputable def s_Whitespace_not_equal_witness_2 : T := .for1 [.loc 4] false .range [.int 1, .bin .add true (.loc 2) (.int 1)] [.ite (.cmp .ne (.meth 2 (.loc 0) [.loc 4]) (.meth 2 (.loc 1) [.loc 4])) [.exp (.append (.loc 3) (.tup [.loc 4, .meth 2 (.loc 0) [.loc 4], .meth 2 (.loc 1) [.loc 4]]))] []]
noncomputable def s_Whitespace_not_equal_witness_3 : T := .ret (.loc 3)
noncomputable def f_Whitespace_not_equal_witness : FnD := ⟨[Str.ofString "self", Str.ofString "other", Str.ofString "n", Str.ofString "a", Str.ofString "ts"], 2, [], [s_Whitespace_not_equal_witness_0, s_Whitespace_not_equal_witness_1, s_Whitespace_not_equal_witness_2, s_Whitespace_not_equal_witness_3]⟩
/-- _law_cells: locals ['script', 'cells', 'place'], cells [] -/
noncomputable def s_law_cells_0 : T := .asg (.loc 1) (.list false [.int 18, .int 4, .int 3, .int 1, .int 0, .int 17, .int 2, .neg (.int 3), .int 5, .int 7, .int 11, .int 0])
noncomputable def s_law_cells_1 : T := .for1 [.loc 2] false .range [.len (.loc 0)] [.augs (.loc 1) (.bin .mod true (.loc 2) (.int 12)) .add (.sub (.loc 0) (.loc 2))]
noncomputable def s_law_cells_2 : T := .ret (.loc 1)
noncomputable def f_law_cells : FnD := ⟨[Str.ofString "script", Str.ofString "cells", Str.ofString "place"], 1, [], [s_law_cells_0, s_law_cells_1, s_law_cells_2]⟩
/-- _law_lead: locals ['cell', 'shapes'], cells [] -/
noncomputable def s_law_lead_0 : T := .asg (.loc 1) (.list true [.str [32, 32, 9], .str [9, 32, 9], .str [32, 9, 9], .str [32, 32, 32, 9], .str [32, 9, 32, 9], .str [9, 32, 32, 9], .str [9, 9, 9], .str [32, 32, 9, 32, 32, 9, 9], .str [32, 32, 9, 32, 9, 32, 9], .str []])
noncomputable def s_law_lead_1 : T := .ret (.bin .add true (.sub (.loc 1) (.bin .mod true (.loc 0) (.int 10))) (.bin .mul true (.str [32]) (.bin .mod true (.bin .fdiv true (.loc 0) (.int 10)) (.int 4))))
noncomputable def f_law_lead : FnD := ⟨[Str.ofString "cell", Str.ofString "shapes"], 1, [], [s_law_lead_0, s_law_lead_1]⟩
/-- _law_columns: locals ['lead', 'columns', 'size', 'column', 'sign'], cells [] -/
noncomputable def s_law_columns_0 : T := .asg (.loc 1) (.list false [])
noncomputable def s_law_columns_1 : T := .for1 [.loc 2] false .range [.int 1, .int 5] [.asg (.loc 3) (.int 0), .for1 [.loc 4] false .val [.loc 0] [.asg (.loc 3) (.ite (.cmp .eq (.loc 4) (.str [32])) (.bin .add true (.loc 3) (.int 1)) (.bin .add true (.bin .sub true (.loc 3) (.bin .mod true (.loc 3) (.loc 2))) (.loc 2)))], .exp (.append (.loc 1) (.loc 3))]
noncomputable def s_law_columns_2 : T := .ret (.loc 1)
noncomputable def f_law_columns : FnD := ⟨[Str.ofString "lead", Str.ofString "columns", Str.ofString "size", Str.ofString "column", Str.ofString "sign"], 1, [], [s_law_columns_0, s_law_columns_1, s_law_columns_2]⟩
/-- _law_worth: locals ['heap', 'turns', 'worth', 'odd', 'part'], cells ['column'] -/
noncomputable def s_law_worth_0 : T := .ite (.cmp .lt (.len (.loc 0)) (.int 2)) [.ret (.int 1)] []
noncomputable def s_law_worth_1 : T := .asg (.loc 2) (.int 1)
noncomputable def s_law_worth_2 : T := .asg (.loc 3) (.int 0)
noncomputable def s_law_worth_3 : T := .for1 [.cel 0] false .val [.sortset (.comp1 ⟨[Str.ofString "row"], [], []⟩ (.loc 0) .val [.loc 0] none (.sub (.loc 0) (.int 0)))] [.asg (.loc 4) (.comp1 ⟨[Str.ofString "row"], [], [(Str.ofString "column", 0)]⟩ (.loc 0) .val [.loc 0] (some (.cmp .eq (.sub (.loc 0) (.int 0)) (.cel 0))) (.slc (.loc 0) (some (.int 1)) none)), .aug (.loc 3) .add (.bin .mod true (.len (.loc 4)) (.int 2)), .aug (.loc 2) .mul (.call 16 [.loc 4, .slc (.loc 1) (some (.int 1)) none])]
noncomputable def s_law_worth_4 : T := .ret (.bin .mul true (.loc 2) (.bin .pow true (.neg (.sub (.loc 1) (.int 0))) (.bin .fdiv true (.loc 3) (.int 2))))
noncomputable def f_law_worth : FnD := ⟨[Str.ofString "heap", Str.ofString "turns", Str.ofString "worth", Str.ofString "odd", Str.ofString "part"], 2, [Str.ofString "column"], [s_law_worth_0, s_law_worth_1, s_law_worth_2, s_law_worth_3, s_law_worth_4]⟩
/-- _law_pairings: locals ['told', 'nothing', 'left', 'step', 'further', 'text', 'ways', 'k', 'way', 'laid'], cells [] -/
noncomputable def s_law_pairings_0 : T := .asg (.loc 1) (.dict [])
noncomputable def s_law_pairings_1 : T := .asg (.loc 2) (.dict [([97, 98, 99, 100, 101, 102], .int 1)])
noncomputable def s_law_pairings_2 : T := .for1 [.loc 3] false .range [.int 2] [.asg (.loc 4) (.loc 1), .for1 [.loc 5] false .val [.loc 2] [.asg (.loc 6) (.dict []), .for1 [.loc 7] false .range [.int 1, .len (.loc 5)] [.asg (.loc 8) (.call 4 [.sub (.loc 2) (.loc 5), .sub (.loc 0) (.bin .add true (.sub (.loc 5) (.int 0)) (.sub (.loc 5) (.loc 7)))]), .exp (.call 7 [.loc 6, .call 6 [.slc (.loc 5) (some (.int 1)) (some (.loc 7)), .slc (.loc 5) (some (.bin .add true (.loc 7) (.int 1))) none], .ite (.cmp .eq (.bin .mod true (.loc 7) (.int 2)) (.int 0)) (.call 5 [.loc 8]) (.loc 8)])], .asg (.loc 9) (.call 2 [.loc 4, .loc 6]), .ite (.or (.is false (.loc 9) (.loc 4)) (.is false (.loc 9) (.loc 6))) [.ret (.none)] [], .asg (.loc 4) (.loc 9)], .asg (.loc 2) (.loc 4)]
noncomputable def s_law_pairings_3 : T := .ite (.cmp .ne (.sortd (.loc 2)) (.list true [.str [99, 100], .str [99, 101], .str [99, 102], .str [100, 101], .str [100, 102], .str [101, 102]])) [.ret (.none)] []
noncomputable def s_law_pairings_4 : T := .for1 [.loc 5] false .val [.sortd (.loc 2)] [.ite (.is true (.call 7 [.loc 2, .loc 5, .call 4 [.sub (.loc 2) (.loc 5), .sub (.loc 0) (.loc 5)]]) (.none)) [.ret (.none)] []]
noncomputable def s_law_pairings_5 : T := .ret (.call 3 [.loc 2])
noncomputable def f_law_pairings : FnD := ⟨[Str.ofString "told", Str.ofString "nothing", Str.ofString "left", Str.ofString "step", Str.ofString "further", Str.ofString "text", Str.ofString "ways", Str.ofString "k", Str.ofString "way", Str.ofString "laid"], 1, [], [s_law_pairings_0, s_law_pairings_1, s_law_pairings_2, s_law_pairings_3, s_law_pairings_4, s_law_pairings_5]⟩
/-- law: locals ['script', 'comp', 'whites', 'rows', 'k', 'row', 'size', 'told', 'i', 'j', 'way', 'longest', 'witness', 'falls', 'worth'], cells ['cells', 'sizes', 'keys', 'turns', 'leads', 'columns', 'keyed'] -/
noncomputable def s_law_0 : T := .asg (.cel 0) (.call 13 [.loc 0])
noncomputable def s_law_1 : T := .asg (.cel 1) (.comp1 ⟨[Str.ofString "k"], [], [(Str.ofString "cells", 0)]⟩ (.loc 0) .range [.int 4] none (.bin .add true (.bin .mod true (.bin .add true (.sub (.cel 0) (.int 11)) (.loc 0)) (.int 4)) (.int 1)))
noncomputable def s_law_2 : T := .ite (.cmp .eq (.bin .mod true (.bin .fdiv true (.sub (.cel 0) (.int 11)) (.int 4)) (.int 2)) (.int 1)) [.asg (.cel 1) (.comp1 ⟨[Str.ofString "k"], [], [(Str.ofString "sizes", 1)]⟩ (.loc 0) .range [.int 4] none (.sub (.cel 0) (.bin .sub true (.int 3) (.loc 0))))] []
noncomputable def s_law_3 : T := .asg (.cel 2) (.bin .add true (.cel 1) (.list true [.int 0]))
noncomputable def s_law_4 : T := .asg (.cel 3) (.bin .add true (.comp1 ⟨[Str.ofString "size"], [], [(Str.ofString "cells", 0)]⟩ (.loc 0) .val [.cel 1] none (.sub (.cel 0) (.bin .add true (.int 5) (.loc 0)))) (.list true [.sub (.cel 0) (.int 10)]))
noncomputable def s_law_5 : T := .asg (.loc 1) (.new 0 [.comp1 ⟨[Str.ofString "k"], [], [(Str.ofString "keys", 2), (Str.ofString "turns", 3)]⟩ (.loc 0) .range [.int 5] none (.tup [.sub (.cel 0) (.loc 0), .sub (.cel 1) (.loc 0)])])
noncomputable def s_law_6 : T := .asg (.cel 4) (.comp1 ⟨[Str.ofString "cell"], [], []⟩ (.loc 0) .val [.slc (.cel 0) none (some (.int 6))] none (.call 14 [.loc 0]))
noncomputable def s_law_7 : T := .asg (.loc 2) (.comp1 ⟨[Str.ofString "k"], [], [(Str.ofString "leads", 4)]⟩ (.loc 0) .range [.int 6] none (.new 1 [.bin .add true (.sub (.cel 0) (.loc 0)) (.slc (.str [120, 9, 32]) none (some (.loc 0)))]))
noncomputable def s_law_8 : T := .asg (.cel 5) (.comp1 ⟨[Str.ofString "lead"], [], []⟩ (.loc 0) .val [.cel 4] none (.call 15 [.loc 0]))
noncomputable def s_law_9 : T := .asg (.cel 6) (.comp1 ⟨[], [Str.ofString "k"], [(Str.ofString "columns", 5), (Str.ofString "sizes", 1)]⟩ (.cel 0) .range [.int 6] none (.bin .add true (.comp1 ⟨[Str.ofString "size"], [], [(Str.ofString "columns", 1), (Str.ofString "k", 0)]⟩ (.loc 0) .val [.cel 2] none (.sub (.sub (.cel 0) (.cel 1)) (.bin .sub true (.loc 0) (.int 1)))) (.list true [.cel 0])))
noncomputable def s_law_10 : T := .asg (.loc 3) (.list false [])
noncomputable def s_law_11 : T := .for1 [.loc 4] false .range [.int 6] [.asg (.loc 5) (.tup [.loc 4]), .for1 [.loc 6] false .range [.int 1, .int 5] [.asg (.loc 5) (.call 6 [.loc 5, .tup [.meth 2 (.sub (.loc 2) (.loc 4)) [.loc 6]]])], .ite (.or (.cmp .ne (.loc 5) (.tuple (.bin .add true (.list true [.loc 4]) (.sub (.cel 5) (.loc 4))))) (.cmp .ne (.comp1 ⟨[Str.ofString "number"], [], []⟩ (.loc 0) .val [.loc 5] (some (.not (.isi (.loc 0) 0))) (.loc 0)) (.list true []))) [.ret (.bool false)] [], .ite (.cmp .ne (.meth 1 (.sub (.loc 2) (.loc 4)) []) (.max1 (.comp1 ⟨[Str.ofString "piece"], [], []⟩ (.loc 0) .val [.split (.sub (.cel 4) (.loc 4)) (.str [9])] none (.len (.loc 0))))) [.ret (.bool false)] [], .exp (.append (.loc 3) (.loc 5))]
noncomputable def s_law_12 : T := .asg (.loc 7) (.dict [])
noncomputable def s_law_13 : T := .for1 [.loc 8] false .range [.int 6] [.for1 [.loc 9] false .range [.loc 8, .int 6] [.asg (.loc 10) (.meth 0 (.loc 1) [.sub (.loc 3) (.loc 8), .sub (.loc 3) (.loc 9)]), .ite (.or (.isi (.loc 10) 1) (.cmp .ne (.meth 0 (.loc 1) [.sub (.loc 3) (.loc 9), .sub (.loc 3) (.loc 8)]) (.neg (.loc 10)))) [.ret (.bool false)] [], .sets (.loc 7) (.bin .add true (.sub (.str [97, 98, 99, 100, 101, 102]) (.loc 8)) (.sub (.str [97, 98, 99, 100, 101, 102]) (.loc 9))) (.loc 10)]]
noncomputable def s_law_14 : T := .for1 [.loc 8] false .range [.int 6] [.asg (.loc 9) (.bin .mod true (.bin .add true (.loc 8) (.int 1)) (.int 6)), .asg (.loc 11) (.max1 (.comp1 ⟨[Str.ofString "piece"], [], []⟩ (.loc 0) .val [.split (.bin .add true (.bin .add true (.sub (.cel 4) (.loc 8)) (.str [9])) (.sub (.cel 4) (.loc 9))) (.str [9])] none (.len (.loc 0)))), .asg (.loc 12) (.list false []), .for1 [.loc 6] false .range [.int 1, .bin .add true (.loc 11) (.int 2)] [.ite (.cmp .ne (.sub (.sub (.cel 5) (.loc 8)) (.bin .sub true (.loc 6) (.int 1))) (.sub (.sub (.cel 5) (.loc 9)) (.bin .sub true (.loc 6) (.int 1)))) [.exp (.append (.loc 12) (.tup [.loc 6, .sub (.sub (.cel 5) (.loc 8)) (.bin .sub true (.loc 6) (.int 1)), .sub (.sub (.cel 5) (.loc 9)) (.bin .sub true (.loc 6) (.int 1))]))] []], .ite (.or (.cmp .ne (.meth 4 (.sub (.loc 2) (.loc 8)) [.sub (.loc 2) (.loc 9)]) (.loc 12)) (.is true (.meth 3 (.sub (.loc 2) (.loc 8)) [.sub (.loc 2) (.loc 9)]) (.cmp .eq (.loc 12) (.list true [])))) [.ret (.bool false)] []]
noncomputable def s_law_15 : T := .asg (.loc 13) (.len (.comp2 ⟨[Str.ofString "j", Str.ofString "i"], [], [(Str.ofString "keyed", 6)]⟩ (.loc 0) .range [.int 6] (.loc 1) .range [.loc 0] (some (.cmp .gt (.sub (.cel 0) (.loc 1)) (.sub (.cel 0) (.loc 0)))) (.int 1)))
noncomputable def s_law_16 : T := .asg (.loc 14) (.call 16 [.cel 6, .cel 3])
noncomputable def s_law_17 : T := .ret (.cmp .eq (.call 17 [.loc 7]) (.ite (.cmp .eq (.bin .mod true (.loc 13) (.int 2)) (.int 1)) (.neg (.loc 14)) (.loc 14)))
noncomputable def f_law : FnD := ⟨[Str.ofString "script", Str.ofString "comp", Str.ofString "whites", Str.ofString "rows", Str.ofString "k", Str.ofString "row", Str.ofString "size", Str.ofString "told", Str.ofString "i", Str.ofString "j", Str.ofString "way", Str.ofString "longest", Str.ofString "witness", Str.ofString "falls", Str.ofString "worth"], 1, [Str.ofString "cells", Str.ofString "sizes", Str.ofString "keys", Str.ofString "turns", Str.ofString "leads", Str.ofString "columns", Str.ofString "keyed"], [s_law_0, s_law_1, s_law_2, s_law_3, s_law_4, s_law_5, s_law_6, s_law_7, s_law_8, s_law_9, s_law_10, s_law_11, s_law_12, s_law_13, s_law_14, s_law_15, s_law_16, s_law_17]⟩
noncomputable def prg : Prog := ⟨[f_TupleComp_init, f_TupleComp_compare, f_add_callers, f_count_calls, f_mul, f_neg, f_concat, f_setitem, f_Whitespace_init, f_Whitespace_longest_run_of_spaces, f_Whitespace_indent_level, f_Whitespace_equal, f_Whitespace_not_equal_witness, f_law_cells, f_law_lead, f_law_columns, f_law_worth, f_law_pairings, f_law], [0, 8], [[(0, 1)], [(1, 9), (2, 10), (3, 11), (4, 12)]], [[], [(6, .str [32]), (7, .str [9])]]⟩
end Mine
-- 0 TupleComp.__init__
-- 1 TupleComp.compare
-- 2 add_callers
-- 3 count_calls
-- 4 mul
-- 5 neg
-- 6 concat
-- 7 setitem
-- 8 Whitespace.__init__
-- 9 Whitespace.longest_run_of_spaces
-- 10 Whitespace.indent_level
-- 11 Whitespace.equal
-- 12 Whitespace.not_equal_witness
-- 13 _law_cells
-- 14 _law_lead
-- 15 _law_columns
-- 16 _law_worth
-- 17 _law_pairings
-- 18 law
end
section
open PySem PySem.Calls PyProof.Rows PySem.W
namespace Mine
/-- whatever a part hands on -/
def So {α : Type} (r : Option α) (Q : α → Prop) : Prop := ∀ a, r = some a → Q a
section
variable {α β : Type} {Q : α → Prop}
theorem So.nil : So Option.none Q := fun _ h => nomatch h
theorem So.just {a : α} (h : Q a) : So (Option.some a) Q := fun _ e => Option.some.inj e ▸ h
theorem So.gd {b : Bool} {r : Option α} (h : b = true → So r Q) : So (Mine.gd b r) Q := match b, h with
  | true, h => h rfl
  | false, _ => So.nil
theorem So.bind {o : Option β} {f : β → Option α} (h : So o fun b => So (f b) Q) : So (o.bind f) Q := match o, h with
  | .some _, h => h _ rfl
  | .none, _ => So.nil
theorem So.map {o : Option β} {f : β → α} (h : So o fun b => Q (f b)) : So (o.map f) Q := match o, h with
  | .some _, h => So.just (h _ rfl)
  | .none, _ => So.nil
theorem So.imp {r : Option α} {Q' : α → Prop} (h : So r Q) (k : ∀ a, Q a → Q' a) : So r Q' := fun a e => k a (h a e)
theorem So.skip {γ : Type} {f : γ → Option α} {g : Option α} (h : So g Q) : So (Mine.els Option.none f g) Q := h
theorem So.step {a : β} {f : β → Option α} (h : So (f a) Q) : So ((Option.some a).bind f) Q := h
end
structure Cx where
  prog : Program
  w : World
  h₀ : Heap
  os₀ : OsState
  ca : Nat → Addr
  fa : Nat → Addr
  an : Nat → Str
noncomputable abbrev PH := Addr → Option Obj
noncomputable abbrev Phi := List (Addr × List Str)
noncomputable def All2 {α β : Type} (R : α → β → Prop) (xs : List α) (ys : List β) : Prop := xs.length = ys.length ∧ ∀ (i : Nat) (x : α) (y : β), xs[i]? = some x → ys[i]? = some y → R x y
noncomputable abbrev tupOf (its : Array Value) (n : Nat) : Obj := { cls := .type "tuple", data := .seq its n }
inductive DIs (C : Cx) (P : PH) : D → Value → Prop where
  | none : DIs C P .none .none
  | bool (b : Bool) : DIs C P (.bool b) (.bool b)
  | int (i : Int) (t : Tok) : DIs C P (.int i) (.int i t)
  | str (s : List Nat) (t : Tok) : DIs C P (.str s) (.str ⟨s.toArray⟩ t)
  | list {a : Addr} {vs : List Value} {n : Nat} {xs : List D} : P a = some (listOf vs.toArray n) → xs.length = vs.length →
      (∀ (i : Nat) (x : D) (v : Value), xs[i]? = some x → vs[i]? = some v → DIs C P x v) → DIs C P (.list xs) (.ref a)
  | tup {a : Addr} {vs : List Value} {n : Nat} {xs : List D} : P a = some (tupOf vs.toArray n) → xs.length = vs.length →
      (∀ (i : Nat) (x : D) (v : Value), xs[i]? = some x → vs[i]? = some v → DIs C P x v) → DIs C P (.tup xs) (.ref a)
  | inst {c : Nat} {x dx : Addr} {es : List DictEntry} {n : Nat} {fs : List (Nat × D)} : P x = some (instObj (C.ca c) dx) → P dx = some (dictOf es n) → fs.length = es.length →
      (∀ (i : Nat) (p : Nat × D) (e : DictEntry), fs[i]? = some p → es[i]? = some e → (∃ t, e.key = .str (C.an p.1) t) ∧ e.hash = PyData.keyHash C.w.params (C.an p.1)) →
      (∀ (i : Nat) (p : Nat × D) (e : DictEntry), fs[i]? = some p → es[i]? = some e → DIs C P p.2 e.val) → DIs C P (.inst c fs) (.ref x)
noncomputable def VIs (C : Cx) (P : PH) (φ : Phi) : V → Value → Prop
  | .d x, v => DIs C P x v
  | .ref n, v => ∃ a nm, φ[n]? = some (a, nm) ∧ v = .ref a
noncomputable def PLe (P P' : PH) : Prop := ∀ a o, P a = some o → P' a = some o
theorem PLe.refl (P : PH) : PLe P P := fun _ _ e => e
theorem PLe.trans {P P' P'' : PH} (a : PLe P P') (b : PLe P' P'') : PLe P P'' := fun x o e => b x o (a x o e)
theorem DIs.mono {C : Cx} {P P' : PH} (h : PLe P P') {x : D} {v : Value} (k : DIs C P x v) : DIs C P' x v := by
  induction k with
  | none => exact .none
  | bool b => exact .bool b
  | int i t => exact .int i t
  | str s t => exact .str s t
  | list a d _ ih => exact .list (h _ _ a) d ih
  | tup a d _ ih => exact .tup (h _ _ a) d ih
  | inst a b c d _ ih => exact .inst (h _ _ a) (h _ _ b) c d ih
theorem getElem?_of_prefix {α : Type} {l l' : List α} (h : l <+: l') {i : Nat} {x : α} (e : l[i]? = some x) : l'[i]? = some x := by
  obtain ⟨r, rfl⟩ := h
  obtain ⟨hl, _⟩ := List.getElem?_eq_some_iff.mp e
  rw [List.getElem?_append_left hl]; exact e
theorem VIs.mono {C : Cx} {P P' : PH} {φ φ' : Phi} (h : PLe P P') (k : φ <+: φ') {x : V} {v : Value} (r : VIs C P φ x v) : VIs C P' φ' x v := by
  cases x with
  | d x => exact DIs.mono h r
  | ref n => obtain ⟨a, nm, e, z⟩ := r; exact ⟨a, nm, getElem?_of_prefix k e, z⟩
noncomputable def NsO (o : Obj) (m : Str → Option Value) : Prop := ∃ es ep, o.data = .dict es ep ∧ StrKeys es ∧ ∀ name, nsFind es name = m name
theorem NsO.ns {h : Heap} {a : Addr} {o : Obj} {m : Str → Option Value} (ho : h.get? a = some o) (k : NsO o m) : h.Ns a m := let ⟨es, ep, r⟩ := k; ⟨o, es, ep, ho, r⟩
theorem NsO.of {h : Heap} {a : Addr} {m : Str → Option Value} (k : h.Ns a m) : ∃ o, h.get? a = some o ∧ NsO o m := let ⟨o, es, ep, ho, r⟩ := k; ⟨o, ho, es, ep, r⟩
noncomputable def EntK (C : Cx) (P : PH) (p : List Nat × D) (kv : Str × Value) : Prop := kv.1 = ⟨p.1.toArray⟩ ∧ DIs C P p.2 kv.2
noncomputable def DictO (C : Cx) (o : Obj) (kvs : List (Str × Value)) (ep : Nat) : Prop := ∃ es, o.ExactDict ∧ o.data = .dict es ep ∧ KeysOf (strKind C.prog C.w) es ∧ Pairs (strKind C.prog C.w) es.toList kvs ∧ (kvs.map (·.1)).Nodup
noncomputable def EntN (C : Cx) (P : PH) (p : Nat × D) (e : DictEntry) : Prop := (∃ t, e.key = .str (C.an p.1) t) ∧ e.hash = PyData.keyHash C.w.params (C.an p.1) ∧ DIs C P p.2 e.val
/-- what stands at an owned address -/
noncomputable def SIs (C : Cx) (P : PH) (φ : Phi) (i : Nat) (nm : List Str) (o : Obj) : S → Prop
  | .frame vs => nm.Nodup ∧ vs.length = nm.length ∧ ∃ m, NsO o m ∧ ∀ (j : Nat) (x : Str) (V : V), nm[j]? = some x → vs[j]? = some (some V) → ∃ v, m x = some v ∧ VIs C P φ V v
  | .cell none => ∃ v, o.data = .cell v
  | .cell (some d) => ∃ v, o.data = .cell (some v) ∧ DIs C P d v
  | .mlist xs => ∃ vs n, o = listOf vs n ∧ All2 (DIs C P) xs vs.toList
  | .mdict _ es => ∃ kvs ep, DictO C o kvs ep ∧ All2 (EntK C P) es kvs
  | .inst c => ∃ dx nm', φ[i + 1]? = some (dx, nm') ∧ o = instObj (C.ca c) dx
  | .idict _ fs => ∃ es n, o = dictOf es n ∧ All2 (EntN C P) fs es
theorem All2.imp {α β : Type} {R R' : α → β → Prop} {xs : List α} {ys : List β} (h : All2 R xs ys) (k : ∀ x y, R x y → R' x y) : All2 R' xs ys := ⟨h.1, fun i x y a b => k x y (h.2 i x y a b)⟩
theorem EntK.mono {C : Cx} {P P' : PH} (h : PLe P P') {p : List Nat × D} {e : Str × Value} (k : EntK C P p e) : EntK C P' p e := ⟨k.1, k.2.mono h⟩
theorem EntN.mono {C : Cx} {P P' : PH} (h : PLe P P') {p : Nat × D} {e : DictEntry} (k : EntN C P p e) : EntN C P' p e := ⟨k.1, k.2.1, k.2.2.mono h⟩
theorem SIs.mono {C : Cx} {P P' : PH} {φ φ' : Phi} (h : PLe P P') (k : φ <+: φ') {i : Nat} {nm : List Str} {o : Obj} {x : S} (r : SIs C P φ i nm o x) : SIs C P' φ' i nm o x := by
  cases x with
  | frame vs => obtain ⟨a, b, m, c, d⟩ := r; exact ⟨a, b, m, c, fun j x V e1 e2 => let ⟨v, q, z⟩ := d j x V e1 e2; ⟨v, q, z.mono h k⟩⟩
  | cell v => cases v with
    | none => exact r
    | some d => obtain ⟨v, a, b⟩ := r; exact ⟨v, a, b.mono h⟩
  | mlist xs => obtain ⟨vs, n, a, b⟩ := r; exact ⟨vs, n, a, b.imp fun _ _ z => z.mono h⟩
  | mdict _ es => obtain ⟨vs, n, a, b⟩ := r; exact ⟨vs, n, a, b.imp fun _ _ z => z.mono h⟩
  | inst c => obtain ⟨dx, nm', a, b⟩ := r; exact ⟨dx, nm', getElem?_of_prefix k a, b⟩
  | idict c fs => obtain ⟨vs, n, a, b⟩ := r; exact ⟨vs, n, a, b.imp fun _ _ z => z.mono h⟩
noncomputable def S.locked : S → Bool
  | .mdict true _ => true
  | _ => false
structure Rel (C : Cx) (P Z : PH) (φ : Phi) (σ : List S) (s : Shared) : Prop where
  base : ∀ a o, C.h₀.get? a = some o → P a = some o
  keep : ∀ a o, P a = some o → s.heap.get? a = some o
  zkeep : ∀ a o, Z a = some o → s.heap.get? a = some o
  disj : ∀ a, P a = none ∨ Z a = none
  len : φ.length = σ.length
  nd : (φ.map (·.1)).Nodup
  own : ∀ (i : Nat) a nm x, φ[i]? = some (a, nm) → σ[i]? = some x → P a = none ∧ (x.locked = false → Z a = none) ∧ ∃ o, s.heap.get? a = some o ∧ SIs C P φ i nm o x
  gens : s.gens = #[]
  os : s.os = C.os₀
section
variable {C : Cx} {P Z : PH} {φ : Phi} {σ : List S} {s : Shared}
theorem Rel.lt (r : Rel C P Z φ σ s) {i : Nat} {a : Addr} {nm : List Str} (e : φ[i]? = some (a, nm)) : ∃ x, σ[i]? = some x := by
  have h := (List.getElem?_eq_some_iff.mp e).1
  rw [r.len] at h
  exact ⟨_, List.getElem?_eq_getElem h⟩
theorem Rel.inj (r : Rel C P Z φ σ s) {i j : Nat} {a : Addr} {nm nm' : List Str} (e : φ[i]? = some (a, nm)) (e' : φ[j]? = some (a, nm')) : i = j := by
  obtain ⟨hi, h1⟩ := List.getElem?_eq_some_iff.mp e
  obtain ⟨hj, h2⟩ := List.getElem?_eq_some_iff.mp e'
  have := (List.nodup_iff_pairwise_ne.mp r.nd)
  exact (List.getElem_inj (h₀ := by simpa using hi) (h₁ := by simpa using hj) r.nd).mp (by simp [h1, h2])
theorem Rel.inHeap (r : Rel C P Z φ σ s) {i : Nat} {a : Addr} {nm : List Str} (e : φ[i]? = some (a, nm)) : ∃ o, s.heap.get? a = some o := by
  obtain ⟨x, hx⟩ := r.lt e
  obtain ⟨_, _, o, ho, _⟩ := r.own i a nm x e hx
  exact ⟨o, ho⟩
/-- the heap grows, other things change: what we know stays -/
theorem Rel.grow (r : Rel C P Z φ σ s) {s' : Shared} (hk : ∀ b o, s.heap.get? b = some o → s'.heap.get? b = some o) (hg : s'.gens = s.gens := by rfl) (ho : s'.os = s.os := by rfl) : Rel C P Z φ σ s' where
  base := r.base
  keep := fun a o e => hk a o (r.keep a o e)
  zkeep := fun a o e => hk a o (r.zkeep a o e)
  disj := r.disj
  len := r.len
  nd := r.nd
  own := fun i a nm x e1 e2 => let ⟨p, q, o, h1, h2⟩ := r.own i a nm x e1 e2; ⟨p, q, o, hk a o h1, h2⟩
  gens := hg.trans r.gens
  os := ho.trans r.os
theorem Rel.toks (r : Rel C P Z φ σ s) (t : Nat) : Rel C P Z φ σ { s with toks := t } := r.grow fun _ _ e => e
theorem Rel.push (r : Rel C P Z φ σ s) (o : Obj) : Rel C P Z φ σ { s with heap := s.heap.push o } := r.grow fun _ _ e => Heap.get?_push_of_some o e
noncomputable def PH.put (P : PH) (a : Addr) (o : Obj) : PH := fun b => if b = a then some o else P b
theorem PH.put_le {P : PH} {a : Addr} {o : Obj} (h : P a = none) : PLe P (P.put a o) := fun b x e => by
  unfold PH.put
  split
  · rename_i q; subst q; rw [h] at e; cases e
  · exact e
theorem PH.put_self {P : PH} {a : Addr} {o : Obj} : (P.put a o) a = some o := by simp [PH.put]
theorem PH.put_ne {P : PH} {a b : Addr} {o : Obj} (h : b ≠ a) : (P.put a o) b = P b := by simp [PH.put, h]
/-- an object of the heap that is nobody's becomes data -/
theorem Rel.freeze (r : Rel C P Z φ σ s) {a : Addr} {o : Obj} (ho : s.heap.get? a = some o) (hP : P a = none) (hZ : Z a = none) (hφ : ∀ p ∈ φ, p.1 ≠ a) : Rel C (P.put a o) Z φ σ s where
  base := fun b x e => PH.put_le hP b x (r.base b x e)
  keep := fun b x e => by
    unfold PH.put at e
    split at e
    · rename_i q; subst q; cases e; exact ho
    · exact r.keep b x e
  zkeep := r.zkeep
  disj := fun b => by
    by_cases q : b = a
    · subst q; exact .inr hZ
    · rw [PH.put_ne q]; exact r.disj b
  len := r.len
  nd := r.nd
  own := fun i b nm x e1 e2 => let ⟨p, q, o', h1, h2⟩ := r.own i b nm x e1 e2
    ⟨by rw [PH.put_ne (hφ (b, nm) (List.mem_of_getElem? e1))]; exact p, q, o', h1, h2.mono (PH.put_le hP) (List.prefix_refl _)⟩
  gens := r.gens
  os := r.os
theorem Rel.none_at (r : Rel C P Z φ σ s) {a : Addr} (h : s.heap.get? a = none) : P a = none ∧ Z a = none ∧ ∀ p ∈ φ, p.1 ≠ a := by
  refine ⟨?_, ?_, fun p hp e => ?_⟩
  · cases q : P a with
    | none => rfl
    | some o => rw [r.keep a o q] at h; cases h
  · cases q : Z a with
    | none => rfl
    | some o => rw [r.zkeep a o q] at h; cases h
  · obtain ⟨i, hi⟩ := List.mem_iff_getElem?.mp hp
    obtain ⟨o, ho⟩ := r.inHeap (a := p.1) (nm := p.2) hi
    rw [e, h] at ho; cases ho
theorem size_none (h : Heap) : h.get? h.objs.size = none := by
  cases q : h.get? h.objs.size with
  | none => rfl
  | some o => exact absurd (Heap.lt_size q) (Nat.lt_irrefl _)
/-- a new object as data -/
theorem Rel.newData (r : Rel C P Z φ σ s) (o : Obj) (hf : o.isFreed = false) : PLe P (P.put s.heap.objs.size o) ∧ Rel C (P.put s.heap.objs.size o) Z φ σ { s with heap := s.heap.push o } := by
  obtain ⟨h1, h2, h3⟩ := r.none_at (size_none s.heap)
  exact ⟨PH.put_le h1, (r.push o).freeze (Heap.get?_push_size _ hf) h1 h2 h3⟩
/-- an object of the heap that is nobody's becomes owned -/
theorem Rel.own_at (r : Rel C P Z φ σ s) {a : Addr} {nm : List Str} {o : Obj} {x : S} (ho : s.heap.get? a = some o) (hP : P a = none) (hZ : Z a = none) (hφ : ∀ p ∈ φ, p.1 ≠ a)
    (hx : SIs C P (φ ++ [(a, nm)]) σ.length nm o x) : Rel C P Z (φ ++ [(a, nm)]) (σ ++ [x]) s where
  base := r.base
  keep := r.keep
  zkeep := r.zkeep
  disj := r.disj
  len := by simp [r.len]
  nd := by
    rw [List.map_append, List.map_singleton]
    refine List.nodup_append.mpr ⟨r.nd, by simp, fun b hb c hc e => ?_⟩
    simp only [List.mem_singleton] at hc
    obtain ⟨p, hp, rfl⟩ := List.mem_map.mp hb
    exact hφ p hp (e.trans hc)
  own := fun i b nm' y e1 e2 => by
    by_cases hi : i < φ.length
    · rw [List.getElem?_append_left hi] at e1
      rw [List.getElem?_append_left (r.len ▸ hi)] at e2
      obtain ⟨p, q, o', h1, h2⟩ := r.own i b nm' y e1 e2
      exact ⟨p, q, o', h1, h2.mono (PLe.refl _) (List.prefix_append ..)⟩
    · have hl := (List.getElem?_eq_some_iff.mp e1).1
      have hi' : i = φ.length := by simp at hl; omega
      subst hi'
      rw [List.getElem?_append_right (Nat.le_refl _), Nat.sub_self] at e1
      rw [r.len, List.getElem?_append_right (Nat.le_refl _), Nat.sub_self] at e2
      simp at e1 e2
      obtain ⟨rfl, rfl⟩ := e1
      subst e2
      exact ⟨hP, fun _ => hZ, o, ho, r.len ▸ hx⟩
  gens := r.gens
  os := r.os
theorem Rel.newOwn (r : Rel C P Z φ σ s) (nm : List Str) (o : Obj) (x : S) (hf : o.isFreed = false) (hx : SIs C P (φ ++ [(s.heap.objs.size, nm)]) σ.length nm o x) :
    Rel C P Z (φ ++ [(s.heap.objs.size, nm)]) (σ ++ [x]) { s with heap := s.heap.push o } := by
  obtain ⟨h1, h2, h3⟩ := r.none_at (size_none s.heap)
  exact (r.push o).own_at (Heap.get?_push_size _ hf) h1 h2 h3 hx
/-- an owned object turns -/
theorem Rel.update (r : Rel C P Z φ σ s) {i : Nat} {a : Addr} {nm : List Str} {x y : S} {s' : Shared} {o' : Obj} (e1 : φ[i]? = some (a, nm)) (e2 : σ[i]? = some x) (hl : x.locked = false)
    (hs : Heap.SameBut a s.heap s'.heap) (ho' : s'.heap.get? a = some o') (hy : SIs C P φ i nm o' y) (hg : s'.gens = s.gens := by rfl) (ho : s'.os = s.os := by rfl) : Rel C P Z φ (σ.set i y) s' where
  base := r.base
  keep := fun b o e => (hs.2 b fun q => by subst q; rw [(r.own i b nm x e1 e2).1] at e; cases e).trans (r.keep b o e)
  zkeep := fun b o e => (hs.2 b fun q => by subst q; rw [(r.own i b nm x e1 e2).2.1 hl] at e; cases e).trans (r.zkeep b o e)
  disj := r.disj
  len := by simp [r.len]
  nd := r.nd
  own := fun j b nm' z h1 h2 => by
    by_cases hj : j = i
    · subst hj
      rw [e1] at h1; cases h1
      rw [List.getElem?_set_self (List.getElem?_eq_some_iff.mp e2).1] at h2; cases h2
      exact ⟨(r.own j a nm x e1 e2).1, fun _ => (r.own j a nm x e1 e2).2.1 hl, o', ho', hy⟩
    · rw [List.getElem?_set_ne (Ne.symm hj)] at h2
      obtain ⟨p, q, o, k1, k2⟩ := r.own j b nm' z h1 h2
      exact ⟨p, q, o, (hs.2 b fun q => hj (by subst q; exact r.inj h1 e1)).trans k1, k2⟩
  gens := hg.trans r.gens
  os := ho.trans r.os
theorem cutAt_so (n : Nat) : ∀ σ : List S, So (cutAt n σ) fun σ' => σ' = σ.take n ∧ n ≤ σ.length ∧ (∀ x ∈ σ', x.still = true) ∧ lastB σ' = true := by
  induction n with
  | zero => exact fun σ => So.just ⟨List.take_zero.symm, Nat.zero_le _, (fun _ h => nomatch h), rfl⟩
  | succ n ih =>
    intro σ
    cases σ with
    | nil => exact So.nil
    | cons x σ => exact So.gd fun hx => So.bind <| (ih σ).imp fun r hr => So.gd fun hl => So.just ⟨congrArg (x :: ·) hr.1, Nat.succ_le_succ hr.2.1, List.forall_mem_cons.mpr ⟨hx, hr.2.2.1⟩, hl⟩
theorem cutAt_is {n : Nat} {σ σ' : List S} (h : cutAt n σ = some σ') : σ' = σ.take n ∧ n ≤ σ.length ∧ (∀ x ∈ σ', x.still = true) ∧ lastB σ' = true := cutAt_so n σ σ' h
theorem lastB_next : ∀ {σ : List S} {i : Nat} {c : Nat}, lastB σ = true → σ[i]? = some (.inst c) → i + 1 < σ.length
  | [x], 0, c, h, e => by cases e; cases h
  | [x], i + 1, c, h, e => by simp at e
  | x :: y :: r, 0, c, h, e => by simp
  | x :: y :: r, i + 1, c, h, e => by
    have h' : lastB (y :: r) = true := by cases x <;> exact h
    have := lastB_next (σ := y :: r) (i := i) h' (by simpa using e)
    simpa using this
theorem Rel.cut (r : Rel C P Z φ σ s) {n : Nat} {σ' : List S} (h : cutAt n σ = some σ') : Rel C P Z (φ.take n) σ' s := by
  obtain ⟨rfl, hn, hs, hl⟩ := cutAt_is h
  refine ⟨r.base, r.keep, r.zkeep, r.disj, by simp [r.len], ?_, fun i a nm x e1 e2 => ?_, r.gens, r.os⟩
  · rw [List.map_take]; exact r.nd.sublist (List.take_sublist ..)
  · have hi : i < n := by
      have := (List.getElem?_eq_some_iff.mp e1).1
      simp at this; omega
    have hx := hs x (List.mem_of_getElem? e2)
    have e2' := e2
    rw [List.getElem?_take_of_lt hi] at e1 e2
    obtain ⟨p, q, o, h1, h2⟩ := r.own i a nm x e1 e2
    refine ⟨p, q, o, h1, ?_⟩
    cases x with
    | frame vs => cases hx
    | cell v => cases v <;> exact h2
    | mlist xs => exact h2
    | mdict _ es => exact h2
    | idict c fs => exact h2
    | inst c =>
      obtain ⟨dx, nm', h3, h4⟩ := h2
      have := lastB_next hl e2'
      rw [List.length_take] at this
      exact ⟨dx, nm', by rw [List.getElem?_take_of_lt (by omega)]; exact h3, h4⟩
/-! parts of what is owned -/
theorem memB_is : ∀ {n : Nat} {l : List Nat}, memB n l = false → n ∉ l
  | _, [], _ => fun h => (nomatch h)
  | n, m :: r, h => by
    unfold memB at h
    split at h
    · cases h
    · rename_i q
      intro hm
      rcases List.mem_cons.mp hm with rfl | hm
      · rw [Nat.beq_refl] at q; cases q
      · exact memB_is h hm
theorem at_cons {α β : Type} {R : Nat → α → β → Prop} {a : α} {b : β} {as : List α} {bs : List β} (h0 : R 0 a b) (h : ∀ (t : Nat) x y, as[t]? = some x → bs[t]? = some y → R (t + 1) x y) (t : Nat) (x : α) (y : β) (e1 : (a :: as)[t]? = some x) (e2 : (b :: bs)[t]? = some y) : R t x y := by
  cases t with
  | zero => exact Option.some.inj e1 ▸ Option.some.inj e2 ▸ h0
  | succ t => exact h t x y e1 e2
theorem subS_so (σ : List S) : ∀ js : List Nat, So (subS js σ) fun σs => js.Nodup ∧ σs.length = js.length ∧ ∀ (t j : Nat) x, js[t]? = some j → σs[t]? = some x → σ[j]? = some x ∧ x.part = true := by
  intro js
  induction js with
  | nil => exact So.just ⟨List.nodup_nil, rfl, fun t j x e => nomatch e⟩
  | cons j js ih =>
    exact So.gd fun hm => So.bind fun x hx => So.bind <| ih.imp fun r h => So.gd fun hp => So.just ⟨List.nodup_cons.mpr ⟨memB_is (by cases q : memB j js; rfl; rw [q] at hm; cases hm), h.1⟩, congrArg (· + 1) h.2.1, at_cons (R := fun _ j x => σ[j]? = some x ∧ x.part = true) ⟨hx, hp⟩ h.2.2⟩
theorem subS_is {js : List Nat} {σ σs : List S} (h : subS js σ = some σs) : js.Nodup ∧ σs.length = js.length ∧ ∀ (t j : Nat) x, js[t]? = some j → σs[t]? = some x → σ[j]? = some x ∧ x.part = true := subS_so σ js σs h
theorem SIs.part {C : Cx} {P : PH} {φ φ' : Phi} {i j : Nat} {nm nm' : List Str} {o : Obj} {x : S} (hp : x.part = true) (h : SIs C P φ i nm o x) : SIs C P φ' j nm' o x := by
  cases x with
  | frame vs => cases hp
  | cell v => cases v <;> exact h
  | mlist xs => exact h
  | mdict _ es => exact h
  | inst c => cases hp
  | idict c fs => cases hp
/-- the addresses of the parts -/
noncomputable def Picks (js : List Nat) (φ φs : Phi) : Prop := φs.length = js.length ∧ ∀ (t j : Nat) p, js[t]? = some j → φs[t]? = some p → φ[j]? = some p
theorem picks_of {φ : Phi} : ∀ {js : List Nat}, (∀ j ∈ js, j < φ.length) → ∃ φs, Picks js φ φs := by
  intro js
  induction js with
  | nil => exact fun _ => ⟨[], rfl, fun t j p e => nomatch e⟩
  | cons j js ih =>
    intro h
    obtain ⟨φs, h1, h2⟩ := ih fun k hk => h k (.tail _ hk)
    exact ⟨φ[j]'(h j (.head _)) :: φs, congrArg (· + 1) h1, at_cons (R := fun _ j p => φ[j]? = some p) (List.getElem?_eq_getElem _) h2⟩
theorem Picks.mem {js : List Nat} {φ φs : Phi} (h : Picks js φ φs) {a : Addr} (ha : a ∈ φs.map (·.1)) : ∃ (t : Nat) (j : Nat) (nm : List Str), js[t]? = some j ∧ φs[t]? = some (a, nm) ∧ φ[j]? = some (a, nm) := by
  obtain ⟨p, hp, rfl⟩ := List.mem_map.mp ha
  obtain ⟨t, ht⟩ := List.mem_iff_getElem?.mp hp
  have hl := (List.getElem?_eq_some_iff.mp ht).1
  rw [h.1] at hl
  exact ⟨t, js[t], p.2, List.getElem?_eq_getElem hl, ht, h.2 t _ p (List.getElem?_eq_getElem hl) ht⟩
noncomputable def Zpart (φ φs : Phi) (Z : PH) (h : Heap) : PH := fun a => if a ∈ φs.map (·.1) then Z a else if a ∈ φ.map (·.1) then h.get? a else Z a
theorem nodup_get {α : Type} [DecidableEq α] {l : List α} (h : l.Nodup) {i j : Nat} {x : α} (e : l[i]? = some x) (e' : l[j]? = some x) : i = j := by
  obtain ⟨hi, h1⟩ := List.getElem?_eq_some_iff.mp e
  obtain ⟨hj, h2⟩ := List.getElem?_eq_some_iff.mp e'
  exact (List.getElem_inj (h₀ := hi) (h₁ := hj) h).mp (h1.trans h2.symm)
theorem Rel.subR (r : Rel C P Z φ σ s) {js : List Nat} {σs : List S} {φs : Phi} (h : subS js σ = some σs) (hp : Picks js φ φs) : Rel C P (Zpart φ φs Z s.heap) φs σs s := by
  obtain ⟨h1, h2, h3⟩ := subS_is h
  have hat : ∀ (t : Nat) a nm x, φs[t]? = some (a, nm) → σs[t]? = some x → ∃ j, js[t]? = some j ∧ φ[j]? = some (a, nm) ∧ σ[j]? = some x ∧ x.part = true := fun t a nm x e1 e2 => by
    have hl := (List.getElem?_eq_some_iff.mp e1).1
    rw [hp.1] at hl
    exact ⟨js[t], List.getElem?_eq_getElem hl, hp.2 t _ _ (List.getElem?_eq_getElem hl) e1, h3 t _ x (List.getElem?_eq_getElem hl) e2⟩
  refine ⟨r.base, r.keep, fun a o e => ?_, fun a => ?_, by rw [hp.1, h2], ?_, fun t a nm x e1 e2 => ?_, r.gens, r.os⟩
  · unfold Zpart at e
    split at e
    · exact r.zkeep a o e
    · split at e
      · exact e
      · exact r.zkeep a o e
  · unfold Zpart
    split
    · exact r.disj a
    · split
      · rename_i hm
        obtain ⟨p, hp', rfl⟩ := List.mem_map.mp hm
        obtain ⟨i, hi⟩ := List.mem_iff_getElem?.mp hp'
        obtain ⟨x, hx⟩ := r.lt (a := p.1) (nm := p.2) hi
        exact .inl (r.own i p.1 p.2 x hi hx).1
      · exact r.disj a
  · refine List.nodup_iff_pairwise_ne.mpr (List.pairwise_iff_getElem.mpr fun i j hi hj hij e => ?_)
    rw [List.length_map] at hi hj
    rw [List.getElem_map, List.getElem_map] at e
    have hi' := hi; have hj' := hj
    rw [hp.1] at hi' hj'
    have e1 := hp.2 i js[i] φs[i] (List.getElem?_eq_getElem hi') (List.getElem?_eq_getElem hi)
    have e2 := hp.2 j js[j] φs[j] (List.getElem?_eq_getElem hj') (List.getElem?_eq_getElem hj)
    have : js[i] = js[j] := r.inj (a := (φs[i]).1) (nm := (φs[i]).2) (nm' := (φs[j]).2) e1 (by rw [e2, e])
    have := nodup_get h1 (List.getElem?_eq_getElem hi') ((List.getElem?_eq_getElem hj').trans (congrArg some this.symm))
    omega
  · obtain ⟨j, hj, k1, k2, k3⟩ := hat t a nm x e1 e2
    obtain ⟨p, q, o, ho, hx⟩ := r.own j a nm x k1 k2
    refine ⟨p, fun hl => ?_, o, ho, hx.part k3⟩
    unfold Zpart
    rw [if_pos (List.mem_map.mpr ⟨_, List.mem_of_getElem? e1, rfl⟩)]
    exact q hl
theorem backS_so : ∀ (js : List Nat) (σs σ : List S), js.Nodup → So (backS js σs σ) fun p => p.1.length = σ.length ∧ σs = σs.take js.length ++ p.2 ∧ js.length ≤ σs.length ∧
    (∀ (t j : Nat) x, js[t]? = some j → σs[t]? = some x → j < σ.length → p.1[j]? = some x ∧ x.part = true) ∧ ∀ i, i ∉ js → p.1[i]? = σ[i]? := by
  intro js
  induction js with
  | nil => exact fun σs σ _ => So.just ⟨rfl, rfl, Nat.zero_le _, (fun _ _ _ e => nomatch e), fun _ _ => rfl⟩
  | cons j js ih =>
    intro σs σ hn
    cases σs with
    | nil => exact So.nil
    | cons x σs =>
      have hj := (List.nodup_cons.mp hn).1
      refine So.gd fun hx => (ih σs (σ.set j x) (List.nodup_cons.mp hn).2).imp fun p h => ⟨h.1.trans List.length_set, congrArg (x :: ·) h.2.1, Nat.succ_le_succ h.2.2.1, ?_, fun i hi => ?_⟩
      · refine at_cons (R := fun _ j x => j < σ.length → p.1[j]? = some x ∧ x.part = true) (fun hl => ⟨?_, hx⟩) fun t k y e1 e2 hl => h.2.2.2.1 t k y e1 e2 (List.length_set (as := σ) ▸ hl)
        rw [h.2.2.2.2 j hj, List.getElem?_set_self hl]
      · rw [h.2.2.2.2 i fun q => hi (.tail _ q), List.getElem?_set_ne (fun q : j = i => hi (q ▸ List.Mem.head _))]
theorem backS_is {js : List Nat} {σs σ σ' rest : List S} (h : backS js σs σ = some (σ', rest)) (hn : js.Nodup) : σ'.length = σ.length ∧ σs = σs.take js.length ++ rest ∧ js.length ≤ σs.length ∧
    (∀ (t j : Nat) x, js[t]? = some j → σs[t]? = some x → j < σ.length → σ'[j]? = some x ∧ x.part = true) ∧ ∀ i, i ∉ js → σ'[i]? = σ[i]? := backS_so js σs σ hn (σ', rest) h
/-- behind a part's run: the parts written back; what it made besides lies in `rest` -/
theorem Rel.back (r : Rel C P Z φ σ s) {js : List Nat} {σs σs' σ' rest : List S} {φs φs' : Phi} {P' : PH} {s' : Shared} (h : subS js σ = some σs) (hp : Picks js φ φs) (hP : PLe P P') (hφ : φs <+: φs')
    (r' : Rel C P' (Zpart φ φs Z s.heap) φs' σs' s') (hb : backS js σs' σ = some (σ', rest)) : Rel C P' Z φ σ' s' := by
  obtain ⟨h1, h2, h3⟩ := subS_is h
  obtain ⟨b1, b2, b3, b4, b5⟩ := backS_is hb h1
  have zin : ∀ a, a ∈ φs.map (·.1) → Zpart φ φs Z s.heap a = Z a := fun a ha => by unfold Zpart; rw [if_pos ha]
  have zout : ∀ a, a ∉ φ.map (·.1) → Zpart φ φs Z s.heap a = Z a := fun a ha => by unfold Zpart; rw [if_neg ha]; simp
  have ztot : ∀ a o, Z a = some o → Zpart φ φs Z s.heap a = some o := fun a o e => by
    unfold Zpart
    split
    · exact e
    · split
      · exact r.zkeep a o e
      · exact e
  have hlt : ∀ (i : Nat) p, φ[i]? = some p → i < σ.length := fun i p e => r.len ▸ (List.getElem?_eq_some_iff.mp e).1
  refine ⟨r'.base, r'.keep, fun a o e => r'.zkeep a o (ztot a o e), fun a => ?_, by rw [b1, r.len], r.nd, fun i a nm x e1 e2 => ?_, r'.gens, r'.os⟩
  · rcases r'.disj a with q | q
    · exact .inl q
    · cases z : Z a with
      | none => exact .inr rfl
      | some o => rw [ztot a o z] at q; cases q
  · by_cases hi : i ∈ js
    · obtain ⟨t, ht⟩ := List.mem_iff_getElem?.mp hi
      have htl : t < φs.length := by rw [hp.1]; exact (List.getElem?_eq_some_iff.mp ht).1
      have e3 := hp.2 t i φs[t] ht (List.getElem?_eq_getElem htl)
      rw [e1] at e3
      have e4 : φs[t]? = some (a, nm) := by rw [List.getElem?_eq_getElem htl]; exact e3.symm
      have e5 := getElem?_of_prefix hφ e4
      obtain ⟨y, hy⟩ := r'.lt e5
      obtain ⟨k1, k2⟩ := b4 t i y ht hy (hlt i _ e1)
      rw [e2] at k1; cases k1
      obtain ⟨p, q, o, ho, hx⟩ := r'.own t a nm x e5 hy
      exact ⟨p, fun hl => zin a (List.mem_map.mpr ⟨_, List.mem_of_getElem? e4, rfl⟩) ▸ q hl, o, ho, hx.part k2⟩
    · rw [b5 i hi] at e2
      obtain ⟨p, q, o, ho, hx⟩ := r.own i a nm x e1 e2
      have ha : a ∉ φs.map (·.1) := fun hm => by
        obtain ⟨t, j, nm', k1, k2, k3⟩ := hp.mem hm
        have : j = i := r.inj k3 e1
        subst this
        exact hi (List.mem_of_getElem? k1)
      have hz : Zpart φ φs Z s.heap a = some o := by
        unfold Zpart
        rw [if_neg ha, if_pos (List.mem_map.mpr ⟨_, List.mem_of_getElem? e1, rfl⟩)]
        exact ho
      have hP' : P' a = none := by
        rcases r'.disj a with q | q
        · exact q
        · rw [hz] at q; cases q
      exact ⟨hP', q, o, r'.zkeep a o hz, hx.mono hP (List.prefix_refl _)⟩
end
end Mine
end
section
open PySem PySem.Calls PyProof.Rows PySem.W
namespace Mine
noncomputable def NoE : Value → Shared → Prop := fun _ _ => False
noncomputable def Post (C : Cx) (P Z : PH) (φ : Phi) {α : Type} (R : PH → Phi → α → Prop) (σ' : List S) : α → Shared → Prop :=
  fun a s' => ∃ P' φ', PLe P P' ∧ φ <+: φ' ∧ Rel C P' Z φ' σ' s' ∧ R P' φ' a
section
variable {C : Cx} {P Z : PH} {φ : Phi} {σ σ' : List S} {s : Shared} {α β : Type} {M : Model} {A : Around} {R : PH → Phi → α → Prop}
theorem post_pure {a : α} (r : Rel C P Z φ σ s) (h : R P φ a) : Post C P Z φ R σ a s := ⟨P, φ, PLe.refl _, List.prefix_refl _, r, h⟩
theorem Post.up {P' : PH} {φ' : Phi} {a : α} (h : Post C P' Z φ' R σ' a s) (hP : PLe P P') (hφ : φ <+: φ') : Post C P Z φ R σ' a s :=
  let ⟨P'', φ'', a, b, r⟩ := h; ⟨P'', φ'', hP.trans a, hφ.trans b, r⟩
theorem wp_up {P' : PH} {φ' : Phi} {t : Sem α} (h : wpAny M A t (Post C P' Z φ' R σ') NoE s) (hP : PLe P P') (hφ : φ <+: φ') : wpAny M A t (Post C P Z φ R σ') NoE s :=
  wpAny_mono h (fun _ _ z => z.up hP hφ) fun _ _ z => z
theorem wp_seq {t : Sem α} {Q : α → Shared → Prop} {E : Value → Shared → Prop} (h : wpAny M A t (Post C P Z φ R σ') NoE s)
    (k : ∀ a s' P' φ', PLe P P' → φ <+: φ' → Rel C P' Z φ' σ' s' → R P' φ' a → Q a s') : wpAny M A t Q E s :=
  wpAny_mono h (fun a s' ⟨P', φ', a1, a2, a3, a4⟩ => k a s' P' φ' a1 a2 a3 a4) fun _ _ z => z.elim
theorem post_data {o : Obj} {v : Value} {x : D} (r : Rel C P Z φ σ s) (hf : o.isFreed = false) (hv : v = .ref s.heap.objs.size) (h : ∀ P', PLe P P' → P' s.heap.objs.size = some o → DIs C P' x (.ref s.heap.objs.size)) :
    Post C P Z φ (fun P φ v => VIs C P φ (.d x) v) σ v { s with heap := s.heap.push o } := by
  subst hv
  obtain ⟨h1, h2⟩ := r.newData o hf
  exact ⟨_, φ, h1, List.prefix_refl _, h2, h _ h1 PH.put_self⟩
end
noncomputable def OB.ok : OB → Prop
  | .mul a b => IntMulOk a b
  | .pow a b => 0 ≤ b ∧ (Builtin.Int.intBits a : Int) * b ≤ 134217728
  | .len n => n ≤ sizeLine
  | .prop p => p
def AllOk (ob : List OB) : Prop := ∀ b ∈ ob, b.ok
theorem AllOk.left {a b : List OB} (h : AllOk (a ++ b)) : AllOk a := fun x hx => h x (List.mem_append_left _ hx)
theorem AllOk.right {a b : List OB} (h : AllOk (a ++ b)) : AllOk b := fun x hx => h x (List.mem_append_right _ hx)
/-- whatever a part of a run hands on, where what it asks is so -/
def Sn {α : Type} (r : Res α) (Q : α → List S → Prop) : Prop := ∀ a σ' ob, r = some (a, σ', ob) → AllOk ob → Q a σ'
section
variable {α β : Type} {T : β → List S → Prop} {U : α → List S → Prop} {σ : List S}
theorem Sn.nil : Sn Option.none T := fun _ _ _ h => nomatch h
theorem Sn.just {a : β} {ob : List OB} (h : AllOk ob → T a σ) : Sn (Option.some (a, σ, ob)) T := fun x τ o e ho => by
  injection e with e; injection e with e1 e; injection e with e2 e3
  exact e1 ▸ e2 ▸ h (e3 ▸ ho)
theorem Sn.ok {a : β} (h : T a σ) : Sn (Mine.ok a σ) T := Sn.just fun _ => h
theorem Sn.gd {b : Bool} {r : Res β} (h : b = true → Sn r T) : Sn (Mine.gd b r) T := match b, h with
  | true, h => h rfl
  | false, _ => Sn.nil
theorem Sn.bind {o : Option α} {f : α → Res β} (h : So o fun b => Sn (f b) T) : Sn (o.bind f) T := match o, h with
  | .some _, h => h _ rfl
  | .none, _ => Sn.nil
theorem Sn.els {o : Option α} {f : α → Res β} {g : Res β} (h : So o fun b => Sn (f b) T) (k : Sn g T) : Sn (Mine.els o f g) T := match o, h with
  | .some _, h => h _ rfl
  | .none, _ => k
theorem Sn.skip {f : α → Res β} {g : Res β} (h : Sn g T) : Sn (Mine.els Option.none f g) T := h
theorem Sn.step {a : α} {f : α → Res β} (h : Sn (f a) T) : Sn ((Option.some a).bind f) T := h
theorem Sn.opt {o : Option β} (h : So o fun b => T b σ) : Sn (Mine.opt o σ) T := match o, h with
  | .some _, h => Sn.ok (h _ rfl)
  | .none, _ => Sn.nil
theorem Sn.bnd {r : Res α} {f : α → List S → Res β} (h : Sn r fun a σ => Sn (f a σ) T) : Sn (Mine.bnd r f) T := fun x τ ob e ho => by
  unfold Mine.bnd at e
  split at e
  · cases e
  · rename_i a σ₁ o₁
    split at e
    · cases e
    · rename_i b' σ₂ o₂ e1
      cases e
      exact h a σ₁ o₁ rfl ho.left _ _ _ e1 ho.right
theorem Sn.of_ok {a : β} (h : Sn (Mine.ok a σ) T) : T a σ := h a σ [] rfl fun _ h => nomatch h
theorem Sn.next {T : Fl → List S → Prop} {o : Option (List S)} (h : So o fun σ => T .next σ) : Sn (nextS o) T := Sn.bind (h.imp fun _ h => Sn.ok h)
theorem Sn.imp {r : Res β} {T' : β → List S → Prop} (h : Sn r T) (k : ∀ a σ, T a σ → T' a σ) : Sn r T' := fun a σ o e ho => k a σ (h a σ o e ho)
end
noncomputable def BO.op : BO → Operator
  | .add => .Add | .sub => .Sub | .mul => .Mult | .fdiv => .FloorDiv | .mod => .Mod | .pow => .Pow
noncomputable def CO.op : CO → CmpOp
  | .lt => .Lt | .gt => .Gt | .le => .LtE | .ge => .GtE | .eq => .Eq | .ne => .NotEq
noncomputable abbrev RV (C : Cx) (x : V) : PH → Phi → Value → Prop := fun P φ v => VIs C P φ x v
structure ARoom (A : Around) (n : Nat) : Prop where
  depth : A.depth + n ≤ 900
  units : A.units + 20 * n ≤ 9800
  handled : A.handled = none
theorem ARoom.le {A : Around} {n m : Nat} (h : ARoom A n) (k : m ≤ n) : ARoom A m := ⟨by have := h.depth; omega, by have := h.units; omega, h.handled⟩
theorem room_is {n : Nat} (h : room n = true) : n ≤ 4096 := Nat.le_of_ble_eq_true h
theorem room_line {n : Nat} (h : room n = true) : n ≤ sizeLine := Nat.le_trans (room_is h) (by rw [sizeLine_eq]; decide)
section
variable {C : Cx} {P Z : PH} {φ : Phi} {σ σ' : List S} {s : Shared}
theorem All2.getD {α β : Type} {R : α → β → Prop} {xs : List α} {ys : List β} (h : All2 R xs ys) {i : Nat} {x : α} (e : xs[i]? = some x) : ∃ y, ys[i]? = some y ∧ R x y := by
  have hl := (List.getElem?_eq_some_iff.mp e).1
  rw [h.1] at hl
  exact ⟨ys[i], List.getElem?_eq_getElem hl, h.2 i x _ e (List.getElem?_eq_getElem hl)⟩
theorem All2.append {α β : Type} {R : α → β → Prop} {xs xs' : List α} {ys ys' : List β} (h : All2 R xs ys) (k : All2 R xs' ys') : All2 R (xs ++ xs') (ys ++ ys') := by
  refine ⟨by simp [h.1, k.1], fun i x y e1 e2 => ?_⟩
  by_cases hi : i < xs.length
  · rw [List.getElem?_append_left hi] at e1
    rw [List.getElem?_append_left (h.1 ▸ hi)] at e2
    exact h.2 i x y e1 e2
  · rw [List.getElem?_append_right (Nat.le_of_not_lt hi)] at e1
    rw [List.getElem?_append_right (h.1 ▸ Nat.le_of_not_lt hi), ← h.1] at e2
    exact k.2 _ x y e1 e2
theorem All2.nil {α β : Type} {R : α → β → Prop} : All2 R ([] : List α) ([] : List β) := ⟨rfl, fun i x y e => by simp at e⟩
theorem All2.one {α β : Type} {R : α → β → Prop} {x : α} {y : β} (h : R x y) : All2 R [x] [y] := ⟨rfl, fun i a b e1 e2 => by cases i <;> simp at e1 e2; subst e1 e2; exact h⟩
theorem All2.cons {α β : Type} {R : α → β → Prop} {x : α} {y : β} {xs : List α} {ys : List β} (h : R x y) (k : All2 R xs ys) : All2 R (x :: xs) (y :: ys) := All2.append (All2.one h) k
/-- a list, data or owned: where it lies -/
theorem lst_is {v : V} {x : Value} {xs : List D} (r : Rel C P Z φ σ s) (h : VIs C P φ v x) (e : lstOf σ v = some xs) : ∃ a vs n, x = .ref a ∧ IsL s.heap a (List.toArray vs) n ∧ All2 (DIs C P) xs vs := by
  cases v with
  | d d =>
    cases d <;> simp only [lstOf] at e <;> try cases e
    cases h with
    | list hp hl hi => exact ⟨_, _, _, rfl, r.keep _ _ hp, hl, hi⟩
  | ref n =>
    obtain ⟨a, nm, h1, rfl⟩ := h
    simp only [lstOf] at e
    split at e
    · rename_i ys h2
      cases e
      obtain ⟨_, _, o, ho, vs, k, rfl, ha⟩ := r.own n a nm _ h1 h2
      exact ⟨a, vs.toList, k, rfl, by simpa using ho, ha⟩
    · cases e
/-- a new list, data or owned -/
theorem mkList_is {fz : Bool} {xs : List D} {vs : List Value} {v : V} {ob : List OB} (r : Rel C P Z φ σ s) (h : mkList fz xs σ = some (v, σ', ob)) (ha : All2 (DIs C P) xs vs) :
    vs.length ≤ 4096 ∧ Post C P Z φ (RV C v) σ' (.ref s.heap.objs.size) { s with heap := s.heap.push (listOf vs.toArray 0) } := by
  unfold mkList at h
  split at h
  · cases h
  · rename_i hr
    refine ⟨ha.1 ▸ room_is hr, ?_⟩
    split at h
    · cases h
      exact post_data r rfl rfl fun P' hp e => .list e ha.1 fun i x v e1 e2 => (ha.2 i x v e1 e2).mono hp
    · cases h
      have h2 := r.newOwn [] (listOf vs.toArray 0) (.mlist xs) rfl ⟨vs.toArray, 0, rfl, by simpa using ha⟩
      exact ⟨P, _, PLe.refl _, List.prefix_append .., h2, _, [], by rw [← r.len]; simp, rfl⟩
@[elab_as_elim] theorem intK {x : V} {va : Value} (h : VIs C P φ x va) {M : Value → Option (Int) → Prop} (k : ∀ i t, M (.int i t) (some i)) (z : ∀ v, VIs C P φ x v → M v none) : M va (intV x) := by
  cases x with
  | ref _ => exact z _ h
  | d y =>
    cases y with
    | int => cases h; exact k _ _
    | _ => exact z _ h
@[elab_as_elim] theorem strK {x : V} {va : Value} (h : VIs C P φ x va) {M : Value → Option (List Nat) → Prop} (k : ∀ i t, M (.str ⟨i.toArray⟩ t) (some i)) (z : ∀ v, VIs C P φ x v → M v none) : M va (strV x) := by
  cases x with
  | ref _ => exact z _ h
  | d y =>
    cases y with
    | str => cases h; exact k _ _
    | _ => exact z _ h
@[elab_as_elim] theorem booK {x : V} {va : Value} (h : VIs C P φ x va) {M : Value → Option (Bool) → Prop} (k : ∀ i, M (.bool i) (some i)) (z : ∀ v, VIs C P φ x v → M v none) : M va (boV x) := by
  cases x with
  | ref _ => exact z _ h
  | d y =>
    cases y with
    | bool => cases h; exact k _
    | _ => exact z _ h
@[elab_as_elim] theorem tupK {x : V} {va : Value} (h : VIs C P φ x va) {M : Value → Option (List D) → Prop} (k : ∀ a vs n xs, P a = some (tupOf (List.toArray vs) n) → All2 (DIs C P) xs vs → M (.ref a) (some xs)) (z : ∀ v, VIs C P φ x v → M v none) : M va (tupV x) := by
  cases x with
  | ref _ => exact z _ h
  | d y =>
    cases y with
    | tup => cases h; case tup a b c => exact k _ _ _ _ a ⟨b, c⟩
    | _ => exact z _ h
@[elab_as_elim] theorem litK {x : V} {va : Value} (h : VIs C P φ x va) {M : Value → Option (List D) → Prop} (k : ∀ a vs n xs, P a = some (listOf (List.toArray vs) n) → All2 (DIs C P) xs vs → M (.ref a) (some xs)) (z : ∀ v, VIs C P φ x v → M v none) : M va (litV x) := by
  cases x with
  | ref _ => exact z _ h
  | d y =>
    cases y with
    | list => cases h; case list a b c => exact k _ _ _ _ a ⟨b, c⟩
    | _ => exact z _ h
@[elab_as_elim] theorem nonK {x : V} {va : Value} (h : VIs C P φ x va) {M : Value → Bool → Prop} (k : M .none true) (z : ∀ v, VIs C P φ x v → M v false) : M va (noV x) := by
  cases x with
  | ref _ => exact z _ h
  | d y =>
    cases y with
    | none => cases h; exact k
    | _ => exact z _ h
@[elab_as_elim] theorem insK {x : V} {va : Value} (h : VIs C P φ x va) {M : Value → Option (Nat × List (Nat × D)) → Prop} (k : ∀ c fs v, DIs C P (.inst c fs) v → M v (some (c, fs))) (z : ∀ v, VIs C P φ x v → M v none) : M va (insV x) := by
  cases x with
  | ref _ => exact z _ h
  | d y =>
    cases y with
    | inst c fs => exact k c fs va h
    | _ => exact z _ h
theorem So.dat {x : V} {va : Value} (h : VIs C P φ x va) {Q : D → Prop} (k : ∀ y, DIs C P y va → Q y) : So (datO x) Q := by
  cases x with
  | ref _ => exact So.nil
  | d y => exact So.just (k y h)
@[elab_as_elim] theorem refK {x : V} {va : Value} (h : VIs C P φ x va) {M : Value → Option Nat → Prop} (k : ∀ n a nm, φ[n]? = some (a, nm) → M (.ref a) (some n)) (z : ∀ v, VIs C P φ x v → M v none) : M va (refV x) := by
  cases x with
  | ref _ => obtain ⟨a, nm, e, rfl⟩ := h; exact k _ _ _ e
  | d y => exact z _ h
theorem So.dic {n : Nat} {Q : List (List Nat × D) → Prop} (k : ∀ lk es, σ[n]? = some (.mdict lk es) → Q es) : So (dicA σ n) Q := fun es e => by
  unfold dicA at e
  split at e
  · cases e; exact k _ _ (by assumption)
  · cases e
theorem So.opn {n : Nat} {Q : List (List Nat × D) → Prop} (k : ∀ es, σ[n]? = some (.mdict false es) → Q es) : So (opnA σ n) Q := fun es e => by
  unfold opnA at e
  split at e
  · cases e; exact k _ (by assumption)
  · cases e
theorem So.fr {n : Nat} {Q : List (Option V) → Prop} (k : ∀ vs, σ[n]? = some (.frame vs) → Q vs) : So (frA σ n) Q := fun es e => by
  unfold frA at e
  split at e
  · cases e; exact k _ (by assumption)
  · cases e
theorem So.cel {n : Nat} {Q : Option D → Prop} (k : ∀ v, σ[n]? = some (.cell v) → Q v) : So (celA σ n) Q := fun es e => by
  unfold celA at e
  split at e
  · cases e; exact k _ (by assumption)
  · cases e
theorem So.ins {n : Nat} {Q : Nat → Prop} (k : ∀ c, σ[n]? = some (.inst c) → Q c) : So (insA σ n) Q := fun es e => by
  unfold insA at e
  split at e
  · cases e; exact k _ (by assumption)
  · cases e
theorem So.idi {n : Nat} {Q : (Nat × List (Nat × D)) → Prop} (k : ∀ c fs, σ[n]? = some (.idict c fs) → Q (c, fs)) : So (idiA σ n) Q := fun es e => by
  unfold idiA at e
  split at e
  · cases e; exact k _ _ (by assumption)
  · cases e
theorem So.lis {n : Nat} {Q : List D → Prop} (k : ∀ es, σ[n]? = some (.mlist es) → Q es) : So (lisA σ n) Q := fun es e => by
  unfold lisA at e
  split at e
  · cases e; exact k _ (by assumption)
  · cases e
@[elab_as_elim] theorem lstK {x : V} {va : Value} (r : Rel C P Z φ σ s) (h : VIs C P φ x va) {M : Value → Option (List D) → Prop} (k : ∀ a vs n xs, IsL s.heap a (List.toArray vs) n → All2 (DIs C P) xs vs → M (.ref a) (some xs)) (z : ∀ v, VIs C P φ x v → M v none) : M va (lstOf σ x) := by
  cases e : lstOf σ x with
  | none => exact z _ h
  | some xs =>
    obtain ⟨a, vs, n, rfl, h1, h2⟩ := lst_is r h e
    exact k _ _ _ _ h1 h2
@[elab_as_elim] theorem int2K {α : Type} {a b : V} {va vb : Value} (ha : VIs C P φ a va) (hb : VIs C P φ b vb) {f : Int → Int → Option α} {M : Value → Value → Option α → Prop} (k : ∀ x y t u, M (.int x t) (.int y u) (f x y)) (z : ∀ va vb, M va vb none) : M va vb (Mine.int2 a b f) := by
  delta Mine.int2
  exact intK ha (fun i t => intK hb (fun j u => k i j t u) fun _ _ => z _ _) fun _ _ => z _ _
theorem nonzero_is {y : Int} (h : nonzero y = true) : y ≠ 0 := by
  rintro rfl; cases h
theorem small_div {x y : Int} (h : small64 y = true) : Builtin.divisionGoesByPylong x y = false := by
  have hy : y.natAbs ≤ 1000001 := by
    cases y with
    | ofNat n => have := Nat.le_of_ble_eq_true h; simp; omega
    | negSucc n => have := Nat.le_of_ble_eq_true h; simp; omega
  have hl : y.natAbs.log2 ≤ 20 := by
    by_cases hz : y.natAbs = 0
    · rw [hz]; decide
    · have := (Nat.log2_lt hz (k := 21)).mpr (by omega); omega
  unfold Builtin.divisionGoesByPylong
  have : (if y == 0 then 0 else y.natAbs.log2 / 30 + 1) ≤ 1 := by split <;> omega
  simp only [Bool.and_eq_false_iff]
  left
  exact decide_eq_false (by omega)
theorem pow_is {prog : Program} {w : World} {A : Around} {E : Value → Shared → Prop} {Q : Value → Shared → Prop} {a b : Int} {t u : Tok} (h0 : 0 ≤ b) (hb : (Builtin.Int.intBits a : Int) * b ≤ 134217728)
    (h : ∀ t' k, Q (.int (a ^ b.toNat) t') { s with toks := k }) : wpAny (model prog w) A (binaryOp .Pow (.int a t) (.int b u)) Q E s := by
  have key : (Made.int (a ^ b.toNat)).post Q s := h _ _
  by_cases h1 : b = 0
  · subst h1; exact AutoIntOps.pow_0 h0 (by simp) (by simpa using key)
  · have hn : b.toNat ≠ 0 := by omega
    by_cases h2 : (a == 0 || a == 1) = true
    · refine AutoIntOps.pow_1 h0 (by simpa using h1) h2 ?_
      have : a ^ b.toNat = a := by
        simp only [Bool.or_eq_true, beq_iff_eq] at h2
        rcases h2 with rfl | rfl
        · exact Int.zero_pow hn
        · exact Int.one_pow
      rwa [this] at key
    · by_cases h3 : (a == -1) = true
      · refine AutoIntOps.pow_2 h0 (by simpa using h1) h2 h3 ?_
        have : a ^ b.toNat = if (b % 2 == 0) = true then 1 else -1 := by
          rw [beq_iff_eq] at h3
          subst h3
          have : ∀ n : Nat, ((-1 : Int) ^ n) = if n % 2 = 0 then 1 else -1 := fun n => by
            induction n with
            | zero => rfl
            | succ n ih =>
              rw [Int.pow_succ, ih]
              rcases Nat.mod_two_eq_zero_or_one n with q | q
              · rw [if_pos q, if_neg (by omega)]; rfl
              · rw [if_neg (by omega), if_pos (by omega)]; rfl
          rw [this]
          by_cases q : b.toNat % 2 = 0
          · rw [if_pos q, if_pos (by rw [beq_iff_eq]; omega)]
          · rw [if_neg q, if_neg (by rw [beq_iff_eq]; omega)]
        rwa [this] at key
      · refine AutoIntOps.pow_4 h0 (by simpa using h1) h2 h3 ?_ key
        unfold Builtin.Int.intTooBig
        have : ((bitsLine : Nat) : Int) = 134217728 := rfl
        simp only [decide_eq_true_eq]
        rw [this]; omega
theorem fold_rep {α : Type} : ∀ (n : Nat) (xs : Array α) (acc : Array α), (List.foldl (fun x1 x2 => x1 ++ x2) acc (List.replicate n xs)) = acc ++ (List.replicate n xs.toList).flatten.toArray
  | 0, xs, acc => by simp
  | n + 1, xs, acc => by
    rw [List.replicate_succ, List.foldl_cons, fold_rep n]
    apply Array.ext'
    simp [List.replicate_succ]
theorem numOf_is {y : Int} {n : Nat} (h : numOf y = some n) : y = (n : Int) := by
  cases y with
  | ofNat k => cases h; rfl
  | negSucc k => cases h
theorem length_rep {α : Type} (n : Nat) (xs : List α) : (List.replicate n xs).flatten.length = n * xs.length := by simp
theorem All2.rep {α β : Type} {R : α → β → Prop} {xs : List α} {ys : List β} (h : All2 R xs ys) : ∀ n : Nat, All2 R (List.replicate n xs).flatten (List.replicate n ys).flatten
  | 0 => All2.nil
  | n + 1 => by rw [List.replicate_succ, List.replicate_succ, List.flatten_cons, List.flatten_cons]; exact h.append (h.rep n)
theorem mul_any_list {prog : Program} {w : World} {A : Around} {E : Value → Shared → Prop} {Q : Value → Shared → Prop} {l : Addr} {items : Array Value} {k : Nat} {x : Int} {u : Tok} (hl : IsL s.heap l items k) (hlo : -(2 ^ 63 : Int) ≤ x) (hhi : x < 2 ^ 63) (hsz : items.size * x.toNat ≤ 2 ^ 24)
    (h : Q (.ref s.heap.objs.size) { s with heap := s.heap.push { cls := .type "list", data := .seq (List.foldl (fun x1 x2 => x1 ++ x2) #[] (List.replicate (if items.isEmpty = true then 0 else x.toNat) items)) } }) : wpAny (model prog w) A (binaryOp .Mult (.ref l) (.int x u)) Q E s :=
  wpAny_binaryOp_repeat_ref (T := "list") (U := "int") (by decide) ⟨_, hl, rfl⟩ (fun s' => typeIs_int s' x u) noFill_list_mul F.fills_int_mul F.slot_int_rmul repeat_list F.slot_int_index.lookup
    (call_meets F.slot_int_rmul (typeIs_int s x u) F.entry_int_rmul (F.args_int_rmul_2 _ _) (int___rmul___int_list x u l items k)
      ⟨hl, rfl, ⟨_, hl, rfl⟩, call_meets F.slot_list_mul ⟨_, hl, rfl⟩ F.entry_list_mul (F.args_list_mul_2 _ _)
        (AutoListH.list___mul___list_int_3 l items k x u (by simp [Builtin.List.listFitsIndex]; omega) (by omega) (by simp [Builtin.List.listTooLong, sizeLine]; omega))
        ⟨hl, h⟩⟩)
theorem mul_lit_list {prog : Program} {w : World} {A : Around} {E : Value → Shared → Prop} {Q : Value → Shared → Prop} {l : Addr} {vs : List Value} {k n : Nat} {u : Tok} (hl : IsL s.heap l vs.toArray k) (hn : n ≤ 4096) (hsz : vs.length * n ≤ 2 ^ 24)
    (h : Q (.ref s.heap.objs.size) { s with heap := s.heap.push (listOf (List.replicate n vs).flatten.toArray 0) }) : wpAny (model prog w) A (binaryOp .Mult (.ref l) (.int (n : Int) u)) Q E s := by
  refine mul_any_list hl (by omega) (by omega) (by rw [List.size_toArray, Int.toNat_natCast]; exact hsz) ?_
  have e : (List.foldl (fun x1 x2 => x1 ++ x2) #[] (List.replicate (if vs.toArray.isEmpty = true then 0 else (n : Int).toNat) vs.toArray)) = (List.replicate n vs).flatten.toArray := by
    rw [fold_rep]
    cases vs with
    | nil => simp
    | cons v vs => simp
  rw [e]
  exact h
theorem mul_lit_str {prog : Program} {w : World} {A : Around} {E : Value → Shared → Prop} {Q : Value → Shared → Prop} {x : List Nat} {n : Nat} {t u : Tok} (hn : n ≤ 4096) (hsz : n * x.length ≤ 4096)
    (h : ∀ t' k, Q (.str ⟨(repS n x).toArray⟩ t') { s with toks := k }) : wpAny (model prog w) A (binaryOp .Mult (.str ⟨x.toArray⟩ t) (.int (n : Int) u)) Q E s := by
  have hx : (⟨x.toArray⟩ : Str).length = x.length := by simp [Str.length]
  have h7 : x.length * n = n * x.length := Nat.mul_comm ..
  refine SB.mul ⟨by simp; omega, fun h1 h2 h3 => ?_, fun h1 h2 => ?_⟩ fun t' k => ?_
  · rw [hx] at h3
    have h4 : (0 : Int) < (n : Int) := by omega
    have h5 : (x.length : Int) * (n : Int) > (2 ^ 63 - 1 : Int) := by
      have := (Int.ediv_lt_iff_lt_mul h4).mp h3
      exact this
    have h6 : ((x.length : Int)) * (n : Int) = ((n * x.length : Nat) : Int) := by rw [Int.natCast_mul, Int.mul_comm]
    omega
  · rw [hx]
    unfold Builtin.Str.tooLong
    have hsl := sizeLine_eq
    rw [Int.toNat_natCast, decide_eq_false_iff_not]
    omega
  · have e : Txt.mul ⟨x.toArray⟩ (n : Int) = ⟨(repS n x).toArray⟩ := by
      unfold Txt.mul repS
      split
      · have : n = 0 := by omega
        subst this; rfl
      · split
        · rename_i h1 h2
          rw [hx] at h2
          simp only [Bool.or_eq_true, beq_iff_eq] at h2
          rcases h2 with h2 | h2
          · have : n = 1 := by omega
            subst this; simp
          · have : x = [] := List.eq_nil_of_length_eq_zero h2
            subst this; simp
        · rw [fold_rep]; simp
    rw [e]; exact h t' k
end
end Mine
end
section
open PySem PySem.Calls PyProof.Rows PySem.W
namespace Mine
section
variable {C : Cx} {P Z : PH} {φ : Phi} {σ σ' : List S} {s : Shared} {A : Around}
theorem post_int {i : Int} {t k : Nat} (r : Rel C P Z φ σ s) : Post C P Z φ (RV C (.d (.int i))) σ (.int i t) { s with toks := k } := post_pure (r.toks k) (DIs.int i t)
theorem str_len (x : List Nat) : (⟨x.toArray⟩ : Str).length = x.length := by simp [Str.length]
theorem str_cat (x y : List Nat) : (⟨x.toArray⟩ : Str) ++ (⟨y.toArray⟩ : Str) = ⟨(x ++ y).toArray⟩ := by
  apply Str.ext'
  simp [Str.cps_append]
theorem VIs.int_inv {i : Int} {v : Value} (h : VIs C P φ (.d (.int i)) v) : ∃ t, v = .int i t := by cases h; exact ⟨_, rfl⟩
theorem VIs.str_inv {x : List Nat} {v : Value} (h : VIs C P φ (.d (.str x)) v) : ∃ t, v = .str ⟨x.toArray⟩ t := by cases h; exact ⟨_, rfl⟩
theorem VIs.bool_inv {b : Bool} {v : Value} (h : VIs C P φ (.d (.bool b)) v) : v = .bool b := by cases h; rfl
theorem VIs.list_inv {xs : List D} {v : Value} (h : VIs C P φ (.d (.list xs)) v) : ∃ a vs n, v = .ref a ∧ P a = some (listOf (List.toArray vs) n) ∧ All2 (DIs C P) xs vs := by
  cases h with | list a b c => exact ⟨_, _, _, rfl, a, b, c⟩
theorem VIs.tup_inv {xs : List D} {v : Value} (h : VIs C P φ (.d (.tup xs)) v) : ∃ a vs n, v = .ref a ∧ P a = some (tupOf (List.toArray vs) n) ∧ All2 (DIs C P) xs vs := by
  cases h with | tup a b c => exact ⟨_, _, _, rfl, a, b, c⟩
theorem DIs.of_tup {a : Addr} {vs : List Value} {n : Nat} {xs : List D} (h : P a = some (tupOf vs.toArray n)) (k : All2 (DIs C P) xs vs) : DIs C P (.tup xs) (.ref a) := .tup h k.1 k.2
theorem DIs.of_list {a : Addr} {vs : List Value} {n : Nat} {xs : List D} (h : P a = some (listOf vs.toArray n)) (k : All2 (DIs C P) xs vs) : DIs C P (.list xs) (.ref a) := .list h k.1 k.2
theorem nz_is {y : Int} (h : nonzero y = true) : ¬(y == 0) = true := by simpa using nonzero_is h
theorem sd_is {x y : Int} (h : small64 y = true) : ¬Builtin.divisionGoesByPylong x y = true := by rw [small_div h]; simp
theorem cat_small {vs ws : List Value} (h : (vs ++ ws).length ≤ 4096) : vs.toArray.size + ws.toArray.size ≤ sizeLine := by
  rw [List.length_append] at h
  exact Nat.le_trans h (by rw [sizeLine_eq]; decide)
theorem rep_small {n m : Nat} (h : n * m ≤ 4096) : m * n ≤ 2 ^ 24 := Nat.mul_comm n m ▸ Nat.le_trans h (by decide)
theorem tup_add {xs ys : List D} {va vb : Value} (r : Rel C P Z φ σ s) (ha : VIs C P φ (.d (.tup xs)) va) (hb : VIs C P φ (.d (.tup ys)) vb) (hz : (xs ++ ys).length ≤ 4096) :
    wpAny (model C.prog C.w) A (binaryOp .Add va vb) (Post C P Z φ (RV C (.d (.tup (xs ++ ys)))) σ) NoE s := by
  obtain ⟨a, vs, n, rfl, pa, qa⟩ := ha.tup_inv
  obtain ⟨b, ws, k, rfl, pb, qb⟩ := hb.tup_inv
  have ta : IsT s.heap a vs.toArray n := r.keep _ _ pa
  have tb : IsT s.heap b ws.toArray k := r.keep _ _ pb
  have hz' : vs.length + ws.length ≤ sizeLine := by
    have := qa.1; have := qb.1; have := sizeLine_eq
    rw [List.length_append] at hz; omega
  by_cases h1 : vs = []
  · subst h1
    have : xs = [] := List.eq_nil_of_length_eq_zero qa.1
    subst this
    exact concat_meets ⟨_, ta, rfl⟩ ⟨_, tb, rfl⟩ noFill_tuple_add seq_tuple_add F.slot_tuple_add F.entry_tuple_add (F.args_tuple_add_2 _ _) (AutoSeq1.tuple___add___tuple_tuple_0 a _ n b _ k rfl) ⟨ta, tb, post_pure r (DIs.of_tup pb qb)⟩
  · by_cases h2 : ws = []
    · subst h2
      have : ys = [] := List.eq_nil_of_length_eq_zero qb.1
      subst this
      rw [List.append_nil]
      exact concat_meets ⟨_, ta, rfl⟩ ⟨_, tb, rfl⟩ noFill_tuple_add seq_tuple_add F.slot_tuple_add F.entry_tuple_add (F.args_tuple_add_2 _ _) (AutoSeq1.tuple___add___tuple_tuple_1 a _ n b _ k (by simpa using h1) rfl) ⟨ta, tb, post_pure r (DIs.of_tup pa qa)⟩
    · refine _root_.PySem.P.add_tuple ta tb (by simpa using h1) (by simpa using h2) ?_ (by simpa using hz')
      rw [List.append_toArray]
      exact post_data r rfl rfl fun P' hp e => DIs.of_tup e ((qa.append qb).imp fun _ _ z => z.mono hp)
theorem str_add {x y : List Nat} {t u : Tok} (r : Rel C P Z φ σ s) (h : OB.ok (.len (x ++ y).length)) : wpAny (model C.prog C.w) A (binaryOp .Add (.str ⟨x.toArray⟩ t) (.str ⟨y.toArray⟩ u)) (Post C P Z φ (RV C (.d (.str (x ++ y)))) σ) NoE s :=
  SB.add (fun t' k => str_cat x y ▸ post_pure (r.toks k) (DIs.str _ t')) (by rw [str_len, str_len]; exact List.length_append ▸ h)
theorem list_add {fz : Bool} {a b : Addr} {vs ws : List Value} {n m : Nat} {xs ys : List D} {v : V} {ob : List OB} (r : Rel C P Z φ σ s) (h : mkList fz (xs ++ ys) σ = some (v, σ', ob)) (ta : IsL s.heap a vs.toArray n) (tb : IsL s.heap b ws.toArray m) (qa : All2 (DIs C P) xs vs) (qb : All2 (DIs C P) ys ws) :
    wpAny (model C.prog C.w) A (binaryOp .Add (.ref a) (.ref b)) (Post C P Z φ (RV C v) σ') NoE s :=
  have h := mkList_is r h (qa.append qb)
  _root_.PySem.P.add_list ta tb (by rw [List.append_toArray]; exact h.2) (cat_small h.1)
theorem bin_sn {o : BO} {fz : Bool} {a b : V} {va vb : Value} (r : Rel C P Z φ σ s) (ha : VIs C P φ a va) (hb : VIs C P φ b vb) :
    Sn (evBin o fz a b σ) fun v σ' => wpAny (model C.prog C.w) A (binaryOp o.op va vb) (Post C P Z φ (RV C v) σ') NoE s := by
  cases o with
  | add =>
    show Sn (evAdd fz a b σ) _
    delta evAdd
    refine intK ha (fun x t => intK hb (fun y u => Sn.ok (wpAny_add_int (post_int r))) fun _ _ => Sn.nil) fun va ha => Sn.skip ?_
    refine strK ha (fun x t => strK hb (fun y u => Sn.just fun ho => str_add r (ho _ (.head _))) fun _ _ => Sn.nil) fun va ha => Sn.skip ?_
    refine tupK ha (fun a vs n xs pa qa => tupK hb (fun b ws m ys pb qb => Sn.gd fun hr => Sn.ok (tup_add r (DIs.of_tup pa qa) (DIs.of_tup pb qb) (room_is hr))) fun _ _ => Sn.nil) fun va ha => Sn.skip ?_
    exact lstK r ha (fun a vs n xs ta qa => lstK r hb (fun b ws k ys tb qb => fun v σ' ob h _ => list_add r h ta tb qa qb) fun _ _ => Sn.nil) fun _ _ => Sn.nil
  | sub =>
    show Sn (int2 a b fun x y => ok (V.d (.int (x - y))) σ) _
    exact int2K ha hb (fun x y t u => Sn.ok (AutoIntOps.sub_0 (post_int (i := x - y) r))) fun _ _ => Sn.nil
  | mul =>
    show Sn (evMul a b σ) _
    delta evMul
    refine intK hb (fun y u => Sn.step ?_) fun _ _ => Sn.nil
    refine intK ha (fun x t => Sn.just fun ho => AutoIntOps.mul_0 (post_int (i := x * y) r) (ho _ (.head _))) fun va ha => Sn.skip ?_
    refine Sn.bind fun n hn => Sn.gd fun h1 => ?_
    rw [numOf_is hn]
    refine strK ha (fun x t => Sn.gd fun h2 => Sn.ok (mul_lit_str (room_is h1) (length_rep n x ▸ room_is h2) fun t' k => post_pure (r.toks k) (DIs.str _ t'))) fun va ha => Sn.skip ?_
    exact litK ha (fun a vs m xs pa qa => Sn.gd fun h2 => Sn.ok (mul_lit_list (r.keep _ _ pa) (room_is h1) (rep_small (qa.1 ▸ length_rep n xs ▸ room_is h2)) (post_data r rfl rfl fun P' hp e => DIs.of_list e ((qa.rep n).imp fun _ _ z => z.mono hp)))) fun _ _ => Sn.nil
  | fdiv =>
    show Sn (int2 a b fun x y => gd (nonzero y) (gd (small64 y) (ok (V.d (.int (x.fdiv y))) σ))) _
    exact int2K ha hb (fun x y t u => Sn.gd fun h1 => Sn.gd fun h2 => Sn.ok (AutoIntOps.floordiv_1 (nz_is h1) (sd_is h2) (post_int (i := x.fdiv y) r))) fun _ _ => Sn.nil
  | mod =>
    show Sn (int2 a b fun x y => gd (nonzero y) (ok (V.d (.int (x.fmod y))) σ)) _
    exact int2K ha hb (fun x y t u => Sn.gd fun h1 => Sn.ok (AutoIntOps.mod_1 (nz_is h1) (post_int (i := x.fmod y) r))) fun _ _ => Sn.nil
  | pow =>
    show Sn (int2 a b fun x y => some (V.d (.int (x ^ y.toNat)), σ, [OB.pow x y])) _
    exact int2K ha hb (fun x y t u => Sn.just fun ho => pow_is (ho _ (.head _)).1 (ho _ (.head _)).2 fun t' k => post_int r) fun _ _ => Sn.nil
end
end Mine
end
section
open PySem PySem.Calls PyProof.Rows PySem.W
namespace Mine
mutual
noncomputable def toPy : D → PyData
  | .none => .none
  | .bool b => .bool b
  | .int i => .int i
  | .str s => .str ⟨s.toArray⟩
  | .list xs => .list (toPys xs)
  | .tup xs => .tuple (toPys xs)
  | .inst _ _ => .none
noncomputable def toPys : List D → List PyData
  | [] => []
  | x :: xs => toPy x :: toPys xs
end
section
variable {C : Cx} {P Z : PH} {φ : Phi} {σ σ' : List S} {s : Shared} {A : Around}
theorem reads_all {h : Heap} {R : D → Value → Prop} : ∀ {xs : List D} {vs : List Value}, All2 R xs vs → (∀ x ∈ xs, ∀ v, R x v → ∃ as, Reads h v (toPy x) as) → ∃ as, ReadsAll h vs (toPys xs) as
  | [], [], _, _ => ⟨[], .nil⟩
  | [], _ :: _, h, _ => by cases h.1
  | _ :: _, [], h, _ => by cases h.1
  | x :: xs, v :: vs, h, k => by
    obtain ⟨as, ha⟩ := k x (.head _) v (h.2 0 x v rfl rfl)
    obtain ⟨bs, hb⟩ := reads_all (xs := xs) (vs := vs) ⟨by have := h.1; simpa using this, fun i a b e1 e2 => h.2 (i + 1) a b (by simpa using e1) (by simpa using e2)⟩ fun y hy => k y (.tail _ hy)
    exact ⟨as ++ bs, .cons ha hb⟩
theorem plain_pys : ∀ {n : Nat} {xs : List D}, (∀ x ∈ xs, (toPy x).canLay0 = true ∧ (toPy x).depth ≤ n) → PyData.canLayAll0 (toPys xs) = true ∧ PyData.depthAll (toPys xs) ≤ n
  | _, [], _ => ⟨rfl, Nat.zero_le _⟩
  | n, x :: xs, h => by
    obtain ⟨a, b⟩ := h x (.head _)
    obtain ⟨c, d⟩ := plain_pys (n := n) (xs := xs) fun y hy => h y (.tail _ hy)
    refine ⟨by rw [toPys, PyData.canLayAll0, a, c]; rfl, ?_⟩
    rw [toPys, PyData.depthAll]; omega
theorem reads_of {h : Heap} (hk : ∀ a o, P a = some o → h.get? a = some o) : ∀ (n : Nat) (x : D), plainD n x = true → (∀ v, DIs C P x v → ∃ as, Reads h v (toPy x) as) ∧ (toPy x).canLay0 = true ∧ (toPy x).depth ≤ n
  | n, .int i, _ => ⟨fun v hv => by cases hv; exact ⟨[], .int _ _⟩, rfl, Nat.zero_le _⟩
  | n, .str s, hp => ⟨fun v hv => by cases hv; exact ⟨[], .str _ _⟩, by
      have hp' : s.all (fun c => Nat.blt c 1000) = true := by cases n <;> exact hp
      rw [toPy, PyData.canLay0, PyData.strOk, List.all_toArray]
      refine List.all_eq_true.mpr fun c hc => ?_
      have := Nat.le_of_ble_eq_true (List.all_eq_true.mp hp' c hc)
      exact decide_eq_true (by omega), Nat.zero_le _⟩
  | 0, .list _, hp => by cases hp
  | 0, .tup _, hp => by cases hp
  | n + 1, .list xs, hp => by
    have ih : ∀ x ∈ xs, (∀ v, DIs C P x v → ∃ as, Reads h v (toPy x) as) ∧ (toPy x).canLay0 = true ∧ (toPy x).depth ≤ n := fun x hx => reads_of hk n x (List.all_eq_true.mp hp x hx)
    obtain ⟨c, d⟩ := plain_pys (n := n) (xs := xs) fun x hx => (ih x hx).2
    refine ⟨fun v hv => ?_, by rw [toPy, PyData.canLay0]; exact c, by rw [toPy, PyData.depth]; omega⟩
    obtain ⟨a, vs, k, rfl, pa, qa⟩ := VIs.list_inv (φ := []) hv
    obtain ⟨as, ha⟩ := reads_all (h := h) qa fun x hx v => (ih x hx).1 v
    exact ⟨_, by rw [toPy]; exact .list (hk _ _ pa) rfl rfl ha⟩
  | n + 1, .tup xs, hp => by
    have ih : ∀ x ∈ xs, (∀ v, DIs C P x v → ∃ as, Reads h v (toPy x) as) ∧ (toPy x).canLay0 = true ∧ (toPy x).depth ≤ n := fun x hx => reads_of hk n x (List.all_eq_true.mp hp x hx)
    obtain ⟨c, d⟩ := plain_pys (n := n) (xs := xs) fun x hx => (ih x hx).2
    refine ⟨fun v hv => ?_, by rw [toPy, PyData.canLay0]; exact c, by rw [toPy, PyData.depth]; omega⟩
    obtain ⟨a, vs, k, rfl, pa, qa⟩ := VIs.tup_inv (φ := []) hv
    obtain ⟨as, ha⟩ := reads_all (h := h) qa fun x hx v => (ih x hx).1 v
    exact ⟨_, by rw [toPy]; exact .tuple (hk _ _ pa) rfl rfl ha⟩
  | n, .none, hp => by cases n <;> cases hp
  | n, .bool _, hp => by cases n <;> cases hp
  | n, .inst _ _, hp => by cases n <;> cases hp
theorem beqS_iff : ∀ {a b : List Nat}, beqS a b = true ↔ a = b
  | [], [] => by simp [beqS]
  | [], _ :: _ => by simp [beqS]
  | _ :: _, [] => by simp [beqS]
  | x :: a, y :: b => by
    unfold beqS
    rw [Bool.and_eq_true, beqS_iff, Nat.beq_eq, List.cons.injEq]
theorem beqS_str (a b : List Nat) : ((⟨a.toArray⟩ : Str) == ⟨b.toArray⟩) = beqS a b := by
  rw [Bool.eq_iff_iff, beq_iff_eq, beqS_iff]
  constructor
  · intro h; injection h with h; simpa using h
  · rintro rfl; rfl
theorem ff0 (p : Prop) (h : false = true) : p := Bool.noConfusion h
theorem eqv_is : ∀ (n : Nat) (x y : D), plainD n x = true → plainD n y = true → PyData.eqv (toPy x) (toPy y) = D.eqv x y := by
  intro n
  induction n with
  | zero =>
    intro x y h k
    cases x with
    | int a =>
      cases y with
      | int b => exact Bool.beq_eq_decide_eq a b
      | str b => rfl
      | _ => exact ff0 _ k
    | str a =>
      cases y with
      | int b => rfl
      | str b => exact beqS_str a b
      | _ => exact ff0 _ k
    | _ => exact ff0 _ h
  | succ n ih =>
    have al : ∀ (x y : List D), x.all (plainD n) = true → y.all (plainD n) = true → PyData.eqvAll (toPys x) (toPys y) = D.eqvs x y := by
      intro x
      induction x with
      | nil => intro y _ _; cases y <;> rfl
      | cons a x ihx =>
        intro y h k
        cases y with
        | nil => rfl
        | cons b y =>
          have h := Bool.and_eq_true_iff.mp h
          have k := Bool.and_eq_true_iff.mp k
          show (PyData.eqv (toPy a) (toPy b) && PyData.eqvAll (toPys x) (toPys y)) = (D.eqv a b && D.eqvs x y)
          rw [ih a b h.1 k.1, ihx y h.2 k.2]
    intro x y h k
    cases x with
    | int a =>
      cases y with
      | int b => exact Bool.beq_eq_decide_eq a b
      | str b => rfl
      | list b => rfl
      | tup b => rfl
      | _ => exact ff0 _ k
    | str a =>
      cases y with
      | int b => rfl
      | str b => exact beqS_str a b
      | list b => rfl
      | tup b => rfl
      | _ => exact ff0 _ k
    | list a =>
      cases y with
      | int b => rfl
      | str b => rfl
      | list b => exact al a b h k
      | tup b => rfl
      | _ => exact ff0 _ k
    | tup a =>
      cases y with
      | int b => rfl
      | str b => rfl
      | list b => rfl
      | tup b => exact al a b h k
      | _ => exact ff0 _ k
    | _ => exact ff0 _ h
theorem compareEq_is {a b : Value} {x y : D} {k : Nat} {Q : Value → Shared → Prop} (r : Rel C P Z φ σ s) (hA : ARoom A k) (hx : ∃ as, Reads s.heap a (toPy x) as) (hy : ∃ as, Reads s.heap b (toPy y) as) (px : plainD 7 x = true) (py : plainD 7 y = true) (h : Q (.bool (D.eqv x y)) s) :
    wpAny (model C.prog C.w) A (compareOp .Eq a b) Q NoE s := by
  obtain ⟨as, ha⟩ := hx
  obtain ⟨bs, hb⟩ := hy
  have kx := reads_of (C := C) r.keep 7 x px
  have ky := reads_of (C := C) r.keep 7 y py
  refine SeqAt.compareEq_reads ha hb kx.2.1 ky.2.1 ?_ (by rw [eqv_is 7 x y px py]; exact h)
  have := hA.units; have := kx.2.2
  have : cLine = 9900 := rfl
  omega
theorem compareNe_is {a b : Value} {x y : D} {k : Nat} {Q : Value → Shared → Prop} (r : Rel C P Z φ σ s) (hA : ARoom A k) (hx : ∃ as, Reads s.heap a (toPy x) as) (hy : ∃ as, Reads s.heap b (toPy y) as) (px : plainD 7 x = true) (py : plainD 7 y = true) (h : Q (.bool (!D.eqv x y)) s) :
    wpAny (model C.prog C.w) A (compareOp .NotEq a b) Q NoE s := by
  obtain ⟨as, ha⟩ := hx
  obtain ⟨bs, hb⟩ := hy
  have kx := reads_of (C := C) r.keep 7 x px
  have ky := reads_of (C := C) r.keep 7 y py
  refine SeqAt.compareNe_reads ha hb kx.2.1 ky.2.1 ?_ (by rw [eqv_is 7 x y px py]; exact h)
  have := hA.units; have := kx.2.2
  have : cLine = 9900 := rfl
  omega
theorem lst_reads {v : V} {x : Value} {xs : List D} (r : Rel C P Z φ σ s) (h : VIs C P φ v x) (e : lstOf σ v = some xs) (hp : plainL xs = true) : ∃ as, Reads s.heap x (toPy (.list xs)) as := by
  obtain ⟨a, vs, n, rfl, ha, hq⟩ := lst_is r h e
  obtain ⟨as, hr⟩ := reads_all (h := s.heap) hq fun y hy v => (reads_of r.keep 6 y (List.all_eq_true.mp hp y hy)).1 v
  exact ⟨_, by rw [toPy]; exact .list ha rfl rfl hr⟩
theorem tup_reads {x : Value} {xs : List D} (r : Rel C P Z φ σ s) (h : VIs C P φ (.d (.tup xs)) x) (hp : plainL xs = true) : ∃ as, Reads s.heap x (toPy (.tup xs)) as := (reads_of r.keep 7 (.tup xs) hp).1 x h
theorem eqIf_is {xs ys : List D} {t : Bool} (h : eqIf xs ys = some t) : plainL xs = true ∧ plainL ys = true ∧ t = D.eqvs xs ys := by
  unfold eqIf at h
  split at h
  · rename_i h1 h2; cases h; exact ⟨h1, h2, rfl⟩
  · cases h
end
/-! two lists of ints by > -/
section
open MeetsSeq MeetsSeq3 AutoSeq1
theorem gt_loop (l b : Addr) (items items2 : Array Value) (n n2 : Nat) (xs ys : List Int) (hx : All2 (fun i v => ∃ t, v = Value.int i t) xs items.toList) (hy : All2 (fun i v => ∃ t, v = Value.int i t) ys items2.toList) (k : Nat) :
    ∀ i : Nat, items.size - i = k → i ≤ items.size → i ≤ items2.size → ∀ (prog : PySem.Program) (w : World) (A : Around) (R : Result → Shared → Prop) (s : Shared),
      s.heap.get? l = some { cls := .type "list", dict := none, data := .seq items n, slots := #[] } → s.heap.get? b = some { cls := .type "list", dict := none, data := .seq items2 n2, slots := #[] } →
        R (.ok (.ret (.bool (gtInts (xs.drop i) (ys.drop i))))) s → wpAny (model prog w) A.in1 (Builtin.«list.__eq__.loop» ⟨[.ref l, .ref b, rawInt i, rawInt 4], []⟩) (fun fin s' => match fin with | .done f => R (.ok f) s' | .again c' => c'.quiet = true ∧ codeAny (model prog w) A c' R s') (fun e s' => R (.error e) s') s := by
  have lx : xs.length = items.size := by have := hx.1; simpa using this
  have ly : ys.length = items2.size := by have := hy.1; simpa using this
  induction k with
  | zero =>
    intro i hk hi1 hi2 prog w A R s hl hb h
    obtain ⟨hp, g, d, tk, os⟩ := s
    wp_walk using wpAny_loadPart' hl, wpAny_loadPart' hb
    have hi3 : items[((i : Nat) : Int).toNat]? = none := by simp; omega
    rw [hi3]
    have hd : xs.drop i = [] := by simp; omega
    rw [hd] at h
    wp_walk using wpAny_loadPart' hl, wpAny_loadPart' hb
    have e : decide (items.size > items2.size) = false := decide_eq_false (by omega)
    have h' : R (.ok (.ret (.bool (decide (items.size > items2.size))))) { heap := hp, gens := g, drawn := d, toks := tk, os := os } := by rw [e]; exact h
    exact h'
  | succ k ih =>
    intro i hk hi1 hi2 prog w A R s hl hb h
    obtain ⟨hp, g, d, tk, os⟩ := s
    have hlt : i < items.size := by omega
    obtain ⟨t1, e1⟩ := hx.2 i xs[i] items[i] (List.getElem?_eq_getElem (by omega)) (by simp [hlt])
    have hd : xs.drop i = xs[i] :: xs.drop (i + 1) := List.drop_eq_getElem_cons (by omega)
    have hi3 : items[((i : Nat) : Int).toNat]? = some items[i] := by simp [hlt]
    have hc : ((i : Int) + 1) = ((i + 1 : Nat) : Int) := by push_cast; rfl
    rw [hd] at h
    wp_walk using wpAny_loadPart' hl, wpAny_loadPart' hb
    rw [hi3]
    by_cases hlt2 : i < items2.size
    · obtain ⟨t2, e2⟩ := hy.2 i ys[i] items2[i] (List.getElem?_eq_getElem (by omega)) (by simp [hlt2])
      have hd2 : ys.drop i = ys[i] :: ys.drop (i + 1) := List.drop_eq_getElem_cons (by omega)
      have hi4 : items2[((i : Nat) : Int).toNat]? = some items2[i] := by simp [hlt2]
      rw [hd2] at h
      unfold gtInts at h
      rw [hi4]
      refine wpAny_bind ?_
      rw [e1, e2]
      refine EqGives.int xs[i] ys[i] t1 t2 prog w _ _ _ _ ?_
      by_cases q : xs[i] = ys[i]
      · rw [if_pos q] at h
        rw [beq_iff_eq.mpr q]
        wp_walk
        rw [hc]
        exact ⟨plainId_quiet plain_eq_loop _, codeAny_builtin entry_eq_loop (by
          rw [Around.under_plainId plain_eq_loop _]
          exact ih (i + 1) (by omega) (by omega) (by omega) prog w _ R _ hl hb h)⟩
      · rw [if_neg q] at h
        rw [beq_eq_false_iff_ne.mpr q]
        wp_walk using wpAny_loadPart' hl, wpAny_loadPart' hb
        rw [hi3, hi4, e1, e2]
        refine wpAny_bind (show wpAny _ _ (compareOp .Gt (.int xs[i] t1) (.int ys[i] t2)) _ _ _ from gt_int ?_)
        exact wpAny_pure h
    · have hi4 : items2[((i : Nat) : Int).toNat]? = none := by simp; omega
      have hd2 : ys.drop i = [] := by simp; omega
      rw [hd2] at h
      unfold gtInts at h
      rw [hi4]
      wp_walk using wpAny_loadPart' hl, wpAny_loadPart' hb
      have e : decide (items.size > items2.size) = true := decide_eq_true (by omega)
      have h' : R (.ok (.ret (.bool (decide (items.size > items2.size))))) { heap := hp, gens := g, drawn := d, toks := tk, os := os } := by rw [e]; exact h
      exact h'
end
end Mine
end
section
open PySem PySem.Calls PyProof.Rows PySem.W
namespace Mine
section
variable {C : Cx} {P Z : PH} {φ : Phi} {σ σ' : List S} {s : Shared} {A : Around}
section
open MeetsSeq MeetsSeq3 AutoSeq1
theorem list_gt (l b : Addr) (items items2 : Array Value) (n n2 : Nat) (xs ys : List Int) (hx : All2 (fun i v => ∃ t, v = Value.int i t) xs items.toList) (hy : All2 (fun i v => ∃ t, v = Value.int i t) ys items2.toList) :
    Meets (Builtin.«list.__gt__» ⟨[.ref l, .ref b], []⟩)
      (fun _ R s => s.heap.get? l = some { cls := .type "list", dict := none, data := .seq items n, slots := #[] } ∧ s.heap.get? b = some { cls := .type "list", dict := none, data := .seq items2 n2, slots := #[] } ∧
        R (.ok (.ret (.bool (gtInts xs ys)))) s) := by
  intro prog w A R s h
  obtain ⟨hp, g, d, tk, os⟩ := s; obtain ⟨hl, hb, h⟩ := h
  have f3 := AutoSeq1.sub_list_list
  wp_walk using wpAny_loadPart' hl, wpAny_loadPart' hb
  exact ⟨plainId_quiet plain_eq_loop _, codeAny_builtin entry_eq_loop (by
    rw [Around.under_plainId plain_eq_loop _]
    exact gt_loop l b items items2 n n2 xs ys hx hy _ 0 rfl (Nat.zero_le _) (Nat.zero_le _) prog w A R _ hl hb (by simpa using h))⟩
end
theorem intsOf_is : ∀ {xs : List D} {is : List Int}, intsOf xs = some is → xs = is.map .int
  | [], _, h => by cases h; rfl
  | .int i :: r, is, h => by
    unfold intsOf at h
    obtain ⟨js, hj, rfl⟩ := Option.map_eq_some_iff.mp h
    rw [List.map_cons, intsOf_is hj]
  | .none :: _, _, h => by cases h
  | .bool _ :: _, _, h => by cases h
  | .str _ :: _, _, h => by cases h
  | .list _ :: _, _, h => by cases h
  | .tup _ :: _, _, h => by cases h
  | .inst _ _ :: _, _, h => by cases h
theorem All2.ints {is : List Int} {vs : List Value} (h : All2 (DIs C P) (is.map .int) vs) : All2 (fun i v => ∃ t, v = Value.int i t) is vs :=
  ⟨by simpa using h.1, fun i x v e1 e2 => by
    have := h.2 i (.int x) v (by rw [List.getElem?_map, e1]; rfl) e2
    cases this; exact ⟨_, rfl⟩⟩
theorem post_bool {b : Bool} (r : Rel C P Z φ σ s) : Post C P Z φ (RV C (.d (.bool b))) σ (.bool b) s := post_pure r (DIs.bool b)
theorem eqIf_so {x y : List D} {Q : Bool → Prop} (h : plainL x = true → plainL y = true → Q (D.eqvs x y)) : So (eqIf x y) Q := fun t e => by
  obtain ⟨h1, h2, rfl⟩ := eqIf_is e; exact h h1 h2
/-- == and != at once -/
theorem eq_sn {a b : V} {va vb : Value} {k : Nat} (hA : ARoom A k) (r : Rel C P Z φ σ s) (ha : VIs C P φ a va) (hb : VIs C P φ b vb) :
    So (evEq a b σ) fun t => wpAny (model C.prog C.w) A (compareOp .Eq va vb) (Post C P Z φ (RV C (.d (.bool t))) σ) NoE s ∧ wpAny (model C.prog C.w) A (compareOp .NotEq va vb) (Post C P Z φ (RV C (.d (.bool !t))) σ) NoE s := by
  delta evEq
  refine intK ha (fun x t => intK hb (fun y u => So.just ⟨eq_int (post_bool (b := decide (_ = _)) r), ne_int (post_bool (b := !decide (_ = _)) r)⟩) fun _ _ => So.nil) fun va ha => So.skip ?_
  refine strK ha (fun x t => strK hb (fun y u => So.just ⟨eq_str (by rw [beqS_str]; exact post_bool r), ne_str (by rw [bne, beqS_str]; exact post_bool r)⟩) fun _ _ => So.nil) fun va ha => So.skip ?_
  refine tupK ha (fun l vs n xs pa qa => tupK hb (fun m ws k ys pb qb => eqIf_so fun h1 h2 => ⟨compareEq_is r hA (tup_reads r (DIs.of_tup pa qa) h1) (tup_reads r (DIs.of_tup pb qb) h2) h1 h2 (post_bool r), compareNe_is r hA (tup_reads r (DIs.of_tup pa qa) h1) (tup_reads r (DIs.of_tup pb qb) h2) h1 h2 (post_bool r)⟩) fun _ _ => So.nil) fun va ha => So.skip ?_
  refine So.bind fun xs e1 => So.bind fun ys e2 => eqIf_so fun h1 h2 => ?_
  exact ⟨compareEq_is (x := .list xs) (y := .list ys) r hA (lst_reads r ha e1 h1) (lst_reads r hb e2 h2) h1 h2 (post_bool r), compareNe_is (x := .list xs) (y := .list ys) r hA (lst_reads r ha e1 h1) (lst_reads r hb e2 h2) h1 h2 (post_bool r)⟩
theorem gt_sn {a b : V} {va vb : Value} {k : Nat} (hA : ARoom A k) (r : Rel C P Z φ σ s) (ha : VIs C P φ a va) (hb : VIs C P φ b vb) :
    So (evGt a b) fun t => wpAny (model C.prog C.w) A (compareOp .Gt va vb) (Post C P Z φ (RV C (.d (.bool t))) σ) NoE s := by
  delta evGt
  refine intK ha (fun x t => intK hb (fun y u => So.just (gt_int (post_bool r))) fun _ _ => So.nil) fun va ha => So.skip ?_
  refine litK ha (fun l vs n xs pa qa => So.step <| litK hb (fun m ws k' ys pb qb => So.step <| So.bind fun p hp => So.bind fun q hq => So.just ?_) fun _ _ => So.nil) fun _ _ => So.nil
  have qa' := intsOf_is hp ▸ qa
  have qb' := intsOf_is hq ▸ qb
  exact richCompare_meets_room (op := .Gt) ⟨_, r.keep _ _ pa, rfl⟩ ⟨_, r.keep _ _ pb, rfl⟩ F.slot_list_gt F.entry_list_gt (F.args_list_gt_2 _ _) (list_gt l m vs.toArray ws.toArray n k' p q qa'.ints qb'.ints)
        ⟨r.keep _ _ pa, r.keep _ _ pb, (fun x => nomatch x), post_bool r⟩ (Nat.lt_of_le_of_lt (Nat.le_of_add_right_le hA.units) (by decide))
theorem cmp_sn {o : CO} {a b : V} {va vb : Value} {k : Nat} (hA : ARoom A k) (r : Rel C P Z φ σ s) (ha : VIs C P φ a va) (hb : VIs C P φ b vb) :
    So (evCmp o a b σ) fun t => wpAny (model C.prog C.w) A (compareOp o.op va vb) (Post C P Z φ (RV C (.d (.bool t))) σ) NoE s := by
  cases o with
  | lt =>
    show So (int2 a b fun x y => some (decide (x < y))) _
    exact int2K ha hb (fun x y t u => So.just (wpAny_lt_int (post_bool r))) fun _ _ => So.nil
  | gt => exact gt_sn hA r ha hb
  | le =>
    show So (int2 a b fun x y => some (decide (x ≤ y))) _
    exact int2K ha hb (fun x y t u => So.just (le_int (post_bool r))) fun _ _ => So.nil
  | ge =>
    show So (int2 a b fun x y => some (decide (y ≤ x))) _
    exact int2K ha hb (fun x y t u => So.just (ge_int (post_bool r))) fun _ _ => So.nil
  | eq => exact (eq_sn hA r ha hb).imp fun _ h => h.1
  | ne => exact So.map ((eq_sn hA r ha hb).imp fun _ h => h.2)
end
end Mine
end
section
open PySem PySem.Calls PyProof.Rows PySem.W
namespace Mine
theorem DictO.dictAt {C : Cx} {h : Heap} {a : Addr} {o : Obj} {kvs : List (Str × Value)} {ep : Nat} (ho : h.get? a = some o) (k : DictO C o kvs ep) : h.DictAt (strKind C.prog C.w) a kvs ep := let ⟨es, r⟩ := k; ⟨o, es, ho, r⟩
theorem DictO.of {C : Cx} {h : Heap} {a : Addr} {kvs : List (Str × Value)} (k : h.DictOf (strKind C.prog C.w) a kvs) : ∃ o ep, h.get? a = some o ∧ DictO C o kvs ep := let ⟨o, es, ep, ho, r⟩ := k; ⟨o, ep, ho, es, r⟩
theorem isStr_key {k : List Nat} {t : Tok} {prog : PySem.Program} {w : World} : (PySem.strKind prog w).is ⟨k.toArray⟩ (.str ⟨k.toArray⟩ t) = true := by simp [PySem.strKind, Value.isStrOf]
section
variable {C : Cx} {P Z : PH} {φ : Phi} {σ σ' : List S} {s : Shared} {A : Around}
theorem str_inj {a b : List Nat} (h : (⟨a.toArray⟩ : Str) = ⟨b.toArray⟩) : a = b := by injection h with h; simpa using h
theorem All2.tail {α β : Type} {R : α → β → Prop} {x : α} {y : β} {xs : List α} {ys : List β} (h : All2 R (x :: xs) (y :: ys)) : R x y ∧ All2 R xs ys :=
  ⟨h.2 0 x y rfl rfl, by have := h.1; simpa using this, fun i a b e1 e2 => h.2 (i + 1) a b (by simpa using e1) (by simpa using e2)⟩
theorem lookS_is {k : List Nat} : ∀ {es : List (List Nat × D)} {kvs : List (Str × Value)}, All2 (EntK C P) es kvs → match lookS k es with
    | some d => ∃ v, valueAt kvs ⟨k.toArray⟩ = some v ∧ DIs C P d v
    | none => valueAt kvs ⟨k.toArray⟩ = none
  | [], [], _ => rfl
  | [], _ :: _, h => by cases h.1
  | _ :: _, [], h => by cases h.1
  | (j, d) :: es, (y, v) :: kvs, h => by
    obtain ⟨⟨h1, h2⟩, h3⟩ := h.tail
    have ih := lookS_is (k := k) h3
    simp only at h1 h2
    subst h1
    unfold lookS valueAt
    cases q : beqS j k with
    | true =>
      rw [beqS_iff] at q; subst q
      exact ⟨v, by simp, h2⟩
    | false =>
      have : ¬ ((⟨j.toArray⟩ : Str) = ⟨k.toArray⟩) := fun e => by
        have := str_inj e; subst this
        rw [beqS_iff.mpr rfl] at q; cases q
      unfold valueAt at ih
      simpa [this] using ih
theorem lookS_some {k : List Nat} {d : D} {es : List (List Nat × D)} {kvs : List (Str × Value)} (h : All2 (EntK C P) es kvs) (e : lookS k es = some d) : ∃ v, valueAt kvs ⟨k.toArray⟩ = some v ∧ DIs C P d v := by
  have := lookS_is (k := k) h
  rw [e] at this; exact this
theorem lookS_isSome {k : List Nat} {es : List (List Nat × D)} {kvs : List (Str × Value)} (h : All2 (EntK C P) es kvs) : (valueAt kvs ⟨k.toArray⟩).isSome = (lookS k es).isSome := by
  have := lookS_is (k := k) h
  cases e : lookS k es with
  | none => rw [e] at this; rw [this]; rfl
  | some d => rw [e] at this; obtain ⟨v, hv, _⟩ := this; rw [hv]; rfl
theorem putS_is (k : List Nat) {d : D} {v : Value} (hv : DIs C P d v) : ∀ {es : List (List Nat × D)} {kvs : List (Str × Value)}, All2 (EntK C P) es kvs → (kvs.map (·.1)).Nodup → All2 (EntK C P) (putS k d es) (stored kvs ⟨k.toArray⟩ v)
  | [], [], _, _ => by simp [putS, stored]; exact All2.one ⟨rfl, hv⟩
  | [], _ :: _, h, _ => by cases h.1
  | _ :: _, [], h, _ => by cases h.1
  | (j, d') :: es, (y, w) :: kvs, h, hn => by
    obtain ⟨⟨h1, h2⟩, h3⟩ := h.tail
    simp only at h1 h2
    subst h1
    rw [List.map_cons, List.nodup_cons] at hn
    have ih := putS_is k hv h3 hn.2
    unfold putS
    cases q : beqS j k with
    | true =>
      rw [beqS_iff] at q; subst q
      have e : stored (((⟨j.toArray⟩ : Str), w) :: kvs) ⟨j.toArray⟩ v = ((⟨j.toArray⟩ : Str), v) :: kvs := by
        unfold stored
        rw [if_pos (by simp)]
        rw [List.map_cons, if_pos rfl, map_store_of_not_mem _ _ _ hn.1]
      rw [e]
      exact All2.cons ⟨rfl, hv⟩ h3
    | false =>
      have ne : ¬ ((⟨j.toArray⟩ : Str) = ⟨k.toArray⟩) := fun e => by
        have := str_inj e; subst this
        rw [beqS_iff.mpr rfl] at q; cases q
      have e : stored (((⟨j.toArray⟩ : Str), w) :: kvs) ⟨k.toArray⟩ v = ((⟨j.toArray⟩ : Str), w) :: stored kvs ⟨k.toArray⟩ v := by
        unfold stored
        simp only [List.any_cons, ne, decide_false, Bool.false_or, List.map_cons, if_false]
        split <;> rfl
      rw [e]
      exact All2.cons ⟨rfl, h2⟩ ih
/-- what lies at an owned dict -/
theorem dict_at {n : Nat} {v : Value} {lk : Bool} {es : List (List Nat × D)} (r : Rel C P Z φ σ s) (h : VIs C P φ (.ref n) v) (e : σ[n]? = some (.mdict lk es)) :
    ∃ a nm o kvs ep, v = .ref a ∧ φ[n]? = some (a, nm) ∧ s.heap.get? a = some o ∧ DictO C o kvs ep ∧ All2 (EntK C P) es kvs := by
  obtain ⟨a, nm, h1, rfl⟩ := h
  obtain ⟨_, _, o, ho, kvs, ep, h2, h3⟩ := r.own n a nm _ h1 e
  exact ⟨a, nm, o, kvs, ep, rfl, h1, ho, h2, h3⟩
theorem not_modules {n : Nat} {a : Addr} {nm : List Str} (r : Rel C P Z φ σ s) (hm : ∃ o, C.h₀.get? sysModules = some o) (e : φ[n]? = some (a, nm)) : (a == sysModules) = false := by
  obtain ⟨x, hx⟩ := r.lt e
  obtain ⟨h1, _⟩ := r.own n a nm x e hx
  rw [beq_eq_false_iff_ne]
  rintro rfl
  obtain ⟨o, ho⟩ := hm
  rw [r.base _ _ ho] at h1; cases h1
theorem placeOf_is {k : Int} {n : Nat} (h : placeOf k = some n) : k = (n : Int) ∧ n ≤ 4096 := by
  unfold placeOf at h
  split at h
  · rename_i m hm
    split at h
    · rename_i hr; cases h; exact ⟨numOf_is hm, room_is hr⟩
    · cases h
  · cases h
theorem int_place {n m : Nat} (h : n < m) : seqIndex? (n : Int) m = some n := by
  have := seqIndex_of (k := (n : Int)) (n := m) (by omega) (by omega)
  simpa using this
theorem place_fits {n : Nat} (h : n ≤ 4096) : (n : Int) < 2 ^ 63 := by omega
theorem place_fits' {n : Nat} : -(2 ^ 63 : Int) ≤ (n : Int) := by omega
theorem refV_so {α : Type} {x : V} {f : Nat → Option α} {Q : α → Prop} (h : ∀ n, x = .ref n → So (f n) Q) : So ((refV x).bind f) Q := match x, h with
  | .ref n, h => h n rfl
  | .d _, _ => So.nil
theorem refV_sn {α : Type} {x : V} {f : Nat → Res α} {T : α → List S → Prop} (h : ∀ n, x = .ref n → Sn (f n) T) : Sn ((refV x).bind f) T := match x, h with
  | .ref n, h => h n rfl
  | .d _, _ => Sn.nil
/-- an item can be asked for at a value -/
noncomputable def ItemT (s : Shared) (v : Value) : Prop := ∃ T id, s.TypeIs v T ∧ typeLookup (.type T) "__getitem__" = pure (some (.builtin id))
theorem sub_sn {o i : V} {vo vi : Value} (r : Rel C P Z φ σ s) (ho : VIs C P φ o vo) (hi : VIs C P φ i vi) :
    So (evSub o i σ) fun d => wpAny (model C.prog C.w) A (getItem vo vi) (Post C P Z φ (RV C (.d d)) σ) NoE s ∧ ItemT s vo := by
  delta evSub
  refine intK hi (fun k u => So.bind (o := placeOf k) fun n hn => ?_) fun vi hi => So.skip ?_
  · have hz := placeOf_is hn
    obtain ⟨rfl, hz⟩ := hz
    refine tupK ho (fun a vs m xs pa qa => fun d hd => ?_) fun vo ho => So.skip ?_
    · obtain ⟨v, hv, hd⟩ := qa.getD hd
      have hl := (List.getElem?_eq_some_iff.mp hv).1
      exact ⟨_root_.PySem.P.getItem_tuple (k := n) (r.keep _ _ pa) place_fits' (place_fits hz) (int_place (vs.size_toArray ▸ hl)) (by simpa using hv) (post_pure r hd), "tuple", _, ⟨_, r.keep _ _ pa, rfl⟩, F.slot_tuple_getitem.lookup⟩
    refine strK ho (fun x t => So.step <| So.bind fun c hc => So.just ?_) fun vo ho => So.skip ?_
    · have hl := (List.getElem?_eq_some_iff.mp hc).1
      exact ⟨_root_.PySem.P.getItem_str (c := c) (by simp; omega) (by rw [str_len, int_place hl]; simpa using hc) (post_pure (r.toks _) (DIs.str [c] _)), "str", _, rfl, F.slot_str_getitem.lookup⟩
    refine lstK r ho (fun a vs m xs pa qa => So.step fun d hd => ?_) fun _ _ => So.nil
    obtain ⟨v, hv, hd⟩ := qa.getD hd
    exact ⟨wpAny_getItem_list pa.isList (Int.natCast_nonneg n) (place_fits hz) (by simpa using hv) (post_pure r hd), "list", _, ⟨_, pa, rfl⟩, F.slot_list_getitem.lookup⟩
  · refine strK hi (fun k u => So.step (f := fun k => (refV o).bind fun n => (dicA σ n).bind fun es => lookS k es) <| refV_so fun n e1 => So.bind <| So.dic fun lk es hσ d h => ?_) fun _ _ => So.nil
    subst e1
    obtain ⟨a, nm, oo, kvs, ep, rfl, e1, e2, e3, e4⟩ := dict_at r ho hσ
    have hm := (DictO.dictAt e2 e3).dictOf
    obtain ⟨v, hv, hd⟩ := lookS_some e4 h
    exact ⟨wpAny_getItem_of isStr_key hm.mapOf hv (post_pure (r.toks _) hd), "dict", _, hm.typeIs, F.slot_dict_getitem.lookup⟩
end
end Mine
end
section
open PySem PySem.Calls PyProof.Rows PySem.W
namespace Mine
section
variable {C : Cx} {P Z : PH} {φ : Phi} {σ σ' : List S} {s : Shared} {A : Around}
theorem setItem_exact {prog : Program} {w : World} {E : Value → Shared → Prop} {l : Addr} {items : Array Value} {n j : Nat} {t : Tok} {v : Value} {Q : Unit → Shared → Prop} (ho : s.heap.get? l = some (listOf items n)) (hj : j < items.size) {k : Int} (hk : k = (j : Int)) (hfit : k < 2 ^ 63)
    (hQ : ∀ h', h'.get? l = some (listOf (items.setIfInBounds j v) n) → Heap.SameBut l s.heap h' → Q () { s with heap := h' }) : wpAny (model prog w) A (setItem (.ref l) (.int k t) v) Q E s := by
  have hl : s.heap.IsList l items := ⟨_, ho, rfl, n, rfl⟩
  unfold setItem
  try with_reducible refine wpAny_holding ?_
  first | refine wpAny_bind (wpAny_pure ?_) | skip
  refine wpAny_bind (wpAny_sequenceKey hl.typeIs (by decide) ?_)
  refine wpAny_bind (wpAny_callSpecial?_slot (name := Str.ofString "__setitem__") hl.typeIs slot_list_setitem
    (wpAny_call_entry slot_list_setitem hl.typeIs entry_list_setitem ?_ (args_list_setitem _ _ _)))
  show wpAny _ _ (Builtin.List.listSubscript? (.int k t) >>= _) _ _ s
  refine wpAny_bind (wpAny_listSubscript_int (fitsIndex_of (by omega) hfit) ?_)
  clear hfit
  subst hk
  have hx' : items[j]? = some items[j] := Array.getElem?_eq_getElem hj
  show wpAny _ _ ((seqItemAt l j >>= fun r => pure (r.map (j, ·))) >>= _) _ _ s
  refine wpAny_bind (wpAny_bind (wpAny_seqItemAt ho rfl (wpAny_pure ?_)))
  rw [hx']
  show wpAny _ _ (setSeqItemAt l j v >>= _) _ _ s
  have e : Obj.mapSeq (·.setIfInBounds j v) (listOf items n) = listOf (items.setIfInBounds j v) n := by simp [Obj.mapSeq]
  have hfin : (s.heap.update l (Obj.mapSeq (·.setIfInBounds j v))).get? l = some (listOf (items.setIfInBounds j v) n) := by
    rw [Heap.get?_update_self _ ho (by rw [e]; rfl), e]
  refine wpAny_bind (wpAny_setSeqItemAt ho rfl ?_)
  first
    | exact wpAny_bind (wpAny_pure (wpAny_pure ⟨.none, rfl, wpAny_pure (hQ _ hfin (Heap.SameBut.update ..))⟩))
    | exact wpAny_pure ⟨.none, rfl, wpAny_pure (hQ _ hfin (Heap.SameBut.update ..))⟩
theorem All2.set {α β : Type} {R : α → β → Prop} {xs : List α} {ys : List β} {x : α} {y : β} (h : All2 R xs ys) (k : R x y) (j : Nat) : All2 R (xs.set j x) (ys.set j y) := by
  refine ⟨by simp [h.1], fun i a b e1 e2 => ?_⟩
  by_cases hi : i = j
  · subst hi
    have h1 := (List.getElem?_eq_some_iff.mp e1).1
    have h2 := (List.getElem?_eq_some_iff.mp e2).1
    rw [List.length_set] at h1 h2
    rw [List.getElem?_set_self h1] at e1
    rw [List.getElem?_set_self h2] at e2
    cases e1; cases e2; exact k
  · rw [List.getElem?_set_ne (Ne.symm hi)] at e1 e2
    exact h.2 i a b e1 e2
noncomputable abbrev RU : PH → Phi → Unit → Prop := fun _ _ _ => True
theorem post_upd {a : Addr} {nm : List Str} {n : Nat} {x y : S} {o' : Obj} {h' : Heap} {α : Type} {R : PH → Phi → α → Prop} {v : α} {k : Nat} (r : Rel C P Z φ σ s) (e1 : φ[n]? = some (a, nm)) (hσ : σ[n]? = some x) (hl : x.locked = false) (g2 : Heap.SameBut a s.heap h') (g1 : h'.get? a = some o') (hy : SIs C P φ n nm o' y) (hR : R P φ v) :
    Post C P Z φ R (σ.set n y) v { s with heap := h', toks := k } := post_pure (r.update (s' := { s with heap := h', toks := k }) e1 hσ hl g2 g1 hy) hR
theorem setL_is {n j : Nat} {a : Addr} {nm : List Str} {t : Tok} {xs : List D} {v : D} {vv : Value} (r : Rel C P Z φ σ s) (e1 : φ[n]? = some (a, nm)) (hσ : σ[n]? = some (.mlist xs)) (hj : j ≤ 4096) (hlt : Nat.blt j xs.length = true) (hv : DIs C P v vv) :
    wpAny (model C.prog C.w) A (setItem (.ref a) (.int (j : Int) t) vv) (Post C P Z φ RU (σ.set n (.mlist (xs.set j v)))) NoE s := by
  obtain ⟨_, _, oo, h1, vs, m, rfl, hq⟩ := r.own _ _ _ _ e1 hσ
  exact setItem_exact h1 (hq.1 ▸ Nat.le_of_ble_eq_true hlt : j < vs.toList.length) rfl (place_fits hj) fun h' g1 g2 => post_upd (y := .mlist _) (R := RU) r e1 hσ rfl g2 g1 ⟨_, m, rfl, by rw [Array.toList_setIfInBounds]; exact hq.set hv j⟩ trivial
theorem setD_is {n : Nat} {vo : Value} {t : Tok} {k : List Nat} {es : List (List Nat × D)} {v : D} {vv : Value} (r : Rel C P Z φ σ s) (ho : VIs C P φ (.ref n) vo) (hσ : σ[n]? = some (.mdict false es)) (hr : room es.length = true) (hv : DIs C P v vv) :
    wpAny (model C.prog C.w) A (setItem vo (.str ⟨k.toArray⟩ t) vv) (Post C P Z φ RU (σ.set n (.mdict false (putS k v es)))) NoE s := by
  obtain ⟨a, nm, oo, kvs, ep, rfl, e1, e2, e3, e4⟩ := dict_at r ho hσ
  have hn : (kvs.map (·.1)).Nodup := by obtain ⟨_, _, _, _, _, hn⟩ := e3; exact hn
  refine wpAny_setItem_pairs isStr_key (DictO.dictAt e2 e3).dictOf (fun h' g1 g2 => ?_) (e4.1 ▸ room_line hr)
  obtain ⟨o', ep', g3, g4⟩ := DictO.of g1
  exact post_upd (y := .mdict false _) (R := RU) r e1 hσ rfl g2 g3 ⟨_, ep', g4, putS_is _ hv e4 hn⟩ trivial
theorem setAtV_sn {o i : V} {v : D} {vo vi vv : Value} (r : Rel C P Z φ σ s) (ho : VIs C P φ o vo) (hi : VIs C P φ i vi) (hv : DIs C P v vv) :
    So (setAtV o i v σ) fun σ' => wpAny (model C.prog C.w) A (setItem vo vi vv) (Post C P Z φ RU σ') NoE s := by
  delta setAtV
  refine refK ho (fun n a nm e1 => So.step ?_) fun _ _ => So.nil
  refine intK hi (fun k t => So.bind <| So.lis fun xs hσ => So.bind fun j hj => So.gd fun hlt => So.just ?_) fun vi hi => So.skip ?_
  · rw [(placeOf_is hj).1]; exact setL_is r e1 hσ (placeOf_is hj).2 hlt hv
  · exact strK hi (fun k t => So.step <| So.bind <| So.opn fun es hσ => So.gd fun hr => So.just (setD_is r ⟨a, nm, e1, rfl⟩ hσ hr hv)) fun _ _ => So.nil
theorem push_sn {n : Nat} {y : D} {vo vy : Value} (r : Rel C P Z φ σ s) (ho : VIs C P φ (.ref n) vo) (hy : DIs C P y vy) :
    Sn (pushAt n y σ) fun _ σ' => wpAny (model C.prog C.w) A (call (.builtin "list.append") [vo, vy]) (Post C P Z φ (RV C (.d .none)) σ') NoE s ∧ ∃ a, vo = .ref a ∧ s.TypeIs vo "list" := by
  refine Sn.bind <| So.lis fun xs hσ => Sn.gd fun hr => Sn.ok ?_
  obtain ⟨a, nm, e1, rfl⟩ := ho
  obtain ⟨_, _, oo, h1, vs, k, rfl, hq⟩ := r.own _ _ _ _ e1 hσ
  refine ⟨wpAny_list_append_plain ⟨k, h1⟩ (fun h' ⟨k', g1⟩ g2 => post_upd (y := .mlist _) r e1 hσ rfl g2 g1 ⟨_, k', rfl, ?_⟩ DIs.none) (hq.1 ▸ room_line hr : vs.toList.length ≤ sizeLine), a, rfl, _, h1, rfl⟩
  rw [Array.toList_push]
  exact hq.append (All2.one hy)
theorem in_is {k : List Nat} {n : Nat} {lk : Bool} {es : List (List Nat × D)} {va vb : Value} (hm : ∃ o, C.h₀.get? sysModules = some o) (hσ : σ[n]? = some (.mdict lk es)) (r : Rel C P Z φ σ s) (ha : VIs C P φ (.d (.str k)) va) (hb : VIs C P φ (.ref n) vb) :
    wpAny (model C.prog C.w) A (compareOp .In va vb) (Post C P Z φ (RV C (.d (.bool (lookS k es).isSome))) σ) NoE s := by
  obtain ⟨t, rfl⟩ := ha.str_inv
  obtain ⟨a, nm, oo, kvs, ep, rfl, e1, e2, e3, e4⟩ := dict_at r hb hσ
  refine wpAny_in_of isStr_key (not_modules r hm e1) (DictO.dictAt e2 e3).dictOf.mapOf ?_
  rw [lookS_isSome e4]
  exact post_pure (r.toks _) (DIs.bool _)
theorem list_not_tuple {n : Nat} {a : Addr} {nm : List Str} {xs : List D} (r : Rel C P Z φ σ s) (e1 : φ[n]? = some (a, nm)) (e2 : σ[n]? = some (.mlist xs)) : ∃ o, s.heap.get? a = some o ∧ o.cls ≠ .type "tuple" := by
  obtain ⟨_, _, o, ho, vs, k, rfl, _⟩ := r.own n a nm _ e1 e2
  exact ⟨_, ho, by show Value.type "list" ≠ .type "tuple"; decide⟩
theorem dict_not_tuple {n : Nat} {a : Addr} {nm : List Str} {lk : Bool} {es : List (List Nat × D)} (r : Rel C P Z φ σ s) (e1 : φ[n]? = some (a, nm)) (e2 : σ[n]? = some (.mdict lk es)) : ∃ o, s.heap.get? a = some o ∧ o.cls ≠ .type "tuple" := by
  obtain ⟨_, _, o, ho, kvs, ep, ⟨es', ⟨hc, _⟩, _⟩, _⟩ := r.own n a nm _ e1 e2
  exact ⟨_, ho, by rw [hc]; decide⟩
end
end Mine
end
section
open PySem PySem.Calls PyProof.Rows PySem.W
namespace Mine
section
variable {C : Cx} {P Z : PH} {φ : Phi} {σ σ' : List S} {s : Shared} {A : Around}
theorem IsL.isL {h : Heap} {l : Addr} {its : Array Value} {n : Nat} (e : IsL h l its n) : h.IsList l its := ⟨_, e, rfl, n, rfl⟩
theorem lenOf_list {x : V} {v : Value} {xs : List D} (r : Rel C P Z φ σ s) (h : VIs C P φ x v) (e : lstOf σ x = some xs) (hz : (xs.length : Int) < 2 ^ 63) :
    wpAny (model C.prog C.w) A (call (.builtin "len") [v]) (Post C P Z φ (RV C (.d (.int xs.length))) σ) NoE s := by
  obtain ⟨a, vs, n, rfl, ha, hq⟩ := lst_is r h e
  refine call_len_list (IsL.isL ha) (by rw [List.size_toArray, ← hq.1]; exact hz) ?_
  rw [List.size_toArray, ← hq.1]
  exact post_int r
theorem lenOf_str {xs : List Nat} {v : Value} (r : Rel C P Z φ σ s) (h : VIs C P φ (.d (.str xs)) v) (hz : (xs.length : Int) < 2 ^ 63) :
    wpAny (model C.prog C.w) A (call (.builtin "len") [v]) (Post C P Z φ (RV C (.d (.int xs.length))) σ) NoE s := by
  obtain ⟨t, rfl⟩ := h.str_inv
  refine _root_.PySem.P.len_str (by rw [str_len]; omega) ?_
  rw [str_len]
  exact post_int r
theorem lenOf_tup {xs : List D} {v : Value} (r : Rel C P Z φ σ s) (h : VIs C P φ (.d (.tup xs)) v) (hz : (xs.length : Int) < 2 ^ 63) :
    wpAny (model C.prog C.w) A (call (.builtin "len") [v]) (Post C P Z φ (RV C (.d (.int xs.length))) σ) NoE s := by
  obtain ⟨a, vs, n, rfl, ha, hq⟩ := h.tup_inv
  refine _root_.PySem.P.len_tuple (r.keep _ _ ha) (by rw [List.size_toArray, ← hq.1]; omega) ?_
  rw [List.size_toArray, ← hq.1]
  exact post_int r
theorem lenV_is {x : V} {v : Value} {n : Nat} (r : Rel C P Z φ σ s) (h : VIs C P φ x v) (e : lenV σ x = some n) (hz : room n = true) :
    wpAny (model C.prog C.w) A (call (.builtin "len") [v]) (Post C P Z φ (RV C (.d (.int n))) σ) NoE s := by
  have hz' := place_fits (room_is hz)
  revert n
  show So (lenV σ x) fun n => room n = true → (n : Int) < 2 ^ 63 → wpAny (model C.prog C.w) A (call (.builtin "len") [v]) (Post C P Z φ (RV C (.d (.int n))) σ) NoE s
  delta lenV
  refine strK h (fun s' t => So.just fun _ hz => lenOf_str r (DIs.str s' t) hz) fun v h => So.skip ?_
  refine tupK h (fun a vs n xs pa qa => So.just fun _ hz => lenOf_tup r (DIs.of_tup pa qa) hz) fun v h => So.skip ?_
  exact So.map fun xs hx _ hz => lenOf_list r h hx hz
theorem tupleOf_is {x : V} {v : Value} {xs : List D} (r : Rel C P Z φ σ s) (h : VIs C P φ x v) (e : lstOf σ x = some xs) (hz : room xs.length = true) :
    wpAny (model C.prog C.w) A (call (.type "tuple") [v]) (Post C P Z φ (RV C (.d (.tup xs))) σ) NoE s := by
  obtain ⟨a, vs, n, rfl, ha, hq⟩ := lst_is r h e
  refine call_tuple_list (IsL.isL ha) (fun h' hk => ?_) (by rw [List.size_toArray, ← hq.1]; exact room_line hz)
  exact post_data (r.grow (s' := { s with heap := h' }) hk) rfl rfl fun P' hp e => DIs.of_tup e (hq.imp fun _ _ z => z.mono hp)
/-! slices -/
theorem All2.cut {α β : Type} {R : α → β → Prop} {xs : List α} {ys : List β} (h : All2 R xs ys) (l u : Nat) : All2 R (Mine.cut l u xs) (Mine.cut l u ys) := by
  unfold Mine.cut
  refine ⟨by simp [h.1], fun i x y e1 e2 => ?_⟩
  rw [List.getElem?_drop] at e1 e2
  have h1 : l + i < u := by
    have := (List.getElem?_eq_some_iff.mp e1).1
    rw [List.length_take] at this; omega
  rw [List.getElem?_take_of_lt h1] at e1 e2
  exact h.2 _ x y e1 e2
theorem range_cut {α : Type} (items : List α) (l u : Nat) : (sliceRange ((min l items.length : Nat) : Int) ((min u items.length : Nat) : Int) 1).filterMap (items.toArray[·]?) = cut l u items := by
  simp only [sliceRange_one, pick_run]
  unfold cut
  rw [List.drop_take]
  apply List.ext_getElem?
  intro i
  rw [List.getElem?_take, List.getElem?_take, List.getElem?_drop, List.getElem?_drop]
  by_cases h1 : l ≤ items.length
  · rw [Nat.min_eq_left h1]
    by_cases h2 : i < u - l
    · by_cases h3 : l + i < items.length
      · rw [if_pos (by omega), if_pos h2]
      · rw [List.getElem?_eq_none (by omega)]; simp
    · rw [if_neg (by omega), if_neg h2]
  · rw [List.getElem?_eq_none (i := l + i) (by omega), List.getElem?_eq_none (i := _ + i) (by omega)]
    simp
noncomputable def clipN (o : Option Int) (d : Int) (n : Nat) : Int := match o with
  | none => d
  | some i => max 0 (min (if i < 0 then i + n else i) n)
theorem clip_nat (l n : Nat) : max 0 (min (if (l : Int) < 0 then (l : Int) + n else l) (n : Int)) = ((min l n : Nat) : Int) := by
  rw [if_neg (Int.not_lt.mpr (Int.natCast_nonneg l))]; omega
theorem clip_hi {u n : Nat} {hi : Option Int} (hu : hi = some (u : Int) ∨ (hi = none ∧ u = n)) : clipN hi n n = ((min u n : Nat) : Int) := by
  rcases hu with rfl | ⟨rfl, rfl⟩
  · exact clip_nat u n
  · rw [Nat.min_self]; rfl
theorem clip_lo {l n : Nat} {lo : Option Int} (hl : lo = some (l : Int) ∨ (lo = none ∧ l = 0)) : clipN lo 0 n = ((min l n : Nat) : Int) := by
  rcases hl with rfl | ⟨rfl, rfl⟩
  · exact clip_nat l n
  · rw [Nat.zero_min]; rfl
theorem slicePick_cut (items : List Value) (l u : Nat) (hi : Option Int) (hu : hi = some (u : Int) ∨ (hi = none ∧ u = items.length)) (lo : Option Int) (hl : lo = some (l : Int) ∨ (lo = none ∧ l = 0)) : slicePick items.toArray lo hi none = (cut l u items).toArray := by
  have e : slicePick items.toArray lo hi none = ((sliceRange (clipN lo 0 items.length) (clipN hi items.length items.length) 1).filterMap (items.toArray[·]?)).toArray := by cases lo <;> cases hi <;> rfl
  rw [e, clip_lo hl, clip_hi hu, range_cut]
theorem str_picked (x : List Nat) (l u : Nat) (hi : Option (Int × Tok)) (hu : hi.map (·.1) = some (u : Int) ∨ (hi.map (·.1) = none ∧ u = x.length)) (lo : Option (Int × Tok)) (hl : lo.map (·.1) = some (l : Int) ∨ (lo.map (·.1) = none ∧ l = 0)) :
    slicePicked ⟨x.toArray⟩ lo hi none = sliceRange ((min l x.length : Nat) : Int) ((min u x.length : Nat) : Int) 1 := by
  have e : slicePicked ⟨x.toArray⟩ lo hi none = sliceRange (clipN (lo.map (·.1)) 0 x.length) (clipN (hi.map (·.1)) x.length x.length) 1 := by cases lo <;> cases hi <;> rfl
  rw [e, clip_lo hl, clip_hi hu]
theorem str_sliced {x : List Nat} {t : Tok} {l u : Nat} {hi lo : Option (Int × Tok)} (r : Rel C P Z φ σ s) (hz : room x.length = true) (hu : hi.map (·.1) = some (u : Int) ∨ (hi.map (·.1) = none ∧ u = x.length)) (hl : lo.map (·.1) = some (l : Int) ∨ (lo.map (·.1) = none ∧ l = 0)) :
    (sliceMade ⟨x.toArray⟩ t lo hi none).post (Post C P Z φ (RV C (.d (.str (cut l u x)))) σ) s := by
  have hp := str_picked x l u hi hu lo hl
  have hc : ((slicePicked ⟨x.toArray⟩ lo hi none).filterMap ((⟨x.toArray⟩ : Str).cps[·]?)) = cut l u x := by rw [hp]; exact range_cut x l u
  unfold sliceMade
  split
  · rename_i h
    rw [Bool.and_eq_true, beq_iff_eq] at h
    have h2 := h.2
    rw [beq_iff_eq, str_len, hp, sliceRange_one] at h2
    simp only [List.length_map, List.length_range] at h2
    have e : cut l u x = x := by
      unfold cut
      by_cases hx : x.length = 0
      · rw [List.eq_nil_of_length_eq_zero hx]; simp
      · have : l = 0 := by omega
        subst this
        rw [List.drop_zero, List.take_of_length_le (by omega)]
    rw [e]
    exact post_pure r (DIs.str x t)
  · rw [hc]
    refine ⟨?_, post_pure (r.toks _) (DIs.str _ _)⟩
    rw [str_len]
    unfold cut
    have := room_line hz
    rw [List.length_drop, List.length_take]
    omega
/-! max -/
theorem ints_items : ∀ {is : List Int} {vs : List Value}, All2 (fun i v => ∃ t, v = Value.int i t) is vs → ∃ ps : List (Int × Tok), vs = (intItems ps.toArray).toList ∧ is = ps.map (·.1)
  | [], [], _ => ⟨[], by simp [intItems], rfl⟩
  | [], _ :: _, h => by cases h.1
  | _ :: _, [], h => by cases h.1
  | i :: is, v :: vs, h => by
    obtain ⟨⟨t, rfl⟩, h2⟩ := h.tail
    obtain ⟨ps, h3, h4⟩ := ints_items h2
    exact ⟨(i, t) :: ps, by simp only [intItems, List.map_toArray, List.map_cons] at h3 ⊢; rw [h3], by rw [h4]; rfl⟩
theorem maxL_snoc (y : Int) : ∀ (l : List Int) (x : Int), maxL x (l ++ [y]) = if maxL x l < y then y else maxL x l
  | [], x => rfl
  | z :: l, x => by
    rw [List.cons_append]
    unfold maxL
    exact maxL_snoc y l _
theorem argBest_max (f : Nat → Int) : ∀ (k : Nat), f (argBest (fun i j => decide (f i > f j)) k) = maxL (f 0) ((List.range k).map fun i => f (i + 1))
  | 0 => rfl
  | k + 1 => by
    rw [List.range_succ, List.map_append, List.map_singleton, maxL_snoc, ← argBest_max f k]
    show f (if decide (f (k + 1) > f (argBest _ k)) = true then k + 1 else argBest _ k) = _
    generalize argBest (fun i j => decide (f i > f j)) k = b
    by_cases q : f b < f (k + 1)
    · rw [if_pos q, if_pos (decide_eq_true q)]
    · rw [if_neg q, if_neg (by simpa using q)]
theorem max1_is {is : List Int} {i : Int} {v : Value} {k : Nat} (hA : ARoom A k) (r : Rel C P Z φ σ s) (h : VIs C P φ (.d (.list ((i :: is).map .int))) v) :
    wpAny (model C.prog C.w) A (call (.builtin "max") [v]) (Post C P Z φ (RV C (.d (.int (maxL i is)))) σ) NoE s := by
  obtain ⟨a, vs, n, rfl, ha, hq⟩ := h.list_inv
  obtain ⟨ps, rfl, h4⟩ := ints_items hq.ints
  have hps : ps.toArray.size = is.length + 1 := by rw [List.size_toArray]; have := congrArg List.length h4; simp at this; omega
  refine max_intList hA.handled (IsL.isL (r.keep _ _ ha)) (by omega) fun v' h' tk e hk => ?_
  obtain ⟨t, rfl⟩ := intItems_at e
  have e2 : numAt ps.toArray (argBest (fun i j => decide (numAt ps.toArray i > numAt ps.toArray j)) (ps.toArray.size - 1)) = maxL i is := by
    rw [argBest_max (numAt ps.toArray), hps]
    have hn : ∀ (m : Nat) (x : Int), (i :: is)[m]? = some x → numAt ps.toArray m = x := fun m x hx => by
      rw [h4, List.getElem?_map] at hx
      unfold numAt
      rw [List.getElem?_toArray, hx]; rfl
    rw [hn 0 i rfl]
    congr 1
    apply List.ext_getElem?
    intro m
    rw [List.getElem?_map, Nat.add_sub_cancel]
    by_cases hm : m < is.length
    · rw [List.getElem?_range hm, List.getElem?_eq_getElem hm]
      show some (numAt ps.toArray (m + 1)) = _
      rw [hn (m + 1) is[m] (by simp [hm])]
    · rw [List.getElem?_eq_none (by simpa using hm), List.getElem?_eq_none (by simpa using hm)]; rfl
  rw [e2]
  exact post_pure (r.grow (s' := { s with heap := h', toks := tk }) hk) (DIs.int _ t)
theorem max2_is {i j : Int} {v u : Value} {k : Nat} (hA : ARoom A k) (r : Rel C P Z φ σ s) (h : VIs C P φ (.d (.int i)) v) (h' : VIs C P φ (.d (.int j)) u) :
    wpAny (model C.prog C.w) A (call (.builtin "max") [v, u]) (Post C P Z φ (RV C (.d (.int (if i < j then j else i)))) σ) NoE s := by
  obtain ⟨t, rfl⟩ := h.int_inv
  obtain ⟨t', rfl⟩ := h'.int_inv
  refine max_two_ints hA.handled fun g tk hk => ?_
  have r' := r.grow (s' := { s with heap := g, toks := tk }) hk
  by_cases q : i < j
  · rw [if_pos q, if_pos q]; exact post_pure r' (DIs.int _ _)
  · rw [if_neg q, if_neg q]; exact post_pure r' (DIs.int _ _)
end
end Mine
end
section
open PySem PySem.Calls PyProof.Rows PySem.W
namespace Mine
section
variable {C : Cx} {P Z : PH} {φ : Phi} {σ σ' : List S} {s : Shared} {A : Around}
noncomputable def tyName : Nat → Option String
  | 0 => some "int"
  | 1 => some "bool"
  | 2 => some "tuple"
  | _ => none
theorem isi_is {i : Int} {v : Value} {ty : Nat} {T : String} (hT : tyName ty = some T) (r : Rel C P Z φ σ s) (h : VIs C P φ (.d (.int i)) v) :
    wpAny (model C.prog C.w) A (call (.builtin "isinstance") [v, .type T]) (Post C P Z φ (RV C (.d (.bool (Nat.beq ty 0)))) σ) NoE s := by
  obtain ⟨t, rfl⟩ := h.int_inv
  match ty, hT with
  | 0, hT =>
    cases hT
    exact call_isinstance (isinstance_true (Tx := "int") (by kernel_rfl) (by kernel_rfl)) ⟨typeIs_int s i t, post_bool r⟩
  | 1, hT =>
    cases hT
    exact call_isinstance (isinstance_false_int (by decide +kernel) (by kernel_rfl) (by kernel_rfl)) (post_bool (r.toks _))
  | 2, hT =>
    cases hT
    exact call_isinstance (isinstance_false_int (by decide +kernel) (by kernel_rfl) (by kernel_rfl)) (post_bool (r.toks _))
  | _ + 3, hT => cases hT
theorem neg_is {i : Int} {v : Value} (r : Rel C P Z φ σ s) (h : VIs C P φ (.d (.int i)) v) : wpAny (model C.prog C.w) A (unaryOp .USub v) (Post C P Z φ (RV C (.d (.int (-i)))) σ) NoE s := by
  obtain ⟨t, rfl⟩ := h.int_inv
  exact _root_.PySem.P.neg_int (post_int r)
/-! split -/
open PySem.StrLaws PySem.Builtin PySem.Builtin.Str
theorem splitC_same (c : Nat) (r : List Nat) : splitC c (c :: r) = [] :: splitC c r := by
  show (match Nat.beq c c with | true => [] :: splitC c r | false => _) = _
  rw [Nat.beq_refl]
theorem splitC_other {c x : Nat} {r w : List Nat} {ws : List (List Nat)} (h : x ≠ c) (e : splitC c r = w :: ws) : splitC c (x :: r) = (x :: w) :: ws := by
  show (match Nat.beq x c with | true => [] :: splitC c r | false => (match splitC c r with | [] => [[x]] | w :: ws => (x :: w) :: ws)) = _
  have h1 : Nat.beq x c = false := by rw [Bool.eq_false_iff]; intro q; exact h (Nat.eq_of_beq_eq_true q)
  rw [h1, e]
theorem splitC_free {c : Nat} : ∀ {l : List Nat}, c ∉ l → splitC c l = [l]
  | [], _ => rfl
  | x :: l, h => splitC_other (fun q => h (by rw [q]; exact .head _)) (splitC_free fun q => h (.tail _ q))
theorem splitC_step {c : Nat} : ∀ {l r : List Nat}, c ∉ l → splitC c (l ++ c :: r) = l :: splitC c r
  | [], r, _ => splitC_same c r
  | x :: l, r, h => splitC_other (fun q => h (by rw [q]; exact .head _)) (splitC_step fun q => h (.tail _ q))
theorem splitC_len (c : Nat) : ∀ l : List Nat, (splitC c l).length ≤ l.length + 1 ∧ splitC c l ≠ []
  | [] => ⟨Nat.le_refl _, fun h => by cases h⟩
  | x :: l => by
    obtain ⟨h1, h2⟩ := splitC_len c l
    by_cases q : x = c
    · subst q; rw [splitC_same]; exact ⟨by simpa using h1, fun h => by cases h⟩
    · cases e : splitC c l with
      | nil => exact absurd e h2
      | cons w ws => rw [splitC_other q e]; rw [e] at h1; exact ⟨by simp at h1 ⊢; omega, fun h => by cases h⟩
theorem str_of_list (x : Str) : (⟨x.cps.toList.toArray⟩ : Str) = x := by cases x; simp
theorem at_one {x : List Nat} {c i : Nat} (h : At ⟨x.toArray⟩ ⟨#[c]⟩ x.length i) : x[i]? = some c := by
  have h2 := h.2
  rw [subAt_eq] at h2
  have h3 : (x.drop i).take 1 = [c] := by simpa [Str.length] using h2
  have h4 : ((x.drop i).take 1)[0]? = some c := by rw [h3]; rfl
  rw [List.getElem?_take_of_lt (by omega), List.getElem?_drop] at h4
  simpa using h4
theorem parts_is (x : List Nat) (c : Nat) : ∀ (cuts : List Nat) (a f : Nat), a ≤ x.length → ChainG ⟨x.toArray⟩ ⟨#[c]⟩ x.length a cuts f → (∀ k, f ≤ k → ¬ At ⟨x.toArray⟩ ⟨#[c]⟩ x.length k) →
    partsFrom ⟨x.toArray⟩ 1 a cuts = (splitC c (x.drop a)).map fun w => ⟨w.toArray⟩
  | [], a, f, ha, h, hf => by
    have e : f = a := h
    subst e
    have hfree : c ∉ (strSub ⟨x.toArray⟩ f x.length).cps.toList := part_free ⟨x.toArray⟩ c f x.length (by rw [str_len]; exact Nat.le_refl _) fun k h1 _ => by rw [str_len]; exact hf k h1
    have e2 : (strSub ⟨x.toArray⟩ f x.length).cps.toList = x.drop f := by rw [strSub_toList]; exact List.take_of_length_le (by simp)
    rw [e2] at hfree
    rw [splitC_free hfree]
    show [strSub ⟨x.toArray⟩ f (⟨x.toArray⟩ : Str).length] = _
    rw [str_len, ← str_of_list (strSub _ _ _), e2]
    rfl
  | k :: cuts, a, f, ha, h, hf => by
    obtain ⟨h1, h2, h3, h4⟩ := h
    have hk := at_one h2
    have hkl : k < x.length := (List.getElem?_eq_some_iff.mp hk).1
    have hfree : c ∉ (strSub ⟨x.toArray⟩ a k).cps.toList := part_free ⟨x.toArray⟩ c a k (by rw [str_len]; omega) fun i h5 h6 => by rw [str_len]; exact h3 i h5 h6
    have e2 : (strSub ⟨x.toArray⟩ a k).cps.toList = (x.drop a).take (k - a) := strSub_toList ..
    have e3 : x.drop a = (x.drop a).take (k - a) ++ c :: x.drop (k + 1) := by
      conv => lhs; rw [← List.take_append_drop (k - a) (x.drop a)]
      congr 1
      rw [List.drop_drop, Nat.add_sub_cancel' h1]
      rw [List.drop_eq_getElem_cons hkl]
      congr 1
      rw [List.getElem?_eq_getElem hkl] at hk
      exact Option.some.inj hk
    rw [e2] at hfree
    rw [e3, splitC_step hfree, List.map_cons]
    show strSub ⟨x.toArray⟩ a k :: partsFrom ⟨x.toArray⟩ 1 (k + 1) cuts = _
    rw [parts_is x c cuts (k + 1) f (by omega) h4 hf, ← str_of_list (strSub _ _ _), e2]
theorem strKind_ge (x : Str) : 1 ≤ Str.strKind x := by unfold Str.strKind; split; exact Nat.le_refl _; split <;> omega
theorem all_strs : ∀ (ws : List Str) (t : Nat), All2 (DIs C P) (ws.map fun w => D.str w.cps.toList) (strsFrom t ws)
  | [], t => All2.nil
  | w :: ws, t => by
    show All2 _ (_ :: _) (Value.str w t :: strsFrom (t + 1) ws)
    refine All2.cons ?_ (all_strs ws (t + 1))
    have := DIs.str (C := C) (P := P) w.cps.toList t
    rw [str_of_list] at this
    exact this
theorem split_is {x : List Nat} {c : Nat} {v u : Value} (hz : (room x.length && Nat.blt c 256) = true) (r : Rel C P Z φ σ s) (h : VIs C P φ (.d (.str x)) v) (h' : VIs C P φ (.d (.str [c])) u) :
    wpAny (model C.prog C.w) A (call (.builtin "str.split") [v, u]) (Post C P Z φ (RV C (.d (.list ((splitC c x).map .str)))) σ) NoE s := by
  obtain ⟨t, rfl⟩ := h.str_inv
  obtain ⟨t', rfl⟩ := h'.str_inv
  rw [Bool.and_eq_true] at hz
  have hz1 := room_is hz.1
  have hc := Nat.le_of_ble_eq_true hz.2
  have hk1 : Str.strKind (⟨[c].toArray⟩ : Str) = 1 := by
    unfold Str.strKind
    rw [if_pos (by simp; omega)]
  have hl1 : (⟨[c].toArray⟩ : Str).length = 1 := rfl
  obtain ⟨f, h1, h2⟩ := occ_tight ⟨x.toArray⟩ ⟨[c].toArray⟩ (Nat.le_refl 1)
  have hx := str_len x
  rw [hx] at h1 h2
  have hp := parts_is x c _ 0 f (Nat.zero_le _) h1 h2
  rw [List.drop_zero] at hp
  have hsl := sizeLine_eq
  have one : splitC c x = [x] → Post C P Z φ (RV C (.d (.list ((splitC c x).map .str)))) σ (.ref s.heap.objs.size) { s with heap := s.heap.push (listOf [Value.str ⟨x.toArray⟩ t].toArray 0) } := fun e => by
    rw [e]
    exact post_data r rfl rfl fun P' hp' e' => DIs.of_list e' (All2.one (DIs.str x t))
  cases q : (decide ((⟨x.toArray⟩ : Str).length < (⟨[c].toArray⟩ : Str).length) || decide (Str.strKind ⟨x.toArray⟩ < Str.strKind ⟨[c].toArray⟩)) with
  | true =>
    refine call_meets F.slot_str_split (typeIs_str s _ t) F.entry_str_split (F.args_str_split_2 _ _) (meets_str_split_cannot_occur _ _ t t' q) (one ?_)
    rw [hk1, hl1, hx, Bool.or_eq_true, decide_eq_true_eq, decide_eq_true_eq] at q
    have := strKind_ge ⟨x.toArray⟩
    have : x = [] := List.eq_nil_of_length_eq_zero (by omega)
    subst this; rfl
  | false =>
    cases q2 : (occurrences (⟨x.toArray⟩ : Str) ⟨[c].toArray⟩ 0 (⟨x.toArray⟩ : Str).length ((⟨x.toArray⟩ : Str).length + 1)).isEmpty with
    | true =>
      refine call_meets F.slot_str_split (typeIs_str s _ t) F.entry_str_split (F.args_str_split_2 _ _) (meets_str_split_not_found _ _ t t' q rfl q2) (one ?_)
      rw [hx, List.isEmpty_iff] at q2
      rw [q2] at hp
      have hp' : [strSub ⟨x.toArray⟩ 0 (⟨x.toArray⟩ : Str).length] = (splitC c x).map fun w => (⟨w.toArray⟩ : Str) := hp
      rw [sub_whole] at hp'
      match hs : splitC c x, hp' with
      | [], hp' => simp at hp'
      | [w], hp' => simp at hp'; rw [hp']
      | _ :: _ :: _, hp' => simp at hp'
    | false =>
      rw [hx] at q2
      have hb := partsBetween_eq ⟨x.toArray⟩ (occurrences ⟨x.toArray⟩ ⟨[c].toArray⟩ 0 x.length (x.length + 1)) 1
      rw [hp] at hb
      refine call_meets F.slot_str_split (typeIs_str s _ t) F.entry_str_split (F.args_str_split_2 _ _) (meets_str_split_sep _ _ t t' q rfl (by rw [hx]; exact q2) (by rw [hx]; omega) ?_) ?_
      · rw [hx, hl1, hb, List.length_map]
        have := (splitC_len c x).1
        omega
      · rw [hx, hl1, hb]
        show Post C P Z φ (RV C (.d (.list ((splitC c x).map .str)))) σ (.ref s.heap.objs.size) _
        refine (post_data (σ := σ) (P := P) (Z := Z) (φ := φ) (C := C) (x := .list ((splitC c x).map .str)) (o := listOf (strsFrom s.toks ((splitC c x).map fun w => ⟨w.toArray⟩)).toArray 0) (r.toks (s.toks + ((splitC c x).map fun w => (⟨w.toArray⟩ : Str)).length)) rfl rfl fun P' hp' e' => DIs.of_list e' ?_)
        have := all_strs (C := C) (P := P') ((splitC c x).map fun w => (⟨w.toArray⟩ : Str)) s.toks
        rw [List.map_map] at this
        exact this
end
end Mine
end
section
open PySem PySem.Calls PyProof.Rows PySem.W
namespace Mine
noncomputable def fnNms : List Str := [Str.ofString "", Str.ofString "", Str.ofString "add_callers", Str.ofString "count_calls", Str.ofString "mul", Str.ofString "neg", Str.ofString "concat", Str.ofString "setitem", Str.ofString "", Str.ofString "", Str.ofString "", Str.ofString "", Str.ofString "",
  Str.ofString "_law_cells", Str.ofString "_law_lead", Str.ofString "_law_columns", Str.ofString "_law_worth", Str.ofString "_law_pairings", Str.ofString "law"]
noncomputable def clsNms : List Str := [Str.ofString "TupleComp", Str.ofString "Whitespace"]
noncomputable def attNms : List Str := [Str.ofString "comp_select_list", Str.ofString "raw", Str.ofString "n", Str.ofString "nt", Str.ofString "norm", Str.ofString "is_simple", Str.ofString "S", Str.ofString "T"]
noncomputable def metNms : List Str := [Str.ofString "compare", Str.ofString "longest_run_of_spaces", Str.ofString "indent_level", Str.ofString "equal", Str.ofString "not_equal_witness"]
structure NT where
  names : List (Str × NameKind)
  loc : List Str
  cel : List Str
/-- a name of this frame -/
inductive RX (nt : NT) : X → Str → Prop where
  | loc {i : Nat} {n : Str} : nt.loc[i]? = some n → nt.names.lookup n = some .local → (n == ("__debug__" : Str)) = false → RX nt (.loc i) n
  | cel {j : Nat} {n : Str} : nt.cel[j]? = some n → nt.names.lookup n = some .cell → (n == ("__debug__" : Str)) = false → RX nt (.cel j) n
  | free {j : Nat} {n : Str} : nt.cel[j]? = some n → nt.names.lookup n = some .free → (n == ("__debug__" : Str)) = false → (n == ("__classdict__" : Str)) = false → RX nt (.cel j) n
/-- a name that may be stored -/
inductive RS (nt : NT) : X → Str → Prop where
  | loc {i : Nat} {n : Str} : nt.loc[i]? = some n → nt.names.lookup n = some .local → RS nt (.loc i) n
  | cel {j : Nat} {n : Str} : nt.cel[j]? = some n → nt.names.lookup n = some .cell → RS nt (.cel j) n
/-- a name of the module or of the builtins -/
def RG (nt : NT) (n : Str) : Prop := nt.names.lookup n = some .globalImplicit ∧ (n == ("__debug__" : Str)) = false
noncomputable def kindNm (kd : NameKind) : List (Str × NameKind) → List Str
  | [] => []
  | (x, k) :: r => match k == kd with
    | true => x :: kindNm kd r
    | false => kindNm kd r
structure RScope (nt : NT) (c : CNT) (sc : Scope) : Prop where
  kind : sc.kind = .function
  locs : ∀ x ∈ sc.names, x.2 = .local → sc.names.lookup x.1 = some .local
  own : kindNm .cell sc.names = c.own
  free : kindNm .free sc.names = c.free.map (·.1)
  outer : ∀ p ∈ c.free, nt.cel[p.2]? = some p.1
  nd : c.loc.Nodup ∧ (c.own ++ c.free.map (·.1)).Nodup
noncomputable def cntNT (c : CNT) (sc : Scope) : NT := ⟨sc.names, c.loc, c.own ++ c.free.map (·.1)⟩
/-! the model's trees looked at -/
theorem ff (p : Prop) (h : false = true) : p := Bool.noConfusion h
noncomputable def asBoolOp (x : PySem.Expr) (k : PySem.BoolOp → (List PySem.Expr) → Pos → Bool) : Bool := @PySem.Expr.casesOn (fun _ => Bool) x k (fun _ _ _ => false) (fun _ _ _ _ => false) (fun _ _ _ => false) (fun _ _ _ _ => false) (fun _ _ _ _ => false) (fun _ _ _ => false) (fun _ _ _ => false) (fun _ _ _ _ => false) (fun _ _ _ _ => false) (fun _ _ _ _ _ => false) (fun _ _ _ _ => false) (fun _ _ => false) (fun _ _ => false) (fun _ _ => false) (fun _ _ _ _ => false) (fun _ _ _ _ => false) (fun _ _ _ _ => false) (fun _ _ => false) (fun _ _ _ => false) (fun _ _ _ => false) (fun _ _ _ => false) (fun _ _ => false) (fun _ _ => false) (fun _ _ => false) (fun _ _ _ => false) (fun _ _ _ _ => false)
@[elab_as_elim] theorem asBoolOpK {x : PySem.Expr} {G : PySem.Expr → Prop} {k : PySem.BoolOp → (List PySem.Expr) → Pos → Bool} (h : asBoolOp x k = true) (g : ∀ a0 a1 a2, k a0 a1 a2 = true → G (.BoolOp a0 a1 a2)) : G x :=
  @PySem.Expr.casesOn (fun x => asBoolOp x k = true → G x) x g (fun a0 a1 a2 (h : false = true) => ff (G (.NamedExpr a0 a1 a2)) h) (fun a0 a1 a2 a3 (h : false = true) => ff (G (.BinOp a0 a1 a2 a3)) h) (fun a0 a1 a2 (h : false = true) => ff (G (.UnaryOp a0 a1 a2)) h) (fun a0 a1 a2 a3 (h : false = true) => ff (G (.Lambda a0 a1 a2 a3)) h) (fun a0 a1 a2 a3 (h : false = true) => ff (G (.IfExp a0 a1 a2 a3)) h) (fun a0 a1 a2 (h : false = true) => ff (G (.Dict a0 a1 a2)) h) (fun a0 a1 a2 (h : false = true) => ff (G (.Set a0 a1 a2)) h) (fun a0 a1 a2 a3 (h : false = true) => ff (G (.ListComp a0 a1 a2 a3)) h) (fun a0 a1 a2 a3 (h : false = true) => ff (G (.SetComp a0 a1 a2 a3)) h) (fun a0 a1 a2 a3 a4 (h : false = true) => ff (G (.DictComp a0 a1 a2 a3 a4)) h) (fun a0 a1 a2 a3 (h : false = true) => ff (G (.GeneratorExp a0 a1 a2 a3)) h) (fun a0 a1 (h : false = true) => ff (G (.Await a0 a1)) h) (fun a0 a1 (h : false = true) => ff (G (.Yield a0 a1)) h) (fun a0 a1 (h : false = true) => ff (G (.YieldFrom a0 a1)) h) (fun a0 a1 a2 a3 (h : false = true) => ff (G (.Compare a0 a1 a2 a3)) h) (fun a0 a1 a2 a3 (h : false = true) => ff (G (.Call a0 a1 a2 a3)) h) (fun a0 a1 a2 a3 (h : false = true) => ff (G (.FormattedValue a0 a1 a2 a3)) h) (fun a0 a1 (h : false = true) => ff (G (.JoinedStr a0 a1)) h) (fun a0 a1 a2 (h : false = true) => ff (G (.Constant a0 a1 a2)) h) (fun a0 a1 a2 (h : false = true) => ff (G (.Attribute a0 a1 a2)) h) (fun a0 a1 a2 (h : false = true) => ff (G (.Subscript a0 a1 a2)) h) (fun a0 a1 (h : false = true) => ff (G (.Starred a0 a1)) h) (fun a0 a1 (h : false = true) => ff (G (.Name a0 a1)) h) (fun a0 a1 (h : false = true) => ff (G (.List a0 a1)) h) (fun a0 a1 a2 (h : false = true) => ff (G (.Tuple a0 a1 a2)) h) (fun a0 a1 a2 a3 (h : false = true) => ff (G (.Slice a0 a1 a2 a3)) h) h
noncomputable def asBinOp (x : PySem.Expr) (k : PySem.Expr → Operator → PySem.Expr → Pos → Bool) : Bool := @PySem.Expr.casesOn (fun _ => Bool) x (fun _ _ _ => false) (fun _ _ _ => false) k (fun _ _ _ => false) (fun _ _ _ _ => false) (fun _ _ _ _ => false) (fun _ _ _ => false) (fun _ _ _ => false) (fun _ _ _ _ => false) (fun _ _ _ _ => false) (fun _ _ _ _ _ => false) (fun _ _ _ _ => false) (fun _ _ => false) (fun _ _ => false) (fun _ _ => false) (fun _ _ _ _ => false) (fun _ _ _ _ => false) (fun _ _ _ _ => false) (fun _ _ => false) (fun _ _ _ => false) (fun _ _ _ => false) (fun _ _ _ => false) (fun _ _ => false) (fun _ _ => false) (fun _ _ => false) (fun _ _ _ => false) (fun _ _ _ _ => false)
@[elab_as_elim] theorem asBinOpK {x : PySem.Expr} {G : PySem.Expr → Prop} {k : PySem.Expr → Operator → PySem.Expr → Pos → Bool} (h : asBinOp x k = true) (g : ∀ a0 a1 a2 a3, k a0 a1 a2 a3 = true → G (.BinOp a0 a1 a2 a3)) : G x :=
  @PySem.Expr.casesOn (fun x => asBinOp x k = true → G x) x (fun a0 a1 a2 (h : false = true) => ff (G (.BoolOp a0 a1 a2)) h) (fun a0 a1 a2 (h : false = true) => ff (G (.NamedExpr a0 a1 a2)) h) g (fun a0 a1 a2 (h : false = true) => ff (G (.UnaryOp a0 a1 a2)) h) (fun a0 a1 a2 a3 (h : false = true) => ff (G (.Lambda a0 a1 a2 a3)) h) (fun a0 a1 a2 a3 (h : false = true) => ff (G (.IfExp a0 a1 a2 a3)) h) (fun a0 a1 a2 (h : false = true) => ff (G (.Dict a0 a1 a2)) h) (fun a0 a1 a2 (h : false = true) => ff (G (.Set a0 a1 a2)) h) (fun a0 a1 a2 a3 (h : false = true) => ff (G (.ListComp a0 a1 a2 a3)) h) (fun a0 a1 a2 a3 (h : false = true) => ff (G (.SetComp a0 a1 a2 a3)) h) (fun a0 a1 a2 a3 a4 (h : false = true) => ff (G (.DictComp a0 a1 a2 a3 a4)) h) (fun a0 a1 a2 a3 (h : false = true) => ff (G (.GeneratorExp a0 a1 a2 a3)) h) (fun a0 a1 (h : false = true) => ff (G (.Await a0 a1)) h) (fun a0 a1 (h : false = true) => ff (G (.Yield a0 a1)) h) (fun a0 a1 (h : false = true) => ff (G (.YieldFrom a0 a1)) h) (fun a0 a1 a2 a3 (h : false = true) => ff (G (.Compare a0 a1 a2 a3)) h) (fun a0 a1 a2 a3 (h : false = true) => ff (G (.Call a0 a1 a2 a3)) h) (fun a0 a1 a2 a3 (h : false = true) => ff (G (.FormattedValue a0 a1 a2 a3)) h) (fun a0 a1 (h : false = true) => ff (G (.JoinedStr a0 a1)) h) (fun a0 a1 a2 (h : false = true) => ff (G (.Constant a0 a1 a2)) h) (fun a0 a1 a2 (h : false = true) => ff (G (.Attribute a0 a1 a2)) h) (fun a0 a1 a2 (h : false = true) => ff (G (.Subscript a0 a1 a2)) h) (fun a0 a1 (h : false = true) => ff (G (.Starred a0 a1)) h) (fun a0 a1 (h : false = true) => ff (G (.Name a0 a1)) h) (fun a0 a1 (h : false = true) => ff (G (.List a0 a1)) h) (fun a0 a1 a2 (h : false = true) => ff (G (.Tuple a0 a1 a2)) h) (fun a0 a1 a2 a3 (h : false = true) => ff (G (.Slice a0 a1 a2 a3)) h) h
noncomputable def asUnaryOp (x : PySem.Expr) (k : PySem.UnaryOp → PySem.Expr → Pos → Bool) : Bool := @PySem.Expr.casesOn (fun _ => Bool) x (fun _ _ _ => false) (fun _ _ _ => false) (fun _ _ _ _ => false) k (fun _ _ _ _ => false) (fun _ _ _ _ => false) (fun _ _ _ => false) (fun _ _ _ => false) (fun _ _ _ _ => false) (fun _ _ _ _ => false) (fun _ _ _ _ _ => false) (fun _ _ _ _ => false) (fun _ _ => false) (fun _ _ => false) (fun _ _ => false) (fun _ _ _ _ => false) (fun _ _ _ _ => false) (fun _ _ _ _ => false) (fun _ _ => false) (fun _ _ _ => false) (fun _ _ _ => false) (fun _ _ _ => false) (fun _ _ => false) (fun _ _ => false) (fun _ _ => false) (fun _ _ _ => false) (fun _ _ _ _ => false)
@[elab_as_elim] theorem asUnaryOpK {x : PySem.Expr} {G : PySem.Expr → Prop} {k : PySem.UnaryOp → PySem.Expr → Pos → Bool} (h : asUnaryOp x k = true) (g : ∀ a0 a1 a2, k a0 a1 a2 = true → G (.UnaryOp a0 a1 a2)) : G x :=
  @PySem.Expr.casesOn (fun x => asUnaryOp x k = true → G x) x (fun a0 a1 a2 (h : false = true) => ff (G (.BoolOp a0 a1 a2)) h) (fun a0 a1 a2 (h : false = true) => ff (G (.NamedExpr a0 a1 a2)) h) (fun a0 a1 a2 a3 (h : false = true) => ff (G (.BinOp a0 a1 a2 a3)) h) g (fun a0 a1 a2 a3 (h : false = true) => ff (G (.Lambda a0 a1 a2 a3)) h) (fun a0 a1 a2 a3 (h : false = true) => ff (G (.IfExp a0 a1 a2 a3)) h) (fun a0 a1 a2 (h : false = true) => ff (G (.Dict a0 a1 a2)) h) (fun a0 a1 a2 (h : false = true) => ff (G (.Set a0 a1 a2)) h) (fun a0 a1 a2 a3 (h : false = true) => ff (G (.ListComp a0 a1 a2 a3)) h) (fun a0 a1 a2 a3 (h : false = true) => ff (G (.SetComp a0 a1 a2 a3)) h) (fun a0 a1 a2 a3 a4 (h : false = true) => ff (G (.DictComp a0 a1 a2 a3 a4)) h) (fun a0 a1 a2 a3 (h : false = true) => ff (G (.GeneratorExp a0 a1 a2 a3)) h) (fun a0 a1 (h : false = true) => ff (G (.Await a0 a1)) h) (fun a0 a1 (h : false = true) => ff (G (.Yield a0 a1)) h) (fun a0 a1 (h : false = true) => ff (G (.YieldFrom a0 a1)) h) (fun a0 a1 a2 a3 (h : false = true) => ff (G (.Compare a0 a1 a2 a3)) h) (fun a0 a1 a2 a3 (h : false = true) => ff (G (.Call a0 a1 a2 a3)) h) (fun a0 a1 a2 a3 (h : false = true) => ff (G (.FormattedValue a0 a1 a2 a3)) h) (fun a0 a1 (h : false = true) => ff (G (.JoinedStr a0 a1)) h) (fun a0 a1 a2 (h : false = true) => ff (G (.Constant a0 a1 a2)) h) (fun a0 a1 a2 (h : false = true) => ff (G (.Attribute a0 a1 a2)) h) (fun a0 a1 a2 (h : false = true) => ff (G (.Subscript a0 a1 a2)) h) (fun a0 a1 (h : false = true) => ff (G (.Starred a0 a1)) h) (fun a0 a1 (h : false = true) => ff (G (.Name a0 a1)) h) (fun a0 a1 (h : false = true) => ff (G (.List a0 a1)) h) (fun a0 a1 a2 (h : false = true) => ff (G (.Tuple a0 a1 a2)) h) (fun a0 a1 a2 a3 (h : false = true) => ff (G (.Slice a0 a1 a2 a3)) h) h
noncomputable def asIfExp (x : PySem.Expr) (k : PySem.Expr → PySem.Expr → PySem.Expr → Pos → Bool) : Bool := @PySem.Expr.casesOn (fun _ => Bool) x (fun _ _ _ => false) (fun _ _ _ => false) (fun _ _ _ _ => false) (fun _ _ _ => false) (fun _ _ _ _ => false) k (fun _ _ _ => false) (fun _ _ _ => false) (fun _ _ _ _ => false) (fun _ _ _ _ => false) (fun _ _ _ _ _ => false) (fun _ _ _ _ => false) (fun _ _ => false) (fun _ _ => false) (fun _ _ => false) (fun _ _ _ _ => false) (fun _ _ _ _ => false) (fun _ _ _ _ => false) (fun _ _ => false) (fun _ _ _ => false) (fun _ _ _ => false) (fun _ _ _ => false) (fun _ _ => false) (fun _ _ => false) (fun _ _ => false) (fun _ _ _ => false) (fun _ _ _ _ => false)
@[elab_as_elim] theorem asIfExpK {x : PySem.Expr} {G : PySem.Expr → Prop} {k : PySem.Expr → PySem.Expr → PySem.Expr → Pos → Bool} (h : asIfExp x k = true) (g : ∀ a0 a1 a2 a3, k a0 a1 a2 a3 = true → G (.IfExp a0 a1 a2 a3)) : G x :=
  @PySem.Expr.casesOn (fun x => asIfExp x k = true → G x) x (fun a0 a1 a2 (h : false = true) => ff (G (.BoolOp a0 a1 a2)) h) (fun a0 a1 a2 (h : false = true) => ff (G (.NamedExpr a0 a1 a2)) h) (fun a0 a1 a2 a3 (h : false = true) => ff (G (.BinOp a0 a1 a2 a3)) h) (fun a0 a1 a2 (h : false = true) => ff (G (.UnaryOp a0 a1 a2)) h) (fun a0 a1 a2 a3 (h : false = true) => ff (G (.Lambda a0 a1 a2 a3)) h) g (fun a0 a1 a2 (h : false = true) => ff (G (.Dict a0 a1 a2)) h) (fun a0 a1 a2 (h : false = true) => ff (G (.Set a0 a1 a2)) h) (fun a0 a1 a2 a3 (h : false = true) => ff (G (.ListComp a0 a1 a2 a3)) h) (fun a0 a1 a2 a3 (h : false = true) => ff (G (.SetComp a0 a1 a2 a3)) h) (fun a0 a1 a2 a3 a4 (h : false = true) => ff (G (.DictComp a0 a1 a2 a3 a4)) h) (fun a0 a1 a2 a3 (h : false = true) => ff (G (.GeneratorExp a0 a1 a2 a3)) h) (fun a0 a1 (h : false = true) => ff (G (.Await a0 a1)) h) (fun a0 a1 (h : false = true) => ff (G (.Yield a0 a1)) h) (fun a0 a1 (h : false = true) => ff (G (.YieldFrom a0 a1)) h) (fun a0 a1 a2 a3 (h : false = true) => ff (G (.Compare a0 a1 a2 a3)) h) (fun a0 a1 a2 a3 (h : false = true) => ff (G (.Call a0 a1 a2 a3)) h) (fun a0 a1 a2 a3 (h : false = true) => ff (G (.FormattedValue a0 a1 a2 a3)) h) (fun a0 a1 (h : false = true) => ff (G (.JoinedStr a0 a1)) h) (fun a0 a1 a2 (h : false = true) => ff (G (.Constant a0 a1 a2)) h) (fun a0 a1 a2 (h : false = true) => ff (G (.Attribute a0 a1 a2)) h) (fun a0 a1 a2 (h : false = true) => ff (G (.Subscript a0 a1 a2)) h) (fun a0 a1 (h : false = true) => ff (G (.Starred a0 a1)) h) (fun a0 a1 (h : false = true) => ff (G (.Name a0 a1)) h) (fun a0 a1 (h : false = true) => ff (G (.List a0 a1)) h) (fun a0 a1 a2 (h : false = true) => ff (G (.Tuple a0 a1 a2)) h) (fun a0 a1 a2 a3 (h : false = true) => ff (G (.Slice a0 a1 a2 a3)) h) h
noncomputable def asDict (x : PySem.Expr) (k : (List (Option PySem.Expr)) → (List PySem.Expr) → Pos → Bool) : Bool := @PySem.Expr.casesOn (fun _ => Bool) x (fun _ _ _ => false) (fun _ _ _ => false) (fun _ _ _ _ => false) (fun _ _ _ => false) (fun _ _ _ _ => false) (fun _ _ _ _ => false) k (fun _ _ _ => false) (fun _ _ _ _ => false) (fun _ _ _ _ => false) (fun _ _ _ _ _ => false) (fun _ _ _ _ => false) (fun _ _ => false) (fun _ _ => false) (fun _ _ => false) (fun _ _ _ _ => false) (fun _ _ _ _ => false) (fun _ _ _ _ => false) (fun _ _ => false) (fun _ _ _ => false) (fun _ _ _ => false) (fun _ _ _ => false) (fun _ _ => false) (fun _ _ => false) (fun _ _ => false) (fun _ _ _ => false) (fun _ _ _ _ => false)
@[elab_as_elim] theorem asDictK {x : PySem.Expr} {G : PySem.Expr → Prop} {k : (List (Option PySem.Expr)) → (List PySem.Expr) → Pos → Bool} (h : asDict x k = true) (g : ∀ a0 a1 a2, k a0 a1 a2 = true → G (.Dict a0 a1 a2)) : G x :=
  @PySem.Expr.casesOn (fun x => asDict x k = true → G x) x (fun a0 a1 a2 (h : false = true) => ff (G (.BoolOp a0 a1 a2)) h) (fun a0 a1 a2 (h : false = true) => ff (G (.NamedExpr a0 a1 a2)) h) (fun a0 a1 a2 a3 (h : false = true) => ff (G (.BinOp a0 a1 a2 a3)) h) (fun a0 a1 a2 (h : false = true) => ff (G (.UnaryOp a0 a1 a2)) h) (fun a0 a1 a2 a3 (h : false = true) => ff (G (.Lambda a0 a1 a2 a3)) h) (fun a0 a1 a2 a3 (h : false = true) => ff (G (.IfExp a0 a1 a2 a3)) h) g (fun a0 a1 a2 (h : false = true) => ff (G (.Set a0 a1 a2)) h) (fun a0 a1 a2 a3 (h : false = true) => ff (G (.ListComp a0 a1 a2 a3)) h) (fun a0 a1 a2 a3 (h : false = true) => ff (G (.SetComp a0 a1 a2 a3)) h) (fun a0 a1 a2 a3 a4 (h : false = true) => ff (G (.DictComp a0 a1 a2 a3 a4)) h) (fun a0 a1 a2 a3 (h : false = true) => ff (G (.GeneratorExp a0 a1 a2 a3)) h) (fun a0 a1 (h : false = true) => ff (G (.Await a0 a1)) h) (fun a0 a1 (h : false = true) => ff (G (.Yield a0 a1)) h) (fun a0 a1 (h : false = true) => ff (G (.YieldFrom a0 a1)) h) (fun a0 a1 a2 a3 (h : false = true) => ff (G (.Compare a0 a1 a2 a3)) h) (fun a0 a1 a2 a3 (h : false = true) => ff (G (.Call a0 a1 a2 a3)) h) (fun a0 a1 a2 a3 (h : false = true) => ff (G (.FormattedValue a0 a1 a2 a3)) h) (fun a0 a1 (h : false = true) => ff (G (.JoinedStr a0 a1)) h) (fun a0 a1 a2 (h : false = true) => ff (G (.Constant a0 a1 a2)) h) (fun a0 a1 a2 (h : false = true) => ff (G (.Attribute a0 a1 a2)) h) (fun a0 a1 a2 (h : false = true) => ff (G (.Subscript a0 a1 a2)) h) (fun a0 a1 (h : false = true) => ff (G (.Starred a0 a1)) h) (fun a0 a1 (h : false = true) => ff (G (.Name a0 a1)) h) (fun a0 a1 (h : false = true) => ff (G (.List a0 a1)) h) (fun a0 a1 a2 (h : false = true) => ff (G (.Tuple a0 a1 a2)) h) (fun a0 a1 a2 a3 (h : false = true) => ff (G (.Slice a0 a1 a2 a3)) h) h
noncomputable def asListComp (x : PySem.Expr) (k : PySem.Expr → (List Comprehension) → Scope → Pos → Bool) : Bool := @PySem.Expr.casesOn (fun _ => Bool) x (fun _ _ _ => false) (fun _ _ _ => false) (fun _ _ _ _ => false) (fun _ _ _ => false) (fun _ _ _ _ => false) (fun _ _ _ _ => false) (fun _ _ _ => false) (fun _ _ _ => false) k (fun _ _ _ _ => false) (fun _ _ _ _ _ => false) (fun _ _ _ _ => false) (fun _ _ => false) (fun _ _ => false) (fun _ _ => false) (fun _ _ _ _ => false) (fun _ _ _ _ => false) (fun _ _ _ _ => false) (fun _ _ => false) (fun _ _ _ => false) (fun _ _ _ => false) (fun _ _ _ => false) (fun _ _ => false) (fun _ _ => false) (fun _ _ => false) (fun _ _ _ => false) (fun _ _ _ _ => false)
@[elab_as_elim] theorem asListCompK {x : PySem.Expr} {G : PySem.Expr → Prop} {k : PySem.Expr → (List Comprehension) → Scope → Pos → Bool} (h : asListComp x k = true) (g : ∀ a0 a1 a2 a3, k a0 a1 a2 a3 = true → G (.ListComp a0 a1 a2 a3)) : G x :=
  @PySem.Expr.casesOn (fun x => asListComp x k = true → G x) x (fun a0 a1 a2 (h : false = true) => ff (G (.BoolOp a0 a1 a2)) h) (fun a0 a1 a2 (h : false = true) => ff (G (.NamedExpr a0 a1 a2)) h) (fun a0 a1 a2 a3 (h : false = true) => ff (G (.BinOp a0 a1 a2 a3)) h) (fun a0 a1 a2 (h : false = true) => ff (G (.UnaryOp a0 a1 a2)) h) (fun a0 a1 a2 a3 (h : false = true) => ff (G (.Lambda a0 a1 a2 a3)) h) (fun a0 a1 a2 a3 (h : false = true) => ff (G (.IfExp a0 a1 a2 a3)) h) (fun a0 a1 a2 (h : false = true) => ff (G (.Dict a0 a1 a2)) h) (fun a0 a1 a2 (h : false = true) => ff (G (.Set a0 a1 a2)) h) g (fun a0 a1 a2 a3 (h : false = true) => ff (G (.SetComp a0 a1 a2 a3)) h) (fun a0 a1 a2 a3 a4 (h : false = true) => ff (G (.DictComp a0 a1 a2 a3 a4)) h) (fun a0 a1 a2 a3 (h : false = true) => ff (G (.GeneratorExp a0 a1 a2 a3)) h) (fun a0 a1 (h : false = true) => ff (G (.Await a0 a1)) h) (fun a0 a1 (h : false = true) => ff (G (.Yield a0 a1)) h) (fun a0 a1 (h : false = true) => ff (G (.YieldFrom a0 a1)) h) (fun a0 a1 a2 a3 (h : false = true) => ff (G (.Compare a0 a1 a2 a3)) h) (fun a0 a1 a2 a3 (h : false = true) => ff (G (.Call a0 a1 a2 a3)) h) (fun a0 a1 a2 a3 (h : false = true) => ff (G (.FormattedValue a0 a1 a2 a3)) h) (fun a0 a1 (h : false = true) => ff (G (.JoinedStr a0 a1)) h) (fun a0 a1 a2 (h : false = true) => ff (G (.Constant a0 a1 a2)) h) (fun a0 a1 a2 (h : false = true) => ff (G (.Attribute a0 a1 a2)) h) (fun a0 a1 a2 (h : false = true) => ff (G (.Subscript a0 a1 a2)) h) (fun a0 a1 (h : false = true) => ff (G (.Starred a0 a1)) h) (fun a0 a1 (h : false = true) => ff (G (.Name a0 a1)) h) (fun a0 a1 (h : false = true) => ff (G (.List a0 a1)) h) (fun a0 a1 a2 (h : false = true) => ff (G (.Tuple a0 a1 a2)) h) (fun a0 a1 a2 a3 (h : false = true) => ff (G (.Slice a0 a1 a2 a3)) h) h
noncomputable def asCompare (x : PySem.Expr) (k : PySem.Expr → (List CmpOp) → (List PySem.Expr) → Pos → Bool) : Bool := @PySem.Expr.casesOn (fun _ => Bool) x (fun _ _ _ => false) (fun _ _ _ => false) (fun _ _ _ _ => false) (fun _ _ _ => false) (fun _ _ _ _ => false) (fun _ _ _ _ => false) (fun _ _ _ => false) (fun _ _ _ => false) (fun _ _ _ _ => false) (fun _ _ _ _ => false) (fun _ _ _ _ _ => false) (fun _ _ _ _ => false) (fun _ _ => false) (fun _ _ => false) (fun _ _ => false) k (fun _ _ _ _ => false) (fun _ _ _ _ => false) (fun _ _ => false) (fun _ _ _ => false) (fun _ _ _ => false) (fun _ _ _ => false) (fun _ _ => false) (fun _ _ => false) (fun _ _ => false) (fun _ _ _ => false) (fun _ _ _ _ => false)
@[elab_as_elim] theorem asCompareK {x : PySem.Expr} {G : PySem.Expr → Prop} {k : PySem.Expr → (List CmpOp) → (List PySem.Expr) → Pos → Bool} (h : asCompare x k = true) (g : ∀ a0 a1 a2 a3, k a0 a1 a2 a3 = true → G (.Compare a0 a1 a2 a3)) : G x :=
  @PySem.Expr.casesOn (fun x => asCompare x k = true → G x) x (fun a0 a1 a2 (h : false = true) => ff (G (.BoolOp a0 a1 a2)) h) (fun a0 a1 a2 (h : false = true) => ff (G (.NamedExpr a0 a1 a2)) h) (fun a0 a1 a2 a3 (h : false = true) => ff (G (.BinOp a0 a1 a2 a3)) h) (fun a0 a1 a2 (h : false = true) => ff (G (.UnaryOp a0 a1 a2)) h) (fun a0 a1 a2 a3 (h : false = true) => ff (G (.Lambda a0 a1 a2 a3)) h) (fun a0 a1 a2 a3 (h : false = true) => ff (G (.IfExp a0 a1 a2 a3)) h) (fun a0 a1 a2 (h : false = true) => ff (G (.Dict a0 a1 a2)) h) (fun a0 a1 a2 (h : false = true) => ff (G (.Set a0 a1 a2)) h) (fun a0 a1 a2 a3 (h : false = true) => ff (G (.ListComp a0 a1 a2 a3)) h) (fun a0 a1 a2 a3 (h : false = true) => ff (G (.SetComp a0 a1 a2 a3)) h) (fun a0 a1 a2 a3 a4 (h : false = true) => ff (G (.DictComp a0 a1 a2 a3 a4)) h) (fun a0 a1 a2 a3 (h : false = true) => ff (G (.GeneratorExp a0 a1 a2 a3)) h) (fun a0 a1 (h : false = true) => ff (G (.Await a0 a1)) h) (fun a0 a1 (h : false = true) => ff (G (.Yield a0 a1)) h) (fun a0 a1 (h : false = true) => ff (G (.YieldFrom a0 a1)) h) g (fun a0 a1 a2 a3 (h : false = true) => ff (G (.Call a0 a1 a2 a3)) h) (fun a0 a1 a2 a3 (h : false = true) => ff (G (.FormattedValue a0 a1 a2 a3)) h) (fun a0 a1 (h : false = true) => ff (G (.JoinedStr a0 a1)) h) (fun a0 a1 a2 (h : false = true) => ff (G (.Constant a0 a1 a2)) h) (fun a0 a1 a2 (h : false = true) => ff (G (.Attribute a0 a1 a2)) h) (fun a0 a1 a2 (h : false = true) => ff (G (.Subscript a0 a1 a2)) h) (fun a0 a1 (h : false = true) => ff (G (.Starred a0 a1)) h) (fun a0 a1 (h : false = true) => ff (G (.Name a0 a1)) h) (fun a0 a1 (h : false = true) => ff (G (.List a0 a1)) h) (fun a0 a1 a2 (h : false = true) => ff (G (.Tuple a0 a1 a2)) h) (fun a0 a1 a2 a3 (h : false = true) => ff (G (.Slice a0 a1 a2 a3)) h) h
noncomputable def asCall (x : PySem.Expr) (k : PySem.Expr → (List PySem.Expr) → (List Keyword) → Pos → Bool) : Bool := @PySem.Expr.casesOn (fun _ => Bool) x (fun _ _ _ => false) (fun _ _ _ => false) (fun _ _ _ _ => false) (fun _ _ _ => false) (fun _ _ _ _ => false) (fun _ _ _ _ => false) (fun _ _ _ => false) (fun _ _ _ => false) (fun _ _ _ _ => false) (fun _ _ _ _ => false) (fun _ _ _ _ _ => false) (fun _ _ _ _ => false) (fun _ _ => false) (fun _ _ => false) (fun _ _ => false) (fun _ _ _ _ => false) k (fun _ _ _ _ => false) (fun _ _ => false) (fun _ _ _ => false) (fun _ _ _ => false) (fun _ _ _ => false) (fun _ _ => false) (fun _ _ => false) (fun _ _ => false) (fun _ _ _ => false) (fun _ _ _ _ => false)
@[elab_as_elim] theorem asCallK {x : PySem.Expr} {G : PySem.Expr → Prop} {k : PySem.Expr → (List PySem.Expr) → (List Keyword) → Pos → Bool} (h : asCall x k = true) (g : ∀ a0 a1 a2 a3, k a0 a1 a2 a3 = true → G (.Call a0 a1 a2 a3)) : G x :=
  @PySem.Expr.casesOn (fun x => asCall x k = true → G x) x (fun a0 a1 a2 (h : false = true) => ff (G (.BoolOp a0 a1 a2)) h) (fun a0 a1 a2 (h : false = true) => ff (G (.NamedExpr a0 a1 a2)) h) (fun a0 a1 a2 a3 (h : false = true) => ff (G (.BinOp a0 a1 a2 a3)) h) (fun a0 a1 a2 (h : false = true) => ff (G (.UnaryOp a0 a1 a2)) h) (fun a0 a1 a2 a3 (h : false = true) => ff (G (.Lambda a0 a1 a2 a3)) h) (fun a0 a1 a2 a3 (h : false = true) => ff (G (.IfExp a0 a1 a2 a3)) h) (fun a0 a1 a2 (h : false = true) => ff (G (.Dict a0 a1 a2)) h) (fun a0 a1 a2 (h : false = true) => ff (G (.Set a0 a1 a2)) h) (fun a0 a1 a2 a3 (h : false = true) => ff (G (.ListComp a0 a1 a2 a3)) h) (fun a0 a1 a2 a3 (h : false = true) => ff (G (.SetComp a0 a1 a2 a3)) h) (fun a0 a1 a2 a3 a4 (h : false = true) => ff (G (.DictComp a0 a1 a2 a3 a4)) h) (fun a0 a1 a2 a3 (h : false = true) => ff (G (.GeneratorExp a0 a1 a2 a3)) h) (fun a0 a1 (h : false = true) => ff (G (.Await a0 a1)) h) (fun a0 a1 (h : false = true) => ff (G (.Yield a0 a1)) h) (fun a0 a1 (h : false = true) => ff (G (.YieldFrom a0 a1)) h) (fun a0 a1 a2 a3 (h : false = true) => ff (G (.Compare a0 a1 a2 a3)) h) g (fun a0 a1 a2 a3 (h : false = true) => ff (G (.FormattedValue a0 a1 a2 a3)) h) (fun a0 a1 (h : false = true) => ff (G (.JoinedStr a0 a1)) h) (fun a0 a1 a2 (h : false = true) => ff (G (.Constant a0 a1 a2)) h) (fun a0 a1 a2 (h : false = true) => ff (G (.Attribute a0 a1 a2)) h) (fun a0 a1 a2 (h : false = true) => ff (G (.Subscript a0 a1 a2)) h) (fun a0 a1 (h : false = true) => ff (G (.Starred a0 a1)) h) (fun a0 a1 (h : false = true) => ff (G (.Name a0 a1)) h) (fun a0 a1 (h : false = true) => ff (G (.List a0 a1)) h) (fun a0 a1 a2 (h : false = true) => ff (G (.Tuple a0 a1 a2)) h) (fun a0 a1 a2 a3 (h : false = true) => ff (G (.Slice a0 a1 a2 a3)) h) h
noncomputable def asConstant (x : PySem.Expr) (k : Const → Nat → Pos → Bool) : Bool := @PySem.Expr.casesOn (fun _ => Bool) x (fun _ _ _ => false) (fun _ _ _ => false) (fun _ _ _ _ => false) (fun _ _ _ => false) (fun _ _ _ _ => false) (fun _ _ _ _ => false) (fun _ _ _ => false) (fun _ _ _ => false) (fun _ _ _ _ => false) (fun _ _ _ _ => false) (fun _ _ _ _ _ => false) (fun _ _ _ _ => false) (fun _ _ => false) (fun _ _ => false) (fun _ _ => false) (fun _ _ _ _ => false) (fun _ _ _ _ => false) (fun _ _ _ _ => false) (fun _ _ => false) k (fun _ _ _ => false) (fun _ _ _ => false) (fun _ _ => false) (fun _ _ => false) (fun _ _ => false) (fun _ _ _ => false) (fun _ _ _ _ => false)
@[elab_as_elim] theorem asConstantK {x : PySem.Expr} {G : PySem.Expr → Prop} {k : Const → Nat → Pos → Bool} (h : asConstant x k = true) (g : ∀ a0 a1 a2, k a0 a1 a2 = true → G (.Constant a0 a1 a2)) : G x :=
  @PySem.Expr.casesOn (fun x => asConstant x k = true → G x) x (fun a0 a1 a2 (h : false = true) => ff (G (.BoolOp a0 a1 a2)) h) (fun a0 a1 a2 (h : false = true) => ff (G (.NamedExpr a0 a1 a2)) h) (fun a0 a1 a2 a3 (h : false = true) => ff (G (.BinOp a0 a1 a2 a3)) h) (fun a0 a1 a2 (h : false = true) => ff (G (.UnaryOp a0 a1 a2)) h) (fun a0 a1 a2 a3 (h : false = true) => ff (G (.Lambda a0 a1 a2 a3)) h) (fun a0 a1 a2 a3 (h : false = true) => ff (G (.IfExp a0 a1 a2 a3)) h) (fun a0 a1 a2 (h : false = true) => ff (G (.Dict a0 a1 a2)) h) (fun a0 a1 a2 (h : false = true) => ff (G (.Set a0 a1 a2)) h) (fun a0 a1 a2 a3 (h : false = true) => ff (G (.ListComp a0 a1 a2 a3)) h) (fun a0 a1 a2 a3 (h : false = true) => ff (G (.SetComp a0 a1 a2 a3)) h) (fun a0 a1 a2 a3 a4 (h : false = true) => ff (G (.DictComp a0 a1 a2 a3 a4)) h) (fun a0 a1 a2 a3 (h : false = true) => ff (G (.GeneratorExp a0 a1 a2 a3)) h) (fun a0 a1 (h : false = true) => ff (G (.Await a0 a1)) h) (fun a0 a1 (h : false = true) => ff (G (.Yield a0 a1)) h) (fun a0 a1 (h : false = true) => ff (G (.YieldFrom a0 a1)) h) (fun a0 a1 a2 a3 (h : false = true) => ff (G (.Compare a0 a1 a2 a3)) h) (fun a0 a1 a2 a3 (h : false = true) => ff (G (.Call a0 a1 a2 a3)) h) (fun a0 a1 a2 a3 (h : false = true) => ff (G (.FormattedValue a0 a1 a2 a3)) h) (fun a0 a1 (h : false = true) => ff (G (.JoinedStr a0 a1)) h) g (fun a0 a1 a2 (h : false = true) => ff (G (.Attribute a0 a1 a2)) h) (fun a0 a1 a2 (h : false = true) => ff (G (.Subscript a0 a1 a2)) h) (fun a0 a1 (h : false = true) => ff (G (.Starred a0 a1)) h) (fun a0 a1 (h : false = true) => ff (G (.Name a0 a1)) h) (fun a0 a1 (h : false = true) => ff (G (.List a0 a1)) h) (fun a0 a1 a2 (h : false = true) => ff (G (.Tuple a0 a1 a2)) h) (fun a0 a1 a2 a3 (h : false = true) => ff (G (.Slice a0 a1 a2 a3)) h) h
noncomputable def asAttribute (x : PySem.Expr) (k : PySem.Expr → Str → Pos → Bool) : Bool := @PySem.Expr.casesOn (fun _ => Bool) x (fun _ _ _ => false) (fun _ _ _ => false) (fun _ _ _ _ => false) (fun _ _ _ => false) (fun _ _ _ _ => false) (fun _ _ _ _ => false) (fun _ _ _ => false) (fun _ _ _ => false) (fun _ _ _ _ => false) (fun _ _ _ _ => false) (fun _ _ _ _ _ => false) (fun _ _ _ _ => false) (fun _ _ => false) (fun _ _ => false) (fun _ _ => false) (fun _ _ _ _ => false) (fun _ _ _ _ => false) (fun _ _ _ _ => false) (fun _ _ => false) (fun _ _ _ => false) k (fun _ _ _ => false) (fun _ _ => false) (fun _ _ => false) (fun _ _ => false) (fun _ _ _ => false) (fun _ _ _ _ => false)
@[elab_as_elim] theorem asAttributeK {x : PySem.Expr} {G : PySem.Expr → Prop} {k : PySem.Expr → Str → Pos → Bool} (h : asAttribute x k = true) (g : ∀ a0 a1 a2, k a0 a1 a2 = true → G (.Attribute a0 a1 a2)) : G x :=
  @PySem.Expr.casesOn (fun x => asAttribute x k = true → G x) x (fun a0 a1 a2 (h : false = true) => ff (G (.BoolOp a0 a1 a2)) h) (fun a0 a1 a2 (h : false = true) => ff (G (.NamedExpr a0 a1 a2)) h) (fun a0 a1 a2 a3 (h : false = true) => ff (G (.BinOp a0 a1 a2 a3)) h) (fun a0 a1 a2 (h : false = true) => ff (G (.UnaryOp a0 a1 a2)) h) (fun a0 a1 a2 a3 (h : false = true) => ff (G (.Lambda a0 a1 a2 a3)) h) (fun a0 a1 a2 a3 (h : false = true) => ff (G (.IfExp a0 a1 a2 a3)) h) (fun a0 a1 a2 (h : false = true) => ff (G (.Dict a0 a1 a2)) h) (fun a0 a1 a2 (h : false = true) => ff (G (.Set a0 a1 a2)) h) (fun a0 a1 a2 a3 (h : false = true) => ff (G (.ListComp a0 a1 a2 a3)) h) (fun a0 a1 a2 a3 (h : false = true) => ff (G (.SetComp a0 a1 a2 a3)) h) (fun a0 a1 a2 a3 a4 (h : false = true) => ff (G (.DictComp a0 a1 a2 a3 a4)) h) (fun a0 a1 a2 a3 (h : false = true) => ff (G (.GeneratorExp a0 a1 a2 a3)) h) (fun a0 a1 (h : false = true) => ff (G (.Await a0 a1)) h) (fun a0 a1 (h : false = true) => ff (G (.Yield a0 a1)) h) (fun a0 a1 (h : false = true) => ff (G (.YieldFrom a0 a1)) h) (fun a0 a1 a2 a3 (h : false = true) => ff (G (.Compare a0 a1 a2 a3)) h) (fun a0 a1 a2 a3 (h : false = true) => ff (G (.Call a0 a1 a2 a3)) h) (fun a0 a1 a2 a3 (h : false = true) => ff (G (.FormattedValue a0 a1 a2 a3)) h) (fun a0 a1 (h : false = true) => ff (G (.JoinedStr a0 a1)) h) (fun a0 a1 a2 (h : false = true) => ff (G (.Constant a0 a1 a2)) h) g (fun a0 a1 a2 (h : false = true) => ff (G (.Subscript a0 a1 a2)) h) (fun a0 a1 (h : false = true) => ff (G (.Starred a0 a1)) h) (fun a0 a1 (h : false = true) => ff (G (.Name a0 a1)) h) (fun a0 a1 (h : false = true) => ff (G (.List a0 a1)) h) (fun a0 a1 a2 (h : false = true) => ff (G (.Tuple a0 a1 a2)) h) (fun a0 a1 a2 a3 (h : false = true) => ff (G (.Slice a0 a1 a2 a3)) h) h
noncomputable def asSubscript (x : PySem.Expr) (k : PySem.Expr → PySem.Expr → Pos → Bool) : Bool := @PySem.Expr.casesOn (fun _ => Bool) x (fun _ _ _ => false) (fun _ _ _ => false) (fun _ _ _ _ => false) (fun _ _ _ => false) (fun _ _ _ _ => false) (fun _ _ _ _ => false) (fun _ _ _ => false) (fun _ _ _ => false) (fun _ _ _ _ => false) (fun _ _ _ _ => false) (fun _ _ _ _ _ => false) (fun _ _ _ _ => false) (fun _ _ => false) (fun _ _ => false) (fun _ _ => false) (fun _ _ _ _ => false) (fun _ _ _ _ => false) (fun _ _ _ _ => false) (fun _ _ => false) (fun _ _ _ => false) (fun _ _ _ => false) k (fun _ _ => false) (fun _ _ => false) (fun _ _ => false) (fun _ _ _ => false) (fun _ _ _ _ => false)
@[elab_as_elim] theorem asSubscriptK {x : PySem.Expr} {G : PySem.Expr → Prop} {k : PySem.Expr → PySem.Expr → Pos → Bool} (h : asSubscript x k = true) (g : ∀ a0 a1 a2, k a0 a1 a2 = true → G (.Subscript a0 a1 a2)) : G x :=
  @PySem.Expr.casesOn (fun x => asSubscript x k = true → G x) x (fun a0 a1 a2 (h : false = true) => ff (G (.BoolOp a0 a1 a2)) h) (fun a0 a1 a2 (h : false = true) => ff (G (.NamedExpr a0 a1 a2)) h) (fun a0 a1 a2 a3 (h : false = true) => ff (G (.BinOp a0 a1 a2 a3)) h) (fun a0 a1 a2 (h : false = true) => ff (G (.UnaryOp a0 a1 a2)) h) (fun a0 a1 a2 a3 (h : false = true) => ff (G (.Lambda a0 a1 a2 a3)) h) (fun a0 a1 a2 a3 (h : false = true) => ff (G (.IfExp a0 a1 a2 a3)) h) (fun a0 a1 a2 (h : false = true) => ff (G (.Dict a0 a1 a2)) h) (fun a0 a1 a2 (h : false = true) => ff (G (.Set a0 a1 a2)) h) (fun a0 a1 a2 a3 (h : false = true) => ff (G (.ListComp a0 a1 a2 a3)) h) (fun a0 a1 a2 a3 (h : false = true) => ff (G (.SetComp a0 a1 a2 a3)) h) (fun a0 a1 a2 a3 a4 (h : false = true) => ff (G (.DictComp a0 a1 a2 a3 a4)) h) (fun a0 a1 a2 a3 (h : false = true) => ff (G (.GeneratorExp a0 a1 a2 a3)) h) (fun a0 a1 (h : false = true) => ff (G (.Await a0 a1)) h) (fun a0 a1 (h : false = true) => ff (G (.Yield a0 a1)) h) (fun a0 a1 (h : false = true) => ff (G (.YieldFrom a0 a1)) h) (fun a0 a1 a2 a3 (h : false = true) => ff (G (.Compare a0 a1 a2 a3)) h) (fun a0 a1 a2 a3 (h : false = true) => ff (G (.Call a0 a1 a2 a3)) h) (fun a0 a1 a2 a3 (h : false = true) => ff (G (.FormattedValue a0 a1 a2 a3)) h) (fun a0 a1 (h : false = true) => ff (G (.JoinedStr a0 a1)) h) (fun a0 a1 a2 (h : false = true) => ff (G (.Constant a0 a1 a2)) h) (fun a0 a1 a2 (h : false = true) => ff (G (.Attribute a0 a1 a2)) h) g (fun a0 a1 (h : false = true) => ff (G (.Starred a0 a1)) h) (fun a0 a1 (h : false = true) => ff (G (.Name a0 a1)) h) (fun a0 a1 (h : false = true) => ff (G (.List a0 a1)) h) (fun a0 a1 a2 (h : false = true) => ff (G (.Tuple a0 a1 a2)) h) (fun a0 a1 a2 a3 (h : false = true) => ff (G (.Slice a0 a1 a2 a3)) h) h
noncomputable def asName (x : PySem.Expr) (k : Str → Pos → Bool) : Bool := @PySem.Expr.casesOn (fun _ => Bool) x (fun _ _ _ => false) (fun _ _ _ => false) (fun _ _ _ _ => false) (fun _ _ _ => false) (fun _ _ _ _ => false) (fun _ _ _ _ => false) (fun _ _ _ => false) (fun _ _ _ => false) (fun _ _ _ _ => false) (fun _ _ _ _ => false) (fun _ _ _ _ _ => false) (fun _ _ _ _ => false) (fun _ _ => false) (fun _ _ => false) (fun _ _ => false) (fun _ _ _ _ => false) (fun _ _ _ _ => false) (fun _ _ _ _ => false) (fun _ _ => false) (fun _ _ _ => false) (fun _ _ _ => false) (fun _ _ _ => false) (fun _ _ => false) k (fun _ _ => false) (fun _ _ _ => false) (fun _ _ _ _ => false)
@[elab_as_elim] theorem asNameK {x : PySem.Expr} {G : PySem.Expr → Prop} {k : Str → Pos → Bool} (h : asName x k = true) (g : ∀ a0 a1, k a0 a1 = true → G (.Name a0 a1)) : G x :=
  @PySem.Expr.casesOn (fun x => asName x k = true → G x) x (fun a0 a1 a2 (h : false = true) => ff (G (.BoolOp a0 a1 a2)) h) (fun a0 a1 a2 (h : false = true) => ff (G (.NamedExpr a0 a1 a2)) h) (fun a0 a1 a2 a3 (h : false = true) => ff (G (.BinOp a0 a1 a2 a3)) h) (fun a0 a1 a2 (h : false = true) => ff (G (.UnaryOp a0 a1 a2)) h) (fun a0 a1 a2 a3 (h : false = true) => ff (G (.Lambda a0 a1 a2 a3)) h) (fun a0 a1 a2 a3 (h : false = true) => ff (G (.IfExp a0 a1 a2 a3)) h) (fun a0 a1 a2 (h : false = true) => ff (G (.Dict a0 a1 a2)) h) (fun a0 a1 a2 (h : false = true) => ff (G (.Set a0 a1 a2)) h) (fun a0 a1 a2 a3 (h : false = true) => ff (G (.ListComp a0 a1 a2 a3)) h) (fun a0 a1 a2 a3 (h : false = true) => ff (G (.SetComp a0 a1 a2 a3)) h) (fun a0 a1 a2 a3 a4 (h : false = true) => ff (G (.DictComp a0 a1 a2 a3 a4)) h) (fun a0 a1 a2 a3 (h : false = true) => ff (G (.GeneratorExp a0 a1 a2 a3)) h) (fun a0 a1 (h : false = true) => ff (G (.Await a0 a1)) h) (fun a0 a1 (h : false = true) => ff (G (.Yield a0 a1)) h) (fun a0 a1 (h : false = true) => ff (G (.YieldFrom a0 a1)) h) (fun a0 a1 a2 a3 (h : false = true) => ff (G (.Compare a0 a1 a2 a3)) h) (fun a0 a1 a2 a3 (h : false = true) => ff (G (.Call a0 a1 a2 a3)) h) (fun a0 a1 a2 a3 (h : false = true) => ff (G (.FormattedValue a0 a1 a2 a3)) h) (fun a0 a1 (h : false = true) => ff (G (.JoinedStr a0 a1)) h) (fun a0 a1 a2 (h : false = true) => ff (G (.Constant a0 a1 a2)) h) (fun a0 a1 a2 (h : false = true) => ff (G (.Attribute a0 a1 a2)) h) (fun a0 a1 a2 (h : false = true) => ff (G (.Subscript a0 a1 a2)) h) (fun a0 a1 (h : false = true) => ff (G (.Starred a0 a1)) h) g (fun a0 a1 (h : false = true) => ff (G (.List a0 a1)) h) (fun a0 a1 a2 (h : false = true) => ff (G (.Tuple a0 a1 a2)) h) (fun a0 a1 a2 a3 (h : false = true) => ff (G (.Slice a0 a1 a2 a3)) h) h
noncomputable def asList (x : PySem.Expr) (k : (List PySem.Expr) → Pos → Bool) : Bool := @PySem.Expr.casesOn (fun _ => Bool) x (fun _ _ _ => false) (fun _ _ _ => false) (fun _ _ _ _ => false) (fun _ _ _ => false) (fun _ _ _ _ => false) (fun _ _ _ _ => false) (fun _ _ _ => false) (fun _ _ _ => false) (fun _ _ _ _ => false) (fun _ _ _ _ => false) (fun _ _ _ _ _ => false) (fun _ _ _ _ => false) (fun _ _ => false) (fun _ _ => false) (fun _ _ => false) (fun _ _ _ _ => false) (fun _ _ _ _ => false) (fun _ _ _ _ => false) (fun _ _ => false) (fun _ _ _ => false) (fun _ _ _ => false) (fun _ _ _ => false) (fun _ _ => false) (fun _ _ => false) k (fun _ _ _ => false) (fun _ _ _ _ => false)
@[elab_as_elim] theorem asListK {x : PySem.Expr} {G : PySem.Expr → Prop} {k : (List PySem.Expr) → Pos → Bool} (h : asList x k = true) (g : ∀ a0 a1, k a0 a1 = true → G (.List a0 a1)) : G x :=
  @PySem.Expr.casesOn (fun x => asList x k = true → G x) x (fun a0 a1 a2 (h : false = true) => ff (G (.BoolOp a0 a1 a2)) h) (fun a0 a1 a2 (h : false = true) => ff (G (.NamedExpr a0 a1 a2)) h) (fun a0 a1 a2 a3 (h : false = true) => ff (G (.BinOp a0 a1 a2 a3)) h) (fun a0 a1 a2 (h : false = true) => ff (G (.UnaryOp a0 a1 a2)) h) (fun a0 a1 a2 a3 (h : false = true) => ff (G (.Lambda a0 a1 a2 a3)) h) (fun a0 a1 a2 a3 (h : false = true) => ff (G (.IfExp a0 a1 a2 a3)) h) (fun a0 a1 a2 (h : false = true) => ff (G (.Dict a0 a1 a2)) h) (fun a0 a1 a2 (h : false = true) => ff (G (.Set a0 a1 a2)) h) (fun a0 a1 a2 a3 (h : false = true) => ff (G (.ListComp a0 a1 a2 a3)) h) (fun a0 a1 a2 a3 (h : false = true) => ff (G (.SetComp a0 a1 a2 a3)) h) (fun a0 a1 a2 a3 a4 (h : false = true) => ff (G (.DictComp a0 a1 a2 a3 a4)) h) (fun a0 a1 a2 a3 (h : false = true) => ff (G (.GeneratorExp a0 a1 a2 a3)) h) (fun a0 a1 (h : false = true) => ff (G (.Await a0 a1)) h) (fun a0 a1 (h : false = true) => ff (G (.Yield a0 a1)) h) (fun a0 a1 (h : false = true) => ff (G (.YieldFrom a0 a1)) h) (fun a0 a1 a2 a3 (h : false = true) => ff (G (.Compare a0 a1 a2 a3)) h) (fun a0 a1 a2 a3 (h : false = true) => ff (G (.Call a0 a1 a2 a3)) h) (fun a0 a1 a2 a3 (h : false = true) => ff (G (.FormattedValue a0 a1 a2 a3)) h) (fun a0 a1 (h : false = true) => ff (G (.JoinedStr a0 a1)) h) (fun a0 a1 a2 (h : false = true) => ff (G (.Constant a0 a1 a2)) h) (fun a0 a1 a2 (h : false = true) => ff (G (.Attribute a0 a1 a2)) h) (fun a0 a1 a2 (h : false = true) => ff (G (.Subscript a0 a1 a2)) h) (fun a0 a1 (h : false = true) => ff (G (.Starred a0 a1)) h) (fun a0 a1 (h : false = true) => ff (G (.Name a0 a1)) h) g (fun a0 a1 a2 (h : false = true) => ff (G (.Tuple a0 a1 a2)) h) (fun a0 a1 a2 a3 (h : false = true) => ff (G (.Slice a0 a1 a2 a3)) h) h
noncomputable def asTuple (x : PySem.Expr) (k : (List PySem.Expr) → Nat → Pos → Bool) : Bool := @PySem.Expr.casesOn (fun _ => Bool) x (fun _ _ _ => false) (fun _ _ _ => false) (fun _ _ _ _ => false) (fun _ _ _ => false) (fun _ _ _ _ => false) (fun _ _ _ _ => false) (fun _ _ _ => false) (fun _ _ _ => false) (fun _ _ _ _ => false) (fun _ _ _ _ => false) (fun _ _ _ _ _ => false) (fun _ _ _ _ => false) (fun _ _ => false) (fun _ _ => false) (fun _ _ => false) (fun _ _ _ _ => false) (fun _ _ _ _ => false) (fun _ _ _ _ => false) (fun _ _ => false) (fun _ _ _ => false) (fun _ _ _ => false) (fun _ _ _ => false) (fun _ _ => false) (fun _ _ => false) (fun _ _ => false) k (fun _ _ _ _ => false)
@[elab_as_elim] theorem asTupleK {x : PySem.Expr} {G : PySem.Expr → Prop} {k : (List PySem.Expr) → Nat → Pos → Bool} (h : asTuple x k = true) (g : ∀ a0 a1 a2, k a0 a1 a2 = true → G (.Tuple a0 a1 a2)) : G x :=
  @PySem.Expr.casesOn (fun x => asTuple x k = true → G x) x (fun a0 a1 a2 (h : false = true) => ff (G (.BoolOp a0 a1 a2)) h) (fun a0 a1 a2 (h : false = true) => ff (G (.NamedExpr a0 a1 a2)) h) (fun a0 a1 a2 a3 (h : false = true) => ff (G (.BinOp a0 a1 a2 a3)) h) (fun a0 a1 a2 (h : false = true) => ff (G (.UnaryOp a0 a1 a2)) h) (fun a0 a1 a2 a3 (h : false = true) => ff (G (.Lambda a0 a1 a2 a3)) h) (fun a0 a1 a2 a3 (h : false = true) => ff (G (.IfExp a0 a1 a2 a3)) h) (fun a0 a1 a2 (h : false = true) => ff (G (.Dict a0 a1 a2)) h) (fun a0 a1 a2 (h : false = true) => ff (G (.Set a0 a1 a2)) h) (fun a0 a1 a2 a3 (h : false = true) => ff (G (.ListComp a0 a1 a2 a3)) h) (fun a0 a1 a2 a3 (h : false = true) => ff (G (.SetComp a0 a1 a2 a3)) h) (fun a0 a1 a2 a3 a4 (h : false = true) => ff (G (.DictComp a0 a1 a2 a3 a4)) h) (fun a0 a1 a2 a3 (h : false = true) => ff (G (.GeneratorExp a0 a1 a2 a3)) h) (fun a0 a1 (h : false = true) => ff (G (.Await a0 a1)) h) (fun a0 a1 (h : false = true) => ff (G (.Yield a0 a1)) h) (fun a0 a1 (h : false = true) => ff (G (.YieldFrom a0 a1)) h) (fun a0 a1 a2 a3 (h : false = true) => ff (G (.Compare a0 a1 a2 a3)) h) (fun a0 a1 a2 a3 (h : false = true) => ff (G (.Call a0 a1 a2 a3)) h) (fun a0 a1 a2 a3 (h : false = true) => ff (G (.FormattedValue a0 a1 a2 a3)) h) (fun a0 a1 (h : false = true) => ff (G (.JoinedStr a0 a1)) h) (fun a0 a1 a2 (h : false = true) => ff (G (.Constant a0 a1 a2)) h) (fun a0 a1 a2 (h : false = true) => ff (G (.Attribute a0 a1 a2)) h) (fun a0 a1 a2 (h : false = true) => ff (G (.Subscript a0 a1 a2)) h) (fun a0 a1 (h : false = true) => ff (G (.Starred a0 a1)) h) (fun a0 a1 (h : false = true) => ff (G (.Name a0 a1)) h) (fun a0 a1 (h : false = true) => ff (G (.List a0 a1)) h) g (fun a0 a1 a2 a3 (h : false = true) => ff (G (.Slice a0 a1 a2 a3)) h) h
noncomputable def asSlice (x : PySem.Expr) (k : (Option PySem.Expr) → (Option PySem.Expr) → (Option PySem.Expr) → Pos → Bool) : Bool := @PySem.Expr.casesOn (fun _ => Bool) x (fun _ _ _ => false) (fun _ _ _ => false) (fun _ _ _ _ => false) (fun _ _ _ => false) (fun _ _ _ _ => false) (fun _ _ _ _ => false) (fun _ _ _ => false) (fun _ _ _ => false) (fun _ _ _ _ => false) (fun _ _ _ _ => false) (fun _ _ _ _ _ => false) (fun _ _ _ _ => false) (fun _ _ => false) (fun _ _ => false) (fun _ _ => false) (fun _ _ _ _ => false) (fun _ _ _ _ => false) (fun _ _ _ _ => false) (fun _ _ => false) (fun _ _ _ => false) (fun _ _ _ => false) (fun _ _ _ => false) (fun _ _ => false) (fun _ _ => false) (fun _ _ => false) (fun _ _ _ => false) k
@[elab_as_elim] theorem asSliceK {x : PySem.Expr} {G : PySem.Expr → Prop} {k : (Option PySem.Expr) → (Option PySem.Expr) → (Option PySem.Expr) → Pos → Bool} (h : asSlice x k = true) (g : ∀ a0 a1 a2 a3, k a0 a1 a2 a3 = true → G (.Slice a0 a1 a2 a3)) : G x :=
  @PySem.Expr.casesOn (fun x => asSlice x k = true → G x) x (fun a0 a1 a2 (h : false = true) => ff (G (.BoolOp a0 a1 a2)) h) (fun a0 a1 a2 (h : false = true) => ff (G (.NamedExpr a0 a1 a2)) h) (fun a0 a1 a2 a3 (h : false = true) => ff (G (.BinOp a0 a1 a2 a3)) h) (fun a0 a1 a2 (h : false = true) => ff (G (.UnaryOp a0 a1 a2)) h) (fun a0 a1 a2 a3 (h : false = true) => ff (G (.Lambda a0 a1 a2 a3)) h) (fun a0 a1 a2 a3 (h : false = true) => ff (G (.IfExp a0 a1 a2 a3)) h) (fun a0 a1 a2 (h : false = true) => ff (G (.Dict a0 a1 a2)) h) (fun a0 a1 a2 (h : false = true) => ff (G (.Set a0 a1 a2)) h) (fun a0 a1 a2 a3 (h : false = true) => ff (G (.ListComp a0 a1 a2 a3)) h) (fun a0 a1 a2 a3 (h : false = true) => ff (G (.SetComp a0 a1 a2 a3)) h) (fun a0 a1 a2 a3 a4 (h : false = true) => ff (G (.DictComp a0 a1 a2 a3 a4)) h) (fun a0 a1 a2 a3 (h : false = true) => ff (G (.GeneratorExp a0 a1 a2 a3)) h) (fun a0 a1 (h : false = true) => ff (G (.Await a0 a1)) h) (fun a0 a1 (h : false = true) => ff (G (.Yield a0 a1)) h) (fun a0 a1 (h : false = true) => ff (G (.YieldFrom a0 a1)) h) (fun a0 a1 a2 a3 (h : false = true) => ff (G (.Compare a0 a1 a2 a3)) h) (fun a0 a1 a2 a3 (h : false = true) => ff (G (.Call a0 a1 a2 a3)) h) (fun a0 a1 a2 a3 (h : false = true) => ff (G (.FormattedValue a0 a1 a2 a3)) h) (fun a0 a1 (h : false = true) => ff (G (.JoinedStr a0 a1)) h) (fun a0 a1 a2 (h : false = true) => ff (G (.Constant a0 a1 a2)) h) (fun a0 a1 a2 (h : false = true) => ff (G (.Attribute a0 a1 a2)) h) (fun a0 a1 a2 (h : false = true) => ff (G (.Subscript a0 a1 a2)) h) (fun a0 a1 (h : false = true) => ff (G (.Starred a0 a1)) h) (fun a0 a1 (h : false = true) => ff (G (.Name a0 a1)) h) (fun a0 a1 (h : false = true) => ff (G (.List a0 a1)) h) (fun a0 a1 a2 (h : false = true) => ff (G (.Tuple a0 a1 a2)) h) g h
noncomputable def plainBase (x : PySem.Expr) : Bool := @PySem.Expr.casesOn (fun _ => Bool) x (fun _ _ _ => true) (fun _ _ _ => true) (fun _ _ _ _ => true) (fun _ _ _ => true) (fun _ _ _ _ => true) (fun _ _ _ _ => true) (fun _ _ _ => true) (fun _ _ _ => true) (fun _ _ _ _ => true) (fun _ _ _ _ => true) (fun _ _ _ _ _ => true) (fun _ _ _ _ => true) (fun _ _ => true) (fun _ _ => true) (fun _ _ => true) (fun _ _ _ _ => true) (fun _ _ _ _ => false) (fun _ _ _ _ => true) (fun _ _ => true) (fun _ _ _ => true) (fun _ _ _ => true) (fun _ _ _ => true) (fun _ _ => true) (fun _ _ => true) (fun _ _ => true) (fun _ _ _ => true) (fun _ _ _ _ => true)
noncomputable def plainIdx (x : PySem.Expr) : Bool := @PySem.Expr.casesOn (fun _ => Bool) x (fun _ _ _ => true) (fun _ _ _ => true) (fun _ _ _ _ => true) (fun _ _ _ => true) (fun _ _ _ _ => true) (fun _ _ _ _ => true) (fun _ _ _ => true) (fun _ _ _ => true) (fun _ _ _ _ => true) (fun _ _ _ _ => true) (fun _ _ _ _ _ => true) (fun _ _ _ _ => true) (fun _ _ => true) (fun _ _ => true) (fun _ _ => true) (fun _ _ _ _ => true) (fun _ _ _ _ => true) (fun _ _ _ _ => true) (fun _ _ => true) (fun _ _ _ => true) (fun _ _ _ => true) (fun _ _ _ => true) (fun _ _ => true) (fun _ _ => true) (fun _ _ => true) (fun _ _ _ => true) (fun _ _ _ _ => false)
noncomputable def notSet (x : PySem.Expr) : Bool := @PySem.Expr.casesOn (fun _ => Bool) x (fun _ _ _ => true) (fun _ _ _ => true) (fun _ _ _ _ => true) (fun _ _ _ => true) (fun _ _ _ _ => true) (fun _ _ _ _ => true) (fun _ _ _ => true) (fun _ _ _ => false) (fun _ _ _ _ => true) (fun _ _ _ _ => true) (fun _ _ _ _ _ => true) (fun _ _ _ _ => true) (fun _ _ => true) (fun _ _ => true) (fun _ _ => true) (fun _ _ _ _ => true) (fun _ _ _ _ => true) (fun _ _ _ _ => true) (fun _ _ => true) (fun _ _ _ => true) (fun _ _ _ => true) (fun _ _ _ => true) (fun _ _ => true) (fun _ _ => true) (fun _ _ => true) (fun _ _ _ => true) (fun _ _ _ _ => true)
noncomputable def notStar (x : PySem.Expr) : Bool := @PySem.Expr.casesOn (fun _ => Bool) x (fun _ _ _ => true) (fun _ _ _ => true) (fun _ _ _ _ => true) (fun _ _ _ => true) (fun _ _ _ _ => true) (fun _ _ _ _ => true) (fun _ _ _ => true) (fun _ _ _ => true) (fun _ _ _ _ => true) (fun _ _ _ _ => true) (fun _ _ _ _ _ => true) (fun _ _ _ _ => true) (fun _ _ => true) (fun _ _ => true) (fun _ _ => true) (fun _ _ _ _ => true) (fun _ _ _ _ => true) (fun _ _ _ _ => true) (fun _ _ => true) (fun _ _ _ => true) (fun _ _ _ => true) (fun _ _ _ => true) (fun _ _ => false) (fun _ _ => true) (fun _ _ => true) (fun _ _ _ => true) (fun _ _ _ _ => true)
noncomputable def notComp (x : PySem.Expr) : Bool := @PySem.Expr.casesOn (fun _ => Bool) x (fun _ _ _ => true) (fun _ _ _ => true) (fun _ _ _ _ => true) (fun _ _ _ => true) (fun _ _ _ _ => true) (fun _ _ _ _ => true) (fun _ _ _ => true) (fun _ _ _ => true) (fun _ _ _ _ => false) (fun _ _ _ _ => false) (fun _ _ _ _ _ => false) (fun _ _ _ _ => true) (fun _ _ => true) (fun _ _ => true) (fun _ _ => true) (fun _ _ _ _ => true) (fun _ _ _ _ => true) (fun _ _ _ _ => true) (fun _ _ => true) (fun _ _ _ => true) (fun _ _ _ => true) (fun _ _ _ => true) (fun _ _ => true) (fun _ _ => true) (fun _ _ => true) (fun _ _ _ => true) (fun _ _ _ _ => true)
noncomputable def notTuple (x : PySem.Expr) : Bool := @PySem.Expr.casesOn (fun _ => Bool) x (fun _ _ _ => true) (fun _ _ _ => true) (fun _ _ _ _ => true) (fun _ _ _ => true) (fun _ _ _ _ => true) (fun _ _ _ _ => true) (fun _ _ _ => true) (fun _ _ _ => true) (fun _ _ _ _ => true) (fun _ _ _ _ => true) (fun _ _ _ _ _ => true) (fun _ _ _ _ => true) (fun _ _ => true) (fun _ _ => true) (fun _ _ => true) (fun _ _ _ _ => true) (fun _ _ _ _ => true) (fun _ _ _ _ => true) (fun _ _ => true) (fun _ _ _ => true) (fun _ _ _ => true) (fun _ _ _ => true) (fun _ _ => true) (fun _ _ => true) (fun _ _ => true) (fun _ _ _ => false) (fun _ _ _ _ => true)
noncomputable def okX (x : PySem.Expr) : Bool := notStar x && (notComp x || asListComp x fun _ _ _ _ => true)
noncomputable def l1 {α : Type} (xs : List α) (k : α → Bool) : Bool := match xs with
  | [] => false
  | a :: r => r.isEmpty && k a
noncomputable def l2 {α : Type} (xs : List α) (k : α → α → Bool) : Bool := match xs with
  | [] => false
  | a :: r => l1 r fun b => k a b
noncomputable def l3 {α : Type} (xs : List α) (k : α → α → α → Bool) : Bool := match xs with
  | [] => false
  | a :: r => l2 r fun b c => k a b c
@[elab_as_elim] theorem l0K {α : Type} {xs : List α} {G : List α → Prop} (h : xs.isEmpty = true) (g : G []) : G xs := match xs, h with
  | [], _ => g
@[elab_as_elim] theorem l1K {α : Type} {xs : List α} {G : List α → Prop} {k : α → Bool} (h : l1 xs k = true) (g : ∀ a, k a = true → G [a]) : G xs := match xs, h with
  | [a], h => g a h
@[elab_as_elim] theorem l2K {α : Type} {xs : List α} {G : List α → Prop} {k : α → α → Bool} (h : l2 xs k = true) (g : ∀ a b, k a b = true → G [a, b]) : G xs := match xs, h with
  | [a, b], h => g a b h
@[elab_as_elim] theorem l3K {α : Type} {xs : List α} {G : List α → Prop} {k : α → α → α → Bool} (h : l3 xs k = true) (g : ∀ a b c, k a b c = true → G [a, b, c]) : G xs := match xs, h with
  | [a, b, c], h => g a b c h
@[elab_as_elim] theorem noneK {α : Type} {o : Option α} {G : Option α → Prop} (h : o.isNone = true) (g : G none) : G o := match o, h with
  | none, _ => g
theorem nsome {α : Type} {a : α} {p : Prop} (h : none = some a) : p := nomatch h
theorem al {a b : Bool} (h : (a && b) = true) : a = true := (Bool.and_eq_true_iff.mp h).1
theorem ar {a b : Bool} (h : (a && b) = true) : b = true := (Bool.and_eq_true_iff.mp h).2
theorem nf {a : Bool} (h : (!a) = true) : a = false := by cases a; rfl; cases h
theorem be {α : Type} [BEq α] [LawfulBEq α] {a b : α} (h : (a == b) = true) : a = b := beq_iff_eq.mp h
/-! the checks -/
noncomputable def rsB (nt : NT) (x : X) (n : Str) : Bool := match x with
  | .loc i => nt.loc[i]? == some n && nt.names.lookup n == some .local
  | .cel j => nt.cel[j]? == some n && nt.names.lookup n == some .cell
theorem rs_of {nt : NT} {x : X} {n : Str} (h : rsB nt x n = true) : RS nt x n := by
  cases x with
  | loc i => exact .loc (be (al h)) (be (ar h))
  | cel j => exact .cel (be (al h)) (be (ar h))
noncomputable def rfB (nt : NT) (j : Nat) (n : Str) : Bool := (nt.cel[j]? == some n && nt.names.lookup n == some .free) && !(n == ("__classdict__" : Str))
noncomputable def rxB (nt : NT) (x : X) (n : Str) : Bool := !(n == ("__debug__" : Str)) && match x with
  | .loc i => rsB nt (.loc i) n
  | .cel j => rsB nt (.cel j) n || rfB nt j n
theorem rx_of {nt : NT} {x : X} {n : Str} (h : rxB nt x n = true) : RX nt x n := by
  cases x with
  | loc i =>
    have k : rsB nt (.loc i) n = true := ar h
    exact .loc (be (al k)) (be (ar k)) (nf (al h))
  | cel j =>
    have k : (rsB nt (.cel j) n || rfB nt j n) = true := ar h
    cases (Bool.or_eq_true_iff.mp k) with
    | inl k => exact .cel (be (al k)) (be (ar k)) (nf (al h))
    | inr k => exact .free (be (al (al k))) (be (ar (al k))) (nf (al h)) (nf (ar k))
noncomputable def rgB (nt : NT) (n : Str) : Bool := nt.names.lookup n == some .globalImplicit && !(n == ("__debug__" : Str))
theorem rg_of {nt : NT} {n : Str} (h : rgB nt n = true) : RG nt n := ⟨be (al h), nf (ar h)⟩
/-- a name of the module that is this -/
noncomputable def rgN (nt : NT) (n m : Str) : Bool := rgB nt n && n == m
noncomputable def rscB (nt : NT) (c : CNT) (sc : Scope) : Bool := sc.kind == .function && (sc.names.all (fun x => x.2 != .local || sc.names.lookup x.1 == some .local) && (kindNm .cell sc.names == c.own && (kindNm .free sc.names == c.free.map (·.1) && (c.free.all (fun p => nt.cel[p.2]? == some p.1) && (decide c.loc.Nodup && decide (c.own ++ c.free.map (·.1)).Nodup)))))
theorem rsc_of {nt : NT} {c : CNT} {sc : Scope} (h : rscB nt c sc = true) : RScope nt c sc := by
  have h3 := ar (ar h)
  have h5 := ar (ar h3)
  refine ⟨be (al h), fun x hx e => ?_, be (al h3), be (al (ar h3)), fun p hp => be (List.all_eq_true.mp (al h5) p hp), of_decide_eq_true (al (ar h5)), of_decide_eq_true (ar (ar h5))⟩
  have k := List.all_eq_true.mp (al (ar h)) x hx
  cases Bool.or_eq_true_iff.mp k with
  | inl k => rw [e] at k; cases k
  | inr k => exact be k
noncomputable abbrev Ck := NT → E → PySem.Expr → Bool
noncomputable def cEs (c : Ck) (nt : NT) : List E → List PySem.Expr → Bool
  | [], ls => ls.isEmpty
  | e :: es, ls => match ls with
    | [] => false
    | l :: ls => c nt e l && cEs c nt es ls
noncomputable def cO (c : Ck) (nt : NT) (e : Option E) (x : Option PySem.Expr) : Bool := match e with
  | none => x.isNone
  | some e => match x with
    | none => false
    | some x => c nt e x
noncomputable def cBo (cb : Ck) (nt : NT) (e : Option E) (x : List PySem.Expr) : Bool := match e with
  | none => x.isEmpty
  | some e => l1 x fun x => cb nt e x
noncomputable def cCall (x : PySem.Expr) (k : PySem.Expr → List PySem.Expr → Pos → Bool) : Bool := asCall x fun f as kw p => kw.isEmpty && k f as p
@[elab_as_elim] theorem cCallK {x : PySem.Expr} {G : PySem.Expr → Prop} {k : PySem.Expr → List PySem.Expr → Pos → Bool} (h : cCall x k = true) (g : ∀ f as p, k f as p = true → G (.Call f as [] p)) : G x :=
  asCallK h fun f as _ p h => l0K (al h) (g f as p (ar h))
/-- a call by a name -/
noncomputable def cCallN (x : PySem.Expr) (k : Str → List PySem.Expr → Bool) : Bool := cCall x fun f as _ => asName f fun n _ => k n as
@[elab_as_elim] theorem cCallNK {x : PySem.Expr} {G : PySem.Expr → Prop} {k : Str → List PySem.Expr → Bool} (h : cCallN x k = true) (g : ∀ n q as p, k n as = true → G (.Call (.Name n q) as [] p)) : G x :=
  cCallK h fun _ as p h => asNameK h fun n q h => g n q as p h
noncomputable def cCall1 (c : Ck) (nt : NT) (m : Str) (a : E) (x : PySem.Expr) : Bool := cCallN x fun n as => rgN nt n m && l1 as fun l => c nt a l
@[elab_as_elim] theorem cCall1K {c : Ck} {nt : NT} {m : Str} {a : E} {x : PySem.Expr} {G : PySem.Expr → Prop} (h : cCall1 c nt m a x = true) (g : ∀ n q l p, RG nt n → n = m → c nt a l = true → G (.Call (.Name n q) [l] [] p)) : G x :=
  cCallNK h fun n q _ p h => l1K (ar h) fun l k => g n q l p (rg_of (al (al h))) (be (ar (al h))) k
/-- a call of an attribute -/
noncomputable def cMeth (x : PySem.Expr) (k : PySem.Expr → Str → List PySem.Expr → Bool) : Bool := cCall x fun f as p => asAttribute f fun v n q => (q.endLine == p.line) && (plainBase v && k v n as)
@[elab_as_elim] theorem cMethK {x : PySem.Expr} {G : PySem.Expr → Prop} {k : PySem.Expr → Str → List PySem.Expr → Bool} (h : cMeth x k = true) (g : ∀ v n q as p, (q.endLine == p.line) = true → plainBase v = true → k v n as = true → G (.Call (.Attribute v n q) as [] p)) : G x :=
  cCallK h fun _ as p h => asAttributeK h fun v n q h => g v n q as p (al h) (al (ar h)) (ar (ar h))
noncomputable def cI (c : Ck) (nt : NT) (k : IK) (ia : List E) (x : PySem.Expr) : Bool := match k with
  | .val => l1 ia fun e => c nt e x && notSet x
  | .range => cCallN x fun n as => rgN nt n "range" && cEs c nt ia as
  | .items => l1 ia fun e => cMeth x fun v n as => n == "items" && (as.isEmpty && c nt e v)
  | .vals => l1 ia fun e => cMeth x fun v n as => n == "values" && (as.isEmpty && c nt e v)
noncomputable def cCmp (c : Ck) (nt : NT) (a b : E) (x : PySem.Expr) (k : CmpOp → PySem.Expr → Bool) : Bool := asCompare x fun l ops rs _ => l1 ops fun op => l1 rs fun r => k op r && (c nt a l && c nt b r)
@[elab_as_elim] theorem cCmpK {c : Ck} {nt : NT} {a b : E} {x : PySem.Expr} {k : CmpOp → PySem.Expr → Bool} {G : PySem.Expr → Prop} (h : cCmp c nt a b x k = true) (g : ∀ l op r p, k op r = true → c nt a l = true → c nt b r = true → G (.Compare l [op] [r] p)) : G x :=
  asCompareK h fun l _ _ p h => l1K h fun op h => l1K h fun r h => g l op r p (al h) (al (ar h)) (ar (ar h))
noncomputable def isOp (ng : Bool) : CmpOp := match ng with
  | true => .IsNot
  | false => .Is
theorem eInt_is {e : E} {i : Int} (h : eInt e = some i) : e = .int i := by
  cases e with
  | int j => exact congrArg E.int (Option.some.inj h)
  | _ => exact nsome h
noncomputable def cE (c cb : Ck) (nt : NT) (e : E) (x : PySem.Expr) : Bool := match e with
  | .loc i => asName x fun n _ => rxB nt (.loc i) n
  | .cel j => asName x fun n _ => rxB nt (.cel j) n
  | .none => asConstant x fun k _ _ => k == .none
  | .bool b => asConstant x fun k _ _ => k == .bool b
  | .int i => asConstant x fun k _ _ => k == .int i
  | .str s => asConstant x fun k _ _ => k == .str ⟨s.toArray⟩
  | .bin o _ a b => asBinOp x fun l op r _ => op == o.op && (c nt a l && c nt b r)
  | .neg a => asUnaryOp x fun op l _ => op == .USub && c nt a l
  | .cmp o a b => cCmp c nt a b x fun op _ => op == o.op
  | .is ng a b => cCmp c nt a b x fun op _ => op == isOp ng
  | .inn a b => cCmp c nt a b x fun op r => op == .In && !(behindInMarks .In r)
  | .ite t a b => asIfExp x fun te l r _ => cb nt t te && (c nt a l && c nt b r)
  | .or _ _ => false
  | .not _ => false
  | .call f as => cCallN x fun n args => rgB nt n && (fnNms[f]? == some n && (!(n == ("" : Str)) && cEs c nt as args))
  | .new k as => cCallN x fun n args => rgB nt n && (clsNms[k]? == some n && cEs c nt as args)
  | .meth m o as => cMeth x fun v n args => metNms[m]? == some n && (Nat.blt args.length 28 && (c nt o v && cEs c nt as args))
  | .attr a o => asAttribute x fun v n _ => attNms[a]? == some n && (plainBase v && c nt o v)
  | .cattr k a => asAttribute x fun v n _ => attNms[a]? == some n && asName v fun m _ => rgB nt m && clsNms[k]? == some m
  | .len a => cCall1 c nt "len" a x
  | .max1 a => cCall1 c nt "max" a x
  | .max2 a b => cCallN x fun n as => rgN nt n "max" && l2 as fun l r => c nt a l && c nt b r
  | .sortset a => cCallN x fun n as => rgN nt n "sorted" && l1 as fun y => cCall1 c nt "set" a y
  | .sortd a => cCall1 c nt "sorted" a x
  | .isi a ty => cCallN x fun n as => rgN nt n "isinstance" && l2 as fun l m => c nt a l && asName m fun m _ => rgB nt m && (tyName ty).map Str.ofString == some m
  | .hasget a => cCallN x fun n as => rgN nt n "hasattr" && l2 as fun l m => c nt a l && asConstant m fun k _ _ => k == .str "__getitem__"
  | .tuple a => cCall1 c nt "tuple" a x
  | .append o v => cMeth x fun ov n as => n == "append" && l1 as fun l => c nt o ov && c nt v l
  | .split o v => cMeth x fun ov n as => n == "split" && l1 as fun l => c nt o ov && c nt v l
  | .sub o i => asSubscript x fun ov iv _ => plainIdx iv && (c nt o ov && c nt i iv)
  | .slc o l u => asSubscript x fun ov iv _ => asSlice iv fun lv uv st _ => st.isNone && (c nt o ov && (cO c nt l lv && cO c nt u uv))
  | .list _ xs => asList x fun es _ => cEs c nt xs es
  | .tup xs => asTuple x fun es _ _ => cEs c nt xs es
  | .dict kvs => asDict x fun ks vs _ => match kvs with
    | [] => ks.isEmpty && vs.isEmpty
    | kv :: r => r.isEmpty && l1 ks fun k => l1 vs fun v => match k with
      | none => false
      | some k => asConstant k fun k _ _ => k == .str ⟨kv.1.toArray⟩ && asConstant v fun v _ _ => match eInt kv.2 with
        | some i => v == .int i
        | none => false
  | .comp1 d y k ia t elt => asListComp x fun el gens sc _ => rscB nt d sc && l1 gens fun g => g.is_async == 0 && (asName g.target (fun n _ => rsB (cntNT d sc) y n) && (cI c nt k ia g.iter && (cBo cb (cntNT d sc) t g.ifs && c (cntNT d sc) elt el)))
  | .comp2 d y k ia y2 k2 ia2 t elt => asListComp x fun el gens sc _ => rscB nt d sc && l2 gens fun g g2 => (g.is_async == 0 && (asName g.target (fun n _ => rsB (cntNT d sc) y n) && (cI c nt k ia g.iter && g.ifs.isEmpty))) &&
      (g2.is_async == 0 && (asName g2.target (fun n _ => rsB (cntNT d sc) y2 n) && (cI c (cntNT d sc) k2 ia2 g2.iter && (cBo cb (cntNT d sc) t g2.ifs && c (cntNT d sc) elt el))))
noncomputable def ckB (c cb : Ck) (nt : NT) (e : E) (x : PySem.Expr) : Bool := match e with
  | .or a b => asBoolOp x fun op vs _ => op == .Or && l2 vs fun l r => cb nt a l && cb nt b r
  | .not a => asUnaryOp x fun op l _ => op == .Not && cb nt a l
  | .cmp o a b => cCmp c nt a b x fun op _ => op == o.op
  | .is ng a b => cCmp c nt a b x fun op _ => op == isOp ng
  | .inn a b => cCmp c nt a b x fun op r => op == .In && !(behindInMarks .In r)
  | .isi a ty => cCall x fun f as p => c nt (.isi a ty) (.Call f as [] p)
  | .hasget a => cCall x fun f as p => c nt (.hasget a) (.Call f as [] p)
  | _ => false
noncomputable def chk : Nat → Ck × Ck
  | 0 => (fun _ _ _ => false, fun _ _ _ => false)
  | n + 1 => (fun nt e x => okX x && cE (chk n).1 (chk n).2 nt e x, fun nt e x => ckB (chk n).1 (chk n).2 nt e x)
def RE (nt : NT) (e : E) (x : PySem.Expr) : Prop := ∃ n, (chk n).1 nt e x = true
def RBk (nt : NT) (n : Nat) (e : E) (x : PySem.Expr) : Prop := (chk n).2 nt e x = true
def RB (nt : NT) (e : E) (x : PySem.Expr) : Prop := ∃ n, RBk nt n e x
inductive REs (nt : NT) : List E → List PySem.Expr → Prop where
  | nil : REs nt [] []
  | cons {e l es ls} : RE nt e l → REs nt es ls → REs nt (e :: es) (l :: ls)
inductive REo (nt : NT) : Option E → Option PySem.Expr → Prop where
  | none : REo nt none none
  | some {e l} : RE nt e l → REo nt (some e) (some l)
inductive RBo (nt : NT) : Option E → List PySem.Expr → Prop where
  | none : RBo nt none []
  | some {e l} : RB nt e l → RBo nt (some e) [l]
/-- what a loop runs over -/
inductive RI (nt : NT) : IK → List E → PySem.Expr → Prop where
  | val {e l} : RE nt e l → notSet l = true → RI nt .val [e] l
  | range {es ls n np p} : RG nt n → n = "range" → REs nt es ls → RI nt .range es (.Call (.Name n np) ls [] p)
  | items {e l ap p} {n : Str} : n = "items" → (ap.endLine == p.line) = true → plainBase l = true → RE nt e l → RI nt .items [e] (.Call (.Attribute l n ap) [] [] p)
  | vals {e l ap p} {n : Str} : n = "values" → (ap.endLine == p.line) = true → plainBase l = true → RE nt e l → RI nt .vals [e] (.Call (.Attribute l n ap) [] [] p)
section
variable {nt : NT} {n : Nat}
theorem es_of : ∀ {es : List E} {ls : List PySem.Expr}, cEs (chk n).1 nt es ls = true → REs nt es ls := by
  intro es
  induction es with
  | nil => intro ls h; exact l0K h .nil
  | cons e es ih =>
    intro ls h
    cases ls with
    | nil => cases h
    | cons l ls => exact .cons ⟨n, al h⟩ (ih (ar h))
theorem eo_of {e : Option E} {x : Option PySem.Expr} (h : cO (chk n).1 nt e x = true) : REo nt e x := by
  cases e with
  | none =>
    cases x with
    | none => exact .none
    | some _ => cases h
  | some e =>
    cases x with
    | none => cases h
    | some x => exact .some ⟨n, h⟩
theorem bo_of {e : Option E} {x : List PySem.Expr} (h : cBo (chk n).2 nt e x = true) : RBo nt e x := by
  cases e with
  | none => exact l0K h .none
  | some e => exact l1K h fun x h => .some ⟨n, h⟩
theorem i_of {k : IK} {ia : List E} {x : PySem.Expr} (h : cI (chk n).1 nt k ia x = true) : RI nt k ia x := by
  cases k with
  | val => exact l1K h fun e h => .val ⟨n, al h⟩ (ar h)
  | range => exact cCallNK h fun m q as p h => .range (rg_of (al (al h))) (be (ar (al h))) (es_of (ar h))
  | items => exact l1K h fun e h => cMethK h fun v m q as p h1 h2 h => l0K (al (ar h)) (.items (n := m) (be (al h)) h1 h2 ⟨n, ar (ar h)⟩)
  | vals => exact l1K h fun e h => cMethK h fun v m q as p h1 h2 h => l0K (al (ar h)) (.vals (n := m) (be (al h)) h1 h2 ⟨n, ar (ar h)⟩)
end
/-- the two shapes of comprehensions -/
inductive CompV (nt : NT) : E → PySem.Expr → List Comprehension → Scope → Prop where
  | comp1 {c x k ia t elt el n np it ifs sc} : RScope nt c sc → RI nt k ia it → RS (cntNT c sc) x n → RBo (cntNT c sc) t ifs → RE (cntNT c sc) elt el → CompV nt (.comp1 c x k ia t elt) el [⟨.Name n np, it, ifs, 0⟩] sc
  | comp2 {c x k ia x2 k2 ia2 t elt el n np it n2 np2 it2 ifs sc} : RScope nt c sc → RI nt k ia it → RS (cntNT c sc) x n → RI (cntNT c sc) k2 ia2 it2 → RS (cntNT c sc) x2 n2 → RBo (cntNT c sc) t ifs → RE (cntNT c sc) elt el →
      CompV nt (.comp2 c x k ia x2 k2 ia2 t elt) el [⟨.Name n np, it, [], 0⟩, ⟨.Name n2 np2, it2, ifs, 0⟩] sc
/-- what an expression of ours stands for -/
inductive REv (nt : NT) : E → PySem.Expr → Prop where
  | loc {i n p} : RX nt (.loc i) n → REv nt (.loc i) (.Name n p)
  | cel {i n p} : RX nt (.cel i) n → REv nt (.cel i) (.Name n p)
  | none {k p} : REv nt .none (.Constant .none k p)
  | bool {b k p} : REv nt (.bool b) (.Constant (.bool b) k p)
  | int {i k p} : REv nt (.int i) (.Constant (.int i) k p)
  | str {s k p} : REv nt (.str s) (.Constant (.str ⟨s.toArray⟩) k p)
  | bin {o fz a b l r p} : RE nt a l → RE nt b r → REv nt (.bin o fz a b) (.BinOp l o.op r p)
  | neg {a l p} : RE nt a l → REv nt (.neg a) (.UnaryOp .USub l p)
  | cmp {o a b l r p} : RE nt a l → RE nt b r → REv nt (.cmp o a b) (.Compare l [o.op] [r] p)
  | is {ng a b l r p} : RE nt a l → RE nt b r → REv nt (.is ng a b) (.Compare l [isOp ng] [r] p)
  | inn {a b l r p} : behindInMarks .In r = false → RE nt a l → RE nt b r → REv nt (.inn a b) (.Compare l [.In] [r] p)
  | ite {t a b te l r p} : RB nt t te → RE nt a l → RE nt b r → REv nt (.ite t a b) (.IfExp te l r p)
  | call {f as n np args p} : RG nt n → fnNms[f]? = some n → (n == ("" : Str)) = false → REs nt as args → REv nt (.call f as) (.Call (.Name n np) args [] p)
  | new {c as n np args p} : RG nt n → clsNms[c]? = some n → REs nt as args → REv nt (.new c as) (.Call (.Name n np) args [] p)
  | meth {m o as ov n ap args p} : metNms[m]? = some n → (ap.endLine == p.line) = true → args.length < 28 → plainBase ov = true → RE nt o ov → REs nt as args → REv nt (.meth m o as) (.Call (.Attribute ov n ap) args [] p)
  | attr {a o ov n p} : attNms[a]? = some n → plainBase ov = true → RE nt o ov → REv nt (.attr a o) (.Attribute ov n p)
  | cattr {c a m n np p} : RG nt m → clsNms[c]? = some m → attNms[a]? = some n → REv nt (.cattr c a) (.Attribute (.Name m np) n p)
  | len {a l n np p} : RG nt n → n = "len" → RE nt a l → REv nt (.len a) (.Call (.Name n np) [l] [] p)
  | max1 {a l n np p} : RG nt n → n = "max" → RE nt a l → REv nt (.max1 a) (.Call (.Name n np) [l] [] p)
  | max2 {a b l r n np p} : RG nt n → n = "max" → RE nt a l → RE nt b r → REv nt (.max2 a b) (.Call (.Name n np) [l, r] [] p)
  | sortset {a l n np p m mp q} : RG nt n → n = "sorted" → RG nt m → m = "set" → RE nt a l → REv nt (.sortset a) (.Call (.Name n np) [.Call (.Name m mp) [l] [] q] [] p)
  | sortd {a l n np p} : RG nt n → n = "sorted" → RE nt a l → REv nt (.sortd a) (.Call (.Name n np) [l] [] p)
  | isi {a ty l n np p m mp} : RG nt n → n = "isinstance" → RG nt m → (tyName ty).map Str.ofString = some m → RE nt a l → REv nt (.isi a ty) (.Call (.Name n np) [l, .Name m mp] [] p)
  | hasget {a l n np p k q} : RG nt n → n = "hasattr" → RE nt a l → REv nt (.hasget a) (.Call (.Name n np) [l, .Constant (.str "__getitem__") k q] [] p)
  | tuple {a l n np p} : RG nt n → n = "tuple" → RE nt a l → REv nt (.tuple a) (.Call (.Name n np) [l] [] p)
  | append {o v ov l ap p} {n : Str} : n = "append" → (ap.endLine == p.line) = true → plainBase ov = true → RE nt o ov → RE nt v l → REv nt (.append o v) (.Call (.Attribute ov n ap) [l] [] p)
  | split {o v ov l ap p} {n : Str} : n = "split" → (ap.endLine == p.line) = true → plainBase ov = true → RE nt o ov → RE nt v l → REv nt (.split o v) (.Call (.Attribute ov n ap) [l] [] p)
  | sub {o i ov iv p} : plainIdx iv = true → RE nt o ov → RE nt i iv → REv nt (.sub o i) (.Subscript ov iv p)
  | slc {o l u ov lv uv q p} : RE nt o ov → REo nt l lv → REo nt u uv → REv nt (.slc o l u) (.Subscript ov (.Slice lv uv none q) p)
  | list {fz xs elts p} : REs nt xs elts → REv nt (.list fz xs) (.List elts p)
  | tup {xs elts k p} : REs nt xs elts → REv nt (.tup xs) (.Tuple elts k p)
  | dict0 {p} : REv nt (.dict []) (.Dict [] [] p)
  | dict1 {s k q i k' q' p} : REv nt (.dict [(s, .int i)]) (.Dict [some (.Constant (.str ⟨s.toArray⟩) k q)] [.Constant (.int i) k' q'] p)
  | comp {e el gens sc p} : CompV nt e el gens sc → REv nt e (.ListComp el gens sc p)
@[elab_as_elim] theorem eqK {α : Type} [BEq α] [LawfulBEq α] {a b : α} {G : α → Prop} (h : (a == b) = true) (g : G b) : G a := be h ▸ g
theorem dict_of {n : Nat} {nt : NT} {kvs : List (List Nat × E)} {x : PySem.Expr} (h : cE (chk n).1 (chk n).2 nt (.dict kvs) x = true) : REv nt (.dict kvs) x := by
  refine asDictK h fun ks vs p h => ?_
  cases kvs with
  | nil => exact l0K (al h) (l0K (ar h) .dict0)
  | cons kv r =>
    have h2 := ar h
    refine l0K (al h) (l1K h2 fun k h => l1K h fun v h => ?_)
    cases k with
    | none => exact ff _ h
    | some k =>
      refine asConstantK h fun k k1 q1 h => eqK (al h) (asConstantK (ar h) fun v k2 q2 h => ?_)
      cases e : eInt kv.2 with
      | none => rw [e] at h; exact ff _ h
      | some i =>
        rw [e] at h
        have e2 : kv = (kv.1, .int i) := Prod.ext rfl (eInt_is e)
        rw [e2]
        exact eqK h .dict1
@[elab_as_elim] theorem comp_of {G : Comprehension → Prop} {g : Comprehension} {nt : NT} {x : X} (h0 : (g.is_async == 0) = true) (h1 : asName g.target (fun n _ => rsB nt x n) = true) (k : ∀ n np, RS nt x n → G ⟨.Name n np, g.iter, g.ifs, 0⟩) : G g := by
  obtain ⟨tg, it, ifs, as⟩ := g
  have e : as = 0 := be h0
  subst e
  exact asNameK (x := tg) h1 fun n p h => k n p (rs_of h)
theorem comp1_of {n : Nat} {nt : NT} {d : CNT} {y : X} {k : IK} {ia : List E} {t : Option E} {elt : E} {el : PySem.Expr} {gens : List Comprehension} {sc : Scope} {p : Pos} (h : cE (chk n).1 (chk n).2 nt (.comp1 d y k ia t elt) (.ListComp el gens sc p) = true) : CompV nt (.comp1 d y k ia t elt) el gens sc :=
  have h : (rscB nt d sc && l1 gens _) = true := h
  l1K (ar h) fun g h2 => comp_of (al h2) (al (ar h2)) fun m np hs => .comp1 (rsc_of (al h)) (i_of (al (ar (ar h2)))) hs (bo_of (al (ar (ar (ar h2))))) ⟨n, ar (ar (ar (ar h2)))⟩
theorem comp2_of {n : Nat} {nt : NT} {d : CNT} {y y2 : X} {k k2 : IK} {ia ia2 : List E} {t : Option E} {elt : E} {el : PySem.Expr} {gens : List Comprehension} {sc : Scope} {p : Pos} (h : cE (chk n).1 (chk n).2 nt (.comp2 d y k ia y2 k2 ia2 t elt) (.ListComp el gens sc p) = true) : CompV nt (.comp2 d y k ia y2 k2 ia2 t elt) el gens sc := by
  have h : (rscB nt d sc && l2 gens _) = true := h
  refine l2K (ar h) fun g g2 h2 => comp_of (al (al h2)) (al (ar (al h2))) fun m np hs => ?_
  have e : g.ifs = [] := List.isEmpty_iff.mp (ar (ar (ar (al h2))))
  rw [e]
  exact comp_of (g := g2) (al (ar h2)) (al (ar (ar h2))) fun m2 np2 hs2 => .comp2 (rsc_of (al h)) (i_of (al (ar (ar (al h2))))) hs (i_of (al (ar (ar (ar h2))))) hs2 (bo_of (al (ar (ar (ar (ar h2)))))) ⟨n, ar (ar (ar (ar (ar h2))))⟩
theorem view_of {n : Nat} {nt : NT} {e : E} {x : PySem.Expr} (h : cE (chk n).1 (chk n).2 nt e x = true) : REv nt e x := by
  cases e with
  | loc i => exact asNameK h fun m p h => .loc (rx_of h)
  | cel i => exact asNameK h fun m p h => .cel (rx_of h)
  | none => exact asConstantK h fun m k p h => eqK h .none
  | bool b => exact asConstantK h fun m k p h => eqK h .bool
  | int b => exact asConstantK h fun m k p h => eqK h .int
  | str b => exact asConstantK h fun m k p h => eqK h .str
  | bin o fz a b => exact asBinOpK h fun l op r p h => eqK (al h) (.bin ⟨n, al (ar h)⟩ ⟨n, ar (ar h)⟩)
  | neg a => exact asUnaryOpK h fun op l p h => eqK (al h) (.neg ⟨n, ar h⟩)
  | cmp o a b => exact cCmpK h fun l op r p h h1 h2 => eqK h (.cmp ⟨n, h1⟩ ⟨n, h2⟩)
  | is o a b => exact cCmpK h fun l op r p h h1 h2 => eqK h (.is ⟨n, h1⟩ ⟨n, h2⟩)
  | inn a b => exact cCmpK h fun l op r p h h1 h2 => eqK (al h) (.inn (nf (ar h)) ⟨n, h1⟩ ⟨n, h2⟩)
  | ite t a b => exact asIfExpK h fun te l r p h => .ite ⟨n, al h⟩ ⟨n, al (ar h)⟩ ⟨n, ar (ar h)⟩
  | or _ _ => cases h
  | not _ => cases h
  | call f as => exact cCallNK h fun m q as p h => .call (rg_of (al h)) (be (al (ar h))) (nf (al (ar (ar h)))) (es_of (ar (ar (ar h))))
  | new f as => exact cCallNK h fun m q as p h => .new (rg_of (al h)) (be (al (ar h))) (es_of (ar (ar h)))
  | meth m o as => exact cMethK h fun v m q as p h1 h2 h => .meth (be (al h)) h1 (Nat.le_of_ble_eq_true (al (ar h))) h2 ⟨n, al (ar (ar h))⟩ (es_of (ar (ar (ar h))))
  | attr a o => exact asAttributeK h fun v m p h => .attr (be (al h)) (al (ar h)) ⟨n, ar (ar h)⟩
  | cattr k a => exact asAttributeK h fun v m p h => asNameK (ar h) fun m2 q h2 => .cattr (rg_of (al h2)) (be (ar h2)) (be (al h))
  | len a => exact cCall1K h fun m q l p h1 h2 h => .len h1 h2 ⟨n, h⟩
  | max1 a => exact cCall1K h fun m q l p h1 h2 h => .max1 h1 h2 ⟨n, h⟩
  | max2 a b => exact cCallNK h fun m q as p h => l2K (ar h) fun l r k => .max2 (rg_of (al (al h))) (be (ar (al h))) ⟨n, al k⟩ ⟨n, ar k⟩
  | sortset a => exact cCallNK h fun m q as p h => l1K (ar h) fun y k => cCall1K k fun m2 q2 l p2 h1 h2 k => .sortset (rg_of (al (al h))) (be (ar (al h))) h1 h2 ⟨n, k⟩
  | sortd a => exact cCall1K h fun m q l p h1 h2 h => .sortd h1 h2 ⟨n, h⟩
  | isi a ty => exact cCallNK h fun m q as p h => l2K (ar h) fun l y k => asNameK (ar k) fun m2 q2 k2 => .isi (rg_of (al (al h))) (be (ar (al h))) (rg_of (al k2)) (be (ar k2)) ⟨n, al k⟩
  | hasget a => exact cCallNK h fun m q as p h => l2K (ar h) fun l y k => asConstantK (ar k) fun m2 k2 q2 h2 => eqK h2 (.hasget (rg_of (al (al h))) (be (ar (al h))) ⟨n, al k⟩)
  | tuple a => exact cCall1K h fun m q l p h1 h2 h => .tuple h1 h2 ⟨n, h⟩
  | append o v => exact cMethK h fun ov m q as p h1 h2 h => l1K (ar h) fun l k => .append (n := m) (be (al h)) h1 h2 ⟨n, al k⟩ ⟨n, ar k⟩
  | split o v => exact cMethK h fun ov m q as p h1 h2 h => l1K (ar h) fun l k => .split (n := m) (be (al h)) h1 h2 ⟨n, al k⟩ ⟨n, ar k⟩
  | sub o i => exact asSubscriptK h fun ov iv p h => .sub (al h) ⟨n, al (ar h)⟩ ⟨n, ar (ar h)⟩
  | slc o l u => exact asSubscriptK h fun ov iv p h => asSliceK h fun lv uv st q h => noneK (al h) (.slc ⟨n, al (ar h)⟩ (eo_of (al (ar (ar h)))) (eo_of (ar (ar (ar h)))))
  | list fz xs => exact asListK h fun es p h => .list (es_of h)
  | tup xs => exact asTupleK h fun es k p h => .tup (es_of h)
  | dict kvs => exact dict_of h
  | comp1 d y k ia t elt => exact asListCompK h fun el gens sc p h => .comp (comp1_of (p := p) h)
  | comp2 d y k ia y2 k2 ia2 t elt => exact asListCompK h fun el gens sc p h => .comp (comp2_of (p := p) h)
theorem chk_succ {n : Nat} {nt : NT} {e : E} {x : PySem.Expr} (h : (chk (n + 1)).1 nt e x = true) : okX x = true ∧ cE (chk n).1 (chk n).2 nt e x = true :=
  have h : (okX x && cE (chk n).1 (chk n).2 nt e x) = true := h
  ⟨al h, ar h⟩
theorem RE.comp {nt : NT} {e : E} {el : PySem.Expr} {gens : List Comprehension} {sc : Scope} {p : Pos} (h : RE nt e (.ListComp el gens sc p)) : CompV nt e el gens sc := by
  obtain ⟨n, h⟩ := h
  cases n with
  | zero => exact ff _ h
  | succ n =>
    replace h := (chk_succ h).2
    cases e with
    | comp1 => exact comp1_of h
    | comp2 => exact comp2_of h
    | _ => exact ff _ h
theorem RE.view {nt : NT} {e : E} {x : PySem.Expr} (h : RE nt e x) : REv nt e x := by
  obtain ⟨n, h⟩ := h
  cases n with
  | zero => exact ff _ h
  | succ n => exact view_of (chk_succ h).2
theorem RE.ok {nt : NT} {e : E} {x : PySem.Expr} (h : RE nt e x) : okX x = true := by
  obtain ⟨n, h⟩ := h
  cases n with
  | zero => exact ff _ h
  | succ n => exact (chk_succ h).1
/-- a test -/
inductive RBv (nt : NT) (B : E → PySem.Expr → Prop) : E → PySem.Expr → Prop where
  | or {a b l r p} : B a l → B b r → RBv nt B (.or a b) (.BoolOp .Or [l, r] p)
  | not {a l p} : B a l → RBv nt B (.not a) (.UnaryOp .Not l p)
  | cmp {o a b l r p} : RE nt a l → RE nt b r → RBv nt B (.cmp o a b) (.Compare l [o.op] [r] p)
  | is {ng a b l r p} : RE nt a l → RE nt b r → RBv nt B (.is ng a b) (.Compare l [isOp ng] [r] p)
  | inn {a b l r p} : behindInMarks .In r = false → RE nt a l → RE nt b r → RBv nt B (.inn a b) (.Compare l [.In] [r] p)
  | isi {a ty f as p} : RE nt (.isi a ty) (.Call f as [] p) → RBv nt B (.isi a ty) (.Call f as [] p)
  | hasget {a f as p} : RE nt (.hasget a) (.Call f as [] p) → RBv nt B (.hasget a) (.Call f as [] p)
theorem RBk.view {nt : NT} {n : Nat} {e : E} {x : PySem.Expr} (h : RBk nt (n + 1) e x) : RBv nt (RBk nt n) e x := by
  replace h : ckB (chk n).1 (chk n).2 nt e x = true := h
  cases e with
  | or a b => exact asBoolOpK h fun op vs p h => eqK (al h) (l2K (ar h) fun l r k => .or (al k) (ar k))
  | not a => exact asUnaryOpK h fun op l p h => eqK (al h) (.not (ar h))
  | cmp o a b => exact cCmpK h fun l op r p h h1 h2 => eqK h (.cmp ⟨n, h1⟩ ⟨n, h2⟩)
  | is o a b => exact cCmpK h fun l op r p h h1 h2 => eqK h (.is ⟨n, h1⟩ ⟨n, h2⟩)
  | inn a b => exact cCmpK h fun l op r p h h1 h2 => eqK (al h) (.inn (nf (ar h)) ⟨n, h1⟩ ⟨n, h2⟩)
  | isi a ty => exact cCallK h fun f as p h => .isi ⟨n, h⟩
  | hasget a => exact cCallK h fun f as p h => .hasget ⟨n, h⟩
  | _ => exact ff _ h
/-! statements -/
noncomputable def atReturn (x : PySem.Stmt) (k : (Option PySem.Expr) → Pos → Bool) : Bool := @PySem.Stmt.casesOn (fun _ => Bool) x (fun _ _ _ _ _ _ _ _ _ _ => false) (fun _ _ _ _ _ _ _ _ _ _ => false) (fun _ _ _ _ _ _ _ _ _ _ _ => false) k (fun _ _ => false) (fun _ _ _ => false) (fun _ _ _ _ _ _ _ => false) (fun _ _ _ _ => false) (fun _ _ _ _ _ => false) (fun _ _ _ _ _ => false) (fun _ _ _ _ _ => false) (fun _ _ _ _ => false) (fun _ _ _ _ => false) (fun _ _ _ => false) (fun _ _ _ => false) (fun _ _ _ => false) (fun _ _ _ => false) (fun _ _ _ _ _ => false) (fun _ _ _ _ _ => false) (fun _ _ _ => false) (fun _ _ => false) (fun _ _ _ _ => false) (fun _ _ => false) (fun _ _ => false) (fun _ _ => false) (fun _ => false) (fun _ => false) (fun _ => false)
@[elab_as_elim] theorem atReturnK {x : PySem.Stmt} {G : PySem.Stmt → Prop} {k : (Option PySem.Expr) → Pos → Bool} (h : atReturn x k = true) (g : ∀ a0 a1, k a0 a1 = true → G (.Return a0 a1)) : G x :=
  @PySem.Stmt.casesOn (fun x => atReturn x k = true → G x) x (fun a0 a1 a2 a3 a4 a5 a6 a7 a8 a9 (h : false = true) => ff (G (.FunctionDef a0 a1 a2 a3 a4 a5 a6 a7 a8 a9)) h) (fun a0 a1 a2 a3 a4 a5 a6 a7 a8 a9 (h : false = true) => ff (G (.AsyncFunctionDef a0 a1 a2 a3 a4 a5 a6 a7 a8 a9)) h) (fun a0 a1 a2 a3 a4 a5 a6 a7 a8 a9 a10 (h : false = true) => ff (G (.ClassDef a0 a1 a2 a3 a4 a5 a6 a7 a8 a9 a10)) h) g (fun a0 a1 (h : false = true) => ff (G (.Delete a0 a1)) h) (fun a0 a1 a2 (h : false = true) => ff (G (.Assign a0 a1 a2)) h) (fun a0 a1 a2 a3 a4 a5 a6 (h : false = true) => ff (G (.TypeAlias a0 a1 a2 a3 a4 a5 a6)) h) (fun a0 a1 a2 a3 (h : false = true) => ff (G (.AugAssign a0 a1 a2 a3)) h) (fun a0 a1 a2 a3 a4 (h : false = true) => ff (G (.AnnAssign a0 a1 a2 a3 a4)) h) (fun a0 a1 a2 a3 a4 (h : false = true) => ff (G (.For a0 a1 a2 a3 a4)) h) (fun a0 a1 a2 a3 a4 (h : false = true) => ff (G (.AsyncFor a0 a1 a2 a3 a4)) h) (fun a0 a1 a2 a3 (h : false = true) => ff (G (.While a0 a1 a2 a3)) h) (fun a0 a1 a2 a3 (h : false = true) => ff (G (.If a0 a1 a2 a3)) h) (fun a0 a1 a2 (h : false = true) => ff (G (.With a0 a1 a2)) h) (fun a0 a1 a2 (h : false = true) => ff (G (.AsyncWith a0 a1 a2)) h) (fun a0 a1 a2 (h : false = true) => ff (G (.Match a0 a1 a2)) h) (fun a0 a1 a2 (h : false = true) => ff (G (.Raise a0 a1 a2)) h) (fun a0 a1 a2 a3 a4 (h : false = true) => ff (G (.Try a0 a1 a2 a3 a4)) h) (fun a0 a1 a2 a3 a4 (h : false = true) => ff (G (.TryStar a0 a1 a2 a3 a4)) h) (fun a0 a1 a2 (h : false = true) => ff (G (.Assert a0 a1 a2)) h) (fun a0 a1 (h : false = true) => ff (G (.Import a0 a1)) h) (fun a0 a1 a2 a3 (h : false = true) => ff (G (.ImportFrom a0 a1 a2 a3)) h) (fun a0 a1 (h : false = true) => ff (G (.Global a0 a1)) h) (fun a0 a1 (h : false = true) => ff (G (.Nonlocal a0 a1)) h) (fun a0 a1 (h : false = true) => ff (G (.Expr a0 a1)) h) (fun a0 (h : false = true) => ff (G (.Pass a0)) h) (fun a0 (h : false = true) => ff (G (.Break a0)) h) (fun a0 (h : false = true) => ff (G (.Continue a0)) h) h
noncomputable def atAssign (x : PySem.Stmt) (k : (List PySem.Expr) → PySem.Expr → Pos → Bool) : Bool := @PySem.Stmt.casesOn (fun _ => Bool) x (fun _ _ _ _ _ _ _ _ _ _ => false) (fun _ _ _ _ _ _ _ _ _ _ => false) (fun _ _ _ _ _ _ _ _ _ _ _ => false) (fun _ _ => false) (fun _ _ => false) k (fun _ _ _ _ _ _ _ => false) (fun _ _ _ _ => false) (fun _ _ _ _ _ => false) (fun _ _ _ _ _ => false) (fun _ _ _ _ _ => false) (fun _ _ _ _ => false) (fun _ _ _ _ => false) (fun _ _ _ => false) (fun _ _ _ => false) (fun _ _ _ => false) (fun _ _ _ => false) (fun _ _ _ _ _ => false) (fun _ _ _ _ _ => false) (fun _ _ _ => false) (fun _ _ => false) (fun _ _ _ _ => false) (fun _ _ => false) (fun _ _ => false) (fun _ _ => false) (fun _ => false) (fun _ => false) (fun _ => false)
@[elab_as_elim] theorem atAssignK {x : PySem.Stmt} {G : PySem.Stmt → Prop} {k : (List PySem.Expr) → PySem.Expr → Pos → Bool} (h : atAssign x k = true) (g : ∀ a0 a1 a2, k a0 a1 a2 = true → G (.Assign a0 a1 a2)) : G x :=
  @PySem.Stmt.casesOn (fun x => atAssign x k = true → G x) x (fun a0 a1 a2 a3 a4 a5 a6 a7 a8 a9 (h : false = true) => ff (G (.FunctionDef a0 a1 a2 a3 a4 a5 a6 a7 a8 a9)) h) (fun a0 a1 a2 a3 a4 a5 a6 a7 a8 a9 (h : false = true) => ff (G (.AsyncFunctionDef a0 a1 a2 a3 a4 a5 a6 a7 a8 a9)) h) (fun a0 a1 a2 a3 a4 a5 a6 a7 a8 a9 a10 (h : false = true) => ff (G (.ClassDef a0 a1 a2 a3 a4 a5 a6 a7 a8 a9 a10)) h) (fun a0 a1 (h : false = true) => ff (G (.Return a0 a1)) h) (fun a0 a1 (h : false = true) => ff (G (.Delete a0 a1)) h) g (fun a0 a1 a2 a3 a4 a5 a6 (h : false = true) => ff (G (.TypeAlias a0 a1 a2 a3 a4 a5 a6)) h) (fun a0 a1 a2 a3 (h : false = true) => ff (G (.AugAssign a0 a1 a2 a3)) h) (fun a0 a1 a2 a3 a4 (h : false = true) => ff (G (.AnnAssign a0 a1 a2 a3 a4)) h) (fun a0 a1 a2 a3 a4 (h : false = true) => ff (G (.For a0 a1 a2 a3 a4)) h) (fun a0 a1 a2 a3 a4 (h : false = true) => ff (G (.AsyncFor a0 a1 a2 a3 a4)) h) (fun a0 a1 a2 a3 (h : false = true) => ff (G (.While a0 a1 a2 a3)) h) (fun a0 a1 a2 a3 (h : false = true) => ff (G (.If a0 a1 a2 a3)) h) (fun a0 a1 a2 (h : false = true) => ff (G (.With a0 a1 a2)) h) (fun a0 a1 a2 (h : false = true) => ff (G (.AsyncWith a0 a1 a2)) h) (fun a0 a1 a2 (h : false = true) => ff (G (.Match a0 a1 a2)) h) (fun a0 a1 a2 (h : false = true) => ff (G (.Raise a0 a1 a2)) h) (fun a0 a1 a2 a3 a4 (h : false = true) => ff (G (.Try a0 a1 a2 a3 a4)) h) (fun a0 a1 a2 a3 a4 (h : false = true) => ff (G (.TryStar a0 a1 a2 a3 a4)) h) (fun a0 a1 a2 (h : false = true) => ff (G (.Assert a0 a1 a2)) h) (fun a0 a1 (h : false = true) => ff (G (.Import a0 a1)) h) (fun a0 a1 a2 a3 (h : false = true) => ff (G (.ImportFrom a0 a1 a2 a3)) h) (fun a0 a1 (h : false = true) => ff (G (.Global a0 a1)) h) (fun a0 a1 (h : false = true) => ff (G (.Nonlocal a0 a1)) h) (fun a0 a1 (h : false = true) => ff (G (.Expr a0 a1)) h) (fun a0 (h : false = true) => ff (G (.Pass a0)) h) (fun a0 (h : false = true) => ff (G (.Break a0)) h) (fun a0 (h : false = true) => ff (G (.Continue a0)) h) h
noncomputable def atAugAssign (x : PySem.Stmt) (k : PySem.Expr → Operator → PySem.Expr → Pos → Bool) : Bool := @PySem.Stmt.casesOn (fun _ => Bool) x (fun _ _ _ _ _ _ _ _ _ _ => false) (fun _ _ _ _ _ _ _ _ _ _ => false) (fun _ _ _ _ _ _ _ _ _ _ _ => false) (fun _ _ => false) (fun _ _ => false) (fun _ _ _ => false) (fun _ _ _ _ _ _ _ => false) k (fun _ _ _ _ _ => false) (fun _ _ _ _ _ => false) (fun _ _ _ _ _ => false) (fun _ _ _ _ => false) (fun _ _ _ _ => false) (fun _ _ _ => false) (fun _ _ _ => false) (fun _ _ _ => false) (fun _ _ _ => false) (fun _ _ _ _ _ => false) (fun _ _ _ _ _ => false) (fun _ _ _ => false) (fun _ _ => false) (fun _ _ _ _ => false) (fun _ _ => false) (fun _ _ => false) (fun _ _ => false) (fun _ => false) (fun _ => false) (fun _ => false)
@[elab_as_elim] theorem atAugAssignK {x : PySem.Stmt} {G : PySem.Stmt → Prop} {k : PySem.Expr → Operator → PySem.Expr → Pos → Bool} (h : atAugAssign x k = true) (g : ∀ a0 a1 a2 a3, k a0 a1 a2 a3 = true → G (.AugAssign a0 a1 a2 a3)) : G x :=
  @PySem.Stmt.casesOn (fun x => atAugAssign x k = true → G x) x (fun a0 a1 a2 a3 a4 a5 a6 a7 a8 a9 (h : false = true) => ff (G (.FunctionDef a0 a1 a2 a3 a4 a5 a6 a7 a8 a9)) h) (fun a0 a1 a2 a3 a4 a5 a6 a7 a8 a9 (h : false = true) => ff (G (.AsyncFunctionDef a0 a1 a2 a3 a4 a5 a6 a7 a8 a9)) h) (fun a0 a1 a2 a3 a4 a5 a6 a7 a8 a9 a10 (h : false = true) => ff (G (.ClassDef a0 a1 a2 a3 a4 a5 a6 a7 a8 a9 a10)) h) (fun a0 a1 (h : false = true) => ff (G (.Return a0 a1)) h) (fun a0 a1 (h : false = true) => ff (G (.Delete a0 a1)) h) (fun a0 a1 a2 (h : false = true) => ff (G (.Assign a0 a1 a2)) h) (fun a0 a1 a2 a3 a4 a5 a6 (h : false = true) => ff (G (.TypeAlias a0 a1 a2 a3 a4 a5 a6)) h) g (fun a0 a1 a2 a3 a4 (h : false = true) => ff (G (.AnnAssign a0 a1 a2 a3 a4)) h) (fun a0 a1 a2 a3 a4 (h : false = true) => ff (G (.For a0 a1 a2 a3 a4)) h) (fun a0 a1 a2 a3 a4 (h : false = true) => ff (G (.AsyncFor a0 a1 a2 a3 a4)) h) (fun a0 a1 a2 a3 (h : false = true) => ff (G (.While a0 a1 a2 a3)) h) (fun a0 a1 a2 a3 (h : false = true) => ff (G (.If a0 a1 a2 a3)) h) (fun a0 a1 a2 (h : false = true) => ff (G (.With a0 a1 a2)) h) (fun a0 a1 a2 (h : false = true) => ff (G (.AsyncWith a0 a1 a2)) h) (fun a0 a1 a2 (h : false = true) => ff (G (.Match a0 a1 a2)) h) (fun a0 a1 a2 (h : false = true) => ff (G (.Raise a0 a1 a2)) h) (fun a0 a1 a2 a3 a4 (h : false = true) => ff (G (.Try a0 a1 a2 a3 a4)) h) (fun a0 a1 a2 a3 a4 (h : false = true) => ff (G (.TryStar a0 a1 a2 a3 a4)) h) (fun a0 a1 a2 (h : false = true) => ff (G (.Assert a0 a1 a2)) h) (fun a0 a1 (h : false = true) => ff (G (.Import a0 a1)) h) (fun a0 a1 a2 a3 (h : false = true) => ff (G (.ImportFrom a0 a1 a2 a3)) h) (fun a0 a1 (h : false = true) => ff (G (.Global a0 a1)) h) (fun a0 a1 (h : false = true) => ff (G (.Nonlocal a0 a1)) h) (fun a0 a1 (h : false = true) => ff (G (.Expr a0 a1)) h) (fun a0 (h : false = true) => ff (G (.Pass a0)) h) (fun a0 (h : false = true) => ff (G (.Break a0)) h) (fun a0 (h : false = true) => ff (G (.Continue a0)) h) h
noncomputable def atFor (x : PySem.Stmt) (k : PySem.Expr → PySem.Expr → (List PySem.Stmt) → (List PySem.Stmt) → Pos → Bool) : Bool := @PySem.Stmt.casesOn (fun _ => Bool) x (fun _ _ _ _ _ _ _ _ _ _ => false) (fun _ _ _ _ _ _ _ _ _ _ => false) (fun _ _ _ _ _ _ _ _ _ _ _ => false) (fun _ _ => false) (fun _ _ => false) (fun _ _ _ => false) (fun _ _ _ _ _ _ _ => false) (fun _ _ _ _ => false) (fun _ _ _ _ _ => false) k (fun _ _ _ _ _ => false) (fun _ _ _ _ => false) (fun _ _ _ _ => false) (fun _ _ _ => false) (fun _ _ _ => false) (fun _ _ _ => false) (fun _ _ _ => false) (fun _ _ _ _ _ => false) (fun _ _ _ _ _ => false) (fun _ _ _ => false) (fun _ _ => false) (fun _ _ _ _ => false) (fun _ _ => false) (fun _ _ => false) (fun _ _ => false) (fun _ => false) (fun _ => false) (fun _ => false)
@[elab_as_elim] theorem atForK {x : PySem.Stmt} {G : PySem.Stmt → Prop} {k : PySem.Expr → PySem.Expr → (List PySem.Stmt) → (List PySem.Stmt) → Pos → Bool} (h : atFor x k = true) (g : ∀ a0 a1 a2 a3 a4, k a0 a1 a2 a3 a4 = true → G (.For a0 a1 a2 a3 a4)) : G x :=
  @PySem.Stmt.casesOn (fun x => atFor x k = true → G x) x (fun a0 a1 a2 a3 a4 a5 a6 a7 a8 a9 (h : false = true) => ff (G (.FunctionDef a0 a1 a2 a3 a4 a5 a6 a7 a8 a9)) h) (fun a0 a1 a2 a3 a4 a5 a6 a7 a8 a9 (h : false = true) => ff (G (.AsyncFunctionDef a0 a1 a2 a3 a4 a5 a6 a7 a8 a9)) h) (fun a0 a1 a2 a3 a4 a5 a6 a7 a8 a9 a10 (h : false = true) => ff (G (.ClassDef a0 a1 a2 a3 a4 a5 a6 a7 a8 a9 a10)) h) (fun a0 a1 (h : false = true) => ff (G (.Return a0 a1)) h) (fun a0 a1 (h : false = true) => ff (G (.Delete a0 a1)) h) (fun a0 a1 a2 (h : false = true) => ff (G (.Assign a0 a1 a2)) h) (fun a0 a1 a2 a3 a4 a5 a6 (h : false = true) => ff (G (.TypeAlias a0 a1 a2 a3 a4 a5 a6)) h) (fun a0 a1 a2 a3 (h : false = true) => ff (G (.AugAssign a0 a1 a2 a3)) h) (fun a0 a1 a2 a3 a4 (h : false = true) => ff (G (.AnnAssign a0 a1 a2 a3 a4)) h) g (fun a0 a1 a2 a3 a4 (h : false = true) => ff (G (.AsyncFor a0 a1 a2 a3 a4)) h) (fun a0 a1 a2 a3 (h : false = true) => ff (G (.While a0 a1 a2 a3)) h) (fun a0 a1 a2 a3 (h : false = true) => ff (G (.If a0 a1 a2 a3)) h) (fun a0 a1 a2 (h : false = true) => ff (G (.With a0 a1 a2)) h) (fun a0 a1 a2 (h : false = true) => ff (G (.AsyncWith a0 a1 a2)) h) (fun a0 a1 a2 (h : false = true) => ff (G (.Match a0 a1 a2)) h) (fun a0 a1 a2 (h : false = true) => ff (G (.Raise a0 a1 a2)) h) (fun a0 a1 a2 a3 a4 (h : false = true) => ff (G (.Try a0 a1 a2 a3 a4)) h) (fun a0 a1 a2 a3 a4 (h : false = true) => ff (G (.TryStar a0 a1 a2 a3 a4)) h) (fun a0 a1 a2 (h : false = true) => ff (G (.Assert a0 a1 a2)) h) (fun a0 a1 (h : false = true) => ff (G (.Import a0 a1)) h) (fun a0 a1 a2 a3 (h : false = true) => ff (G (.ImportFrom a0 a1 a2 a3)) h) (fun a0 a1 (h : false = true) => ff (G (.Global a0 a1)) h) (fun a0 a1 (h : false = true) => ff (G (.Nonlocal a0 a1)) h) (fun a0 a1 (h : false = true) => ff (G (.Expr a0 a1)) h) (fun a0 (h : false = true) => ff (G (.Pass a0)) h) (fun a0 (h : false = true) => ff (G (.Break a0)) h) (fun a0 (h : false = true) => ff (G (.Continue a0)) h) h
noncomputable def atIf (x : PySem.Stmt) (k : PySem.Expr → (List PySem.Stmt) → (List PySem.Stmt) → Pos → Bool) : Bool := @PySem.Stmt.casesOn (fun _ => Bool) x (fun _ _ _ _ _ _ _ _ _ _ => false) (fun _ _ _ _ _ _ _ _ _ _ => false) (fun _ _ _ _ _ _ _ _ _ _ _ => false) (fun _ _ => false) (fun _ _ => false) (fun _ _ _ => false) (fun _ _ _ _ _ _ _ => false) (fun _ _ _ _ => false) (fun _ _ _ _ _ => false) (fun _ _ _ _ _ => false) (fun _ _ _ _ _ => false) (fun _ _ _ _ => false) k (fun _ _ _ => false) (fun _ _ _ => false) (fun _ _ _ => false) (fun _ _ _ => false) (fun _ _ _ _ _ => false) (fun _ _ _ _ _ => false) (fun _ _ _ => false) (fun _ _ => false) (fun _ _ _ _ => false) (fun _ _ => false) (fun _ _ => false) (fun _ _ => false) (fun _ => false) (fun _ => false) (fun _ => false)
@[elab_as_elim] theorem atIfK {x : PySem.Stmt} {G : PySem.Stmt → Prop} {k : PySem.Expr → (List PySem.Stmt) → (List PySem.Stmt) → Pos → Bool} (h : atIf x k = true) (g : ∀ a0 a1 a2 a3, k a0 a1 a2 a3 = true → G (.If a0 a1 a2 a3)) : G x :=
  @PySem.Stmt.casesOn (fun x => atIf x k = true → G x) x (fun a0 a1 a2 a3 a4 a5 a6 a7 a8 a9 (h : false = true) => ff (G (.FunctionDef a0 a1 a2 a3 a4 a5 a6 a7 a8 a9)) h) (fun a0 a1 a2 a3 a4 a5 a6 a7 a8 a9 (h : false = true) => ff (G (.AsyncFunctionDef a0 a1 a2 a3 a4 a5 a6 a7 a8 a9)) h) (fun a0 a1 a2 a3 a4 a5 a6 a7 a8 a9 a10 (h : false = true) => ff (G (.ClassDef a0 a1 a2 a3 a4 a5 a6 a7 a8 a9 a10)) h) (fun a0 a1 (h : false = true) => ff (G (.Return a0 a1)) h) (fun a0 a1 (h : false = true) => ff (G (.Delete a0 a1)) h) (fun a0 a1 a2 (h : false = true) => ff (G (.Assign a0 a1 a2)) h) (fun a0 a1 a2 a3 a4 a5 a6 (h : false = true) => ff (G (.TypeAlias a0 a1 a2 a3 a4 a5 a6)) h) (fun a0 a1 a2 a3 (h : false = true) => ff (G (.AugAssign a0 a1 a2 a3)) h) (fun a0 a1 a2 a3 a4 (h : false = true) => ff (G (.AnnAssign a0 a1 a2 a3 a4)) h) (fun a0 a1 a2 a3 a4 (h : false = true) => ff (G (.For a0 a1 a2 a3 a4)) h) (fun a0 a1 a2 a3 a4 (h : false = true) => ff (G (.AsyncFor a0 a1 a2 a3 a4)) h) (fun a0 a1 a2 a3 (h : false = true) => ff (G (.While a0 a1 a2 a3)) h) g (fun a0 a1 a2 (h : false = true) => ff (G (.With a0 a1 a2)) h) (fun a0 a1 a2 (h : false = true) => ff (G (.AsyncWith a0 a1 a2)) h) (fun a0 a1 a2 (h : false = true) => ff (G (.Match a0 a1 a2)) h) (fun a0 a1 a2 (h : false = true) => ff (G (.Raise a0 a1 a2)) h) (fun a0 a1 a2 a3 a4 (h : false = true) => ff (G (.Try a0 a1 a2 a3 a4)) h) (fun a0 a1 a2 a3 a4 (h : false = true) => ff (G (.TryStar a0 a1 a2 a3 a4)) h) (fun a0 a1 a2 (h : false = true) => ff (G (.Assert a0 a1 a2)) h) (fun a0 a1 (h : false = true) => ff (G (.Import a0 a1)) h) (fun a0 a1 a2 a3 (h : false = true) => ff (G (.ImportFrom a0 a1 a2 a3)) h) (fun a0 a1 (h : false = true) => ff (G (.Global a0 a1)) h) (fun a0 a1 (h : false = true) => ff (G (.Nonlocal a0 a1)) h) (fun a0 a1 (h : false = true) => ff (G (.Expr a0 a1)) h) (fun a0 (h : false = true) => ff (G (.Pass a0)) h) (fun a0 (h : false = true) => ff (G (.Break a0)) h) (fun a0 (h : false = true) => ff (G (.Continue a0)) h) h
noncomputable def atExpr (x : PySem.Stmt) (k : PySem.Expr → Pos → Bool) : Bool := @PySem.Stmt.casesOn (fun _ => Bool) x (fun _ _ _ _ _ _ _ _ _ _ => false) (fun _ _ _ _ _ _ _ _ _ _ => false) (fun _ _ _ _ _ _ _ _ _ _ _ => false) (fun _ _ => false) (fun _ _ => false) (fun _ _ _ => false) (fun _ _ _ _ _ _ _ => false) (fun _ _ _ _ => false) (fun _ _ _ _ _ => false) (fun _ _ _ _ _ => false) (fun _ _ _ _ _ => false) (fun _ _ _ _ => false) (fun _ _ _ _ => false) (fun _ _ _ => false) (fun _ _ _ => false) (fun _ _ _ => false) (fun _ _ _ => false) (fun _ _ _ _ _ => false) (fun _ _ _ _ _ => false) (fun _ _ _ => false) (fun _ _ => false) (fun _ _ _ _ => false) (fun _ _ => false) (fun _ _ => false) k (fun _ => false) (fun _ => false) (fun _ => false)
@[elab_as_elim] theorem atExprK {x : PySem.Stmt} {G : PySem.Stmt → Prop} {k : PySem.Expr → Pos → Bool} (h : atExpr x k = true) (g : ∀ a0 a1, k a0 a1 = true → G (.Expr a0 a1)) : G x :=
  @PySem.Stmt.casesOn (fun x => atExpr x k = true → G x) x (fun a0 a1 a2 a3 a4 a5 a6 a7 a8 a9 (h : false = true) => ff (G (.FunctionDef a0 a1 a2 a3 a4 a5 a6 a7 a8 a9)) h) (fun a0 a1 a2 a3 a4 a5 a6 a7 a8 a9 (h : false = true) => ff (G (.AsyncFunctionDef a0 a1 a2 a3 a4 a5 a6 a7 a8 a9)) h) (fun a0 a1 a2 a3 a4 a5 a6 a7 a8 a9 a10 (h : false = true) => ff (G (.ClassDef a0 a1 a2 a3 a4 a5 a6 a7 a8 a9 a10)) h) (fun a0 a1 (h : false = true) => ff (G (.Return a0 a1)) h) (fun a0 a1 (h : false = true) => ff (G (.Delete a0 a1)) h) (fun a0 a1 a2 (h : false = true) => ff (G (.Assign a0 a1 a2)) h) (fun a0 a1 a2 a3 a4 a5 a6 (h : false = true) => ff (G (.TypeAlias a0 a1 a2 a3 a4 a5 a6)) h) (fun a0 a1 a2 a3 (h : false = true) => ff (G (.AugAssign a0 a1 a2 a3)) h) (fun a0 a1 a2 a3 a4 (h : false = true) => ff (G (.AnnAssign a0 a1 a2 a3 a4)) h) (fun a0 a1 a2 a3 a4 (h : false = true) => ff (G (.For a0 a1 a2 a3 a4)) h) (fun a0 a1 a2 a3 a4 (h : false = true) => ff (G (.AsyncFor a0 a1 a2 a3 a4)) h) (fun a0 a1 a2 a3 (h : false = true) => ff (G (.While a0 a1 a2 a3)) h) (fun a0 a1 a2 a3 (h : false = true) => ff (G (.If a0 a1 a2 a3)) h) (fun a0 a1 a2 (h : false = true) => ff (G (.With a0 a1 a2)) h) (fun a0 a1 a2 (h : false = true) => ff (G (.AsyncWith a0 a1 a2)) h) (fun a0 a1 a2 (h : false = true) => ff (G (.Match a0 a1 a2)) h) (fun a0 a1 a2 (h : false = true) => ff (G (.Raise a0 a1 a2)) h) (fun a0 a1 a2 a3 a4 (h : false = true) => ff (G (.Try a0 a1 a2 a3 a4)) h) (fun a0 a1 a2 a3 a4 (h : false = true) => ff (G (.TryStar a0 a1 a2 a3 a4)) h) (fun a0 a1 a2 (h : false = true) => ff (G (.Assert a0 a1 a2)) h) (fun a0 a1 (h : false = true) => ff (G (.Import a0 a1)) h) (fun a0 a1 a2 a3 (h : false = true) => ff (G (.ImportFrom a0 a1 a2 a3)) h) (fun a0 a1 (h : false = true) => ff (G (.Global a0 a1)) h) (fun a0 a1 (h : false = true) => ff (G (.Nonlocal a0 a1)) h) g (fun a0 (h : false = true) => ff (G (.Pass a0)) h) (fun a0 (h : false = true) => ff (G (.Break a0)) h) (fun a0 (h : false = true) => ff (G (.Continue a0)) h) h
noncomputable def atBreak (x : PySem.Stmt) (k : Pos → Bool) : Bool := @PySem.Stmt.casesOn (fun _ => Bool) x (fun _ _ _ _ _ _ _ _ _ _ => false) (fun _ _ _ _ _ _ _ _ _ _ => false) (fun _ _ _ _ _ _ _ _ _ _ _ => false) (fun _ _ => false) (fun _ _ => false) (fun _ _ _ => false) (fun _ _ _ _ _ _ _ => false) (fun _ _ _ _ => false) (fun _ _ _ _ _ => false) (fun _ _ _ _ _ => false) (fun _ _ _ _ _ => false) (fun _ _ _ _ => false) (fun _ _ _ _ => false) (fun _ _ _ => false) (fun _ _ _ => false) (fun _ _ _ => false) (fun _ _ _ => false) (fun _ _ _ _ _ => false) (fun _ _ _ _ _ => false) (fun _ _ _ => false) (fun _ _ => false) (fun _ _ _ _ => false) (fun _ _ => false) (fun _ _ => false) (fun _ _ => false) (fun _ => false) k (fun _ => false)
@[elab_as_elim] theorem atBreakK {x : PySem.Stmt} {G : PySem.Stmt → Prop} {k : Pos → Bool} (h : atBreak x k = true) (g : ∀ a0, k a0 = true → G (.Break a0)) : G x :=
  @PySem.Stmt.casesOn (fun x => atBreak x k = true → G x) x (fun a0 a1 a2 a3 a4 a5 a6 a7 a8 a9 (h : false = true) => ff (G (.FunctionDef a0 a1 a2 a3 a4 a5 a6 a7 a8 a9)) h) (fun a0 a1 a2 a3 a4 a5 a6 a7 a8 a9 (h : false = true) => ff (G (.AsyncFunctionDef a0 a1 a2 a3 a4 a5 a6 a7 a8 a9)) h) (fun a0 a1 a2 a3 a4 a5 a6 a7 a8 a9 a10 (h : false = true) => ff (G (.ClassDef a0 a1 a2 a3 a4 a5 a6 a7 a8 a9 a10)) h) (fun a0 a1 (h : false = true) => ff (G (.Return a0 a1)) h) (fun a0 a1 (h : false = true) => ff (G (.Delete a0 a1)) h) (fun a0 a1 a2 (h : false = true) => ff (G (.Assign a0 a1 a2)) h) (fun a0 a1 a2 a3 a4 a5 a6 (h : false = true) => ff (G (.TypeAlias a0 a1 a2 a3 a4 a5 a6)) h) (fun a0 a1 a2 a3 (h : false = true) => ff (G (.AugAssign a0 a1 a2 a3)) h) (fun a0 a1 a2 a3 a4 (h : false = true) => ff (G (.AnnAssign a0 a1 a2 a3 a4)) h) (fun a0 a1 a2 a3 a4 (h : false = true) => ff (G (.For a0 a1 a2 a3 a4)) h) (fun a0 a1 a2 a3 a4 (h : false = true) => ff (G (.AsyncFor a0 a1 a2 a3 a4)) h) (fun a0 a1 a2 a3 (h : false = true) => ff (G (.While a0 a1 a2 a3)) h) (fun a0 a1 a2 a3 (h : false = true) => ff (G (.If a0 a1 a2 a3)) h) (fun a0 a1 a2 (h : false = true) => ff (G (.With a0 a1 a2)) h) (fun a0 a1 a2 (h : false = true) => ff (G (.AsyncWith a0 a1 a2)) h) (fun a0 a1 a2 (h : false = true) => ff (G (.Match a0 a1 a2)) h) (fun a0 a1 a2 (h : false = true) => ff (G (.Raise a0 a1 a2)) h) (fun a0 a1 a2 a3 a4 (h : false = true) => ff (G (.Try a0 a1 a2 a3 a4)) h) (fun a0 a1 a2 a3 a4 (h : false = true) => ff (G (.TryStar a0 a1 a2 a3 a4)) h) (fun a0 a1 a2 (h : false = true) => ff (G (.Assert a0 a1 a2)) h) (fun a0 a1 (h : false = true) => ff (G (.Import a0 a1)) h) (fun a0 a1 a2 a3 (h : false = true) => ff (G (.ImportFrom a0 a1 a2 a3)) h) (fun a0 a1 (h : false = true) => ff (G (.Global a0 a1)) h) (fun a0 a1 (h : false = true) => ff (G (.Nonlocal a0 a1)) h) (fun a0 a1 (h : false = true) => ff (G (.Expr a0 a1)) h) (fun a0 (h : false = true) => ff (G (.Pass a0)) h) g (fun a0 (h : false = true) => ff (G (.Continue a0)) h) h
inductive RNs (nt : NT) : List X → List PySem.Expr → Prop where
  | nil : RNs nt [] []
  | cons {x n p xs es} : RS nt x n → RNs nt xs es → RNs nt (x :: xs) (.Name n p :: es)
inductive RTg (nt : NT) : List X → Bool → PySem.Expr → Prop where
  | one {x n p} : RS nt x n → RTg nt [x] false (.Name n p)
  | tup {xs es k p} : RNs nt xs es → RTg nt xs true (.Tuple es k p)
noncomputable def cNs (nt : NT) : List X → List PySem.Expr → Bool
  | [], es => es.isEmpty
  | x :: xs, es => match es with
    | [] => false
    | e :: es => asName e (fun n _ => rsB nt x n) && cNs nt xs es
theorem ns_of {nt : NT} : ∀ {xs : List X} {es : List PySem.Expr}, cNs nt xs es = true → RNs nt xs es := by
  intro xs
  induction xs with
  | nil => exact fun h => l0K h .nil
  | cons x xs ih =>
    intro es h
    cases es with
    | nil => exact ff _ h
    | cons e es => exact asNameK (x := e) (al h) fun n p k => .cons (rs_of k) (ih (ar h))
noncomputable def cTg (nt : NT) (xs : List X) (tupl : Bool) (x : PySem.Expr) : Bool := match tupl with
  | false => l1 xs fun y => asName x fun n _ => rsB nt y n
  | true => asTuple x fun es _ _ => cNs nt xs es
theorem tg_of {nt : NT} {xs : List X} {tupl : Bool} {x : PySem.Expr} (h : cTg nt xs tupl x = true) : RTg nt xs tupl x := by
  cases tupl with
  | false => exact l1K h fun y h => asNameK h fun n p h => .one (rs_of h)
  | true => exact asTupleK h fun es k p h => .tup (ns_of h)
noncomputable def isIt (k : IK) : Bool := match k with
  | .items => true
  | _ => false
noncomputable abbrev cX : Ck := (chk 60).1
noncomputable def twoOk (n1 n2 : Str) (p1 p2 : Pos) : Bool := p2.line == p1.line && !(n2 == n1)
noncomputable def cTs (ct : NT → T → PySem.Stmt → Bool) (nt : NT) : List T → List PySem.Stmt → Bool
  | [], xs => xs.isEmpty
  | t :: ts, xs => match xs with
    | [] => false
    | x :: xs => ct nt t x && cTs ct nt ts xs
/-- an assignment to one target -/
noncomputable def cA1 (st : PySem.Stmt) (k : PySem.Expr → PySem.Expr → Bool) : Bool := atAssign st fun tg v _ => l1 tg fun y => k y v
@[elab_as_elim] theorem cA1K {st : PySem.Stmt} {G : PySem.Stmt → Prop} {k : PySem.Expr → PySem.Expr → Bool} (h : cA1 st k = true) (g : ∀ y v p, k y v = true → G (.Assign [y] v p)) : G st := atAssignK h fun _ v p h => l1K h fun y h => g y v p h
noncomputable def cT (ts : NT → List T → List PySem.Stmt → Bool) (nt : NT) (t : T) (st : PySem.Stmt) : Bool := match t with
  | .asg x e => cA1 st fun y v => asName y fun n _ => rsB nt x n && cX nt e v
  | .asgs xs e => l3 xs fun x y z => atAssign st fun tg v _ => l3 tg fun a b c => asName a fun n1 _ => asName b fun n2 _ => asName c fun n3 _ => rsB nt x n1 && (rsB nt y n2 && (rsB nt z n3 && cX nt e v))
  | .two x y a b => match x with
    | .cel _ => false
    | .loc x => match y with
      | .cel _ => false
      | .loc y => cA1 st fun tg v => asTuple tg fun ns _ _ => l2 ns fun m1 m2 => asName m1 fun n1 p1 => asName m2 fun n2 p2 => asTuple v fun vs _ _ => l2 vs fun l r => asAttribute l fun l a1 q1 => asAttribute r fun r a2 q2 =>
        twoOk n1 n2 p1 p2 && (rsB nt (.loc x) n1 && (rsB nt (.loc y) n2 && (cX nt a (.Attribute l a1 q1) && cX nt b (.Attribute r a2 q2))))
  | .unp xs e => cA1 st fun y v => asTuple y fun es _ _ => cNs nt xs es && (cX nt e v && notTuple v)
  | .sets o i e => cA1 st fun y v => asSubscript y fun ov iv _ => plainIdx iv && (cX nt o ov && (cX nt i iv && cX nt e v))
  | .aug x o e => atAugAssign st fun tg op v _ => op == o.op && asName tg fun n _ => rsB nt x n && cX nt e v
  | .augs o i bo e => atAugAssign st fun tg op v _ => op == bo.op && asSubscript tg fun ov iv _ => plainIdx iv && (cX nt o ov && (cX nt i iv && cX nt e v))
  | .seta a o e => cA1 st fun y v => asAttribute y fun ov n _ => attNms[a]? == some n && (cX nt o ov && cX nt e v)
  | .ite t b o => atIf st fun te bs os _ => (chk 60).2 nt t te && (ts nt b bs && ts nt o os)
  | .for1 xs tupl k ia b => atFor st fun tg it bs os _ => os.isEmpty && (cTg nt xs tupl tg && ((!isIt k || tupl) && (cI cX nt k ia it && ts nt b bs)))
  | .brk => atBreak st fun _ => true
  | .ret e => atReturn st fun v _ => match v with
    | none => false
    | some v => cX nt e v
  | .exp e => atExpr st fun v _ => cX nt e v && notComp v
  | .dead => true
noncomputable def chkT : Nat → NT → T → PySem.Stmt → Bool
  | 0 => fun _ _ _ => false
  | n + 1 => cT (cTs (chkT n))
def RT (nt : NT) (t : T) (st : PySem.Stmt) : Prop := ∃ n, chkT n nt t st = true
inductive RTs (nt : NT) : List T → List PySem.Stmt → Prop where
  | nil : RTs nt [] []
  | cons {t st ts sts} : RT nt t st → RTs nt ts sts → RTs nt (t :: ts) (st :: sts)
theorem ts_of {nt : NT} {n : Nat} : ∀ {ts : List T} {xs : List PySem.Stmt}, cTs (chkT n) nt ts xs = true → RTs nt ts xs := by
  intro ts
  induction ts with
  | nil => exact fun h => l0K h .nil
  | cons t ts ih =>
    intro xs h
    cases xs with
    | nil => exact ff _ h
    | cons x xs => exact .cons ⟨n, al h⟩ (ih (ar h))
inductive RTv (nt : NT) : T → PySem.Stmt → Prop where
  | asg {x e n p value pos} : RS nt x n → RE nt e value → RTv nt (.asg x e) (.Assign [.Name n p] value pos)
  | asgs {x y z e n1 n2 n3 p1 p2 p3 value pos} : RS nt x n1 → RS nt y n2 → RS nt z n3 → RE nt e value → RTv nt (.asgs [x, y, z] e) (.Assign [.Name n1 p1, .Name n2 p2, .Name n3 p3] value pos)
  | two {x y a b n1 n2 p1 p2 k1 q1 l r k2 q2 pos a1 a2 z1 z2} : twoOk n1 n2 p1 p2 = true → RS nt (.loc x) n1 → RS nt (.loc y) n2 → RE nt a (.Attribute l a1 z1) → RE nt b (.Attribute r a2 z2) →
      RTv nt (.two (.loc x) (.loc y) a b) (.Assign [.Tuple [.Name n1 p1, .Name n2 p2] k1 q1] (.Tuple [.Attribute l a1 z1, .Attribute r a2 z2] k2 q2) pos)
  | unp {xs e es k p value pos} : RNs nt xs es → RE nt e value → notTuple value = true → RTv nt (.unp xs e) (.Assign [.Tuple es k p] value pos)
  | sets {o i e ov iv p value pos} : plainIdx iv = true → RE nt o ov → RE nt i iv → RE nt e value → RTv nt (.sets o i e) (.Assign [.Subscript ov iv p] value pos)
  | aug {x o e n p value pos} : RS nt x n → RE nt e value → RTv nt (.aug x o e) (.AugAssign (.Name n p) o.op value pos)
  | augs {o i bo e ov iv p value pos} : plainIdx iv = true → RE nt o ov → RE nt i iv → RE nt e value → RTv nt (.augs o i bo e) (.AugAssign (.Subscript ov iv p) bo.op value pos)
  | seta {a o e ov n p value pos} : attNms[a]? = some n → RE nt o ov → RE nt e value → RTv nt (.seta a o e) (.Assign [.Attribute ov n p] value pos)
  | ite {t b o te bs os pos} : RB nt t te → RTs nt b bs → RTs nt o os → RTv nt (.ite t b o) (.If te bs os pos)
  | for1 {xs tupl k ia b tg it bs pos} : RTg nt xs tupl tg → (k = .items → tupl = true) → RI nt k ia it → RTs nt b bs → RTv nt (.for1 xs tupl k ia b) (.For tg it bs [] pos)
  | brk {pos} : RTv nt .brk (.Break pos)
  | ret {e value pos} : RE nt e value → RTv nt (.ret e) (.Return (some value) pos)
  | exp {e value pos} : RE nt e value → notComp value = true → RTv nt (.exp e) (.Expr value pos)
noncomputable def isDead (t : T) : Bool := match t with
  | .dead => true
  | _ => false
theorem tview_of {nt : NT} {n : Nat} {t : T} {st : PySem.Stmt} (ht : isDead t = false) (h : cT (cTs (chkT n)) nt t st = true) : RTv nt t st := by
  cases t with
  | asg x e => exact cA1K h fun y v p h => asNameK (x := y) h fun n q h => .asg (rs_of (al h)) ⟨60, ar h⟩
  | asgs xs e => exact l3K h fun x y z h => atAssignK h fun tg v p h => l3K h fun a b c h => asNameK (x := a) h fun n1 q1 h => asNameK (x := b) h fun n2 q2 h => asNameK (x := c) h fun n3 q3 h => .asgs (rs_of (al h)) (rs_of (al (ar h))) (rs_of (al (ar (ar h)))) ⟨60, ar (ar (ar h))⟩
  | two x y a b =>
    cases x with
    | cel _ => exact ff _ h
    | loc x =>
      cases y with
      | cel _ => exact ff _ h
      | loc y => exact cA1K h fun tg v p h => asTupleK (x := tg) h fun ns k1 q1 h => l2K h fun m1 m2 h => asNameK (x := m1) h fun n1 p1 h => asNameK (x := m2) h fun n2 p2 h => asTupleK (x := v) h fun vs k2 q2 h => l2K h fun l r h => asAttributeK (x := l) h fun l a1 z1 h => asAttributeK (x := r) h fun r a2 z2 h => .two (al h) (rs_of (al (ar h))) (rs_of (al (ar (ar h)))) ⟨60, al (ar (ar (ar h)))⟩ ⟨60, ar (ar (ar (ar h)))⟩
  | unp xs e => exact cA1K h fun y v p h => asTupleK (x := y) h fun es k q h => .unp (ns_of (al h)) ⟨60, al (ar h)⟩ (ar (ar h))
  | sets o i e => exact cA1K h fun y v p h => asSubscriptK (x := y) h fun ov iv q h => .sets (al h) ⟨60, al (ar h)⟩ ⟨60, al (ar (ar h))⟩ ⟨60, ar (ar (ar h))⟩
  | aug x o e => exact atAugAssignK h fun tg op v p h => eqK (al h) (asNameK (x := tg) (ar h) fun n q h => .aug (rs_of (al h)) ⟨60, ar h⟩)
  | augs o i bo e => exact atAugAssignK h fun tg op v p h => eqK (al h) (asSubscriptK (x := tg) (ar h) fun ov iv q h => .augs (al h) ⟨60, al (ar h)⟩ ⟨60, al (ar (ar h))⟩ ⟨60, ar (ar (ar h))⟩)
  | seta a o e => exact cA1K h fun y v p h => asAttributeK (x := y) h fun ov n q h => .seta (be (al h)) ⟨60, al (ar h)⟩ ⟨60, ar (ar h)⟩
  | ite t b o => exact atIfK h fun te bs os p h => .ite ⟨60, al h⟩ (ts_of (al (ar h))) (ts_of (ar (ar h)))
  | for1 xs tupl k ia b => exact atForK h fun tg it bs os p h => l0K (al h) (.for1 (tg_of (al (ar h))) (fun e => by
      have k := al (ar (ar h))
      subst e
      exact k) (i_of (al (ar (ar (ar h))))) (ts_of (ar (ar (ar (ar h))))))
  | brk => exact atBreakK h fun p h => .brk
  | ret e =>
    refine atReturnK h fun v p h => ?_
    cases v with
    | none => exact ff _ h
    | some v => exact .ret ⟨60, h⟩
  | exp e => exact atExprK h fun v p h => .exp ⟨60, al h⟩ (ar h)
  | dead => exact ff _ ht.symm
end Mine
end
section
open PySem PySem.Calls PyProof.Rows PySem.W
namespace Mine
noncomputable def bltNms : List (Str × Value) := [(Str.ofString "len", .builtin "len"), (Str.ofString "max", .builtin "max"), (Str.ofString "sorted", .builtin "sorted"), (Str.ofString "isinstance", .builtin "isinstance"), (Str.ofString "hasattr", .builtin "hasattr"),
  (Str.ofString "set", .type "set"), (Str.ofString "tuple", .type "tuple"), (Str.ofString "range", .type "range"), (Str.ofString "int", .type "int"), (Str.ofString "bool", .type "bool")]
structure Glob (C : Cx) (mg mb : Str → Option Value) : Prop where
  g : C.h₀.Ns mainGlobals mg
  b : C.h₀.Ns builtinsNs mb
  fns : ∀ f n, fnNms[f]? = some n → (n == ("" : Str)) = false → mg n = some (.ref (C.fa f))
  cls : ∀ c n, clsNms[c]? = some n → mg n = some (.ref (C.ca c))
  blt : ∀ n v, (n, v) ∈ bltNms → mg n = none ∧ mb n = some v
structure EnvIs (φ : Phi) (d : Dsc) (nt : NT) (env : Env) : Prop where
  kind : env.scope.kind = .function
  loc : ∀ n, nt.names.lookup n = some .local → env.kindOf n = some .local
  cel : ∀ n, nt.names.lookup n = some .cell → env.kindOf n = some .cell
  free : ∀ n, nt.names.lookup n = some .free → env.kindOf n = some .free ∨ env.kindOf n = some .cell
  glob : ∀ n, nt.names.lookup n = some .globalImplicit → env.kindOf n = some .globalImplicit
  fr : φ[d.fr]? = some (env.locals, nt.loc)
  cells : ∀ (j : Nat) (n : Str), nt.cel[j]? = some n → ∃ (i : Nat) (a : Addr) (nm : List Str), d.cells[j]? = some i ∧ φ[i]? = some (a, nm) ∧ env.cells.lookup n = some a
  globals : env.globals = mainGlobals
  builtins : env.builtins = builtinsNs
theorem EnvIs.up {φ φ' : Phi} {d : Dsc} {nt : NT} {env : Env} (h : EnvIs φ d nt env) (k : φ <+: φ') : EnvIs φ' d nt env :=
  ⟨h.kind, h.loc, h.cel, h.free, h.glob, getElem?_of_prefix k h.fr, fun j n e => let ⟨i, a, nm, p, q, r⟩ := h.cells j n e; ⟨i, a, nm, p, getElem?_of_prefix k q, r⟩, h.globals, h.builtins⟩
section
variable {C : Cx} {P Z : PH} {φ : Phi} {σ σ' : List S} {s : Shared} {A : Around} {d : Dsc} {nt : NT} {env : Env}
theorem Rel.ns_base (r : Rel C P Z φ σ s) {a : Addr} {m : Str → Option Value} (h : C.h₀.Ns a m) : s.heap.Ns a m := h.keeps fun b o e => r.keep b o (r.base b o e)
theorem isCell_of {h : Heap} {a : Addr} {o : Obj} {v : Option Value} (ho : h.get? a = some o) (e : o.data = .cell v) : h.IsCell a v := ⟨o, ho, e⟩
theorem load_cell {j i : Nat} {a : Addr} {nm : List Str} {Q : V → Prop} (r : Rel C P Z φ σ s) (e1 : d.cells[j]? = some i) (e2 : φ[i]? = some (a, nm)) (h : ∀ y v, s.heap.IsCell a (some v) → DIs C P y v → Q (.d y)) : So (getX (.cel j) d σ) Q := by
  show So ((d.cells[j]?).bind fun n => (celA σ n).bind fun v => v.map V.d) Q
  rw [e1]
  refine So.step <| So.bind <| So.cel fun v hσ => ?_
  cases v with
  | none => exact So.nil
  | some y =>
    obtain ⟨_, _, o, ho, v, hd, hv⟩ := r.own _ _ _ _ e2 hσ
    exact So.just (h y v (isCell_of ho hd) hv)
theorem load_loc {i : Nat} {n : Str} (r : Rel C P Z φ σ s) (en : EnvIs φ d nt env) (h1 : nt.loc[i]? = some n) (h2 : nt.names.lookup n = some .local) :
    So (getX (.loc i) d σ) fun v => wpAny (model C.prog C.w) A (loadName env n) (Post C P Z φ (RV C v) σ) NoE s := by
  refine So.bind <| So.fr fun vs hσ => So.bind fun v hv w hw => ?_
  obtain ⟨_, _, o, ho, _, _, m, hns, hvs⟩ := r.own _ _ _ _ en.fr hσ
  obtain ⟨y, hy, hyv⟩ := hvs i n w h1 (hv.trans (congrArg some hw))
  exact wpAny_loadName_local en.kind (en.loc _ h2) (hns.ns ho) hy (post_pure r hyv)
theorem load_cel {j : Nat} {n : Str} (r : Rel C P Z φ σ s) (en : EnvIs φ d nt env) (h1 : nt.cel[j]? = some n) (h2 : nt.names.lookup n = some .cell) :
    So (getX (.cel j) d σ) fun v => wpAny (model C.prog C.w) A (loadName env n) (Post C P Z φ (RV C v) σ) NoE s := by
  obtain ⟨i, a, nm, e1, e2, e3⟩ := en.cells _ _ h1
  exact load_cell r e1 e2 fun y v hc hv => wpAny_loadName_cell en.kind (en.cel _ h2) e3 hc (post_pure r hv)
theorem RS.load_sn {x : X} {n : Str} (r : Rel C P Z φ σ s) (en : EnvIs φ d nt env) (rx : RS nt x n) :
    So (getX x d σ) fun v => wpAny (model C.prog C.w) A (loadName env n) (Post C P Z φ (RV C v) σ) NoE s := by
  cases rx with
  | loc h1 h2 => exact load_loc r en h1 h2
  | cel h1 h2 => exact load_cel r en h1 h2
theorem load_sn {x : X} {n : Str} (r : Rel C P Z φ σ s) (en : EnvIs φ d nt env) (rx : RX nt x n) :
    So (getX x d σ) fun v => wpAny (model C.prog C.w) A (loadName env n) (Post C P Z φ (RV C v) σ) NoE s := by
  cases rx with
  | loc h1 h2 h3 => exact load_loc r en h1 h2
  | cel h1 h2 h3 => exact load_cel r en h1 h2
  | free h1 h2 h3 h4 =>
    obtain ⟨i, a, nm, e1, e2, e3⟩ := en.cells _ _ h1
    refine load_cell r e1 e2 fun y v hc hv => ?_
    cases en.free _ h2 with
    | inl q => exact wpAny_loadName_free en.kind q e3 hc (post_pure r hv) h4
    | inr q => exact wpAny_loadName_cell en.kind q e3 hc (post_pure r hv)
theorem load_is {x : X} {n : Str} {v : V} (r : Rel C P Z φ σ s) (en : EnvIs φ d nt env) (rx : RX nt x n) (e : getX x d σ = some v) :
    wpAny (model C.prog C.w) A (loadName env n) (Post C P Z φ (RV C v) σ) NoE s := load_sn r en rx v e
theorem name_is {x : X} {n : Str} {v : V} {p : Pos} (r : Rel C P Z φ σ s) (en : EnvIs φ d nt env) (rx : RX nt x n) (e : getX x d σ = some v) :
    wpAny (model C.prog C.w) A (eval (.Name n p) env) (Post C P Z φ (RV C v) σ) NoE s := by
  refine wpAny_Name (load_is r en rx e) ?_
  cases rx <;> assumption
theorem glob_is {n : Str} {p : Pos} {v : Value} {mg mb : Str → Option Value} {Q : Value → Shared → Prop} (G : Glob C mg mb) (r : Rel C P Z φ σ s) (en : EnvIs φ d nt env) (rg : RG nt n) (h : mg n = some v ∨ (mg n = none ∧ mb n = some v)) (q : Q v s) :
    wpAny (model C.prog C.w) A (eval (.Name n p) env) Q NoE s := by
  refine Name_function_global en.kind (en.glob _ rg.1) ?_ rg.2
  rcases h with h | ⟨h1, h2⟩
  · exact loadGlobal_global (by rw [en.globals]; exact r.ns_base G.g) h q
  · exact loadGlobal_builtin (by rw [en.globals]; exact r.ns_base G.g) h1 (by rw [en.builtins]; exact r.ns_base G.b) h2 q
/-- a name stored: what comes of it, told exactly -/
theorem cell_at {i : Nat} {a : Addr} {nm : List Str} {z : Option D} (r : Rel C P Z φ σ s) (e2 : φ[i]? = some (a, nm)) (hσ : σ[i]? = some (.cell z)) : ∃ v0, s.heap.IsCell a v0 := by
  obtain ⟨_, _, o, ho, hx⟩ := r.own _ _ _ _ e2 hσ
  cases z with
  | none => obtain ⟨v0, hd⟩ := hx; exact ⟨v0, o, ho, hd⟩
  | some z => obtain ⟨v0, hd, _⟩ := hx; exact ⟨some v0, o, ho, hd⟩
theorem store_is {x : X} {n : Str} {v : V} {y : Value} {Q : Unit → Shared → Prop} (r : Rel C P Z φ σ s) (en : EnvIs φ d nt env) (rx : RS nt x n) (e : putX x d v σ = some σ') (hv : VIs C P φ v y)
    (h : ∀ (s' : Shared) (i : Nat) (a : Addr) (nm : List Str) (z : S), Rel C P Z φ σ' s' → φ[i]? = some (a, nm) → σ[i]? = some z → z.locked = false → Heap.SameBut a s.heap s'.heap → Q () s') :
    wpAny (model C.prog C.w) A (storeName env n y) Q NoE s := by
  revert h
  revert σ'
  show So (putX x d v σ) fun σ' => (∀ (s' : Shared) (i : Nat) (a : Addr) (nm : List Str) (z : S), Rel C P Z φ σ' s' → φ[i]? = some (a, nm) → σ[i]? = some z → z.locked = false → Heap.SameBut a s.heap s'.heap → Q () s') → wpAny (model C.prog C.w) A (storeName env n y) Q NoE s
  cases rx with
  | @loc i _ h1 h2 =>
    refine So.bind <| So.fr fun vs hσ => So.gd fun hlt => So.just fun h => ?_
    obtain ⟨_, _, o, ho, hnd, hlen, m, hns, hvs⟩ := r.own _ _ _ _ en.fr hσ
    refine wpAny_storeName_local (en.loc _ h2) (hns.ns ho) (fun h' hn' hs' => ?_) (by rw [en.kind]; rfl)
    obtain ⟨o', ho', hns'⟩ := NsO.of hn'
    refine h _ _ _ _ _ (r.update en.fr hσ rfl hs' ho' ⟨hnd, List.length_set.trans hlen, _, hns', fun j x V e1 e2 => ?_⟩) en.fr hσ rfl hs'
    by_cases hj : j = i
    · subst hj
      rw [List.getElem?_set_self (Nat.le_of_ble_eq_true hlt)] at e2
      exact ⟨y, if_pos (Option.some.inj (e1.symm.trans h1)), Option.some.inj (Option.some.inj e2) ▸ hv⟩
    · rw [List.getElem?_set_ne (Ne.symm hj)] at e2
      obtain ⟨u, hu, hu'⟩ := hvs j x V e1 e2
      exact ⟨u, (if_neg fun (q : x = n) => hj (nodup_get hnd e1 (q ▸ h1))).trans hu, hu'⟩
  | @cel j _ h1 h2 =>
    obtain ⟨k, a, nm, e1, e2, e3⟩ := en.cells _ _ h1
    show So ((d.cells[j]?).bind fun n => (celA σ n).bind fun _ => (datO v).bind fun x => some (σ.set n (.cell (some x)))) _
    rw [e1]
    refine So.step <| So.bind <| So.cel fun z hσ => So.bind <| So.dat hv fun x hx => So.just fun h => ?_
    obtain ⟨v0, hc⟩ := cell_at r e2 hσ
    refine wpAny_storeName_cell en.kind (en.cel _ h2) e3 hc fun h' hc' hs' => ?_
    obtain ⟨o', ho', hd'⟩ := hc'
    exact h _ _ _ _ (.cell z) (r.update (y := .cell (some x)) e2 hσ rfl hs' ho' ⟨y, hd', hx⟩) e2 hσ rfl hs'
theorem assign_is {x : X} {n : Str} {v : V} {y : Value} {p : Pos} (r : Rel C P Z φ σ s) (en : EnvIs φ d nt env) (rx : RS nt x n) (e : putX x d v σ = some σ') (hv : VIs C P φ v y) :
    wpAny (model C.prog C.w) A (assign (.Name n p) env y) (Post C P Z φ RU σ') NoE s :=
  wpAny_assign_Name (store_is r en rx e hv fun s' _ _ _ _ r' _ _ _ _ => ⟨P, φ, PLe.refl _, List.prefix_refl _, r', trivial⟩)
end
end Mine
end
section
open PySem PySem.Calls PyProof.Rows PySem.W
namespace Mine
section
variable {C : Cx}
noncomputable def EvS (C : Cx) (O : Ops) (n : Nat) : Prop := ∀ {nt : NT} {e : E} {x : PySem.Expr} {d : Dsc} {σ : List S} {env : Env} {P Z : PH} {φ : Phi} {s : Shared} {A : Around},
  RE nt e x → Rel C P Z φ σ s → EnvIs φ d nt env → ARoom A n → Sn (O.ev e d σ) fun v σ' => wpAny (model C.prog C.w) A (eval x env) (Post C P Z φ (RV C v) σ') NoE s
/-- one step, then what follows -/
theorem Sn.seq {α β γ : Type} {P Z : PH} {φ : Phi} {s : Shared} {M : Model} {A : Around} {r : Res α} {f : α → List S → Res β} {t : Sem γ} {R : α → PH → Phi → γ → Prop} {Q : β → List S → γ → Shared → Prop} {Er : Value → Shared → Prop}
    (h : Sn r fun x σ₁ => wpAny M A t (Post C P Z φ (R x) σ₁) NoE s)
    (k : ∀ x σ₁ va s₁ P₁ φ₁, PLe P P₁ → φ <+: φ₁ → Rel C P₁ Z φ₁ σ₁ s₁ → R x P₁ φ₁ va → Sn (f x σ₁) fun v σ' => Q v σ' va s₁) :
    Sn (Mine.bnd r f) fun v σ' => wpAny M A t (Q v σ') Er s :=
  Sn.bnd fun x σ₁ o h1 h2 v σ' ob e ho => wp_seq (h x σ₁ o h1 h2) fun va s₁ P₁ φ₁ p f r' k' => k x σ₁ va s₁ P₁ φ₁ p f r' k' v σ' ob e ho
theorem Sn.up {β γ : Type} {P P₁ Z : PH} {φ φ₁ : Phi} {s : Shared} {M : Model} {A : Around} {r : Res β} {t : Sem γ} {R : β → PH → Phi → γ → Prop}
    (h : Sn r fun v σ' => wpAny M A t (Post C P₁ Z φ₁ (R v) σ') NoE s) (p : PLe P P₁) (f : φ <+: φ₁) : Sn r fun v σ' => wpAny M A t (Post C P Z φ (R v) σ') NoE s :=
  h.imp fun _ _ z => wp_up z p f
noncomputable abbrev RVs (C : Cx) (vs : List V) : PH → Phi → List Value → Prop := fun P φ as => All2 (VIs C P φ) vs as
theorem star_of {x : PySem.Expr} (h : notStar x = true) {rest : List PySem.Expr} {env : Env} : starEach (x :: rest) env = (false, eval x env) :: starEach rest env := by
  cases x with
  | Starred => exact ff _ h
  | _ => rfl
theorem RE.star {nt : NT} {e : E} {x : PySem.Expr} (h : RE nt e x) {rest : List PySem.Expr} {env : Env} : starEach (x :: rest) env = (false, eval x env) :: starEach rest env := star_of (al h.ok)
theorem All2.vup {P P' : PH} {φ φ' : Phi} {vs : List V} {as : List Value} (h : All2 (VIs C P φ) vs as) (a : PLe P P') (b : φ <+: φ') : All2 (VIs C P' φ') vs as := h.imp fun _ _ z => z.mono a b
theorem evs_sn {O : Ops} {n : Nat} (H : EvS C O n) {nt : NT} {d : Dsc} {env : Env} {pos : Pos} {Z : PH} {A : Around} (hA : ARoom A n) : ∀ {es : List E} {ls : List PySem.Expr} {σ : List S} {P : PH} {φ : Phi} {s : Shared},
    REs nt es ls → Rel C P Z φ σ s → EnvIs φ d nt env → Sn (evs O d es σ) fun vs σ' => wpAny (model C.prog C.w) A (spliced (backTo pos (starEach ls env))) (Post C P Z φ (RVs C vs) σ') NoE s := by
  intro es
  induction es with
  | nil =>
    intro ls σ P φ s hr r _
    cases hr
    exact Sn.ok (wpAny_items_nil (post_pure r All2.nil))
  | cons e es ih =>
    intro ls σ P φ s hr r en
    cases hr with
    | cons h1 h2 =>
      refine Sn.imp (Sn.seq (H h1 r en hA) fun v σ₁ a s₁ P₁ φ₁ p1 f1 r1 k1 => Sn.bnd <| (ih h2 r1 (en.up f1)).imp fun vs σ₂ h => Sn.ok ?_) fun _ _ z => wpAny_items_cons z h1.star
      exact wp_seq h fun as s₂ P₂ φ₂ p2 f2 r2 k2 => ⟨P₂, φ₂, p1.trans p2, f1.trans f2, r2, All2.cons (k1.mono p2 f2) k2⟩
theorem dats_is {P : PH} {φ : Phi} : ∀ {vs : List V} {ds : List D} {as : List Value}, dats vs = some ds → All2 (VIs C P φ) vs as → All2 (DIs C P) ds as
  | [], _, as, h, k => by cases h; cases as with | nil => exact All2.nil | cons _ _ => cases k.1
  | .d x :: r, ds, [], h, k => by cases k.1
  | .d x :: r, ds, a :: as, h, k => by
    unfold dats at h
    obtain ⟨ds', h1, rfl⟩ := Option.map_eq_some_iff.mp h
    exact All2.cons k.tail.1 (dats_is h1 k.tail.2)
  | .ref _ :: _, _, _, h, _ => by cases h
@[elab_as_elim] theorem datK {M : V → Option D → Prop} (v : V) (k : ∀ x, M (.d x) (some x)) (z : ∀ n, M (.ref n) none) : M v (datO v) := match v with
  | .d x => k x
  | .ref n => z n
theorem evD_sn {O : Ops} {n : Nat} (H : EvS C O n) {nt : NT} {e : E} {x : PySem.Expr} {d : Dsc} {σ : List S} {env : Env} {P Z : PH} {φ : Phi} {s : Shared} {A : Around}
    (hr : RE nt e x) (r : Rel C P Z φ σ s) (en : EnvIs φ d nt env) (hA : ARoom A n) : Sn (evD O e d σ) fun v σ' => wpAny (model C.prog C.w) A (eval x env) (Post C P Z φ (RV C (.d v)) σ') NoE s :=
  Sn.bnd <| (H hr r en hA).imp fun v σ' => datK v (fun x h => Sn.ok h) fun _ _ => Sn.nil
theorem behind_of {op : CmpOp} (h : (op == .In || op == .NotIn) = false) (r : PySem.Expr) : behindInMarks op r = false := by
  cases r with
  | Set e k _ =>
    show (k == 0 && (op == .In || op == .NotIn) && _) = false
    rw [h, Bool.and_false, Bool.false_and]
  | _ => rfl
theorem behind_cmp {o : CO} {r : PySem.Expr} : behindInMarks o.op r = false := behind_of (by cases o <;> rfl) r
theorem behind_is {ng : Bool} {r : PySem.Expr} : behindInMarks (isOp ng) r = false := behind_of (by cases ng <;> rfl) r
section
variable {O : Ops} {n : Nat} {nt : NT} {d : Dsc} {σ σ' : List S} {v : V} {ob : List OB} {env : Env} {P Z : PH} {φ : Phi} {s : Shared} {A : Around}
/-- two operands and what is done with them -/
theorem two_sn (H : EvS C O n) {a b : E} {l r : PySem.Expr} {α : Type} {f : V → V → List S → Res α} {R : α → PH → Phi → Value → Prop} {k : Value → Value → Sem Value} (h1 : RE nt a l) (h2 : RE nt b r) (rr : Rel C P Z φ σ s) (en : EnvIs φ d nt env) (hA : ARoom A n)
    (hk : ∀ x y σ₂ va vb P φ s, Rel C P Z φ σ₂ s → VIs C P φ x va → VIs C P φ y vb → Sn (f x y σ₂) fun v σ' => wpAny (model C.prog C.w) A (k va vb) (Post C P Z φ (R v) σ') NoE s) :
    Sn (bnd (O.ev a d σ) fun x σ => bnd (O.ev b d σ) fun y σ => f x y σ) fun v σ' => wpAny (model C.prog C.w) A (eval l env) (fun va s₁ => wpAny (model C.prog C.w) A (eval r env) (fun vb s₂ => wpAny (model C.prog C.w) A (k va vb) (Post C P Z φ (R v) σ') NoE s₂) NoE s₁) NoE s :=
  Sn.seq (H h1 rr en hA) fun x σ₁ va s₁ P₁ φ₁ p1 f1 r1 k1 => Sn.seq (H h2 r1 (en.up f1) hA) fun y σ₂ vb s₂ P₂ φ₂ p2 f2 r2 k2 => (hk x y σ₂ va vb P₂ φ₂ s₂ r2 (k1.mono p2 f2) k2).up (p1.trans p2) (f1.trans f2)
theorem two_gen (H : EvS C O n) {a b : E} {l r : PySem.Expr} {α : Type} {f : V → V → List S → Res α} {Q : α → List S → Value → Value → Shared → Prop} (h1 : RE nt a l) (h2 : RE nt b r) (rr : Rel C P Z φ σ s) (en : EnvIs φ d nt env) (hA : ARoom A n)
    (hk : ∀ x y σ₂ va vb P₂ φ₂ s₂, PLe P P₂ → φ <+: φ₂ → Rel C P₂ Z φ₂ σ₂ s₂ → VIs C P₂ φ₂ x va → VIs C P₂ φ₂ y vb → Sn (f x y σ₂) fun v σ' => Q v σ' va vb s₂) :
    Sn (bnd (O.ev a d σ) fun x σ => bnd (O.ev b d σ) fun y σ => f x y σ) fun v σ' => wpAny (model C.prog C.w) A (eval l env) (fun va s₁ => wpAny (model C.prog C.w) A (eval r env) (fun vb s₂ => Q v σ' va vb s₂) NoE s₁) NoE s :=
  Sn.seq (H h1 rr en hA) fun x σ₁ va s₁ P₁ φ₁ p1 f1 r1 k1 => Sn.seq (H h2 r1 (en.up f1) hA) fun y σ₂ vb s₂ P₂ φ₂ p2 f2 r2 k2 => hk x y σ₂ va vb P₂ φ₂ s₂ (p1.trans p2) (f1.trans f2) r2 (k1.mono p2 f2) k2
theorem one_sn (H : EvS C O n) {a : E} {l : PySem.Expr} {α : Type} {f : V → List S → Res α} {R : α → PH → Phi → Value → Prop} {k : Value → Sem Value} (h1 : RE nt a l) (rr : Rel C P Z φ σ s) (en : EnvIs φ d nt env) (hA : ARoom A n)
    (hk : ∀ x σ₂ va P φ s, Rel C P Z φ σ₂ s → VIs C P φ x va → Sn (f x σ₂) fun v σ' => wpAny (model C.prog C.w) A (k va) (Post C P Z φ (R v) σ') NoE s) :
    Sn (bnd (O.ev a d σ) fun x σ => f x σ) fun v σ' => wpAny (model C.prog C.w) A (eval l env) (fun va s₁ => wpAny (model C.prog C.w) A (k va) (Post C P Z φ (R v) σ') NoE s₁) NoE s :=
  Sn.seq (H h1 rr en hA) fun x σ₁ va s₁ P₁ φ₁ p1 f1 r1 k1 => (hk x σ₁ va P₁ φ₁ s₁ r1 k1).up p1 f1
theorem obj_is {n : Nat} {a : Addr} {nm : List Str} (r : Rel C P Z φ σ s) (e : φ[n]? = some (a, nm)) (h : objA σ n = true) : ∃ o, s.heap.get? a = some o ∧ o.cls ≠ .type "tuple" := by
  unfold objA at h
  split at h
  · exact dict_not_tuple r e (by assumption)
  · exact list_not_tuple r e (by assumption)
  · cases h
theorem is_ref {m k : Nat} {a b : Addr} {nm nm' : List Str} (r : Rel C P Z φ σ s) (e1 : φ[m]? = some (a, nm)) (e2 : φ[k]? = some (b, nm')) (ho : objA σ m = true) :
    wpAny (model C.prog C.w) A (compareOp .Is (.ref a) (.ref b)) (Post C P Z φ (RV C (.d (.bool (Nat.beq m k)))) σ) NoE s ∧ wpAny (model C.prog C.w) A (compareOp .IsNot (.ref a) (.ref b)) (Post C P Z φ (RV C (.d (.bool !Nat.beq m k))) σ) NoE s := by
  by_cases q : m = k
  · subst q
    have hab : a = b := congrArg Prod.fst (Option.some.inj (e1.symm.trans e2))
    subst hab
    rw [Nat.beq_refl]
    exact ⟨wpAny_is_ref_self (post_bool r), wpAny_isNot_ref_self (post_bool r)⟩
  · rw [show Nat.beq m k = false from Bool.eq_false_iff.mpr fun z => q (Nat.eq_of_beq_eq_true z)]
    have hab : a ≠ b := fun w => q (r.inj e1 (w ▸ e2))
    obtain ⟨oa, hoa, hc⟩ := obj_is r e1 ho
    obtain ⟨ob', hob⟩ := r.inHeap e2
    exact ⟨wpAny_is_ref_other hab hoa hob hc (post_bool r), wpAny_isNot_ref_other hab hoa hob hc (post_bool r)⟩
theorem is_boo {a b : Bool} (r : Rel C P Z φ σ s) : wpAny (model C.prog C.w) A (compareOp .Is (.bool a) (.bool b)) (Post C P Z φ (RV C (.d (.bool (a == b)))) σ) NoE s ∧ wpAny (model C.prog C.w) A (compareOp .IsNot (.bool a) (.bool b)) (Post C P Z φ (RV C (.d (.bool !(a == b)))) σ) NoE s := by
  have e : ((Value.bool a) == (Value.bool b)) = (a == b) := by cases a <;> cases b <;> decide
  exact ⟨wpAny_is_plain rfl (by rw [e]; exact post_bool r), wpAny_isNot_plain rfl (by rw [e]; exact post_bool r)⟩
theorem is_sn {x y : V} {va vb : Value} (r : Rel C P Z φ σ s) (ha : VIs C P φ x va) (hb : VIs C P φ y vb) :
    So (evIs σ x y) fun t => wpAny (model C.prog C.w) A (compareOp .Is va vb) (Post C P Z φ (RV C (.d (.bool t))) σ) NoE s ∧ wpAny (model C.prog C.w) A (compareOp .IsNot va vb) (Post C P Z φ (RV C (.d (.bool !t))) σ) NoE s := by
  delta evIs
  refine refK ha (fun m a nm e1 => refK hb (fun k b nm' e2 => So.gd fun ho => So.just (is_ref r e1 e2 ho)) fun _ _ => So.nil) fun va ha => So.skip ?_
  refine booK ha (fun a => booK hb (fun b => So.just (is_boo r)) fun _ _ => So.nil) fun va ha => So.skip ?_
  exact nonK ha (So.gd fun _ => nonK hb (So.gd fun _ => So.just ⟨wpAny_is_self rfl (post_bool r), wpAny_isNot_self rfl (post_bool r)⟩) fun _ _ => So.gd fun h => ff _ h) fun _ _ => So.gd fun h => ff _ h
end
end
end Mine
end
section
open PySem PySem.Calls PyProof.Rows PySem.W
namespace Mine
section
variable {C : Cx} {O : Ops} {n : Nat} {nt : NT} {d : Dsc} {σ σ' : List S} {ob : List OB} {env : Env} {P Z : PH} {φ : Phi} {s : Shared} {A : Around}
noncomputable abbrev RBl (b : Bool) : PH → Phi → Bool → Prop := fun _ _ t => t = b
@[elab_as_elim] theorem booE {M : V → Option Bool → Prop} (v : V) (k : ∀ x, M (.d (.bool x)) (some x)) (z : ∀ v, M v none) : M v (boV v) := by
  cases v with
  | ref n => exact z _
  | d x =>
    cases x with
    | bool b => exact k b
    | _ => exact z _
/-- the common part of comparisons: both sides, then the answer as a bool value -/
theorem cmpR_sn (H : EvS C O n) {o : CO} {a b : E} {l r : PySem.Expr} (h1 : RE nt a l) (h2 : RE nt b r) (rr : Rel C P Z φ σ s) (en : EnvIs φ d nt env) (hA : ARoom A n) :
    Sn (cmpR O o a b d σ) fun t σ' => wpAny (model C.prog C.w) A (eval l env) (fun va s₁ => wpAny (model C.prog C.w) A (eval r env) (fun vb s₂ => wpAny (model C.prog C.w) A (compareOp o.op va vb) (Post C P Z φ (RV C (.d (.bool t))) σ') NoE s₂) NoE s₁) NoE s :=
  two_sn (R := fun t => RV C (.d (.bool t))) (k := fun va vb => compareOp o.op va vb) H h1 h2 rr en hA fun _ _ _ _ _ _ _ _ r ha hb => Sn.opt (cmp_sn hA r ha hb)
theorem isR_sn (H : EvS C O n) {ng : Bool} {a b : E} {l r : PySem.Expr} (h1 : RE nt a l) (h2 : RE nt b r) (rr : Rel C P Z φ σ s) (en : EnvIs φ d nt env) (hA : ARoom A n) :
    Sn (isR O ng a b d σ) fun t σ' => wpAny (model C.prog C.w) A (eval l env) (fun va s₁ => wpAny (model C.prog C.w) A (eval r env) (fun vb s₂ => wpAny (model C.prog C.w) A (compareOp (isOp ng) va vb) (Post C P Z φ (RV C (.d (.bool t))) σ') NoE s₂) NoE s₁) NoE s :=
  two_sn (R := fun t => RV C (.d (.bool t))) (k := fun va vb => compareOp (isOp ng) va vb) H h1 h2 rr en hA fun _ _ _ _ _ _ _ _ r ha hb => Sn.bind <| (is_sn r ha hb).imp fun t q => Sn.ok (match ng with | true => q.2 | false => q.1)
theorem innR_sn (hm : ∃ o, C.h₀.get? sysModules = some o) (H : EvS C O n) {a b : E} {l r : PySem.Expr} (h1 : RE nt a l) (h2 : RE nt b r) (rr : Rel C P Z φ σ s) (en : EnvIs φ d nt env) (hA : ARoom A n) :
    Sn (innR O a b d σ) fun t σ' => wpAny (model C.prog C.w) A (eval l env) (fun va s₁ => wpAny (model C.prog C.w) A (eval r env) (fun vb s₂ => wpAny (model C.prog C.w) A (compareOp .In va vb) (Post C P Z φ (RV C (.d (.bool t))) σ') NoE s₂) NoE s₁) NoE s :=
  two_sn (R := fun t => RV C (.d (.bool t))) (k := fun va vb => compareOp .In va vb) H h1 h2 rr en hA fun _ _ _ _ _ _ _ _ r ha hb =>
    strK ha (fun k t => Sn.step <| refK hb (fun n a nm e => Sn.step <| Sn.bind <| So.dic fun lk es hσ => Sn.ok (in_is hm hσ r (DIs.str k t) ⟨a, nm, e, rfl⟩)) fun _ _ => Sn.nil) fun _ _ => Sn.nil
theorem truthy_is {t : Bool} {v : Value} (r : Rel C P Z φ σ s) (h : VIs C P φ (.d (.bool t)) v) : wpAny (model C.prog C.w) A (truthy v) (Post C P Z φ (RBl t) σ) NoE s := by
  rw [h.bool_inv]
  exact wpAny_truthy_bool (post_pure r rfl)
theorem test_of {m : Sem Value} {t : Bool} (h : wpAny (model C.prog C.w) A m (Post C P Z φ (RV C (.d (.bool t))) σ') NoE s) : wpAny (model C.prog C.w) A m (fun c s₁ => wpAny (model C.prog C.w) A (truthy c) (Post C P Z φ (RBl t) σ') NoE s₁) NoE s :=
  wp_seq h fun _ _ _ _ p1 f1 r1 k1 => wp_up (truthy_is r1 k1) p1 f1
theorem test3_of {m m2 : Sem Value} {k : Value → Value → Sem Value} {t : Bool} (h : wpAny (model C.prog C.w) A m (fun va s₁ => wpAny (model C.prog C.w) A m2 (fun vb s₂ => wpAny (model C.prog C.w) A (k va vb) (Post C P Z φ (RV C (.d (.bool t))) σ') NoE s₂) NoE s₁) NoE s) :
    wpAny (model C.prog C.w) A m (fun va s₁ => wpAny (model C.prog C.w) A m2 (fun vb s₂ => wpAny (model C.prog C.w) A (k va vb) (fun c s₁ => wpAny (model C.prog C.w) A (truthy c) (Post C P Z φ (RBl t) σ') NoE s₁) NoE s₂) NoE s₁) NoE s := wpAny_mono h (fun _ _ z => wpAny_mono z (fun _ _ z => test_of z) fun _ _ z => z) fun _ _ z => z
/-- a value that is a test -/
theorem val_sn {e : E} {m : Sem Value} {x : PySem.Expr} (hx : ∀ {Q : Bool → Shared → Prop}, wpAny (model C.prog C.w) A m (fun c s₁ => wpAny (model C.prog C.w) A (truthy c) Q NoE s₁) NoE s → wpAny (model C.prog C.w) A (isTrue x env m) Q NoE s)
    (h : Sn (O.ev e d σ) fun v σ' => wpAny (model C.prog C.w) A m (Post C P Z φ (RV C v) σ') NoE s) : Sn (valB (O.ev e d σ)) fun t σ' => wpAny (model C.prog C.w) A (isTrue x env m) (Post C P Z φ (RBl t) σ') NoE s :=
  Sn.bnd <| h.imp fun v σ' => booE v (fun b h => Sn.ok (hx (test_of h))) fun _ _ => Sn.nil
theorem or_is {l r : PySem.Expr} {p : Pos} {Q : Bool → Shared → Prop} (h : wpAny (model C.prog C.w) A (isTrue l env (eval l env)) (fun b s₁ => (b = true → Q true s₁) ∧ (b = false → wpAny (model C.prog C.w) A (isTrue r env (eval r env)) Q NoE s₁)) NoE s) :
    wpAny (model C.prog C.w) A (isTrue (.BoolOp .Or [l, r] p) env (eval (.BoolOp .Or [l, r] p) env)) Q NoE s := by
  refine wpAny_isTrue_BoolOp ?_
  rw [allTrue]
  refine wpAny_bind (wpAny_mono h (fun b s₁ h => ?_) fun _ _ z => z)
  cases b with
  | true => exact wpAny_pure (h.1 rfl)
  | false =>
    show wpAny _ _ (allTrue .Or [_] env) _ _ _
    rw [allTrue]
    refine wpAny_bind (wpAny_mono (h.2 rfl) (fun b s₂ h => ?_) fun _ _ z => z)
    cases b with
    | true => exact wpAny_pure h
    | false =>
      show wpAny _ _ (allTrue .Or [] env) _ _ _
      rw [allTrue]
      exact wpAny_pure h
theorem tstk_sn (hm : ∃ o, C.h₀.get? sysModules = some o) (H : EvS C O n) (hA : ARoom A n) : ∀ (k : Nat) {e : E} {x : PySem.Expr} {σ : List S} {P : PH} {φ : Phi} {s : Shared} (_ : RBk nt k e x) (_ : Rel C P Z φ σ s) (_ : EnvIs φ d nt env),
    Sn (tst O e d σ) fun t σ' => wpAny (model C.prog C.w) A (isTrue x env (eval x env)) (Post C P Z φ (RBl t) σ') NoE s := by
  intro k
  induction k with
  | zero => exact fun h => ff _ h
  | succ k ih =>
  intro e x σ P φ s hr r en
  cases hr.view with
  | @or a b _ _ _ h1 h2 =>
    show Sn (bnd (tst O a d σ) fun t σ => match t with | true => ok true σ | false => tst O b d σ) _
    refine Sn.imp (Sn.seq (Q := fun t σ' b s₁ => (b = true → Post C P Z φ (RBl t) σ' true s₁) ∧ (b = false → wpAny (model C.prog C.w) A (isTrue _ env (eval _ env)) (Post C P Z φ (RBl t) σ') NoE s₁)) (ih h1 r en) fun t σ₁ b₁ s₁ P₁ φ₁ p1 f1 r1 k1 => ?_) fun _ _ z => or_is z
    cases t with
    | true => exact Sn.ok ⟨fun _ => ⟨P₁, φ₁, p1, f1, r1, rfl⟩, fun e => ff _ (e.symm.trans k1)⟩
    | false => exact ((ih h2 r1 (en.up f1)).up p1 f1).imp fun _ _ z => ⟨fun e => ff _ (k1.symm.trans e), fun _ => z⟩
  | not h1 => exact Sn.bnd <| (ih h1 r en).imp fun t σ' h => Sn.ok (wpAny_isTrue_Not (wp_seq h fun b s₁ P₁ φ₁ p1 f1 r1 k1 => ⟨P₁, φ₁, p1, f1, r1, congrArg (!·) k1⟩))
  | cmp h1 h2 => exact (cmpR_sn H h1 h2 r en hA).imp fun _ _ z => wpAny_isTrue_Compare1 (test3_of z) behind_cmp
  | is h1 h2 => exact (isR_sn H h1 h2 r en hA).imp fun _ _ z => wpAny_isTrue_Compare1 (test3_of z) behind_is
  | inn hb h1 h2 => exact (innR_sn hm H h1 h2 r en hA).imp fun _ _ z => wpAny_isTrue_Compare1 (test3_of z) hb
  | isi h1 => exact val_sn (fun z => wpAny_isTrue_value z) (H h1 r en hA)
  | hasget h1 => exact val_sn (fun z => wpAny_isTrue_value z) (H h1 r en hA)
theorem tst_sn (hm : ∃ o, C.h₀.get? sysModules = some o) (H : EvS C O n) (hA : ARoom A n) {e : E} {x : PySem.Expr} {σ : List S} {P : PH} {φ : Phi} {s : Shared} (hr : RB nt e x) (r : Rel C P Z φ σ s) (en : EnvIs φ d nt env) :
    Sn (tst O e d σ) fun t σ' => wpAny (model C.prog C.w) A (isTrue x env (eval x env)) (Post C P Z φ (RBl t) σ') NoE s := hr.elim fun k h => tstk_sn hm H hA k h r en
end
end Mine
end
section
open PySem PySem.Calls PyProof.Rows PySem.W
namespace Mine
section
variable {C : Cx} {O : Ops} {n : Nat} {nt : NT} {d : Dsc} {σ σ' : List S} {ob : List OB} {env : Env} {P Z : PH} {φ : Phi} {s : Shared} {A : Around}
theorem base_is {o : PySem.Expr} (h : plainBase o = true) (a : Str) (env : Env) (whole : Sem Value) : attributeBase o a env whole = whole := by
  cases o with
  | Call => exact ff _ h
  | _ => rfl
theorem All2.nil_l {α β : Type} {R : α → β → Prop} {ys : List β} (h : All2 R [] ys) : ys = [] := List.eq_nil_of_length_eq_zero h.1.symm
@[elab_as_elim] theorem All2.consK {α β : Type} {R : α → β → Prop} {x : α} {xs : List α} {ys : List β} {M : List β → Prop} (h : All2 R (x :: xs) ys) (k : ∀ y ys, R x y → All2 R xs ys → M (y :: ys)) : M ys := match ys, h with
  | [], h => nomatch h.1
  | y :: ys, h => k y ys h.tail.1 h.tail.2
theorem noStar {es : List E} {ls : List PySem.Expr} {p : Pos} : REs nt es ls → (backTo p (starEach ls env)).any (·.1) = false := by
  induction es generalizing ls with
  | nil => intro h; cases h; rfl
  | cons e es ih =>
    intro h
    cases h with
    | cons h1 h2 => rw [h1.star]; exact ih h2
theorem args_is {es : List E} {ls : List PySem.Expr} {p : Pos} {f : Value} {M : Model} {Er : Value → Shared → Prop} {Q : Args → Shared → Prop} (hr : REs nt es ls) (h : wpAny M A (spliced (backTo p (starEach ls env))) (fun vs s' => Q ⟨vs, []⟩ s') Er s) :
    wpAny M A (evalArgs f true (backTo p (starEach ls env)) []) Q Er s := by
  cases hr with
  | nil =>
    unfold evalArgs
    show wpAny M A (spliced [] >>= _) Q Er s
    refine wpAny_bind (wpAny_mono h (fun vs s' h' => ?_) fun _ _ x => x)
    refine wpAny_holding ?_
    exact wpAny_bind (wpAny_pure (wpAny_bind (wpAny_pure (wpAny_pure h'))))
  | cons h1 h2 =>
    rw [h1.star] at h ⊢
    exact evalArgs_plain h
theorem blt_mem {i : Nat} {p : Str × Value} (h : bltNms[i]? = some p) : p ∈ bltNms := List.mem_of_getElem? h
/-- what may be called here -/
noncomputable def isBlt (f : Value) : Prop := (∃ i, f = .builtin i) ∨ ∃ T, f = .type T
theorem with_is {p : Pos} {f : Value} {items : List (Bool × Sem Value)} {Q : Value → Shared → Prop} (hf : isBlt f) (hs : items.any (·.1) = false) (h : wpAny (model C.prog C.w) A (evalArgs f true items []) (fun a s' => wpAny (model C.prog C.w) A (call f ([] ++ a.pos) a.kw) Q NoE s') NoE s) :
    wpAny (model C.prog C.w) A (callWith p f [] items []) Q NoE s := by
  rcases hf with ⟨i, rfl⟩ | ⟨T, rfl⟩
  · exact callWith_builtin hs h
  · exact _root_.PySem.callWith_type hs h
section
variable {mg mb : Str → Option Value} {nm : Str} {np p : Pos} {f : Value} {Q : Value → Shared → Prop} {i : Nat}
theorem call1_wp (G : Glob C mg mb) {l : PySem.Expr} (hn : bltNms[i]? = some (nm, f)) (hf : isBlt f) (rg : RG nt nm) (hl : okX l = true) (r : Rel C P Z φ σ s) (en : EnvIs φ d nt env)
    (h : wpAny (model C.prog C.w) A (eval l env) (fun y s₁ => wpAny (model C.prog C.w) A (call f [y]) Q NoE s₁) NoE s) : wpAny (model C.prog C.w) A (eval (.Call (.Name nm np) [l] [] p) env) Q NoE s := by
  refine wpAny_Call_NameR (glob_is G r en rg (.inr (G.blt _ _ (blt_mem hn))) ?_)
  have hst : backTo p (starEach [l] env) = [(false, eval l env)] := congrArg _ (star_of (al hl))
  rw [hst]
  exact with_is hf rfl (evalArgs_plain (spliced_cons (wpAny_mono h (fun y s₁ h => spliced_nil h) fun _ _ z => z)))
theorem call2_wp (G : Glob C mg mb) {l k : PySem.Expr} (hn : bltNms[i]? = some (nm, f)) (hf : isBlt f) (rg : RG nt nm) (hl : okX l = true) (hk : notStar k = true) (r : Rel C P Z φ σ s) (en : EnvIs φ d nt env)
    (h : wpAny (model C.prog C.w) A (eval l env) (fun y s₁ => wpAny (model C.prog C.w) A (eval k env) (fun z s₂ => wpAny (model C.prog C.w) A (call f [y, z]) Q NoE s₂) NoE s₁) NoE s) : wpAny (model C.prog C.w) A (eval (.Call (.Name nm np) [l, k] [] p) env) Q NoE s := by
  refine wpAny_Call_NameR (glob_is G r en rg (.inr (G.blt _ _ (blt_mem hn))) ?_)
  have hst : backTo p (starEach [l, k] env) = [(false, eval l env), (false, eval k env)] := by rw [star_of (al hl), star_of hk]; rfl
  rw [hst]
  exact with_is hf rfl (evalArgs_plain (spliced_cons (wpAny_mono h (fun y s₁ h => spliced_cons (wpAny_mono h (fun z s₂ h => spliced_nil h) fun _ _ z => z)) fun _ _ z => z)))
theorem callN_wp (G : Glob C mg mb) {es : List E} {ls : List PySem.Expr} (hn : bltNms[i]? = some (nm, f)) (hf : isBlt f) (rg : RG nt nm) (hr : REs nt es ls) (r : Rel C P Z φ σ s) (en : EnvIs φ d nt env)
    (h : wpAny (model C.prog C.w) A (spliced (backTo p (starEach ls env))) (fun as s₁ => wpAny (model C.prog C.w) A (call f as) Q NoE s₁) NoE s) : wpAny (model C.prog C.w) A (eval (.Call (.Name nm np) ls [] p) env) Q NoE s :=
  wpAny_Call_NameR (glob_is G r en rg (.inr (G.blt _ _ (blt_mem hn))) (with_is hf (noStar hr) (args_is hr h)))
end
/-- a method of a builtin type -/
theorem meth1_wp {ov l : PySem.Expr} {nm : Str} {ap p : Pos} {T id : String} {Q : Value → Shared → Prop} (hb : plainBase ov = true) (hl : (ap.endLine == p.line) = true) (pa : PlainAttrs T) (slot : Slot T nm id) (hty : typeOf (.builtin id) = pure (.type "method_descriptor")) (hk : okX l = true)
    (h : wpAny (model C.prog C.w) A (eval ov env) (fun v s₁ => s₁.TypeIs v T ∧ (∀ a, v = .ref a → ∃ ob, s₁.heap.get? a = some ob ∧ ob.dict = none) ∧ wpAny (model C.prog C.w) A (eval l env) (fun y s₂ => wpAny (model C.prog C.w) A (call (.builtin id) [v, y]) Q NoE s₂) NoE s₁) NoE s) :
    wpAny (model C.prog C.w) A (eval (.Call (.Attribute ov nm ap) [l] [] p) env) Q NoE s := by
  have hst : backTo p (starEach [l] env) = [(false, eval l env)] := congrArg _ (star_of (al hk))
  refine wpAny_Call_method (base_is hb _ _ _) (by rw [hst]; rfl) hl pa slot hty (wpAny_mono h (fun v s₁ h => ⟨h.1, h.2.1, ?_⟩) fun _ _ z => z)
  rw [hst]
  exact callWith_builtin rfl (evalArgs_plain (spliced_cons (wpAny_mono h.2.2 (fun y s₂ h => spliced_nil h) fun _ _ z => z)))
end
end Mine
end
section
open PySem PySem.Calls PyProof.Rows PySem.W
namespace Mine
section
variable {C : Cx} {O : Ops} {n : Nat} {nt : NT} {d : Dsc} {σ σ' : List S} {v : V} {ob : List OB} {env : Env} {P Z : PH} {φ : Phi} {s : Shared} {A : Around}
theorem boolV_sn {r : Res Bool} {T : V → List S → Prop} (h : Sn r fun t σ' => T (.d (.bool t)) σ') : Sn (boolV r) T := Sn.bnd <| h.imp fun _ _ z => Sn.ok z
theorem Sn.dats {vs : List V} {as : List Value} {β : Type} {f : List D → Res β} {T : β → List S → Prop} (h : All2 (VIs C P φ) vs as) (k : ∀ ds, All2 (DIs C P) ds as → Sn (f ds) T) : Sn ((dats vs).bind f) T := Sn.bind fun ds e => k ds (dats_is e h)
theorem is_list {fz : Bool} {xs : List E} {elts : List PySem.Expr} {p : Pos} (H : EvS C O n) (hr : REs nt xs elts) (r : Rel C P Z φ σ s) (en : EnvIs φ d nt env) (hA : ARoom A n) :
    Sn (bnd (evs O d xs σ) fun vs σ => (dats vs).bind fun ds => mkList fz ds σ) fun v σ' => wpAny (model C.prog C.w) A (eval (.List elts p) env) (Post C P Z φ (RV C v) σ') NoE s :=
  Sn.imp (Sn.seq (evs_sn H hA hr r en) fun vs σ₁ as s₁ P₁ φ₁ p1 f1 r1 k1 => Sn.dats k1 fun ds hd v σ' ob e _ =>
    have h := mkList_is r1 e hd
    ⟨Nat.le_trans h.1 (by rw [sizeLine_eq]; decide), h.2.up p1 f1⟩) fun _ _ z => PySem.wpAny_List z
theorem is_tup {xs : List E} {elts : List PySem.Expr} {k : Nat} {p : Pos} (H : EvS C O n) (hr : REs nt xs elts) (r : Rel C P Z φ σ s) (en : EnvIs φ d nt env) (hA : ARoom A n) :
    Sn (bnd (evs O d xs σ) fun vs σ => (dats vs).bind fun ds => gd (room ds.length) (ok (V.d (.tup ds)) σ)) fun v σ' => wpAny (model C.prog C.w) A (eval (.Tuple elts k p) env) (Post C P Z φ (RV C v) σ') NoE s :=
  Sn.imp (Sn.seq (evs_sn H hA hr r en) fun vs σ₁ as s₁ P₁ φ₁ p1 f1 r1 k1 => Sn.dats k1 fun ds hq => Sn.gd fun hz => Sn.ok
    ⟨hq.1 ▸ room_line hz, (post_data r1 rfl rfl fun P' hp e => DIs.of_tup e (hq.imp fun _ _ z => z.mono hp)).up p1 f1⟩) fun _ _ z => PySem.wpAny_Tuple z
theorem subscripted_is {i : PySem.Expr} (h : plainIdx i = true) (o iv : Value) : subscripted i false o iv = operate [o, iv] (getItem o iv) := by
  cases i with
  | Slice => exact ff _ h
  | _ => rfl
theorem inPython_is {o : Value} {Q : Bool → Shared → Prop} {Er : Value → Shared → Prop} {M : Model} (h : ItemT s o) (q : Q false s) : wpAny M A (getitemInPython o) Q Er s := by
  obtain ⟨T, id, h1, h2⟩ := h
  rw [getitemInPython_of_ne h1.not_modules]
  exact wpAny_bind (wpAny_specialOf h1 h2 (wpAny_pure q))
theorem sub_wp {ov iv : PySem.Expr} {p : Pos} {Q : Value → Shared → Prop} (hi : plainIdx iv = true) (h : wpAny (model C.prog C.w) A (eval ov env) (fun va s₁ => wpAny (model C.prog C.w) A (eval iv env) (fun vb s₂ => wpAny (model C.prog C.w) A (getItem va vb) Q NoE s₂ ∧ ItemT s₂ va) NoE s₁) NoE s) :
    wpAny (model C.prog C.w) A (eval (.Subscript ov iv p) env) Q NoE s := by
  rw [arm_eval_Subscript]
  refine wpAny_bind (wpAny_mono h (fun va s₁ h => wpAny_bind (wpAny_holding (wpAny_mono h (fun vb s₂ h => ?_) fun _ _ z => z))) fun _ _ z => z)
  refine wpAny_bind (wpAny_standAt (wpAny_bind (inPython_is h.2 ?_)))
  rw [subscripted_is hi]
  exact wpAny_bind (wpAny_operating (wpAny_mono h.1 (fun vc s₃ h => wpAny_bind (wpAny_letTemporaryGo (wpAny_pure h))) fun _ _ z => z))
theorem is_sub {o i : E} {ov iv : PySem.Expr} {p : Pos} (H : EvS C O n) (hi : plainIdx iv = true) (h1 : RE nt o ov) (h2 : RE nt i iv) (r : Rel C P Z φ σ s) (en : EnvIs φ d nt env) (hA : ARoom A n) :
    Sn (bnd (O.ev o d σ) fun x σ => bnd (O.ev i d σ) fun y σ => (evSub x y σ).bind fun v => ok (V.d v) σ) fun v σ' => wpAny (model C.prog C.w) A (eval (.Subscript ov iv p) env) (Post C P Z φ (RV C v) σ') NoE s :=
  Sn.imp (two_gen H h1 h2 r en hA fun x y σ₂ va vb P₂ φ₂ s₂ p f r2 k1 k2 => Sn.bind <| (sub_sn r2 k1 k2).imp fun _ h => Sn.ok ⟨wp_up h.1 p f, h.2⟩) fun _ _ z => sub_wp hi z
theorem is_dict0 {p : Pos} (r : Rel C P Z φ σ s) : wpAny (model C.prog C.w) A (eval (.Dict [] [] p) env) (Post C P Z φ (RV C (.ref σ.length)) (σ ++ [.mdict false []])) NoE s := by
  refine wpAny_Dict_empty ?_
  obtain ⟨o, ep, ho, hd⟩ := DictO.of (C := C) (Heap.DictOf.new (knd := PySem.strKind C.prog C.w) s.heap)
  rw [Heap.get?_push_size _ rfl] at ho
  cases ho
  exact ⟨P, _, PLe.refl _, List.prefix_append .., r.newOwn [] _ (.mdict false []) rfl ⟨[], ep, hd, All2.nil⟩, _, [], by rw [← r.len]; simp, rfl⟩
theorem is_dict1 {k : List Nat} {i : Int} {k1 k2 : Nat} {p p1 p2 : Pos} (r : Rel C P Z φ σ s) :
    wpAny (model C.prog C.w) A (eval (.Dict [some (.Constant (.str ⟨k.toArray⟩) k1 p1)] [.Constant (.int i) k2 p2] p) env) (Post C P Z φ (RV C (.ref σ.length)) (σ ++ [.mdict false [(k, .int i)]])) NoE s := by
  refine wpAny_Dict_walk (knd := PySem.strKind C.prog C.w) rfl rfl (by simp) (by show 1 ≤ 15; decide) ?_
  refine evalPairs_cons (wpAny_Constant_str (wpAny_bind (wpAny_Constant_int (wpAny_bind (wpAny_standAt (wpAny_pure (evalPairs_nil ?_)))))))
  refine ⟨[(⟨k.toArray⟩, .int i (s.toks + 1))], ?_, Heap.DictOf.new s.heap, fun h' g1 g2 => ?_⟩
  · exact ⟨isStr_key, rfl, trivial⟩
  · obtain ⟨o, ep, ho, hd⟩ := DictO.of (C := C) (Heap.DictOf.new (knd := PySem.strKind C.prog C.w) s.heap)
    rw [Heap.get?_push_size _ rfl] at ho
    cases ho
    have rA := r.newOwn [] _ (.mdict false []) rfl (show SIs C P _ σ.length [] _ (.mdict false []) from ⟨[], ep, hd, All2.nil⟩)
    obtain ⟨o', ep', ho', hd'⟩ := DictO.of (C := C) g1
    have e1 : (φ ++ [(s.heap.objs.size, ([] : List Str))])[σ.length]? = some (s.heap.objs.size, []) := by rw [← r.len, List.getElem?_append_right (Nat.le_refl _), Nat.sub_self]; rfl
    have e2 : (σ ++ [S.mdict false []])[σ.length]? = some (S.mdict false []) := by rw [List.getElem?_append_right (Nat.le_refl _), Nat.sub_self]; rfl
    have es : (σ ++ [S.mdict false []]).set σ.length (.mdict false [(k, .int i)]) = σ ++ [.mdict false [(k, .int i)]] := by rw [List.set_append_right _ _ (Nat.le_refl _), Nat.sub_self]; rfl
    refine ⟨P, _, PLe.refl _, List.prefix_append .., ?_, _, [], e1, rfl⟩
    rw [← es]
    refine rA.update (s' := { s with heap := h', toks := _ }) (y := .mdict false [(k, .int i)]) e1 e2 rfl g2 ho' ⟨_, ep', hd', ?_⟩
    exact All2.one ⟨rfl, DIs.int i _⟩
/-! slices -/
noncomputable def OptV (C : Cx) (w : Option V) : PH → Phi → Value → Prop := fun P φ y => match w with
  | none => y = .none
  | some x => VIs C P φ x y
theorem OptV.mono {P' : PH} {φ' : Phi} {w : Option V} {y : Value} (p : PLe P P') (f : φ <+: φ') (h : OptV C w P φ y) : OptV C w P' φ' y := match w, h with
  | none, h => h
  | some _, h => VIs.mono p f h
theorem opt_part {l : Option E} {lv : Option PySem.Expr} (H : EvS C O n) (hr : REo nt l lv) (r : Rel C P Z φ σ s) (en : EnvIs φ d nt env) (hA : ARoom A n) :
    Sn (optE O l d σ) fun w σ₁ => wpAny (model C.prog C.w) A (evalPart lv env) (Post C P Z φ (OptV C w) σ₁) NoE s := by
  cases hr with
  | none =>
    rw [evalPart_none]
    exact Sn.ok (wpAny_pure (post_pure r rfl))
  | some h1 =>
    rw [evalPart_some]
    exact Sn.bnd <| (H h1 r en hA).imp fun v σ' h => Sn.ok h
theorem low_so {w : Option V} {y : Value} (hy : OptV C w P φ y) : So (lowV w) fun L => ∃ q : Option (Int × Tok), y = partValue q ∧ (q.map (·.1) = some (L : Int) ∨ (q.map (·.1) = none ∧ L = 0)) ∧ IsPart y (q.map (·.1)) := by
  cases w with
  | none => exact So.just ⟨none, hy, .inr ⟨rfl, rfl⟩, hy ▸ .none⟩
  | some w =>
    show So ((intV w).bind numOf) _
    exact intK (x := w) hy (fun i t => So.step fun k hk => ⟨some (i, t), rfl, .inl (congrArg some (numOf_is hk)), .int _ t⟩) fun _ _ => So.nil
theorem upp_so {w : Option V} {y : Value} (hy : OptV C w P φ y) : So (uppV w) fun U => ∃ q : Option (Int × Tok), y = partValue q ∧ (∀ m : Nat, q.map (·.1) = some ((U.getD m : Nat) : Int) ∨ (q.map (·.1) = none ∧ U.getD m = m)) ∧ IsPart y (q.map (·.1)) := by
  cases w with
  | none => exact So.just ⟨none, hy, fun _ => .inr ⟨rfl, rfl⟩, hy ▸ .none⟩
  | some w =>
    show So ((intV w).bind fun k => (numOf k).map some) _
    exact intK (x := w) hy (fun i t => So.step <| So.map fun k hk => ⟨some (i, t), rfl, fun _ => .inl (congrArg some (numOf_is hk)), .int _ t⟩) fun _ _ => So.nil
noncomputable abbrev slcS (s : Shared) (vl vu : Value) : Shared := { s with heap := s.heap.push { cls := .type "slice", data := .fields #[vl, vu, .none] } }
theorem slc_wp {ov : PySem.Expr} {lv uv : Option PySem.Expr} {q p : Pos} {Q : Value → Shared → Prop} (h : wpAny (model C.prog C.w) A (eval ov env) (fun va s₁ => wpAny (model C.prog C.w) A (evalPart lv env) (fun vl s₂ => wpAny (model C.prog C.w) A (evalPart uv env) (fun vu s₃ =>
      wpAny (model C.prog C.w) A (getItem va (.ref s₃.heap.objs.size)) Q NoE (slcS s₃ vl vu) ∧ ItemT (slcS s₃ vl vu) va) NoE s₂) NoE s₁) NoE s) : wpAny (model C.prog C.w) A (eval (.Subscript ov (.Slice lv uv none q) p) env) Q NoE s := by
  rw [arm_eval_Subscript]
  refine wpAny_bind (wpAny_mono h (fun va s₁ h => wpAny_bind (wpAny_holding (wpAny_Slice ?_))) fun _ _ z => z)
  refine wpAny_mono h (fun vl s₂ h => wpAny_mono h (fun vu s₃ h => ?_) fun _ _ z => z) fun _ _ z => z
  rw [evalPart_none]
  refine wpAny_pure (wpAny_bind (wpAny_standAt (wpAny_bind (inPython_is h.2 ?_))))
  show wpAny _ _ (operate _ _ >>= _) _ _ _
  exact wpAny_bind (wpAny_operating (wpAny_mono h.1 (fun vc s₄ h => wpAny_bind (wpAny_letTemporaryGo (wpAny_pure h))) fun _ _ z => z))
theorem slcV_sn {o : V} {l u : Option V} {va vl vu : Value} (r : Rel C P Z φ σ s) (h1 : VIs C P φ o va) (h2 : OptV C l P φ vl) (h3 : OptV C u P φ vu) :
    Sn (evSlc o l u σ) fun v σ' => wpAny (model C.prog C.w) A (getItem va (.ref s.heap.objs.size)) (Post C P Z φ (RV C v) σ') NoE (slcS s vl vu) ∧ ItemT (slcS s vl vu) va := by
  refine Sn.bind <| (low_so h2).imp fun L hL => Sn.bind <| (upp_so h3).imp fun U hU => ?_
  obtain ⟨ql, el, hl, il⟩ := hL
  obtain ⟨qu, eu, hu, iu⟩ := hU
  have rP := r.push { cls := .type "slice", data := .fields #[vl, vu, .none] }
  refine strK h1 (fun sx t => Sn.gd fun hz => Sn.ok ?_) fun va h1 => Sn.skip ?_
  · rw [el, eu] at rP ⊢
    exact ⟨wpAny_getItem_str_slice (l := ql) (u := qu) (st := none) ⟨_, Heap.get?_push_size _ rfl, rfl, rfl⟩ rfl (str_sliced rP hz (hu _) hl), "str", _, typeIs_str _ _ t, F.slot_str_getitem.lookup⟩
  · refine lstK r h1 (fun a vs k xs pa qa => Sn.step <| Sn.gd fun hz v σ' ob e _ => ?_) fun _ _ => Sn.nil
    have pa' : (slcS s vl vu).heap.IsList a vs.toArray := (IsL.isL pa).push _
    refine ⟨wpAny_getItem_list_slice pa' (Heap.IsSliceOf.new ..) il iu .none (fun h => nomatch h) ?_ (qa.1 ▸ room_line hz : vs.length ≤ sizeLine), "list", _, pa'.typeIs, F.slot_list_getitem.lookup⟩
    rw [slicePick_cut vs L (U.getD xs.length) _ (by rw [← qa.1]; exact hu _) _ hl]
    exact (mkList_is rP e (qa.cut L (U.getD xs.length))).2
theorem is_slc {o : E} {l u : Option E} {ov : PySem.Expr} {lv uv : Option PySem.Expr} {q p : Pos} (H : EvS C O n) (h1 : RE nt o ov) (h2 : REo nt l lv) (h3 : REo nt u uv) (r : Rel C P Z φ σ s) (en : EnvIs φ d nt env) (hA : ARoom A n) :
    Sn (bnd (O.ev o d σ) fun x σ => bnd (optE O l d σ) fun l σ => bnd (optE O u d σ) fun u σ => evSlc x l u σ) fun v σ' => wpAny (model C.prog C.w) A (eval (.Subscript ov (.Slice lv uv none q) p) env) (Post C P Z φ (RV C v) σ') NoE s :=
  Sn.imp (Sn.seq (H h1 r en hA) fun x σ₁ va s₁ P₁ φ₁ p1 f1 r1 k1 => Sn.seq (opt_part H h2 r1 (en.up f1) hA) fun l σ₂ vl s₂ P₂ φ₂ p2 f2 r2 k2 => Sn.seq (opt_part H h3 r2 (en.up (f1.trans f2)) hA) fun u σ₃ vu s₃ P₃ φ₃ p3 f3 r3 k3 =>
    (slcV_sn r3 ((k1.mono p2 f2).mono p3 f3) (k2.mono p3 f3) k3).imp fun _ _ z => ⟨wp_up z.1 ((p1.trans p2).trans p3) ((f1.trans f2).trans f3), z.2⟩) fun _ _ z => slc_wp z
end
end Mine
end
section
open PySem PySem.Calls PyProof.Rows PySem.W
namespace Mine
section
variable {C : Cx} {n : Nat} {nt : NT} {d : Dsc} {σ σ' : List S} {env : Env} {P Z : PH} {φ : Phi} {s : Shared} {A : Around}
noncomputable abbrev cellNm : List (Str × NameKind) → List Str := kindNm .cell
/-- addresses of new cells -/
noncomputable def cellPhi (n : Nat) : List Str → Phi
  | [] => []
  | _ :: r => (n, []) :: cellPhi (n + 1) r
theorem cellPhi_get : ∀ (n : Nat) (l : List Str) (j : Nat), j < l.length → (cellPhi n l)[j]? = some (n + j, [])
  | n, _ :: r, 0, _ => rfl
  | n, _ :: r, j + 1, h => by
    rw [cellPhi, List.getElem?_cons_succ, cellPhi_get (n + 1) r j (by simpa using h)]
    congr 2; omega
theorem pushCells_is : ∀ (names : List (Str × NameKind)) {σ : List S} {φ : Phi} {s : Shared}, Rel C P Z φ σ s →
    Rel C P Z (φ ++ cellPhi s.heap.objs.size (cellNm names)) (σ ++ (cellNm names).map fun _ => .cell none) { s with heap := pushCells s.heap names }
  | [], σ, φ, s, r => by simpa [kindNm, cellPhi, pushCells] using r
  | (x, k) :: names, σ, φ, s, r => by
    cases hk : k == NameKind.cell with
    | false =>
      have e1 : cellNm ((x, k) :: names) = cellNm names := by simp only [kindNm, hk]
      have e2 : pushCells s.heap ((x, k) :: names) = pushCells s.heap names := by rw [pushCells, hk]; rfl
      rw [e1, e2]
      exact pushCells_is names r
    | true =>
      have e1 : cellNm ((x, k) :: names) = x :: cellNm names := by simp only [kindNm, hk]
      have e2 : pushCells s.heap ((x, k) :: names) = pushCells (s.heap.push { cls := .type "cell", data := .cell none }) names := by rw [pushCells, hk]; rfl
      rw [e1, e2]
      have h1 := r.newOwn [] { cls := .type "cell", data := .cell none } (.cell none) rfl ⟨none, rfl⟩
      have h2 := pushCells_is names h1
      rw [List.append_assoc, List.append_assoc] at h2
      have e3 : ({ s with heap := s.heap.push { cls := .type "cell", data := .cell none } } : Shared).heap.objs.size = s.heap.objs.size + 1 := Heap.size_push ..
      rw [e3] at h2
      exact h2
theorem cellsFrom_old : ∀ (names : List (Str × NameKind)) (n : Nat) (acc : List (Str × Addr)) (x : Str), x ∉ cellNm names → (cellsFrom n names acc).lookup x = acc.lookup x
  | [], _, _, _, _ => rfl
  | (y, k) :: names, n, acc, x, h => by
    cases hk : k == NameKind.cell with
    | false =>
      have e1 : cellNm ((y, k) :: names) = cellNm names := by simp only [kindNm, hk]
      rw [cellsFrom, hk]
      exact cellsFrom_old names n acc x (e1 ▸ h)
    | true =>
      have e1 : cellNm ((y, k) :: names) = y :: cellNm names := by simp only [kindNm, hk]
      rw [e1] at h
      rw [cellsFrom, hk]
      show (cellsFrom (n + 1) names ((y, n) :: acc)).lookup x = _
      rw [cellsFrom_old names (n + 1) _ x fun q => h (.tail _ q), List.lookup_cons]
      have : (x == y) = false := beq_eq_false_iff_ne.mpr fun q => h (by rw [q]; exact .head _)
      rw [this]
theorem cellsFrom_new : ∀ (names : List (Str × NameKind)) (n : Nat) (acc : List (Str × Addr)) (j : Nat) (x : Str), (cellNm names).Nodup → (cellNm names)[j]? = some x → (cellsFrom n names acc).lookup x = some (n + j)
  | [], _, _, j, _, _, h => by simp [kindNm] at h
  | (y, k) :: names, n, acc, j, x, hn, h => by
    cases hk : k == NameKind.cell with
    | false =>
      have e1 : cellNm ((y, k) :: names) = cellNm names := by simp only [kindNm, hk]
      rw [e1] at hn h
      rw [cellsFrom, hk]
      exact cellsFrom_new names n acc j x hn h
    | true =>
      have e1 : cellNm ((y, k) :: names) = y :: cellNm names := by simp only [kindNm, hk]
      rw [e1] at hn h
      rw [List.nodup_cons] at hn
      rw [cellsFrom, hk]
      show (cellsFrom (n + 1) names ((y, n) :: acc)).lookup x = _
      cases j with
      | zero =>
        simp at h; subst h
        rw [cellsFrom_old names (n + 1) _ y hn.1, List.lookup_cons, beq_self_eq_true]; rfl
      | succ j =>
        rw [cellsFrom_new names (n + 1) _ j x hn.2 (by simpa using h)]
        congr 1; omega
/-- values put into a frame, one behind the other -/
noncomputable def putL (vs : List (Option V)) (i : Nat) : List V → List (Option V)
  | [] => vs
  | a :: as => putL (vs.set i (some a)) (i + 1) as
theorem putL_is : ∀ (as : List V) (n : Nat) (pre : List (Option V)), as.length ≤ n → putL (pre ++ List.replicate n none) pre.length as = pre ++ as.map some ++ List.replicate (n - as.length) none
  | [], n, pre, _ => by simp [putL]
  | a :: as, 0, pre, h => by simp at h
  | a :: as, n + 1, pre, h => by
    rw [putL, List.replicate_succ, List.set_append_right _ _ (Nat.le_refl _), Nat.sub_self, List.set_cons_zero]
    have e : pre ++ some a :: List.replicate n none = (pre ++ [some a]) ++ List.replicate n none := by simp
    have e2 : pre.length + 1 = (pre ++ [some a]).length := by simp
    rw [e, e2, putL_is as n (pre ++ [some a]) (by simpa using h)]
    simp
theorem binds_is {loc : List Str} {k : Nat} (f : Str × Value → PUnit → Sem (ForInStep PUnit)) (hf : ∀ n v u, f (n, v) u = (do storeName env n v; pure (.yield ⟨⟩))) (hk : env.scope.kind = .function) :
    ∀ (bs : List (Str × Value)) (as : List V) (vs : List (Option V)) (i : Nat) {σ : List S} {s : Shared} {Q : PUnit → Shared → Prop} {Er : Value → Shared → Prop}, Rel C P Z φ σ s → φ[k]? = some (env.locals, loc) → σ[k]? = some (.frame vs) →
      (∀ (j : Nat) b, bs[j]? = some b → loc[i + j]? = some b.1 ∧ env.kindOf b.1 = some .local) → All2 (VIs C P φ) as (bs.map (·.2)) →
      (∀ s', Rel C P Z φ (σ.set k (.frame (putL vs i as))) s' → Q ⟨⟩ s') → wpAny (model C.prog C.w) A (forIn bs ⟨⟩ f) Q Er s
  | [], as, vs, i, σ, s, Q, Er, r, h1, h2, _, ha, h => by
    have : as = [] := List.eq_nil_of_length_eq_zero ha.1
    subst this
    rw [List.forIn_nil]
    refine wpAny_pure (h s ?_)
    have : σ.set k (.frame (putL vs i [])) = σ := by
      rw [putL]
      obtain ⟨hl, he⟩ := List.getElem?_eq_some_iff.mp h2
      rw [← he]; exact List.set_getElem_self hl
    rw [this]; exact r
  | (x, v) :: bs, [], vs, i, σ, s, Q, Er, r, h1, h2, hb, ha, h => by cases ha.1
  | (x, v) :: bs, a :: as, vs, i, σ, s, Q, Er, r, h1, h2, hb, ha, h => by
    obtain ⟨hx, hkx⟩ := hb 0 (x, v) rfl
    rw [Nat.add_zero] at hx
    rw [List.forIn_cons, hf]
    obtain ⟨_, _, o, ho, hnd, hlen, m, hns, hvs⟩ := r.own _ _ _ _ h1 h2
    refine wpAny_bind (wpAny_bind (wpAny_storeName_local hkx (hns.ns ho) (fun h' hn' hs' => wpAny_pure ?_) (by rw [hk]; rfl)))
    obtain ⟨o', ho', hns'⟩ := NsO.of hn'
    have r' : Rel C P Z φ (σ.set k (.frame (vs.set i (some a)))) { s with heap := h', toks := s.toks + 1 } := by
      refine r.update h1 h2 rfl hs' ho' ⟨hnd, by rw [List.length_set]; exact hlen, _, hns', fun j y V e1 e2 => ?_⟩
      by_cases hj : j = i
      · subst hj
        rw [hx] at e1; cases e1
        rw [List.getElem?_set_self (by rw [hlen]; exact (List.getElem?_eq_some_iff.mp hx).1)] at e2
        cases e2
        exact ⟨v, by simp, ha.tail.1⟩
      · rw [List.getElem?_set_ne (Ne.symm hj)] at e2
        obtain ⟨u, hu, hu'⟩ := hvs j y V e1 e2
        refine ⟨u, ?_, hu'⟩
        have : y ≠ x := fun q => by subst q; exact hj (nodup_get hnd e1 hx)
        simp [this, hu]
    have hk2 := (List.getElem?_eq_some_iff.mp h2).1
    refine binds_is f hf hk bs as (vs.set i (some a)) (i + 1) r' h1 (by rw [List.getElem?_set_self hk2]) (fun j b e => ?_) ha.tail.2 fun s' r'' => h s' ?_
    · have := hb (j + 1) b (by simpa using e)
      rw [show i + 1 + j = i + (j + 1) by omega]; exact this
    · rw [List.set_set] at r''
      exact r''
theorem newEnv_is {scope : Scope} {globals : Addr} {closure : List (Str × Addr)} {binds : List (Str × Value)} {qual : Str} {func : Option Addr} {code : Value} {around : Option Env} {builtins : Addr} {Q : Env → Shared → Prop} {Er : Value → Shared → Prop}
    (hk : scope.kind = .function) (loc : List Str) (hnd : loc.Nodup) (as : List V)
    (hb : ∀ (j : Nat) b, binds[j]? = some b → loc[j]? = some b.1 ∧ scope.names.lookup b.1 = some .local) (ha : All2 (VIs C P φ) as (binds.map (·.2))) (hle : as.length ≤ loc.length) (r : Rel C P Z φ σ s)
    (h : ∀ s', Rel C P Z (φ ++ (s.heap.objs.size, loc) :: cellPhi (s.heap.objs.size + 1) (cellNm scope.names)) (σ ++ .frame (as.map some ++ List.replicate (loc.length - as.length) none) :: (cellNm scope.names).map fun _ => .cell none) s' →
      Q (newEnv scope s.heap.objs.size globals (cellsFrom (s.heap.objs.size + 1) scope.names closure) qual func code around builtins) s') :
    wpAny (model C.prog C.w) A (newFunctionEnv scope globals closure binds qual func code around builtins) Q Er s := by
  have hns : ∀ T, NsO { cls := .type T, data := .dict #[] } (fun _ => none) := fun T => by
    obtain ⟨o, ho, hn⟩ := NsO.of (Heap.Ns.new s.heap (.type T))
    rw [Heap.get?_push_size _ rfl] at ho
    cases ho; exact hn
  have r1 := fun T => r.newOwn loc { cls := .type T, data := .dict #[] } (.frame (List.replicate loc.length none)) rfl
    ⟨hnd, by simp, _, hns T, fun j x V e1 e2 => by
      rw [List.getElem?_replicate] at e2
      split at e2 <;> cases e2⟩
  have r2 := fun T => pushCells_is scope.names (r1 T)
  have fin : ∀ (env : Env) (T : String), env.locals = s.heap.objs.size → env.scope = scope → ∀ (f : Str × Value → PUnit → Sem (ForInStep PUnit)), (∀ n v u, f (n, v) u = (do storeName env n v; pure (.yield ⟨⟩))) → ∀ Q' : PUnit → Shared → Prop,
      (∀ s', Rel C P Z (φ ++ (s.heap.objs.size, loc) :: cellPhi (s.heap.objs.size + 1) (cellNm scope.names)) (σ ++ .frame (as.map some ++ List.replicate (loc.length - as.length) none) :: (cellNm scope.names).map fun _ => .cell none) s' → Q' ⟨⟩ s') →
      wpAny (model C.prog C.w) A (forIn binds ⟨⟩ f) Q' Er { s with heap := pushCells (s.heap.push { cls := .type T, data := .dict #[] }) scope.names } := fun env T he hs f hf Q' hQ => by
    have r3 := r2 T
    rw [List.append_assoc, List.append_assoc] at r3
    have e3 : ({ s with heap := s.heap.push { cls := .type T, data := .dict #[] } } : Shared).heap.objs.size = s.heap.objs.size + 1 := Heap.size_push ..
    rw [e3] at r3
    refine binds_is (loc := loc) (k := φ.length) f hf (by rw [hs]; exact hk) binds as (List.replicate loc.length none) 0 r3 ?_ ?_ (fun j b e => ?_) (ha.vup (PLe.refl _) (List.prefix_append ..)) fun s' r4 => hQ s' ?_
    · rw [List.getElem?_append_right (Nat.le_refl _), Nat.sub_self, he]; rfl
    · rw [r.len, List.getElem?_append_right (Nat.le_refl _), Nat.sub_self]; rfl
    · rw [Nat.zero_add]
      obtain ⟨b1, b2⟩ := hb j b e
      exact ⟨b1, by show env.scope.names.lookup b.1 = _; rw [hs]; exact b2⟩
    · rw [r.len, List.set_append_right _ _ (Nat.le_refl _), Nat.sub_self] at r4
      have e4 := putL_is as loc.length [] hle
      rw [List.nil_append, List.nil_append] at e4
      have e5 : putL (List.replicate loc.length none) 0 as = as.map some ++ List.replicate (loc.length - as.length) none := e4
      rw [← e5]
      exact r4
  have e3 : ∀ T, ({ s with heap := s.heap.push { cls := .type T, data := .dict #[] } } : Shared).heap.objs.size = s.heap.objs.size + 1 := fun T => Heap.size_push ..
  cases around with
  | none =>
    simp only [newFunctionEnv, Option.isSome_none, Bool.false_eq_true, if_false]
    refine wpAny_bind (wpAny_alloc ?_)
    refine wpAny_bind (wpAny_layCells _ (fun name kind cells => by cases hkc : kind == NameKind.cell <;> simp [hkc]) _ _ _ _ ?_)
    rw [e3]
    exact wpAny_bind (fin (newEnv scope s.heap.objs.size globals (cellsFrom (s.heap.objs.size + 1) scope.names closure) qual func code none builtins) _ rfl rfl _ (fun _ _ _ => rfl) _ fun s' r' => wpAny_pure (h s' r'))
  | some outer =>
    simp only [newFunctionEnv, Option.isSome_some, if_true]
    refine wpAny_bind (wpAny_alloc ?_)
    refine wpAny_bind (wpAny_layCells _ (fun name kind cells => by cases hkc : kind == NameKind.cell <;> simp [hkc]) _ _ _ _ ?_)
    rw [e3]
    exact wpAny_bind (fin (newEnv scope s.heap.objs.size globals (cellsFrom (s.heap.objs.size + 1) scope.names closure) qual func code (some outer) builtins) _ rfl rfl _ (fun _ _ _ => rfl) _ fun s' r' => wpAny_pure (h s' r'))
end
end Mine
end
section
open PySem PySem.Calls PyProof.Rows PySem.W
namespace Mine
section
variable {C : Cx} {n : Nat} {nt : NT} {d : Dsc} {σ σ' : List S} {env : Env} {P Z : PH} {φ : Phi} {s : Shared} {A : Around}
/-- an iterator's object ahead of item k -/
inductive ItO (C : Cx) (P Z : PH) (items : List D) : Bool → Nat → Obj → Prop where
  | list {k : Nat} {o : Obj} {l : Addr} {vs : List Value} {n : Nat} : P l = some (listOf vs.toArray n) → All2 (DIs C P) items vs → o.cls = .type "list_iterator" → o.data = .fields #[.ref l, .int k 0] → ItO C P Z items false k o
  | tup {k : Nat} {o : Obj} {l : Addr} {vs : List Value} {n : Nat} : P l = some (tupOf vs.toArray n) → All2 (DIs C P) items vs → o.cls = .type "tuple_iterator" → o.data = .fields #[.ref l, .int k 0] → ItO C P Z items false k o
  | str {k : Nat} {o : Obj} {x : List Nat} {t : Tok} : items = x.map (fun c => .str [c]) → o.cls = .type "str_ascii_iterator" → o.data = .fields #[.str ⟨x.toArray⟩ t, .int k 0] → ItO C P Z items false k o
  | range {k : Nat} {o : Obj} {lo hi : Int} : items = rangeD lo hi → k ≤ items.length → o = { cls := .type "range_iterator", dict := none, data := .fields #[rawInt (lo + k), rawInt ((items.length : Int) - k), rawInt 1], slots := #[] } → ItO C P Z items false k o
  | keys {k : Nat} {o od : Obj} {dd : Addr} {es : List (List Nat × D)} {kvs : List (Str × Value)} {ep : Nat} : Z dd = some od → DictO C od kvs ep → All2 (EntK C P) es kvs → items = es.map (fun p => .str p.1) → o.cls = .type "dict_keyiterator" → o.data = .fields #[.ref dd, .int k 0, .int kvs.length 0, .int ep 0] → ItO C P Z items false k o
  | vals {k : Nat} {o od : Obj} {dd : Addr} {es : List (List Nat × D)} {kvs : List (Str × Value)} {ep : Nat} : Z dd = some od → DictO C od kvs ep → All2 (EntK C P) es kvs → items = es.map (fun p => p.2) → o.cls = .type "dict_valueiterator" → o.data = .fields #[.ref dd, .int k 0, .int kvs.length 0, .int ep 0] → ItO C P Z items false k o
  | items {k : Nat} {o od : Obj} {dd : Addr} {es : List (List Nat × D)} {kvs : List (Str × Value)} {ep : Nat} {ok ov : Value} : Z dd = some od → DictO C od kvs ep → All2 (EntK C P) es kvs → items = es.map (fun p => .tup [.str p.1, p.2]) → k ≤ kvs.length →
      o = { cls := .type "dict_itemiterator", dict := none, data := .fields #[.none, .bool false, .ref dd, .int k 0, .int kvs.length 0, .int ep 0, ok, ov], slots := #[] } → ItO C P Z items true k o
theorem ItO.mono {P' Z' : PH} {items : List D} {b : Bool} {k : Nat} {o : Obj} (h : ItO C P Z items b k o) (hp : PLe P P') (hz : PLe Z Z') : ItO C P' Z' items b k o := by
  cases h with
  | list a b c d => exact .list (hp _ _ a) (b.imp fun _ _ z => z.mono hp) c d
  | tup a b c d => exact .tup (hp _ _ a) (b.imp fun _ _ z => z.mono hp) c d
  | str a b c => exact .str a b c
  | range a b c => exact .range a b c
  | keys a b c d e f => exact .keys (hz _ _ a) b (c.imp fun _ _ z => z.mono hp) d e f
  | vals a b c d e f => exact .vals (hz _ _ a) b (c.imp fun _ _ z => z.mono hp) d e f
  | items a b c d e f => exact .items (hz _ _ a) b (c.imp fun _ _ z => z.mono hp) d e f
/-- the iterator is no dict -/
theorem ItO.notDict {items : List D} {b : Bool} {k : Nat} {o : Obj} (h : ItO C P Z items b k o) : o.cls ≠ .type "dict" := by
  cases h with
  | list _ _ c _ => rw [c]; decide
  | tup _ _ c _ => rw [c]; decide
  | str _ c _ => rw [c]; decide
  | range _ _ c => rw [c]; show Value.type "range_iterator" ≠ _; decide
  | keys _ _ _ _ c _ => rw [c]; decide
  | vals _ _ _ _ c _ => rw [c]; decide
  | items _ _ _ _ _ c => rw [c]; show Value.type "dict_itemiterator" ≠ _; decide
/-- an object that is nobody's turns -/
theorem Rel.other (r : Rel C P Z φ σ s) {a : Addr} {s' : Shared} (hs : Heap.ExtBut a s.heap s'.heap) (hP : P a = none) (hZ : Z a = none) (hφ : ∀ p ∈ φ, p.1 ≠ a) (hg : s'.gens = s.gens := by rfl) (ho : s'.os = s.os := by rfl) : Rel C P Z φ σ s' where
  base := r.base
  keep := fun b o e => hs b o (by rintro rfl; rw [hP] at e; cases e) (r.keep b o e)
  zkeep := fun b o e => hs b o (by rintro rfl; rw [hZ] at e; cases e) (r.zkeep b o e)
  disj := r.disj
  len := r.len
  nd := r.nd
  own := fun i b nm x e1 e2 => let ⟨p, q, o, h1, h2⟩ := r.own i b nm x e1 e2
    ⟨p, q, o, hs b o (hφ (b, nm) (List.mem_of_getElem? e1)) h1, h2⟩
  gens := hg.trans r.gens
  os := ho.trans r.os
/-- an object that is nobody's is held -/
theorem Rel.hold (r : Rel C P Z φ σ s) {a : Addr} {o : Obj} (ho : s.heap.get? a = some o) (hP : P a = none) (hZ : Z a = none) (hφ : ∀ p ∈ φ, p.1 ≠ a) : Rel C P (Z.put a o) φ σ s where
  base := r.base
  keep := r.keep
  zkeep := fun b x e => by
    unfold PH.put at e
    split at e
    · rename_i q; subst q; cases e; exact ho
    · exact r.zkeep b x e
  disj := fun b => by
    by_cases q : b = a
    · subst q; exact .inl hP
    · rw [PH.put_ne q]; exact r.disj b
  len := r.len
  nd := r.nd
  own := fun i b nm x e1 e2 => let ⟨p, q, o', h1, h2⟩ := r.own i b nm x e1 e2
    ⟨p, fun hl => by rw [PH.put_ne (hφ (b, nm) (List.mem_of_getElem? e1))]; exact q hl, o', h1, h2⟩
  gens := r.gens
  os := r.os
theorem Rel.letgo {a : Addr} {o : Obj} (hZ : Z a = none) (r : Rel C P (Z.put a o) φ σ s) (hc : o.cls ≠ .type "dict") : Rel C P Z φ σ s ∧ P a = none ∧ s.heap.get? a = some o ∧ ∀ p ∈ φ, p.1 ≠ a := by
  have hP : P a = none := by
    rcases r.disj a with q | q
    · exact q
    · rw [PH.put_self] at q; cases q
  have ho := r.zkeep a o PH.put_self
  have le : ∀ b x, Z b = some x → (Z.put a o) b = some x := PH.put_le hZ
  refine ⟨⟨r.base, r.keep, fun b x e => r.zkeep b x (le b x e), fun b => ?_, r.len, r.nd, fun i b nm x e1 e2 => ?_, r.gens, r.os⟩, hP, ho, fun p hp q => ?_⟩
  · rcases r.disj b with q | q
    · exact .inl q
    · cases z : Z b with
      | none => exact .inr rfl
      | some x => rw [le b x z] at q; cases q
  · obtain ⟨p, q, o', h1, h2⟩ := r.own i b nm x e1 e2
    refine ⟨p, fun hl => ?_, o', h1, h2⟩
    cases z : Z b with
    | none => rfl
    | some y => have := q hl; rw [le b y z] at this; cases this
  · obtain ⟨i, hi⟩ := List.mem_iff_getElem?.mp hp
    obtain ⟨x, hx⟩ := r.lt (a := p.1) (nm := p.2) hi
    obtain ⟨_, h2, o', h3, h4⟩ := r.own i p.1 p.2 x hi hx
    rw [q] at h2 h3
    rw [ho] at h3; cases h3
    cases x with
    | mdict lk es =>
      obtain ⟨kvs, ep, ⟨es', ⟨hcc, _⟩, _⟩, _⟩ := h4
      exact hc hcc
    | frame vs => have := h2 rfl; rw [PH.put_self] at this; cases this
    | cell v => have := h2 rfl; rw [PH.put_self] at this; cases this
    | mlist xs => have := h2 rfl; rw [PH.put_self] at this; cases this
    | inst c => have := h2 rfl; rw [PH.put_self] at this; cases this
    | idict c fs => have := h2 rfl; rw [PH.put_self] at this; cases this
end
end Mine
end
section
open PySem PySem.Calls PyProof.Rows PySem.W
namespace Mine
section
variable {C : Cx} {n : Nat} {nt : NT} {d : Dsc} {σ σ' : List S} {env : Env} {P Z : PH} {φ : Phi} {s : Shared} {A : Around}
noncomputable def ownedBy : List String := ["enumerate", "zip", "dict_itemiterator", "dict_reverseitemiterator", "odict_iterator", "itertools.zip_longest", "itertools.pairwise"]
theorem noOwn {target : PySem.Expr} {I : Addr} {o : Obj} {v : Value} {T : String} {M : Model} {Er : Value → Shared → Prop} {Q : Unit → Shared → Prop} (ho : s.heap.get? I = some o) (hc : o.cls = .type T) (hn : ownedBy.contains T = false) (h : Q () s) : wpAny M A (letOwnedTupleGo target (.ref I) v) Q Er s := by
  obtain ⟨cls, dict, data, slots⟩ := o
  have hc : cls = .type T := hc
  subst hc
  have key : ∀ a, wpAny M A (letOwnedTupleGo (.Tuple [] 0 ⟨0, 0, 0, 0⟩) (.ref I) (.ref a)) Q Er s := fun a => by
    refine wpAny_bind (wpAny_load ho ?_)
    cases data with
    | fields vs =>
      show wpAny _ _ (if (ownedBy.contains T && _) = true then _ else _) _ _ _
      rw [hn, Bool.false_and, if_neg Bool.false_ne_true]
      exact wpAny_pure h
    | _ => exact wpAny_pure h
  cases target with
  | Tuple =>
    cases v with
    | ref a => exact key a
    | _ => exact wpAny_pure h
  | List =>
    cases v with
    | ref a => exact key a
    | _ => exact wpAny_pure h
  | _ => exact wpAny_pure h
noncomputable def NextP (C : Cx) (P Z : PH) (φ : Phi) (σ : List S) (A : Around) (target : PySem.Expr) (items : List D) (b : Bool) (k : Nat) (I : Addr) : Option Value → Shared → Prop := fun q s₁ => match q with
  | none => items[k]? = none ∧ Rel C P Z φ σ s₁
  | some v => ∃ x, items[k]? = some x ∧ wpAny (model C.prog C.w) A (letOwnedTupleGo target (.ref I) v) (fun _ s₂ => ∃ P' o', PLe P P' ∧ P' I = none ∧ Rel C P' Z φ σ s₂ ∧ DIs C P' x v ∧ s₂.heap.get? I = some o' ∧ ItO C P' Z items b (k + 1) o') NoE s₁
theorem All2.at {α β : Type} {R : α → β → Prop} {xs : List α} {ys : List β} (h : All2 R xs ys) (k : Nat) : (xs[k]? = none ∧ ys[k]? = none) ∨ ∃ x y, xs[k]? = some x ∧ ys[k]? = some y ∧ R x y := by
  cases e : xs[k]? with
  | none =>
    refine .inl ⟨rfl, ?_⟩
    rw [List.getElem?_eq_none_iff] at e ⊢
    rw [← h.1]; exact e
  | some x =>
    obtain ⟨y, h1, h2⟩ := h.getD e
    exact .inr ⟨x, y, rfl, h1, h2⟩
theorem next_at {target : PySem.Expr} {items : List D} {b : Bool} {k : Nat} {I : Addr} {o' : Obj} {x : D} {v : Value} {T : String} (hx : items[k]? = some x) (r : Rel C P Z φ σ s) (hP : P I = none) (hd : DIs C P x v) (ho : s.heap.get? I = some o') (hc : o'.cls = .type T) (hn : ownedBy.contains T = false) (it : ItO C P Z items b (k + 1) o') :
    NextP C P Z φ σ A target items b k I (some v) s := ⟨x, hx, noOwn ho hc hn ⟨P, o', PLe.refl _, hP, r, hd, ho, it⟩⟩
theorem map_at {α β : Type} {xs : List α} {f : α → β} {k : Nat} {x : α} (h : xs[k]? = some x) : (xs.map f)[k]? = some (f x) := by rw [List.getElem?_map, h]; rfl
theorem map_end {α β : Type} {xs : List α} {f : α → β} {k : Nat} (h : xs[k]? = none) : (xs.map f)[k]? = none := by rw [List.getElem?_map, h]; rfl
theorem key_is {k : Str} {key : Value} (h : (PySem.strKind C.prog C.w).is k key = true) : ∃ t, key = .str k t := by
  cases key with
  | str y t =>
    have h : (y == k) = true := h
    exact ⟨t, by rw [beq_iff_eq.mp h]⟩
  | _ => exact ff0 _ h
theorem it_next {target : PySem.Expr} {items : List D} {b : Bool} {k : Nat} {I : Addr} {o : Obj} (r : Rel C P Z φ σ s) (ho : s.heap.get? I = some o) (it : ItO C P Z items b k o) (hP : P I = none) (hZ : Z I = none) (hφ : ∀ p ∈ φ, p.1 ≠ I) (hh : A.handled = none)
    (ht : b = true → ∃ elts x p, target = .Tuple elts x p) : wpAny (model C.prog C.w) A (pyNext (.ref I)) (NextP C P Z φ σ A target items b k I) NoE s := by
  have oth : ∀ {s' : Shared}, Heap.ExtBut I s.heap s'.heap → s'.gens = s.gens → s'.os = s.os → Rel C P Z φ σ s' := fun hs hg ho => r.other hs hP hZ hφ hg ho
  cases it with
  | list a q c e =>
    rename_i l vs n
    have hl := IsL.isL (r.keep _ _ a)
    rcases q.at k with ⟨q1, q2⟩ | ⟨x, v, q1, q2, q3⟩
    · exact wpAny_pyNext_list_end hh ⟨o, ho, c, e⟩ hl (by simpa using q2) fun h' he => ⟨q1, oth he rfl rfl⟩
    · refine wpAny_pyNext_list_item ⟨o, ho, c, e⟩ hl (by simpa using q2) fun h' hg hs => ?_
      obtain ⟨o', g1, g2, g3⟩ := hg
      exact next_at q1 (oth hs.extBut rfl rfl) hP q3 g1 g2 (by decide +kernel) (.list a q g2 g3)
  | tup a q c e =>
    rename_i l vs n
    have hl : s.heap.IsTuple l vs.toArray := ⟨_, r.keep _ _ a, rfl, n, rfl⟩
    rcases q.at k with ⟨q1, q2⟩ | ⟨x, v, q1, q2, q3⟩
    · exact wpAny_pyNext_tuple_end hh ⟨o, ho, c, e⟩ hl (by simpa using q2) fun h' he => ⟨q1, oth he rfl rfl⟩
    · refine wpAny_pyNext_tuple_item ⟨o, ho, c, e⟩ hl (by simpa using q2) fun h' hg hs => ?_
      obtain ⟨o', g1, g2, g3⟩ := hg
      exact next_at q1 (oth hs.extBut rfl rfl) hP q3 g1 g2 (by decide +kernel) (.tup a q g2 g3)
  | str q c e =>
    rename_i x t
    subst q
    cases hx : x[k]? with
    | none => exact wpAny_pyNext_ascii_end hh ⟨o, ho, c, e⟩ (by simpa using hx) fun h' he => ⟨map_end hx, oth he rfl rfl⟩
    | some ch =>
      refine wpAny_pyNext_ascii_item ⟨o, ho, c, e⟩ (c := ch) (by simpa using hx) fun h' hg hs => ?_
      obtain ⟨o', g1, g2, g3⟩ := hg
      exact next_at (map_at hx) (oth hs.extBut rfl rfl) hP (DIs.str [ch] _) g1 g2 (by decide +kernel) (.str rfl g2 g3)
  | range q hk e =>
    rename_i lo hi
    subst e
    by_cases hlt : k < items.length
    · have hx : items[k]? = some (.int (lo + k)) := by
        subst q
        unfold rangeD at hlt ⊢
        rw [List.length_map, List.length_range] at hlt
        rw [List.getElem?_map, List.getElem?_range hlt]; rfl
      refine wpAny_pyNext_range_item ho (by omega) fun h' g1 hs => next_at hx (oth hs.extBut rfl rfl) hP (DIs.int _ _) g1 rfl (by decide +kernel) (.range q hlt ?_)
      have e1 : lo + (k : Int) + 1 = lo + ((k + 1 : Nat) : Int) := by omega
      have e2 : (items.length : Int) - k - 1 = (items.length : Int) - ((k + 1 : Nat) : Int) := by omega
      rw [e1, e2]
    · have hx : items[k]? = none := List.getElem?_eq_none (by omega)
      exact wpAny_pyNext_range_end hh ho (by omega) fun h' he => ⟨hx, oth he rfl rfl⟩
  | keys hz hd q hi c e =>
    rename_i od dd es kvs ep
    have hm := DictO.dictAt (r.zkeep _ _ hz) hd
    subst hi
    rcases q.at k with ⟨q1, q2⟩ | ⟨x, v, q1, q2, q3⟩
    · exact wpAny_pyNext_dict_end hh ⟨o, ho, c, e⟩ hm q2 fun h' he => ⟨map_end q1, oth he rfl rfl⟩
    · refine wpAny_pyNext_dict_item (k := v.1) (v := v.2) ⟨o, ho, c, e⟩ hm q2 fun key h' hkey hg hs => ?_
      obtain ⟨o', g1, g2, g3⟩ := hg
      rw [q3.1] at hkey
      obtain ⟨t, rfl⟩ := key_is hkey
      exact next_at (map_at q1) (oth hs.extBut rfl rfl) hP (DIs.str _ _) g1 g2 (by decide +kernel) (.keys hz hd q rfl g2 g3)
  | vals hz hd q hi c e =>
    rename_i od dd es kvs ep
    have hm := DictO.dictAt (r.zkeep _ _ hz) hd
    subst hi
    rcases q.at k with ⟨q1, q2⟩ | ⟨x, v, q1, q2, q3⟩
    · exact wpAny_pyNext_values_end hh ⟨o, ho, c, e⟩ hm q2 fun h' he => ⟨map_end q1, oth he rfl rfl⟩
    · refine wpAny_pyNext_values_item (k := v.1) (v := v.2) ⟨o, ho, c, e⟩ hm q2 fun h' hg hs => ?_
      obtain ⟨o', g1, g2, g3⟩ := hg
      exact next_at (map_at q1) (oth hs.extBut rfl rfl) hP q3.2 g1 g2 (by decide +kernel) (.vals hz hd q rfl g2 g3)
  | items hz hd q hi hk e =>
    rename_i od dd es kvs ep ok ov
    obtain ⟨elts, x0, p0, rfl⟩ := ht rfl
    have hm := DictO.dictAt (r.zkeep _ _ hz) hd
    subst hi e
    rcases q.at k with ⟨q1, q2⟩ | ⟨x, v, q1, q2, q3⟩
    · exact wpAny_pyNext_items_end hh ho hm q2 fun h' he => ⟨map_end q1, oth he rfl rfl⟩
    · obtain ⟨vk, vv⟩ := v
      refine wpAny_pyNext_items_item ho hm q2 fun key h' hkey g1 g2 g3 g4 => ⟨.tup [.str x.1, x.2], map_at q1, ?_⟩
      rw [show vk = _ from q3.1] at hkey
      obtain ⟨t, rfl⟩ := key_is hkey
      have hlt : k < kvs.length := (List.getElem?_eq_some_iff.mp q2).1
      have hI : I < s.heap.objs.size := Heap.lt_size ho
      refine wpAny_letOwnedTupleGo_items g1 fun h₂ e2 hs2 => ?_
      obtain ⟨n1, n2, n3⟩ := r.none_at (size_none s.heap)
      have r2 : Rel C P Z φ σ { s with heap := h₂ } := oth (s' := { s with heap := h₂ }) (fun b x hb e => hs2.extBut b x hb (g4 b x hb e)) rfl rfl
      have hT : h₂.get? s.heap.objs.size = some (tupOf #[.str ⟨x.1.toArray⟩ t, vv] 0) := hs2.extBut _ _ (Nat.ne_of_gt hI) g2
      refine ⟨P.put s.heap.objs.size (tupOf #[.str ⟨x.1.toArray⟩ t, vv] 0), _, PH.put_le n1, ?_, r2.freeze hT n1 n2 n3, ?_, e2, .items hz hd (q.imp fun _ _ z => z.mono (PH.put_le n1)) rfl hlt rfl⟩
      · rw [PH.put_ne (Nat.ne_of_lt hI)]; exact hP
      · refine DIs.of_tup (vs := [.str ⟨x.1.toArray⟩ t, vv]) (n := 0) PH.put_self ?_
        exact All2.cons (DIs.str _ _) (All2.one (q3.2.mono (PH.put_le n1)))
end
end Mine
end
section
open PySem PySem.Calls PyProof.Rows PySem.W
namespace Mine
section
variable {C : Cx} {O : Ops} {n : Nat} {nt : NT} {d : Dsc} {σ σ' : List S} {env : Env} {P Z : PH} {φ : Phi} {s : Shared} {A : Around}
theorem Rel.lock (r : Rel C P Z φ σ s) {i : Nat} {a : Addr} {nm : List Str} {es : List (List Nat × D)} {o : Obj} (e1 : φ[i]? = some (a, nm)) (e2 : σ[i]? = some (.mdict false es)) (ho : s.heap.get? a = some o) : Rel C P (Z.put a o) φ (σ.set i (.mdict true es)) s where
  base := r.base
  keep := r.keep
  zkeep := fun b x e => by
    unfold PH.put at e
    split at e
    · rename_i q; subst q; cases e; exact ho
    · exact r.zkeep b x e
  disj := fun b => by
    by_cases q : b = a
    · subst q; exact .inl (r.own i b nm _ e1 e2).1
    · rw [PH.put_ne q]; exact r.disj b
  len := by rw [List.length_set]; exact r.len
  nd := r.nd
  own := fun j b nm' x h1 h2 => by
    by_cases hj : j = i
    · subst hj
      rw [e1] at h1; cases h1
      rw [List.getElem?_set_self (List.getElem?_eq_some_iff.mp e2).1] at h2; cases h2
      obtain ⟨p, _, o', k1, k2⟩ := r.own j a nm _ e1 e2
      exact ⟨p, fun h => (nomatch h), o', k1, k2⟩
    · rw [List.getElem?_set_ne (Ne.symm hj)] at h2
      obtain ⟨p, q, o', k1, k2⟩ := r.own j b nm' x h1 h2
      exact ⟨p, fun h => by rw [PH.put_ne (fun z => hj (by subst z; exact r.inj h1 e1))]; exact q h, o', k1, k2⟩
  gens := r.gens
  os := r.os
theorem Rel.unlock {i : Nat} {a : Addr} {nm : List Str} {es : List (List Nat × D)} {o : Obj} (r : Rel C P (Z.put a o) φ σ s) (hZ : Z a = none) (e1 : φ[i]? = some (a, nm)) (hx : SIs C P φ i nm o (.mdict false es)) : Rel C P Z φ (σ.set i (.mdict false es)) s where
  base := r.base
  keep := r.keep
  zkeep := fun b x e => r.zkeep b x (PH.put_le hZ b x e)
  disj := fun b => by
    rcases r.disj b with q | q
    · exact .inl q
    · cases z : Z b with
      | none => exact .inr rfl
      | some x => rw [PH.put_le hZ b x z] at q; cases q
  len := by rw [List.length_set]; exact r.len
  nd := r.nd
  own := fun j b nm' x h1 h2 => by
    by_cases hj : j = i
    · subst hj
      rw [e1] at h1; cases h1
      obtain ⟨y, hy⟩ := r.lt e1
      rw [List.getElem?_set_self (List.getElem?_eq_some_iff.mp hy).1] at h2; cases h2
      exact ⟨(r.own j a nm _ e1 hy).1, fun _ => hZ, o, r.zkeep _ _ PH.put_self, hx⟩
    · rw [List.getElem?_set_ne (Ne.symm hj)] at h2
      obtain ⟨p, q, o', k1, k2⟩ := r.own j b nm' x h1 h2
      refine ⟨p, fun h => ?_, o', k1, k2⟩
      cases z : Z b with
      | none => rfl
      | some y => have := q h; rw [PH.put_le hZ b y z] at this; cases this
  gens := r.gens
  os := r.os
/-- how the dict of a loop is locked -/
inductive Lock (C : Cx) (P Z : PH) (φ : Phi) (σ : List S) : Option Nat → PH → Prop where
  | none : Lock C P Z φ σ none Z
  | some {i : Nat} {a : Addr} {nm : List Str} {o : Obj} {es : List (List Nat × D)} : φ[i]? = some (a, nm) → Z a = none → σ[i]? = some (.mdict false es) → SIs C P φ i nm o (.mdict false es) → Lock C P Z φ σ (some i) (Z.put a o)
theorem Lock.off {lk : Option Nat} {P' Z' : PH} {φ' : Phi} (l : Lock C P Z φ σ lk Z') (hp : PLe P P') (hf : φ <+: φ') (r : Rel C P' Z' φ' σ' s) : Rel C P' Z φ' (unlock lk σ σ') s := by
  cases l with
  | none => exact r
  | some e1 hz e2 hx =>
    have := r.unlock hz (getElem?_of_prefix hf e1) (hx.mono hp hf)
    unfold unlock
    simp only [e2]
    exact this
structure Starts (C : Cx) (P Z : PH) (φ : Phi) (σ : List S) (items : List D) (k : IK) (lk : Option Nat) (v : Value) (s₂ : Shared) : Prop where
  is : ∃ P' φ' Z' I o b, PLe P P' ∧ φ <+: φ' ∧ v = .ref I ∧ Rel C P' Z' φ' (lockAs true lk σ) s₂ ∧ s₂.heap.get? I = some o ∧ P' I = none ∧ Z' I = none ∧ (∀ p ∈ φ', p.1 ≠ I) ∧ ItO C P' Z' items b 0 o ∧ (b = true → k = .items ∧ lk.isSome = true) ∧ Lock C P' Z φ' σ lk Z'
/-- a new iterator -/
theorem starts_new {items : List D} {k : IK} {lk : Option Nat} {o : Obj} {b : Bool} {Z' : PH} (r : Rel C P Z' φ (lockAs true lk σ) s) (hf : o.isFreed = false) (hi : ItO C P Z' items b 0 o) (hb : b = true → k = .items ∧ lk.isSome = true) (hl : Lock C P Z φ σ lk Z') :
    Starts C P Z φ σ items k lk (.ref s.heap.objs.size) { s with heap := s.heap.push o } := by
  obtain ⟨n1, n2, n3⟩ := r.none_at (size_none s.heap)
  exact ⟨P, φ, Z', _, o, b, PLe.refl _, List.prefix_refl _, rfl, r.push o, Heap.get?_push_size _ hf, n1, n2, n3, hi, hb, hl⟩
theorem Starts.up {items : List D} {k : IK} {lk : Option Nat} {P₁ : PH} {φ₁ : Phi} {v : Value} (h : Starts C P₁ Z φ₁ σ items k lk v s) (hp : PLe P P₁) (hf : φ <+: φ₁) : Starts C P Z φ σ items k lk v s := by
  obtain ⟨P', φ', Z', I, o, b, a1, a2, r⟩ := h.is
  exact ⟨P', φ', Z', I, o, b, hp.trans a1, hf.trans a2, r⟩
/-- an iterator that is nobody's, ahead of item k -/
structure ItAt (C : Cx) (P Z : PH) (φ : Phi) (σ : List S) (s : Shared) (I : Addr) (all : List D) (b : Bool) (k : Nat) : Prop where
  rel : Rel C P Z φ σ s
  obj : ∃ o, s.heap.get? I = some o ∧ ItO C P Z all b k o
  noP : P I = none
  noZ : Z I = none
  noF : ∀ p ∈ φ, p.1 ≠ I
@[elab_as_elim] theorem Starts.freeK {items : List D} {k : IK} {v : Value} {G : Value → Prop} (h : Starts C P Z φ σ items k none v s) (g : ∀ P' φ' I, PLe P P' → φ <+: φ' → ItAt C P' Z φ' σ s I items false 0 → G (.ref I)) : G v := by
  obtain ⟨P', φ', Z', I, o, b, a1, a2, rfl, r, ho, hP, hZ, hφ, it, hb, hl⟩ := h.is
  cases hl
  cases b with
  | true => exact ff _ (hb rfl).2
  | false => exact g P' φ' I a1 a2 ⟨r, ⟨o, ho, it⟩, hP, hZ, hφ⟩
noncomputable def onNext (N : Shared → Prop) (T : Value → Shared → Prop) (r : Option Value) (s : Shared) : Prop := match r with
  | none => N s
  | some v => T v s
/-- the iterator's end -/
theorem it_end {target : PySem.Expr} {all : List D} {b : Bool} {k : Nat} {I : Addr} {N : Shared → Prop} {T : Value → Shared → Prop} (c : ItAt C P Z φ σ s I all b k) (hx : all[k]? = none) (hh : A.handled = none) (ht : b = true → ∃ elts x p, target = .Tuple elts x p) (h : ∀ s₁, Rel C P Z φ σ s₁ → N s₁) :
    wpAny (model C.prog C.w) A (pyNext (.ref I)) (onNext N T) NoE s := by
  obtain ⟨r, ⟨o, ho, it⟩, hP, hZ, hφ⟩ := c
  refine wpAny_mono (it_next (target := target) r ho it hP hZ hφ hh ht) (fun q s₁ hq => ?_) fun _ _ z => z
  cases q with
  | none => exact h s₁ hq.2
  | some v => exact hq.elim fun x hq => nsome (hx.symm.trans hq.1)
/-- one more item; the iterator is held meanwhile -/
theorem it_item {target : PySem.Expr} {all : List D} {b : Bool} {k : Nat} {I : Addr} {x : D} {N : Shared → Prop} {T : Value → Shared → Prop} (c : ItAt C P Z φ σ s I all b k) (hx : all[k]? = some x) (hh : A.handled = none) (ht : b = true → ∃ elts x p, target = .Tuple elts x p)
    (h : ∀ P₁ o₁ s₂ v, PLe P P₁ → Rel C P₁ (Z.put I o₁) φ σ s₂ → DIs C P₁ x v → (∀ {P₂ φ₂ σ₂ s₃}, PLe P₁ P₂ → Rel C P₂ (Z.put I o₁) φ₂ σ₂ s₃ → ItAt C P₂ Z φ₂ σ₂ s₃ I all b (k + 1)) → T v s₂) :
    wpAny (model C.prog C.w) A (pyNext (.ref I)) (onNext N fun v s₁ => wpAny (model C.prog C.w) A (letOwnedTupleGo target (.ref I) v) (fun _ s₂ => T v s₂) NoE s₁) NoE s := by
  obtain ⟨r, ⟨o, ho, it⟩, hP, hZ, hφ⟩ := c
  refine wpAny_mono (it_next (target := target) r ho it hP hZ hφ hh ht) (fun q s₁ hq => ?_) fun _ _ z => z
  cases q with
  | none => exact nsome (hq.1.symm.trans hx)
  | some v =>
    obtain ⟨x0, e1, hq2⟩ := hq
    have e := Option.some.inj (hx.symm.trans e1)
    subst e
    refine wpAny_mono hq2 (fun _ s₂ hq => ?_) fun _ _ z => z
    obtain ⟨P₁, o₁, p1, hP1, r1, hd, ho1, it1⟩ := hq
    refine h P₁ o₁ s₂ v p1 (r1.hold ho1 hP1 hZ hφ) hd fun p2 r3 => ?_
    have g := Rel.letgo hZ r3 it1.notDict
    exact ⟨g.1, ⟨o₁, g.2.2.1, it1.mono p2 (PLe.refl _)⟩, g.2.1, hZ, g.2.2.2⟩
theorem range_small {lo hi : Int} (h1 : small64 lo = true) (h2 : small64 hi = true) : Builtin.Range.small lo hi 1 = true ∧ Builtin.Range.rangeSize lo hi 1 = ((rangeD lo hi).length : Int) := by
  have b : ∀ {i : Int}, small64 i = true → -1000001 ≤ i ∧ i ≤ 1000000 := fun {i} h => by
    cases i with
    | ofNat n => have := Nat.le_of_ble_eq_true h; simp; omega
    | negSucc n => have := Nat.le_of_ble_eq_true h; omega
  have e : Builtin.Range.rangeSize lo hi 1 = ((rangeD lo hi).length : Int) := by
    unfold Builtin.Range.rangeSize rangeD
    rw [List.length_map, List.length_range, if_pos (by decide)]
    split
    · rw [Int.ediv_one]; omega
    · omega
  refine ⟨?_, e⟩
  have hb1 := b h1
  have hb2 := b h2
  have hs : Builtin.Range.rangeSize lo hi 1 ≤ 3000000 ∧ 0 ≤ Builtin.Range.rangeSize lo hi 1 := by
    unfold Builtin.Range.rangeSize
    rw [if_pos (by decide)]
    split
    · rw [Int.ediv_one]; omega
    · omega
  unfold Builtin.Range.small Builtin.Range.rangeFitsLong
  simp
  omega
end
end Mine
end
section
open PySem PySem.Calls PyProof.Rows PySem.W
namespace Mine
section
variable {C : Cx} {O : Ops} {n : Nat} {nt : NT} {d : Dsc} {σ σ' : List S} {env : Env} {P Z : PH} {φ : Phi} {s : Shared} {A : Around}
/-- a run over a dict -/
@[elab_as_elim] theorem dict_starts {i : Nat} {es : List (List Nat × D)} {v : Value} {G : Value → Prop} (r : Rel C P Z φ σ s) (hv : VIs C P φ (.ref i) v) (hσ : σ[i]? = some (.mdict false es))
    (h : ∀ a nm o kvs ep, φ[i]? = some (a, nm) → DictO C o kvs ep → s.heap.get? a = some o → All2 (EntK C P) es kvs → (∀ {o' : Obj} {k : IK} {b : Bool} {items : List D} {s' : Shared}, (∀ b o, s.heap.get? b = some o → s'.heap.get? b = some o) → s'.gens = s.gens → s'.os = s.os → o'.isFreed = false → ItO C P (Z.put a o) items b 0 o' → (b = true → k = .items ∧ (some i).isSome = true) → Starts C P Z φ σ items k (some i) (.ref s'.heap.objs.size) { s' with heap := s'.heap.push o' }) → G (.ref a)) : G v := by
  obtain ⟨a, nm, o, kvs, ep, rfl, e1, e2, e3, e4⟩ := dict_at r hv hσ
  have hz := (r.own _ _ _ _ e1 hσ).2.1 rfl
  have el : lockAs true (some i) σ = σ.set i (.mdict true es) := by simp only [lockAs, hσ]
  refine h a nm o kvs ep e1 e3 e2 e4 fun h1 h2 h3 hf hi hb => starts_new ?_ hf hi hb (.some e1 hz hσ ⟨kvs, ep, e3, e4⟩)
  rw [el]
  exact (r.lock e1 hσ e2).grow h1 h2 h3
theorem ascii_all {xs : List Nat} (h : (xs.all fun c => Nat.blt c 128) = true) : (xs.toArray.all fun c => decide (c < 128)) = true := by
  rw [List.all_toArray]
  exact List.all_eq_true.mpr fun c hc => decide_eq_true (Nat.le_of_ble_eq_true (List.all_eq_true.mp h c hc))
theorem iter_val {x : V} {v : Value} (hm : ∃ o, C.h₀.get? sysModules = some o) (r : Rel C P Z φ σ s) (hv : VIs C P φ x v) :
    So (iterV x σ) fun p => wpAny (model C.prog C.w) A (pyIter v) (fun v s₂ => Starts C P Z φ σ p.1 .val p.2 v s₂) NoE s := by
  delta iterV
  refine litK hv (fun a vs n xs pa qa => So.just (wpAny_pyIter_list (IsL.isL (r.keep _ _ pa)) (starts_new r rfl (.list pa qa rfl rfl) (fun h => (nomatch h)) .none))) fun v hv => So.skip ?_
  refine tupK hv (fun a vs n xs pa qa => So.just (wpAny_pyIter_tuple ⟨_, r.keep _ _ pa, rfl, n, rfl⟩ (starts_new r rfl (.tup pa qa rfl rfl) (fun h => (nomatch h)) .none))) fun v hv => So.skip ?_
  refine strK hv (fun xs t => So.gd fun ha => So.just (wpAny_pyIter_ascii (ascii_all ha) (starts_new r rfl (.str rfl rfl rfl) (fun h => (nomatch h)) .none))) fun v hv => So.skip ?_
  exact refK hv (fun k a nm e => So.step <| So.bind <| So.opn fun es hσ => So.just (dict_starts r ⟨a, nm, e, rfl⟩ hσ fun a nm o kvs ep e1 e3 e2 e4 st =>
    wpAny_pyIter_dict (not_modules r hm e1) (DictO.dictAt e2 e3) (st (fun _ _ e => e) rfl rfl rfl (.keys PH.put_self e3 e4 rfl rfl rfl) (fun h => (nomatch h))))) fun _ _ => So.nil
theorem range_starts {lo hj : Int} {t u v : Tok} (k : Nat) (h1 : small64 lo = true) (h2 : small64 hj = true) (r : Rel C P Z φ σ s) :
    wpAny (model C.prog C.w) A (pyIter (.ref s.heap.objs.size)) (fun v s₂ => Starts C P Z φ σ (rangeD lo hj) .range none v s₂) NoE { s with heap := s.heap.push { cls := .type "range", data := .fields #[.int lo t, .int hj u, .int 1 v] }, toks := k } := by
  obtain ⟨g1, g2⟩ := range_small h1 h2
  refine wpAny_pyIter_range (a := lo) (b := hj) (c := 1) (t := t) (u := u) (v := v) (Heap.get?_push_size _ rfl) g1 ?_
  have r2 := (r.push { cls := .type "range", data := .fields #[.int lo t, .int hj u, .int 1 v] }).toks k
  refine starts_new r2 rfl (.range rfl (Nat.zero_le _) ?_) (fun h => (nomatch h)) .none
  rw [g2, show lo + ((0 : Nat) : Int) = lo from Int.add_zero lo, show ((rangeD lo hj).length : Int) - ((0 : Nat) : Int) = ((rangeD lo hj).length : Int) from Int.sub_zero _]
theorem range_sn {vs : List V} {as : List Value} (r : Rel C P Z φ σ s) (h : All2 (VIs C P φ) vs as) :
    So (iterR vs) fun p => wpAny (model C.prog C.w) A (call (.type "range") as) (fun x s₁ => wpAny (model C.prog C.w) A (pyIter x) (fun v s₂ => Starts C P Z φ σ p.1 .range p.2 v s₂) NoE s₁) NoE s := by
  cases vs with
  | nil => exact So.nil
  | cons a vs =>
    refine h.consK fun va as ha h => ?_
    cases vs with
    | nil =>
      rw [h.nil_l]
      show So ((intV a).bind fun hi => gd (small64 hi) (some (rangeD 0 hi, none))) _
      exact intK ha (fun i t => So.gd fun hs => So.just (call_range_1 (range_starts _ rfl hs r))) fun _ _ => So.nil
    | cons b vs =>
      refine h.consK fun vb as hb h => ?_
      cases vs with
      | nil =>
        rw [h.nil_l]
        show So (int2 a b fun lo hi => gd (small64 lo) (gd (small64 hi) (some (rangeD lo hi, none)))) _
        exact int2K ha hb (fun x y t u => So.gd fun h1 => So.gd fun h2 => So.just (call_range_2 (range_starts _ h1 h2 r))) fun _ _ => So.nil
      | cons _ _ => exact So.nil
/-- items or values of a dict -/
theorem view_so {f : List Nat × D → D} {x : V} {σ : List S} : So (iterW f [x] σ) fun q => ∃ i es, x = .ref i ∧ σ[i]? = some (.mdict false es) ∧ q = (es.map f, some i) :=
  So.step <| refV_so fun n e => So.bind <| So.opn fun es hσ => So.just ⟨n, es, e, hσ, rfl⟩
/-- one thing looked at, then a loop over it -/
theorem iter_sn {mg mb : Str → Option Value} (G : Glob C mg mb) (hm : ∃ o, C.h₀.get? sysModules = some o) (H : EvS C O n) {k : IK} {ia : List E} {it : PySem.Expr} (hr : RI nt k ia it) (r : Rel C P Z φ σ s) (en : EnvIs φ d nt env) (hA : ARoom A n) :
    Sn (evs O d ia σ) fun vs σ₁ => So (iterOf k vs σ₁) fun q => wpAny (model C.prog C.w) A (eval it env) (fun x s₁ => wpAny (model C.prog C.w) A (pyIter x) (fun v s₂ => Starts C P Z φ σ₁ q.1 k q.2 v s₂) NoE s₁) NoE s := by
  cases hr with
  | val h1 h2 => exact Sn.bnd <| (H h1 r en hA).imp fun x σ₁ z => Sn.ok (So.step fun q hq => wp_seq z fun a s₁ P₁ φ₁ p1 f1 r1 k1 => wpAny_mono (iter_val hm r1 k1 q hq) (fun _ _ z => z.up p1 f1) fun _ _ z => z)
  | range rg hn hrs =>
    subst hn
    exact (evs_sn H hA hrs r en).imp fun vs σ₁ z q hq => callN_wp (i := 7) G rfl (.inr ⟨_, rfl⟩) rg hrs r en (wp_seq z fun as s₁ P₁ φ₁ p1 f1 r1 k1 => wpAny_mono (range_sn r1 k1 q hq) (fun _ _ z => wpAny_mono z (fun _ _ z => z.up p1 f1) fun _ _ z => z) fun _ _ z => z)
  | items hn hl hb h1 =>
    subst hn
    refine Sn.bnd <| (H h1 r en hA).imp fun x σ₁ z => Sn.ok fun q hq => ?_
    obtain ⟨i, es, rfl, hσ, rfl⟩ := view_so q hq
    refine wpAny_Call_method (T := "dict") (id := "dict.items") (base_is hb _ _ _) rfl hl F.plainAttrs_dict F.slot_dict_items F.type_dict_items (wp_seq z fun v s₁ P₁ φ₁ p1 f1 r1 k1 => ?_)
    refine dict_starts r1 k1 hσ fun a nm o kvs ep g1 g3 g2 g4 st => ?_
    have hd := DictO.dictAt g2 g3
    refine ⟨hd.dictOf.typeIs, hd.dictOf.mapOf.noDict, ?_⟩
    show wpAny _ _ (callWith _ (.builtin "dict.items") [.ref a] [] []) _ _ _
    refine method_meetsIn F.slot_dict_items F.entry_dict_items rfl (_root_.PySem.evalArgs_none ⟨rfl, hd.dictOf.typeIs, F.args_dict_items_1 _, _, meets_dict_items (PySem.strKind C.prog C.w) a (not_modules r1 hm g1), ⟨kvs, hd.dictOf⟩, ?_⟩)
    show wpAny _ _ (pyIter (.ref s₁.heap.objs.size)) _ _ _
    exact wpAny_pyIter_items (knd := PySem.strKind C.prog C.w) (d := a) (kvs := kvs) (ep := ep) ⟨_, Heap.get?_push_size _ rfl, rfl, rfl⟩ (hd.push _) ((st (s' := { s₁ with heap := s₁.heap.push { cls := .type "dict_items", data := .fields #[.ref a] } }) (fun _ _ e => Heap.get?_push_of_some _ e) rfl rfl rfl (.items PH.put_self g3 g4 rfl (Nat.zero_le _) rfl) (fun _ => ⟨rfl, rfl⟩)).up p1 f1)
  | vals hn hl hb h1 =>
    subst hn
    refine Sn.bnd <| (H h1 r en hA).imp fun x σ₁ z => Sn.ok fun q hq => ?_
    obtain ⟨i, es, rfl, hσ, rfl⟩ := view_so q hq
    refine wpAny_Call_method (T := "dict") (id := "dict.values") (base_is hb _ _ _) rfl hl F.plainAttrs_dict F.slot_dict_values F.type_dict_values (wp_seq z fun v s₁ P₁ φ₁ p1 f1 r1 k1 => ?_)
    refine dict_starts r1 k1 hσ fun a nm o kvs ep g1 g3 g2 g4 st => ?_
    have hd := DictO.dictAt g2 g3
    refine ⟨hd.dictOf.typeIs, hd.dictOf.mapOf.noDict, ?_⟩
    show wpAny _ _ (callWith _ (.builtin "dict.values") [.ref a] [] []) _ _ _
    refine method_meetsIn F.slot_dict_values F.entry_dict_values rfl (_root_.PySem.evalArgs_none ⟨rfl, hd.dictOf.typeIs, F.args_dict_values_1 _, _, meets_dict_values (PySem.strKind C.prog C.w) a (not_modules r1 hm g1), ⟨kvs, hd.dictOf⟩, ?_⟩)
    show wpAny _ _ (pyIter (.ref s₁.heap.objs.size)) _ _ _
    exact wpAny_pyIter_values (knd := PySem.strKind C.prog C.w) (d := a) (kvs := kvs) (ep := ep) ⟨_, Heap.get?_push_size _ rfl, rfl, rfl⟩ (hd.push _) ((st (s' := { s₁ with heap := s₁.heap.push { cls := .type "dict_values", data := .fields #[.ref a] } }) (fun _ _ e => Heap.get?_push_of_some _ e) rfl rfl rfl (.vals PH.put_self g3 g4 rfl rfl rfl) (fun h => (nomatch h))).up p1 f1)
theorem iterU_sn {mg mb : Str → Option Value} (G : Glob C mg mb) (hm : ∃ o, C.h₀.get? sysModules = some o) (H : EvS C O n) {k : IK} {ia : List E} {it : PySem.Expr} (hr : RI nt k ia it) (r : Rel C P Z φ σ s) (en : EnvIs φ d nt env) (hA : ARoom A n) :
    Sn (evs O d ia σ) fun vs σ₁ => So (iterU k vs σ₁) fun items => wpAny (model C.prog C.w) A (eval it env) (fun x s₁ => wpAny (model C.prog C.w) A (pyIter x) (fun v s₂ => Starts C P Z φ σ₁ items k none v s₂) NoE s₁) NoE s :=
  (iter_sn G hm H hr r en hA).imp fun vs σ₁ h => So.bind <| h.imp fun q z => So.gd fun hn => So.just (Option.isNone_iff_eq_none.mp hn ▸ z)
theorem iter_not {nt : NT} {k : IK} {ia : List E} {it : PySem.Expr} (hr : RI nt k ia it) : notSet it = true := by
  cases hr with
  | val _ h => exact h
  | _ => rfl
/-- an iterator is its own iterator -/
theorem it_self {items : List D} {k : Nat} {I : Addr} {o : Obj} {Q : Value → Shared → Prop} {Er : Value → Shared → Prop} (ho : s.heap.get? I = some o) (it : ItO C P Z items false k o) (h : Q (.ref I) s) : wpAny (model C.prog C.w) A (pyIter (.ref I)) Q Er s := by
  cases it with
  | list _ _ c e => exact wpAny_pyIter_listiter ⟨o, ho, c, e⟩ h
  | tup _ _ c e => exact wpAny_pyIter_tupleiter ⟨o, ho, c, e⟩ h
  | str _ c e => exact wpAny_pyIter_striter_ascii ⟨o, ho, c, e⟩ h
  | range _ _ e => subst e; exact wpAny_pyIter_rangeiter ho h
  | keys _ _ _ _ c e => exact wpAny_pyIter_keyiter ⟨o, ho, c, e⟩ h
  | vals _ _ _ _ c e => exact wpAny_pyIter_valiter ⟨o, ho, c, e⟩ h
theorem ItAt.self {all : List D} {k : Nat} {I : Addr} {Q : Value → Shared → Prop} {Er : Value → Shared → Prop} (c : ItAt C P Z φ σ s I all false k) (h : Q (.ref I) s) : wpAny (model C.prog C.w) A (pyIter (.ref I)) Q Er s :=
  c.obj.elim fun _ z => it_self z.1 z.2 h
end
end Mine
end
section
open PySem PySem.Calls PyProof.Rows PySem.W
namespace Mine
noncomputable def turnOf (target iter : PySem.Expr) (ifs : List PySem.Expr) (emit : Sem Unit) (next : Code) (it : Value) (env : Env) : Sem Fin := do
  standAt iter.pos
  match ← pyNext it with
  | none => pure (.done .next)
  | some v =>
    letOwnedTupleGo target it v
    assign target env v
    let mut ok := true
    for c in ifs do
      if ok then ok ← isTrue c env (eval c env)
    if ok then
      emit
    again next
theorem turn_one (elt target iter : PySem.Expr) (ifs : List PySem.Expr) (scope : Scope) (pos : Pos) (it acc : Value) (env : Env) :
    compTurn (.ListComp elt [⟨target, iter, ifs, 0⟩] scope pos) 0 it acc env = turnOf target iter ifs (do let _ ← call (.builtin "list.append") [acc, ← eval elt env]) (.compLoop (.ListComp elt [⟨target, iter, ifs, 0⟩] scope pos) 0 it acc env) it env := by rfl
theorem turn_in (elt target iter : PySem.Expr) (ifs : List PySem.Expr) (g : Comprehension) (scope : Scope) (pos : Pos) (it acc : Value) (env : Env) :
    compTurn (.ListComp elt [g, ⟨target, iter, ifs, 0⟩] scope pos) 1 it acc env = turnOf target iter ifs (do let _ ← call (.builtin "list.append") [acc, ← eval elt env]) (.compLoop (.ListComp elt [g, ⟨target, iter, ifs, 0⟩] scope pos) 1 it acc env) it env := by rfl
noncomputable def turnTo (target iter : PySem.Expr) (it : Value) (env : Env) (rest : Sem Fin) : Sem Fin := do
  standAt iter.pos
  match ← pyNext it with
  | none => pure (.done .next)
  | some v =>
    letOwnedTupleGo target it v
    assign target env v
    rest
theorem turn_out (elt target iter target2 iter2 : PySem.Expr) (ifs : List PySem.Expr) (scope : Scope) (pos : Pos) (it acc : Value) (env : Env) :
    compTurn (.ListComp elt [⟨target, iter, [], 0⟩, ⟨target2, iter2, ifs, 0⟩] scope pos) 0 it acc env = turnTo target iter it env (do
        let x ← eval iter2 env
        standAt iter2.pos
        let x ← foldedSetIterable iter2 env x
        let _ ← runOwn (.compStart (.ListComp elt [⟨target, iter, [], 0⟩, ⟨target2, iter2, ifs, 0⟩] scope pos) 1 (← holding [x] (pyIter x)) acc env) env
        again (.compLoop (.ListComp elt [⟨target, iter, [], 0⟩, ⟨target2, iter2, ifs, 0⟩] scope pos) 0 it acc env)) := by rfl
section
variable {prog : Program} {w : World} {A : Around} {R : Result → Shared → Prop} {s : Shared}
theorem turn1 {e target iter : PySem.Expr} {gens : List Comprehension} {scope : Scope} {pos : Pos} {elt : PySem.Expr} {ifs : List PySem.Expr} {emit : Sem Unit} {depth : Nat} {it acc : Value} {env : Env} (he : e = .ListComp elt gens scope pos)
    (hT : compTurn e depth it acc env = turnOf target iter ifs emit (.compLoop e depth it acc env) it env)
    (h : wpAny (model prog w) A (pyNext it) (onNext (fun s₁ => R (.ok .next) s₁) fun v s₁ => wpAny (model prog w) A (letOwnedTupleGo target it v) (fun _ s₁' => wpAny (model prog w) A (assign target env v) (fun _ s₂ =>
          wpAny (model prog w) A (forIn ifs true fun c r => if r = true then do let ok ← isTrue c env (eval c env); pure (ForInStep.yield ok) else pure (ForInStep.yield r)) (fun ok s₃ =>
            (ok = true → wpAny (model prog w) A emit (fun _ s₅ => codeAny (model prog w) A (.compLoop e depth it acc env) R s₅) NoE s₃) ∧ (ok = false → codeAny (model prog w) A (.compLoop e depth it acc env) R s₃)) NoE s₂) NoE s₁') NoE s₁) NoE s) :
    codeAny (model prog w) A (.compLoop e depth it acc env) R s := by
  subst he
  refine codeAny_of_tree ?_
  show wpAny _ A ((compTurn (.ListComp elt gens scope pos) depth it acc env).onRaise (fun x => do noteFrame x env; theTreesLotGoes x)) _ _ s
  refine wpAny_noted ?_
  rw [hT]
  unfold turnOf
  refine wpAny_bind (wpAny_standAt (wpAny_bind (wpAny_mono h (fun r s₁ h₁ => ?_) fun _ _ h' => h'.elim)))
  cases r with
  | none => exact wpAny_pure h₁
  | some v =>
    refine wpAny_bind (wpAny_mono h₁ (fun _ s₁' h₁' => ?_) fun _ _ h' => h'.elim)
    refine wpAny_bind (wpAny_mono h₁' (fun _ s₂ h₂ => wpAny_bind (wpAny_mono h₂ (fun ok s₃ h₃ => ?_) fun _ _ h' => h'.elim)) fun _ _ h' => h'.elim)
    cases ok with
    | false => exact wpAny_pure ⟨rfl, h₃.2 rfl⟩
    | true => exact wpAny_bind (wpAny_mono (h₃.1 rfl) (fun x s₄ h₄ => wpAny_pure ⟨rfl, h₄⟩) fun _ _ h' => h'.elim)
theorem turn2 {e target iter : PySem.Expr} {gens : List Comprehension} {scope : Scope} {pos : Pos} {elt : PySem.Expr} {rest : Sem Fin} {depth : Nat} {it acc : Value} {env : Env} (he : e = .ListComp elt gens scope pos)
    (hT : compTurn e depth it acc env = turnTo target iter it env rest)
    (h : wpAny (model prog w) A (pyNext it) (onNext (fun s₁ => R (.ok .next) s₁) fun v s₁ => wpAny (model prog w) A (letOwnedTupleGo target it v) (fun _ s₁' => wpAny (model prog w) A (assign target env v) (fun _ s₂ =>
          wpAny (model prog w) A rest (fun f s₃ => f = .again (.compLoop e depth it acc env) ∧ codeAny (model prog w) A (.compLoop e depth it acc env) R s₃) NoE s₂) NoE s₁') NoE s₁) NoE s) :
    codeAny (model prog w) A (.compLoop e depth it acc env) R s := by
  subst he
  refine codeAny_of_tree ?_
  show wpAny _ A ((compTurn (.ListComp elt gens scope pos) depth it acc env).onRaise (fun x => do noteFrame x env; theTreesLotGoes x)) _ _ s
  refine wpAny_noted ?_
  rw [hT]
  unfold turnTo
  refine wpAny_bind (wpAny_standAt (wpAny_bind (wpAny_mono h (fun r s₁ h₁ => ?_) fun _ _ h' => h'.elim)))
  cases r with
  | none => exact wpAny_pure h₁
  | some v =>
    refine wpAny_bind (wpAny_mono h₁ (fun _ s₁' h₁' => ?_) fun _ _ h' => h'.elim)
    refine wpAny_bind (wpAny_mono h₁' (fun _ s₂ h₂ => ?_) fun _ _ h' => h'.elim)
    refine wpAny_mono h₂ (fun f s₃ h₃ => ?_) fun _ _ h' => h'.elim
    rw [h₃.1]
    exact ⟨rfl, h₃.2⟩
end
end Mine
end
section
open PySem PySem.Calls PyProof.Rows PySem.W
namespace Mine
section
variable {C : Cx} {O : Ops} {n : Nat} {nt : NT} {d : Dsc} {σ σ' : List S} {env : Env} {P Z : PH} {φ : Phi} {s : Shared} {A : Around}
noncomputable def CEnd (C : Cx) (P Z : PH) (φ : Phi) (σ : List S) : Result → Shared → Prop := fun r s => r = .ok .next ∧ Post C P Z φ RU σ () s
theorem code_up {c : Code} {P₁ : PH} {φ₁ : Phi} (p : PLe P P₁) (f : φ <+: φ₁) (h : codeAny (model C.prog C.w) A c (CEnd C P₁ Z φ₁ σ) s) : codeAny (model C.prog C.w) A c (CEnd C P Z φ σ) s := codeAny_mono h fun _ _ z => ⟨z.1, z.2.up p f⟩
theorem code_seq {c : Code} {R : Result → Shared → Prop} (h : codeAny (model C.prog C.w) A c (CEnd C P Z φ σ) s) (k : ∀ s' P' φ', PLe P P' → φ <+: φ' → Rel C P' Z φ' σ s' → R (.ok .next) s') : codeAny (model C.prog C.w) A c R s :=
  codeAny_mono h fun r s' z => by
    obtain ⟨rfl, P', φ', p, f, r', _⟩ := z
    exact k s' P' φ' p f r'
/-- first a step of the program's alone -/
theorem Sn.after {α γ : Type} {r : Res α} {t : Sem γ} {R : PH → Phi → γ → Prop} {Q : α → List S → γ → Shared → Prop} {Er : Value → Shared → Prop} {M : Model}
    (h : wpAny M A t (Post C P Z φ R σ) NoE s) (k : ∀ va s₁ P₁ φ₁, PLe P P₁ → φ <+: φ₁ → Rel C P₁ Z φ₁ σ s₁ → R P₁ φ₁ va → Sn r fun v σ' => Q v σ' va s₁) : Sn r fun v σ' => wpAny M A t (Q v σ') Er s :=
  fun v σ' ob e ho => wp_seq h fun va s₁ P₁ φ₁ p f r' k' => k va s₁ P₁ φ₁ p f r' k' v σ' ob e ho
theorem tests_sn (hm : ∃ o, C.h₀.get? sysModules = some o) (H : EvS C O n) (hA : ARoom A n) {t : Option E} {ifs : List PySem.Expr} (hr : RBo nt t ifs) (r : Rel C P Z φ σ s) (en : EnvIs φ d nt env) :
    Sn (tstO O t d σ) fun b σ' => wpAny (model C.prog C.w) A (forIn ifs true fun c r => if r = true then do let ok ← isTrue c env (eval c env); pure (ForInStep.yield ok) else pure (ForInStep.yield r)) (Post C P Z φ (RBl b) σ') NoE s := by
  cases hr with
  | none => exact Sn.ok (wpAny_tests_nil (post_pure r rfl))
  | some h1 => exact (tst_sn hm H hA h1 r en).imp fun _ _ z => wpAny_tests_one z
theorem emit_sn (H : EvS C O n) (hA : ARoom A n) {elt : E} {el : PySem.Expr} {k : Nat} {D : Addr} {nm : List Str} (hr : RE nt elt el) (hD : φ[k]? = some (D, nm)) (r : Rel C P Z φ σ s) (en : EnvIs φ d nt env) :
    Sn (bnd (evD O elt d σ) fun y σ => pushAt k y σ) fun _ σ' => wpAny (model C.prog C.w) A (do let _ ← call (.builtin "list.append") [.ref D, ← eval el env]) (Post C P Z φ RU σ') NoE s :=
  Sn.imp (Sn.seq (evD_sn H hr r en hA) fun y σ₁ a s₁ P₁ φ₁ p1 f1 r1 k1 => (push_sn r1 ⟨D, nm, getElem?_of_prefix f1 hD, rfl⟩ k1).imp fun _ _ z => wp_up z.1 p1 f1) fun _ _ z =>
    wpAny_bind (wpAny_mono z (fun _ _ z => wpAny_bind (wp_seq z fun _ s₂ P₂ φ₂ p2 f2 r2 _ => wpAny_pure ⟨P₂, φ₂, p2, f2, r2, trivial⟩)) fun _ _ z => z)
theorem drop_at {α : Type} {l : List α} {k : Nat} {x : α} (e : l[k]? = some x) : l.drop k = x :: l.drop (k + 1) := by
  obtain ⟨h, rfl⟩ := List.getElem?_eq_some_iff.mp e
  exact List.drop_eq_getElem_cons h
theorem drop_nil {α : Type} {l : List α} {k : Nat} (e : l.drop k = []) : l[k]? = none := List.getElem?_eq_none_iff.mpr (List.drop_eq_nil_iff.mp e)
theorem drop_cons {α : Type} {l r : List α} {k : Nat} {x : α} (e : l.drop k = x :: r) : l[k]? = some x ∧ l.drop (k + 1) = r := by
  have h : (l.drop k)[0]? = some x := by rw [e]; rfl
  rw [List.getElem?_drop] at h
  have h2 := drop_at h
  rw [Nat.add_zero] at h h2
  exact ⟨h, (List.cons.inj (h2.symm.trans e)).2⟩
theorem inner_sn (hm : ∃ o, C.h₀.get? sysModules = some o) (H : EvS C O n) (hA : ARoom A n) {e el : PySem.Expr} {gens : List Comprehension} {scope : Scope} {pos np : Pos} {elt0 iter : PySem.Expr} {ifs : List PySem.Expr} {depth : Nat} {I Da : Addr} {xn : Str} {k : Nat} {nm : List Str}
    {x : X} {t : Option E} {elt : E} {all : List D} (he : e = .ListComp elt0 gens scope pos)
    (hT : compTurn e depth (.ref I) (.ref Da) env = turnOf (.Name xn np) iter ifs (do let _ ← call (.builtin "list.append") [.ref Da, ← eval el env]) (.compLoop e depth (.ref I) (.ref Da) env) (.ref I) env)
    (hx : RS nt x xn) (ht : RBo nt t ifs) (hel : RE nt elt el) (items : List D) : ∀ {P : PH} {φ : Phi} {σ : List S} {s : Shared} {k0 : Nat}, all.drop k0 = items → φ[k]? = some (Da, nm) → ItAt C P Z φ σ s I all false k0 → EnvIs φ d nt env →
    Sn (compL O k x t elt d items σ) fun _ σ' => codeAny (model C.prog C.w) A (.compLoop e depth (.ref I) (.ref Da) env) (CEnd C P Z φ σ') s := by
  induction items with
  | nil => exact fun hd hD c en => Sn.ok (turn1 he hT (it_end (target := .Name xn np) c (drop_nil hd) hA.handled (fun h => nomatch h) fun s₁ r1 => ⟨rfl, post_pure r1 trivial⟩))
  | cons x0 r ih =>
    intro P φ σ s k0 hd hD c en
    refine fun v σ' ob e1 ho => turn1 he hT (it_item c (drop_cons hd).1 hA.handled (fun h => nomatch h) fun P₁ o₁ s₂ y p1 r2 hy back => ?_)
    revert v σ' ob
    refine Sn.bind (T := fun _ σ' => wpAny _ _ _ _ _ s₂) fun σ₂ hput => Sn.after (assign_is r2 en hx hput hy) fun _ s₃ P₃ φ₃ p3 f3 r3 _ => Sn.seq (tests_sn hm H hA ht r3 (en.up f3)) fun b σ₃ b' s₄ P₄ φ₄ p4 f4 r4 kb => ?_
    have en4 := en.up (f3.trans f4)
    have hD4 := getElem?_of_prefix (f3.trans f4) hD
    cases kb
    cases b with
    | true =>
      exact Sn.imp (Sn.seq (emit_sn H hA hel hD4 r4 en4) fun _ σ₄ _ s₅ P₅ φ₅ p5 f5 r5 _ => (ih (drop_cons hd).2 (getElem?_of_prefix f5 hD4) (back (p3.trans (p4.trans p5)) r5) (en4.up f5)).imp fun _ _ z =>
        code_up (p1.trans (p3.trans (p4.trans p5))) (f3.trans (f4.trans f5)) z) fun _ _ z => ⟨fun _ => z, (fun h => nomatch h)⟩
    | false => exact Sn.bnd <| Sn.ok <| (ih (drop_cons hd).2 hD4 (back (p3.trans p4) r4) en4).imp fun _ _ z => ⟨(fun h => nomatch h), fun _ => code_up (p1.trans (p3.trans p4)) (f3.trans f4) z⟩
end
end Mine
end
section
open PySem PySem.Calls PyProof.Rows PySem.W
namespace Mine
section
variable {prog : Program} {w : World} {A : Around} {R : Result → Shared → Prop} {s : Shared}
theorem start_in {elt target iter ifs g scope pos it acc env}
    (h0 : codeAny (model prog w) A (.compLoop (.ListComp elt [g, ⟨target, iter, ifs, 0⟩] scope pos) 1 it acc env) R s)
    (h : wpAny (model prog w) A (pyIter it) (fun it' s' => codeAny (model prog w) A (.compLoop (.ListComp elt [g, ⟨target, iter, ifs, 0⟩] scope pos) 1 it' acc env) R s')
      (notedBy (model prog w) A env fun x s' => R (.error x) s') s) :
    codeAny (model prog w) A (.compStart (.ListComp elt [g, ⟨target, iter, ifs, 0⟩] scope pos) 1 it acc env) R s := by
  refine codeAny_of_tree ?_
  show wpAny _ _ ((compStart (.ListComp elt [g, ⟨target, iter, ifs, 0⟩] scope pos) 1 it acc env).onRaise (fun x => do noteFrame x env; standAt theWindowsPlace)) _ _ s
  refine wpAny_notedAt ?_
  unfold compStart
  show wpAny _ _ (ask >>= _) _ _ s
  refine wpAny_bind (wpAny_askSetting (wpAny_ite ?_))
  split
  · first
      | exact wpAny_bind (wpAny_pure (wpAny_pure (And.intro rfl h0)))
      | exact wpAny_pure (And.intro rfl h0)
  · first
      | exact wpAny_bind (wpAny_rule (wpAny_bind (wpAny_standAt (wpAny_bind (wpAny_mono h (fun it' s' h' => wpAny_pure (And.intro rfl h')) fun _ _ x => x)))))
      | (refine wpAny_bind (wpAny_rule ?_); show wpAny _ _ (standAt iter.pos >>= _) _ _ s; exact wpAny_bind (wpAny_standAt (wpAny_bind (wpAny_mono h (fun it' s' h' => wpAny_pure (And.intro rfl h')) fun _ _ x => x))))
end
section
variable {C : Cx} {O : Ops} {n : Nat} {nt : NT} {d : Dsc} {σ σ' : List S} {env : Env} {P Z : PH} {φ : Phi} {s : Shared} {A : Around}
theorem folded_is {e : PySem.Expr} (h : notSet e = true) (env : Env) (x : Value) : foldedSetIterable e env x = pure x := by
  cases e with
  | Set => exact ff _ h
  | _ => rfl
theorem outer_sn {mg mb : Str → Option Value} (G : Glob C mg mb) (hm : ∃ o, C.h₀.get? sysModules = some o) (H : EvS C O n) (hA : ARoom A n) {el iter iter2 : PySem.Expr} {scope : Scope} {pos np np2 : Pos} {ifs : List PySem.Expr} {I Da : Addr} {xn xn2 : Str} {k : Nat} {nm : List Str}
    {x x2 : X} {k2 : IK} {ia2 : List E} {t : Option E} {elt : E} {all : List D}
    (hx : RS nt x xn) (hi2 : RI nt k2 ia2 iter2) (hx2 : RS nt x2 xn2) (ht : RBo nt t ifs) (hel : RE nt elt el) (items : List D) : ∀ {P : PH} {φ : Phi} {σ : List S} {s : Shared} {k0 : Nat}, all.drop k0 = items → φ[k]? = some (Da, nm) → ItAt C P Z φ σ s I all false k0 → EnvIs φ d nt env →
    Sn (compL2 O k x x2 k2 ia2 t elt d items σ) fun _ σ' => codeAny (model C.prog C.w) A (.compLoop (.ListComp el [⟨.Name xn np, iter, [], 0⟩, ⟨.Name xn2 np2, iter2, ifs, 0⟩] scope pos) 0 (.ref I) (.ref Da) env) (CEnd C P Z φ σ') s := by
  induction items with
  | nil => exact fun hd hD c en => Sn.ok (turn2 rfl (turn_out ..) (it_end (target := .Name xn np) c (drop_nil hd) hA.handled (fun h => nomatch h) fun s₁ r1 => ⟨rfl, post_pure r1 trivial⟩))
  | cons x0 r ih =>
    intro P φ σ s k0 hd hD c en
    refine fun v σ' ob e1 ho => turn2 rfl (turn_out ..) (it_item c (drop_cons hd).1 hA.handled (fun h => nomatch h) fun P₁ o₁ s₂ y p1 r2 hy back => ?_)
    revert v σ' ob
    refine Sn.bind (T := fun _ σ' => wpAny _ _ _ _ _ s₂) fun σ₂ hput => Sn.after (assign_is r2 en hx hput hy) fun _ s₃ P₃ φ₃ p3 f3 r3 _ => ?_
    refine Sn.bnd <| (iterU_sn G hm H hi2 r3 (en.up f3) hA).imp fun vs σ₃ hs => Sn.bind <| hs.imp fun items2 hw v σ' ob e ho => ?_
    refine wpAny_bind (wpAny_mono hw (fun xv s₄ h4 => wpAny_bind (wpAny_standAt (wpAny_bind (wpAny_of_eq (folded_is (iter_not hi2) _ _) (wpAny_bind (wpAny_holding (wpAny_mono h4 (fun itv s₅ st => ?_) fun _ _ z => z))))))) fun _ _ z => z)
    refine st.freeK fun P₄ φ₄ I2 p4 f4 it2 => wpAny_bind (wpAny_runOwn ?_)
    have f34 := f3.trans f4
    have hD4 := getElem?_of_prefix f34 hD
    have hc : codeAny (model C.prog C.w) A (.compLoop (.ListComp el [⟨.Name xn np, iter, [], 0⟩, ⟨.Name xn2 np2, iter2, ifs, 0⟩] scope pos) 1 (.ref I2) (.ref Da) env) (fun r s' => r = .ok .next ∧ codeAny (model C.prog C.w) A (.compLoop (.ListComp el [⟨.Name xn np, iter, [], 0⟩, ⟨.Name xn2 np2, iter2, ifs, 0⟩] scope pos) 0 (.ref I) (.ref Da) env) (CEnd C P Z φ σ') s') s₅ := by
      revert v σ' ob
      refine Sn.bnd (T := fun _ σ' => codeAny _ _ _ _ s₅) <| (inner_sn hm H hA rfl (turn_in ..) hx2 ht hel items2 List.drop_zero hD4 it2 (en.up f34)).imp fun _ σ₄ hc v σ' ob e ho => code_seq hc fun s' P₅ φ₅ p5 f5 r5 =>
        ⟨rfl, code_up (p1.trans (p3.trans (p4.trans p5))) (f34.trans f5) (ih (drop_cons hd).2 (getElem?_of_prefix f5 hD4) (back (p3.trans (p4.trans p5)) r5) ((en.up f34).up f5) v σ' ob e ho)⟩
    refine start_in ?inner (it2.self ?inner)
    exact codeAny_mono hc fun r s' z => by rw [z.1]; exact wpAny_pure ⟨rfl, z.2⟩
end
end Mine
end
section
open PySem PySem.Calls PyProof.Rows PySem.W
namespace Mine
theorem lookup_map {α : Type} (f : Str → α → α) : ∀ (l : List (Str × α)) (x : Str), (l.map fun p => (p.1, f p.1 p.2)).lookup x = (l.lookup x).map (f x)
  | [], _ => rfl
  | (y, k) :: l, x => by
    rw [List.map_cons, List.lookup_cons, List.lookup_cons]
    cases h : x == y with
    | true => rw [beq_iff_eq.mp h]; rfl
    | false => exact lookup_map f l x
theorem relabel_lookup (scope : Scope) (env : Env) (x : Str) : (relabel scope env).names.lookup x = (scope.names.lookup x).map fun k => if (k == .free && env.scope.kind == .function && env.kindOf x == some .cell) then .cell else k := by
  have e : (relabel scope env).names = scope.names.map fun p => (p.1, (fun n k => if (k == NameKind.free && env.scope.kind == .function && env.kindOf n == some .cell) then NameKind.cell else k) p.1 p.2) := by
    unfold relabel
    apply List.map_congr_left
    rintro ⟨n, k⟩ _
    show (if _ then (n, NameKind.cell) else (n, k)) = (n, if _ then NameKind.cell else k)
    split <;> rfl
  rw [e]
  exact lookup_map (fun n k => if (k == NameKind.free && env.scope.kind == .function && env.kindOf n == some .cell) then NameKind.cell else k) scope.names x
noncomputable def closOf (cells : List (Str × Addr)) : List (Str × NameKind) → List (Str × Addr) → List (Str × Addr)
  | [], acc => acc
  | (x, k) :: r, acc => match k == NameKind.free with
    | true => closOf cells r ((x, (cells.lookup x).getD 0) :: acc)
    | false => closOf cells r acc
theorem closure_is {scope : Scope} {env : Env} (h : ∀ x ∈ kindNm .free scope.names, ∃ a, env.cells.lookup x = some a) : closureFor scope env = pure (closOf env.cells scope.names []) := by
  have key : ∀ (names : List (Str × NameKind)) (acc : List (Str × Addr)), (∀ x ∈ kindNm .free names, ∃ a, env.cells.lookup x = some a) →
      (forIn names acc fun (x : Str × NameKind) (r : List (Str × Addr)) => if (x.2 == NameKind.free) = true then (do let a ← cellOf env x.1; pure (ForInStep.yield ((x.1, a) :: r)) : Sem (ForInStep (List (Str × Addr)))) else pure (ForInStep.yield r)) = pure (closOf env.cells names acc) := by
    intro names
    induction names with
    | nil => intro acc _; rfl
    | cons p names ih =>
      obtain ⟨x, k⟩ := p
      intro acc hx
      rw [List.forIn_cons]
      unfold kindNm at hx
      unfold closOf
      cases hk : k == NameKind.free with
      | true =>
        simp only [hk, if_true]
        rw [hk] at hx
        obtain ⟨a, ha⟩ := hx x (.head _)
        have hc : cellOf env x = pure a := by unfold cellOf; rw [ha]
        rw [hc, ha]
        exact ih _ fun y hy => hx y (.tail _ hy)
      | false =>
        simp only [hk, Bool.false_eq_true, if_false]
        rw [hk] at hx
        exact ih _ hx
  unfold closureFor
  exact (congrArg (fun m => m >>= fun cs => pure cs) (key scope.names [] h)).trans rfl
theorem closOf_new (cells : List (Str × Addr)) {x : Str} {a : Addr} (ha : cells.lookup x = some a) : ∀ (names : List (Str × NameKind)) (acc : List (Str × Addr)), x ∈ kindNm .free names ∨ acc.lookup x = some a → (closOf cells names acc).lookup x = some a
  | [], acc, h => by
    rcases h with h | h
    · cases h
    · exact h
  | (y, k) :: names, acc, h => by
    unfold kindNm at h
    unfold closOf
    cases hk : k == NameKind.free with
    | true =>
      rw [hk] at h
      show (closOf cells names _).lookup x = _
      apply closOf_new cells ha names
      rcases h with h | h
      · rcases List.mem_cons.mp h with rfl | h
        · refine .inr ?_
          rw [List.lookup_cons, beq_self_eq_true, ha]; rfl
        · exact .inl h
      · refine .inr ?_
        rw [List.lookup_cons]
        cases hxy : x == y with
        | true => rw [← beq_iff_eq.mp hxy, ha]; rfl
        | false => exact h
    | false =>
      rw [hk] at h
      exact closOf_new cells ha names acc h
theorem cellsAt_so (d : Dsc) : ∀ fr : List (Str × Nat), So (cellsAt d fr) fun js => js.length = fr.length ∧ ∀ (t : Nat) p, fr[t]? = some p → d.cells[p.2]? = js[t]? := by
  intro fr
  induction fr with
  | nil => exact So.just ⟨rfl, fun t p e => nomatch e⟩
  | cons q fr ih =>
    refine So.bind fun n h1 => So.bind <| ih.imp fun js h => So.just ⟨congrArg (· + 1) h.1, fun t p e => ?_⟩
    cases t with
    | zero => rw [← Option.some.inj e]; exact h1
    | succ t => exact h.2 t p e
theorem cellsAt_is {d : Dsc} {fr : List (Str × Nat)} {js : List Nat} (h : cellsAt d fr = some js) : js.length = fr.length ∧ ∀ (t : Nat) p, fr[t]? = some p → d.cells[p.2]? = js[t]? := cellsAt_so d fr js h
section
variable {C : Cx} {O : Ops} {n : Nat} {nt : NT} {d : Dsc} {σ σ' : List S} {env : Env} {P Z : PH} {φ : Phi} {s : Shared} {A : Around}
theorem Zpart.le {φs : Phi} (r : Rel C P Z φ σ s) : PLe Z (Zpart φ φs Z s.heap) := fun a o e => by
  unfold Zpart
  split
  · exact e
  · split
    · exact r.zkeep a o e
    · exact e
theorem Zpart.fresh {φs : Phi} {a : Addr} (hZ : Z a = none) (hφ : ∀ p ∈ φ, p.1 ≠ a) : Zpart φ φs Z s.heap a = none := by
  unfold Zpart
  split
  · exact hZ
  · rw [if_neg fun h => by obtain ⟨p, hp, e⟩ := List.mem_map.mp h; exact hφ p hp e]
    exact hZ
end
end Mine
end
section
open PySem PySem.Calls PyProof.Rows PySem.W
namespace Mine
section
variable {C : Cx} {O : Ops} {n : Nat} {nt : NT} {d : Dsc} {σ σ' : List S} {env : Env} {P Z : PH} {φ : Phi} {s : Shared} {A : Around}
theorem map_none (l : List Str) : (l.map fun _ => (none : Option V)) = ([] : List V).map some ++ List.replicate (l.length - ([] : List V).length) none := by
  simp [List.map_const']
/-- the frame of a comprehension -/
theorem comp_env {c : CNT} {sc : Scope} {js : List Nat} {φs : Phi} {D L : Addr} {code : Value} (hsc : RScope nt c sc) (en : EnvIs φ d nt env) (hjs : cellsAt d c.free = some js) (hp : Picks js φ φs) (env' : Env)
    (he : env' = { newEnv sc L env.globals (cellsFrom (L + 1) sc.names (closOf env.cells sc.names [])) env.qual none code (some env) env.builtins with scope := relabel sc env }) :
    EnvIs (φs ++ [(D, [])] ++ (L, c.loc) :: cellPhi (L + 1) (cellNm sc.names)) (compDsc c js.length) (cntNT c sc) env' := by
  obtain ⟨hl, hat⟩ := cellsAt_is hjs
  have hk : ∀ x, env'.kindOf x = (sc.names.lookup x).map fun k => if (k == .free && env.scope.kind == .function && env.kindOf x == some .cell) then .cell else k := fun x => by
    subst he; exact relabel_lookup sc env x
  have hcells : env'.cells = cellsFrom (L + 1) sc.names (closOf env.cells sc.names []) := by subst he; rfl
  have ndo : c.own.Nodup := (List.nodup_append.mp hsc.nd.2).1
  have nofree : ∀ x ∈ c.free.map (·.1), x ∉ c.own := fun x hx ho => (List.nodup_append.mp hsc.nd.2).2.2 x ho x hx rfl
  have hcn : cellNm sc.names = c.own := hsc.own
  have hlen : φs.length = js.length := hp.1
  refine ⟨by subst he; exact hsc.kind, fun x h => ?_, fun x h => ?_, fun x h => ?_, fun x h => ?_, ?_, fun j x h => ?_, by subst he; exact en.globals, by subst he; exact en.builtins⟩
  · rw [hk]; have h' : sc.names.lookup x = some .local := h; rw [h']; rfl
  · rw [hk]; have h' : sc.names.lookup x = some .cell := h; rw [h']; rfl
  · rw [hk]; have h' : sc.names.lookup x = some .free := h; rw [h']
    show some (if _ then NameKind.cell else NameKind.free) = _ ∨ some (if _ then NameKind.cell else NameKind.free) = _
    split
    · exact .inr rfl
    · exact .inl rfl
  · rw [hk]; have h' : sc.names.lookup x = some .globalImplicit := h; rw [h']; rfl
  · show (φs ++ [(D, [])] ++ (L, c.loc) :: cellPhi (L + 1) (cellNm sc.names))[js.length + 1]? = some (env'.locals, c.loc)
    have : env'.locals = L := by subst he; rfl
    rw [this, List.getElem?_append_right (by simp [hlen]), List.length_append, hlen]
    simp
  · have h' : (c.own ++ c.free.map (·.1))[j]? = some x := h
    by_cases hj : j < c.own.length
    · rw [List.getElem?_append_left hj] at h'
      refine ⟨js.length + 2 + j, L + 1 + j, [], ?_, ?_, ?_⟩
      · show ((List.range c.own.length).map (fun i => js.length + 2 + i) ++ List.range js.length)[j]? = _
        rw [List.getElem?_append_left (by simpa using hj), List.getElem?_map, List.getElem?_range hj]; rfl
      · rw [List.getElem?_append_right (by simp [hlen]; omega), List.length_append, hlen, List.length_singleton]
        rw [show js.length + 2 + j - (js.length + 1) = j + 1 by omega, List.getElem?_cons_succ, hcn, cellPhi_get _ _ _ hj]
      · rw [hcells]
        exact cellsFrom_new _ _ _ j x (by rw [hcn]; exact ndo) (by rw [hcn]; exact h')
    · have hj' : c.own.length ≤ j := Nat.le_of_not_lt hj
      rw [List.getElem?_append_right hj', List.getElem?_map] at h'
      obtain ⟨p, hp1, rfl⟩ := Option.map_eq_some_iff.mp h'
      have hfm : p.1 ∈ c.free.map (·.1) := List.mem_map.mpr ⟨p, List.mem_of_getElem? hp1, rfl⟩
      obtain ⟨i, a, nm, e1, e2, e3⟩ := en.cells p.2 p.1 (hsc.outer p (List.mem_of_getElem? hp1))
      have e4 := hat (j - c.own.length) p hp1
      rw [e1] at e4
      have ht : j - c.own.length < js.length := (List.getElem?_eq_some_iff.mp e4.symm).1
      have e5 := hp.2 (j - c.own.length) i φs[j - c.own.length] e4.symm (List.getElem?_eq_getElem (by rw [hlen]; exact ht))
      rw [e2] at e5
      refine ⟨j - c.own.length, a, nm, ?_, ?_, ?_⟩
      · show ((List.range c.own.length).map (fun i => js.length + 2 + i) ++ List.range js.length)[j]? = _
        rw [List.getElem?_append_right (by simpa using hj'), List.length_map, List.length_range, List.getElem?_range ht]
      · rw [List.append_assoc, List.getElem?_append_left (by rw [hlen]; exact ht), List.getElem?_eq_getElem (by rw [hlen]; exact ht)]
        exact e5.symm
      · rw [hcells, cellsFrom_old _ _ _ _ (by rw [hcn]; exact nofree _ hfm)]
        exact closOf_new env.cells e3 _ _ (.inl (by rw [hsc.free]; exact hfm))
theorem Zpart.put {φs : Phi} {h : Heap} {a : Addr} {o : Obj} (h1 : ∀ p ∈ φ, p.1 ≠ a) (h2 : ∀ p ∈ φs, p.1 ≠ a) : Zpart φ φs (Z.put a o) h = (Zpart φ φs Z h).put a o := by
  funext b
  by_cases q : b = a
  · subst q
    rw [PH.put_self]
    unfold Zpart
    rw [if_neg fun hh => by obtain ⟨p, hp, e⟩ := List.mem_map.mp hh; exact h2 p hp e, if_neg fun hh => by obtain ⟨p, hp, e⟩ := List.mem_map.mp hh; exact h1 p hp e, PH.put_self]
  · rw [PH.put_ne q]
    unfold Zpart
    rw [PH.put_ne q]
theorem none_ge {h : Heap} {a : Addr} (q : h.objs.size ≤ a) : h.get? a = none := by
  cases e : h.get? a with
  | none => rfl
  | some o => exact absurd (Heap.lt_size e) (Nat.not_lt.mpr q)
theorem fr_hd {σ : List S} (h : frHd σ = true) : ∃ vs r, σ = .frame vs :: r := by
  unfold frHd at h
  split at h
  · exact ⟨_, _, rfl⟩
  · cases h
theorem lst_hd {σ : List S} : So (lstHd σ) fun xs => ∃ vs r, σ = .mlist xs :: .frame vs :: r := by
  unfold lstHd
  split
  · exact So.gd fun h => So.just ((fr_hd h).elim fun vs h => h.elim fun r h => ⟨vs, r, congrArg _ h⟩)
  · exact So.nil
/-- what the parts of a comprehension's frame come to -/
theorem sub_lt {js : List Nat} {fs : List S} (r : Rel C P Z φ σ s) (hfs : subS js σ = some fs) : ∀ j ∈ js, j < φ.length := fun j hj => by
  obtain ⟨t, ht⟩ := List.mem_iff_getElem?.mp hj
  have q := subS_is hfs
  have htl : t < fs.length := by rw [q.2.1]; exact (List.getElem?_eq_some_iff.mp ht).1
  rw [r.len]
  exact (List.getElem?_eq_some_iff.mp (q.2.2 t j _ ht (List.getElem?_eq_getElem htl)).1).1
/-- behind the loop: what it made becomes data -/
theorem comp_back {js : List Nat} {fs σc σ'' : List S} {φs φ₂ : Phi} {P₂ : PH} {Da L : Addr} {loc : List Str} {cs : Phi} {s' : Shared} {xs : List D} {vsf : List (Option V)} {tl : List S}
    (r : Rel C P Z φ σ s) (hfs : subS js σ = some fs) (hp : Picks js φ φs) (hback : backS js σc σ = some (σ'', .mlist xs :: .frame vsf :: tl)) (p2 : PLe P P₂) (f2 : φs ++ [(Da, [])] ++ (L, loc) :: cs <+: φ₂) (r' : Rel C P₂ (Zpart φ φs Z s.heap) φ₂ σc s')
    (hD : s.heap.get? Da = none) (hL : s.heap.get? L = none) (hne : L ≠ Da) :
    ∃ P₃, PLe P P₃ ∧ Rel C P₃ Z φ σ'' s' ∧ DIs C P₃ (.list xs) (.ref Da) ∧ (∀ p ∈ φ, p.1 ≠ L) ∧ P₃ L = none ∧ Z L = none ∧ ∃ m, s'.heap.Ns L m := by
  have f3 : φs <+: φ₂ := List.IsPrefix.trans (by rw [List.append_assoc]; exact List.prefix_append ..) f2
  have b := backS_is hback (subS_is hfs).1
  have hlen : (σc.take js.length).length = js.length := by rw [List.length_take, Nat.min_eq_left b.2.2.1]
  have hm1 : σc[js.length]? = some (.mlist xs) := (congrArg (·[js.length]?) b.2.1).trans (by rw [List.getElem?_append_right (Nat.le_of_eq hlen), hlen, Nat.sub_self]; rfl)
  have hm2 : σc[js.length + 1]? = some (.frame vsf) := (congrArg (·[js.length + 1]?) b.2.1).trans (by rw [List.getElem?_append_right (Nat.le_trans (Nat.le_of_eq hlen) (Nat.le_succ _)), hlen, show js.length.succ - js.length = 1 by omega]; rfl)
  have k1 : (φs ++ [(Da, ([] : List Str))] ++ (L, loc) :: cs)[js.length]? = some (Da, []) := by rw [List.append_assoc, List.getElem?_append_right (Nat.le_of_eq hp.1), hp.1, Nat.sub_self]; rfl
  have k2 : (φs ++ [(Da, ([] : List Str))] ++ (L, loc) :: cs)[js.length + 1]? = some (L, loc) := by rw [List.append_assoc, List.getElem?_append_right (hp.1 ▸ Nat.le_succ _), hp.1, show js.length.succ - js.length = 1 by omega]; rfl
  obtain ⟨d1, _, oD, hoD, vsD, nD, rfl, hq⟩ := r'.own _ _ _ _ (getElem?_of_prefix f2 k1) hm1
  obtain ⟨l1, _, oL, hoL, _, _, mL, hns', _⟩ := r'.own _ _ _ _ (getElem?_of_prefix f2 k2) hm2
  have nD := r.none_at hD
  have nL := r.none_at hL
  refine ⟨P₂.put Da _, p2.trans (PH.put_le d1), (r.back hfs hp p2 f3 r' hback).freeze hoD d1 nD.2.1 nD.2.2, ?_, nL.2.2, by rw [PH.put_ne hne]; exact l1, nL.2.1, mL, hns'.ns hoL⟩
  exact DIs.of_list (vs := vsD.toList) PH.put_self (hq.imp fun _ _ z => z.mono (PH.put_le d1))
theorem comp_core {mg mb : Str → Option Value} (G : Glob C mg mb) (hm : ∃ o, C.h₀.get? sysModules = some o) (H : EvS C O n) (hA : ARoom A n) {c : CNT} {sc : Scope} {k : IK} {ia : List E} {it el target : PySem.Expr} {ifs0 : List PySem.Expr} {rest : List Comprehension} {p pos : Pos}
    {f : List D → Nat → Dsc → List S → Res Unit} {use : Option (Value → Sem Unit)} {β : Type} {F : V → List S → Res β} {Q : β → List S → Value → Shared → Prop}
    (hsc : RScope nt c sc) (hri : RI nt k ia it) (r : Rel C P Z φ σ s) (en : EnvIs φ d nt env)
    (hloop : ∀ {items : List D} {P Z : PH} {φ : Phi} {σ : List S} {s : Shared} {env' : Env} {I Da : Addr} {m : Nat}, ItAt C P Z φ σ s I items false 0 → EnvIs φ (compDsc c m) (cntNT c sc) env' → φ[m]? = some (Da, []) →
      Sn (f items m (compDsc c m) σ) fun _ σ' => codeAny (model C.prog C.w) A (.compLoop (.ListComp el (⟨target, it, ifs0, 0⟩ :: rest) sc p) 0 (.ref I) (.ref Da) env') (CEnd C P Z φ σ') s)
    (hfin : ∀ σ' s' P'' φ₁ xs Da L, PLe P P'' → φ <+: φ₁ → Rel C P'' Z φ₁ σ' s' → DIs C P'' (.list xs) (.ref Da) → (∀ p ∈ φ₁, p.1 ≠ L) → P'' L = none → Z L = none → (∃ m, s'.heap.Ns L m) → Sn (F (.d (.list xs)) σ') fun b τ => compPost (model C.prog C.w) A NoE use (Q b τ) (.ref Da) L (.ok .next) s') :
    Sn (bnd (evs O d ia σ) fun vs σ => (iterU k vs σ).bind fun items => compRun c d σ (f items)) fun v σ' => Sn (F v σ') fun b τ => wpAny (model C.prog C.w) A (comprehension (.ListComp el (⟨target, it, ifs0, 0⟩ :: rest) sc p) sc env pos (newList []) false (eval it env) use) (Q b τ) NoE s := by
  have hfree : ∀ x ∈ kindNm .free sc.names, ∃ a, env.cells.lookup x = some a := fun x hx => by
    rw [hsc.free] at hx
    obtain ⟨q, hq, rfl⟩ := List.mem_map.mp hx
    exact (en.cells q.2 q.1 (hsc.outer q hq)).elim fun _ h => h.elim fun a h => h.elim fun _ h => ⟨a, h.2.2⟩
  refine Sn.bnd <| (iterU_sn G hm H hri r en hA).imp fun vs σ₁ hs => Sn.bind <| hs.imp fun items hw v σ' ob e ho b τ ob2 e2 ho2 => ?_
  refine wpAny_comprehension_free rfl (folded_is (iter_not hri) env) (closure_is hfree) hsc.kind hsc.locs (wpAny_mono hw (fun xv s₁ hx => wpAny_mono hx (fun itv s₂ st => ?_) fun _ _ z => z) fun _ _ z => z)
  refine st.freeK fun P₁ φ₁ I p1 f1 it1 => ?_
  obtain ⟨r1, ⟨oi, hoi, iti⟩, hPi, hZi, hφi⟩ := it1
  revert v σ' ob
  refine Sn.bind (T := fun v σ' => F v σ' = _ → wpAny _ _ _ _ _ _) fun js hjs => Sn.bind fun fs hfs v σ' ob e ho e2 => ?_
  obtain ⟨φs, hp⟩ := picks_of (sub_lt r1 hfs)
  have hIs : ∀ q ∈ φs, q.1 ≠ I := fun q hq e => by
    obtain ⟨t, j, nm, _, _, k3⟩ := hp.mem (List.mem_map.mpr ⟨q, hq, rfl⟩)
    exact hφi _ (List.mem_of_getElem? k3) e
  have rs := (r1.hold hoi hPi hZi hφi).subR hfs hp
  rw [Zpart.put hφi hIs] at rs
  have hZsI : Zpart φ₁ φs Z s₂.heap I = none := Zpart.fresh hZi hφi
  refine wpAny_newList ?_
  have ra := rs.newOwn [] (listOf ([] : List Value).toArray 0) (.mlist []) rfl ⟨#[], 0, rfl, All2.nil⟩
  refine newEnv_is hsc.kind c.loc hsc.nd.1 [] (fun j b e => nomatch e) All2.nil (Nat.zero_le _) ra fun s₄ r4 => ?_
  have hsz : ({ s₂ with heap := s₂.heap.push (listOf ([] : List Value).toArray 0) } : Shared).heap.objs.size = s₂.heap.objs.size + 1 := Heap.size_push ..
  have g5 := Rel.letgo hZsI r4 iti.notDict
  have hσ : (fs ++ [S.mlist []] ++ .frame (([] : List V).map some ++ List.replicate (c.loc.length - ([] : List V).length) none) :: (cellNm sc.names).map fun _ => .cell none) = compSt c fs := by
    rw [← map_none]
    unfold compSt
    rw [show cellNm sc.names = c.own from hsc.own, List.append_assoc]; rfl
  rw [hσ] at g5
  generalize hL : ({ s₂ with heap := s₂.heap.push (listOf ([] : List Value).toArray 0) } : Shared).heap.objs.size = L at g5 hsz ⊢
  have enC := comp_env (D := s₂.heap.objs.size) (L := L) (code := .none) hsc (en.up f1) hjs hp _ rfl
  have hDi : (φs ++ [(s₂.heap.objs.size, ([] : List Str))] ++ (L, c.loc) :: cellPhi (L + 1) (cellNm sc.names))[js.length]? = some (s₂.heap.objs.size, []) := by
    rw [List.append_assoc, List.getElem?_append_right (Nat.le_of_eq hp.1), hp.1, Nat.sub_self]; rfl
  refine codeAny_compStart_list ?inner (it_self g5.2.2.1 iti ?inner)
  case inner =>
    revert v σ' ob
    refine Sn.bnd (T := fun v σ' => F v σ' = _ → codeAny _ _ _ _ _) <| (hloop ⟨g5.1, ⟨oi, g5.2.2.1, iti.mono (PLe.refl _) (Zpart.le r1)⟩, g5.2.1, hZsI, g5.2.2.2⟩ enC hDi).imp fun _ σc hc => ?_
    refine Sn.bind fun q hback => Sn.bind <| lst_hd.imp fun xs hq => Sn.ok fun e2 => code_seq hc fun s' P₂ φ₂ p2 f2 r' => ?_
    obtain ⟨σ'', rest'⟩ := q
    obtain ⟨vsf, tl, hq⟩ := hq
    have hq : rest' = .mlist xs :: .frame vsf :: tl := hq
    subst hq
    obtain ⟨P₃, a1, a2, a3, a4, a5, a6, a7⟩ := comp_back r1 hfs hp hback p2 f2 r' (size_none _) (none_ge (hsz ▸ Nat.le_succ _)) (hsz ▸ Nat.succ_ne_self _)
    exact hfin σ'' s' P₃ φ₁ xs _ L (p1.trans a1) f1 a2 a3 a4 a5 a6 a7 b τ ob2 e2 ho2
end
end Mine
end
section
open PySem PySem.Calls PyProof.Rows PySem.W
namespace Mine
section
variable {C : Cx} {O : Ops} {n : Nat} {nt : NT} {d : Dsc} {σ σ' : List S} {env : Env} {P Z : PH} {φ : Phi} {s : Shared} {A : Around} {v : V} {ob : List OB}
/-- a comprehension of either shape, with what its end does -/
theorem comp_any {mg mb : Str → Option Value} (G : Glob C mg mb) (hm : ∃ o, C.h₀.get? sysModules = some o) (H : EvS C O n) (hA : ARoom A n) {e : E} {el : PySem.Expr} {gens : List Comprehension} {sc : Scope} {p pos : Pos} {use : Option (Value → Sem Unit)} {β : Type} {F : V → List S → Res β} {Q : β → List S → Value → Shared → Prop} {PG : Prog}
    (hr : CompV nt e el gens sc) (r : Rel C P Z φ σ s) (en : EnvIs φ d nt env)
    (hfin : ∀ σ' s' P'' φ₁ xs Da L, PLe P P'' → φ <+: φ₁ → Rel C P'' Z φ₁ σ' s' → DIs C P'' (.list xs) (.ref Da) → (∀ p ∈ φ₁, p.1 ≠ L) → P'' L = none → Z L = none → (∃ m, s'.heap.Ns L m) → Sn (F (.d (.list xs)) σ') fun b τ => compPost (model C.prog C.w) A NoE use (Q b τ) (.ref Da) L (.ok .next) s') :
    firstAsync gens = false ∧ Sn (evStep PG O e d σ) fun v σ' => Sn (F v σ') fun b τ => wpAny (model C.prog C.w) A (comprehension (.ListComp el gens sc p) sc env pos (newList []) false (firstIter gens env) use) (Q b τ) NoE s := by
  cases hr with
  | comp1 hsc hri hx ht hel => exact ⟨rfl, comp_core (f := fun items m d' σc => compL O m _ _ _ d' items σc) G hm H hA hsc hri r en (fun hat en' hD => inner_sn hm H hA rfl (turn_one ..) hx ht hel _ List.drop_zero hD hat en') hfin⟩
  | comp2 hsc hri hx hri2 hx2 ht hel => exact ⟨rfl, comp_core (f := fun items m d' σc => compL2 O m _ _ _ _ _ _ d' items σc) G hm H hA hsc hri r en (fun hat en' hD => outer_sn G hm H hA hx hri2 hx2 ht hel _ List.drop_zero hD hat en') hfin⟩
theorem is_comp {mg mb : Str → Option Value} (G : Glob C mg mb) (hm : ∃ o, C.h₀.get? sysModules = some o) (H : EvS C O n) (hA : ARoom A n) {e : E} {el : PySem.Expr} {gens : List Comprehension} {sc : Scope} {p : Pos} {PG : Prog}
    (hr : CompV nt e el gens sc) (r : Rel C P Z φ σ s) (en : EnvIs φ d nt env) :
    Sn (evStep PG O e d σ) fun v σ' => wpAny (model C.prog C.w) A (eval (.ListComp el gens sc p) env) (Post C P Z φ (RV C v) σ') NoE s := by
  have key := comp_any (PG := PG) (p := p) (pos := firstIterPos gens p) (use := none) (F := fun v σ => ok v σ) (Q := fun v σ' => Post C P Z φ (RV C v) σ') G hm H hA hr r en fun σ' s' P'' φ₁ xs Da L p1 f1 r1 hd hφ hP hZ hn => Sn.ok (hn.elim fun m hn => ⟨m, hn, fun h' hs => ⟨P'', φ₁, p1, f1, r1.other hs.extBut hP hZ hφ, hd⟩⟩)
  refine key.2.imp fun v σ' z => ?_
  show wpAny _ _ (comprehension (.ListComp el gens sc p) sc env (firstIterPos gens p) (newList []) (firstAsync gens) (firstIter gens env)) _ _ _
  rw [key.1]
  exact z.of_ok
end
end Mine
end
section
open PySem PySem.Calls PyProof.Rows PySem.W
namespace Mine
section
variable {C : Cx} {O : Ops} {n : Nat} {nt : NT} {d : Dsc} {σ σ' : List S} {env : Env} {P Z : PH} {φ : Phi} {s : Shared} {A : Around}
noncomputable def RF (C : Cx) : Fl → PH → Phi → Flow → Prop
  | .next, _, _, f => f = .next
  | .brk, _, _, f => f = .brk
  | .ret v, P, φ, f => ∃ y, f = .ret y ∧ VIs C P φ v y
noncomputable def ExS (C : Cx) (O : Ops) (n : Nat) : Prop := ∀ {nt : NT} {ts : List T} {xs : List PySem.Stmt} {d : Dsc} {σ : List S} {env : Env} {P Z : PH} {φ : Phi} {s : Shared} {A : Around},
  RTs nt ts xs → Rel C P Z φ σ s → EnvIs φ d nt env → ARoom A n → Sn (O.ex ts d σ) fun f σ' => wpAny (model C.prog C.w) A (execs xs env) (Post C P Z φ (RF C f) σ') NoE s
theorem names_sn : ∀ {xs : List X} {es : List PySem.Expr} {ds : List D} {vals : List Value} {σ : List S} {P : PH} {φ : Phi} {s : Shared}, RNs nt xs es → All2 (DIs C P) ds vals → Rel C P Z φ σ s → EnvIs φ d nt env →
    So (putXs xs ds d σ) fun σ' => wpAny (model C.prog C.w) A (assignInOrder ((assignEach es env).map (·.2)) vals) (Post C P Z φ RU σ') NoE s := by
  intro xs
  induction xs with
  | nil =>
    intro es ds vals σ P φ s hr ha r en
    cases hr
    cases ds with
    | nil => rw [ha.nil_l]; exact So.just (wpAny_pure (post_pure r trivial))
    | cons _ _ => exact So.nil
  | cons x xs ih =>
    intro es ds vals σ P φ s hr ha r en
    cases hr with
    | @cons _ n p _ es h1 h2 =>
    cases ds with
    | nil => exact So.nil
    | cons y ds =>
      refine ha.consK fun v vals hv ha => So.bind fun σ₁ hput σ' h => ?_
      show wpAny _ _ (do holding vals (assign (.Name n p) env v); assignInOrder ((assignEach es env).map (·.2)) vals) _ _ _
      exact wpAny_bind (wpAny_holding (wp_seq (assign_is r en h1 hput hv) fun _ s₁ P₁ φ₁ p1 f1 r1 _ => wp_up (ih h2 (ha.imp fun _ _ z => z.mono p1) r1 (en.up f1) σ' h) p1 f1))
theorem noStarT : ∀ {xs : List X} {es : List PySem.Expr}, RNs nt xs es → (assignEach es env).findIdx? (·.1) = none ∧ (assignEach es env).length = xs.length := by
  intro xs
  induction xs with
  | nil => intro es h; cases h; exact ⟨rfl, rfl⟩
  | cons x xs ih =>
    intro es h
    cases h with
    | @cons _ n p _ es h1 h2 =>
      have hi := ih h2
      refine ⟨?_, congrArg (· + 1) hi.2⟩
      show List.findIdx? (·.1) ((false, assign (.Name n p) env) :: assignEach es env) = none
      rw [List.findIdx?_cons, hi.1]; rfl
theorem putXs_len : ∀ {xs : List X} {ds : List D} {σ : List S}, So (putXs xs ds d σ) fun _ => xs.length = ds.length := by
  intro xs
  induction xs with
  | nil =>
    intro ds σ
    cases ds with
    | nil => exact So.just rfl
    | cons _ _ => exact So.nil
  | cons x xs ih =>
    intro ds σ
    cases ds with
    | nil => exact So.nil
    | cons y ds => exact So.bind fun σ' _ => ih.imp fun _ h => congrArg (· + 1) h
theorem unpack_sn {xs : List X} {es : List PySem.Expr} {k : Nat} {p : Pos} {v : V} {y : Value} (hA : ARoom A n) (hr : RNs nt xs es) (hv : VIs C P φ v y) (r : Rel C P Z φ σ s) (en : EnvIs φ d nt env) :
    So ((tupV v).bind fun vs => putXs xs vs d σ) fun σ' => wpAny (model C.prog C.w) A (assign (.Tuple es k p) env y) (Post C P Z φ RU σ') NoE s :=
  tupK hv (fun a vs m ds pa qa => So.step fun σ' h => wpAny_assign_Tuple (items := vs.toArray) hA.handled ⟨_, r.keep _ _ pa, rfl, m, rfl⟩ (by rw [(noStarT hr).2, putXs_len σ' h, List.size_toArray, qa.1]) (noStarT hr).1 fun h' hx =>
    have z := r.none_at (size_none s.heap)
    names_sn hr qa (r.other (s' := { s with heap := h' }) hx z.1 z.2.1 z.2.2) en σ' h) fun _ _ => So.nil
theorem target_sn {xs : List X} {tupl : Bool} {tg : PySem.Expr} {x : D} {v : Value} (hA : ARoom A n) (hr : RTg nt xs tupl tg) (hv : DIs C P x v) (r : Rel C P Z φ σ s) (en : EnvIs φ d nt env) :
    So (putTarget xs tupl d x σ) fun σ' => wpAny (model C.prog C.w) A (assign tg env v) (Post C P Z φ RU σ') NoE s := by
  cases hr with
  | one h1 => exact So.step fun σ' h => assign_is r en h1 h hv
  | tup h1 => exact unpack_sn (v := .d x) hA h1 hv r en
/-- what a part of the program hands on -/
noncomputable def FE (C : Cx) (P Z : PH) (φ : Phi) (σ : List S) (f : Fl) : Result → Shared → Prop := fun r s => ∃ fl, r = .ok fl ∧ Post C P Z φ (RF C f) σ fl s
noncomputable def flowK (K : Shared → Prop) (R : Result → Shared → Prop) (f : Flow) (s : Shared) : Prop := match f with
  | .next => K s
  | .cont => K s
  | .brk => R (.ok .next) s
  | .ret v => R (.ok (.ret v)) s
theorem turn_for {R : Result → Shared → Prop} {target : PySem.Expr} {it : Value} {body : List PySem.Stmt} {M : Program} {w : World}
    (h : wpAny (model M w) A (pyNext it) (onNext (fun s₁ => R (.ok .next) s₁) fun v s₁ => wpAny (model M w) A (letOwnedTupleGo target it v) (fun _ s₂ => wpAny (model M w) A (assign target env v) (fun _ s₃ => wpAny (model M w) A (execs body env) (flowK (fun s₄ => codeAny (model M w) A (.forLoop target it body [] env) R s₄) R) NoE s₃) NoE s₂) NoE s₁) NoE s) :
    codeAny (model M w) A (.forLoop target it body [] env) R s := by
  refine codeAny_of_tree ?_
  show wpAny _ A ((forTurn target it body [] env).onRaise (fun x => do noteFrame x env; theTreesLotGoes x)) _ _ s
  refine wpAny_noted ?_
  delta forTurn
  refine wpAny_bind (wpAny_standAt (wpAny_bind (wpAny_onRaise (wpAny_mono h (fun r s₁ h₁ => ?_) fun _ _ z => z.elim))))
  cases r with
  | none => exact wpAny_pure ⟨rfl, codeAny_block (wpAny_execs_nil h₁)⟩
  | some v =>
    refine wpAny_bind (wpAny_mono h₁ (fun _ s₁' h₁' => ?_) fun _ _ z => z.elim)
    refine wpAny_bind (wpAny_mono h₁' (fun _ s₂ h₂ => wpAny_bind (wpAny_mono h₂ (fun f s₃ h₃ => ?_) fun _ _ z => z.elim)) fun _ _ z => z.elim)
    cases f with
    | next => exact wpAny_pure ⟨rfl, h₃⟩
    | cont => exact wpAny_pure ⟨rfl, h₃⟩
    | brk => exact wpAny_pure h₃
    | ret v => exact wpAny_pure h₃
theorem fe_up {c : Code} {P₁ : PH} {φ₁ : Phi} {f : Fl} (p : PLe P P₁) (q : φ <+: φ₁) (h : codeAny (model C.prog C.w) A c (FE C P₁ Z φ₁ σ f) s) : codeAny (model C.prog C.w) A c (FE C P Z φ σ f) s := codeAny_mono h fun _ _ z => z.elim fun fl z => ⟨fl, z.1, z.2.up p q⟩
/-- the turns of a for loop -/
theorem for_sn (HX : ExS C O n) (hA : ARoom A n) {xs : List X} {tupl : Bool} {tg : PySem.Expr} {b : List T} {bs : List PySem.Stmt} {all : List D} {bb : Bool} {I : Addr} (hr : RTg nt xs tupl tg) (hbb : bb = true → tupl = true) (hbs : RTs nt b bs) (items : List D) :
    ∀ {P : PH} {φ : Phi} {σ : List S} {s : Shared} {k0 : Nat}, all.drop k0 = items → ItAt C P Z φ σ s I all bb k0 → EnvIs φ d nt env → Sn (forL O xs tupl b d items σ) fun f σ' => codeAny (model C.prog C.w) A (.forLoop tg (.ref I) bs [] env) (FE C P Z φ σ' f) s := by
  have ht : bb = true → ∃ elts x p, tg = .Tuple elts x p := fun hb => by
    have := hbb hb
    subst this
    cases hr with
    | tup _ => exact ⟨_, _, _, rfl⟩
  induction items with
  | nil => exact fun hd c en => Sn.ok (turn_for (it_end (target := tg) c (drop_nil hd) hA.handled ht fun s₁ r1 => ⟨.next, rfl, post_pure r1 rfl⟩))
  | cons x0 r ih =>
    intro P φ σ s k0 hd c en
    refine fun f σ' ob e1 ho => turn_for (it_item c (drop_cons hd).1 hA.handled ht fun P₁ o₁ s₂ y p1 r2 hy back => ?_)
    revert f σ' ob
    refine Sn.bind (T := fun f σ' => wpAny _ _ _ _ _ s₂) fun σ₂ hput => Sn.after (target_sn hA hr hy r2 en σ₂ hput) fun _ s₃ P₃ φ₃ p3 f3 r3 _ => Sn.seq (HX hbs r3 (en.up f3) hA) fun fl σ₃ fv s₄ P₄ φ₄ p4 f4 r4 k4 => ?_
    have p5 := p1.trans (p3.trans p4)
    have f5 := f3.trans f4
    have hb := back (p3.trans p4) r4
    cases fl with
    | next =>
      cases k4
      exact (ih (drop_cons hd).2 hb (en.up f5)).imp fun f σ' z => fe_up p5 f5 z
    | brk =>
      cases k4
      exact Sn.ok ⟨.next, rfl, P₄, φ₄, p5, f5, hb.rel, rfl⟩
    | ret v =>
      obtain ⟨y, rfl, hy2⟩ := k4
      exact Sn.ok ⟨.ret y, rfl, P₄, φ₄, p5, f5, hb.rel, y, rfl, hy2⟩
end
end Mine
end
section
open PySem PySem.Calls PyProof.Rows PySem.W
namespace Mine
section
variable {C : Cx} {O : Ops} {n : Nat} {nt : NT} {d : Dsc} {σ σ' : List S} {env : Env} {P Z : PH} {φ : Phi} {s : Shared} {A : Around}
noncomputable def CompS (C : Cx) (O : Ops) (n : Nat) : Prop := ∀ {nt : NT} {e : E} {d : Dsc} {σ : List S} {env : Env} {P Z : PH} {φ : Phi} {s : Shared} {A : Around} {el : PySem.Expr} {gens : List Comprehension} {sc : Scope} {p pos : Pos} {use : Option (Value → Sem Unit)} {F : V → List S → Res Fl} {Q : Fl → List S → Value → Shared → Prop},
  ARoom A n → CompV nt e el gens sc → Rel C P Z φ σ s → EnvIs φ d nt env →
  (∀ σ' s' P'' φ₁ xs Da L, PLe P P'' → φ <+: φ₁ → Rel C P'' Z φ₁ σ' s' → DIs C P'' (.list xs) (.ref Da) → (∀ p ∈ φ₁, p.1 ≠ L) → P'' L = none → Z L = none → (∃ m, s'.heap.Ns L m) → Sn (F (.d (.list xs)) σ') fun b τ => compPost (model C.prog C.w) A NoE use (Q b τ) (.ref Da) L (.ok .next) s') →
  firstAsync gens = false ∧ Sn (O.ev e d σ) fun v σ' => Sn (F v σ') fun b τ => wpAny (model C.prog C.w) A (comprehension (.ListComp el gens sc p) sc env pos (newList []) false (firstIter gens env) use) (Q b τ) NoE s
theorem kind_of {x : PySem.Expr} (h : okX x = true) : notComp x = true ∨ ∃ el gens sc p, x = .ListComp el gens sc p := by
  cases x with
  | ListComp => exact .inr ⟨_, _, _, _, rfl⟩
  | SetComp => exact ff _ h
  | DictComp => exact ff _ h
  | _ => exact .inl rfl
theorem swaps_not {x : PySem.Expr} (h : notComp x = true) (t : Option PySem.Expr) (l : Nat) (env : Env) : swapsWith x t l env = pure false := by
  cases x with
  | ListComp => exact ff _ h
  | SetComp => exact ff _ h
  | DictComp => exact ff _ h
  | _ => rfl
/-- behind a value: stores -/
theorem then_next {m : Sem Unit} (h : wpAny (model C.prog C.w) A m (Post C P Z φ RU σ') NoE s) : wpAny (model C.prog C.w) A (do m; pure Flow.next) (Post C P Z φ (RF C .next) σ') NoE s :=
  wpAny_bind (wp_seq h fun _ s₁ P₁ φ₁ p1 f1 r1 _ => wpAny_pure ⟨P₁, φ₁, p1, f1, r1, rfl⟩)
/-- a plain assignment to one target -/
theorem assign_q {t value : PySem.Expr} {pos : Pos} {Q : Flow → Shared → Prop} (hs : swapsWithSole [t] value pos.line env = pure false) (hp : swappedStores [t] value env = pure none) (hst : (assignEach [t] env).map (·.2) = [assign t env])
    (h : wpAny (model C.prog C.w) A (eval value env) (fun v s₁ => wpAny (model C.prog C.w) A (assign t env v) (fun _ s₂ => Q .next s₂) NoE s₁) NoE s) :
    wpAny (model C.prog C.w) A (exec (.Assign [t] value pos) env) Q NoE s := by
  rw [arm_exec_Assign]
  refine wpAny_bind (wpAny_standAt (wpAny_bind (wpAny_of_eq hs ?_)))
  rw [if_neg Bool.false_ne_true]
  refine wpAny_bind (wpAny_mono h (fun v s₁ h₁ => wpAny_bind (wpAny_of_eq hp ?_)) fun _ _ z => z)
  rw [hst]
  show wpAny _ _ (do assign t env v; pure Flow.next) _ _ _
  exact wpAny_bind (wpAny_mono h₁ (fun _ _ z => wpAny_pure z) fun _ _ z => z)
theorem assign_wp {t value : PySem.Expr} {pos : Pos} {σ' : List S} (hs : swapsWithSole [t] value pos.line env = pure false) (hp : swappedStores [t] value env = pure none) (hst : (assignEach [t] env).map (·.2) = [assign t env])
    (h : wpAny (model C.prog C.w) A (eval value env) (fun v s₁ => wpAny (model C.prog C.w) A (assign t env v) (Post C P Z φ RU σ') NoE s₁) NoE s) :
    wpAny (model C.prog C.w) A (exec (.Assign [t] value pos) env) (Post C P Z φ (RF C .next) σ') NoE s :=
  assign_q hs hp hst (wpAny_mono h (fun _ _ z => wp_seq z fun _ _ P' φ' p f r _ => ⟨P', φ', p, f, r, rfl⟩) fun _ _ z => z)
/-- a plain value, then a store -/
theorem asg_plain (H : EvS C O n) {t value : PySem.Expr} {e : E} {F : V → List S → Option (List S)} {pos : Pos} (hs : swapsWithSole [t] value pos.line env = pure false) (hp : swappedStores [t] value env = pure none) (hst : (assignEach [t] env).map (·.2) = [assign t env]) (hr : RE nt e value) (r : Rel C P Z φ σ s) (en : EnvIs φ d nt env) (hA : ARoom A n)
    (k : ∀ v σ₁ y s₁ P₁ φ₁, Rel C P₁ Z φ₁ σ₁ s₁ → EnvIs φ₁ d nt env → VIs C P₁ φ₁ v y → So (F v σ₁) fun σ' => wpAny (model C.prog C.w) A (assign t env y) (Post C P₁ Z φ₁ RU σ') NoE s₁) :
    Sn (bnd (O.ev e d σ) fun v σ => nextS (F v σ)) fun f σ' => wpAny (model C.prog C.w) A (exec (.Assign [t] value pos) env) (Post C P Z φ (RF C f) σ') NoE s :=
  Sn.bnd fun v σ₁ o e1 ho => Sn.next fun σ' hF => assign_wp hs hp hst (wp_seq (H hr r en hA v σ₁ o e1 ho) fun y s₁ P₁ φ₁ p1 f1 r1 k1 => wp_up (k v σ₁ y s₁ P₁ φ₁ r1 (en.up f1) k1 σ' hF) p1 f1)
theorem is_asg (H : EvS C O n) (HC : CompS C O n) {x : X} {e : E} {nm : Str} {p pos : Pos} {value : PySem.Expr} (hx : RS nt x nm) (hr : RE nt e value) (r : Rel C P Z φ σ s) (en : EnvIs φ d nt env) (hA : ARoom A n) :
    Sn (bnd (O.ev e d σ) fun v σ => nextS (putX x d v σ)) fun f σ' => wpAny (model C.prog C.w) A (exec (.Assign [.Name nm p] value pos) env) (Post C P Z φ (RF C f) σ') NoE s := by
  have plain : swapsWithSole [.Name nm p] value pos.line env = pure false → Sn (bnd (O.ev e d σ) fun v σ => nextS (putX x d v σ)) fun f σ' => wpAny (model C.prog C.w) A (exec (.Assign [.Name nm p] value pos) env) (Post C P Z φ (RF C f) σ') NoE s := fun hs =>
    asg_plain H hs rfl rfl hr r en hA fun v σ₁ y s₁ P₁ φ₁ r1 en1 k1 σ' h => assign_is r1 en1 hx h k1
  rcases kind_of hr.ok with hk | ⟨el, gens, sc, q, rfl⟩
  · exact plain (swaps_not hk (some (.Name nm p)) pos.line env)
  · obtain ⟨b, hb⟩ : ∃ b, swapsWithSole [.Name nm p] (.ListComp el gens sc q) pos.line env = pure b := ⟨_, rfl⟩
    cases b with
    | false => exact plain hb
    | true =>
      have key := HC (p := q) (pos := firstIterPos gens q) (use := some fun v => assignAll v ((assignEach [.Name nm p] env).map (·.2))) (F := fun v σ => nextS (putX x d v σ)) (Q := fun f σ' _ s' => Post C P Z φ (RF C f) σ' .next s') hA hr.comp r en fun σ' s' P'' φ₁ xs Da L p1 f1 r1 hd hφ hP hZ hm =>
        Sn.next fun σ₂ hput => by
          obtain ⟨m, hn⟩ := hm
          show wpAny _ _ (assign (.Name nm p) env (.ref Da)) _ _ _
          exact wpAny_assign_Name (store_is r1 (en.up f1) hx hput hd fun s'' i a nm' z r2 g1 g2 g3 g4 => ⟨m, hn.sameBut g4 (fun q => hφ _ (List.mem_of_getElem? g1) q.symm), fun h' hs => ⟨P'', φ₁, p1, f1, r2.other hs.extBut hP hZ hφ, rfl⟩⟩)
      refine Sn.bnd <| key.2.imp fun v σ₁ z => z.imp fun f σ' z => ?_
      rw [arm_exec_Assign]
      refine wpAny_bind (wpAny_standAt (wpAny_bind (wpAny_of_eq hb ?_)))
      rw [if_pos rfl]
      have he : evalThenUse (.ListComp el gens sc q) env (fun v => assignAll v ((assignEach [.Name nm p] env).map (·.2))) = (do let _ ← comprehension (.ListComp el gens sc q) sc env (firstIterPos gens q) (newList []) (firstAsync gens) (firstIter gens env) (some fun v => assignAll v ((assignEach [.Name nm p] env).map (·.2)))) := rfl
      rw [he, key.1]
      exact wpAny_bind (wpAny_bind (wpAny_mono z (fun _ s' hq => wpAny_pure (wpAny_pure hq)) fun _ _ z => z))
theorem is_asgs (H : EvS C O n) {x y z : X} {e : E} {n1 n2 n3 : Str} {p1 p2 p3 pos : Pos} {value : PySem.Expr} (hx : RS nt x n1) (hy : RS nt y n2) (hz : RS nt z n3) (hr : RE nt e value) (r : Rel C P Z φ σ s) (en : EnvIs φ d nt env) (hA : ARoom A n) :
    Sn (bnd (O.ev e d σ) fun v σ => nextS (putAll [x, y, z] d v σ)) fun f σ' => wpAny (model C.prog C.w) A (exec (.Assign [.Name n1 p1, .Name n2 p2, .Name n3 p3] value pos) env) (Post C P Z φ (RF C f) σ') NoE s := by
  refine Sn.bnd fun v σ₁ o e1 ho => Sn.next <| So.bind fun σa ha => So.bind fun σb hb => So.bind fun σc hc => So.just ?_
  rw [arm_exec_Assign]
  refine wpAny_bind (wpAny_standAt (wpAny_bind (wpAny_of_eq (a := false) rfl ?_)))
  rw [if_neg Bool.false_ne_true]
  refine wpAny_bind (wp_seq (H hr r en hA v σ₁ o e1 ho) fun w s₁ P₁ φ₁ p1' f1 r1 k1 => wpAny_bind (wpAny_of_eq (a := none) rfl ?_))
  show wpAny _ _ (do (do holding [w] (assign (.Name n1 p1) env w); (do holding [w] (assign (.Name n2 p2) env w); assign (.Name n3 p3) env w)); pure Flow.next) _ _ _
  refine wp_up (then_next ?_) p1' f1
  refine wpAny_bind (wpAny_holding (wp_seq (assign_is r1 (en.up f1) hx ha k1) fun _ s₂ P₂ φ₂ p2' f2 r2 _ => wp_up ?_ p2' f2))
  refine wpAny_bind (wpAny_holding (wp_seq (assign_is r2 (en.up (f1.trans f2)) hy hb (k1.mono p2' f2)) fun _ s₃ P₃ φ₃ p3' f3 r3 _ => ?_))
  exact wp_up (assign_is r3 (en.up (f1.trans (f2.trans f3))) hz hc ((k1.mono p2' f2).mono p3' f3)) p3' f3
theorem is_unp (H : EvS C O n) {xs : List X} {es : List PySem.Expr} {e : E} {k : Nat} {p pos : Pos} {value : PySem.Expr} (hxs : RNs nt xs es) (hr : RE nt e value) (hnt : notTuple value = true) (r : Rel C P Z φ σ s) (en : EnvIs φ d nt env) (hA : ARoom A n) :
    Sn (bnd (evD O e d σ) fun v σ => (tupV (.d v)).bind fun vs => nextS (putXs xs vs d σ)) fun f σ' => wpAny (model C.prog C.w) A (exec (.Assign [.Tuple es k p] value pos) env) (Post C P Z φ (RF C f) σ') NoE s := by
  have hsw : swapsWithSole [.Tuple es k p] value pos.line env = pure false := by cases value <;> rfl
  have hss : swappedStores [.Tuple es k p] value env = pure none := by
    cases value with
    | Tuple => exact ff _ hnt
    | _ => rfl
  refine Sn.bnd fun v σ₁ o e1 ho => Sn.bind fun vs hv => Sn.next fun σ' hF => assign_wp hsw hss rfl (wp_seq (evD_sn H hr r en hA v σ₁ o e1 ho) fun y s₁ P₁ φ₁ p1 f1 r1 k1 => wp_up (unpack_sn (v := .d v) hA hxs k1 r1 (en.up f1) σ' ?_) p1 f1)
  rw [hv]; exact hF
end
end Mine
end
section
open PySem PySem.Calls PyProof.Rows PySem.W
namespace Mine
section
variable {C : Cx} {O : Ops} {n : Nat} {nt : NT} {d : Dsc} {σ σ' : List S} {env : Env} {P Z : PH} {φ : Phi} {s : Shared} {A : Around}
noncomputable def SetAS (C : Cx) (n : Nat) : Prop := ∀ {σ : List S} {i c0 c a : Nat} {fs : List (Nat × D)} {nm : Str} {v : D} {P Z : PH} {φ : Phi} {s : Shared} {A : Around} {vo vv : Value} {d : Dsc} {nt : NT} {env : Env},
  attNms[a]? = some nm → c0 < 2 → fs.length ≤ 500 → EnvIs φ d nt env → (∃ vf, σ[d.fr]? = some (.frame vf)) → σ[i]? = some (.inst c0) → σ[i + 1]? = some (.idict c fs) → Rel C P Z φ σ s → VIs C P φ (.ref i) vo → DIs C P v vv → ARoom A n →
  wpAny (model C.prog C.w) A (setAttr vo nm vv) (Post C P Z φ RU (σ.set (i + 1) (.idict c (putN a v fs)))) NoE s
theorem swaps_sub {x o i : PySem.Expr} {p : Pos} (l : Nat) (env : Env) : swapsWithSole [.Subscript o i p] x l env = pure false := by cases x <;> rfl
theorem swaps_att {x o : PySem.Expr} {a : Str} {p : Pos} (l : Nat) (env : Env) : swapsWithSole [.Attribute o a p] x l env = pure false := by cases x <;> rfl
/-- a store is done: go on -/
theorem stored {m : Sem Unit} {P₁ : PH} {φ₁ : Phi} (h : wpAny (model C.prog C.w) A m (Post C P₁ Z φ₁ RU σ') NoE s) (p : PLe P P₁) (f : φ <+: φ₁) : wpAny (model C.prog C.w) A m (fun _ s₂ => Post C P Z φ (RF C .next) σ' .next s₂) NoE s :=
  wp_seq h fun _ _ P₂ φ₂ p2 f2 r2 _ => ⟨P₂, φ₂, p.trans p2, f.trans f2, r2, rfl⟩
theorem sets_wp {ov iv value : PySem.Expr} {p pos : Pos} {Q : Flow → Shared → Prop} (h : wpAny (model C.prog C.w) A (eval value env) (fun w s₁ => wpAny (model C.prog C.w) A (eval ov env) (fun vo s₂ => wpAny (model C.prog C.w) A (eval iv env) (fun vi s₃ => wpAny (model C.prog C.w) A (setItem vo vi w) (fun _ s₄ => Q .next s₄) NoE s₃) NoE s₂) NoE s₁) NoE s) :
    wpAny (model C.prog C.w) A (exec (.Assign [.Subscript ov iv p] value pos) env) Q NoE s := by
  refine assign_q (swaps_sub _ _) rfl rfl (wpAny_mono h (fun w s₁ h => ?_) fun _ _ z => z)
  rw [arm_assign_Subscript]
  exact wpAny_bind (wpAny_holding (wpAny_mono h (fun vo s₂ h => wpAny_bind (wpAny_holding (wpAny_mono h (fun vi s₃ h => wpAny_bind (wpAny_standAt (wpAny_bind (wpAny_holding (wpAny_mono h (fun _ _ z => wpAny_release z) fun _ _ z => z))))) fun _ _ z => z))) fun _ _ z => z))
theorem is_sets (H : EvS C O n) {o i e : E} {ov iv : PySem.Expr} {p pos : Pos} {value : PySem.Expr} (h1 : RE nt o ov) (h2 : RE nt i iv) (hr : RE nt e value) (r : Rel C P Z φ σ s) (en : EnvIs φ d nt env) (hA : ARoom A n) :
    Sn (bnd (evD O e d σ) fun v σ => bnd (O.ev o d σ) fun ov σ => bnd (O.ev i d σ) fun iv σ => nextS (setAtV ov iv v σ)) fun f σ' => wpAny (model C.prog C.w) A (exec (.Assign [.Subscript ov iv p] value pos) env) (Post C P Z φ (RF C f) σ') NoE s :=
  Sn.imp (Sn.seq (evD_sn H hr r en hA) fun v σ₁ w s₁ P₁ φ₁ p1 f1 r1 k1 => Sn.seq (H h1 r1 (en.up f1) hA) fun xo σ₂ vo s₂ P₂ φ₂ p2 f2 r2 k2 => Sn.seq (H h2 r2 (en.up (f1.trans f2)) hA) fun xi σ₃ vi s₃ P₃ φ₃ p3 f3 r3 k3 =>
    Sn.next <| (setAtV_sn r3 (k2.mono p3 f3) k3 ((DIs.mono p2 k1).mono p3)).imp fun _ z => stored z ((p1.trans p2).trans p3) ((f1.trans f2).trans f3)) fun _ _ z => sets_wp z
theorem seta_wp {ov value : PySem.Expr} {nm : Str} {p pos : Pos} {Q : Flow → Shared → Prop} (h : wpAny (model C.prog C.w) A (eval value env) (fun w s₁ => wpAny (model C.prog C.w) A (eval ov env) (fun vo s₂ => wpAny (model C.prog C.w) A (setAttr vo nm w) (fun _ s₄ => Q .next s₄) NoE s₂) NoE s₁) NoE s) :
    wpAny (model C.prog C.w) A (exec (.Assign [.Attribute ov nm p] value pos) env) Q NoE s := by
  refine assign_q (swaps_att _ _) rfl rfl (wpAny_mono h (fun w s₁ h => ?_) fun _ _ z => z)
  show wpAny _ _ (do
    let ov ← holding [w] (eval ov env)
    standAt p.atName
    holding [w, ov] (setAttr ov nm w)
    release [w, ov] []) _ _ _
  exact wpAny_bind (wpAny_holding (wpAny_mono h (fun vo s₂ h => wpAny_bind (wpAny_standAt (wpAny_bind (wpAny_holding (wpAny_mono h (fun _ _ z => wpAny_release z) fun _ _ z => z))))) fun _ _ z => z))
theorem is_seta (HS : SetAS C n) (H : EvS C O n) {o e : E} {a : Nat} {nm : Str} {ov : PySem.Expr} {p pos : Pos} {value : PySem.Expr} (hn : attNms[a]? = some nm) (h1 : RE nt o ov) (hr : RE nt e value) (r : Rel C P Z φ σ s) (en : EnvIs φ d nt env) (hA : ARoom A n) :
    Sn (exT O (.seta a o e) d σ) fun f σ' => wpAny (model C.prog C.w) A (exec (.Assign [.Attribute ov nm p] value pos) env) (Post C P Z φ (RF C f) σ') NoE s :=
  Sn.imp (Sn.seq (evD_sn H hr r en hA) fun v σ₁ w s₁ P₁ φ₁ p1 f1 r1 k1 => Sn.seq (H h1 r1 (en.up f1) hA) fun xo σ₂ vo s₂ P₂ φ₂ p2 f2 r2 k2 =>
    refK k2 (fun i a nm' g => Sn.step <| Sn.bind <| So.ins fun c0 hi => Sn.bind <| So.idi fun c fs hj => Sn.gd fun hc => Sn.gd fun hz => Sn.bind <| So.fr fun vf hv => Sn.ok
      (stored (HS hn (Nat.le_of_ble_eq_true hc) (Nat.le_of_ble_eq_true hz) (en.up (f1.trans f2)) ⟨vf, hv⟩ hi hj r2 ⟨a, nm', g, rfl⟩ (DIs.mono p2 k1) hA) (p1.trans p2) (f1.trans f2))) fun _ _ => Sn.nil) fun _ _ z => seta_wp z
theorem opI_sn {o : BO} {x y : Int} {t u : Tok} (r : Rel C P Z φ σ s) : Sn (opI o x y σ) fun i σ' => wpAny (model C.prog C.w) A (inplaceOp o.op (.int x t) (.int y u)) (Post C P Z φ (RV C (.d (.int i))) σ') NoE s := by
  cases o with
  | add => exact Sn.ok (wpAny_iadd_int (post_int r))
  | mul => exact Sn.just fun ho => AutoIntOps.imul_0 (post_int r) (ho _ (.head _))
  | _ => exact Sn.nil
theorem aug_wp {nm : Str} {op : Operator} {value : PySem.Expr} {p pos : Pos} {Q : Flow → Shared → Prop} (h : wpAny (model C.prog C.w) A (loadName env nm) (fun va s₁ => wpAny (model C.prog C.w) A (eval value env) (fun vb s₂ => wpAny (model C.prog C.w) A (inplaceOp op va vb) (fun vc s₃ => wpAny (model C.prog C.w) A (storeName env nm vc) (fun _ s₄ => Q .next s₄) NoE s₃) NoE s₂) NoE s₁) NoE s) :
    wpAny (model C.prog C.w) A (exec (.AugAssign (.Name nm p) op value pos) env) Q NoE s := by
  rw [arm_exec_AugAssign]
  exact wpAny_bind (wpAny_standAt (wpAny_bind (wpAny_mono h (fun va s₁ h => wpAny_bind (wpAny_holding (wpAny_mono h (fun vb s₂ h => wpAny_bind (wpAny_standAt (wpAny_bind (wpAny_operating (wpAny_mono h (fun vc s₃ h => wpAny_bind (wpAny_standAt (wpAny_bind (wpAny_bindName (wpAny_mono h (fun _ _ z => wpAny_pure z) fun _ _ z => z))))) fun _ _ z => z))))) fun _ _ z => z))) fun _ _ z => z)))
theorem is_aug (H : EvS C O n) {x : X} {bo : BO} {e : E} {nm : Str} {p pos : Pos} {value : PySem.Expr} (hx : RS nt x nm) (hr : RE nt e value) (r : Rel C P Z φ σ s) (en : EnvIs φ d nt env) (hA : ARoom A n) :
    Sn (exT O (.aug x bo e) d σ) fun f σ' => wpAny (model C.prog C.w) A (exec (.AugAssign (.Name nm p) bo.op value pos) env) (Post C P Z φ (RF C f) σ') NoE s :=
  Sn.imp (Sn.seq (Sn.opt (hx.load_sn r en)) fun v σ₁ va s₁ P₁ φ₁ p1 f1 r1 k1 => Sn.seq (H hr r1 (en.up f1) hA) fun w σ₂ vb s₂ P₂ φ₂ p2 f2 r2 k2 =>
    int2K (k1.mono p2 f2) k2 (fun x y t u => Sn.seq (opI_sn r2) fun i σ₃ vc s₃ P₃ φ₃ p3 f3 r3 k3 => Sn.next fun σ' hp =>
      store_is r3 (en.up (f1.trans (f2.trans f3))) hx hp k3 fun s₄ _ _ _ _ r4 _ _ _ _ => ⟨P₃, φ₃, p1.trans (p2.trans p3), f1.trans (f2.trans f3), r4, rfl⟩) fun _ _ => Sn.nil) fun _ _ z => aug_wp z
theorem augs_wp {ov iv value : PySem.Expr} {op : Operator} {p pos : Pos} {Q : Flow → Shared → Prop} (hi : plainIdx iv = true) (h : wpAny (model C.prog C.w) A (eval ov env) (fun vo s₁ => wpAny (model C.prog C.w) A (eval iv env) (fun vi s₂ => wpAny (model C.prog C.w) A (getItem vo vi) (fun va s₃ =>
      wpAny (model C.prog C.w) A (eval value env) (fun vb s₄ => wpAny (model C.prog C.w) A (inplaceOp op va vb) (fun vc s₅ => wpAny (model C.prog C.w) A (setItem vo vi vc) (fun _ s₆ => Q .next s₆) NoE s₅) NoE s₄) NoE s₃) NoE s₂) NoE s₁) NoE s) :
    wpAny (model C.prog C.w) A (exec (.AugAssign (.Subscript ov iv p) op value pos) env) Q NoE s := by
  have hst : ∀ (vo vi w : Value), augStore iv vo vi w = (do holding [w, vo, vi] (setItem vo vi w); release [w, vo, vi] []; pure Flow.next) := fun vo vi w => by
    cases iv with
    | Slice => exact ff _ hi
    | _ => rfl
  rw [arm_exec_AugAssign_3]
  refine wpAny_bind (wpAny_standAt (wpAny_bind (wpAny_mono h (fun vo s₁ h => wpAny_bind (wpAny_holding (wpAny_mono h (fun vi s₂ h => wpAny_bind (wpAny_holding ?_)) fun _ _ z => z))) fun _ _ z => z)))
  refine wpAny_bind (wpAny_standAt (wpAny_bind (wpAny_mono h (fun va s₃ h => wpAny_bind (wpAny_holding (wpAny_mono h (fun vb s₄ h => ?_) fun _ _ z => z))) fun _ _ z => z)))
  refine wpAny_bind (wpAny_standAt (wpAny_operating (wpAny_mono h (fun vc s₅ h => wpAny_bind (wpAny_standAt ?_)) fun _ _ z => z)))
  rw [hst]
  exact wpAny_bind (wpAny_holding (wpAny_mono h (fun _ _ z => wpAny_bind (wpAny_release (wpAny_pure z))) fun _ _ z => z))
theorem is_augs (H : EvS C O n) {o i e : E} {bo : BO} {ov iv : PySem.Expr} {p pos : Pos} {value : PySem.Expr} (hi : plainIdx iv = true) (h1 : RE nt o ov) (h2 : RE nt i iv) (hr : RE nt e value) (r : Rel C P Z φ σ s) (en : EnvIs φ d nt env) (hA : ARoom A n) :
    Sn (exT O (.augs o i bo e) d σ) fun f σ' => wpAny (model C.prog C.w) A (exec (.AugAssign (.Subscript ov iv p) bo.op value pos) env) (Post C P Z φ (RF C f) σ') NoE s :=
  Sn.imp (Sn.seq (H h1 r en hA) fun xo σ₁ vo s₁ P₁ φ₁ p1 f1 r1 k1 => Sn.seq (H h2 r1 (en.up f1) hA) fun xi σ₂ vi s₂ P₂ φ₂ p2 f2 r2 k2 =>
    Sn.seq (R := fun v => RV C (.d v)) (Sn.opt ((sub_sn r2 (k1.mono p2 f2) k2).imp fun _ z => z.1)) fun xv σ₃ va s₃ P₃ φ₃ p3 f3 r3 k3 => Sn.seq (H hr r3 (en.up (f1.trans (f2.trans f3))) hA) fun w σ₄ vb s₄ P₄ φ₄ p4 f4 r4 k4 =>
    int2K (a := .d xv) (VIs.mono (x := .d xv) p4 f4 k3) k4 (fun x y t u => Sn.seq (opI_sn r4) fun q σ₅ vc s₅ P₅ φ₅ p5 f5 r5 k5 =>
      have p25 := p3.trans (p4.trans p5)
      have f25 := f3.trans (f4.trans f5)
      Sn.next <| (setAtV_sn r5 ((k1.mono p2 f2).mono p25 f25) (k2.mono p25 f25) k5).imp fun _ z => stored z (p1.trans (p2.trans p25)) (f1.trans (f2.trans f25))) fun _ _ => Sn.nil) fun _ _ z => augs_wp hi z
end
end Mine
end
section
open PySem PySem.Calls PyProof.Rows PySem.W
namespace Mine
section
variable {C : Cx} {O : Ops} {n : Nat} {nt : NT} {d : Dsc} {σ σ' : List S} {env : Env} {P Z : PH} {φ : Phi} {s : Shared} {A : Around}
theorem two_swap {n1 n2 a1 a2 : Str} {p1 p2 q1 q2 r1 r2 : Pos} {k1 k2 : Nat} {l r : PySem.Expr} (hp : twoOk n1 n2 p1 p2 = true) (h1 : env.scope.kind = .function) (h2 : env.kindOf n1 = some .local) (h3 : env.kindOf n2 = some .local) :
    swappedStores [.Tuple [.Name n1 p1, .Name n2 p2] k1 q1] (.Tuple [.Attribute l a1 r1, .Attribute r a2 r2] k2 q2) env = pure (some [n1, n2]) := by
  have hb : env.blockKind = .function := by unfold Env.blockKind; rw [h1]; rfl
  have hn : (n2 == n1) = false := nf (ar hp)
  have hl : (p2.line == p1.line) = true := al hp
  have z : (([PySem.Expr.Name n1 p1, .Name n2 p2].head?.map (·.pos.line)).getD 0) = p1.line := rfl
  have e : n2 ≠ n1 := by simpa using hn
  have c1 : foldedForSure 8 (.Attribute l a1 r1) = false := rfl
  have c2 : constantsAlone 8 (.Attribute l a1 r1) = false := rfl
  unfold swappedStores
  dsimp only
  rw [z, hb]
  simp [h2, h3, beq_iff_eq.mp hl, List.eraseDups_cons, e, c1, c2]
theorem is_two (H : EvS C O n) {x y : Nat} {a b : E} {n1 n2 a1 a2 : Str} {p1 p2 z1 z2 : Pos} {k1 : Nat} {q1 : Pos} {l r : PySem.Expr} {k2 : Nat} {q2 pos : Pos} (hp : twoOk n1 n2 p1 p2 = true) (hx : RS nt (.loc x) n1) (hy : RS nt (.loc y) n2) (ha : RE nt a (.Attribute l a1 z1)) (hb : RE nt b (.Attribute r a2 z2))
    (rr : Rel C P Z φ σ s) (en : EnvIs φ d nt env) (hA : ARoom A n) :
    Sn (exT O (.two (.loc x) (.loc y) a b) d σ) fun f σ' => wpAny (model C.prog C.w) A (exec (.Assign [.Tuple [.Name n1 p1, .Name n2 p2] k1 q1] (.Tuple [.Attribute l a1 z1, .Attribute r a2 z2] k2 q2) pos) env) (Post C P Z φ (RF C f) σ') NoE s := by
  have hk1 : env.kindOf n1 = some .local := by cases hx with | loc _ h => exact en.loc _ h
  have hk2 : env.kindOf n2 = some .local := by cases hy with | loc _ h => exact en.loc _ h
  refine Sn.imp (T := fun f σ' => wpAny (model C.prog C.w) A (spliced [(false, eval (.Attribute l a1 z1) env), (false, eval (.Attribute r a2 z2) env)]) (fun as s₁ => as.length ≤ sizeLine ∧ wpAny (model C.prog C.w) A (do
      let st ← swappedStores [.Tuple [.Name n1 p1, .Name n2 p2] k1 q1] (.Tuple [.Attribute l a1 z1, .Attribute r a2 z2] k2 q2) env
      assignStores env (.ref s₁.heap.objs.size) st ((assignEach [.Tuple [.Name n1 p1, .Name n2 p2] k1 q1] env).map (·.2))) (Post C P Z φ (RF C f) σ') NoE { s₁ with heap := s₁.heap.push (tupOf as.toArray 0) }) NoE s) ?_ fun f σ' z => ?_
  · refine Sn.imp (Sn.seq (evD_sn H ha rr en hA) fun v σ₁ va s₁ P₁ φ₁ p1' f1 r1 k1 => Sn.seq (evD_sn H hb r1 (en.up f1) hA) fun w σ₂ vb s₂ P₂ φ₂ p2' f2 r2 k2 => Sn.next <| So.bind fun σa h1 => So.bind fun σb h2 => So.just ?_) fun _ _ z => spliced_cons (wpAny_mono z (fun va s₁ z => spliced_cons (wpAny_mono z (fun vb s₂ z => spliced_nil z) fun _ _ z => z)) fun _ _ z => z)
    refine ⟨by show 2 ≤ sizeLine; decide, wpAny_bind (wpAny_of_eq (two_swap hp en.kind hk1 hk2) ?_)⟩
    obtain ⟨m1, m2⟩ := r2.newData (tupOf #[va, vb] 0) rfl
    show wpAny _ _ (do
      rule "assign.swapped-stores"
      let items ← unpackItems (.ref s₂.heap.objs.size) (#[va, vb] : Array Value).size none
      assignInOrder [fun v => bindName env n2 v, fun v => bindName env n1 v] items.reverse
      pure Flow.next) _ _ _
    refine wpAny_bind (wpAny_rule (wpAny_bind (wpAny_unpackItems_tuple hA.handled ⟨_, Heap.get?_push_size _ rfl, rfl, 0, rfl⟩ fun h' hx' => ?_)))
    have z := m2.none_at (size_none _)
    have m3 := m2.other (s' := { s₂ with heap := h' }) hx' z.1 z.2.1 z.2.2
    have en2 := en.up (f1.trans f2)
    show wpAny _ _ (do (do holding [va] (bindName env n2 vb); (do holding [] (bindName env n1 va); pure ())); pure Flow.next) _ _ _
    refine wpAny_bind (wpAny_bind (wpAny_holding (wpAny_bindName (store_is m3 en2 hy h1 (VIs.mono (x := .d w) m1 (List.prefix_refl _) k2) fun s₄ _ _ _ _ r4 _ _ _ _ => ?_))))
    refine wpAny_bind (wpAny_holding (wpAny_bindName (store_is r4 en2 hx h2 (VIs.mono (x := .d v) (p2'.trans m1) f2 k1) fun s₅ _ _ _ _ r5 _ _ _ _ => ?_)))
    exact wpAny_pure (wpAny_pure ⟨_, φ₂, p1'.trans (p2'.trans m1), f1.trans f2, r5, rfl⟩)
  · rw [arm_exec_Assign]
    refine wpAny_bind (wpAny_standAt (wpAny_bind (wpAny_of_eq (a := false) rfl ?_)))
    rw [if_neg Bool.false_ne_true]
    have hst : backTo q2 (starEach [.Attribute l a1 z1, .Attribute r a2 z2] env) = [(false, eval (.Attribute l a1 z1) env), (false, eval (.Attribute r a2 z2) env)] := rfl
    exact wpAny_bind (PySem.wpAny_Tuple (hst ▸ z))
theorem is_exp (H : EvS C O n) {e : E} {value : PySem.Expr} {pos : Pos} (hr : RE nt e value) (hk : notComp value = true) (r : Rel C P Z φ σ s) (en : EnvIs φ d nt env) (hA : ARoom A n) :
    Sn (exT O (.exp e) d σ) fun f σ' => wpAny (model C.prog C.w) A (exec (.Expr value pos) env) (Post C P Z φ (RF C f) σ') NoE s := by
  refine Sn.imp (T := fun f σ' => wpAny (model C.prog C.w) A (eval value env) (fun y s₁ => y = .none ∧ Post C P Z φ (RF C f) σ' .next s₁) NoE s) (Sn.seq (H hr r en hA) fun v σ₁ y s₁ P₁ φ₁ p1 f1 r1 k1 => nonK k1 (Sn.gd fun _ => Sn.ok ⟨rfl, P₁, φ₁, p1, f1, r1, rfl⟩) fun _ _ => Sn.gd fun h => ff _ h) fun f σ' z => ?_
  rw [arm_exec_Expr]
  refine wpAny_bind (wpAny_standAt ?_)
  have hi : interactive env = false := by unfold interactive; rw [en.kind]; rfl
  rw [hi, if_neg Bool.false_ne_true]
  refine wpAny_bind (wpAny_of_eq (swaps_not hk none pos.line env) ?_)
  rw [if_neg Bool.false_ne_true]
  refine wpAny_bind (wpAny_mono z (fun y s₁ z => ?_) fun _ _ z => z)
  have hd : dropValue value pos .none = pure .next := by cases value <;> rfl
  rw [z.1, hd]
  exact wpAny_pure z.2
theorem is_for {mg mb : Str → Option Value} (G : Glob C mg mb) (hm : ∃ o, C.h₀.get? sysModules = some o) (H : EvS C O n) (HX : ExS C O n) {xs : List X} {tupl : Bool} {k : IK} {ia : List E} {b : List T} {tg it : PySem.Expr} {bs : List PySem.Stmt} {pos : Pos} (ht : RTg nt xs tupl tg) (hk : k = .items → tupl = true) (hri : RI nt k ia it) (hbs : RTs nt b bs)
    (r : Rel C P Z φ σ s) (en : EnvIs φ d nt env) (hA : ARoom A n) :
    Sn (exT O (.for1 xs tupl k ia b) d σ) fun f σ' => wpAny (model C.prog C.w) A (exec (.For tg it bs [] pos) env) (Post C P Z φ (RF C f) σ') NoE s := by
  refine Sn.bnd <| (iter_sn G hm H hri r en hA).imp fun vs σ₁ hs => Sn.bind <| hs.imp fun q hw f σ' ob e ho => ?_
  refine wpAny_For (wpAny_mono hw (fun xv s₁ hx => wpAny_mono hx (fun itv s₂ hs => ?_) fun _ _ z => z) fun _ _ z => z) (folded_is (iter_not hri) env)
  obtain ⟨P₁, φ₁, Z', I, oi, bb, p1, f1, rfl, r1, hoi, hPi, hZi, hφi, iti, hb, hl⟩ := hs.is
  revert f σ' ob
  refine Sn.bnd (T := fun f σ' => codeAny _ _ _ _ _) <| (for_sn HX hA ht (fun z => hk (hb z).1) hbs q.1 List.drop_zero ⟨r1, ⟨oi, hoi, iti⟩, hPi, hZi, hφi⟩ (en.up f1)).imp fun fl σ₂ hc => Sn.ok (codeAny_mono hc fun res s' z => ?_)
  obtain ⟨fv, rfl, P₂, φ₂, p2, f2, r2, k2⟩ := z
  exact ⟨P₂, φ₂, p1.trans p2, f1.trans f2, hl.off p2 f2 r2, k2⟩
/-- one statement -/
theorem stmt_sn {mg mb : Str → Option Value} (G : Glob C mg mb) (hm : ∃ o, C.h₀.get? sysModules = some o) (HS : SetAS C n) (H : EvS C O n) (HC : CompS C O n) (HX : ExS C O n) {t : T} {st : PySem.Stmt} (hr : RTv nt t st) (r : Rel C P Z φ σ s) (en : EnvIs φ d nt env) (hA : ARoom A n) :
    Sn (exT O t d σ) fun f σ' => wpAny (model C.prog C.w) A (exec st env) (Post C P Z φ (RF C f) σ') NoE s := by
  cases hr with
  | asg h1 h2 => exact is_asg H HC h1 h2 r en hA
  | asgs h1 h2 h3 h4 => exact is_asgs H h1 h2 h3 h4 r en hA
  | two h1 h2 h3 h4 h5 => exact is_two H h1 h2 h3 h4 h5 r en hA
  | unp h1 h2 h3 => exact is_unp H h1 h2 h3 r en hA
  | sets h1 h2 h3 h4 => exact is_sets H h2 h3 h4 r en hA
  | aug h1 h2 => exact is_aug H h1 h2 r en hA
  | augs h1 h2 h3 h4 => exact is_augs H h1 h2 h3 h4 r en hA
  | seta h1 h2 h3 => exact is_seta HS H h1 h2 h3 r en hA
  | @ite _ b o _ bs os _ h1 h2 h3 =>
    refine Sn.imp (Sn.seq (Er := NoE) (Q := fun f σ' c s₁ => wpAny (model C.prog C.w) A (execs (if c = true then bs else os) env) (Post C P Z φ (RF C f) σ') NoE s₁) (tst_sn hm H hA h1 r en) fun c σ₁ c' s₁ P₁ φ₁ p1 f1 r1 k1 => ?_) fun f σ' z => ?_
    · cases k1
      cases c with
      | true => exact (HX h2 r1 (en.up f1) hA).up p1 f1
      | false => exact (HX h3 r1 (en.up f1) hA).up p1 f1
    · rw [arm_exec_If]
      refine wpAny_bind (wpAny_standAt (wpAny_bind (wpAny_mono z (fun c s₁ z => ?_) fun _ _ z => z)))
      cases c with
      | true => exact z
      | false => exact z
  | for1 h1 h2 h3 h4 => exact is_for G hm H HX h1 h2 h3 h4 r en hA
  | brk =>
    rw [arm_exec_Break]
    exact Sn.ok (wpAny_bind (wpAny_standAt (wpAny_pure (post_pure r rfl))))
  | @ret e value pos h1 =>
    refine Sn.bnd <| (H h1 r en hA).imp fun v σ₁ z => Sn.ok ?_
    rw [arm_exec_Return]
    refine wpAny_bind (wpAny_standAt ?_)
    show wpAny _ _ (do return Flow.ret (← eval _ env)) _ _ _
    exact wpAny_bind (wp_seq z fun y s₁ P₁ φ₁ p1 f1 r1 k1 => wpAny_pure ⟨P₁, φ₁, p1, f1, r1, y, rfl, k1⟩)
  | exp h1 h2 => exact is_exp H h1 h2 r en hA
theorem RT.sn {mg mb : Str → Option Value} (G : Glob C mg mb) (hm : ∃ o, C.h₀.get? sysModules = some o) (HS : SetAS C n) (H : EvS C O n) (HC : CompS C O n) (HX : ExS C O n) {t : T} {st : PySem.Stmt} (hr : RT nt t st) (r : Rel C P Z φ σ s) (en : EnvIs φ d nt env) (hA : ARoom A n) :
    Sn (exT O t d σ) fun f σ' => wpAny (model C.prog C.w) A (exec st env) (Post C P Z φ (RF C f) σ') NoE s := by
  obtain ⟨k, h⟩ := hr
  cases k with
  | zero => exact ff _ h
  | succ k =>
    cases e : isDead t with
    | true => cases t with
      | dead => exact Sn.nil
      | _ => cases e
    | false => exact stmt_sn G hm HS H HC HX (tview_of e h) r en hA
theorem execs_sn {mg mb : Str → Option Value} (G : Glob C mg mb) (hm : ∃ o, C.h₀.get? sysModules = some o) (HS : SetAS C n) (H : EvS C O n) (HC : CompS C O n) (HX : ExS C O n) (hA : ARoom A n) : ∀ {ts : List T} {xs : List PySem.Stmt} {σ : List S} {P : PH} {φ : Phi} {s : Shared},
    RTs nt ts xs → Rel C P Z φ σ s → EnvIs φ d nt env → Sn (exStep O ts d σ) fun f σ' => wpAny (model C.prog C.w) A (execs xs env) (Post C P Z φ (RF C f) σ') NoE s := by
  intro ts
  induction ts with
  | nil =>
    intro xs σ P φ s hr r _
    cases hr
    exact Sn.ok (wpAny_execs_nil (post_pure r rfl))
  | cons t ts ih =>
    intro xs σ P φ s hr r en
    cases hr with
    | @cons _ st _ sts h1 h2 =>
      refine Sn.imp (Sn.seq (Er := NoE) (Q := fun f σ' fl s₁ => wpAny (model C.prog C.w) A (match fl with | .next => execs sts env | f => pure f) (Post C P Z φ (RF C f) σ') NoE s₁) (h1.sn G hm HS H HC HX r en hA) fun g σ₁ fl s₁ P₁ φ₁ p1 f1 r1 k1 => ?_) fun f σ' z => ?_
      · cases g with
        | next =>
          cases k1
          exact (ih h2 r1 (en.up f1)).up p1 f1
        | brk =>
          cases k1
          exact Sn.ok (wpAny_pure ⟨P₁, φ₁, p1, f1, r1, rfl⟩)
        | ret v =>
          obtain ⟨y, rfl, hy⟩ := k1
          exact Sn.ok (wpAny_pure ⟨P₁, φ₁, p1, f1, r1, y, rfl, hy⟩)
      · rw [arm_execs_cons]
        exact wpAny_bind z
end
end Mine
end
section
open PySem PySem.Calls PyProof.Rows PySem.W
namespace Mine
structure FnIs (C : Cx) (f : Nat) (F : FnD) (o : Obj) (fd : FuncData) (body : List PySem.Stmt) : Prop where
  obj : C.h₀.get? (C.fa f) = some o
  data : o.data = .func fd
  bodyIs : fd.body = .stmts body
  text : RTs ⟨fd.scope.names, F.nm, F.cel⟩ F.body body
  kind : fd.scope.kind = .function
  co : fd.scope.isCoroutine = false
  gen : fd.scope.isGenerator = false
  code : C.h₀.CodeRec fd.code fd.qualname
  clo : fd.closure = []
  glo : fd.globals = mainGlobals
  blt : fd.builtins = builtinsNs
  cel : kindNm .cell fd.scope.names = F.cel
  nd : F.nm.Nodup
  ndc : F.cel.Nodup
  bind : ∀ vals : List Value, vals.length = F.np → bindArgs fd ⟨vals, []⟩ = pure ((F.nm.take F.np).zip vals)
  np : F.np ≤ F.nm.length
  loc : ∀ x ∈ F.nm.take F.np, fd.scope.names.lookup x = some .local
noncomputable def FnOk (C : Cx) (f : Nat) (F : FnD) : Prop := ∃ o fd body, FnIs C f F o fd body
noncomputable def CallR (Q : Value → Shared → Prop) : Result → Shared → Prop := fun r s' => match r with
  | .ok (.ret v) => Q v s'
  | .ok _ => False
  | .error e => NoE e s'
noncomputable def CallS (C : Cx) (O : Nat → List V → List S → Res V) (n : Nat) : Prop := ∀ {f : Nat} {vs : List V} {σ : List S} {P Z : PH} {φ : Phi} {s : Shared} {A : Around} {args : List Value},
  Rel C P Z φ σ s → All2 (VIs C P φ) vs args → ARoom A n → Sn (O f vs σ) fun v σ' => codeAny (model C.prog C.w) A (.call (.ref (C.fa f)) ⟨args, []⟩) (CallR (Post C P Z φ (RV C v) σ')) s
noncomputable def retOf : Flow → Value
  | .ret u => u
  | _ => .none
section
variable {C : Cx} {O : Ops} {n : Nat} {nt : NT} {d : Dsc} {σ σ' : List S} {env : Env} {P Z : PH} {φ : Phi} {s : Shared} {A : Around} {ob : List OB} {f : Fl}
theorem take_prefix {φ φ' : Phi} (h : φ <+: φ') : φ'.take φ.length = φ := by
  obtain ⟨t, rfl⟩ := h
  simp
/-- a call's end -/
theorem retE_sn {φ' : Phi} {k : Nat} {a : Addr} {nm : List Str} {σc : List S} (hl : φ.length = σ.length) (hf : φ <+: φ') (r : Rel C P Z φ' σ' s) (rc : Rel C P Z φ σc s) (hk : φ'[k]? = some (a, nm)) : Sn (retE σ.length k σ' σc) fun v σ₂ => Post C P Z φ (RV C v) σ₂ (.ref a) s := by
  delta retE
  cases e : Nat.blt k σ.length with
  | true =>
    obtain ⟨t, rfl⟩ := hf
    rw [List.getElem?_append_left (hl ▸ Nat.le_of_ble_eq_true e)] at hk
    exact Sn.ok (post_pure rc ⟨a, nm, hk, rfl⟩)
  | false =>
    have hge : φ.length ≤ k := Nat.le_of_not_lt fun q => Bool.false_ne_true (e.symm.trans (Nat.ble_eq_true_of_le (hl ▸ q)))
    have nin : ∀ p ∈ φ, p.1 ≠ a := fun p hp e => by
      obtain ⟨i, hi⟩ := List.mem_iff_getElem?.mp hp
      have hik : i = k := r.inj (nm := p.2) (e ▸ getElem?_of_prefix hf hi) hk
      exact absurd (List.getElem?_eq_some_iff.mp hi).1 (Nat.not_lt.mpr (hik ▸ hge))
    refine Sn.els (So.lis fun xs hσ => Sn.ok ?_) (Sn.bind <| So.opn fun es hσ => Sn.ok ?_)
    · obtain ⟨h1, h2, o, ho, vs, m, rfl, hq⟩ := r.own k a nm _ hk hσ
      exact ⟨_, φ, PH.put_le h1, List.prefix_refl _, rc.freeze ho h1 (h2 rfl) nin, DIs.of_list (vs := vs.toList) PH.put_self (hq.imp fun _ _ z => z.mono (PH.put_le h1))⟩
    · obtain ⟨h1, h2, o, ho, hq⟩ := r.own k a nm _ hk hσ
      exact ⟨P, φ ++ [(a, nm)], PLe.refl _, List.prefix_append .., rc.own_at ho h1 (h2 rfl) nin hq, a, nm, by rw [← hl, List.getElem?_append_right (Nat.le_refl _), Nat.sub_self]; rfl, rfl⟩
theorem callEnd_sn {φ' : Phi} {fl : Fl} {w : Flow} (hl : φ.length = σ.length) (hf : φ <+: φ') (r : Rel C P Z φ' σ' s) (hw : RF C fl P φ' w) : Sn (callEnd σ.length fl σ') fun v σ₂ => Post C P Z φ (RV C v) σ₂ (retOf w) s := by
  refine Sn.bind fun σc hc => ?_
  have rc := r.cut hc
  rw [← hl, take_prefix hf] at rc
  cases fl with
  | next => cases hw; exact Sn.ok (post_pure rc DIs.none)
  | brk => cases hw; exact Sn.ok (post_pure rc DIs.none)
  | ret v =>
    obtain ⟨u, rfl, hu⟩ := hw
    cases v with
    | d x => exact Sn.ok (post_pure rc hu)
    | ref k =>
      obtain ⟨a, nm, hk, rfl⟩ := hu
      exact retE_sn hl hf r rc hk
theorem ARoom.deeper {m : Nat} (h : ARoom A (m + 1)) (env : Env) : ARoom (A.deeper env) m :=
  ⟨by have := h.depth; show A.depth + 1 + m ≤ 900; omega, by have := h.units; show A.units + 3 + 20 * m ≤ 9800; omega, h.handled⟩
theorem All2.zip {R : V → Value → Prop} {vs : List V} {as : List Value} (h : All2 R vs as) (ns : List Str) (hl : ns.length = as.length) : All2 R vs ((ns.zip as).map (·.2)) := by
  have : (ns.zip as).map (·.2) = as := List.map_snd_zip (Nat.le_of_eq hl.symm)
  rw [this]; exact h
theorem zip_at {ns : List Str} {as : List Value} (hl : ns.length = as.length) {j : Nat} {b : Str × Value} (e : (ns.zip as)[j]? = some b) : ns[j]? = some b.1 := by
  have h := congrArg (Option.map (·.1)) e
  rw [← List.getElem?_map, List.map_fst_zip (Nat.le_of_eq hl)] at h
  exact h
theorem take_at {ns : List Str} {n j : Nat} {x : Str} (e : (ns.take n)[j]? = some x) : ns[j]? = some x := by
  rw [List.getElem?_take] at e
  split at e
  · exact e
  · cases e
/-- the frame of a call -/
theorem call_env {F : FnD} {sc : Scope} {L : Addr} {g b : Addr} {q : Str} {fn : Option Addr} {code : Value} (hk : sc.kind = .function) (hcl : cellNm sc.names = F.cel) (nd : F.cel.Nodup) (hg : g = mainGlobals) (hb : b = builtinsNs) (hl : φ.length = σ.length) :
    EnvIs (φ ++ (L, F.nm) :: cellPhi (L + 1) (cellNm sc.names)) (callDsc F σ.length) ⟨sc.names, F.nm, F.cel⟩ (newEnv sc L g (cellsFrom (L + 1) sc.names []) q fn code none b) := by
  refine ⟨hk, fun x h => h, fun x h => h, fun x h => .inl h, fun x h => h, ?_, fun j x hj => ?_, hg, hb⟩
  · show (φ ++ (L, F.nm) :: cellPhi (L + 1) (cellNm sc.names))[σ.length]? = some (L, F.nm)
    rw [← hl, List.getElem?_append_right (Nat.le_refl _), Nat.sub_self]; rfl
  · have hj' : F.cel[j]? = some x := hj
    have hjl := (List.getElem?_eq_some_iff.mp hj').1
    refine ⟨σ.length + 1 + j, L + 1 + j, [], ?_, ?_, ?_⟩
    · show ((List.range F.cel.length).map fun i => σ.length + 1 + i)[j]? = _
      rw [List.getElem?_map, List.getElem?_range hjl]; rfl
    · rw [← hl, Nat.add_assoc, List.getElem?_append_right (Nat.le_add_right _ _), Nat.add_sub_cancel_left, Nat.add_comm 1 j, List.getElem?_cons_succ, hcl, cellPhi_get _ _ _ hjl]
    · exact cellsFrom_new _ _ _ j x (by rw [hcl]; exact nd) (by rw [hcl]; exact hj')
/-- one call of a function of the program -/
theorem fn_sn (hnl : C.h₀.NoLimit) {m fi : Nat} {F : FnD} {vs : List V} {args : List Value} (hF : FnOk C fi F) (HX : ExS C O m) (hlen : args.length = F.np)
    (r : Rel C P Z φ σ s) (ha : All2 (VIs C P φ) vs args) (hA : ARoom A (m + 1)) : Sn (bnd (O.ex F.body (callDsc F σ.length) (callSt F vs σ)) fun fl σ' => callEnd σ.length fl σ') fun v σ' => codeAny (model C.prog C.w) A (.call (.ref (C.fa fi)) ⟨args, []⟩) (CallR (Post C P Z φ (RV C v) σ')) s := by
  obtain ⟨o, fd, body, hF⟩ := hF
  intro v σ' ob e ho
  have hbase : ∀ b o, C.h₀.get? b = some o → s.heap.get? b = some o := fun b o e => r.keep b o (r.base b o e)
  have htl : (F.nm.take F.np).length = args.length := by rw [List.length_take, Nat.min_eq_left hF.np, hlen]
  refine codeAny_call_function (Nat.lt_of_le_of_lt (Nat.le_of_add_right_le hA.depth) (by decide)) (hbase _ _ hF.obj) hF.data hF.co hF.gen hF.bodyIs (hF.code.keeps hbase) ?_
  rw [hF.bind args hlen, hF.clo, hF.glo, hF.blt]
  refine wpAny_pure (newEnv_is hF.kind F.nm hF.nd vs (fun j b e => ⟨take_at (zip_at htl e), hF.loc _ (List.mem_of_getElem? (zip_at htl e))⟩) (ha.zip _ htl) (by rw [ha.1, hlen]; exact hF.np) r fun s₁ r1 => ⟨hnl.keeps fun b o e => r1.keep b o (r1.base b o e), codeAny_func ?_⟩)
  have hcl : cellNm fd.scope.names = F.cel := hF.cel
  have hσ : σ ++ .frame (vs.map some ++ List.replicate (F.nm.length - vs.length) none) :: ((cellNm fd.scope.names).map fun _ => S.cell none) = callSt F vs σ := by
    unfold callSt; rw [hcl]
  rw [hσ] at r1
  revert v σ' ob
  refine Sn.bnd (T := fun v σ' => wpAny _ _ _ _ _ _) <| (HX hF.text r1 (call_env hF.kind hcl hF.ndc rfl rfl r.len) (hA.deeper _)).imp fun fl σ₂ z v σ' ob e ho => wp_seq z fun w s₂ P₂ φ₂ p2 f2 r2 k2 => ?_
  have fin := (callEnd_sn r.len (List.IsPrefix.trans (List.prefix_append ..) f2) r2 k2 v σ' ob e ho).up p2 (List.prefix_refl _)
  cases w <;> exact fin
end
end Mine
end
section
open PySem PySem.Calls PyProof.Rows PySem.W
namespace Mine
section
variable {C : Cx} {O : Ops} {n : Nat} {nt : NT} {d : Dsc} {σ σ' : List S} {env : Env} {P Z : PH} {φ : Phi} {s : Shared} {A : Around} {ob : List OB} {f : Fl}
theorem refsOf_is {φs : Phi} : ∀ {vs : List V} {args : List Value} {k : Nat}, All2 (VIs C P φ) vs args → φs.length = k + (refsOf vs k).2.length → (∀ (t j : Nat) p, (refsOf vs k).2[t]? = some j → φs[k + t]? = some p → φ[j]? = some p) → All2 (VIs C P φs) (refsOf vs k).1 args := by
  intro vs
  induction vs with
  | nil => exact fun ha _ _ => ha.nil_l ▸ All2.nil
  | cons v vs ih =>
    intro args k ha hl hp
    cases v with
    | d x => exact ha.consK fun a args h1 h2 => All2.cons h1 (ih h2 hl hp)
    | ref m =>
      refine ha.consK fun a args h1 h2 => ?_
      have hl : φs.length = k + ((refsOf vs (k + 1)).2.length + 1) := hl
      have hk : k < φs.length := hl ▸ Nat.lt_add_of_pos_right (Nat.succ_pos _)
      have h0 := hp 0 m φs[k] rfl (List.getElem?_eq_getElem hk)
      obtain ⟨b, nm, h1, rfl⟩ := h1
      exact All2.cons ⟨b, nm, (List.getElem?_eq_getElem hk).trans (h0.symm.trans h1), rfl⟩ (ih h2 (hl.trans (by rw [Nat.add_comm _ 1, Nat.add_assoc])) fun t j p e1 e2 => hp (t + 1) j p e1 (by rw [Nat.add_comm t 1, ← Nat.add_assoc]; exact e2))
theorem opnS_so {x : S} {Q : S → List (List Nat × D) → Prop} (h : ∀ es, Q (.mdict false es) es) : So (opnS x) (Q x) := fun es e => by
  unfold opnS at e
  split at e
  · cases e; exact h _
  · cases e
/-- what a call hands back -/
theorem retA_sn {js : List Nat} {rv : V} {σ₂ σs σs' rest : List S} {φs φs' : Phi} {P' : PH} {s' : Shared} {y : Value} (r : Rel C P Z φ σ s) (hs : subS js σ = some σs) (hp : Picks js φ φs) (hb : backS js σs' σ = some (σ₂, rest))
    (p1 : PLe P P') (f1 : φs <+: φs') (r1 : Rel C P' (Zpart φ φs Z s.heap) φs' σs' s') (k1 : VIs C P' φs' rv y) : Sn (retA js σ rv σ₂ rest) fun v σ' => Post C P Z φ (RV C v) σ' y s' := by
  have rb := r.back hs hp p1 f1 r1 hb
  have b := backS_is hb (subS_is hs).1
  cases rest with
  | nil =>
    cases rv with
    | d x => exact Sn.ok ⟨P', φ, p1, List.prefix_refl _, rb, k1⟩
    | ref k =>
      refine Sn.bind fun m hm => Sn.ok ?_
      obtain ⟨a, nm, e1, rfl⟩ := k1
      have hk : k < φs.length := by rw [hp.1]; exact (List.getElem?_eq_some_iff.mp hm).1
      obtain ⟨t, rfl⟩ := f1
      rw [List.getElem?_append_left hk] at e1
      exact ⟨P', φ, p1, List.prefix_refl _, rb, a, nm, hp.2 k m _ hm e1, rfl⟩
  | cons x rest =>
    refine Sn.gd fun _ => refK k1 (fun k a nm e1 => Sn.step fun v σ' ob => ?_) fun _ _ => Sn.nil
    revert v σ' ob
    refine Sn.bind fun es hx => Sn.gd fun hk => Sn.ok ?_
    have hx : x = .mdict false es := opnS_so (Q := fun x es => x = .mdict false es) (fun _ => rfl) es hx
    subst hx
    have hk := Nat.eq_of_beq_eq_true hk
    subst hk
    have hlen : (σs'.take js.length).length = js.length := by rw [List.length_take, Nat.min_eq_left b.2.2.1]
    have hσ : σs'[js.length]? = some (.mdict false es) := (congrArg (·[js.length]?) b.2.1).trans (by rw [List.getElem?_append_right (Nat.le_of_eq hlen), hlen, Nat.sub_self]; rfl)
    obtain ⟨h1, h2, o, hoo, hq⟩ := r1.own _ a nm _ e1 hσ
    have hZp := h2 rfl
    have nins : a ∉ φs.map (·.1) := fun hm => by
      obtain ⟨t, j, nm', g1, g2, g3⟩ := hp.mem hm
      have he := r1.inj (getElem?_of_prefix f1 g2) e1
      exact absurd (List.getElem?_eq_some_iff.mp g1).1 (Nat.not_lt.mpr (Nat.le_of_eq he.symm))
    have nin : ∀ p ∈ φ, p.1 ≠ a := fun p hpp e => by
      unfold Zpart at hZp
      rw [if_neg nins, if_pos (List.mem_map.mpr ⟨p, hpp, e⟩)] at hZp
      obtain ⟨i, hi⟩ := List.mem_iff_getElem?.mp hpp
      obtain ⟨ox, hox⟩ := r.inHeap (a := p.1) (nm := p.2) hi
      rw [e, hZp] at hox; cases hox
    have hZ : Z a = none := by
      unfold Zpart at hZp
      rw [if_neg nins, if_neg fun hm => by obtain ⟨p, hpp, e⟩ := List.mem_map.mp hm; exact nin p hpp e] at hZp
      exact hZp
    exact ⟨P', φ ++ [(a, nm)], p1, List.prefix_append .., rb.own_at (nm := nm) (x := .mdict false es) hoo h1 hZ nin hq, a, nm, by rw [← r.len, List.getElem?_append_right (Nat.le_refl _), Nat.sub_self]; rfl, rfl⟩
theorem callAt_sn (HC : CallS C O.call n) {fi : Nat} {vs : List V} {args : List Value} (r : Rel C P Z φ σ s) (ha : All2 (VIs C P φ) vs args) (hA : ARoom A n) :
    Sn (callAt O fi vs σ) fun v σ' => wpAny (model C.prog C.w) A (call (.ref (C.fa fi)) args) (Post C P Z φ (RV C v) σ') NoE s := by
  refine Sn.bind fun σs hs => ?_
  obtain ⟨φs, hp⟩ := picks_of (sub_lt r hs)
  have ha' : All2 (VIs C P φs) (refsOf vs 0).1 args := refsOf_is ha (by rw [Nat.zero_add]; exact hp.1) fun t j p e1 e2 => hp.2 t j p e1 (by rwa [Nat.zero_add] at e2)
  exact Sn.bnd <| (HC (r.subR hs hp) ha' hA).imp fun rv σs' z => Sn.bind fun q hb v σ' ob e ho => wp_seq (wpAny_call (E := NoE) z) fun y s' P' φs' p1 f1 r1 k1 => retA_sn (σ₂ := q.1) (rest := q.2) r hs hp hb p1 f1 r1 k1 v σ' ob e ho
theorem calld_wp {mg mb : Str → Option Value} (G : Glob C mg mb) {fi : Nat} {as : List E} {nm : Str} {np p : Pos} {ls : List PySem.Expr} {o : Obj} {fd : FuncData} {Q : Value → Shared → Prop} (h2 : o.data = .func fd) (rg : RG nt nm) (hn : fnNms[fi]? = some nm) (hne : (nm == ("" : Str)) = false) (hr : REs nt as ls) (r : Rel C P Z φ σ s) (en : EnvIs φ d nt env)
    (h : wpAny (model C.prog C.w) A (spliced (backTo p (starEach ls env))) (fun as s₁ => s₁.heap.get? (C.fa fi) = some o ∧ wpAny (model C.prog C.w) A (call (.ref (C.fa fi)) as) Q NoE s₁) NoE s) : wpAny (model C.prog C.w) A (eval (.Call (.Name nm np) ls [] p) env) Q NoE s :=
  wpAny_Call_NameR (glob_is G r en rg (.inl (G.fns _ _ hn hne)) (callWith_function (o := o) (fd := fd) (args_is hr (wpAny_mono h (fun as s₁ z => ⟨⟨z.1, h2⟩, z.2⟩) fun _ _ z => z))))
/-- a call of a def by its name -/
theorem is_call {mg mb : Str → Option Value} (G : Glob C mg mb) (hfd : ∀ fi, fi < 19 → ∃ o fd, C.h₀.get? (C.fa fi) = some o ∧ o.data = .func fd) (H : EvS C O n) (HC : CallS C O.call n) {fi : Nat} {as : List E} {nm : Str} {np p : Pos} {ls : List PySem.Expr} (rg : RG nt nm) (hn : fnNms[fi]? = some nm) (hne : (nm == ("" : Str)) = false) (hr : REs nt as ls)
    (r : Rel C P Z φ σ s) (en : EnvIs φ d nt env) (hA : ARoom A n) :
    Sn (bnd (evs O d as σ) fun vs σ => callAt O fi vs σ) fun v σ' => wpAny (model C.prog C.w) A (eval (.Call (.Name nm np) ls [] p) env) (Post C P Z φ (RV C v) σ') NoE s := by
  obtain ⟨o, fd, h1, h2⟩ := hfd fi (List.getElem?_eq_some_iff.mp hn).1
  exact Sn.imp (Sn.seq (evs_sn H hA hr r en) fun vs σ₁ as s₁ P₁ φ₁ p1 f1 r1 k1 => (callAt_sn HC r1 k1 hA).imp fun v σ' z => ⟨r1.keep _ _ (r1.base _ _ h1), wp_up z p1 f1⟩) fun v σ' z => calld_wp G h2 rg hn hne hr r en z
end
end Mine
end
section
open PySem PySem.Calls PyProof.Rows PySem.W
namespace Mine
structure ClsFacts (C : Cx) (K : Frag) : Prop where
  inK : K.In C.h₀
  an : ∀ a, C.an a = attNms.getD a ""
  get : ∀ (c : Nat), c < 2 → ∀ (a : Nat) (nm : Str), attNms[a]? = some nm → plainGet K (C.ca c) nm = true ∧ hasDictIn K (C.ca c) = true ∧ ∃ attr, findIn K (.ref (C.ca c)) nm = some attr ∧ noGet K attr = true
  set : ∀ (c : Nat), c < 2 → findIn K (.ref (C.ca c)) "__setattr__" = some (some (.builtin "object.__setattr__")) ∧ plainOver K (C.ca c) = true ∧ ∀ (a : Nat) (nm : Str), attNms[a]? = some nm → takerIn K (C.ca c) nm = some none
  meth : ∀ (c m f : Nat) (nm : Str) (ms : List (Nat × Nat)), prg.meths[c]? = some ms → lookNN m ms = some f → metNms[m]? = some nm → f < 19 ∧ plainGet K (C.ca c) nm = true ∧ findIn K (.ref (C.ca c)) nm = some (some (.ref (C.fa f))) ∧ isFn K (.ref (C.fa f)) = true
  cattr : ∀ (c a : Nat) (nm : Str) (fs : List (Nat × D)) (v : D), prg.cattrs[c]? = some fs → lookN a fs = some v → attNms[a]? = some nm → ∃ mc x t, v = .str x ∧ readsIn K (C.ca c) mc = true ∧ findCls K (.ref (C.ca c)) mc nm = some (.val (.str ⟨x.toArray⟩ t))
  new : ∀ (c f : Nat), prg.inits[c]? = some f → f < 19 ∧ makesIn K (C.ca c) = true ∧ findIn K (.ref (C.ca c)) "__init__" = some (some (.ref (C.fa f))) ∧ typeIn K (.ref (C.fa f)) = some (.type "function") ∧ keepIn K (.ref (C.ca c)) = true
theorem nm_lt {l : List Str} {a : Nat} {nm : Str} (h : l[a]? = some nm) : a < l.length ∧ l.getD a "" = nm := ⟨(List.getElem?_eq_some_iff.mp h).1, by rw [List.getD_eq_getElem?_getD, h]; rfl⟩
/-- the names of attributes differ among each other -/
theorem an_ne {j a : Nat} {nm : Str} (h : attNms[a]? = some nm) (hj : j ≠ a) : (attNms.getD j "" == nm) = false := by
  have k := nm_lt h
  have key : ∀ a : Fin 8, ∀ j : Fin 9, j.val ≠ a.val → (attNms.getD j.val "" == attNms.getD a.val "") = false := by decide +kernel
  rw [← k.2]
  by_cases h8 : j < 9
  · exact key ⟨a, k.1⟩ ⟨j, h8⟩ hj
  · rw [List.getD_eq_getElem?_getD, List.getElem?_eq_none (Nat.le_of_lt (Nat.lt_of_not_le fun q => h8 (Nat.lt_succ_of_le q)))]
    exact key ⟨a, k.1⟩ ⟨8, by decide⟩ fun e => absurd e.symm (Nat.ne_of_lt (show a < 8 from k.1))
section
variable {C : Cx} {O : Ops} {n : Nat} {nt : NT} {d : Dsc} {σ σ' : List S} {env : Env} {P Z : PH} {φ : Phi} {s : Shared} {A : Around} {K : Frag}
theorem ent_key {p : Nat × D} {e : DictEntry} (Y : ClsFacts C K) (h : EntN C P p e) (nm : Str) : e.key.isStr nm = (attNms.getD p.1 "" == nm) := by
  obtain ⟨⟨t, hk⟩, _⟩ := h
  rw [hk, Y.an]; rfl
theorem ent_ref {p : Nat × D} {e : DictEntry} (h : EntN C P p e) : e.refKey = false := by
  obtain ⟨⟨t, hk⟩, _⟩ := h
  unfold DictEntry.refKey
  rw [hk]
theorem an_self {a : Nat} {nm : Str} (h : attNms[a]? = some nm) : (attNms.getD a "" == nm) = true := by
  rw [List.getD_eq_getElem?_getD, h]; exact beq_self_eq_true _
theorem lookN_c {a j : Nat} {w : D} {fs : List (Nat × D)} : lookN a ((j, w) :: fs) = if j = a then some w else lookN a fs := by
  show (match Nat.beq j a with | true => some w | false => lookN a fs) = _
  by_cases q : j = a
  · rw [if_pos q, q, Nat.beq_refl]
  · rw [if_neg q, show Nat.beq j a = false from Bool.eq_false_iff.mpr fun z => q (Nat.eq_of_beq_eq_true z)]
theorem getL_hit {nm : Str} {e : DictEntry} {es : List DictEntry} (h : e.key.isStr nm = true) : getL nm (e :: es) = some (some e.val) := by
  unfold getL; rw [List.find?_cons, h]
theorem getL_miss {nm : Str} {e : DictEntry} {es : List DictEntry} {y : Value} (h : e.key.isStr nm = false) (k : getL nm es = some (some y)) : getL nm (e :: es) = some (some y) := by
  unfold getL at k ⊢
  rw [List.find?_cons, h]
  cases q : es.find? (·.key.isStr nm) with
  | some e' => rw [q] at k; exact k
  | none =>
    rw [q] at k
    have k : (if es.any (·.refKey) then none else some none) = some (some y) := k
    split at k <;> cases k
theorem ent_find (Y : ClsFacts C K) {a : Nat} {nm : Str} {v : D} (hn : attNms[a]? = some nm) : ∀ {fs : List (Nat × D)} {es : List DictEntry}, All2 (EntN C P) fs es → lookN a fs = some v → ∃ y, getL nm es = some (some y) ∧ DIs C P v y := by
  intro fs
  induction fs with
  | nil => exact fun _ h => nomatch h
  | cons q fs ih =>
    obtain ⟨j, w⟩ := q
    refine fun h hl => h.consK fun e es h1 h2 => ?_
    rw [lookN_c] at hl
    have hk := ent_key Y h1 nm
    by_cases q : j = a
    · rw [if_pos q] at hl
      exact ⟨e.val, getL_hit (hk.trans (q ▸ an_self hn)), Option.some.inj hl ▸ h1.2.2⟩
    · rw [if_neg q] at hl
      exact (ih h2 hl).elim fun y h => ⟨y, getL_miss (hk.trans (an_ne hn q)) h.1, h.2⟩
theorem ent_some (nm : Str) {fs : List (Nat × D)} {es : List DictEntry} (h : All2 (EntN C P) fs es) : (getL nm es).isSome = true := by
  unfold getL
  split
  · rfl
  · have : es.any (·.refKey) = false := by
      rw [List.any_eq_false]
      intro e he
      obtain ⟨i, hi⟩ := List.mem_iff_getElem?.mp he
      have hl := (List.getElem?_eq_some_iff.mp hi).1
      rw [← h.1] at hl
      rw [ent_ref (h.2 i fs[i] e (List.getElem?_eq_getElem hl) hi)]; decide
    rw [this]; rfl
theorem putN_c {a j : Nat} {v w : D} {fs : List (Nat × D)} : Mine.putN a v ((j, w) :: fs) = if j = a then (j, v) :: fs else (j, w) :: Mine.putN a v fs := by
  show (match Nat.beq j a with | true => (j, v) :: fs | false => (j, w) :: Mine.putN a v fs) = _
  by_cases q : j = a
  · rw [if_pos q, q, Nat.beq_refl]
  · rw [if_neg q, show Nat.beq j a = false from Bool.eq_false_iff.mpr fun z => q (Nat.eq_of_beq_eq_true z)]
theorem ent_put (Y : ClsFacts C K) {a : Nat} {nm : Str} {v : D} {y : Value} {t : Tok} (hn : attNms[a]? = some nm) (hv : DIs C P v y) : ∀ {fs : List (Nat × D)} {es : List DictEntry}, All2 (EntN C P) fs es → All2 (EntN C P) (Mine.putN a v fs) (PySem.W.putL nm (PyData.keyHash C.w.params nm) (.str nm t) y es) := by
  intro fs
  induction fs with
  | nil =>
    have e : C.an a = nm := by rw [Y.an]; exact beq_iff_eq.mp (an_self hn)
    intro es h
    rw [h.nil_l]
    exact All2.one ⟨⟨t, by rw [e]⟩, by rw [e], hv⟩
  | cons q fs ih =>
    obtain ⟨j, w⟩ := q
    refine fun h => h.consK fun e es h1 h2 => ?_
    have hk := ent_key Y h1 nm
    rw [putN_c]
    unfold PySem.W.putL
    by_cases q : j = a
    · rw [if_pos q, if_pos (hk.trans (q ▸ an_self hn))]
      exact All2.cons ⟨h1.1, h1.2.1, hv⟩ h2
    · rw [if_neg q, if_neg fun z => Bool.false_ne_true ((hk.trans (an_ne hn q)).symm.trans z)]
      exact All2.cons h1 (ih h2)
theorem putL_len (nm : Str) (hsh : Int) (key v : Value) : ∀ es : List DictEntry, (PySem.W.putL nm hsh key v es).length ≤ es.length + 1
  | [] => by simp [PySem.W.putL]
  | e :: es => by
    unfold PySem.W.putL
    split
    · simp
    · have := putL_len nm hsh key v es
      simp only [List.length_cons]; omega
theorem handed_data {v : D} {y : Value} (h : DIs C P v y) : handedIn y = true := by cases h <;> rfl
/-- data of an own class: where it lies -/
theorem inst_data {c : Nat} {fs : List (Nat × D)} {v : Value} (r : Rel C P Z φ σ s) (h : DIs C P (.inst c fs) v) : ∃ x dx es m, v = .ref x ∧ InstAt s.heap x (instObj (C.ca c) dx) (C.ca c) (some (dictOf es m)) ∧ All2 (EntN C P) fs es := by
  cases h with
  | inst h1 h2 h3 h4 h5 =>
    refine ⟨_, _, _, _, rfl, ⟨r.keep _ _ h1, rfl, rfl, r.keep _ _ h2⟩, h3, fun i p e e1 e2 => ?_⟩
    obtain ⟨k1, k2⟩ := h4 i p e e1 e2
    exact ⟨k1, k2, h5 i p e e1 e2⟩
theorem inst_own {i c0 c : Nat} {fs : List (Nat × D)} {v : Value} (r : Rel C P Z φ σ s) (h1 : σ[i]? = some (.inst c0)) (h2 : σ[i + 1]? = some (.idict c fs)) (h : VIs C P φ (.ref i) v) :
    ∃ x nm dx nm' es m, v = .ref x ∧ φ[i]? = some (x, nm) ∧ φ[i + 1]? = some (dx, nm') ∧ InstAt s.heap x (instObj (C.ca c0) dx) (C.ca c0) (some (dictOf es m)) ∧ s.heap.get? dx = some (dictOf es m) ∧ All2 (EntN C P) fs es := by
  obtain ⟨x, nm, e1, rfl⟩ := h
  obtain ⟨_, _, o, ho, dx, nm', e2, rfl⟩ := r.own i x nm _ e1 h1
  obtain ⟨_, _, o', ho', es, m, rfl, hq⟩ := r.own (i + 1) dx nm' _ e2 h2
  exact ⟨x, nm, dx, nm', es, m, rfl, e1, e2, ⟨ho, rfl, rfl, ho'⟩, ho', hq⟩
theorem Rel.inK (Y : ClsFacts C K) (r : Rel C P Z φ σ s) : K.In s.heap := Y.inK.keeps fun b o e => r.keep b o (r.base b o e)
/-- an attribute of an own object -/
theorem attr_go (Y : ClsFacts C K) {a : Nat} {nm : Str} {c : Nat} {fs : List (Nat × D)} {xa dx : Addr} {es : List DictEntry} {m : Nat} (hn : attNms[a]? = some nm) (I : InstAt s.heap xa (instObj (C.ca c) dx) (C.ca c) (some (dictOf es m))) (hq : All2 (EntN C P) fs es) (r : Rel C P Z φ σ s) :
    Sn (gd (Nat.blt c 2) ((lookN a fs).bind fun v => ok (V.d v) σ)) fun v σ' => wpAny (model C.prog C.w) A (getAttr (.ref xa) nm true) (Post C P Z φ (RV C v) σ') NoE s := by
  refine Sn.gd fun hc => Sn.bind fun w hl => Sn.ok ?_
  obtain ⟨g1, g2, attr, g3, g4⟩ := Y.get c (Nat.le_of_ble_eq_true hc) a nm hn
  obtain ⟨u, k1, k2⟩ := ent_find Y hn hq hl
  exact get_value (r.inK Y) I (plainGet_of g1).1 (findObj_own g2 g3 g4 k1) (handed_data k2) (post_pure (r.toks _) k2)
theorem attr_wp {ov : PySem.Expr} {nm : Str} {p : Pos} {Q : Value → Shared → Prop} (hb : plainBase ov = true) (h : wpAny (model C.prog C.w) A (eval ov env) (fun y s₁ => wpAny (model C.prog C.w) A (getAttr y nm true) Q NoE s₁) NoE s) : wpAny (model C.prog C.w) A (eval (.Attribute ov nm p) env) Q NoE s := by
  rw [arm_eval_Attribute, base_is hb]
  exact wpAny_bind (wpAny_mono h (fun y s₁ h => wpAny_bind (wpAny_standAt (wpAny_bind (wpAny_holding (wpAny_mono h (fun _ _ z => wpAny_bind (wpAny_letTemporaryGo (wpAny_pure z))) fun _ _ z => z))))) fun _ _ z => z)
theorem is_attr (Y : ClsFacts C K) (H : EvS C O n) {PG : Prog} {a : Nat} {o : E} {ov : PySem.Expr} {nm : Str} {p : Pos} (hn : attNms[a]? = some nm) (hb : plainBase ov = true) (h1 : RE nt o ov) (r : Rel C P Z φ σ s) (en : EnvIs φ d nt env) (hA : ARoom A n) :
    Sn (evStep PG O (.attr a o) d σ) fun v σ' => wpAny (model C.prog C.w) A (eval (.Attribute ov nm p) env) (Post C P Z φ (RV C v) σ') NoE s :=
  Sn.imp (Sn.seq (H h1 r en hA) fun x σ₁ y s₁ P₁ φ₁ p1 f1 r1 k1 => insK k1 (fun c fs v hd => by
      obtain ⟨xa, dx, es, m, rfl, I, hq⟩ := inst_data r1 hd
      exact (attr_go Y hn I hq r1).up p1 f1) fun y k1 => Sn.skip <| refV_sn fun i e => by
      subst e
      refine Sn.bind <| So.ins fun c hi => Sn.bind <| So.idi fun c' fs hj => ?_
      obtain ⟨xa, _, dx, _, es, m, rfl, _, _, I, _, hq⟩ := inst_own r1 hi hj k1
      exact (attr_go Y hn I hq r1).up p1 f1) fun _ _ z => attr_wp hb z
theorem is_cattr {mg mb : Str → Option Value} (G : Glob C mg mb) (Y : ClsFacts C K) {c a : Nat} {m nm : Str} {np p : Pos} (rg : RG nt m) (hm : clsNms[c]? = some m) (hn : attNms[a]? = some nm) (r : Rel C P Z φ σ s) (en : EnvIs φ d nt env) :
    Sn (evStep prg O (.cattr c a) d σ) fun v σ' => wpAny (model C.prog C.w) A (eval (.Attribute (.Name m np) nm p) env) (Post C P Z φ (RV C v) σ') NoE s := by
  refine Sn.bind fun fs hfs => Sn.bind fun w hw => Sn.ok ?_
  obtain ⟨mc, x, t, rfl, k1, k2⟩ := Y.cattr c a nm fs w hfs hw hn
  exact attr_wp rfl (glob_is G r en rg (.inl (G.cls _ _ hm)) (cls_value (r.inK Y) k1 k2 rfl (post_pure (r.toks _) (DIs.str x t))))
end
end Mine
end
section
open PySem PySem.Calls PyProof.Rows PySem.W
namespace Mine
section
variable {C : Cx} {O : Ops} {n : Nat} {nt : NT} {d : Dsc} {σ σ' : List S} {env : Env} {P Z : PH} {φ : Phi} {s : Shared} {A : Around} {ob : List OB} {f : Fl} {K : Frag}
theorem Rel.two (r : Rel C P Z φ σ s) {i j : Nat} {a b : Addr} {nm nm2 : List Str} {x y : S} {vs : List (Option V)} {s' : Shared} {o' : Obj} (e1 : φ[i]? = some (a, nm)) (hx : σ[i]? = some x) (hl : x.locked = false) (e2 : φ[j]? = some (b, nm2)) (hf : σ[j]? = some (.frame vs)) (hij : i ≠ j)
    (hk : ∀ c o, c ≠ a → c ≠ b → s.heap.get? c = some o → s'.heap.get? c = some o) (ho : s'.heap.get? a = some o') (hy : SIs C P φ i nm o' y) (hb : ∃ o, s'.heap.get? b = some o ∧ SIs C P φ j nm2 o (.frame vs)) (hg : s'.gens = s.gens) (hos : s'.os = s.os) : Rel C P Z φ (σ.set i y) s' where
  base := r.base
  keep := fun c o e => hk c o (by rintro rfl; rw [(r.own i c nm x e1 hx).1] at e; cases e) (by rintro rfl; rw [(r.own j c nm2 _ e2 hf).1] at e; cases e) (r.keep c o e)
  zkeep := fun c o e => hk c o (by rintro rfl; rw [(r.own i c nm x e1 hx).2.1 hl] at e; cases e) (by rintro rfl; rw [(r.own j c nm2 _ e2 hf).2.1 rfl] at e; cases e) (r.zkeep c o e)
  disj := r.disj
  len := by rw [List.length_set]; exact r.len
  nd := r.nd
  own := fun t c nm' z h1 h2 => by
    by_cases ht : t = i
    · subst ht
      rw [e1] at h1; cases h1
      rw [List.getElem?_set_self (List.getElem?_eq_some_iff.mp hx).1] at h2; cases h2
      exact ⟨(r.own t a nm x e1 hx).1, fun _ => (r.own t a nm x e1 hx).2.1 hl, o', ho, hy⟩
    · rw [List.getElem?_set_ne (Ne.symm ht)] at h2
      obtain ⟨p, q, o, k1, k2⟩ := r.own t c nm' z h1 h2
      by_cases hj : t = j
      · subst hj
        rw [e2] at h1; cases h1
        rw [hf] at h2; cases h2
        obtain ⟨o2, g1, g2⟩ := hb
        exact ⟨p, q, o2, g1, g2⟩
      · exact ⟨p, q, o, hk c o (fun z => ht (by subst z; exact r.inj h1 e1)) (fun z => hj (by subst z; exact r.inj h1 e2)) k1, k2⟩
  gens := hg.trans r.gens
  os := hos.trans r.os
noncomputable def others (h : Heap) (a b : Addr) : List (Addr × Obj) := (List.range h.objs.size).filterMap fun c => if c = a ∨ c = b then none else (h.get? c).map fun o => (c, o)
theorem others_is {h : Heap} {a b : Addr} {p : Addr × Obj} : p ∈ others h a b ↔ (h.get? p.1 = some p.2 ∧ p.1 ≠ a ∧ p.1 ≠ b) := by
  unfold others
  rw [List.mem_filterMap]
  constructor
  · rintro ⟨c, hc, e⟩
    split at e
    · cases e
    · rename_i hn
      obtain ⟨o, ho, rfl⟩ := Option.map_eq_some_iff.mp e
      exact ⟨ho, fun q => hn (.inl q), fun q => hn (.inr q)⟩
  · rintro ⟨h1, h2, h3⟩
    refine ⟨p.1, List.mem_range.mpr (Heap.lt_size h1), ?_⟩
    rw [if_neg (by rintro (q | q); exact h2 q; exact h3 q), h1]; rfl
noncomputable def noHeap : Heap := { objs := #[] }
theorem noHeap_get (a : Addr) : noHeap.get? a = none := none_ge (Nat.zero_le _)
theorem setA_is (Y : ClsFacts C K) : SetAS C n := by
  intro σ i c0 c a fs nm v P Z φ s A vo vv d nt env hn hc hz en ⟨vf, hvf⟩ hi hj r hvo hvv hA
  obtain ⟨x, nx, dx, ndx, es, m, rfl, e1, e2, I, hdx, hq⟩ := inst_own r hi hj hvo
  obtain ⟨q1, q2, q3⟩ := Y.set c0 hc
  obtain ⟨fP, _, oL, hoL, fnd, flen, mL, hns, hvs⟩ := r.own d.fr env.locals nt.loc _ en.fr hvf
  have hne : i + 1 ≠ d.fr := fun e => by rw [← e, hj] at hvf; cases hvf
  have hdL : dx ≠ env.locals := fun e => by subst e; exact hne (r.inj e2 en.fr)
  have hK := r.inK Y
  refine set_plain hK I q1 ?_
  have hF : Fr noHeap env.locals s.heap mL := ⟨hns.ns hoL, fun b o e => (by rw [noHeap_get] at e; cases e), Nat.zero_le _⟩
  have hN : News noHeap env.locals s.heap ([] ++ (dx, dictOf es m) :: others s.heap dx env.locals) := fun p hp => by
    rcases List.mem_cons.mp hp with rfl | hp
    · exact ⟨hdx, hdL, noHeap_get _⟩
    · obtain ⟨g1, g2, g3⟩ := others_is.mp hp
      exact ⟨g1, g3, noHeap_get _⟩
  obtain ⟨g1, g2, _⟩ := Y.get c0 hc a nm hn
  refine osa_dict (s := { s with toks := s.toks + 1 }) hF hN hK I rfl q2 (q3 a nm hn) g2 (by rw [lookIn_dict]; exact ent_some nm hq) (fun p hp => (nomatch hp)) (fun p hp => (others_is.mp hp).2.1) (putName_dict nm _ _ _ es m) rfl ?_ fun h' hF' hN' => ?_
  · refine Nat.le_trans (putL_len _ _ _ _ es) ?_
    have := hq.1
    omega
  · have hnew := (hN' (dx, _) (List.mem_cons_self ..)).1
    obtain ⟨oL', hoL', hns'⟩ := NsO.of hF'.ns
    refine ⟨P, φ, PLe.refl _, List.prefix_refl _, ?_, trivial⟩
    refine r.two (s' := { s with heap := h', toks := _ }) e2 hj rfl en.fr hvf hne (fun b o hb1 hb2 e => ?_) hnew ⟨_, _, rfl, ent_put Y hn hvv hq⟩ ⟨oL', hoL', fnd, flen, mL, hns', hvs⟩ rfl rfl
    exact (hN' (b, o) (List.mem_cons_of_mem _ (others_is.mpr ⟨e, hb1, hb2⟩))).1
end
end Mine
end
section
open PySem PySem.Calls PyProof.Rows PySem.W
namespace Mine
section
variable {C : Cx} {O : Ops} {n : Nat} {nt : NT} {d : Dsc} {σ σ' : List S} {env : Env} {P Z : PH} {φ : Phi} {s : Shared} {A : Around} {K : Frag}
theorem met_ne {m : Nat} {nm : Str} (h : metNms[m]? = some nm) (j : Nat) : (attNms.getD j "" == nm) = false := by
  have k := nm_lt h
  have key : ∀ a : Fin 5, ∀ j : Fin 9, (attNms.getD j.val "" == metNms.getD a.val "") = false := by decide +kernel
  rw [← k.2]
  by_cases h8 : j < 9
  · exact key ⟨m, k.1⟩ ⟨j, h8⟩
  · rw [List.getD_eq_getElem?_getD, List.getElem?_eq_none (Nat.le_of_lt (Nat.lt_of_not_le fun q => h8 (Nat.lt_succ_of_le q)))]
    exact key ⟨m, k.1⟩ ⟨8, by decide⟩
theorem met_none (Y : ClsFacts C K) {m : Nat} {nm : Str} (hn : metNms[m]? = some nm) {fs : List (Nat × D)} {es : List DictEntry} (h : All2 (EntN C P) fs es) : getL nm es = some none := by
  have hk : ∀ e ∈ es, e.key.isStr nm = false ∧ e.refKey = false := fun e he => by
    obtain ⟨i, hi⟩ := List.mem_iff_getElem?.mp he
    have hl := (List.getElem?_eq_some_iff.mp hi).1
    rw [← h.1] at hl
    have hq := h.2 i fs[i] e (List.getElem?_eq_getElem hl) hi
    exact ⟨by rw [ent_key Y hq]; exact met_ne hn _, ent_ref hq⟩
  unfold getL
  have h1 : es.find? (·.key.isStr nm) = none := List.find?_eq_none.mpr fun e he => by rw [(hk e he).1]; decide
  have h2 : es.any (·.refKey) = false := by rw [List.any_eq_false]; intro e he; rw [(hk e he).2]; decide
  rw [h1, h2]; rfl
theorem insV_is {x : V} {q : Nat × List (Nat × D)} (h : insV x = some q) : x = .d (.inst q.1 q.2) := by
  cases x with
  | ref _ => exact nsome h
  | d y =>
    cases y with
    | inst c fs => rw [← Option.some.inj h]
    | _ => exact nsome h
theorem meth_wp (Y : ClsFacts C K) {c : Nat} {as : List E} {fi : Nat} {ov : PySem.Expr} {nm : Str} {ap p : Pos} {ls : List PySem.Expr} {og : Obj} {fd : FuncData} {Q : Value → Shared → Prop} (g2 : og.data = .func fd) (hn : metNms.any (· == nm) = true) (hl : (ap.endLine == p.line) = true) (hlen : ls.length < 28) (hb : plainBase ov = true) (hr : REs nt as ls)
    (q2 : plainGet K (C.ca c) nm = true) (q3 : findIn K (.ref (C.ca c)) nm = some (some (.ref (C.fa fi)))) (q4 : isFn K (.ref (C.fa fi)) = true)
    (h : wpAny (model C.prog C.w) A (eval ov env) (fun y s₁ => K.In s₁.heap ∧ (∃ xa dx es k, y = .ref xa ∧ InstAt s₁.heap xa (instObj (C.ca c) dx) (C.ca c) (some (dictOf es k)) ∧ getL nm es = some none) ∧
      wpAny (model C.prog C.w) A (spliced (backTo p (starEach ls env))) (fun as s₂ => s₂.heap.get? (C.fa fi) = some og ∧ wpAny (model C.prog C.w) A (call (.ref (C.fa fi)) (y :: as)) Q NoE s₂) NoE s₁) NoE s) :
    wpAny (model C.prog C.w) A (eval (.Call (.Attribute ov nm ap) ls [] p) env) Q NoE s := by
  have hst : ∀ {es : List E} {ls : List PySem.Expr}, REs nt es ls → (backTo p (starEach ls env)).all (fun x => !x.1) = true := by
    intro es
    induction es with
    | nil => intro ls h; cases h; rfl
    | cons e es ih => intro ls h; cases h with | cons h1 h2 => rw [h1.star]; exact ih h2
  have hform : methodCallForm (ls.length + ([] : List Keyword).length) (backTo p (starEach ls env)) (backToKw p (keywordEach [] env)) = true := by
    unfold methodCallForm
    rw [hst hr]
    simp only [Bool.true_and, Bool.and_eq_true, decide_eq_true_eq]
    exact ⟨rfl, by simp [backToKw, keywordEach]; omega⟩
  have hpos : methodCallPos true ov env ap p = pure p := by unfold methodCallPos; simp [hl]
  rw [arm_eval_Call, base_is hb]
  refine wpAny_bind (wpAny_mono h (fun y s₁ h => wpAny_bind (wpAny_standAt ?_)) fun _ _ z => z)
  obtain ⟨hK, ⟨xa, dx, es, k, rfl, I, hg⟩, h⟩ := h
  unfold methodCall
  rw [hform]
  refine wpAny_bind (wpAny_holding (method_fn hK I (plainGet_of q2).1 (plainGet_of q2).2 q3 (beq_iff_eq.mp q4) (by show (lookIn nm (dictOf es k)).map _ = _; rw [lookIn_dict, hg]; rfl) ?_))
  exact wpAny_bind (wpAny_of_eq hpos (callWith_function (o := og) (fd := fd) (args_is hr (wpAny_mono h (fun as s₂ z => ⟨⟨z.1, g2⟩, z.2⟩) fun _ _ z => z))))
theorem is_meth (Y : ClsFacts C K) (hfd : ∀ fi, fi < 19 → ∃ o fd, C.h₀.get? (C.fa fi) = some o ∧ o.data = .func fd) (H : EvS C O n) (HC : CallS C O.call n) {m : Nat} {o : E} {as : List E} {ov : PySem.Expr} {nm : Str} {ap p : Pos} {ls : List PySem.Expr} (hn : metNms[m]? = some nm) (hl : (ap.endLine == p.line) = true) (hlen : ls.length < 28) (hb : plainBase ov = true)
    (h1 : RE nt o ov) (hr : REs nt as ls) (r : Rel C P Z φ σ s) (en : EnvIs φ d nt env) (hA : ARoom A n) :
    Sn (evStep prg O (.meth m o as) d σ) fun v σ' => wpAny (model C.prog C.w) A (eval (.Call (.Attribute ov nm ap) ls [] p) env) (Post C P Z φ (RV C v) σ') NoE s := by
  refine Sn.bnd fun x σ₁ o₁ e1 ho1 => Sn.bnd fun vs σ₂ o₂ e2 ho2 => Sn.bind fun q hx => Sn.bind fun ms hms => Sn.bind fun fi hfi v σ' ob e4 ho4 => ?_
  obtain ⟨q1, q2, q3, q4⟩ := Y.meth q.1 m fi nm ms hms hfi hn
  obtain ⟨og, fd, g1, g2⟩ := hfd fi q1
  refine meth_wp Y (c := q.1) g2 (List.any_eq_true.mpr ⟨nm, List.mem_of_getElem? hn, beq_self_eq_true nm⟩) hl hlen hb hr q2 q3 q4 (wp_seq (H h1 r en hA x σ₁ o₁ e1 ho1) fun y s₁ P₁ φ₁ p1 f1 r1 k1 => ?_)
  have hx := insV_is hx
  subst hx
  obtain ⟨xa, dx, es, k, rfl, I, hq⟩ := inst_data r1 k1
  exact ⟨r1.inK Y, ⟨xa, dx, es, k, rfl, I, met_none Y hn hq⟩, wp_seq (evs_sn H hA hr r1 (en.up f1) vs σ₂ o₂ e2 ho2) fun as s₂ P₂ φ₂ p2 f2 r2 k2 => ⟨r2.keep _ _ (r2.base _ _ g1), wp_up (callAt_sn HC r2 (All2.cons (k1.mono p2 f2) k2) hA v σ' ob e4 ho4) (p1.trans p2) (f1.trans f2)⟩⟩
theorem ARoom.tc {m : Nat} (h : ARoom A (m + 1)) (a : Addr) (rest : List Value) : ARoom (A.under (.builtin "type.__call__" ⟨.ref a :: rest, []⟩)) m := by
  have e1 : (A.under (.builtin "type.__call__" ⟨.ref a :: rest, []⟩)).depth = A.depth + 1 := rfl
  have e2 : (A.under (.builtin "type.__call__" ⟨.ref a :: rest, []⟩)).units = A.units + 1 := rfl
  exact ⟨by rw [e1]; have := h.depth; omega, by rw [e2]; have := h.units; omega, h.handled⟩
/-- a new object and its dict -/
theorem Rel.pair (r : Rel C P Z [] [] s) {x dx : Addr} {c : Nat} (hx : s.heap.get? x = some (instObj (C.ca c) dx)) (hd : s.heap.get? dx = some (dictOf [] 0)) (hne : x ≠ dx) (px : P x = none) (zx : Z x = none) (pd : P dx = none) (zd : Z dx = none) :
    Rel C P Z [(x, []), (dx, [])] [.inst c, .idict c []] s where
  base := r.base
  keep := r.keep
  zkeep := r.zkeep
  disj := r.disj
  len := rfl
  nd := by simp [hne]
  own := fun i a nm y e1 e2 => by
    match i, e1, e2 with
    | 0, e1, e2 => cases e1; cases e2; exact ⟨px, fun _ => zx, _, hx, dx, [], rfl, rfl⟩
    | 1, e1, e2 => cases e1; cases e2; exact ⟨pd, fun _ => zd, _, hd, [], 0, rfl, All2.nil⟩
    | _ + 2, e1, _ => cases e1
  gens := r.gens
  os := r.os
end
end Mine
end
section
open PySem PySem.Calls PyProof.Rows PySem.W
namespace Mine
section
variable {C : Cx} {O : Ops} {n : Nat} {nt : NT} {d : Dsc} {σ σ' : List S} {env : Env} {P Z : PH} {φ : Phi} {s : Shared} {A : Around} {K : Frag}
theorem dats_vis {φ' : Phi} : ∀ {vs : List V} {as : List Value}, (dats vs).isSome = true → All2 (VIs C P φ) vs as → All2 (VIs C P φ') vs as := by
  intro vs
  induction vs with
  | nil => exact fun _ k => k.nil_l ▸ All2.nil
  | cons v vs ih =>
    intro as h k
    refine k.consK fun a as h1 h2 => ?_
    cases v with
    | ref _ => exact ff _ h
    | d x =>
      have h : ((dats vs).map (x :: ·)).isSome = true := h
      rw [Option.isSome_map] at h
      exact All2.cons h1 (ih h h2)
theorem nonV_is {w : V} {u : Value} (hw : noV w = true) (h : VIs C P φ w u) : u = .none := by
  revert hw
  exact nonK h (fun _ => rfl) fun _ _ h => ff _ h
theorem newS_so {σ : List S} : So (newS σ) fun p => ∃ c2, σ = [.inst p.1, .idict c2 p.2] := by
  unfold newS
  split
  · rename_i c r
    cases r with
    | nil => exact So.nil
    | cons x r =>
      cases x with
      | idict c2 fs => exact So.gd fun h => So.just ⟨c2, by rw [List.isEmpty_iff.mp h]⟩
      | _ => exact So.nil
  · exact So.nil
/-- the new object becomes data -/
theorem new_data {c c2 : Nat} {fs : List (Nat × D)} {hh : Heap} {g d tk os} {P' : PH} {φ' : Phi} {s' : Shared} (r1 : Rel C P Z φ σ ⟨hh, g, d, tk, os⟩) (rp : Rel C P Z φ σ { heap := (hh.push emptyDict).push (instObj (C.ca c) hh.objs.size), gens := g, drawn := d, toks := tk, os := os }) (p2 : PLe P P') (f2 : [(hh.objs.size + 1, ([] : List Str)), (hh.objs.size, [])] <+: φ')
    (r3 : Rel C P' (Zpart φ [] Z ((hh.push emptyDict).push (instObj (C.ca c) hh.objs.size))) φ' [.inst c, .idict c2 fs] s') : Post C P Z φ (RV C (.d (.inst c fs))) σ (.ref (hh.objs.size + 1)) s' := by
  have z := r1.none_at (a := hh.objs.size) (none_ge (Nat.le_refl _))
  have y := r1.none_at (a := hh.objs.size + 1) (none_ge (Nat.le_succ _))
  have hl : φ' = [(hh.objs.size + 1, ([] : List Str)), (hh.objs.size, [])] := (List.IsPrefix.eq_of_length f2 r3.len.symm).symm
  subst hl
  obtain ⟨g1, _, o, ho1, dx', nm', g2, rfl⟩ := r3.own 0 (hh.objs.size + 1) [] _ rfl rfl
  have g2' : hh.objs.size = dx' := congrArg Prod.fst (Option.some.inj g2)
  subst g2'
  obtain ⟨g3, _, o', ho2, es, m, rfl, hq2⟩ := r3.own 1 hh.objs.size [] _ rfl rfl
  have rb := rp.back (js := []) (σs := []) (φs := []) (σ' := σ) (rest := [.inst c, .idict c2 fs]) rfl ⟨rfl, fun t j p e => nomatch e⟩ p2 (List.nil_prefix ..) r3 rfl
  have g4 : (P'.put hh.objs.size (dictOf es m)) (hh.objs.size + 1) = none := by rw [PH.put_ne (Nat.succ_ne_self _)]; exact g1
  have rf2 := (rb.freeze ho2 g3 z.2.1 z.2.2).freeze ho1 g4 y.2.1 y.2.2
  have le1 := PH.put_le (o := dictOf es m) g3
  have le2 : PLe (P'.put hh.objs.size (dictOf es m)) _ := PH.put_le (a := hh.objs.size + 1) (o := instObj (C.ca c) hh.objs.size) g4
  exact ⟨_, φ, p2.trans (le1.trans le2), List.prefix_refl _, rf2, DIs.inst (dx := hh.objs.size) (es := es) (n := m) PH.put_self (le2 _ _ PH.put_self) hq2.1 (fun i p e a1 a2 => ⟨(hq2.2 i p e a1 a2).1, (hq2.2 i p e a1 a2).2.1⟩) fun i p e a1 a2 => ((hq2.2 i p e a1 a2).2.2.mono le1).mono le2⟩
theorem is_new {mg mb : Str → Option Value} (G : Glob C mg mb) (Y : ClsFacts C K) (H : EvS C O (n + 1)) (HC : CallS C O.call n) {c : Nat} {as : List E} {nm : Str} {np p : Pos} {ls : List PySem.Expr} (rg : RG nt nm) (hn : clsNms[c]? = some nm) (hr : REs nt as ls)
    (r : Rel C P Z φ σ s) (en : EnvIs φ d nt env) (hA : ARoom A (n + 1)) :
    Sn (evStep prg O (.new c as) d σ) fun v σ' => wpAny (model C.prog C.w) A (eval (.Call (.Name nm np) ls [] p) env) (Post C P Z φ (RV C v) σ') NoE s := by
  refine Sn.bnd fun vs σ₁ o₁ e1 ho1 => Sn.bind fun fi hfi => Sn.bind fun ds hds v σ' ob e ho => ?_
  obtain ⟨_, q1, q2, q3, q4⟩ := Y.new c fi hfi
  refine wpAny_Call_NameR (glob_is G r en rg (.inl (G.cls _ _ hn)) ?_)
  refine callWith_of (P := fun h => K.In h) (by rw [noStar hr]; rfl) (keeps_K q4) (args_is hr (wp_seq (evs_sn H hA hr r en vs σ₁ o₁ e1 ho1) fun args s₁ P₁ φ₁ p1 f1 r1 k1 => ⟨r1.inK Y, wp_up ?_ p1 f1⟩))
  show wpAny _ _ (call (.ref (C.ca c)) args) _ _ _
  have hX := r1.inK Y
  obtain ⟨hh, g, dr, tk, os⟩ := s₁
  refine wpAny_call (make_core (makes_of hX q1) (looks_findIn hX q2) (fun self => bind_fn hX self q3) (.inl rfl) ?_)
  have rp : Rel C P₁ Z φ₁ σ₁ { heap := (hh.push emptyDict).push (instObj (C.ca c) hh.objs.size), gens := g, drawn := dr, toks := tk, os := os } := ((r1.push emptyDict).push (instObj (C.ca c) hh.objs.size))
  have z := r1.none_at (a := hh.objs.size) (none_ge (Nat.le_refl _))
  have y := r1.none_at (a := hh.objs.size + 1) (none_ge (Nat.le_succ _))
  have rs := rp.subR (js := []) (σs := []) (φs := []) rfl ⟨rfl, fun t j p e => nomatch e⟩
  have hdx : ((hh.push emptyDict).push (instObj (C.ca c) hh.objs.size)).get? hh.objs.size = some (dictOf [] 0) := Heap.get?_push_of_some _ (Heap.get?_push_size _ rfl)
  have hxx : ((hh.push emptyDict).push (instObj (C.ca c) hh.objs.size)).get? (hh.objs.size + 1) = some (instObj (C.ca c) hh.objs.size) := by
    rw [show hh.objs.size + 1 = (hh.push emptyDict).objs.size from (Heap.size_push ..).symm]
    exact Heap.get?_push_size _ rfl
  have r2 := rs.pair (c := c) hxx hdx (Nat.succ_ne_self _) y.1 (Zpart.fresh y.2.1 y.2.2) z.1 (Zpart.fresh z.2.1 z.2.2)
  have ha : All2 (VIs C P₁ [(hh.objs.size + 1, ([] : List Str)), (hh.objs.size, [])]) (.ref 0 :: vs) (.ref (hh.objs.size + 1) :: args) := All2.cons ⟨_, [], rfl, rfl⟩ (dats_vis (by rw [hds]; rfl) k1)
  revert v σ' ob
  refine Sn.bnd (T := fun v σ' => codeAny _ _ _ _ _) <| (HC r2 ha (hA.tc (C.ca c) args)).imp fun w σn hc => Sn.gd fun hw => Sn.bind <| newS_so.imp fun q hq => Sn.gd fun hqc => Sn.ok ?_
  obtain ⟨c2, hq⟩ := hq
  rw [Nat.eq_of_beq_eq_true hqc] at hq
  subst hq
  refine codeAny_mono hc fun res s' hq => ?_
  cases res with
  | error e => exact hq.elim
  | ok fl =>
    cases fl with
    | ret u =>
      obtain ⟨P', φ', p2, f2, r3, k3⟩ := hq
      exact ⟨nonV_is hw k3, new_data r1 rp p2 f2 r3⟩
    | _ => exact hq.elim
end
end Mine
end
section
open PySem PySem.Calls PyProof.Rows PySem.W
namespace Mine
/-- the builtins that are walked apart -/
structure Leaves (C : Cx) : Prop where
  has : ∀ {σ : List S} {P Z : PH} {φ : Phi} {s : Shared} {A : Around} {n : Nat} {x : D} {v : Value} {t : Tok}, (∃ y, x = .str y ∨ ∃ ys, x = .tup ys) → Rel C P Z φ σ s → DIs C P x v → ARoom A n →
    wpAny (model C.prog C.w) A (call (.builtin "hasattr") [v, .str "__getitem__" t]) (Post C P Z φ (RV C (.d (.bool true))) σ) NoE s
  sortset : ∀ {σ : List S} {P Z : PH} {φ : Phi} {s : Shared} {A : Around} {n : Nat} {is : List Int} {v : Value}, is.length ≤ 60 → Rel C P Z φ σ s → DIs C P (.list (is.map .int)) v → ARoom A n →
    wpAny (model C.prog C.w) A (call (.type "set") [v]) (fun sv s₁ => wpAny (model C.prog C.w) A (call (.builtin "sorted") [sv]) (Post C P Z φ (RV C (.d (.list ((usort is).map .int)))) σ) NoE s₁) NoE s
  sortd : ∀ {σ : List S} {P Z : PH} {φ : Phi} {s : Shared} {A : Around} {n i : Nat} {lk : Bool} {es : List (List Nat × D)} {v : Value}, σ[i]? = some (.mdict lk es) → es.length ≤ 60 → (∀ p ∈ es, ∀ c ∈ p.1, c < 128) → Rel C P Z φ σ s → VIs C P φ (.ref i) v → ARoom A n →
    wpAny (model C.prog C.w) A (call (.builtin "sorted") [v]) (Post C P Z φ (RV C (.d (.list ((ssort (es.map (·.1))).map .str)))) σ) NoE s
section
variable {C : Cx} {O : Ops} {n : Nat} {K : Frag} {nt : NT} {d : Dsc} {σ σ' : List S} {env : Env} {P Z : PH} {φ : Phi} {s : Shared} {A : Around}
theorem EvS.mono {m : Nat} (h : EvS C O n) (k : n ≤ m) : EvS C O m := fun a b c hA => h a b c (hA.le k)
section
variable {mg mb : Str → Option Value} {nm : Str} {np p : Pos} {a : E} {l : PySem.Expr}
theorem strV_is {x : V} {q : List Nat} (h : strV x = some q) : x = .d (.str q) := by
  cases x with
  | ref _ => exact nsome h
  | d y =>
    cases y with
    | str c => rw [← Option.some.inj h]
    | _ => exact nsome h
theorem one_is {α : Type} {l : List α} {c : α} (h : one1 l = some c) : l = [c] := match l, h with
  | [], h => nsome h
  | [x], h => by rw [← Option.some.inj h]
  | _ :: _ :: _, h => nsome h
theorem set_len {xs : List D} {is : List Int} (hi : intsOf xs = some is) (hz : Nat.ble xs.length 60 = true) : is.length ≤ 60 := by
  have h := Nat.le_of_ble_eq_true hz
  rwa [intsOf_is hi, List.length_map] at h
theorem ite_wp {te x y : PySem.Expr} {Q : Value → Shared → Prop} (h : wpAny (model C.prog C.w) A (PySem.isTrue te env (eval te env)) (fun c s₁ => wpAny (model C.prog C.w) A (eval (if c = true then x else y) env) Q NoE s₁) NoE s) : wpAny (model C.prog C.w) A (eval (.IfExp te x y p) env) Q NoE s :=
  PySem.wpAny_IfExp (wpAny_mono h (fun c s₁ z => by cases c <;> exact z) fun _ _ z => z)
theorem is_len (G : Glob C mg mb) (H : EvS C O n) (h1 : RG nt nm) (h2 : nm = "len") (h3 : RE nt a l) (r : Rel C P Z φ σ s) (en : EnvIs φ d nt env) (hA : ARoom A n) :
    Sn (bnd (O.ev a d σ) fun x σ => (lenV σ x).bind fun n => gd (room n) (ok (V.d (.int n)) σ)) fun v σ' => wpAny (model C.prog C.w) A (eval (.Call (.Name nm np) [l] [] p) env) (Post C P Z φ (RV C v) σ') NoE s :=
  Sn.imp (one_sn (R := RV C) (k := fun y => call (.builtin "len") [y]) H h3 r en hA fun x σ₂ y P φ s r k => Sn.bind fun m hl => Sn.gd fun hz => Sn.ok (lenV_is r k hl hz)) fun _ _ z => call1_wp (i := 0) G (h2 ▸ rfl) (.inl ⟨_, rfl⟩) h1 h3.ok r en z
theorem is_max1 (G : Glob C mg mb) (H : EvS C O n) {PG : Prog} (h1 : RG nt nm) (h2 : nm = "max") (h3 : RE nt a l) (r : Rel C P Z φ σ s) (en : EnvIs φ d nt env) (hA : ARoom A n) :
    Sn (evStep PG O (.max1 a) d σ) fun v σ' => wpAny (model C.prog C.w) A (eval (.Call (.Name nm np) [l] [] p) env) (Post C P Z φ (RV C v) σ') NoE s :=
  Sn.imp (one_sn (R := RV C) (k := fun y => call (.builtin "max") [y]) H h3 r en hA fun x σ₂ y P φ s r k => litK k (fun b vs m xs pa qa => Sn.step <| Sn.bind fun is hi => by
    cases is with
    | nil => exact Sn.nil
    | cons i rr => exact Sn.ok (max1_is hA r (DIs.of_list pa (intsOf_is hi ▸ qa)))) fun _ _ => Sn.nil) fun _ _ z => call1_wp (i := 1) G (h2 ▸ rfl) (.inl ⟨_, rfl⟩) h1 h3.ok r en z
theorem is_max2 (G : Glob C mg mb) (H : EvS C O n) {PG : Prog} {b : E} {k : PySem.Expr} (h1 : RG nt nm) (h2 : nm = "max") (h3 : RE nt a l) (h4 : RE nt b k) (r : Rel C P Z φ σ s) (en : EnvIs φ d nt env) (hA : ARoom A n) :
    Sn (evStep PG O (.max2 a b) d σ) fun v σ' => wpAny (model C.prog C.w) A (eval (.Call (.Name nm np) [l, k] [] p) env) (Post C P Z φ (RV C v) σ') NoE s :=
  Sn.imp (two_sn (R := RV C) (k := fun y z => call (.builtin "max") [y, z]) H h3 h4 r en hA fun x y σ₂ va vb P φ s r ha hb => int2K ha hb (fun i j t u => Sn.ok (max2_is hA r (DIs.int i t) (DIs.int j u))) fun _ _ => Sn.nil) fun _ _ z => call2_wp (i := 1) G (h2 ▸ rfl) (.inl ⟨_, rfl⟩) h1 h3.ok (al h4.ok) r en z
theorem is_sortd (G : Glob C mg mb) (L : Leaves C) (H : EvS C O n) {PG : Prog} (h1 : RG nt nm) (h2 : nm = "sorted") (h3 : RE nt a l) (r : Rel C P Z φ σ s) (en : EnvIs φ d nt env) (hA : ARoom A n) :
    Sn (evStep PG O (.sortd a) d σ) fun v σ' => wpAny (model C.prog C.w) A (eval (.Call (.Name nm np) [l] [] p) env) (Post C P Z φ (RV C v) σ') NoE s :=
  Sn.imp (one_sn (R := RV C) (k := fun y => call (.builtin "sorted") [y]) H h3 r en hA fun x σ₂ y P φ s r k => refV_sn fun i e => by
    subst e
    exact Sn.bind <| So.dic fun lk es hσ => Sn.gd fun hb => Sn.ok (L.sortd hσ (Nat.le_of_ble_eq_true (al hb)) (fun p hp c hc => Nat.le_of_ble_eq_true (List.all_eq_true.mp (List.all_eq_true.mp (ar hb) p hp) c hc)) r k hA)) fun _ _ z => call1_wp (i := 2) G (h2 ▸ rfl) (.inl ⟨_, rfl⟩) h1 h3.ok r en z
theorem is_tuple (G : Glob C mg mb) (H : EvS C O n) {PG : Prog} (h1 : RG nt nm) (h2 : nm = "tuple") (h3 : RE nt a l) (r : Rel C P Z φ σ s) (en : EnvIs φ d nt env) (hA : ARoom A n) :
    Sn (evStep PG O (.tuple a) d σ) fun v σ' => wpAny (model C.prog C.w) A (eval (.Call (.Name nm np) [l] [] p) env) (Post C P Z φ (RV C v) σ') NoE s :=
  Sn.imp (one_sn (R := RV C) (k := fun y => call (.type "tuple") [y]) H h3 r en hA fun x σ₂ y P φ s r k => Sn.bind fun xs hx => Sn.gd fun hz => Sn.ok (tupleOf_is r k hx hz)) fun _ _ z => call1_wp (i := 6) G (h2 ▸ rfl) (.inr ⟨_, rfl⟩) h1 h3.ok r en z
theorem ty_at {ty : Nat} {m : Str} (h : (tyName ty).map Str.ofString = some m) : ∃ T, tyName ty = some T ∧ (m, Value.type T) ∈ bltNms := by
  match ty, h with
  | 0, h => exact ⟨_, rfl, blt_mem (i := 8) (Option.some.inj h ▸ rfl)⟩
  | 1, h => exact ⟨_, rfl, blt_mem (i := 9) (Option.some.inj h ▸ rfl)⟩
  | 2, h => exact ⟨_, rfl, blt_mem (i := 6) (Option.some.inj h ▸ rfl)⟩
  | _ + 3, h => exact nsome h
theorem is_isi (G : Glob C mg mb) (H : EvS C O n) {PG : Prog} {ty : Nat} {m : Str} {mp : Pos} (h1 : RG nt nm) (h2 : nm = "isinstance") (h3 : RG nt m) (h4 : (tyName ty).map Str.ofString = some m) (h6 : RE nt a l) (r : Rel C P Z φ σ s) (en : EnvIs φ d nt env) (hA : ARoom A n) :
    Sn (evStep PG O (.isi a ty) d σ) fun v σ' => wpAny (model C.prog C.w) A (eval (.Call (.Name nm np) [l, .Name m mp] [] p) env) (Post C P Z φ (RV C v) σ') NoE s := by
  obtain ⟨T, hT, hm⟩ := ty_at h4
  exact Sn.imp (Sn.seq (H h6 r en hA) fun x σ₁ y s₁ P₁ φ₁ p1 f1 r1 k1 => intK k1 (fun i t => Sn.step <| Sn.ok (glob_is G r1 (en.up f1) h3 (.inr (G.blt _ _ hm)) (wp_up (isi_is hT r1 (DIs.int i t)) p1 f1))) fun _ _ => Sn.nil) fun _ _ z => call2_wp (i := 3) G (h2 ▸ rfl) (.inl ⟨_, rfl⟩) h1 h6.ok rfl r en z
theorem is_hasget (G : Glob C mg mb) (L : Leaves C) (H : EvS C O n) {PG : Prog} {k : Nat} {q : Pos} (h1 : RG nt nm) (h2 : nm = "hasattr") (h4 : RE nt a l) (r : Rel C P Z φ σ s) (en : EnvIs φ d nt env) (hA : ARoom A n) :
    Sn (evStep PG O (.hasget a) d σ) fun v σ' => wpAny (model C.prog C.w) A (eval (.Call (.Name nm np) [l, .Constant (.str "__getitem__") k q] [] p) env) (Post C P Z φ (RV C v) σ') NoE s :=
  Sn.imp (Sn.seq (H h4 r en hA) fun x σ₁ y s₁ P₁ φ₁ p1 f1 r1 k1 => strK k1 (fun x t => Sn.ok (wpAny_Constant_str (wp_up (L.has (x := .str x) ⟨_, .inl rfl⟩ (r1.toks _) (DIs.str x t) hA) p1 f1))) fun y k1 => Sn.skip <|
    tupK k1 (fun b vs m xs pa qa => Sn.step <| Sn.ok (wpAny_Constant_str (wp_up (L.has (x := .tup xs) ⟨[], .inr ⟨_, rfl⟩⟩ (r1.toks _) (DIs.of_tup pa qa) hA) p1 f1))) fun _ _ => Sn.nil) fun _ _ z => call2_wp (i := 4) G (h2 ▸ rfl) (.inl ⟨_, rfl⟩) h1 h4.ok rfl r en z
theorem is_sortset (G : Glob C mg mb) (L : Leaves C) (H : EvS C O n) {PG : Prog} {m : Str} {mp q : Pos} (h1 : RG nt nm) (h2 : nm = "sorted") (h3 : RG nt m) (h4 : m = "set") (h5 : RE nt a l) (r : Rel C P Z φ σ s) (en : EnvIs φ d nt env) (hA : ARoom A n) :
    Sn (evStep PG O (.sortset a) d σ) fun v σ' => wpAny (model C.prog C.w) A (eval (.Call (.Name nm np) [.Call (.Name m mp) [l] [] q] [] p) env) (Post C P Z φ (RV C v) σ') NoE s :=
  Sn.imp (Sn.seq (H h5 r en hA) fun x σ₁ y s₁ P₁ φ₁ p1 f1 r1 k1 => litK k1 (fun b vs m xs pa qa => Sn.step <| Sn.bind fun is hi => Sn.gd fun hz => Sn.ok (wpAny_mono (L.sortset (set_len hi hz) r1 (DIs.of_list pa (intsOf_is hi ▸ qa)) hA) (fun sv s₂ z => wp_up z p1 f1) fun _ _ z => z)) fun _ _ => Sn.nil)
    fun _ _ z => call1_wp (i := 2) G (h2 ▸ rfl) (.inl ⟨_, rfl⟩) h1 rfl r en (call1_wp (i := 5) G (h4 ▸ rfl) (.inr ⟨_, rfl⟩) h3 h5.ok r en z)
theorem is_append (H : EvS C O n) {PG : Prog} {o v : E} {ov : PySem.Expr} {ap : Pos} (h1 : nm = "append") (h2 : (ap.endLine == p.line) = true) (h3 : plainBase ov = true) (h4 : RE nt o ov) (h5 : RE nt v l) (r : Rel C P Z φ σ s) (en : EnvIs φ d nt env) (hA : ARoom A n) :
    Sn (evStep PG O (.append o v) d σ) fun v σ' => wpAny (model C.prog C.w) A (eval (.Call (.Attribute ov nm ap) [l] [] p) env) (Post C P Z φ (RV C v) σ') NoE s :=
  Sn.imp (Sn.seq (H h4 r en hA) fun x σ₁ y s₁ P₁ φ₁ p1 f1 r1 k1 => refK k1 (fun k b nm' g1 => Sn.step <| Sn.bind <| So.lis fun ys hk => by
      obtain ⟨_, _, oo, ho', vs, m, rfl, _⟩ := r1.own k b nm' _ g1 hk
      exact (Sn.seq (evD_sn H h5 r1 (en.up f1) hA) fun w σ₂ vb s₂ P₂ φ₂ p2 f2 r2 k2 => Sn.bnd <| (push_sn r2 ⟨b, nm', getElem?_of_prefix f2 g1, rfl⟩ k2).imp fun _ σ' z => Sn.ok (wp_up z.1 (p1.trans p2) (f1.trans f2))).imp fun _ _ z => ⟨⟨_, ho', rfl⟩, fun c e => ⟨_, Value.ref.inj e ▸ ho', rfl⟩, z⟩) fun _ _ => Sn.nil)
    fun _ _ z => meth1_wp (T := "list") (id := "list.append") h3 h2 F.plainAttrs_list (h1 ▸ F.slot_list_append) F.type_list_append h5.ok z
theorem two_str (H : EvS C O n) {PG : Prog} {o v : E} {ov : PySem.Expr} (h4 : RE nt o ov) (h5 : RE nt v l) (r : Rel C P Z φ σ s) (en : EnvIs φ d nt env) (hA : ARoom A n) :
    Sn (evStep PG O (.split o v) d σ) fun v σ' => wpAny (model C.prog C.w) A (eval ov env) (fun y s₁ => s₁.TypeIs y "str" ∧ (∀ a, y = .ref a → ∃ ob, s₁.heap.get? a = some ob ∧ ob.dict = none) ∧ wpAny (model C.prog C.w) A (eval l env) (fun z s₂ => wpAny (model C.prog C.w) A (call (.builtin "str.split") [y, z]) (Post C P Z φ (RV C v) σ') NoE s₂) NoE s₁) NoE s :=
  Sn.bnd fun x σ₁ o1 e1 ho1 => Sn.bnd fun y σ₂ o2 e2 ho2 => Sn.bind fun sx hx => Sn.bind fun sy hy => Sn.bind fun c hc => Sn.gd fun hz => Sn.ok <| wp_seq (H h4 r en hA x σ₁ o1 e1 ho1) fun va s₁ P₁ φ₁ p1 f1 r1 k1 => by
    have hx := strV_is hx
    have hy := strV_is hy
    subst hx hy
    obtain ⟨t, rfl⟩ := k1.str_inv
    have hs := one_is hc
    subst hs
    exact ⟨typeIs_str _ _ _, (fun b e => nomatch e), wp_seq (H h5 r1 (en.up f1) hA _ σ₂ o2 e2 ho2) fun z s₂ P₂ φ₂ p2 f2 r2 k2 => wp_up (split_is hz r2 (DIs.str sx t) k2) (p1.trans p2) (f1.trans f2)⟩
theorem is_split (H : EvS C O n) {PG : Prog} {o v : E} {ov : PySem.Expr} {ap : Pos} (h1 : nm = "split") (h2 : (ap.endLine == p.line) = true) (h3 : plainBase ov = true) (h4 : RE nt o ov) (h5 : RE nt v l) (r : Rel C P Z φ σ s) (en : EnvIs φ d nt env) (hA : ARoom A n) :
    Sn (evStep PG O (.split o v) d σ) fun v σ' => wpAny (model C.prog C.w) A (eval (.Call (.Attribute ov nm ap) [l] [] p) env) (Post C P Z φ (RV C v) σ') NoE s :=
  Sn.imp (two_str H h4 h5 r en hA) fun _ _ z => meth1_wp (T := "str") (id := "str.split") h3 h2 F.plainAttrs_str (h1 ▸ F.slot_str_split) F.type_str_split h5.ok z
end
theorem ev_sn {mg mb : Str → Option Value} (G : Glob C mg mb) (hm : ∃ o, C.h₀.get? sysModules = some o) (Y : ClsFacts C K) (hfd : ∀ fi, fi < 19 → ∃ o fd, C.h₀.get? (C.fa fi) = some o ∧ o.data = .func fd) (L : Leaves C) (H : EvS C O n) (HC : CallS C O.call n) {e : E} {x : PySem.Expr}
    (hr : RE nt e x) (r : Rel C P Z φ σ s) (en : EnvIs φ d nt env) (hA1 : ARoom A (n + 1)) : Sn (evStep prg O e d σ) fun v σ' => wpAny (model C.prog C.w) A (eval x env) (Post C P Z φ (RV C v) σ') NoE s := by
  have hA : ARoom A n := hA1.le (Nat.le_succ _)
  cases hr.view with
  | loc h1 => exact Sn.opt fun v e1 => name_is r en h1 e1
  | cel h1 => exact Sn.opt fun v e1 => name_is r en h1 e1
  | none => exact Sn.ok (wpAny_Constant_none (post_pure r DIs.none))
  | bool => exact Sn.ok (wpAny_Constant_bool (post_pure r (DIs.bool _)))
  | int => exact Sn.ok (wpAny_Constant_int (post_int r))
  | str => exact Sn.ok (wpAny_Constant_str (post_pure (r.toks _) (DIs.str _ _)))
  | bin h2 h3 => exact Sn.imp (two_sn (R := RV C) (k := fun a b => binaryOp _ a b) H h2 h3 r en hA fun x y σ₂ va vb P φ s r ha hb => bin_sn r ha hb) fun _ _ z => wpAny_BinOp z
  | neg h1 => exact Sn.imp (one_sn (R := RV C) (k := fun a => unaryOp .USub a) H h1 r en hA fun x σ₂ va P φ s r k => intK k (fun i t => Sn.step <| Sn.ok (neg_is r (DIs.int i t))) fun _ _ => Sn.nil) fun _ _ z => PySem.wpAny_UnaryOp z
  | cmp h2 h3 => exact boolV_sn ((cmpR_sn H h2 h3 r en hA).imp fun _ _ z => wpAny_Compare1 z behind_cmp)
  | is h2 h3 => exact boolV_sn ((isR_sn H h2 h3 r en hA).imp fun _ _ z => wpAny_Compare1 z behind_is)
  | inn h1 h2 h3 => exact boolV_sn ((innR_sn hm H h2 h3 r en hA).imp fun _ _ z => wpAny_Compare1 z h1)
  | ite h1 h2 h3 =>
    exact Sn.imp (Sn.seq (tst_sn hm H hA h1 r en) fun c σ₁ c' s₁ P₁ φ₁ p1 f1 r1 k1 => by
      cases k1
      cases c with
      | true => exact (H h2 r1 (en.up f1) hA).up p1 f1
      | false => exact (H h3 r1 (en.up f1) hA).up p1 f1) fun _ _ z => ite_wp z
  | call h1 h2 h3 h4 => exact is_call G hfd H HC h1 h2 h3 h4 r en hA
  | new h1 h2 h3 => exact is_new G Y (H.mono (Nat.le_succ _)) HC h1 h2 h3 r en hA1
  | meth h1 h2 h3 h4 h5 h6 => exact is_meth Y hfd H HC h1 h2 h3 h4 h5 h6 r en hA
  | attr h1 h2 h3 => exact is_attr Y H h1 h2 h3 r en hA
  | cattr h1 h2 h3 => exact is_cattr G Y h1 h2 h3 r en
  | len h1 h2 h3 => exact is_len G H h1 h2 h3 r en hA
  | list h1 => exact is_list H h1 r en hA
  | tup h1 => exact is_tup H h1 r en hA
  | sub h1 h2 h3 => exact is_sub H h1 h2 h3 r en hA
  | slc h1 h2 h3 => exact is_slc H h1 h2 h3 r en hA
  | dict0 => exact Sn.ok (is_dict0 r)
  | dict1 => exact Sn.ok (is_dict1 r)
  | comp h => exact is_comp G hm H hA h r en
  | max1 h1 h2 h3 => exact is_max1 G H h1 h2 h3 r en hA
  | max2 h1 h2 h3 h4 => exact is_max2 G H h1 h2 h3 h4 r en hA
  | isi h1 h2 h3 h4 h6 => exact is_isi G H h1 h2 h3 h4 h6 r en hA
  | hasget h1 h2 h4 => exact is_hasget G L H h1 h2 h4 r en hA
  | sortd h1 h2 h3 => exact is_sortd G L H h1 h2 h3 r en hA
  | tuple h1 h2 h3 => exact is_tuple G H h1 h2 h3 r en hA
  | append h1 h2 h3 h4 h5 => exact is_append H h1 h2 h3 h4 h5 r en hA
  | split h1 h2 h3 h4 h5 => exact is_split H h1 h2 h3 h4 h5 r en hA
  | sortset h1 h2 h3 h4 h5 => exact is_sortset G L H h1 h2 h3 h4 h5 r en hA
end
end Mine
end
section
open PySem PySem.Calls PyProof.Rows PySem.W
namespace Mine
section
variable {C : Cx} {n : Nat} {K : Frag}
theorem comp_async {nt : NT} {e : E} {el : PySem.Expr} {gens : List Comprehension} {sc : Scope} (h : CompV nt e el gens sc) : firstAsync gens = false := by
  cases h <;> rfl
/-- what an oracle must keep -/
noncomputable def OrcS (C : Cx) (R : Orc) (K0 : Nat) : Prop := ∀ f g, R f = some g → CallS C (fun f' vs σ => if f' = f then g vs σ else none) K0
theorem run_is {mg mb : Str → Option Value} (G : Glob C mg mb) (hm : ∃ o, C.h₀.get? sysModules = some o) (hnl : C.h₀.NoLimit) (Y : ClsFacts C K) (hfn : ∀ (fi : Nat) (F : FnD), prg.fns[fi]? = some F → FnOk C fi F) (L : Leaves C) {R : Orc} {K0 : Nat} (hR : OrcS C R K0) (k : Nat) :
    EvS C (run prg R k) (k + K0) ∧ ExS C (run prg R k) (k + K0) ∧ CallS C (run prg R k).call (k + K0) ∧ CompS C (run prg R k) (k + K0) := by
  induction k with
  | zero => exact ⟨fun _ _ _ _ => Sn.nil, fun _ _ _ _ => Sn.nil, fun _ _ _ => Sn.nil, fun _ h _ _ _ => ⟨comp_async h, Sn.nil⟩⟩
  | succ k ih =>
    obtain ⟨H, HX, HC, HCo⟩ := ih
    have hfd : ∀ fi, fi < 19 → ∃ o fd, C.h₀.get? (C.fa fi) = some o ∧ o.data = .func fd := fun fi h =>
      (hfn fi _ (List.getElem?_eq_getElem (show fi < prg.fns.length from h))).elim fun o h => h.elim fun fd h => h.elim fun body hF => ⟨o, fd, hF.obj, hF.data⟩
    rw [Nat.add_right_comm k 1 K0]
    refine ⟨fun hr r en hA => ev_sn G hm Y hfd L H HC hr r en hA, fun hr r en hA => execs_sn G hm (setA_is Y) H HCo HX (hA.le (Nat.le_succ _)) hr r en, ?_, fun hA hr r en hfin => comp_any G hm H (hA.le (Nat.le_succ _)) hr r en hfin⟩
    intro f vs σ P Z φ s A args r ha hA
    show Sn (callStep prg R (run prg R k) f vs σ) _
    delta callStep
    cases hg : R f with
    | some g =>
      have hc0 : CallS C (fun f' vs σ => if f' = f then g vs σ else none) K0 := @hR f g hg
      have hc := @hc0 f vs σ P Z φ s A args r ha (hA.le (Nat.le_succ_of_le (Nat.le_add_left _ _)))
      have e : (if f = f then g vs σ else none) = g vs σ := if_pos rfl
      exact fun v σ' ob he => hc v σ' ob (e.trans he)
    | none => exact Sn.bind fun F hF => Sn.gd fun hl => fn_sn hnl (hfn f F hF) HX (ha.1 ▸ Nat.eq_of_beq_eq_true hl) r ha hA
end
end Mine
end
section
open PySem
namespace Mine
/-- a part of a run gives this, and what it asks is so -/
noncomputable def Gives {α : Type} (r : Res α) (a : α) (σ : List S) : Prop := ∃ ob, r = some (a, σ, ob) ∧ AllOk ob
theorem AllOk.nil : AllOk [] := fun _ h => nomatch h
theorem AllOk.app {a b : List OB} (h : AllOk a) (k : AllOk b) : AllOk (a ++ b) := fun x hx => (List.mem_append.mp hx).elim (h x) (k x)
theorem AllOk.cons {b : OB} {o : List OB} (h : b.ok) (k : AllOk o) : AllOk (b :: o) := fun x hx => by
  rcases List.mem_cons.mp hx with rfl | hx
  · exact h
  · exact k x hx
section
variable {α β : Type} {G : Prog} {R : Orc} {O : Ops} {d : Dsc} {σ σ₁ σ₂ σ₃ σ₄ σ₅ : List S}
theorem gives {r : Res α} {a : α} {σ : List S} (h : r = some (a, σ, [])) : Gives r a σ := ⟨[], h, .nil⟩
theorem gives_ob {r : Res α} {a : α} {σ : List S} {ob : List OB} (h : r = some (a, σ, ob)) (ho : AllOk ob) : Gives r a σ := ⟨ob, h, ho⟩
theorem Gives.bnd {r : Res α} {f : α → List S → Res β} {a : α} {b : β} (h : Gives r a σ₁) (k : Gives (f a σ₁) b σ₂) : Gives (Mine.bnd r f) b σ₂ := by
  obtain ⟨o1, rfl, h1⟩ := h
  obtain ⟨o2, k2, h2⟩ := k
  refine ⟨o1 ++ o2, ?_, h1.app h2⟩
  show (match f a σ₁ with | none => none | some (b, σ', o') => some (b, σ', o1 ++ o')) = _
  rw [k2]
theorem Gives.ok (a : α) : Gives (Mine.ok a σ) a σ := gives rfl
theorem Gives.opt {a : α} {x : Option α} (h : x = some a) : Gives (Mine.opt x σ) a σ := by subst h; exact gives rfl
theorem Gives.next {o : Option (List S)} (h : o = some σ) : Gives (nextS o) .next σ := by subst h; exact gives rfl
theorem g_call {n f : Nat} {F : FnD} {vs : List V} {v : V} {fl : Fl} (hR : R f = none) (hF : G.fns[f]? = some F) (hn : Nat.beq vs.length F.np = true)
    (h : Gives ((run G R n).ex F.body (callDsc F σ.length) (callSt F vs σ)) fl σ₁) (k : Gives (callEnd σ.length fl σ₁) v σ₂) : Gives ((run G R (n + 1)).call f vs σ) v σ₂ := by
  show Gives (callStep G R (run G R n) f vs σ) v σ₂
  unfold callStep
  rw [hR, hF]
  show Gives (gd (Nat.beq vs.length F.np) _) v σ₂
  rw [hn]
  exact h.bnd k
theorem u {n : Nat} {e : E} {v : V} (h : Gives (evStep G (run G R n) e d σ) v σ₁) : Gives ((run G R (n + 1)).ev e d σ) v σ₁ := h
theorem ux {n : Nat} {ts : List T} {f : Fl} (h : Gives (exStep (run G R n) ts d σ) f σ₁) : Gives ((run G R (n + 1)).ex ts d σ) f σ₁ := h
theorem x_nil : Gives (exStep O [] d σ) .next σ := gives rfl
theorem x_cons {t : T} {ts : List T} {f : Fl} (h : Gives (exT O t d σ) .next σ₁) (k : Gives (exStep O ts d σ₁) f σ₂) : Gives (exStep O (t :: ts) d σ) f σ₂ := h.bnd k
theorem x_ret' {t : T} {ts : List T} {v : V} (h : Gives (exT O t d σ) (.ret v) σ₁) : Gives (exStep O (t :: ts) d σ) (.ret v) σ₁ := h.bnd (Gives.ok _)
theorem x_ret {e : E} {v : V} (h : Gives (O.ev e d σ) v σ₁) : Gives (exT O (.ret e) d σ) (.ret v) σ₁ := h.bnd (f := fun v σ => Mine.ok (Fl.ret v) σ) (Gives.ok _)
theorem x_asg {x : X} {e : E} {v : V} (h : Gives (O.ev e d σ) v σ₁) (k : putX x d v σ₁ = some σ₂) : Gives (exT O (.asg x e) d σ) .next σ₂ := h.bnd (Gives.next k)
theorem x_exp {e : E} (h : Gives (O.ev e d σ) (.d .none) σ₁) : Gives (exT O (.exp e) d σ) .next σ₁ := h.bnd (Gives.ok _)
theorem x_ite {t : E} {b o : List T} {c : Bool} {f : Fl} (h : Gives (tst O t d σ) c σ₁) (k : Gives (O.ex (if c then b else o) d σ₁) f σ₂) : Gives (exT O (.ite t b o) d σ) f σ₂ := by
  refine h.bnd ?_
  cases c <;> exact k
theorem x_aug {x : X} {o : BO} {e : E} {i j r : Int} (h1 : getX x d σ = some (.d (.int i))) (h2 : Gives (O.ev e d σ) (.d (.int j)) σ₁) (h3 : Gives (opI o i j σ₁) r σ₂) (h4 : putX x d (.d (.int r)) σ₂ = some σ₃) : Gives (exT O (.aug x o e) d σ) .next σ₃ :=
  (Gives.opt h1).bnd (h2.bnd (h3.bnd (Gives.next h4)))
theorem x_augs {o i e : E} {op : BO} {ov iv : V} {x y r : Int} (h1 : Gives (O.ev o d σ) ov σ₁) (h2 : Gives (O.ev i d σ₁) iv σ₂) (h3 : evSub ov iv σ₂ = some (.int x)) (h4 : Gives (O.ev e d σ₂) (.d (.int y)) σ₃) (h5 : Gives (opI op x y σ₃) r σ₄)
    (h6 : setAtV ov iv (.int r) σ₄ = some σ₅) : Gives (exT O (.augs o i op e) d σ) .next σ₅ :=
  h1.bnd (h2.bnd ((Gives.opt h3).bnd (h4.bnd (h5.bnd (Gives.next h6)))))
theorem x_sets {o i e : E} {ov iv : V} {v : D} (h1 : Gives (evD O e d σ) v σ₁) (h2 : Gives (O.ev o d σ₁) ov σ₂) (h3 : Gives (O.ev i d σ₂) iv σ₃) (h4 : setAtV ov iv v σ₃ = some σ₄) : Gives (exT O (.sets o i e) d σ) .next σ₄ :=
  h1.bnd (h2.bnd (h3.bnd (Gives.next h4)))
theorem x_for {xs : List X} {tupl : Bool} {k : IK} {ia : List E} {b : List T} {vs : List V} {items : List D} {lk : Option Nat} {f : Fl} (h1 : Gives (evs O d ia σ) vs σ₁) (h2 : iterOf k vs σ₁ = some (items, lk)) (h3 : Gives (forL O xs tupl b d items (lockAs true lk σ₁)) f σ₂) :
    Gives (exT O (.for1 xs tupl k ia b) d σ) f (unlock lk σ₁ σ₂) := by
  refine h1.bnd ?_
  show Gives ((iterOf k vs σ₁).bind fun p => Mine.bnd (forL O xs tupl b d p.1 (lockAs true p.2 σ₁)) fun f σ' => Mine.ok f (unlock p.2 σ₁ σ')) _ _
  rw [h2]
  exact h3.bnd (f := fun f σ' => Mine.ok f (unlock lk σ₁ σ')) (Gives.ok _)
theorem l_nil {xs : List X} {tupl : Bool} {b : List T} : Gives (forL O xs tupl b d [] σ) .next σ := gives rfl
theorem l_cons {xs : List X} {tupl : Bool} {b : List T} {it : D} {r : List D} {f : Fl} (h1 : putTarget xs tupl d it σ = some σ₁) (h2 : Gives (O.ex b d σ₁) .next σ₂) (h3 : Gives (forL O xs tupl b d r σ₂) f σ₃) : Gives (forL O xs tupl b d (it :: r) σ) f σ₃ := by
  unfold forL
  rw [h1]
  exact h2.bnd h3
theorem l_ret {xs : List X} {tupl : Bool} {b : List T} {it : D} {r : List D} {v : V} (h1 : putTarget xs tupl d it σ = some σ₁) (h2 : Gives (O.ex b d σ₁) (.ret v) σ₂) : Gives (forL O xs tupl b d (it :: r) σ) (.ret v) σ₂ := by
  unfold forL
  rw [h1]
  exact h2.bnd (Gives.ok _)
theorem v_nil : Gives (evs O d [] σ) [] σ := gives rfl
theorem v_cons {e : E} {es : List E} {v : V} {vs : List V} (h : Gives (O.ev e d σ) v σ₁) (k : Gives (evs O d es σ₁) vs σ₂) : Gives (evs O d (e :: es) σ) (v :: vs) σ₂ := h.bnd (k.bnd (Gives.ok _))
theorem e_dat {e : E} {x : D} (h : Gives (O.ev e d σ) (.d x) σ₁) : Gives (evD O e d σ) x σ₁ := h.bnd (Gives.ok _)
theorem e_bin {o : BO} {fz : Bool} {a b : E} {x y v : V} (h1 : Gives (O.ev a d σ) x σ₁) (h2 : Gives (O.ev b d σ₁) y σ₂) (h3 : Gives (evBin o fz x y σ₂) v σ₃) : Gives (evStep G O (.bin o fz a b) d σ) v σ₃ := h1.bnd (h2.bnd h3)
theorem e_neg {a : E} {i : Int} (h1 : Gives (O.ev a d σ) (.d (.int i)) σ₁) : Gives (evStep G O (.neg a) d σ) (.d (.int (-i))) σ₁ := h1.bnd (Gives.ok _)
theorem e_sub {o i : E} {x y : V} {v : D} (h1 : Gives (O.ev o d σ) x σ₁) (h2 : Gives (O.ev i d σ₁) y σ₂) (h3 : evSub x y σ₂ = some v) : Gives (evStep G O (.sub o i) d σ) (.d v) σ₂ := by
  refine h1.bnd (h2.bnd ?_)
  show Gives ((evSub x y σ₂).bind fun v => Mine.ok (V.d v) σ₂) _ _
  rw [h3]
  exact Gives.ok _
theorem e_len {a : E} {x : V} {n : Nat} (h1 : Gives (O.ev a d σ) x σ₁) (h2 : lenV σ₁ x = some n) (h3 : room n = true) : Gives (evStep G O (.len a) d σ) (.d (.int n)) σ₁ := by
  refine Gives.bnd (f := fun x σ => (lenV σ x).bind fun n => gd (room n) (Mine.ok (V.d (.int n)) σ)) h1 ?_
  rw [h2]
  show Gives (gd (room n) _) _ _
  rw [h3]
  exact Gives.ok _
theorem e_call {f : Nat} {as : List E} {vs : List V} {v : V} (h1 : Gives (evs O d as σ) vs σ₁) (h2 : Gives (callAt O f vs σ₁) v σ₂) : Gives (evStep G O (.call f as) d σ) v σ₂ := h1.bnd h2
theorem e_cmp {o : CO} {a b : E} {c : Bool} (h : Gives (cmpR O o a b d σ) c σ₁) : Gives (evStep G O (.cmp o a b) d σ) (.d (.bool c)) σ₁ := h.bnd (f := fun b σ => Mine.ok (V.d (.bool b)) σ) (Gives.ok _)
theorem c_cmp {o : CO} {a b : E} {x y : V} {c : Bool} (h1 : Gives (O.ev a d σ) x σ₁) (h2 : Gives (O.ev b d σ₁) y σ₂) (h3 : evCmp o x y σ₂ = some c) : Gives (cmpR O o a b d σ) c σ₂ := h1.bnd (h2.bnd (Gives.opt h3))
theorem c_is {ng : Bool} {a b : E} {x y : V} {c : Bool} (h1 : Gives (O.ev a d σ) x σ₁) (h2 : Gives (O.ev b d σ₁) y σ₂) (h3 : evIs σ₂ x y = some c) : Gives (isR O ng a b d σ) (match ng with | true => !c | false => c) σ₂ := by
  refine h1.bnd (h2.bnd ?_)
  show Gives ((evIs σ₂ x y).bind fun t => Mine.ok (match ng with | true => !t | false => t) σ₂) _ _
  rw [h3]
  exact Gives.ok _
theorem t_or0 {a b : E} {c : Bool} (h : Gives (tst O a d σ) false σ₁) (k : Gives (tst O b d σ₁) c σ₂) : Gives (tst O (.or a b) d σ) c σ₂ := h.bnd k
theorem t_cmp {o : CO} {a b : E} {c : Bool} (h : Gives (cmpR O o a b d σ) c σ₁) : Gives (tst O (.cmp o a b) d σ) c σ₁ := h
theorem t_is {ng : Bool} {a b : E} {c : Bool} (h : Gives (isR O ng a b d σ) c σ₁) : Gives (tst O (.is ng a b) d σ) c σ₁ := h
theorem p_nil {n : Nat} {x : X} {t : Option E} {elt : E} : Gives (compL O n x t elt d [] σ) () σ := gives rfl
theorem p_skip {n : Nat} {x : X} {t elt : E} {it : D} {r : List D} (h1 : putX x d (.d it) σ = some σ₁) (h2 : Gives (tst O t d σ₁) false σ₂) (h3 : Gives (compL O n x (some t) elt d r σ₂) () σ₃) : Gives (compL O n x (some t) elt d (it :: r) σ) () σ₃ := by
  unfold compL
  rw [h1]
  exact h2.bnd ((Gives.ok ()).bnd h3)
theorem p_take {n : Nat} {x : X} {t elt : E} {it y : D} {r : List D} (h1 : putX x d (.d it) σ = some σ₁) (h2 : Gives (tst O t d σ₁) true σ₂) (h3 : Gives (evD O elt d σ₂) y σ₃) (h4 : Gives (pushAt n y σ₃) () σ₄) (h5 : Gives (compL O n x (some t) elt d r σ₄) () σ₅) :
    Gives (compL O n x (some t) elt d (it :: r) σ) () σ₅ := by
  unfold compL
  rw [h1]
  exact h2.bnd ((h3.bnd h4).bnd h5)
theorem p_all {n : Nat} {x : X} {elt : E} {it y : D} {r : List D} (h1 : putX x d (.d it) σ = some σ₁) (h3 : Gives (evD O elt d σ₁) y σ₃) (h4 : Gives (pushAt n y σ₃) () σ₄) (h5 : Gives (compL O n x none elt d r σ₄) () σ₅) :
    Gives (compL O n x none elt d (it :: r) σ) () σ₅ := by
  unfold compL
  rw [h1]
  exact Gives.bnd (f := fun b σ => Mine.bnd (emitL O n elt d b σ) fun _ σ => compL O n x none elt d r σ) (Gives.ok true) (Gives.bnd (f := fun _ σ => compL O n x none elt d r σ) (h3.bnd h4) h5)
theorem lis_at {n : Nat} {xs : List D} (h : σ[n]? = some (.mlist xs)) : lisA σ n = some xs := by unfold lisA; rw [h]
theorem p_push {n : Nat} {y : D} {xs : List D} (h : σ[n]? = some (.mlist xs)) (hr : room xs.length = true) : Gives (pushAt n y σ) () (σ.set n (.mlist (xs ++ [y]))) := by
  show Gives ((lisA σ n).bind fun xs => gd (room xs.length) (Mine.ok () (σ.set n (.mlist (xs ++ [y]))))) _ _
  rw [lis_at h]
  show Gives (gd (room xs.length) _) _ _
  rw [hr]
  exact Gives.ok _
theorem iterU_of {k : IK} {vs : List V} {items : List D} (h : iterOf k vs σ = some (items, none)) : iterU k vs σ = some items := by
  unfold iterU; rw [h]; rfl
theorem run_comp {nt : CNT} {js : List Nat} {fs σc σ' r : List S} {xs : List D} {fr : List (Option V)} {f : Nat → Dsc → List S → Res Unit} (h3 : cellsAt d nt.free = some js) (h4 : subS js σ = some fs) (h5 : Gives (f js.length (compDsc nt js.length) (compSt nt fs)) () σc) (h6 : backS js σc σ = some (σ', .mlist xs :: .frame fr :: r)) :
    Gives (compRun nt d σ f) (.d (.list xs)) σ' := by
  unfold compRun
  rw [h3]
  show Gives ((subS js σ).bind _) _ _
  rw [h4]
  refine h5.bnd ?_
  show Gives ((backS js σc σ).bind _) _ _
  rw [h6]
  exact Gives.ok _
/-- one comprehension -/
theorem e_comp1 {nt : CNT} {x : X} {k : IK} {ia : List E} {t : Option E} {elt : E} {vs : List V} {items : List D} {js : List Nat} {fs σc σ' r : List S} {xs : List D} {fr : List (Option V)} (h1 : Gives (evs O d ia σ) vs σ₁) (h2 : iterOf k vs σ₁ = some (items, none)) (h3 : cellsAt d nt.free = some js) (h4 : subS js σ₁ = some fs)
    (h5 : Gives (compL O js.length x t elt (compDsc nt js.length) items (compSt nt fs)) () σc) (h6 : backS js σc σ₁ = some (σ', .mlist xs :: .frame fr :: r)) : Gives (evStep G O (.comp1 nt x k ia t elt) d σ) (.d (.list xs)) σ' := by
  refine h1.bnd ?_
  show Gives ((iterU k vs σ₁).bind fun items => compRun nt d σ₁ fun m d' σc => compL O m x t elt d' items σc) _ _
  rw [iterU_of h2]
  exact run_comp (f := fun m d' σc => compL O m x t elt d' items σc) h3 h4 h5 h6
theorem e_ite {t a b : E} {c : Bool} {v : V} (h : Gives (tst O t d σ) c σ₁) (k : Gives (O.ev (if c then a else b) d σ₁) v σ₂) : Gives (evStep G O (.ite t a b) d σ) v σ₂ := by
  refine h.bnd ?_
  cases c <;> exact k
end
end Mine
end
section
open PySem
namespace Mine
noncomputable def leadT : List (List Nat) := [[32, 32, 9], [32, 32, 9, 32], [32, 32, 9, 32, 32], [32, 32, 9, 32, 32, 32], [9, 32, 9], [9, 32, 9, 32], [9, 32, 9, 32, 32], [9, 32, 9, 32, 32, 32], [32, 9, 9], [32, 9, 9, 32], [32, 9, 9, 32, 32], [32, 9, 9, 32, 32, 32], [32, 32, 32, 9], [32, 32, 32, 9, 32], [32, 32, 32, 9, 32, 32], [32, 32, 32, 9, 32, 32, 32], [32, 9, 32, 9], [32, 9, 32, 9, 32], [32, 9, 32, 9, 32, 32], [32, 9, 32, 9, 32, 32, 32], [9, 32, 32, 9], [9, 32, 32, 9, 32], [9, 32, 32, 9, 32, 32], [9, 32, 32, 9, 32, 32, 32], [9, 9, 9], [9, 9, 9, 32], [9, 9, 9, 32, 32], [9, 9, 9, 32, 32, 32], [32, 32, 9, 32, 32, 9, 9], [32, 32, 9, 32, 32, 9, 9, 32], [32, 32, 9, 32, 32, 9, 9, 32, 32], [32, 32, 9, 32, 32, 9, 9, 32, 32, 32], [32, 32, 9, 32, 9, 32, 9], [32, 32, 9, 32, 9, 32, 9, 32], [32, 32, 9, 32, 9, 32, 9, 32, 32], [32, 32, 9, 32, 9, 32, 9, 32, 32, 32], [], [32], [32, 32], [32, 32, 32]]
noncomputable def colT : List (List Int) := [[3, 4, 3, 4], [4, 5, 4, 5], [5, 6, 5, 6], [6, 7, 6, 7], [3, 4, 6, 8], [4, 5, 7, 9], [5, 6, 8, 10], [6, 7, 9, 11], [3, 4, 6, 8], [4, 5, 7, 9], [5, 6, 8, 10], [6, 7, 9, 11], [4, 4, 6, 4], [5, 5, 7, 5], [6, 6, 8, 6], [7, 7, 9, 7], [4, 4, 6, 8], [5, 5, 7, 9], [6, 6, 8, 10], [7, 7, 9, 11], [4, 6, 6, 8], [5, 7, 7, 9], [6, 8, 8, 10], [7, 9, 9, 11], [3, 6, 9, 12], [4, 7, 10, 13], [5, 8, 11, 14], [6, 9, 12, 15], [7, 10, 9, 12], [8, 11, 10, 13], [9, 12, 11, 14], [10, 13, 12, 15], [7, 8, 9, 12], [8, 9, 10, 13], [9, 10, 11, 14], [10, 11, 12, 15], [0, 0, 0, 0], [1, 1, 1, 1], [2, 2, 2, 2], [3, 3, 3, 3]]
noncomputable def nT : List Int := [3, 4, 5, 6, 3, 4, 5, 6, 3, 4, 5, 6, 4, 5, 6, 7, 4, 5, 6, 7, 4, 5, 6, 7, 3, 4, 5, 6, 7, 8, 9, 10, 7, 8, 9, 10, 0, 1, 2, 3]
noncomputable def ntT : List Int := [1, 1, 1, 1, 2, 2, 2, 2, 2, 2, 2, 2, 1, 1, 1, 1, 2, 2, 2, 2, 2, 2, 2, 2, 3, 3, 3, 3, 3, 3, 3, 3, 3, 3, 3, 3, 0, 0, 0, 0]
noncomputable def cntT : List (List Int) := [[0, 0, 1], [0, 0, 1], [0, 0, 1], [0, 0, 1], [1, 1], [1, 1], [1, 1], [1, 1], [1, 1], [1, 1], [1, 1], [1, 1], [0, 0, 0, 1], [0, 0, 0, 1], [0, 0, 0, 1], [0, 0, 0, 1], [0, 2], [0, 2], [0, 2], [0, 2], [1, 0, 1], [1, 0, 1], [1, 0, 1], [1, 0, 1], [3], [3], [3], [3], [1, 0, 2], [1, 0, 2], [1, 0, 2], [1, 0, 2], [0, 2, 1], [0, 2, 1], [0, 2, 1], [0, 2, 1], [], [], [], []]
noncomputable def trT : List Int := [0, 1, 2, 3, 0, 1, 2, 3, 0, 1, 2, 3, 0, 1, 2, 3, 0, 1, 2, 3, 0, 1, 2, 3, 0, 1, 2, 3, 0, 1, 2, 3, 0, 1, 2, 3, 0, 1, 2, 3]
noncomputable def simT : List Bool := [false, false, false, false, false, false, false, false, false, false, false, false, false, false, false, false, false, false, false, false, false, false, false, false, true, true, true, true, false, false, false, false, false, false, false, false, true, true, true, true]
noncomputable def lngT : List Int := [2, 2, 2, 3, 1, 1, 2, 3, 1, 1, 2, 3, 3, 3, 3, 3, 1, 1, 2, 3, 2, 2, 2, 3, 0, 1, 2, 3, 2, 2, 2, 3, 2, 2, 2, 3, 0, 1, 2, 3]
noncomputable def LS (l : Nat) : List Nat := leadT.getD l []
noncomputable def COL (l s : Nat) : Int := (colT.getD l []).getD s 0
noncomputable def COLS (l : Nat) : List D := [.int (COL l 0), .int (COL l 1), .int (COL l 2), .int (COL l 3)]
noncomputable def LNG (l : Nat) : Int := lngT.getD l 0
noncomputable def NORM (l : Nat) : D := .tup [.tup ((cntT.getD l []).map .int), .int (trT.getD l 0)]
noncomputable def WF (l : Nat) (raw : List Nat) : List (Nat × D) := [(1, .str raw), (2, .int (nT.getD l 0)), (3, .int (ntT.getD l 0)), (4, NORM l), (5, .bool (simT.getD l false))]
noncomputable def smallI : Int → Bool
  | .ofNat n => Nat.ble n 1000
  | .negSucc n => Nat.ble n 999
noncomputable def obB : OB → Bool
  | .mul a b => smallI a && smallI b
  | .len n => Nat.ble n 1000
  | .pow _ _ => false
  | .prop _ => false
noncomputable def obsB (ob : List OB) : Bool := ob.all obB
noncomputable def fsEq : List (Nat × D) → List (Nat × D) → Bool
  | [], ys => match ys with
    | [] => true
    | _ => false
  | x :: xs, ys => match ys with
    | [] => false
    | y :: ys => Nat.beq x.1 y.1 && (D.eqv x.2 y.2 && fsEq xs ys)
noncomputable def stEq : List S → List S → Bool
  | [], ys => match ys with
    | [] => true
    | _ => false
  | x :: xs, ys => match ys with
    | [] => false
    | y :: ys => (match x with
      | .inst a => (match y with
        | .inst b => Nat.beq a b
        | _ => false)
      | .idict a fs => (match y with
        | .idict b gs => Nat.beq a b && fsEq fs gs
        | _ => false)
      | _ => false) && stEq xs ys
noncomputable def vEq (v w : V) : Bool := match v with
  | .d x => (match w with
    | .d y => D.eqv x y
    | _ => false)
  | _ => false
/-- a run gives this -/
noncomputable def resB (r : Res V) (v : V) (σ : List S) : Bool := match r with
  | some p => vEq p.1 v && (stEq p.2.1 σ && obsB p.2.2)
  | none => false
noncomputable def chk15 (n l : Nat) : Bool := resB ((run prg noOrc (n + 14)).call 15 [.d (.str (LS l))] []) (.d (.list (COLS l))) []
noncomputable def chk10 (n : Nat) (raw : List Nat) (l s : Nat) : Bool := resB ((run prg noOrc (n + 14)).call 10 [.d (.inst 1 (WF l raw)), .d (.int (s + 1 : Nat))] []) (.d (.int (COL l s))) []
noncomputable def chk9 (n : Nat) (raw : List Nat) (l : Nat) : Bool := resB ((run prg noOrc (n + 14)).call 9 [.d (.inst 1 (WF l raw))] []) (.d (.int (LNG l))) []
noncomputable def chk8 (n : Nat) (suf : List Nat) (l : Nat) : Bool := resB ((run prg noOrc (n + 20)).call 8 [.ref 0, .d (.str (LS l ++ suf))] [.inst 1, .idict 1 []]) (.d .none) [.inst 1, .idict 1 (WF l (LS l ++ suf))]
noncomputable def all40 (f : Nat → Bool) : Bool := (List.range 40).all f
theorem all40_at {f : Nat → Bool} (h : all40 f = true) {l : Nat} (hl : l < 40) : f l = true := List.all_eq_true.mp h l (List.mem_range.mpr hl)
/-- five leads at a time -/
noncomputable def ck (f : Nat → Bool) (a : Nat) : Bool := f a && f (a + 1) && f (a + 2) && f (a + 3) && f (a + 4)
theorem all40_of {f : Nat → Bool} (h : ∀ k, k < 8 → ck f (5 * k) = true) : all40 f = true := by
  refine List.all_eq_true.mpr fun l hl => ?_
  have hl := List.mem_range.mp hl
  have h5 := h (l / 5) (by omega)
  unfold ck at h5
  simp only [Bool.and_eq_true] at h5
  obtain ⟨⟨⟨⟨a0, a1⟩, a2⟩, a3⟩, a4⟩ := h5
  have e : l = 5 * (l / 5) + l % 5 := by omega
  have hm : l % 5 < 5 := Nat.mod_lt _ (by decide)
  generalize l % 5 = m at e hm
  match m, hm with
  | 0, _ => rw [e]; exact a0
  | 1, _ => rw [e]; exact a1
  | 2, _ => rw [e]; exact a2
  | 3, _ => rw [e]; exact a3
  | 4, _ => rw [e]; exact a4
theorem c15_0 (n : Nat) : ck (chk15 n) 0 = true := by kernel_rfl!
theorem c15_1 (n : Nat) : ck (chk15 n) 5 = true := by kernel_rfl!
theorem c15_2 (n : Nat) : ck (chk15 n) 10 = true := by kernel_rfl!
theorem c15_3 (n : Nat) : ck (chk15 n) 15 = true := by kernel_rfl!
theorem c15_4 (n : Nat) : ck (chk15 n) 20 = true := by kernel_rfl!
theorem c15_5 (n : Nat) : ck (chk15 n) 25 = true := by kernel_rfl!
theorem c15_6 (n : Nat) : ck (chk15 n) 30 = true := by kernel_rfl!
theorem c15_7 (n : Nat) : ck (chk15 n) 35 = true := by kernel_rfl!
theorem c15 (n : Nat) : all40 (chk15 n) = true := all40_of fun k hk => by
  match k, hk with
  | 0, _ => exact c15_0 n
  | 1, _ => exact c15_1 n
  | 2, _ => exact c15_2 n
  | 3, _ => exact c15_3 n
  | 4, _ => exact c15_4 n
  | 5, _ => exact c15_5 n
  | 6, _ => exact c15_6 n
  | 7, _ => exact c15_7 n
theorem c10_0 (n : Nat) (raw : List Nat) : ck (fun l => chk10 n raw l 0 && chk10 n raw l 1 && chk10 n raw l 2 && chk10 n raw l 3) 0 = true := by kernel_rfl!
theorem c10_1 (n : Nat) (raw : List Nat) : ck (fun l => chk10 n raw l 0 && chk10 n raw l 1 && chk10 n raw l 2 && chk10 n raw l 3) 5 = true := by kernel_rfl!
theorem c10_2 (n : Nat) (raw : List Nat) : ck (fun l => chk10 n raw l 0 && chk10 n raw l 1 && chk10 n raw l 2 && chk10 n raw l 3) 10 = true := by kernel_rfl!
theorem c10_3 (n : Nat) (raw : List Nat) : ck (fun l => chk10 n raw l 0 && chk10 n raw l 1 && chk10 n raw l 2 && chk10 n raw l 3) 15 = true := by kernel_rfl!
theorem c10_4 (n : Nat) (raw : List Nat) : ck (fun l => chk10 n raw l 0 && chk10 n raw l 1 && chk10 n raw l 2 && chk10 n raw l 3) 20 = true := by kernel_rfl!
theorem c10_5 (n : Nat) (raw : List Nat) : ck (fun l => chk10 n raw l 0 && chk10 n raw l 1 && chk10 n raw l 2 && chk10 n raw l 3) 25 = true := by kernel_rfl!
theorem c10_6 (n : Nat) (raw : List Nat) : ck (fun l => chk10 n raw l 0 && chk10 n raw l 1 && chk10 n raw l 2 && chk10 n raw l 3) 30 = true := by kernel_rfl!
theorem c10_7 (n : Nat) (raw : List Nat) : ck (fun l => chk10 n raw l 0 && chk10 n raw l 1 && chk10 n raw l 2 && chk10 n raw l 3) 35 = true := by kernel_rfl!
theorem c10 (n : Nat) (raw : List Nat) : all40 (fun l => chk10 n raw l 0 && chk10 n raw l 1 && chk10 n raw l 2 && chk10 n raw l 3) = true := all40_of fun k hk => by
  match k, hk with
  | 0, _ => exact c10_0 n raw
  | 1, _ => exact c10_1 n raw
  | 2, _ => exact c10_2 n raw
  | 3, _ => exact c10_3 n raw
  | 4, _ => exact c10_4 n raw
  | 5, _ => exact c10_5 n raw
  | 6, _ => exact c10_6 n raw
  | 7, _ => exact c10_7 n raw
theorem c9_0 (n : Nat) (raw : List Nat) : ck (chk9 n raw) 0 = true := by kernel_rfl!
theorem c9_1 (n : Nat) (raw : List Nat) : ck (chk9 n raw) 5 = true := by kernel_rfl!
theorem c9_2 (n : Nat) (raw : List Nat) : ck (chk9 n raw) 10 = true := by kernel_rfl!
theorem c9_3 (n : Nat) (raw : List Nat) : ck (chk9 n raw) 15 = true := by kernel_rfl!
theorem c9_4 (n : Nat) (raw : List Nat) : ck (chk9 n raw) 20 = true := by kernel_rfl!
theorem c9_5 (n : Nat) (raw : List Nat) : ck (chk9 n raw) 25 = true := by kernel_rfl!
theorem c9_6 (n : Nat) (raw : List Nat) : ck (chk9 n raw) 30 = true := by kernel_rfl!
theorem c9_7 (n : Nat) (raw : List Nat) : ck (chk9 n raw) 35 = true := by kernel_rfl!
theorem c9 (n : Nat) (raw : List Nat) : all40 (chk9 n raw) = true := all40_of fun k hk => by
  match k, hk with
  | 0, _ => exact c9_0 n raw
  | 1, _ => exact c9_1 n raw
  | 2, _ => exact c9_2 n raw
  | 3, _ => exact c9_3 n raw
  | 4, _ => exact c9_4 n raw
  | 5, _ => exact c9_5 n raw
  | 6, _ => exact c9_6 n raw
  | 7, _ => exact c9_7 n raw
theorem c8s0_0 (n : Nat) : ck (chk8 n []) 0 = true := by kernel_rfl!
theorem c8s0_1 (n : Nat) : ck (chk8 n []) 5 = true := by kernel_rfl!
theorem c8s0_2 (n : Nat) : ck (chk8 n []) 10 = true := by kernel_rfl!
theorem c8s0_3 (n : Nat) : ck (chk8 n []) 15 = true := by kernel_rfl!
theorem c8s0_4 (n : Nat) : ck (chk8 n []) 20 = true := by kernel_rfl!
theorem c8s0_5 (n : Nat) : ck (chk8 n []) 25 = true := by kernel_rfl!
theorem c8s0_6 (n : Nat) : ck (chk8 n []) 30 = true := by kernel_rfl!
theorem c8s0_7 (n : Nat) : ck (chk8 n []) 35 = true := by kernel_rfl!
theorem c8s0 (n : Nat) : all40 (chk8 n []) = true := all40_of fun k hk => by
  match k, hk with
  | 0, _ => exact c8s0_0 n
  | 1, _ => exact c8s0_1 n
  | 2, _ => exact c8s0_2 n
  | 3, _ => exact c8s0_3 n
  | 4, _ => exact c8s0_4 n
  | 5, _ => exact c8s0_5 n
  | 6, _ => exact c8s0_6 n
  | 7, _ => exact c8s0_7 n
theorem c8s1_0 (n : Nat) : ck (chk8 n [120]) 0 = true := by kernel_rfl!
theorem c8s1_1 (n : Nat) : ck (chk8 n [120]) 5 = true := by kernel_rfl!
theorem c8s1_2 (n : Nat) : ck (chk8 n [120]) 10 = true := by kernel_rfl!
theorem c8s1_3 (n : Nat) : ck (chk8 n [120]) 15 = true := by kernel_rfl!
theorem c8s1_4 (n : Nat) : ck (chk8 n [120]) 20 = true := by kernel_rfl!
theorem c8s1_5 (n : Nat) : ck (chk8 n [120]) 25 = true := by kernel_rfl!
theorem c8s1_6 (n : Nat) : ck (chk8 n [120]) 30 = true := by kernel_rfl!
theorem c8s1_7 (n : Nat) : ck (chk8 n [120]) 35 = true := by kernel_rfl!
theorem c8s1 (n : Nat) : all40 (chk8 n [120]) = true := all40_of fun k hk => by
  match k, hk with
  | 0, _ => exact c8s1_0 n
  | 1, _ => exact c8s1_1 n
  | 2, _ => exact c8s1_2 n
  | 3, _ => exact c8s1_3 n
  | 4, _ => exact c8s1_4 n
  | 5, _ => exact c8s1_5 n
  | 6, _ => exact c8s1_6 n
  | 7, _ => exact c8s1_7 n
theorem c8s2_0 (n : Nat) : ck (chk8 n [120, 9]) 0 = true := by kernel_rfl!
theorem c8s2_1 (n : Nat) : ck (chk8 n [120, 9]) 5 = true := by kernel_rfl!
theorem c8s2_2 (n : Nat) : ck (chk8 n [120, 9]) 10 = true := by kernel_rfl!
theorem c8s2_3 (n : Nat) : ck (chk8 n [120, 9]) 15 = true := by kernel_rfl!
theorem c8s2_4 (n : Nat) : ck (chk8 n [120, 9]) 20 = true := by kernel_rfl!
theorem c8s2_5 (n : Nat) : ck (chk8 n [120, 9]) 25 = true := by kernel_rfl!
theorem c8s2_6 (n : Nat) : ck (chk8 n [120, 9]) 30 = true := by kernel_rfl!
theorem c8s2_7 (n : Nat) : ck (chk8 n [120, 9]) 35 = true := by kernel_rfl!
theorem c8s2 (n : Nat) : all40 (chk8 n [120, 9]) = true := all40_of fun k hk => by
  match k, hk with
  | 0, _ => exact c8s2_0 n
  | 1, _ => exact c8s2_1 n
  | 2, _ => exact c8s2_2 n
  | 3, _ => exact c8s2_3 n
  | 4, _ => exact c8s2_4 n
  | 5, _ => exact c8s2_5 n
  | 6, _ => exact c8s2_6 n
  | 7, _ => exact c8s2_7 n
theorem c8s3_0 (n : Nat) : ck (chk8 n [120, 9, 32]) 0 = true := by kernel_rfl!
theorem c8s3_1 (n : Nat) : ck (chk8 n [120, 9, 32]) 5 = true := by kernel_rfl!
theorem c8s3_2 (n : Nat) : ck (chk8 n [120, 9, 32]) 10 = true := by kernel_rfl!
theorem c8s3_3 (n : Nat) : ck (chk8 n [120, 9, 32]) 15 = true := by kernel_rfl!
theorem c8s3_4 (n : Nat) : ck (chk8 n [120, 9, 32]) 20 = true := by kernel_rfl!
theorem c8s3_5 (n : Nat) : ck (chk8 n [120, 9, 32]) 25 = true := by kernel_rfl!
theorem c8s3_6 (n : Nat) : ck (chk8 n [120, 9, 32]) 30 = true := by kernel_rfl!
theorem c8s3_7 (n : Nat) : ck (chk8 n [120, 9, 32]) 35 = true := by kernel_rfl!
theorem c8s3 (n : Nat) : all40 (chk8 n [120, 9, 32]) = true := all40_of fun k hk => by
  match k, hk with
  | 0, _ => exact c8s3_0 n
  | 1, _ => exact c8s3_1 n
  | 2, _ => exact c8s3_2 n
  | 3, _ => exact c8s3_3 n
  | 4, _ => exact c8s3_4 n
  | 5, _ => exact c8s3_5 n
  | 6, _ => exact c8s3_6 n
  | 7, _ => exact c8s3_7 n
noncomputable def plainN (l : Nat) : Bool := match NORM l with
  | .tup xs => plainL xs
  | _ => false
theorem cNorm : all40 plainN = true := by kernel_rfl!
end Mine
end
section
open PySem
namespace Mine
theorem smallI_le {a : Int} (h : smallI a = true) : -1000 ≤ a ∧ a ≤ 1000 := by
  cases a with
  | ofNat n => have := Nat.le_of_ble_eq_true h; constructor <;> simp <;> omega
  | negSucc n => have := Nat.le_of_ble_eq_true h; constructor <;> omega
theorem mul_small {a b : Int} (ha : smallI a = true) (_hb : smallI b = true) : IntMulOk a b := by
  have h := smallI_le ha
  exact IntMulOk.of_left (intBits_le_64 (by omega) (by omega))
theorem obB_ok {b : OB} (h : obB b = true) : b.ok := by
  cases b with
  | mul a b => obtain ⟨h1, h2⟩ := Bool.and_eq_true_iff.mp h; exact mul_small h1 h2
  | len n => have := Nat.le_of_ble_eq_true h; show n ≤ sizeLine; rw [sizeLine_eq]; omega
  | pow a b => cases h
  | prop p => cases h
theorem obsB_ok {ob : List OB} (h : obsB ob = true) : AllOk ob := fun b hb => obB_ok (List.all_eq_true.mp h b hb)
/-- a call's contract -/
noncomputable def Con (R : Orc) (k f : Nat) (vs : List V) (σ : List S) (v : V) (σ' : List S) : Prop := Gives ((run prg R k).call f vs σ) v σ'
theorem beqS_eq : ∀ {a b : List Nat}, beqS a b = true → a = b
  | [], [], _ => rfl
  | [], _ :: _, h => by cases h
  | _ :: _, [], h => by cases h
  | a :: x, b :: y, h => by
    obtain ⟨h1, h2⟩ := Bool.and_eq_true_iff.mp h
    rw [Nat.eq_of_beq_eq_true h1, beqS_eq h2]
mutual
theorem eqv_eq : ∀ (a b : D), D.eqv a b = true → a = b
  | .none, b, h => by
    cases b with
    | none => rfl
    | _ => exact ff _ h
  | .bool x, b, h => by
    cases b with
    | bool y => exact congrArg D.bool (be h)
    | _ => exact ff _ h
  | .int x, b, h => by
    cases b with
    | int y => exact congrArg D.int (of_decide_eq_true h)
    | _ => exact ff _ h
  | .str x, b, h => by
    cases b with
    | str y => exact congrArg D.str (beqS_eq h)
    | _ => exact ff _ h
  | .list x, b, h => by
    cases b with
    | list y => exact congrArg D.list (eqvs_eq x y h)
    | _ => exact ff _ h
  | .tup x, b, h => by
    cases b with
    | tup y => exact congrArg D.tup (eqvs_eq x y h)
    | _ => exact ff _ h
  | .inst _ _, b, h => ff _ h
theorem eqvs_eq : ∀ (a b : List D), D.eqvs a b = true → a = b
  | [], b, h => (List.isEmpty_iff.mp h).symm
  | x :: a, b, h => by
    cases b with
    | nil => exact ff _ h
    | cons y b =>
      have h : (D.eqv x y && D.eqvs a b) = true := h
      rw [eqv_eq x y (al h), eqvs_eq a b (ar h)]
end
theorem fsEq_eq : ∀ {a b : List (Nat × D)}, fsEq a b = true → a = b
  | [], [], _ => rfl
  | [], _ :: _, h => by cases h
  | _ :: _, [], h => by cases h
  | x :: a, y :: b, h => by
    have h : (Nat.beq x.1 y.1 && (D.eqv x.2 y.2 && fsEq a b)) = true := h
    rw [Bool.and_eq_true, Bool.and_eq_true] at h
    rw [fsEq_eq h.2.2, Prod.ext (Nat.eq_of_beq_eq_true h.1) (eqv_eq _ _ h.2.1)]
theorem stEq_eq : ∀ {a b : List S}, stEq a b = true → a = b
  | [], [], _ => rfl
  | [], _ :: _, h => by cases h
  | _ :: _, [], h => by cases h
  | x :: a, y :: b, h => by
    obtain ⟨h1, h2⟩ := Bool.and_eq_true_iff.mp h
    rw [stEq_eq h2]
    cases x with
    | inst c =>
      cases y with
      | inst d =>
        have h1 : Nat.beq c d = true := h1
        rw [Nat.eq_of_beq_eq_true h1]
      | _ => cases h1
    | idict c fs =>
      cases y with
      | idict d gs =>
        have h1 : (Nat.beq c d && fsEq fs gs) = true := h1
        rw [Bool.and_eq_true] at h1
        rw [Nat.eq_of_beq_eq_true h1.1, fsEq_eq h1.2]
      | _ => cases h1
    | _ => cases h1
theorem vEq_eq {v w : V} (h : vEq v w = true) : v = w := by
  cases v with
  | d x =>
    cases w with
    | d y => rw [eqv_eq x y h]
    | ref _ => cases h
  | ref _ => cases h
theorem resB_ok {r : Res V} {v : V} {σ : List S} (h : resB r v σ = true) : Gives r v σ := by
  cases r with
  | none => cases h
  | some p =>
    obtain ⟨w, τ, ob⟩ := p
    have h : (vEq w v && (stEq τ σ && obsB ob)) = true := h
    rw [Bool.and_eq_true, Bool.and_eq_true] at h
    rw [← vEq_eq h.1, ← stEq_eq h.2.1]
    exact ⟨ob, rfl, obsB_ok h.2.2⟩
theorem con15 {n l : Nat} (hl : l < 40) : Con noOrc (n + 14) 15 [.d (.str (LS l))] [] (.d (.list (COLS l))) [] := resB_ok (all40_at (c15 n) hl)
theorem con10 {n : Nat} (raw : List Nat) {l s : Nat} (hl : l < 40) (hs : s < 4) : Con noOrc (n + 14) 10 [.d (.inst 1 (WF l raw)), .d (.int (s + 1 : Nat))] [] (.d (.int (COL l s))) [] := by
  have h0 := all40_at (c10 n raw) hl
  simp only [Bool.and_eq_true] at h0
  match s, hs with
  | 0, _ => exact resB_ok h0.1.1.1
  | 1, _ => exact resB_ok h0.1.1.2
  | 2, _ => exact resB_ok h0.1.2
  | 3, _ => exact resB_ok h0.2
theorem con9 {n : Nat} (raw : List Nat) {l : Nat} (hl : l < 40) : Con noOrc (n + 14) 9 [.d (.inst 1 (WF l raw))] [] (.d (.int (LNG l))) [] := resB_ok (all40_at (c9 n raw) hl)
noncomputable def sufs : List (List Nat) := [[], [120], [120, 9], [120, 9, 32]]
theorem con8 {n l : Nat} (hl : l < 40) {suf : List Nat} (hs : suf ∈ sufs) : Con noOrc (n + 20) 8 [.ref 0, .d (.str (LS l ++ suf))] [.inst 1, .idict 1 []] (.d .none) [.inst 1, .idict 1 (WF l (LS l ++ suf))] := by
  simp only [sufs, List.mem_cons, List.not_mem_nil, or_false] at hs
  rcases hs with rfl | rfl | rfl | rfl
  · exact resB_ok (all40_at (c8s0 n) hl)
  · exact resB_ok (all40_at (c8s1 n) hl)
  · exact resB_ok (all40_at (c8s2 n) hl)
  · exact resB_ok (all40_at (c8s3 n) hl)
/-- the leads -/
noncomputable def LI (c : Int) : Nat := 4 * (c.fmod 10).toNat + ((c.fdiv 10).fmod 4).toNat
noncomputable def SH : List D := [.str [32, 32, 9], .str [9, 32, 9], .str [32, 9, 9], .str [32, 32, 32, 9], .str [32, 9, 32, 9], .str [9, 32, 32, 9], .str [9, 9, 9], .str [32, 32, 9, 32, 32, 9, 9], .str [32, 32, 9, 32, 9, 32, 9], .str []]
theorem LI_lt (c : Int) : LI c < 40 := by
  have h1 := Int.fmod_nonneg_of_pos c (b := 10) (by decide)
  have h2 := Int.fmod_lt_of_pos c (b := 10) (by decide)
  have h3 := Int.fmod_nonneg_of_pos (c.fdiv 10) (b := 4) (by decide)
  have h4 := Int.fmod_lt_of_pos (c.fdiv 10) (b := 4) (by decide)
  unfold LI; omega
noncomputable def LCh (x y : Nat) : Bool := match evSub (.d (.list SH)) (.d (.int x)) [], evBin .mul true (.d (.str [32])) (.d (.int y)) [] with
  | some (.str s), some (.d (.str t), [], []) => beqS (s ++ t) (LS (4 * x + y)) && Nat.ble (s ++ t).length 1000
  | _, _ => false
theorem c14 : (List.range 10).all (fun x => (List.range 4).all fun y => LCh x y) = true := by kernel_rfl!
theorem evBin_rep (n : Nat) (hn : n < 4) (σ : List S) : evBin .mul true (.d (.str [32])) (.d (.int n)) σ = some (.d (.str (repS n [32])), σ, []) := by
  match n, hn with
  | 0, _ => rfl
  | 1, _ => rfl
  | 2, _ => rfl
  | 3, _ => rfl
theorem evSub_lst (xs : List D) (i : Int) (σ : List S) : evSub (.d (.list xs)) (.d (.int i)) σ = (match placeOf i with | some n => xs[n]? | none => none) := by
  cases h : placeOf i with
  | none => show (placeOf i).bind (fun n => xs[n]?) = _; rw [h]; rfl
  | some n => show (placeOf i).bind (fun n => xs[n]?) = _; rw [h]; rfl
theorem placeOf_nat {n : Nat} (h : n ≤ 4096) : placeOf (n : Int) = some n := by
  have : room n = true := Nat.ble_eq_true_of_le h
  show (match room n with | true => some n | false => none) = _
  rw [this]
theorem con14 {n : Nat} (c : Int) : Con noOrc (n + 14) 14 [.d (.int c)] [] (.d (.str (LS (LI c)))) [] := by
  have h1 := Int.fmod_nonneg_of_pos c (b := 10) (by decide)
  have h2 := Int.fmod_lt_of_pos c (b := 10) (by decide)
  have h3 := Int.fmod_nonneg_of_pos (c.fdiv 10) (b := 4) (by decide)
  have h4 := Int.fmod_lt_of_pos (c.fdiv 10) (b := 4) (by decide)
  obtain ⟨x, hx⟩ := Int.eq_ofNat_of_zero_le h1
  obtain ⟨y, hy⟩ := Int.eq_ofNat_of_zero_le h3
  have hy4 : y < 4 := by omega
  have h := List.all_eq_true.mp (List.all_eq_true.mp c14 x (List.mem_range.mpr (by omega))) y (List.mem_range.mpr hy4)
  have e : LI c = 4 * x + y := by unfold LI; rw [hx, hy]; simp
  unfold LCh at h
  rw [evBin_rep y hy4] at h
  split at h
  · rename_i s t e1 e2
    cases e2
    obtain ⟨g1, g2⟩ := Bool.and_eq_true_iff.mp h
    have g1 := beqS_eq g1
    rw [e, ← g1]
    have g2 := Nat.le_of_ble_eq_true g2
    have k1 : ∀ σ, evSub (.d (.list SH)) (.d (.int (c.fmod 10))) σ = some (.str s) := fun σ => by rw [evSub_lst] at e1 ⊢; rw [hx]; exact e1
    have k2 : ∀ σ, Gives (evBin .mul true (.d (.str [32])) (.d (.int ((c.fdiv 10).fmod 4))) σ) (.d (.str (repS y [32]))) σ := fun σ => by rw [hy]; exact gives (evBin_rep y hy4 _)
    have k3 : ∀ σ, Gives (evBin .add true (.d (.str s)) (.d (.str (repS y [32]))) σ) (.d (.str (s ++ repS y [32]))) σ := fun σ => gives_ob (ob := [.len (s ++ repS y [32]).length]) rfl (AllOk.cons (by show _ ≤ sizeLine; rw [sizeLine_eq]; omega) .nil)
    exact g_call rfl rfl rfl (ux (x_cons (gives rfl) (x_ret' (x_ret (u (e_bin (u (e_sub (gives rfl) (gives rfl) (k1 _))) (u (e_bin (gives rfl) (gives rfl) (k2 _))) (k3 _))))))) (gives rfl)
  · cases h
end Mine
end
section
open PySem
namespace Mine
/-- _law_cells -/
noncomputable def cellStep (cs : List Int) (p : Nat × Int) : List Int := cs.set (p.1 % 12) (cs.getD (p.1 % 12) 0 + p.2)
noncomputable def C0 : List Int := [18, 4, 3, 1, 0, 17, 2, -3, 5, 7, 11, 0]
noncomputable def cellsSt (T0 : List D) (p : Option V) (cs : List Int) : List S := [.frame [some (.d (.list T0)), some (.ref 1), p], .mlist (cs.map .int)]
theorem evSub_ref {σ : List S} {n : Nat} {xs : List D} (h : σ[n]? = some (.mlist xs)) (i : Int) : evSub (.ref n) (.d (.int i)) σ = (match placeOf i with | some n => xs[n]? | none => none) := by
  show ((placeOf i).bind fun m => (lstOf σ (.ref n)).bind fun xs => xs[m]?) = _
  have : lstOf σ (.ref n) = some xs := by
    show (match σ[n]? with | some (.mlist xs) => some xs | _ => none) = _
    rw [h]
  rw [this]
  cases placeOf i <;> rfl
theorem cells_step {T0 : List D} {cs : List Int} {j : Nat} {v : Int} {n : Nat} (hj : j ≤ 4096) (hv : T0[j]? = some (.int v)) (hl : cs.length = 12) :
    Gives ((run prg noOrc (n + 6)).ex [.augs (.loc 1) (.bin .mod true (.loc 2) (.int 12)) .add (.sub (.loc 0) (.loc 2))] ⟨0, []⟩ (cellsSt T0 (some (.d (.int j))) cs)) .next (cellsSt T0 (some (.d (.int j))) (cellStep cs (j, v))) := by
  have hm : j % 12 < 12 := Nat.mod_lt _ (by decide)
  have e1 : ((j : Int).fmod 12) = ((j % 12 : Nat) : Int) := by rw [Int.fmod_eq_emod_of_nonneg _ (by decide)]; rfl
  have hc : (cs.map D.int)[j % 12]? = some (.int (cs.getD (j % 12) 0)) := by
    rw [List.getElem?_map, List.getD_eq_getElem?_getD, List.getElem?_eq_getElem (by omega)]; rfl
  have hs : Gives ((run prg noOrc (n + 5)).ev (.sub (.loc 0) (.loc 2)) ⟨0, []⟩ (cellsSt T0 (some (.d (.int j))) cs)) (.d (.int v)) (cellsSt T0 (some (.d (.int j))) cs) := by
    refine u (e_sub (x := .d (.list T0)) (y := .d (.int j)) (v := .int v) (σ₁ := cellsSt T0 (some (.d (.int j))) cs) (gives rfl) (gives rfl) ?_)
    rw [evSub_lst, placeOf_nat hj]
    exact hv
  refine ux (x_cons (x_augs (σ₁ := cellsSt T0 (some (.d (.int j))) cs) (σ₂ := cellsSt T0 (some (.d (.int j))) cs) (σ₃ := cellsSt T0 (some (.d (.int j))) cs) (ov := .ref 1) (iv := .d (.int ((j : Int).fmod 12))) (x := cs.getD (j % 12) 0) (y := v) (r := cs.getD (j % 12) 0 + v) (gives rfl) (gives rfl) ?_ hs (gives rfl) ?_) x_nil)
  · show evSub (.ref 1) (.d (.int ((j : Int).fmod 12))) (cellsSt T0 (some (.d (.int j))) cs) = _
    rw [evSub_ref (xs := cs.map .int) rfl, e1, placeOf_nat (by omega)]
    exact hc
  · show setAtV (.ref 1) (.d (.int ((j : Int).fmod 12))) (.int (cs.getD (j % 12) 0 + v)) (cellsSt T0 (some (.d (.int j))) cs) = _
    rw [e1]
    have hb : Nat.blt (j % 12) (cs.map D.int).length = true := Nat.ble_eq_true_of_le (by rw [List.length_map, hl]; exact hm)
    show ((placeOf ((j % 12 : Nat) : Int)).bind fun j' => gd (Nat.blt j' (cs.map D.int).length) (some ((cellsSt T0 (some (.d (.int j))) cs).set 1 (.mlist ((cs.map D.int).set j' (.int (cs.getD (j % 12) 0 + v))))))) = _
    rw [placeOf_nat (by omega)]
    show gd (Nat.blt (j % 12) (cs.map D.int).length) _ = _
    rw [hb]
    show some _ = some _
    unfold cellStep cellsSt
    rw [List.map_set]
    rfl
theorem cellStep_len {cs : List Int} {p : Nat × Int} : (cellStep cs p).length = cs.length := by unfold cellStep; rw [List.length_set]
noncomputable def cellsOf (xs : List Int) : Nat → List Int → List Int
  | 0, cs => cs
  | k + 1, cs => cellsOf xs k (cellStep cs (xs.length - (k + 1), xs.getD (xs.length - (k + 1)) 0))
theorem cells_loop {xs : List Int} {n : Nat} (hx : xs.length ≤ 63) : ∀ (k : Nat) (cs : List Int) (p : Option V), k ≤ xs.length → cs.length = 12 →
    ∃ p', Gives (forL (run prg noOrc (n + 6)) [.loc 2] false [.augs (.loc 1) (.bin .mod true (.loc 2) (.int 12)) .add (.sub (.loc 0) (.loc 2))] ⟨0, []⟩ ((List.range' (xs.length - k) k).map fun (i : Nat) => D.int (i : Int)) (cellsSt (xs.map .int) p cs)) .next (cellsSt (xs.map .int) p' (cellsOf xs k cs))
  | 0, cs, p, _, _ => ⟨p, l_nil⟩
  | k + 1, cs, p, hk, hc => by
    obtain ⟨p', ih⟩ := cells_loop (n := n) hx k (cellStep cs (xs.length - (k + 1), xs.getD (xs.length - (k + 1)) 0)) (some (.d (.int ((xs.length - (k + 1) : Nat) : Int)))) (by omega) (by rw [cellStep_len]; exact hc)
    refine ⟨p', ?_⟩
    rw [List.range'_succ, List.map_cons]
    have e : xs.length - (k + 1) + 1 = xs.length - k := by omega
    rw [e]
    refine l_cons (σ₁ := cellsSt (xs.map .int) (some (.d (.int ((xs.length - (k + 1) : Nat) : Int)))) cs) rfl (cells_step (j := xs.length - (k + 1)) (by omega) ?_ hc) ih
    rw [List.getElem?_map, List.getD_eq_getElem?_getD, List.getElem?_eq_getElem (by omega)]; rfl
theorem cells_len {xs : List Int} : ∀ (k : Nat) (cs : List Int), (cellsOf xs k cs).length = cs.length
  | 0, _ => rfl
  | k + 1, cs => by unfold cellsOf; rw [cells_len k, cellStep_len]
theorem cells_le {xs : List Int} {M : Nat} (hM : ∀ x ∈ xs, x.natAbs ≤ M) : ∀ (k : Nat) (cs : List Int) (B : Nat), (∀ c ∈ cs, c.natAbs ≤ B) → ∀ c ∈ cellsOf xs k cs, c.natAbs ≤ B + k * M
  | 0, cs, B, h, c, hc => by rw [Nat.zero_mul]; exact h c hc
  | k + 1, cs, B, h, c, hc => by
    have := cells_le hM k (cellStep cs (xs.length - (k + 1), xs.getD (xs.length - (k + 1)) 0)) (B + M) (fun c hc => ?_) c hc
    · rw [Nat.succ_mul]; omega
    · have hx : (xs.getD (xs.length - (k + 1)) 0).natAbs ≤ M := by
        rw [List.getD_eq_getElem?_getD]
        cases e : xs[xs.length - (k + 1)]? with
        | none => exact Nat.zero_le _
        | some x => exact hM x (List.mem_of_getElem? e)
      rcases List.mem_or_eq_of_mem_set hc with q | q
      · have := h c q; omega
      · have : (cs.getD ((xs.length - (k + 1)) % 12) 0).natAbs ≤ B := by
          rw [List.getD_eq_getElem?_getD]
          cases e : cs[(xs.length - (k + 1)) % 12]? with
          | none => exact Nat.zero_le _
          | some x => exact h x (List.mem_of_getElem? e)
        subst q
        have := Int.natAbs_add_le (cs.getD ((xs.length - (k + 1)) % 12) 0) (xs.getD (xs.length - (k + 1)) 0)
        simp only at *
        omega
noncomputable def cellsL (xs : List Int) : List Int := cellsOf xs xs.length C0
theorem con13 {n : Nat} {xs : List Int} (hx : xs.length ≤ 63) : Con noOrc (n + 14) 13 [.d (.list (xs.map .int))] [] (.d (.list ((cellsL xs).map .int))) [] := by
  obtain ⟨p', h⟩ := cells_loop (n := n + 6) hx xs.length C0 none (Nat.le_refl _) rfl
  rw [Nat.sub_self] at h
  have hr : room (xs.map D.int).length = true := Nat.ble_eq_true_of_le (by rw [List.length_map]; omega)
  have h1 : Gives ((run prg noOrc (n + 12)).ev (.len (.loc 0)) ⟨0, []⟩ (cellsSt (xs.map .int) none C0)) (.d (.int xs.length)) (cellsSt (xs.map .int) none C0) := by
    have := u (G := prg) (R := noOrc) (n := n + 11) (e_len (x := .d (.list (xs.map .int))) (n := (xs.map D.int).length) (d := ⟨0, []⟩) (σ := cellsSt (xs.map .int) none C0) (σ₁ := cellsSt (xs.map .int) none C0) (a := .loc 0) (gives rfl) rfl hr)
    rw [List.length_map] at this
    exact this
  have hi : iterOf .range [.d (.int xs.length)] (cellsSt (xs.map .int) none C0) = some ((List.range' 0 xs.length).map fun (i : Nat) => D.int (i : Int), none) := by
    show (match small64 (xs.length : Int) with | true => some (rangeD 0 xs.length, none) | false => none) = _
    have : small64 (xs.length : Int) = true := Nat.ble_eq_true_of_le (by omega)
    rw [this]
    show some (rangeD 0 xs.length, none) = _
    unfold rangeD
    rw [List.range_eq_range']
    simp
  exact g_call (fl := .ret (.ref 1)) (σ₁ := cellsSt (xs.map .int) p' (cellsL xs)) rfl rfl rfl (ux (x_cons (σ₁ := cellsSt (xs.map .int) none C0) (gives rfl) (x_cons (x_for (v_cons h1 v_nil) hi h) (x_ret' (x_ret (gives rfl)))))) (gives rfl)
end Mine
end
section
open PySem
namespace Mine
/-- TupleComp.compare -/
noncomputable def cmpI : List (Nat × Int) → List Int → List Int → Int
  | [], _, _ => 0
  | (k, t) :: r, x, y => if x.getD k 0 < y.getD k 0 then -t else if y.getD k 0 < x.getD k 0 then t else cmpI r x y
noncomputable def itemsD (its : List (Nat × Int)) : List D := its.map fun p => .tup [.int p.1, .int p.2]
noncomputable def compD (its : List (Nat × Int)) : D := .inst 0 [(0, .list (itemsD its))]
noncomputable def tupI (x : List Int) : D := .tup (x.map .int)
noncomputable def cFr (its : List (Nat × Int)) (x y : List Int) (a b c e : Option V) : List (Option V) := [some (.d (compD its)), some (.d (tupI x)), some (.d (tupI y)), a, b, c, e]
noncomputable abbrev cSt (its : List (Nat × Int)) (x y : List Int) (a b c e : Option V) : List S := [.frame (cFr its x y a b c e)]
theorem cmpI_cons (k : Nat) (t : Int) (r : List (Nat × Int)) (x y : List Int) : cmpI ((k, t) :: r) x y = if x.getD k 0 < y.getD k 0 then -t else if y.getD k 0 < x.getD k 0 then t else cmpI r x y := rfl
noncomputable def cmpBody : List T := [.asg (.loc 5) (.sub (.loc 1) (.loc 3)), .asg (.loc 6) (.sub (.loc 2) (.loc 3)), .ite (.cmp .lt (.loc 5) (.loc 6)) [.ret (.neg (.loc 4))] [], .ite (.cmp .gt (.loc 5) (.loc 6)) [.ret (.loc 4)] []]
theorem evSub_tup {xs : List D} {k : Nat} {σ : List S} {v : D} (hk : k ≤ 4096) (h : xs[k]? = some v) : evSub (.d (.tup xs)) (.d (.int k)) σ = some v := by
  show (placeOf (k : Int)).bind (fun n => xs[n]?) = _
  rw [Mine.placeOf_nat hk]
  exact h
theorem tupI_at {x : List Int} {k : Nat} (h : k < x.length) : (x.map D.int)[k]? = some (.int (x.getD k 0)) := by
  rw [List.getElem?_map, List.getD_eq_getElem?_getD, List.getElem?_eq_getElem h]; rfl
theorem cmp_step {its : List (Nat × Int)} {x y : List Int} {c e : Option V} {k : Nat} {t : Int} {n : Nat} (hk : k ≤ 4096) (hx : k < x.length) (hy : k < y.length) :
    let σ := cSt its x y (some (.d (.int k))) (some (.d (.int t))) c e
    let σ' := cSt its x y (some (.d (.int k))) (some (.d (.int t))) (some (.d (.int (x.getD k 0)))) (some (.d (.int (y.getD k 0))))
    (x.getD k 0 < y.getD k 0 → Gives ((run prg noOrc (n + 6)).ex cmpBody ⟨0, []⟩ σ) (.ret (.d (.int (-t)))) σ') ∧
    (y.getD k 0 < x.getD k 0 → Gives ((run prg noOrc (n + 6)).ex cmpBody ⟨0, []⟩ σ) (.ret (.d (.int t))) σ') ∧
    (x.getD k 0 = y.getD k 0 → Gives ((run prg noOrc (n + 6)).ex cmpBody ⟨0, []⟩ σ) .next σ') := by
  intro σ σ'
  let σ₁ := cSt its x y (some (.d (.int k))) (some (.d (.int t))) (some (.d (.int (x.getD k 0)))) e
  have h1 : Gives (exT (run prg noOrc (n + 5)) (.asg (.loc 5) (.sub (.loc 1) (.loc 3))) ⟨0, []⟩ σ) .next σ₁ := x_asg (v := .d (.int (x.getD k 0))) (σ₁ := σ) (u (e_sub (x := .d (tupI x)) (y := .d (.int k)) (v := .int (x.getD k 0)) (σ₁ := σ) (gives rfl) (gives rfl) (evSub_tup hk (tupI_at hx)))) rfl
  have h2 : Gives (exT (run prg noOrc (n + 5)) (.asg (.loc 6) (.sub (.loc 2) (.loc 3))) ⟨0, []⟩ σ₁) .next σ' := x_asg (v := .d (.int (y.getD k 0))) (σ₁ := σ₁) (u (e_sub (x := .d (tupI y)) (y := .d (.int k)) (v := .int (y.getD k 0)) (σ₁ := σ₁) (gives rfl) (gives rfl) (evSub_tup hk (tupI_at hy)))) rfl
  have h3 : Gives (tst (run prg noOrc (n + 5)) (.cmp .lt (.loc 5) (.loc 6)) ⟨0, []⟩ σ') (decide (x.getD k 0 < y.getD k 0)) σ' := t_cmp (c_cmp (x := .d (.int (x.getD k 0))) (y := .d (.int (y.getD k 0))) (σ₁ := σ') (gives rfl) (gives rfl) rfl)
  have h4 : Gives (tst (run prg noOrc (n + 5)) (.cmp .gt (.loc 5) (.loc 6)) ⟨0, []⟩ σ') (decide (y.getD k 0 < x.getD k 0)) σ' := t_cmp (c_cmp (x := .d (.int (x.getD k 0))) (y := .d (.int (y.getD k 0))) (σ₁ := σ') (gives rfl) (gives rfl) rfl)
  refine ⟨fun h => ?_, fun h => ?_, fun h => ?_⟩
  · rw [decide_eq_true h] at h3
    exact ux (x_cons h1 (x_cons h2 (x_ret' (x_ite h3 (gives rfl)))))
  · rw [decide_eq_false (by omega)] at h3
    rw [decide_eq_true h] at h4
    exact ux (x_cons h1 (x_cons h2 (x_cons (x_ite h3 (gives rfl)) (x_ret' (x_ite h4 (gives rfl))))))
  · rw [decide_eq_false (by omega)] at h3 h4
    exact ux (x_cons h1 (x_cons h2 (x_cons (x_ite h3 (gives rfl)) (x_cons (x_ite h4 (gives rfl)) x_nil))))
theorem cmp_loop {its0 : List (Nat × Int)} {x y : List Int} {n : Nat} : ∀ (its : List (Nat × Int)) (a b c e : Option V), (∀ p ∈ its, p.1 ≤ 4096 ∧ p.1 < x.length ∧ p.1 < y.length) →
    ∃ fr, Gives (forL (run prg noOrc (n + 6)) [.loc 3, .loc 4] true cmpBody ⟨0, []⟩ (itemsD its) (cSt its0 x y a b c e)) .next [.frame fr] ∧ cmpI its x y = 0 ∨
      Gives (forL (run prg noOrc (n + 6)) [.loc 3, .loc 4] true cmpBody ⟨0, []⟩ (itemsD its) (cSt its0 x y a b c e)) (.ret (.d (.int (cmpI its x y)))) [.frame fr]
  | [], a, b, c, e, _ => ⟨_, .inl ⟨l_nil, rfl⟩⟩
  | (k, t) :: its, a, b, c, e, h => by
    obtain ⟨g1, g2, g3⟩ := h (k, t) (List.mem_cons_self ..)
    obtain ⟨s1, s2, s3⟩ := cmp_step (its := its0) (x := x) (y := y) (c := c) (e := e) (k := k) (t := t) (n := n) g1 g2 g3
    have hp : putTarget [.loc 3, .loc 4] true ⟨0, []⟩ (.tup [.int k, .int t]) (cSt its0 x y a b c e) = some (cSt its0 x y (some (.d (.int k))) (some (.d (.int t))) c e) := rfl
    rcases Int.lt_trichotomy (x.getD k 0) (y.getD k 0) with q | q | q
    · refine ⟨cFr its0 x y (some (.d (.int k))) (some (.d (.int t))) (some (.d (.int (x.getD k 0)))) (some (.d (.int (y.getD k 0)))), .inr ?_⟩
      have : cmpI ((k, t) :: its) x y = -t := by rw [cmpI_cons, if_pos q]
      rw [this]
      exact l_ret hp (s1 q)
    · obtain ⟨fr, ih⟩ := cmp_loop (its0 := its0) (n := n) its (some (.d (.int k))) (some (.d (.int t))) (some (.d (.int (x.getD k 0)))) (some (.d (.int (y.getD k 0)))) fun p hp => h p (List.mem_cons_of_mem _ hp)
      have : cmpI ((k, t) :: its) x y = cmpI its x y := by
        rw [cmpI_cons, if_neg (by omega), if_neg (by omega)]
      rw [this]
      refine ⟨fr, ?_⟩
      rcases ih with ⟨ih, e0⟩ | ih
      · exact .inl ⟨l_cons hp (s3 q) ih, e0⟩
      · exact .inr (l_cons hp (s3 q) ih)
    · refine ⟨cFr its0 x y (some (.d (.int k))) (some (.d (.int t))) (some (.d (.int (x.getD k 0)))) (some (.d (.int (y.getD k 0)))), .inr ?_⟩
      have : cmpI ((k, t) :: its) x y = t := by rw [cmpI_cons, if_neg (by omega), if_pos q]
      rw [this]
      exact l_ret hp (s2 q)
theorem con1 {n : Nat} {its : List (Nat × Int)} {x y : List Int} (h : ∀ p ∈ its, p.1 ≤ 4096 ∧ p.1 < x.length ∧ p.1 < y.length) : Con noOrc (n + 14) 1 [.d (compD its), .d (tupI x), .d (tupI y)] [] (.d (.int (cmpI its x y))) [] := by
  obtain ⟨fr, hl⟩ := cmp_loop (its0 := its) (n := n + 6) its none none none none h
  have h1 : Gives (evs (run prg noOrc (n + 12)) ⟨0, []⟩ [.attr 0 (.loc 0)] (cSt its x y none none none none)) [.d (.list (itemsD its))] (cSt its x y none none none none) := gives rfl
  rcases hl with ⟨hl, e0⟩ | hl
  · rw [e0]
    exact g_call (fl := .ret (.d (.int 0))) rfl rfl rfl (ux (x_cons (x_for h1 rfl hl) (x_ret' (x_ret (gives rfl))))) (gives rfl)
  · exact g_call rfl rfl rfl (ux (x_ret' (x_for h1 rfl hl))) (gives rfl)
end Mine
end
section
namespace Mine
noncomputable def hd0 (r : List Int) : Int := r.getD 0 0
noncomputable def partR (c : Int) (heap : List (List Int)) : List (List Int) := (heap.filter fun r => decide (hd0 r = c)).map (·.drop 1)
noncomputable def worthI : List Int → List (List Int) → Int
  | [], _ => 1
  | t :: ts, heap => if heap.length < 2 then 1 else
    let cols := usort (heap.map hd0)
    (cols.foldl (fun w c => w * worthI ts (partR c heap)) 1) * (-t) ^ ((cols.foldl (fun o c => o + (partR c heap).length % 2) 0) / 2)
theorem worthI_small {ts : List Int} {heap : List (List Int)} (h : heap.length < 2) : worthI ts heap = 1 := by
  cases ts with
  | nil => rfl
  | cons t ts => unfold worthI; rw [if_pos h]
theorem worthI_cons {t : Int} {ts : List Int} {heap : List (List Int)} (h : ¬ heap.length < 2) : worthI (t :: ts) heap =
    ((usort (heap.map hd0)).foldl (fun w c => w * worthI ts (partR c heap)) 1) * (-t) ^ (((usort (heap.map hd0)).foldl (fun o c => o + (partR c heap).length % 2) 0) / 2) := by
  rw [worthI, if_neg h]
theorem partOf_len_le {c : Int} {heap : List (List Int)} : (partR c heap).length ≤ heap.length := by
  unfold partR; rw [List.length_map]; exact List.length_filter_le ..
theorem partOf_cons {c : Int} {r : List Int} {heap : List (List Int)} : (partR c (r :: heap)).length = (if hd0 r = c then 1 else 0) + (partR c heap).length := by
  unfold partR
  rw [List.length_map, List.length_map, List.filter_cons]
  by_cases h : hd0 r = c
  · simp [h]; omega
  · simp [h]
theorem sum_split : ∀ (cols : List Int) (r : List Int) (heap : List (List Int)), (cols.map fun c => (partR c (r :: heap)).length).sum = cols.count (hd0 r) + (cols.map fun c => (partR c heap).length).sum
  | [], _, _ => rfl
  | c :: cols, r, heap => by
    rw [List.map_cons, List.sum_cons, List.map_cons, List.sum_cons, sum_split cols r heap, partOf_cons, List.count_cons]
    by_cases h : hd0 r = c
    · subst h; simp; omega
    · have : ¬ (c = hd0 r) := fun e => h e.symm
      simp [h, this]; omega
theorem count_le {a : Int} : ∀ {l : List Int}, l.Nodup → l.count a ≤ 1
  | [], _ => by simp
  | x :: l, h => by
    obtain ⟨h1, h2⟩ := List.nodup_cons.mp h
    rw [List.count_cons]
    have := count_le (a := a) h2
    by_cases q : x = a
    · subst q
      have := List.count_eq_zero.mpr h1
      simp; omega
    · have : (x == a) = false := by simpa using q
      rw [this]; simp; omega
theorem parts_le {cols : List Int} (hn : cols.Nodup) : ∀ heap : List (List Int), (cols.map fun c => (partR c heap).length).sum ≤ heap.length
  | [] => by
    have : (cols.map fun c => (partR c []).length) = cols.map fun _ => 0 := rfl
    rw [this]
    have z : ∀ l : List Int, (l.map fun _ => 0).sum = 0 := fun l => by induction l with | nil => rfl | cons _ _ ih => simpa using ih
    rw [z]; exact Nat.le_refl _
  | r :: heap => by
    rw [sum_split]
    have h1 := parts_le hn heap
    have h2 : cols.count (hd0 r) ≤ 1 := count_le hn
    rw [List.length_cons]; omega
theorem mem_uins {x y : Int} : ∀ {l : List Int}, y ∈ uins x l ↔ y = x ∨ y ∈ l
  | [] => by simp [uins]
  | z :: l => by
    unfold uins
    split
    · simp
    · split
      · rename_i h; subst h; simp
      · rw [List.mem_cons, mem_uins, List.mem_cons]
        constructor
        · rintro (h | h | h) <;> simp [h]
        · rintro (h | h | h) <;> simp [h]
theorem mem_usort {y : Int} : ∀ {l : List Int}, y ∈ usort l ↔ y ∈ l
  | [] => by simp [usort]
  | x :: l => by rw [usort, mem_uins, mem_usort, List.mem_cons]
theorem uins_sorted {x : Int} : ∀ {l : List Int}, l.Pairwise (· < ·) → (uins x l).Pairwise (· < ·)
  | [], _ => by simp [uins]
  | z :: l, h => by
    unfold uins
    obtain ⟨h1, h2⟩ := List.pairwise_cons.mp h
    split
    · rename_i q
      refine List.pairwise_cons.mpr ⟨fun a ha => ?_, h⟩
      rcases List.mem_cons.mp ha with rfl | ha
      · exact q
      · have := h1 a ha; omega
    · split
      · exact h
      · refine List.pairwise_cons.mpr ⟨fun a ha => ?_, uins_sorted h2⟩
        rcases mem_uins.mp ha with rfl | ha
        · omega
        · exact h1 a ha
theorem usort_sorted : ∀ l : List Int, (usort l).Pairwise (· < ·)
  | [] => by simp [usort]
  | x :: l => uins_sorted (usort_sorted l)
theorem usort_nodup (l : List Int) : (usort l).Nodup := (usort_sorted l).imp fun h => by omega
theorem natAbs_mul_le {a b : Int} {T m n : Nat} (ha : a.natAbs ≤ T ^ m) (hb : b.natAbs ≤ T ^ n) : (a * b).natAbs ≤ T ^ (m + n) := by
  rw [Int.natAbs_mul, Nat.pow_add]
  exact Nat.mul_le_mul ha hb
theorem natAbs_pow_le {a : Int} {T : Nat} (ha : a.natAbs ≤ T) (n : Nat) : (a ^ n).natAbs ≤ T ^ n := by
  rw [Int.natAbs_pow]; exact Nat.pow_le_pow_left ha n
theorem fold_odd : ∀ (cols : List Int) (f : Int → Nat) (o : Nat), cols.foldl (fun o c => o + f c) o = o + (cols.map f).sum
  | [], _, o => by simp
  | c :: cols, f, o => by rw [List.foldl_cons, fold_odd cols f, List.map_cons, List.sum_cons]; omega
theorem half_sum : ∀ (cols : List Int) (g : Int → Nat), 2 * (cols.map fun c => g c / 2).sum + (cols.map fun c => g c % 2).sum = (cols.map g).sum
  | [], _ => rfl
  | c :: cols, g => by
    have := half_sum cols g
    simp only [List.map_cons, List.sum_cons]
    omega
theorem fold_bound {T : Nat} (f : Int → Int) (g : Int → Nat) (hf : ∀ c, (f c).natAbs ≤ T ^ g c) : ∀ (cols : List Int) (w : Int) (m : Nat), w.natAbs ≤ T ^ m → (cols.foldl (fun w c => w * f c) w).natAbs ≤ T ^ (m + (cols.map g).sum)
  | [], w, m, h => by simpa using h
  | c :: cols, w, m, h => by
    rw [List.foldl_cons, List.map_cons, List.sum_cons, ← Nat.add_assoc]
    exact fold_bound f g hf cols _ _ (natAbs_mul_le h (hf c))
theorem worth_bound {T : Nat} (hT : 1 ≤ T) : ∀ (ts : List Int) (heap : List (List Int)), (∀ t ∈ ts, t.natAbs ≤ T) → (worthI ts heap).natAbs ≤ T ^ (heap.length / 2)
  | [], heap, _ => by show 1 ≤ _; exact Nat.pow_pos hT
  | t :: ts, heap, h => by
    by_cases hl : heap.length < 2
    · rw [worthI_small hl]; exact Nat.pow_pos hT
    · rw [worthI_cons hl]
      have ih := fun heap => worth_bound hT ts heap fun t ht => h t (List.mem_cons_of_mem _ ht)
      have h1 := fold_bound (T := T) (fun c => worthI ts (partR c heap)) (fun c => (partR c heap).length / 2) (fun c => ih _) (usort (heap.map hd0)) 1 0 (by simp)
      have h2 : (-t).natAbs ≤ T := by rw [Int.natAbs_neg]; exact h t (List.mem_cons_self ..)
      have h3 := natAbs_mul_le h1 (natAbs_pow_le h2 (((usort (heap.map hd0)).foldl (fun o c => o + (partR c heap).length % 2) 0) / 2))
      refine Nat.le_trans h3 (Nat.pow_le_pow_right hT ?_)
      rw [fold_odd]
      have h4 := half_sum (usort (heap.map hd0)) fun c => (partR c heap).length
      have h5 := parts_le (usort_nodup (heap.map hd0)) heap
      omega
end Mine
end
section
open PySem
namespace Mine
noncomputable abbrev rowD (r : List Int) : D := .list (r.map .int)
noncomputable abbrev heapD (h : List (List Int)) : D := .list (h.map rowD)
theorem room_of {n : Nat} (h : n ≤ 4096) : room n = true := Nat.ble_eq_true_of_le h
section
variable {O : Ops} {G : Prog} {d : Dsc} {σ σ₁ : List S}
theorem e_slc1 {o : E} {xs : List D} {n : Nat} {R : Orc} (h1 : Gives ((run G R (n + 1)).ev o d σ) (.d (.list xs)) σ₁) (h2 : xs.length ≤ 4096) : Gives (evStep G (run G R (n + 1)) (.slc o (some (.int 1)) none) d σ) (.d (.list (xs.drop 1))) σ₁ := by
  refine Gives.bnd h1 (Gives.bnd (a := some (.d (.int 1))) (σ₁ := σ₁) (gives rfl) (Gives.bnd (a := none) (σ₁ := σ₁) (gives rfl) ?_))
  show Gives (match lstOf σ₁ (.d (.list xs)) with | some xs => (match room xs.length with | true => mkList true (cut 1 (Option.getD none xs.length) xs) σ₁ | false => none) | none => none) _ _
  show Gives (match room xs.length with | true => mkList true (cut 1 (Option.getD none xs.length) xs) σ₁ | false => none) _ _
  rw [room_of h2]
  show Gives (mkList true ((xs.take xs.length).drop 1) σ₁) _ _
  rw [List.take_length]
  unfold mkList
  rw [room_of (by rw [List.length_drop]; omega)]
  exact Gives.ok _
theorem e_sortset {a : E} {is : List Int} (h1 : Gives (O.ev a d σ) (.d (.list (is.map .int))) σ₁) (h2 : is.length ≤ 60) : Gives (evStep G O (.sortset a) d σ) (.d (.list ((usort is).map .int))) σ₁ := by
  refine Gives.bnd h1 ?_
  have e : intsOf (is.map .int) = some is := by
    clear h1 h2
    induction is with
    | nil => rfl
    | cons x l ih => show (intsOf (l.map .int)).map (x :: ·) = _; rw [ih]; rfl
  show Gives ((intsOf (is.map .int)).bind fun js => gd (Nat.ble (is.map D.int).length 60) (ok (V.d (.list ((usort js).map .int))) σ₁)) _ _
  rw [e]
  show Gives (gd (Nat.ble (is.map D.int).length 60) _) _ _
  rw [List.length_map, Nat.ble_eq_true_of_le h2]
  exact Gives.ok _
noncomputable def allD : List V → Bool
  | [] => true
  | .d _ :: r => allD r
  | .ref _ :: _ => false
theorem refs_d : ∀ {vs : List V} {k : Nat}, allD vs = true → refsOf vs k = (vs, [])
  | [], _, _ => rfl
  | .d x :: r, k, h => by
    have h' : allD r = true := h
    show (V.d x :: (refsOf r k).1, (refsOf r k).2) = _
    rw [refs_d h']
  | .ref _ :: _, _, h => by cases h
theorem callAt_d {f : Nat} {vs : List V} {x : D} (hd : allD vs = true) (h : Gives (O.call f vs []) (.d x) []) : Gives (callAt O f vs σ) (.d x) σ := by
  unfold callAt
  rw [refs_d hd]
  exact h.bnd (f := fun r σs' => (backS [] σs' σ).bind fun p => retA [] σ r p.1 p.2) (Gives.ok _)
end
/-! [row[0] for row in heap] -/
theorem heads_loop {n : Nat} : ∀ (heap : List (List Int)) (acc : List Int) (v : Option V), (∀ r ∈ heap, 1 ≤ r.length) → acc.length + heap.length ≤ 60 →
    ∃ v', Gives (compL (run prg noOrc (n + 6)) 0 (.loc 0) none (.sub (.loc 0) (.int 0)) ⟨1, []⟩ (heap.map rowD) [.mlist (acc.map .int), .frame [v]]) () [.mlist ((acc ++ heap.map hd0).map .int), .frame [v']]
  | [], acc, v, _, _ => ⟨v, by have e : acc ++ List.map hd0 [] = acc := List.append_nil _; rw [e]; exact p_nil⟩
  | r :: heap, acc, v, h, hl => by
    rw [List.length_cons] at hl
    obtain ⟨v', ih⟩ := heads_loop (n := n) heap (acc ++ [hd0 r]) (some (.d (rowD r))) (fun r hr => h r (List.mem_cons_of_mem _ hr)) (by rw [List.length_append]; simp; omega)
    refine ⟨v', ?_⟩
    have hr := h r (List.mem_cons_self ..)
    have e1 : evSub (.d (rowD r)) (.d (.int (0 : Nat))) [.mlist (acc.map D.int), .frame [some (V.d (rowD r))]] = some (.int (hd0 r)) := by
      rw [evSub_lst, placeOf_nat (by decide)]
      show (r.map D.int)[0]? = _
      rw [List.getElem?_map, List.getElem?_eq_getElem hr]
      show some (D.int r[0]) = some (D.int (r.getD 0 0))
      rw [List.getD_eq_getElem?_getD, List.getElem?_eq_getElem hr]; rfl
    have e2 : (acc ++ [hd0 r]) ++ heap.map hd0 = acc ++ (r :: heap).map hd0 := by simp
    rw [e2] at ih
    refine p_all (σ₁ := [.mlist (acc.map .int), .frame [some (.d (rowD r))]]) (σ₃ := [.mlist (acc.map .int), .frame [some (.d (rowD r))]]) (y := .int (hd0 r)) rfl (e_dat (u (e_sub (x := .d (rowD r)) (y := .d (.int (0 : Nat))) (σ₁ := [.mlist (acc.map .int), .frame [some (.d (rowD r))]]) (gives rfl) (gives rfl) e1))) (p_push (xs := acc.map .int) rfl (room_of (by rw [List.length_map]; omega))) ?_
    rw [List.map_append] at ih
    exact ih
/-! [row[1:] for row in heap if row[0] == column] -/
theorem parts_loop {n : Nat} {c : Int} : ∀ (heap : List (List Int)) (acc : List (List Int)) (v : Option V), (∀ r ∈ heap, 1 ≤ r.length ∧ r.length ≤ 60) → acc.length + heap.length ≤ 60 →
    ∃ v', Gives (compL (run prg noOrc (n + 6)) 1 (.loc 0) (some (.cmp .eq (.sub (.loc 0) (.int 0)) (.cel 0))) (.slc (.loc 0) (some (.int 1)) none) ⟨2, [0]⟩ (heap.map rowD) [.cell (some (.int c)), .mlist (acc.map rowD), .frame [v]]) () [.cell (some (.int c)), .mlist ((acc ++ partR c heap).map rowD), .frame [v']]
  | [], acc, v, _, _ => ⟨v, by rw [show partR c [] = [] from rfl, List.append_nil]; exact p_nil⟩
  | r :: heap, acc, v, h, hl => by
    rw [List.length_cons] at hl
    have hr := h r (List.mem_cons_self ..)
    let σ : List S := [.cell (some (.int c)), .mlist (acc.map rowD), .frame [some (.d (rowD r))]]
    have e1 : evSub (.d (rowD r)) (.d (.int (0 : Nat))) σ = some (.int (hd0 r)) := by
      rw [evSub_lst, placeOf_nat (by decide)]
      show (r.map D.int)[0]? = _
      rw [List.getElem?_map, List.getElem?_eq_getElem hr.1]
      show some (D.int r[0]) = some (D.int (r.getD 0 0))
      rw [List.getD_eq_getElem?_getD, List.getElem?_eq_getElem hr.1]; rfl
    have hp : putX (.loc 0) ⟨2, [0]⟩ (.d (rowD r)) [.cell (some (.int c)), .mlist (acc.map rowD), .frame [v]] = some σ := rfl
    have ht : Gives (tst (run prg noOrc (n + 6)) (.cmp .eq (.sub (.loc 0) (.int 0)) (.cel 0)) ⟨2, [0]⟩ σ) (decide (hd0 r = c)) σ :=
      t_cmp (c_cmp (x := .d (.int (hd0 r))) (y := .d (.int c)) (σ₁ := σ) (u (e_sub (x := .d (rowD r)) (y := .d (.int (0 : Nat))) (σ₁ := σ) (gives rfl) (gives rfl) e1)) (gives rfl) rfl)
    by_cases q : hd0 r = c
    · obtain ⟨v', ih⟩ := parts_loop (n := n) (c := c) heap (acc ++ [r.drop 1]) (some (.d (rowD r))) (fun r hr => h r (List.mem_cons_of_mem _ hr)) (by rw [List.length_append]; simp; omega)
      refine ⟨v', ?_⟩
      have e2 : (acc ++ [r.drop 1]) ++ partR c heap = acc ++ partR c (r :: heap) := by
        unfold partR; rw [List.filter_cons]; simp [q]
      rw [e2] at ih
      rw [decide_eq_true q] at ht
      have hs := u (n := n + 5) (e_slc1 (G := prg) (R := noOrc) (n := n + 4) (d := ⟨2, [0]⟩) (σ := σ) (σ₁ := σ) (o := .loc 0) (xs := r.map .int) (gives rfl) (by rw [List.length_map]; omega))
      rw [← List.map_drop] at hs
      refine p_take hp ht (e_dat hs) (p_push (xs := acc.map rowD) rfl (room_of (by rw [List.length_map]; omega))) ?_
      rw [List.map_append] at ih
      exact ih
    · obtain ⟨v', ih⟩ := parts_loop (n := n) (c := c) heap acc (some (.d (rowD r))) (fun r hr => h r (List.mem_cons_of_mem _ hr)) (by omega)
      refine ⟨v', ?_⟩
      have e2 : partR c (r :: heap) = partR c heap := by
        unfold partR; rw [List.filter_cons]; simp [q]
      rw [e2]
      rw [decide_eq_false q] at ht
      exact p_skip hp ht ih
end Mine
end
section
open PySem
namespace Mine
structure TOk (T : Nat) : Prop where
  one : 1 ≤ T
  mul : ∀ a b : Int, a.natAbs ≤ T ^ 3 → b.natAbs ≤ T ^ 3 → IntMulOk a b
  pow : ∀ a : Int, a.natAbs ≤ T → ∀ n : Nat, n ≤ 3 → (Builtin.Int.intBits a : Int) * n ≤ 134217728
noncomputable def wSt (h : List (List Int)) (ts : List Int) (w o : Option V) (part : Option V) (cl : Option D) : List S := [.frame [some (.d (heapD h)), some (.d (rowD ts)), w, o, part], .cell cl]
noncomputable def bodyW : List T := [.asg (.loc 4) (.comp1 ⟨[Str.ofString "row"], [], [(Str.ofString "column", 0)]⟩ (.loc 0) .val [.loc 0] (some (.cmp .eq (.sub (.loc 0) (.int 0)) (.cel 0))) (.slc (.loc 0) (some (.int 1)) none)), .aug (.loc 3) .add (.bin .mod true (.len (.loc 4)) (.int 2)), .aug (.loc 2) .mul (.call 16 [.loc 4, .slc (.loc 1) (some (.int 1)) none])]
noncomputable abbrev iV (i : Int) : Option V := some (.d (.int i))
theorem w_body {n : Nat} {h : List (List Int)} {t : Int} {ts : List Int} {w o c W : Int} {part : Option V} (hr : ∀ r ∈ h, 1 ≤ r.length ∧ r.length ≤ 60) (hl : h.length ≤ 60) (htl : (t :: ts).length ≤ 60) (hm : IntMulOk w W)
    (hc : Con noOrc (n + 8) 16 [.d (heapD (partR c h)), .d (rowD ts)] [] (.d (.int W)) []) :
    Gives ((run prg noOrc (n + 10)).ex bodyW ⟨0, [1]⟩ (wSt h (t :: ts) (iV w) (iV o) part (some (.int c)))) .next (wSt h (t :: ts) (iV (w * W)) (iV (o + ((partR c h).length % 2 : Nat))) (some (.d (heapD (partR c h)))) (some (.int c))) := by
  obtain ⟨v', hp⟩ := parts_loop (n := n + 2) (c := c) h [] none hr (by simpa using hl)
  let σ := wSt h (t :: ts) (iV w) (iV o) part (some (.int c))
  let σ₁ := wSt h (t :: ts) (iV w) (iV o) (some (.d (heapD (partR c h)))) (some (.int c))
  let σ₂ := wSt h (t :: ts) (iV w) (iV (o + ((partR c h).length % 2 : Nat))) (some (.d (heapD (partR c h)))) (some (.int c))
  have hpl : (partR c h).length ≤ 60 := Nat.le_trans partOf_len_le hl
  have h1 : Gives (exT (run prg noOrc (n + 9)) (.asg (.loc 4) (.comp1 ⟨[Str.ofString "row"], [], [(Str.ofString "column", 0)]⟩ (.loc 0) .val [.loc 0] (some (.cmp .eq (.sub (.loc 0) (.int 0)) (.cel 0))) (.slc (.loc 0) (some (.int 1)) none))) ⟨0, [1]⟩ σ) .next σ₁ :=
    x_asg (v := .d (heapD (partR c h))) (σ₁ := σ) (u (e_comp1 (vs := [.d (heapD h)]) (items := h.map rowD) (js := [1]) (fs := [.cell (some (.int c))]) (σ₁ := σ) (v_cons (gives rfl) v_nil) rfl rfl rfl hp rfl)) rfl
  have h2 : Gives (exT (run prg noOrc (n + 9)) (.aug (.loc 3) .add (.bin .mod true (.len (.loc 4)) (.int 2))) ⟨0, [1]⟩ σ₁) .next σ₂ := by
    have e : ((((partR c h).map rowD).length : Nat) : Int).fmod 2 = (((partR c h).length % 2 : Nat) : Int) := by
      rw [List.length_map, Int.fmod_eq_emod_of_nonneg _ (by decide)]; rfl
    refine x_aug (i := o) (j := (((partR c h).length % 2 : Nat) : Int)) (r := o + ((partR c h).length % 2 : Nat)) (σ₁ := σ₁) (σ₂ := σ₁) rfl ?_ (gives rfl) rfl
    rw [← e]
    exact u (e_bin (x := .d (.int (((partR c h).map rowD).length : Nat))) (y := .d (.int 2)) (σ₁ := σ₁) (σ₂ := σ₁) (u (e_len (x := .d (heapD (partR c h))) (gives rfl) rfl (room_of (by rw [List.length_map]; omega)))) (gives rfl) (gives rfl))
  have h3 : Gives (exT (run prg noOrc (n + 9)) (.aug (.loc 2) .mul (.call 16 [.loc 4, .slc (.loc 1) (some (.int 1)) none])) ⟨0, [1]⟩ σ₂) .next (wSt h (t :: ts) (iV (w * W)) (iV (o + ((partR c h).length % 2 : Nat))) (some (.d (heapD (partR c h)))) (some (.int c))) := by
    have hs := u (n := n + 7) (e_slc1 (G := prg) (R := noOrc) (n := n + 6) (d := ⟨0, [1]⟩) (σ := σ₂) (σ₁ := σ₂) (o := .loc 1) (xs := (t :: ts).map .int) (gives rfl) (by rw [List.length_map]; omega))
    exact x_aug (i := w) (j := W) (r := w * W) (σ₁ := σ₂) (σ₂ := σ₂) rfl (u (e_call (vs := [.d (heapD (partR c h)), .d (rowD ts)]) (σ₁ := σ₂) (v_cons (gives rfl) (v_cons hs v_nil)) (callAt_d rfl hc))) (gives_ob (ob := [.mul w W]) rfl (AllOk.cons hm .nil)) rfl
  exact ux (x_cons h1 (x_cons h2 (x_cons h3 x_nil)))
theorem w_loop {n : Nat} {h : List (List Int)} {t : Int} {ts : List Int} {T : Nat} (hT : TOk T) (hr : ∀ r ∈ h, 1 ≤ r.length ∧ r.length ≤ 60) (hl : h.length ≤ 60) (htl : (t :: ts).length ≤ 60) (ht : ∀ x ∈ ts, x.natAbs ≤ T)
    (hc : ∀ c, Con noOrc (n + 8) 16 [.d (heapD (partR c h)), .d (rowD ts)] [] (.d (.int (worthI ts (partR c h)))) []) :
    ∀ (cols : List Int) (w o : Int) (m : Nat) (part : Option V) (cl : Option D), w.natAbs ≤ T ^ m → m + (cols.map fun c => (partR c h).length / 2).sum ≤ 3 →
      ∃ part' cl', Gives (forL (run prg noOrc (n + 10)) [.cel 0] false bodyW ⟨0, [1]⟩ (cols.map .int) (wSt h (t :: ts) (iV w) (iV o) part cl)) .next (wSt h (t :: ts) (iV (cols.foldl (fun w c => w * worthI ts (partR c h)) w)) (iV (o + ((cols.map fun c => (partR c h).length % 2).sum : Nat))) part' cl')
  | [], w, o, m, part, cl, _, _ => ⟨part, cl, by
      have e : (o + (([] : List Int).map fun c => (partR c h).length % 2).sum : Int) = o := by simp
      show Gives _ _ (wSt h (t :: ts) (iV w) (iV (o + _)) part cl)
      rw [e]; exact l_nil⟩
  | c :: cols, w, o, m, part, cl, hw, hm => by
    rw [List.map_cons, List.sum_cons] at hm
    have hb := worth_bound hT.one ts (partR c h) ht
    have hmul : IntMulOk w (worthI ts (partR c h)) := hT.mul _ _ (Nat.le_trans hw (Nat.pow_le_pow_right hT.one (by omega))) (Nat.le_trans hb (Nat.pow_le_pow_right hT.one (by omega)))
    obtain ⟨p', c', ih⟩ := w_loop (n := n) (t := t) hT hr hl htl ht hc cols (w * worthI ts (partR c h)) (o + ((partR c h).length % 2 : Nat)) (m + (partR c h).length / 2) (some (.d (heapD (partR c h)))) (some (.int c)) (natAbs_mul_le hw hb) (by omega)
    refine ⟨p', c', ?_⟩
    have e : (o + ((partR c h).length % 2 : Nat) + ((cols.map fun c => (partR c h).length % 2).sum : Nat) : Int) = o + (((c :: cols).map fun c => (partR c h).length % 2).sum : Nat) := by
      rw [List.map_cons, List.sum_cons, Int.natCast_add]; omega
    rw [e] at ih
    exact l_cons (σ₁ := wSt h (t :: ts) (iV w) (iV o) part (some (.int c))) rfl (w_body hr hl htl hmul (hc c)) ih
theorem w_tst {n : Nat} {h : List (List Int)} {ts : List Int} (hl : h.length ≤ 60) : Gives (tst (run prg noOrc (n + 5)) (.cmp .lt (.len (.loc 0)) (.int 2)) ⟨0, [1]⟩ (wSt h ts none none none none)) (decide ((((h.map rowD).length : Nat) : Int) < 2)) (wSt h ts none none none none) :=
  t_cmp (c_cmp (x := .d (.int ((h.map rowD).length : Nat))) (y := .d (.int 2)) (σ₁ := wSt h ts none none none none) (u (e_len (x := .d (heapD h)) (gives rfl) rfl (room_of (by rw [List.length_map]; omega)))) (gives rfl) rfl)
theorem w_small {n : Nat} {h : List (List Int)} {ts : List Int} (hs : h.length < 2) : Con noOrc (n + 8) 16 [.d (heapD h), .d (rowD ts)] [] (.d (.int 1)) [] := by
  have e1 := w_tst (n := n + 1) (h := h) (ts := ts) (by omega)
  have e2 : decide ((((h.map rowD).length : Nat) : Int) < 2) = true := by rw [List.length_map]; exact decide_eq_true (by omega)
  rw [e2] at e1
  exact g_call (fl := .ret (.d (.int 1))) rfl rfl rfl (ux (x_ret' (x_ite e1 (gives rfl)))) (gives rfl)
theorem part_len {c : Int} {h : List (List Int)} {k : Nat} (hr : ∀ r ∈ h, r.length = k + 1) : ∀ r ∈ partR c h, r.length = k := by
  intro r hm
  obtain ⟨r', h1, rfl⟩ := List.mem_map.mp hm
  rw [List.length_drop, hr r' (List.mem_filter.mp h1).1]; omega
theorem part_nodup {c : Int} : ∀ {h : List (List Int)}, (∀ r ∈ h, 1 ≤ r.length) → h.Nodup → (partR c h).Nodup
  | [], _, _ => List.nodup_nil
  | r :: h, hr, hn => by
    obtain ⟨n1, n2⟩ := List.nodup_cons.mp hn
    have ih := part_nodup (c := c) (h := h) (fun r hr' => hr r (List.mem_cons_of_mem _ hr')) n2
    unfold partR
    rw [List.filter_cons]
    by_cases q : hd0 r = c
    · simp only [q, decide_true, if_true, List.map_cons]
      refine List.nodup_cons.mpr ⟨fun hm => n1 ?_, ih⟩
      obtain ⟨r', h1, h2⟩ := List.mem_map.mp hm
      obtain ⟨h3, h4⟩ := List.mem_filter.mp h1
      have q' : hd0 r' = c := by simpa using h4
      have l1 := hr r (List.mem_cons_self ..)
      have l2 := hr r' (List.mem_cons_of_mem _ h3)
      have : r' = r := by
        cases r with
        | nil => simp at l1
        | cons a r =>
          cases r' with
          | nil => simp at l2
          | cons b r' =>
            have e1 : a = c := q
            have e2 : b = c := q'
            have e3 : r' = r := h2
            rw [e1, e2, e3]
      rw [← this]; exact h3
    · simp only [q, decide_false]
      exact ih
theorem con16 {n T : Nat} (hT : TOk T) : ∀ (ts : List Int) (h : List (List Int)), ts.length ≤ 50 → h.length ≤ 6 → (∀ r ∈ h, r.length = ts.length) → h.Nodup → (∀ x ∈ ts, x.natAbs ≤ T) →
    Con noOrc (n + 4 * ts.length + 14) 16 [.d (heapD h), .d (rowD ts)] [] (.d (.int (worthI ts h))) []
  | [], h, _, _, hr, hn, _ => by
    have hs : h.length < 2 := by
      match h, hr, hn with
      | [], _, _ => exact Nat.zero_lt_two
      | [_], _, _ => exact Nat.one_lt_two
      | a :: b :: l, hr, hn =>
        exfalso
        have h1 : a = [] := List.eq_nil_of_length_eq_zero (hr a (by simp))
        have h2 : b = [] := List.eq_nil_of_length_eq_zero (hr b (by simp))
        subst h1 h2
        simp at hn
    rw [worthI_small hs]
    exact w_small (n := n + 6) hs
  | t :: ts, h, htl, hl, hr, hn, ht => by
    by_cases hs : h.length < 2
    · rw [worthI_small hs]
      exact w_small (n := n + 4 * ts.length + 10) hs
    · rw [List.length_cons] at htl hr
      have ih : ∀ c, Con noOrc (n + 4 * ts.length + 14) 16 [.d (heapD (partR c h)), .d (rowD ts)] [] (.d (.int (worthI ts (partR c h)))) [] := fun c =>
        con16 hT ts (partR c h) (by omega) (Nat.le_trans partOf_len_le hl) (part_len hr) (part_nodup (fun r hm => by rw [hr r hm]; omega) hn) fun x hx => ht x (List.mem_cons_of_mem _ hx)
      have e1 := w_tst (n := n + 4 * ts.length + 11) (h := h) (ts := t :: ts) (by omega)
      have e2 : decide ((((h.map rowD).length : Nat) : Int) < 2) = false := by rw [List.length_map]; exact decide_eq_false (by omega)
      rw [e2] at e1
      have hr1 : ∀ r ∈ h, 1 ≤ r.length ∧ r.length ≤ 60 := fun r hm => by rw [hr r hm]; omega
      have htb : ∀ x ∈ ts, x.natAbs ≤ T := fun x hx => ht x (List.mem_cons_of_mem _ hx)
      have h4 := half_sum (usort (h.map hd0)) fun c => (partR c h).length
      have h5 := parts_le (usort_nodup (h.map hd0)) h
      obtain ⟨p', c', hlp⟩ := w_loop (n := n + 4 * ts.length + 6) (t := t) hT hr1 (by omega) (by rw [List.length_cons]; omega) htb ih (usort (h.map hd0)) 1 0 0 none none (by simp) (by omega)
      obtain ⟨v', hh⟩ := heads_loop (n := n + 4 * ts.length + 8) h [] none (fun r hm => (hr1 r hm).1) (by simp; omega)
      let σ := wSt h (t :: ts) (iV 1) (iV 0) none none
      let W := (usort (h.map hd0)).foldl (fun w c => w * worthI ts (partR c h)) 1
      let o : Nat := ((usort (h.map hd0)).map fun c => (partR c h).length % 2).sum
      have hf := fold_bound (T := T) (fun c => worthI ts (partR c h)) (fun c => (partR c h).length / 2) (fun c => worth_bound hT.one ts _ htb) (usort (h.map hd0)) 1 0 (by simp)
      have hW : W.natAbs ≤ T ^ 3 := Nat.le_trans hf (Nat.pow_le_pow_right hT.one (by omega))
      have ho3 : o / 2 ≤ 3 := by show (List.sum _) / 2 ≤ 3; omega
      have htt : (-t).natAbs ≤ T := by rw [Int.natAbs_neg]; exact ht t (List.mem_cons_self ..)
      let τ := wSt h (t :: ts) (iV W) (iV (0 + (o : Int))) p' c'
      have eo : (0 + (o : Int)).fdiv 2 = ((o / 2 : Nat) : Int) := by rw [Int.zero_add, Int.fdiv_eq_ediv_of_nonneg _ (by decide)]; rfl
      have x3 : Gives (exT (run prg noOrc (n + 4 * ts.length + 16)) (.for1 [.cel 0] false .val [.sortset (.comp1 ⟨[Str.ofString "row"], [], []⟩ (.loc 0) .val [.loc 0] none (.sub (.loc 0) (.int 0)))] bodyW) ⟨0, [1]⟩ σ) .next τ := by
        refine x_for (vs := [.d (rowD (usort (h.map hd0)))]) (items := (usort (h.map hd0)).map .int) (lk := none) (σ₁ := σ) (v_cons (u (e_sortset ?_ (by rw [List.length_map]; omega))) v_nil) rfl hlp
        exact u (e_comp1 (vs := [.d (heapD h)]) (items := h.map rowD) (js := []) (fs := []) (σ₁ := σ) (v_cons (gives rfl) v_nil) rfl rfl rfl hh rfl)
      have xt : evSub (.d (rowD (t :: ts))) (.d (.int (0 : Nat))) τ = some (.int t) := by
        rw [evSub_lst, placeOf_nat (by decide)]; rfl
      have x4 : Gives ((run prg noOrc (n + 4 * ts.length + 16)).ev (.bin .mul true (.loc 2) (.bin .pow true (.neg (.sub (.loc 1) (.int 0))) (.bin .fdiv true (.loc 3) (.int 2)))) ⟨0, [1]⟩ τ) (.d (.int (W * (-t) ^ (o / 2)))) τ := by
        refine u (e_bin (x := .d (.int W)) (y := .d (.int ((-t) ^ (o / 2)))) (σ₁ := τ) (σ₂ := τ) (gives rfl) (u (e_bin (x := .d (.int (-t))) (y := .d (.int ((o / 2 : Nat) : Int))) (σ₁ := τ) (σ₂ := τ) (u (e_neg (u (e_sub (x := .d (rowD (t :: ts))) (y := .d (.int (0 : Nat))) (σ₁ := τ) (gives rfl) (gives rfl) xt)))) ?_ ?_)) ?_)
        · rw [← eo]
          exact u (e_bin (x := .d (.int (0 + (o : Int)))) (y := .d (.int 2)) (σ₁ := τ) (σ₂ := τ) (gives rfl) (gives rfl) (gives rfl))
        · exact gives_ob (ob := [.pow (-t) ((o / 2 : Nat) : Int)]) rfl (AllOk.cons ⟨Int.natCast_nonneg _, hT.pow _ htt _ ho3⟩ .nil)
        · exact gives_ob (ob := [.mul W ((-t) ^ (o / 2))]) rfl (AllOk.cons (hT.mul _ _ hW (Nat.le_trans (natAbs_pow_le htt _) (Nat.pow_le_pow_right hT.one ho3))) .nil)
      have ew : worthI (t :: ts) h = W * (-t) ^ (o / 2) := by
        rw [worthI_cons hs, fold_odd, Nat.zero_add]
      rw [ew]
      exact g_call (fl := .ret (.d (.int (W * (-t) ^ (o / 2))))) (σ₁ := τ) rfl rfl rfl (ux (x_cons (σ₁ := wSt h (t :: ts) none none none none) (x_ite e1 (gives rfl)) (x_cons (σ₁ := wSt h (t :: ts) (iV 1) none none none) (gives rfl) (x_cons (σ₁ := σ) (gives rfl) (x_cons x3 (x_ret' (x_ret x4))))))) (gives rfl)
end Mine
end
section
open PySem
namespace Mine
noncomputable def pfC (w : Nat → Nat → Int) : Int := ((((((0 + (((((1 * (w 0 1)) * (w 2 3)) + ((-(1 * (w 0 2))) * (w 1 3))) + ((1 * (w 0 3)) * (w 1 2))) * (w 4 5))) + ((((-((1 * (w 0 1)) * (w 2 4))) + (-((-(1 * (w 0 2))) * (w 1 4)))) + ((-(1 * (w 0 4))) * (w 1 2))) * (w 3 5))) + (((((1 * (w 0 1)) * (w 2 5)) + ((-(1 * (w 0 2))) * (w 1 5))) + ((1 * (w 0 5)) * (w 1 2))) * (w 3 4))) + (((-((1 * (w 0 3)) * (w 1 4))) + (-((-(1 * (w 0 4))) * (w 1 3)))) * (w 2 5))) + ((((1 * (w 0 3)) * (w 1 5)) + (-((1 * (w 0 5)) * (w 1 3)))) * (w 2 4))) + ((((-(1 * (w 0 4))) * (w 1 5)) + ((1 * (w 0 5)) * (w 1 4))) * (w 2 3)))
noncomputable def pfObs (w : Nat → Nat → Int) : List OB := [.len 2, .mul 1 (w 0 1), .len 4, .len 2, .mul 1 (w 0 2), .len 4, .len 2, .mul 1 (w 0 3), .len 4, .len 2, .mul 1 (w 0 4), .len 4, .len 2, .mul 1 (w 0 5), .len 4, .len 2, .mul (1 * (w 0 1)) (w 2 3), .len 2, .len 2, .mul (1 * (w 0 1)) (w 2 4), .len 2, .len 2, .mul (1 * (w 0 1)) (w 2 5), .len 2, .len 2, .mul (-(1 * (w 0 2))) (w 1 3), .len 2, .len 2, .mul (-(1 * (w 0 2))) (w 1 4), .len 2, .len 2, .mul (-(1 * (w 0 2))) (w 1 5), .len 2, .len 2, .mul (1 * (w 0 3)) (w 1 2), .len 2, .len 2, .mul (1 * (w 0 3)) (w 1 4), .len 2, .len 2, .mul (1 * (w 0 3)) (w 1 5), .len 2, .len 2, .mul (-(1 * (w 0 4))) (w 1 2), .len 2, .len 2, .mul (-(1 * (w 0 4))) (w 1 3), .len 2, .len 2, .mul (-(1 * (w 0 4))) (w 1 5), .len 2, .len 2, .mul (1 * (w 0 5)) (w 1 2), .len 2, .len 2, .mul (1 * (w 0 5)) (w 1 3), .len 2, .len 2, .mul (1 * (w 0 5)) (w 1 4), .len 2, .mul (((-(1 * (w 0 4))) * (w 1 5)) + ((1 * (w 0 5)) * (w 1 4))) (w 2 3), .mul (((1 * (w 0 3)) * (w 1 5)) + (-((1 * (w 0 5)) * (w 1 3)))) (w 2 4), .mul ((-((1 * (w 0 3)) * (w 1 4))) + (-((-(1 * (w 0 4))) * (w 1 3)))) (w 2 5), .mul ((((1 * (w 0 1)) * (w 2 5)) + ((-(1 * (w 0 2))) * (w 1 5))) + ((1 * (w 0 5)) * (w 1 2))) (w 3 4), .mul (((-((1 * (w 0 1)) * (w 2 4))) + (-((-(1 * (w 0 2))) * (w 1 4)))) + ((-(1 * (w 0 4))) * (w 1 2))) (w 3 5), .mul ((((1 * (w 0 1)) * (w 2 3)) + ((-(1 * (w 0 2))) * (w 1 3))) + ((1 * (w 0 3)) * (w 1 2))) (w 4 5)]
noncomputable def toldD (w : Nat → Nat → Int) : List (List Nat × D) := [([97, 97], .int (w 0 0)), ([97, 98], .int (w 0 1)), ([97, 99], .int (w 0 2)), ([97, 100], .int (w 0 3)), ([97, 101], .int (w 0 4)), ([97, 102], .int (w 0 5)), ([98, 98], .int (w 1 1)), ([98, 99], .int (w 1 2)), ([98, 100], .int (w 1 3)), ([98, 101], .int (w 1 4)), ([98, 102], .int (w 1 5)), ([99, 99], .int (w 2 2)), ([99, 100], .int (w 2 3)), ([99, 101], .int (w 2 4)), ([99, 102], .int (w 2 5)), ([100, 100], .int (w 3 3)), ([100, 101], .int (w 3 4)), ([100, 102], .int (w 3 5)), ([101, 101], .int (w 4 4)), ([101, 102], .int (w 4 5)), ([102, 102], .int (w 5 5))]
theorem pair_run (n : Nat) (w : Nat → Nat → Int) : (run prg noOrc (n + 40)).call 17 [.ref 0] [.mdict false (toldD w)] = some (.d (.int (pfC w)), [.mdict false (toldD w)], pfObs w) := by kernel_rfl!
end Mine
end
section
open PySem
namespace Mine
section
variable {G : Prog} {O : Ops} {d : Dsc} {σ σ₁ σ₂ σ₃ : List S}
theorem e_meth {m f c : Nat} {o : E} {as : List E} {fs : List (Nat × D)} {ms : List (Nat × Nat)} {vs : List V} {x : D} (h1 : Gives (O.ev o d σ) (.d (.inst c fs)) σ₁) (h2 : Gives (evs O d as σ₁) vs σ₂) (h3 : G.meths[c]? = some ms) (h4 : lookNN m ms = some f) (h5 : allD vs = true)
    (h6 : Gives (O.call f (.d (.inst c fs) :: vs) []) (.d x) []) : Gives (evStep G O (.meth m o as) d σ) (.d x) σ₂ := by
  refine Gives.bnd h1 (Gives.bnd h2 ?_)
  show Gives ((G.meths[c]?).bind fun ms => (lookNN m ms).bind fun f => callAt O f (.d (.inst c fs) :: vs) σ₂) _ _
  rw [h3]
  show Gives ((lookNN m ms).bind fun f => callAt O f (.d (.inst c fs) :: vs) σ₂) _ _
  rw [h4]
  exact callAt_d (by exact h5) h6
theorem e_max2 {a b : E} {i j : Int} (h1 : Gives (O.ev a d σ) (.d (.int i)) σ₁) (h2 : Gives (O.ev b d σ₁) (.d (.int j)) σ₂) : Gives (evStep G O (.max2 a b) d σ) (.d (.int (if i < j then j else i))) σ₂ :=
  Gives.bnd h1 (Gives.bnd h2 (Gives.ok _))
theorem e_append {o v : E} {n : Nat} {xs : List D} {y : D} (h1 : Gives (O.ev o d σ) (.ref n) σ₁) (h2 : σ₁[n]? = some (.mlist xs)) (h3 : Gives (evD O v d σ₁) y σ₂) (h4 : Gives (pushAt n y σ₂) () σ₃) : Gives (evStep G O (.append o v) d σ) (.d .none) σ₃ := by
  refine Gives.bnd h1 ?_
  show Gives ((lisA σ₁ n).bind fun _ => bnd (evD O v d σ₁) fun y σ => bnd (pushAt n y σ) fun _ σ => ok (V.d .none) σ) _ _
  rw [lis_at h2]
  exact Gives.bnd h3 (Gives.bnd h4 (Gives.ok _))
theorem e_tup {xs : List E} {vs : List V} {ds : List D} (h1 : Gives (evs O d xs σ) vs σ₁) (h2 : dats vs = some ds) (h3 : room ds.length = true) : Gives (evStep G O (.tup xs) d σ) (.d (.tup ds)) σ₁ := by
  refine Gives.bnd h1 ?_
  show Gives ((dats vs).bind fun ds => gd (room ds.length) (ok (V.d (.tup ds)) σ₁)) _ _
  rw [h2]
  show Gives (gd (room ds.length) (ok (V.d (.tup ds)) σ₁)) _ _
  rw [h3]
  exact Gives.ok _
end
noncomputable def eqN (la lb : Nat) : Bool := D.eqv (NORM la) (NORM lb)
theorem con11 {n la lb : Nat} (ha : la < 40) (hb : lb < 40) (ra rb : List Nat) : Con noOrc (n + 14) 11 [.d (.inst 1 (WF la ra)), .d (.inst 1 (WF lb rb))] [] (.d (.bool (eqN la lb))) [] := by
  have e : evCmp .eq (.d (NORM la)) (.d (NORM lb)) [.frame [some (.d (.inst 1 (WF la ra))), some (.d (.inst 1 (WF lb rb)))]] = some (eqN la lb) := by
    have h1 := all40_at cNorm ha
    have h2 := all40_at cNorm hb
    unfold plainN at h1 h2
    show (match plainL [.tup ((cntT.getD la []).map .int), .int (trT.getD la 0)], plainL [.tup ((cntT.getD lb []).map .int), .int (trT.getD lb 0)] with
      | true, true => some (D.eqvs [.tup ((cntT.getD la []).map .int), .int (trT.getD la 0)] [.tup ((cntT.getD lb []).map .int), .int (trT.getD lb 0)])
      | _, _ => none) = _
    have h1' : plainL [.tup ((cntT.getD la []).map .int), .int (trT.getD la 0)] = true := h1
    have h2' : plainL [.tup ((cntT.getD lb []).map .int), .int (trT.getD lb 0)] = true := h2
    rw [h1', h2']
    rfl
  exact g_call (fl := .ret (.d (.bool (eqN la lb)))) rfl rfl rfl (ux (x_ret' (x_ret (u (e_cmp (c_cmp (x := .d (NORM la)) (y := .d (NORM lb)) (gives rfl) (gives rfl) e)))))) (gives rfl)
noncomputable def LN (l : Nat) : Nat := (LNG l).toNat
noncomputable def lnOk (l : Nat) : Bool := decide (LNG l = (LN l : Int)) && Nat.ble (LN l) 3
theorem cLN : all40 lnOk = true := by kernel_rfl!
theorem LN_of {l : Nat} (h : l < 40) : LNG l = (LN l : Int) ∧ LN l ≤ 3 := by
  have := all40_at cLN h
  unfold lnOk at this
  obtain ⟨h1, h2⟩ := Bool.and_eq_true_iff.mp this
  exact ⟨of_decide_eq_true h1, Nat.le_of_ble_eq_true h2⟩
noncomputable def witE (la lb s : Nat) : D := .tup [.int (s + 1 : Nat), .int (COL la s), .int (COL lb s)]
noncomputable def witL (la lb : Nat) (ss : List Nat) : List D := (ss.filter fun s => decide (COL la s ≠ COL lb s)).map (witE la lb)
noncomputable def mxN (la lb : Nat) : Nat := (if LN la < LN lb then LN lb else LN la) + 1
noncomputable def nSt (la lb : Nat) (ra rb : List Nat) (n : Option V) (ts : Option V) (acc : List D) : List S := [.frame [some (.d (.inst 1 (WF la ra))), some (.d (.inst 1 (WF lb rb))), n, some (.ref 1), ts], .mlist acc]
noncomputable def bodyN : List T := [.ite (.cmp .ne (.meth 2 (.loc 0) [.loc 4]) (.meth 2 (.loc 1) [.loc 4])) [.exp (.append (.loc 3) (.tup [.loc 4, .meth 2 (.loc 0) [.loc 4], .meth 2 (.loc 1) [.loc 4]]))] []]
theorem nev {a b : Int} {σ : List S} : evCmp .ne (.d (.int a)) (.d (.int b)) σ = some (!decide (a = b)) := rfl
noncomputable abbrev iVd (n : Nat) : Option V := some (.d (.int (n : Nat)))
theorem wit_body {n la lb : Nat} {ra rb : List Nat} (ha : la < 40) (hb : lb < 40) {nv : Option V} {s : Nat} {acc : List D} (hs : s < 4) (hacc : acc.length ≤ 100) :
    Gives ((run prg noOrc (n + 24)).ex bodyN ⟨0, []⟩ (nSt la lb ra rb nv (iVd (s + 1)) acc)) .next (nSt la lb ra rb nv (iVd (s + 1)) (if COL la s = COL lb s then acc else acc ++ [witE la lb s])) := by
  let σ := nSt la lb ra rb nv (iVd (s + 1)) acc
  have m1 : ∀ k, Gives ((run prg noOrc (n + k + 16)).ev (.meth 2 (.loc 0) [.loc 4]) ⟨0, []⟩ σ) (.d (.int (COL la s))) σ := fun k =>
    u (e_meth (f := 10) (c := 1) (fs := WF la ra) (vs := [.d (.int (s + 1 : Nat))]) (σ₁ := σ) (gives rfl) (v_cons (gives rfl) v_nil) rfl rfl rfl (con10 (n := n + k + 1) ra ha hs))
  have m2 : ∀ k, Gives ((run prg noOrc (n + k + 16)).ev (.meth 2 (.loc 1) [.loc 4]) ⟨0, []⟩ σ) (.d (.int (COL lb s))) σ := fun k =>
    u (e_meth (f := 10) (c := 1) (fs := WF lb rb) (vs := [.d (.int (s + 1 : Nat))]) (σ₁ := σ) (gives rfl) (v_cons (gives rfl) v_nil) rfl rfl rfl (con10 (n := n + k + 1) rb hb hs))
  have t1 : Gives (tst (run prg noOrc (n + 23)) (.cmp .ne (.meth 2 (.loc 0) [.loc 4]) (.meth 2 (.loc 1) [.loc 4])) ⟨0, []⟩ σ) (!decide (COL la s = COL lb s)) σ := t_cmp (c_cmp (m1 7) (m2 7) nev)
  by_cases q : COL la s = COL lb s
  · rw [if_pos q]
    rw [decide_eq_true q] at t1
    exact ux (x_cons (x_ite t1 (gives rfl)) x_nil)
  · rw [if_neg q]
    rw [decide_eq_false q] at t1
    refine ux (x_cons (x_ite t1 (ux (x_cons (x_exp (u (e_append (n := 1) (xs := acc) (σ₁ := σ) (σ₂ := σ) (gives rfl) rfl (e_dat (u (e_tup (vs := [.d (.int (s + 1 : Nat)), .d (.int (COL la s)), .d (.int (COL lb s))]) (v_cons (gives rfl) (v_cons (m1 4) (v_cons (m2 4) v_nil))) rfl rfl))) (p_push (xs := acc) rfl (room_of (by omega)))))) x_nil))) x_nil)
end Mine
end
section
open PySem
namespace Mine
theorem witL_cons (la lb s : Nat) (ss : List Nat) (acc : List D) : acc ++ witL la lb (s :: ss) = (if COL la s = COL lb s then acc else acc ++ [witE la lb s]) ++ witL la lb ss := by
  unfold witL
  by_cases q : COL la s = COL lb s
  · rw [List.filter_cons]; simp [q]
  · rw [List.filter_cons]; simp [q]
theorem wit_loop {n la lb : Nat} {ra rb : List Nat} (ha : la < 40) (hb : lb < 40) {nv : Option V} : ∀ (ss : List Nat) (acc : List D) (ts : Option V), (∀ s ∈ ss, s < 4) → acc.length + ss.length ≤ 100 →
    ∃ ts', Gives (forL (run prg noOrc (n + 24)) [.loc 4] false bodyN ⟨0, []⟩ (ss.map fun s => D.int (s + 1 : Nat)) (nSt la lb ra rb nv ts acc)) .next (nSt la lb ra rb nv ts' (acc ++ witL la lb ss))
  | [], acc, ts, _, _ => ⟨ts, by rw [show witL la lb [] = [] from rfl, List.append_nil]; exact l_nil⟩
  | s :: ss, acc, ts, h, hl => by
    rw [List.length_cons] at hl
    have hle : (if COL la s = COL lb s then acc else acc ++ [witE la lb s]).length + ss.length ≤ 100 := by
      split
      · omega
      · rw [List.length_append, List.length_singleton]; omega
    obtain ⟨ts', ih⟩ := wit_loop (n := n) (ra := ra) (rb := rb) ha hb (nv := nv) ss (if COL la s = COL lb s then acc else acc ++ [witE la lb s]) (iVd (s + 1)) (fun x hx => h x (List.mem_cons_of_mem _ hx)) hle
    refine ⟨ts', ?_⟩
    rw [witL_cons]
    exact l_cons (σ₁ := nSt la lb ra rb nv (iVd (s + 1)) acc) rfl (wit_body ha hb (h s (List.mem_cons_self ..)) (by omega)) ih
theorem rangeD_one (n : Nat) : rangeD 1 ((n : Int) + 1) = (List.range n).map fun s => D.int (s + 1 : Nat) := by
  unfold rangeD
  have : ((n : Int) + 1 - 1).toNat = n := by omega
  rw [this]
  refine List.map_congr_left fun s _ => ?_
  have : (1 : Int) + (s : Int) = ((s + 1 : Nat) : Int) := by omega
  rw [this]
theorem con12 {n la lb : Nat} (ha : la < 40) (hb : lb < 40) (ra rb : List Nat) : Con noOrc (n + 30) 12 [.d (.inst 1 (WF la ra)), .d (.inst 1 (WF lb rb))] [] (.d (.list (witL la lb (List.range (mxN la lb))))) [] := by
  obtain ⟨e1, l1⟩ := LN_of ha
  obtain ⟨e2, l2⟩ := LN_of hb
  have hm : mxN la lb ≤ 4 := by unfold mxN; split <;> omega
  let N : Option V := some (.d (.int (mxN la lb : Nat)))
  let σ0 : List S := [.frame [some (.d (.inst 1 (WF la ra))), some (.d (.inst 1 (WF lb rb))), none, none, none]]
  let σ1 : List S := [.frame [some (.d (.inst 1 (WF la ra))), some (.d (.inst 1 (WF lb rb))), N, none, none]]
  obtain ⟨ts', hl⟩ := wit_loop (n := n + 4) (ra := ra) (rb := rb) ha hb (nv := N) (List.range (mxN la lb)) [] none (fun s hs => by have := List.mem_range.mp hs; omega) (by simp; omega)
  have m1 : Gives ((run prg noOrc (n + 26)).ev (.meth 1 (.loc 0) []) ⟨0, []⟩ σ0) (.d (.int (LNG la))) σ0 := u (e_meth (f := 9) (c := 1) (fs := WF la ra) (vs := []) (σ₁ := σ0) (gives rfl) v_nil rfl rfl rfl (con9 (n := n + 11) ra ha))
  have m2 : Gives ((run prg noOrc (n + 26)).ev (.meth 1 (.loc 1) []) ⟨0, []⟩ σ0) (.d (.int (LNG lb))) σ0 := u (e_meth (f := 9) (c := 1) (fs := WF lb rb) (vs := []) (σ₁ := σ0) (gives rfl) v_nil rfl rfl rfl (con9 (n := n + 11) rb hb))
  have em : (if LNG la < LNG lb then LNG lb else LNG la) + 1 = ((mxN la lb : Nat) : Int) := by
    rw [e1, e2]; unfold mxN
    by_cases q : LN la < LN lb
    · rw [if_pos q, if_pos (by omega)]; omega
    · rw [if_neg q, if_neg (by omega)]; omega
  have s0 : Gives (exT (run prg noOrc (n + 28)) (.asg (.loc 2) (.bin .add true (.max2 (.meth 1 (.loc 0) []) (.meth 1 (.loc 1) [])) (.int 1))) ⟨0, []⟩ σ0) .next σ1 := by
    refine x_asg (v := .d (.int (mxN la lb : Nat))) (σ₁ := σ0) (u (e_bin (x := .d (.int (if LNG la < LNG lb then LNG lb else LNG la))) (y := .d (.int 1)) (σ₁ := σ0) (σ₂ := σ0) (u (e_max2 m1 m2)) (gives rfl) ?_)) rfl
    rw [← em]
    exact gives rfl
  have hi : iterOf .range [.d (.int 1), .d (.int ((mxN la lb : Nat) + 1))] (nSt la lb ra rb N none []) = some ((List.range (mxN la lb)).map (fun s => D.int (s + 1 : Nat)), none) := by
    show gd (small64 (((mxN la lb : Nat) : Int) + 1)) (some (rangeD 1 (((mxN la lb : Nat) : Int) + 1), none)) = _
    have : small64 (((mxN la lb : Nat) : Int) + 1) = true := (Nat.ble_eq_true_of_le (by omega) : small64 ((mxN la lb + 1 : Nat) : Int) = true)
    rw [this, rangeD_one]; rfl
  exact g_call (fl := .ret (.ref 1)) rfl rfl rfl (ux (x_cons s0 (x_cons (σ₁ := nSt la lb ra rb N none []) (gives rfl) (x_cons (x_for (vs := [.d (.int 1), .d (.int ((mxN la lb : Nat) + 1))]) (gives rfl) hi hl) (x_ret' (x_ret (gives rfl))))))) (gives rfl)
end Mine
end
section
open PySem
namespace Mine
/-! the law, statement by statement -/
noncomputable abbrev LD : Dsc := ⟨0, [1, 2, 3, 4, 5, 6, 7]⟩
noncomputable def szT : List (List Nat) := [[1, 2, 3, 4], [2, 3, 4, 1], [3, 4, 1, 2], [4, 1, 2, 3], [4, 3, 2, 1], [1, 4, 3, 2], [2, 1, 4, 3], [3, 2, 1, 4]]
noncomputable def szN (z j : Nat) : Nat := (szT.getD z []).getD j 0
section
variable (c : Nat → Int)
noncomputable def cellsD : D := .list [.int (c 0), .int (c 1), .int (c 2), .int (c 3), .int (c 4), .int (c 5), .int (c 6), .int (c 7), .int (c 8), .int (c 9), .int (c 10), .int (c 11)]
noncomputable def ld (k : Nat) : Nat := LI (c k)
theorem ld_lt (k : Nat) : ld c k < 40 := LI_lt _
noncomputable def sz1D : D := .list [.int ((c 11 + 0).fmod 4 + 1), .int ((c 11 + 1).fmod 4 + 1), .int ((c 11 + 2).fmod 4 + 1), .int ((c 11 + 3).fmod 4 + 1)]
noncomputable def sz2D : D := .list [.int ((c 11 + 3).fmod 4 + 1), .int ((c 11 + 2).fmod 4 + 1), .int ((c 11 + 1).fmod 4 + 1), .int ((c 11 + 0).fmod 4 + 1)]
noncomputable def szD (z : Nat) : D := .list [.int (szN z 0), .int (szN z 1), .int (szN z 2), .int (szN z 3)]
noncomputable def keysD (z : Nat) : D := .list [.int (szN z 0), .int (szN z 1), .int (szN z 2), .int (szN z 3), .int 0]
noncomputable def TU (z : Nat) : List Int := [c (5 + szN z 0), c (5 + szN z 1), c (5 + szN z 2), c (5 + szN z 3), c 10]
noncomputable def ITS (z : Nat) : List (Nat × Int) := [(szN z 0, c (5 + szN z 0)), (szN z 1, c (5 + szN z 1)), (szN z 2, c (5 + szN z 2)), (szN z 3, c (5 + szN z 3)), (0, c 10)]
noncomputable def leadsD : D := .list [.str (LS (ld c 0)), .str (LS (ld c 1)), .str (LS (ld c 2)), .str (LS (ld c 3)), .str (LS (ld c 4)), .str (LS (ld c 5))]
noncomputable def sufN (k : Nat) : List Nat := [120, 9, 32].take k
noncomputable def whN (k : Nat) : D := .inst 1 (WF (ld c k) (LS (ld c k) ++ sufN k))
noncomputable def whitesD : D := .list [whN c 0, whN c 1, whN c 2, whN c 3, whN c 4, whN c 5]
noncomputable def columnsD : D := .list [.list (COLS (ld c 0)), .list (COLS (ld c 1)), .list (COLS (ld c 2)), .list (COLS (ld c 3)), .list (COLS (ld c 4)), .list (COLS (ld c 5))]
noncomputable def KY (z k : Nat) : List Int := [COL (ld c k) (szN z 0 - 1), COL (ld c k) (szN z 1 - 1), COL (ld c k) (szN z 2 - 1), COL (ld c k) (szN z 3 - 1), k]
noncomputable def keyedL (z : Nat) : List (List Int) := [KY c z 0, KY c z 1, KY c z 2, KY c z 3, KY c z 4, KY c z 5]
noncomputable def RW (k : Nat) : List Int := [k, COL (ld c k) 0, COL (ld c k) 1, COL (ld c k) 2, COL (ld c k) 3]
end
noncomputable def FR (sc : D) (comp whites rows k row size told i j way longest witness falls worth : Option V) : S := .frame [some (.d sc), comp, whites, rows, k, row, size, told, i, j, way, longest, witness, falls, worth]
noncomputable def CE (cells sizes keys turns leads columns keyed : Option D) : List S := [.cell cells, .cell sizes, .cell keys, .cell turns, .cell leads, .cell columns, .cell keyed]
noncomputable abbrev OL (n : Nat) : Ops := run prg noOrc (n + 80)
section
variable {c : Nat → Int} {sc : D} {n z : Nat}
noncomputable def FR0 (sc : D) : S := FR sc none none none none none none none none none none none none none none
theorem st1 : Gives (exT (OL n) s_law_1 LD (FR0 sc :: CE (some (cellsD c)) none none none none none none)) .next (FR0 sc :: CE (some (cellsD c)) (some (sz1D c)) none none none none none) := gives (by kernel_rfl!)
theorem st2f (h : ¬ ((c 11).fdiv 4).fmod 2 = 1) : Gives (exT (OL n) s_law_2 LD (FR0 sc :: CE (some (cellsD c)) (some (sz1D c)) none none none none none)) .next (FR0 sc :: CE (some (cellsD c)) (some (sz1D c)) none none none none none) := by
  have t : Gives (tst (OL n) (.cmp .eq (.bin .mod true (.bin .fdiv true (.sub (.cel 0) (.int 11)) (.int 4)) (.int 2)) (.int 1)) LD (FR0 sc :: CE (some (cellsD c)) (some (sz1D c)) none none none none none)) (decide (((c 11).fdiv 4).fmod 2 = 1)) (FR0 sc :: CE (some (cellsD c)) (some (sz1D c)) none none none none none) := gives (by kernel_rfl!)
  rw [decide_eq_false h] at t
  exact x_ite t (gives rfl)
theorem st2t (h : ((c 11).fdiv 4).fmod 2 = 1) : Gives (exT (OL n) s_law_2 LD (FR0 sc :: CE (some (cellsD c)) (some (sz1D c)) none none none none none)) .next (FR0 sc :: CE (some (cellsD c)) (some (sz2D c)) none none none none none) := by
  have t : Gives (tst (OL n) (.cmp .eq (.bin .mod true (.bin .fdiv true (.sub (.cel 0) (.int 11)) (.int 4)) (.int 2)) (.int 1)) LD (FR0 sc :: CE (some (cellsD c)) (some (sz1D c)) none none none none none)) (decide (((c 11).fdiv 4).fmod 2 = 1)) (FR0 sc :: CE (some (cellsD c)) (some (sz1D c)) none none none none none) := gives (by kernel_rfl!)
  rw [decide_eq_true h] at t
  exact x_ite t (gives (by kernel_rfl!))
theorem fmod_add (a : Int) (k : Nat) : (a + k).fmod 4 = (a.fmod 4 + k).fmod 4 := by
  rw [Int.fmod_eq_emod_of_nonneg _ (by decide), Int.fmod_eq_emod_of_nonneg _ (by decide), Int.fmod_eq_emod_of_nonneg _ (by decide)]
  omega
theorem st12 : ∃ z, z < 8 ∧ ∃ σ, Gives (exT (OL n) s_law_1 LD (FR0 sc :: CE (some (cellsD c)) none none none none none none)) .next σ ∧ Gives (exT (OL n) s_law_2 LD σ) .next (FR0 sc :: CE (some (cellsD c)) (some (szD z)) none none none none none) := by
  have h1 := Int.fmod_nonneg_of_pos (c 11) (b := 4) (by decide)
  have h2 := Int.fmod_lt_of_pos (c 11) (b := 4) (by decide)
  obtain ⟨q, hq⟩ := Int.eq_ofNat_of_zero_le h1
  have hq4 : q < 4 := by omega
  have e0 : (c 11 + 0).fmod 4 = (q : Int) := by rw [Int.add_zero]; exact hq
  have e1 : (c 11 + 1).fmod 4 = (((q + 1) % 4 : Nat) : Int) := by have := fmod_add (c 11) 1; rw [hq] at this; rw [show ((1 : Int)) = ((1 : Nat) : Int) from rfl, this, Int.fmod_eq_emod_of_nonneg _ (by decide)]; rfl
  have e2 : (c 11 + 2).fmod 4 = (((q + 2) % 4 : Nat) : Int) := by have := fmod_add (c 11) 2; rw [hq] at this; rw [show ((2 : Int)) = ((2 : Nat) : Int) from rfl, this, Int.fmod_eq_emod_of_nonneg _ (by decide)]; rfl
  have e3 : (c 11 + 3).fmod 4 = (((q + 3) % 4 : Nat) : Int) := by have := fmod_add (c 11) 3; rw [hq] at this; rw [show ((3 : Int)) = ((3 : Nat) : Int) from rfl, this, Int.fmod_eq_emod_of_nonneg _ (by decide)]; rfl
  have s1 : sz1D c = .list [.int ((q : Int) + 1), .int (((q + 1) % 4 : Nat) + 1), .int (((q + 2) % 4 : Nat) + 1), .int (((q + 3) % 4 : Nat) + 1)] := by unfold sz1D; rw [e0, e1, e2, e3]
  have s2 : sz2D c = .list [.int (((q + 3) % 4 : Nat) + 1), .int (((q + 2) % 4 : Nat) + 1), .int (((q + 1) % 4 : Nat) + 1), .int ((q : Int) + 1)] := by unfold sz2D; rw [e0, e1, e2, e3]
  by_cases h : ((c 11).fdiv 4).fmod 2 = 1
  · have k := st2t (sc := sc) (n := n) h
    rw [s2] at k
    match q, hq4 with
    | 0, _ => exact ⟨4, by decide, _, st1, k⟩
    | 1, _ => exact ⟨5, by decide, _, st1, k⟩
    | 2, _ => exact ⟨6, by decide, _, st1, k⟩
    | 3, _ => exact ⟨7, by decide, _, st1, k⟩
  · have k := st2f (sc := sc) (n := n) h
    have k' : Gives (exT (OL n) s_law_2 LD (FR0 sc :: CE (some (cellsD c)) (some (sz1D c)) none none none none none)) .next (FR0 sc :: CE (some (cellsD c)) (some (.list [.int ((q : Int) + 1), .int (((q + 1) % 4 : Nat) + 1), .int (((q + 2) % 4 : Nat) + 1), .int (((q + 3) % 4 : Nat) + 1)])) none none none none none) := by rw [← s1]; exact k
    match q, hq4 with
    | 0, _ => exact ⟨0, by decide, _, st1, k'⟩
    | 1, _ => exact ⟨1, by decide, _, st1, k'⟩
    | 2, _ => exact ⟨2, by decide, _, st1, k'⟩
    | 3, _ => exact ⟨3, by decide, _, st1, k'⟩
noncomputable def FR1 (sc : D) (c : Nat → Int) (z : Nat) : S := FR sc (some (.d (compD (ITS c z)))) none none none none none none none none none none none none none
theorem st3 : z < 8 → Gives (exT (OL n) s_law_3 LD (FR0 sc :: CE (some (cellsD c)) (some (szD z)) none none none none none)) .next (FR0 sc :: CE (some (cellsD c)) (some (szD z)) (some (keysD z)) none none none none) := fun _ => gives (by kernel_rfl!)
theorem st4 : z < 8 → Gives (exT (OL n) s_law_4 LD (FR0 sc :: CE (some (cellsD c)) (some (szD z)) (some (keysD z)) none none none none)) .next (FR0 sc :: CE (some (cellsD c)) (some (szD z)) (some (keysD z)) (some (rowD (TU c z))) none none none) := fun h => by
  match z, h with
  | 0, _ | 1, _ | 2, _ | 3, _ | 4, _ | 5, _ | 6, _ | 7, _ => exact gives (by kernel_rfl!)
theorem st5 : z < 8 → Gives (exT (OL n) s_law_5 LD (FR0 sc :: CE (some (cellsD c)) (some (szD z)) (some (keysD z)) (some (rowD (TU c z))) none none none)) .next (FR1 sc c z :: CE (some (cellsD c)) (some (szD z)) (some (keysD z)) (some (rowD (TU c z))) none none none) := fun h => by
  match z, h with
  | 0, _ | 1, _ | 2, _ | 3, _ | 4, _ | 5, _ | 6, _ | 7, _ => exact gives (by kernel_rfl!)
end
end Mine
end
section
open PySem
namespace Mine
section
variable {O : Ops}
theorem map_loop0 {elt : E} {y : D → D} : ∀ (items : List D) (acc : List D) (v : Option V), (∀ it ∈ items, ∀ acc, Gives (evD O elt ⟨1, []⟩ [.mlist acc, .frame [some (.d it)]]) (y it) [.mlist acc, .frame [some (.d it)]]) → acc.length + items.length ≤ 100 →
    ∃ v', Gives (compL O 0 (.loc 0) none elt ⟨1, []⟩ items [.mlist acc, .frame [v]]) () [.mlist (acc ++ items.map y), .frame [v']]
  | [], acc, v, _, _ => ⟨v, by have e : acc ++ List.map y [] = acc := List.append_nil _; rw [e]; exact p_nil⟩
  | it :: r, acc, v, h, hl => by
    rw [List.length_cons] at hl
    obtain ⟨v', ih⟩ := map_loop0 (elt := elt) (y := y) r (acc ++ [y it]) (some (.d it)) (fun x hx => h x (List.mem_cons_of_mem _ hx)) (by rw [List.length_append, List.length_singleton]; omega)
    refine ⟨v', ?_⟩
    have e : acc ++ (it :: r).map y = (acc ++ [y it]) ++ r.map y := by simp
    rw [e]
    exact p_all (σ₁ := [.mlist acc, .frame [some (.d it)]]) rfl (h it (List.mem_cons_self ..) acc) (p_push (xs := acc) rfl (room_of (by omega))) ih
theorem map_loop1 {elt : E} {y : D → D} {q : Option D} : ∀ (items : List D) (acc : List D) (v : Option V), (∀ it ∈ items, ∀ acc, Gives (evD O elt ⟨2, [0]⟩ [.cell q, .mlist acc, .frame [some (.d it)]]) (y it) [.cell q, .mlist acc, .frame [some (.d it)]]) → acc.length + items.length ≤ 100 →
    ∃ v', Gives (compL O 1 (.loc 0) none elt ⟨2, [0]⟩ items [.cell q, .mlist acc, .frame [v]]) () [.cell q, .mlist (acc ++ items.map y), .frame [v']]
  | [], acc, v, _, _ => ⟨v, by have e : acc ++ List.map y [] = acc := List.append_nil _; rw [e]; exact p_nil⟩
  | it :: r, acc, v, h, hl => by
    rw [List.length_cons] at hl
    obtain ⟨v', ih⟩ := map_loop1 (elt := elt) (y := y) r (acc ++ [y it]) (some (.d it)) (fun x hx => h x (List.mem_cons_of_mem _ hx)) (by rw [List.length_append, List.length_singleton]; omega)
    refine ⟨v', ?_⟩
    have e : acc ++ (it :: r).map y = (acc ++ [y it]) ++ r.map y := by simp
    rw [e]
    exact p_all (σ₁ := [.cell q, .mlist acc, .frame [some (.d it)]]) rfl (h it (List.mem_cons_self ..) acc) (p_push (xs := acc) rfl (room_of (by omega))) ih
theorem e_new {σ σ₁ : List S} {d : Dsc} {c f : Nat} {as : List E} {vs : List V} {ds : List D} {fs : List (Nat × D)} (h1 : Gives (evs O d as σ) vs σ₁) (h2 : prg.inits[c]? = some f) (h3 : dats vs = some ds)
    (h4 : Gives (O.call f (.ref 0 :: vs) [.inst c, .idict c []]) (.d .none) [.inst c, .idict c fs]) : Gives (evStep prg O (.new c as) d σ) (.d (.inst c fs)) σ₁ := by
  refine Gives.bnd h1 ?_
  show Gives ((prg.inits[c]?).bind fun f => (dats vs).bind fun _ => bnd (O.call f (.ref 0 :: vs) [.inst c, .idict c []]) fun v σn => gd (noV v) ((newS σn).bind fun p => gd (Nat.beq p.1 c) (ok (V.d (.inst c p.2)) σ₁))) _ _
  rw [h2]
  show Gives ((dats vs).bind fun _ => bnd (O.call f (.ref 0 :: vs) [.inst c, .idict c []]) fun v σn => gd (noV v) ((newS σn).bind fun p => gd (Nat.beq p.1 c) (ok (V.d (.inst c p.2)) σ₁))) _ _
  rw [h3]
  refine Gives.bnd (f := fun v σn => gd (noV v) ((newS σn).bind fun p => gd (Nat.beq p.1 c) (ok (V.d (.inst c p.2)) σ₁))) h4 ?_
  show Gives (gd (Nat.beq c c) (ok (V.d (.inst c fs)) σ₁)) _ _
  rw [Nat.beq_refl]
  exact Gives.ok _
end
section
variable {c : Nat → Int} {sc : D} {n z : Nat}
noncomputable def yInt (f : Int → D) : D → D
  | .int i => f i
  | _ => .none
noncomputable def yStr (f : List Nat → D) : D → D
  | .str s => f s
  | _ => .none
theorem st6 : Gives (exT (OL n) s_law_6 LD (FR1 sc c z :: CE (some (cellsD c)) (some (szD z)) (some (keysD z)) (some (rowD (TU c z))) none none none)) .next (FR1 sc c z :: CE (some (cellsD c)) (some (szD z)) (some (keysD z)) (some (rowD (TU c z))) (some (leadsD c)) none none) := by
  have hel : ∀ it ∈ [D.int (c 0), .int (c 1), .int (c 2), .int (c 3), .int (c 4), .int (c 5)], ∀ acc, Gives (evD (run prg noOrc (n + 79)) (.call 14 [.loc 0]) ⟨1, []⟩ [.mlist acc, .frame [some (.d it)]]) (yInt (fun i => .str (LS (LI i))) it) [.mlist acc, .frame [some (.d it)]] := fun it hit acc => by
    simp only [List.mem_cons, List.not_mem_nil, or_false] at hit
    rcases hit with rfl | rfl | rfl | rfl | rfl | rfl <;> exact e_dat (u (e_call (v_cons (gives rfl) v_nil) (callAt_d rfl (con14 (n := n + 64) _))))
  obtain ⟨v', h⟩ := map_loop0 _ [] none hel (by simp)
  exact x_asg (v := .d (leadsD c)) (σ₁ := FR1 sc c z :: CE (some (cellsD c)) (some (szD z)) (some (keysD z)) (some (rowD (TU c z))) none none none) (u (e_comp1 (vs := [.d (.list [.int (c 0), .int (c 1), .int (c 2), .int (c 3), .int (c 4), .int (c 5)])]) (js := []) (fs := []) (gives (by kernel_rfl!)) rfl rfl rfl h rfl)) rfl
theorem suf_mem {k : Nat} (h : k < 6) : sufN k ∈ sufs := by
  match k, h with
  | 0, _ | 1, _ | 2, _ | 3, _ | 4, _ | 5, _ => decide
theorem LS_len : all40 (fun l => Nat.ble (LS l).length 20) = true := by kernel_rfl!
theorem LS_le {l : Nat} (h : l < 40) : (LS l).length ≤ 20 := Nat.le_of_ble_eq_true (all40_at LS_len h)
theorem wh1 {k : Nat} (hk : k < 6) {acc : List D} : Gives ((run prg noOrc (n + 77)).ev (.sub (.cel 0) (.loc 0)) ⟨2, [0]⟩ [.cell (some (leadsD c)), .mlist acc, .frame [some (.d (.int k))]]) (.d (.str (LS (ld c k)))) [.cell (some (leadsD c)), .mlist acc, .frame [some (.d (.int k))]] := by
  match k, hk with
  | 0, _ | 1, _ | 2, _ | 3, _ | 4, _ | 5, _ => exact gives (by kernel_rfl!)
theorem wh2 {k : Nat} (hk : k < 6) {acc : List D} : Gives ((run prg noOrc (n + 77)).ev (.slc (.str [120, 9, 32]) none (some (.loc 0))) ⟨2, [0]⟩ [.cell (some (leadsD c)), .mlist acc, .frame [some (.d (.int k))]]) (.d (.str (sufN k))) [.cell (some (leadsD c)), .mlist acc, .frame [some (.d (.int k))]] := by
  match k, hk with
  | 0, _ | 1, _ | 2, _ | 3, _ | 4, _ | 5, _ => exact gives (by kernel_rfl!)
theorem wh_elt {k : Nat} (hk : k < 6) {acc : List D} :
    Gives (evD (run prg noOrc (n + 79)) (.new 1 [.bin .add true (.sub (.cel 0) (.loc 0)) (.slc (.str [120, 9, 32]) none (some (.loc 0)))]) ⟨2, [0]⟩ [.cell (some (leadsD c)), .mlist acc, .frame [some (.d (.int k))]]) (whN c k) [.cell (some (leadsD c)), .mlist acc, .frame [some (.d (.int k))]] := by
  have hlen : (LS (ld c k) ++ sufN k).length ≤ sizeLine := by
    have := LS_le (ld_lt c k)
    rw [List.length_append, sizeLine_eq]
    have : (sufN k).length ≤ 3 := by unfold sufN; rw [List.length_take]; exact Nat.min_le_right ..
    omega
  have h3 : Gives ((run prg noOrc (n + 78)).ev (.bin .add true (.sub (.cel 0) (.loc 0)) (.slc (.str [120, 9, 32]) none (some (.loc 0)))) ⟨2, [0]⟩ [.cell (some (leadsD c)), .mlist acc, .frame [some (.d (.int k))]]) (.d (.str (LS (ld c k) ++ sufN k))) [.cell (some (leadsD c)), .mlist acc, .frame [some (.d (.int k))]] :=
    u (e_bin (wh1 hk) (wh2 hk) (gives_ob (ob := [.len (LS (ld c k) ++ sufN k).length]) rfl (AllOk.cons hlen .nil)))
  exact e_dat (u (e_new (v_cons h3 v_nil) rfl rfl (con8 (n := n + 58) (ld_lt c k) (suf_mem hk))))
theorem st7 : Gives (exT (OL n) s_law_7 LD (FR1 sc c z :: CE (some (cellsD c)) (some (szD z)) (some (keysD z)) (some (rowD (TU c z))) (some (leadsD c)) none none)) .next (FR sc (some (.d (compD (ITS c z)))) (some (.d (whitesD c))) none none none none none none none none none none none none :: CE (some (cellsD c)) (some (szD z)) (some (keysD z)) (some (rowD (TU c z))) (some (leadsD c)) none none) := by
  have hel : ∀ it ∈ [D.int (0 : Nat), .int (1 : Nat), .int (2 : Nat), .int (3 : Nat), .int (4 : Nat), .int (5 : Nat)], ∀ acc, Gives (evD (run prg noOrc (n + 79)) (.new 1 [.bin .add true (.sub (.cel 0) (.loc 0)) (.slc (.str [120, 9, 32]) none (some (.loc 0)))]) ⟨2, [0]⟩ [.cell (some (leadsD c)), .mlist acc, .frame [some (.d it)]]) (yInt (fun i => whN c i.toNat) it) [.cell (some (leadsD c)), .mlist acc, .frame [some (.d it)]] := fun it hit acc => by
    simp only [List.mem_cons, List.not_mem_nil, or_false] at hit
    rcases hit with rfl | rfl | rfl | rfl | rfl | rfl
    · exact wh_elt (k := 0) (by decide)
    · exact wh_elt (k := 1) (by decide)
    · exact wh_elt (k := 2) (by decide)
    · exact wh_elt (k := 3) (by decide)
    · exact wh_elt (k := 4) (by decide)
    · exact wh_elt (k := 5) (by decide)
  obtain ⟨v', h⟩ := map_loop1 _ [] none hel (by simp)
  exact x_asg (v := .d (whitesD c)) (σ₁ := FR1 sc c z :: CE (some (cellsD c)) (some (szD z)) (some (keysD z)) (some (rowD (TU c z))) (some (leadsD c)) none none) (u (e_comp1 (vs := [.d (.int 6)]) (items := [.int (0 : Nat), .int (1 : Nat), .int (2 : Nat), .int (3 : Nat), .int (4 : Nat), .int (5 : Nat)]) (js := [5]) (fs := [.cell (some (leadsD c))]) (gives rfl) rfl rfl rfl h rfl)) rfl
end
end Mine
end
section
open PySem
namespace Mine
section
variable {c : Nat → Int} {sc : D} {n z : Nat}
noncomputable def FR2 (sc : D) (c : Nat → Int) (z : Nat) (rows k row size told i j way longest witness falls worth : Option V) : S := FR sc (some (.d (compD (ITS c z)))) (some (.d (whitesD c))) rows k row size told i j way longest witness falls worth
noncomputable def CE1 (c : Nat → Int) (z : Nat) (columns keyed : Option D) : List S := CE (some (cellsD c)) (some (szD z)) (some (keysD z)) (some (rowD (TU c z))) (some (leadsD c)) columns keyed
theorem st8 : Gives (exT (OL n) s_law_8 LD (FR2 sc c z none none none none none none none none none none none none :: CE1 c z none none)) .next (FR2 sc c z none none none none none none none none none none none none :: CE1 c z (some (columnsD c)) none) := by
  have hel : ∀ it ∈ [D.str (LS (ld c 0)), .str (LS (ld c 1)), .str (LS (ld c 2)), .str (LS (ld c 3)), .str (LS (ld c 4)), .str (LS (ld c 5))], ∀ acc, ∃ l, it = .str (LS l) ∧ l < 40 ∧ Gives (evD (run prg noOrc (n + 79)) (.call 15 [.loc 0]) ⟨1, []⟩ [.mlist acc, .frame [some (.d it)]]) (.list (COLS l)) [.mlist acc, .frame [some (.d it)]] := fun it hit acc => by
    simp only [List.mem_cons, List.not_mem_nil, or_false] at hit
    have key : ∀ k, Gives (evD (run prg noOrc (n + 79)) (.call 15 [.loc 0]) ⟨1, []⟩ [.mlist acc, .frame [some (.d (.str (LS (ld c k))))]]) (.list (COLS (ld c k))) [.mlist acc, .frame [some (.d (.str (LS (ld c k))))]] := fun k =>
      e_dat (u (e_call (v_cons (gives rfl) v_nil) (callAt_d rfl (con15 (n := n + 64) (ld_lt c k)))))
    rcases hit with rfl | rfl | rfl | rfl | rfl | rfl
    · exact ⟨_, rfl, ld_lt c 0, key 0⟩
    · exact ⟨_, rfl, ld_lt c 1, key 1⟩
    · exact ⟨_, rfl, ld_lt c 2, key 2⟩
    · exact ⟨_, rfl, ld_lt c 3, key 3⟩
    · exact ⟨_, rfl, ld_lt c 4, key 4⟩
    · exact ⟨_, rfl, ld_lt c 5, key 5⟩
  have key : ∀ k acc, Gives (evD (run prg noOrc (n + 79)) (.call 15 [.loc 0]) ⟨1, []⟩ [.mlist acc, .frame [some (.d (.str (LS (ld c k))))]]) (.list (COLS (ld c k))) [.mlist acc, .frame [some (.d (.str (LS (ld c k))))]] := fun k acc =>
      e_dat (u (e_call (v_cons (gives rfl) v_nil) (callAt_d rfl (con15 (n := n + 64) (ld_lt c k)))))
  have h : Gives (compL (run prg noOrc (n + 79)) 0 (.loc 0) none (.call 15 [.loc 0]) ⟨1, []⟩ [D.str (LS (ld c 0)), .str (LS (ld c 1)), .str (LS (ld c 2)), .str (LS (ld c 3)), .str (LS (ld c 4)), .str (LS (ld c 5))] [.mlist [], .frame [none]]) () [.mlist [.list (COLS (ld c 0)), .list (COLS (ld c 1)), .list (COLS (ld c 2)), .list (COLS (ld c 3)), .list (COLS (ld c 4)), .list (COLS (ld c 5))], .frame [some (.d (.str (LS (ld c 5))))]] :=
    p_all rfl (key 0 _) (p_push rfl rfl) (p_all rfl (key 1 _) (p_push rfl rfl) (p_all rfl (key 2 _) (p_push rfl rfl) (p_all rfl (key 3 _) (p_push rfl rfl) (p_all rfl (key 4 _) (p_push rfl rfl) (p_all rfl (key 5 _) (p_push rfl rfl) p_nil)))))
  exact x_asg (v := .d (columnsD c)) (σ₁ := FR2 sc c z none none none none none none none none none none none none :: CE1 c z none none) (u (e_comp1 (vs := [.d (leadsD c)]) (js := []) (fs := []) (gives rfl) rfl rfl rfl h rfl)) rfl
theorem st9 : z < 8 → Gives (exT (OL n) s_law_9 LD (FR2 sc c z none none none none none none none none none none none none :: CE1 c z (some (columnsD c)) none)) .next (FR2 sc c z none none none none none none none none none none none none :: CE1 c z (some (columnsD c)) (some (heapD (keyedL c z)))) := fun h => by
  match z, h with
  | 0, _ | 1, _ | 2, _ | 3, _ | 4, _ | 5, _ | 6, _ | 7, _ => exact gives (by kernel_rfl!)
noncomputable def CE2 (c : Nat → Int) (z : Nat) : List S := CE1 c z (some (columnsD c)) (some (heapD (keyedL c z)))
theorem st10 : Gives (exT (OL n) s_law_10 LD (FR2 sc c z none none none none none none none none none none none none :: CE2 c z)) .next (FR2 sc c z (some (.ref 8)) none none none none none none none none none none none :: (CE2 c z ++ [.mlist []])) := gives (by kernel_rfl!)
/-! one round of the rows -/
noncomputable def rowT (c : Nat → Int) (k m : Nat) : D := .tup ((D.int k :: COLS (ld c k)).take (m + 1))
noncomputable def rowsD (c : Nat → Int) : List D := [rowT c 0 4, rowT c 1 4, rowT c 2 4, rowT c 3 4, rowT c 4 4, rowT c 5 4]
noncomputable abbrev oI (i : Nat) : Option V := some (.d (.int i))
noncomputable def S11 (sc : D) (c : Nat → Int) (z : Nat) (k row size : Option V) (m : Nat) : List S := FR2 sc c z (some (.ref 8)) k row size none none none none none none none none :: (CE2 c z ++ [.mlist ((rowsD c).take m)])
end
end Mine
end
section
open PySem
namespace Mine
noncomputable def lensI (s : List Nat) : List Int := (splitC 9 s).map fun p => (p.length : Int)
noncomputable def maxI : List Int → Int
  | [] => 0
  | i :: r => maxL i r
theorem split_ne (x : Nat) : ∀ s, splitC x s ≠ []
  | [] => by simp [splitC]
  | a :: s => by
    unfold splitC
    split
    · simp
    · split <;> simp
theorem split_le {x : Nat} : ∀ (s : List Nat), (∀ p ∈ splitC x s, p.length ≤ s.length) ∧ (splitC x s).length ≤ s.length + 1
  | [] => by simp [splitC]
  | a :: s => by
    obtain ⟨h1, h2⟩ := split_le (x := x) s
    unfold splitC
    split
    · refine ⟨fun p hp => ?_, by simp; omega⟩
      rcases List.mem_cons.mp hp with rfl | hp
      · simp
      · have := h1 p hp; simp; omega
    · split
      · rename_i e; exact absurd e (split_ne x s)
      · rename_i w ws e
        rw [e] at h1 h2
        refine ⟨fun p hp => ?_, by simp at h2 ⊢; omega⟩
        rcases List.mem_cons.mp hp with rfl | hp
        · have := h1 w (List.mem_cons_self ..); simp; omega
        · have := h1 p (List.mem_cons_of_mem _ hp); simp; omega
section
variable {G : Prog} {O : Ops} {d : Dsc} {σ σ₁ σ₂ : List S}
theorem e_split {o p : E} {s : List Nat} {x : Nat} (h1 : Gives (O.ev o d σ) (.d (.str s)) σ₁) (h2 : Gives (O.ev p d σ₁) (.d (.str [x])) σ₂) (h3 : (room s.length && Nat.blt x 256) = true) : Gives (evStep G O (.split o p) d σ) (.d (.list ((splitC x s).map .str))) σ₂ := by
  refine Gives.bnd h1 (Gives.bnd h2 ?_)
  show Gives (gd (room s.length && Nat.blt x 256) (ok (V.d (.list ((splitC x s).map .str))) σ₂)) _ _
  rw [h3]
  exact Gives.ok _
theorem intsOf_map : ∀ is : List Int, intsOf (is.map .int) = some is
  | [] => rfl
  | x :: l => by show (intsOf (l.map .int)).map (x :: ·) = _; rw [intsOf_map l]; rfl
theorem e_max1 {a : E} {is : List Int} (h1 : Gives (O.ev a d σ) (.d (.list (is.map .int))) σ₁) (h2 : is ≠ []) : Gives (evStep G O (.max1 a) d σ) (.d (.int (maxI is))) σ₁ := by
  refine Gives.bnd h1 ?_
  show Gives ((intsOf (is.map .int)).bind fun is => match is with | [] => none | i :: r => ok (V.d (.int (maxL i r))) σ₁) _ _
  rw [intsOf_map]
  match is, h2 with
  | i :: r, _ => exact Gives.ok _
end
noncomputable def mpE (A : E) : E := .max1 (.comp1 ⟨[Str.ofString "piece"], [], []⟩ (.loc 0) .val [.split A (.str [9])] none (.len (.loc 0)))
theorem e_pieces {n : Nat} {A : E} {d : Dsc} {σ : List S} {s : List Nat} (h1 : Gives ((run prg noOrc (n + 20)).ev A d σ) (.d (.str s)) σ) (hs : s.length ≤ 60) : Gives ((run prg noOrc (n + 23)).ev (mpE A) d σ) (.d (.int (maxI (lensI s)))) σ := by
  obtain ⟨k1, k2⟩ := split_le (x := 9) s
  have hel : ∀ it ∈ (splitC 9 s).map D.str, ∀ acc, Gives (evD (run prg noOrc (n + 21)) (.len (.loc 0)) ⟨1, []⟩ [.mlist acc, .frame [some (.d it)]]) (yStr (fun p => .int p.length) it) [.mlist acc, .frame [some (.d it)]] := fun it hit acc => by
    obtain ⟨p, hp, rfl⟩ := List.mem_map.mp hit
    have := k1 p hp
    exact e_dat (u (e_len (x := .d (.str p)) (n := p.length) (gives rfl) rfl (room_of (by omega))))
  obtain ⟨v', h⟩ := map_loop0 _ [] none hel (by simp; omega)
  have e : ((splitC 9 s).map D.str).map (yStr fun p => .int p.length) = (lensI s).map .int := by
    unfold lensI; rw [List.map_map, List.map_map]; rfl
  rw [List.nil_append, e] at h
  refine u (e_max1 (u (e_comp1 (vs := [.d (.list ((splitC 9 s).map .str))]) (js := []) (fs := []) (v_cons (u (e_split h1 (gives rfl) (by rw [room_of (by omega)]; rfl))) v_nil) rfl rfl rfl h rfl)) ?_)
  unfold lensI
  intro e
  exact split_ne 9 s (List.map_eq_nil_iff.mp e)
noncomputable def lenOk (l : Nat) : Bool := decide (maxI (lensI (LS l)) = LNG l)
theorem cLen : all40 lenOk = true := by kernel_rfl!
theorem eqvs_self : ∀ xs : List Int, D.eqvs (xs.map .int) (xs.map .int) = true
  | [] => rfl
  | x :: l => by
    show (decide (x = x) && D.eqvs (l.map .int) (l.map .int)) = true
    rw [eqvs_self l, decide_eq_true rfl]; rfl
section
variable {c : Nat → Int} {sc : D} {n z : Nat}
theorem r_cat' {k m : Nat} (hm : m < 4) {σ : List S} : Gives (callAt (run prg noOrc (n + 14)) 6 [.d (rowT c k m), .d (.tup [.int (COL (ld c k) m)])] σ) (.d (rowT c k (m + 1))) σ := by
  match m, hm with
  | 0, _ | 1, _ | 2, _ | 3, _ => exact callAt_d rfl (gives (by kernel_rfl!))
theorem r_wh' {k : Nat} (hk : k < 6) {m : Nat} {row size : Option V} : Gives ((run prg noOrc (n + 14)).ev (.sub (.loc 2) (.loc 4)) LD (S11 sc c z (oI k) row size m)) (.d (whN c k)) (S11 sc c z (oI k) row size m) := by
  match k, hk with
  | 0, _ | 1, _ | 2, _ | 3, _ | 4, _ | 5, _ => exact gives (by kernel_rfl!)
theorem r_ld' {k : Nat} (hk : k < 6) {m : Nat} {row size : Option V} : Gives ((run prg noOrc (n + 14)).ev (.sub (.cel 4) (.loc 4)) LD (S11 sc c z (oI k) row size m)) (.d (.str (LS (ld c k)))) (S11 sc c z (oI k) row size m) := by
  match k, hk with
  | 0, _ | 1, _ | 2, _ | 3, _ | 4, _ | 5, _ => exact gives (by kernel_rfl!)
theorem r_tup' {k : Nat} (hk : k < 6) {m : Nat} {row size : Option V} : Gives ((run prg noOrc (n + 14)).ev (.tuple (.bin .add true (.list true [.loc 4]) (.sub (.cel 5) (.loc 4)))) LD (S11 sc c z (oI k) row size m)) (.d (rowT c k 4)) (S11 sc c z (oI k) row size m) := by
  match k, hk with
  | 0, _ | 1, _ | 2, _ | 3, _ | 4, _ | 5, _ => exact gives (by kernel_rfl!)
theorem r_numb' {k m : Nat} {size : Option V} : Gives (cmpR (run prg noOrc (n + 14)) .ne (.comp1 ⟨[Str.ofString "number"], [], []⟩ (.loc 0) .val [.loc 5] (some (.not (.isi (.loc 0) 0))) (.loc 0)) (.list true []) LD (S11 sc c z (oI k) (some (.d (rowT c k 4))) size m)) false (S11 sc c z (oI k) (some (.d (rowT c k 4))) size m) := gives (by kernel_rfl!)
noncomputable def rowB : List T := [.asg (.loc 5) (.call 6 [.loc 5, .tup [.meth 2 (.sub (.loc 2) (.loc 4)) [.loc 6]]])]
theorem r_b {k : Nat} (hk : k < 6) {m : Nat} (hm : m < 4) : Gives ((run prg noOrc (n + 79)).ex rowB LD (S11 sc c z (oI k) (some (.d (rowT c k m))) (oI (m + 1)) k)) .next (S11 sc c z (oI k) (some (.d (rowT c k (m + 1)))) (oI (m + 1)) k) := by
  let σ := S11 sc c z (oI k) (some (.d (rowT c k m))) (oI (m + 1)) k
  have h1 : Gives ((run prg noOrc (n + 76)).ev (.meth 2 (.sub (.loc 2) (.loc 4)) [.loc 6]) LD σ) (.d (.int (COL (ld c k) m))) σ :=
    u (e_meth (f := 10) (c := 1) (fs := WF (ld c k) (LS (ld c k) ++ sufN k)) (vs := [.d (.int (m + 1 : Nat))]) (σ₁ := σ) (r_wh' (n := n + 61) hk) (v_cons (gives rfl) v_nil) rfl rfl rfl (con10 (n := n + 61) _ (ld_lt c k) hm))
  exact ux (x_cons (x_asg (v := .d (rowT c k (m + 1))) (σ₁ := σ) (u (e_call (vs := [.d (rowT c k m), .d (.tup [.int (COL (ld c k) m)])]) (v_cons (gives rfl) (v_cons (u (e_tup (v_cons h1 v_nil) rfl rfl)) v_nil)) (r_cat' (n := n + 63) hm))) rfl) x_nil)
theorem r_push {k : Nat} (hk : k < 6) : Gives (pushAt 8 (rowT c k 4) (S11 sc c z (oI k) (some (.d (rowT c k 4))) (oI 4) k)) () (S11 sc c z (oI k) (some (.d (rowT c k 4))) (oI 4) (k + 1)) := by
  match k, hk with
  | 0, _ | 1, _ | 2, _ | 3, _ | 4, _ | 5, _ => exact gives (by kernel_rfl!)
theorem r_round {k : Nat} (hk : k < 6) {row0 size0 : Option V} : Gives ((OL n).ex [.asg (.loc 5) (.tup [.loc 4]), .for1 [.loc 6] false .range [.int 1, .int 5] rowB, .ite (.or (.cmp .ne (.loc 5) (.tuple (.bin .add true (.list true [.loc 4]) (.sub (.cel 5) (.loc 4))))) (.cmp .ne (.comp1 ⟨[Str.ofString "number"], [], []⟩ (.loc 0) .val [.loc 5] (some (.not (.isi (.loc 0) 0))) (.loc 0)) (.list true []))) [.ret (.bool false)] [],
      .ite (.cmp .ne (.meth 1 (.sub (.loc 2) (.loc 4)) []) (mpE (.sub (.cel 4) (.loc 4)))) [.ret (.bool false)] [], .exp (.append (.loc 3) (.loc 5))] LD (S11 sc c z (oI k) row0 size0 k)) .next (S11 sc c z (oI k) (some (.d (rowT c k 4))) (oI 4) (k + 1)) := by
  let τ := S11 sc c z (oI k) (some (.d (rowT c k 4))) (oI 4) k
  have hrl : ((rowsD c).take k).length ≤ 6 := by rw [List.length_take]; exact Nat.min_le_right ..
  have b : Gives (exT (run prg noOrc (n + 79)) (.for1 [.loc 6] false .range [.int 1, .int 5] rowB) LD (S11 sc c z (oI k) (some (.d (rowT c k 0))) size0 k)) .next τ :=
    x_for (vs := [.d (.int 1), .d (.int 5)]) (items := [.int (1 : Nat), .int (2 : Nat), .int (3 : Nat), .int (4 : Nat)]) (lk := none) (σ₁ := S11 sc c z (oI k) (some (.d (rowT c k 0))) size0 k) (gives rfl) rfl
      (l_cons (σ₁ := S11 sc c z (oI k) (some (.d (rowT c k 0))) (oI 1) k) rfl (r_b hk (m := 0) (by decide)) (l_cons (σ₁ := S11 sc c z (oI k) (some (.d (rowT c k 1))) (oI 2) k) rfl (r_b hk (m := 1) (by decide)) (l_cons (σ₁ := S11 sc c z (oI k) (some (.d (rowT c k 2))) (oI 3) k) rfl (r_b hk (m := 2) (by decide)) (l_cons (σ₁ := S11 sc c z (oI k) (some (.d (rowT c k 3))) (oI 4) k) rfl (r_b hk (m := 3) (by decide)) l_nil))))
  have eT : evCmp .ne (.d (rowT c k 4)) (.d (rowT c k 4)) τ = some false := by
    show Option.map (!·) (eqIf (([(k : Int), COL (ld c k) 0, COL (ld c k) 1, COL (ld c k) 2, COL (ld c k) 3] : List Int).map .int) (([(k : Int), COL (ld c k) 0, COL (ld c k) 1, COL (ld c k) 2, COL (ld c k) 3] : List Int).map .int)) = _
    show Option.map (!·) (some (D.eqvs _ _)) = _
    rw [eqvs_self]; rfl
  have t1 : Gives (tst (run prg noOrc (n + 79)) (.or (.cmp .ne (.loc 5) (.tuple (.bin .add true (.list true [.loc 4]) (.sub (.cel 5) (.loc 4))))) (.cmp .ne (.comp1 ⟨[Str.ofString "number"], [], []⟩ (.loc 0) .val [.loc 5] (some (.not (.isi (.loc 0) 0))) (.loc 0)) (.list true []))) LD τ) false τ :=
    t_or0 (t_cmp (c_cmp (σ₁ := τ) (x := .d (rowT c k 4)) (gives rfl) (r_tup' (n := n + 65) hk) eT)) (t_cmp (r_numb' (n := n + 65)))
  have m1 : Gives ((run prg noOrc (n + 79)).ev (.meth 1 (.sub (.loc 2) (.loc 4)) []) LD τ) (.d (.int (LNG (ld c k)))) τ :=
    u (e_meth (f := 9) (c := 1) (fs := WF (ld c k) (LS (ld c k) ++ sufN k)) (vs := []) (σ₁ := τ) (r_wh' (n := n + 64) hk) v_nil rfl rfl rfl (con9 (n := n + 64) _ (ld_lt c k)))
  have m2 : Gives ((run prg noOrc (n + 79)).ev (mpE (.sub (.cel 4) (.loc 4))) LD τ) (.d (.int (LNG (ld c k)))) τ := by
    have h := e_pieces (n := n + 56) (A := .sub (.cel 4) (.loc 4)) (d := LD) (σ := τ) (s := LS (ld c k)) (r_ld' (n := n + 62) hk) (by have := LS_le (ld_lt c k); omega)
    rw [of_decide_eq_true (all40_at cLen (ld_lt c k) : decide (maxI (lensI (LS (ld c k))) = LNG (ld c k)) = true)] at h
    exact h
  have t2 : Gives (tst (run prg noOrc (n + 79)) (.cmp .ne (.meth 1 (.sub (.loc 2) (.loc 4)) []) (mpE (.sub (.cel 4) (.loc 4)))) LD τ) false τ :=
    t_cmp (c_cmp m1 m2 (by rw [nev, decide_eq_true rfl]; rfl))
  exact ux (x_cons (σ₁ := S11 sc c z (oI k) (some (.d (rowT c k 0))) size0 k) (gives rfl) (x_cons b (x_cons (x_ite t1 (gives rfl)) (x_cons (x_ite t2 (gives rfl)) (x_cons (x_exp (u (e_append (n := 8) (xs := (rowsD c).take k) (σ₁ := τ) (σ₂ := τ) (gives rfl) rfl (e_dat (gives rfl)) (r_push hk)))) x_nil)))))
theorem st11 : Gives (exT (OL n) s_law_11 LD (S11 sc c z none none none 0)) .next (S11 sc c z (oI 5) (some (.d (rowT c 5 4))) (oI 4) 6) :=
  x_for (vs := [.d (.int 6)]) (items := [.int (0 : Nat), .int (1 : Nat), .int (2 : Nat), .int (3 : Nat), .int (4 : Nat), .int (5 : Nat)]) (lk := none) (σ₁ := S11 sc c z none none none 0) (gives rfl) rfl
    (l_cons (σ₁ := S11 sc c z (oI 0) none none 0) rfl (r_round (k := 0) (by decide)) (l_cons (σ₁ := S11 sc c z (oI 1) (some (.d (rowT c 0 4))) (oI 4) 1) rfl (r_round (k := 1) (by decide)) (l_cons (σ₁ := S11 sc c z (oI 2) (some (.d (rowT c 1 4))) (oI 4) 2) rfl (r_round (k := 2) (by decide))
      (l_cons (σ₁ := S11 sc c z (oI 3) (some (.d (rowT c 2 4))) (oI 4) 3) rfl (r_round (k := 3) (by decide)) (l_cons (σ₁ := S11 sc c z (oI 4) (some (.d (rowT c 3 4))) (oI 4) 4) rfl (r_round (k := 4) (by decide)) (l_cons (σ₁ := S11 sc c z (oI 5) (some (.d (rowT c 4 4))) (oI 4) 5) rfl (r_round (k := 5) (by decide)) l_nil))))))
end
end Mine
end
section
open PySem
namespace Mine
theorem cmp_anti : ∀ (its : List (Nat × Int)) (x y : List Int), cmpI its y x = -cmpI its x y
  | [], _, _ => rfl
  | (k, t) :: its, x, y => by
    rw [cmpI_cons, cmpI_cons]
    rcases Int.lt_trichotomy (x.getD k 0) (y.getD k 0) with q | q | q
    · rw [if_neg (by omega), if_pos q, if_pos q, Int.neg_neg]
    · rw [if_neg (by omega), if_neg (by omega), if_neg (by omega), if_neg (by omega)]; exact cmp_anti its x y
    · rw [if_pos q, if_neg (by omega), if_pos q]
theorem szN_lt : ∀ z j : Nat, szN z j < 5 := by
  have key : (szT.all fun l => l.all fun x => Nat.blt x 5) = true := by decide
  intro z j
  unfold szN
  rw [List.getD_eq_getElem?_getD, List.getD_eq_getElem?_getD]
  cases e : szT[z]? with
  | none => simp
  | some l =>
    simp only [Option.getD_some]
    cases e2 : l[j]? with
    | none => simp
    | some x => exact Nat.le_of_ble_eq_true (List.all_eq_true.mp (List.all_eq_true.mp key l (List.mem_of_getElem? e)) x (List.mem_of_getElem? e2))
section
variable {c : Nat → Int} {sc : D} {n z : Nat}
theorem ITS_ok : ∀ p ∈ ITS c z, p.1 < 5 := by
  intro p hp
  simp only [ITS, List.mem_cons, List.not_mem_nil, or_false] at hp
  rcases hp with rfl | rfl | rfl | rfl | rfl
  · exact szN_lt z 0
  · exact szN_lt z 1
  · exact szN_lt z 2
  · exact szN_lt z 3
  · exact Nat.zero_lt_succ 4
noncomputable def wW (c : Nat → Int) (z i j : Nat) : Int := cmpI (ITS c z) (RW c i) (RW c j)
noncomputable def S13 (sc : D) (c : Nat → Int) (z : Nat) (i j way : Option V) (t : Nat) : List S := FR2 sc c z (some (.ref 8)) (oI 5) (some (.d (rowT c 5 4))) (oI 4) (some (.ref 9)) i j way none none none none :: (CE2 c z ++ [.mlist (rowsD c), .mdict false ((toldD (wW c z)).take t)])
theorem st12d : Gives (exT (OL n) s_law_12 LD (S11 sc c z (oI 5) (some (.d (rowT c 5 4))) (oI 4) 6)) .next (S13 sc c z none none none 0) := gives (by kernel_rfl!)
noncomputable def cB : List T := [.asg (.loc 10) (.meth 0 (.loc 1) [.sub (.loc 3) (.loc 8), .sub (.loc 3) (.loc 9)]), .ite (.or (.isi (.loc 10) 1) (.cmp .ne (.meth 0 (.loc 1) [.sub (.loc 3) (.loc 9), .sub (.loc 3) (.loc 8)]) (.neg (.loc 10)))) [.ret (.bool false)] [], .sets (.loc 7) (.bin .add true (.sub (.str [97, 98, 99, 100, 101, 102]) (.loc 8)) (.sub (.str [97, 98, 99, 100, 101, 102]) (.loc 9))) (.loc 10)]
theorem ri {i j : Nat} (hi : i < 6) {way : Option V} {t : Nat} : Gives ((run prg noOrc (n + 14)).ev (.sub (.loc 3) (.loc 8)) LD (S13 sc c z (oI i) (oI j) way t)) (.d (tupI (RW c i))) (S13 sc c z (oI i) (oI j) way t) := by
  match i, hi with
  | 0, _ | 1, _ | 2, _ | 3, _ | 4, _ | 5, _ => exact gives (by kernel_rfl!)
theorem rj {i j : Nat} (hj : j < 6) {way : Option V} {t : Nat} : Gives ((run prg noOrc (n + 14)).ev (.sub (.loc 3) (.loc 9)) LD (S13 sc c z (oI i) (oI j) way t)) (.d (tupI (RW c j))) (S13 sc c z (oI i) (oI j) way t) := by
  match j, hj with
  | 0, _ | 1, _ | 2, _ | 3, _ | 4, _ | 5, _ => exact gives (by kernel_rfl!)
theorem ksI {i j : Nat} (hi : i < 6) {way : Option V} {t : Nat} : Gives ((run prg noOrc (n + 14)).ev (.sub (.str [97, 98, 99, 100, 101, 102]) (.loc 8)) LD (S13 sc c z (oI i) (oI j) way t)) (.d (.str [97 + i])) (S13 sc c z (oI i) (oI j) way t) := by
  match i, hi with
  | 0, _ | 1, _ | 2, _ | 3, _ | 4, _ | 5, _ => exact gives (by kernel_rfl!)
theorem ksJ {i j : Nat} (hj : j < 6) {way : Option V} {t : Nat} : Gives ((run prg noOrc (n + 14)).ev (.sub (.str [97, 98, 99, 100, 101, 102]) (.loc 9)) LD (S13 sc c z (oI i) (oI j) way t)) (.d (.str [97 + j])) (S13 sc c z (oI i) (oI j) way t) := by
  match j, hj with
  | 0, _ | 1, _ | 2, _ | 3, _ | 4, _ | 5, _ => exact gives (by kernel_rfl!)
theorem c_step {i j t : Nat} (hi : i < 6) (hj : j < 6) {way : Option V} (hset : setAtV (.ref 9) (.d (.str [97 + i, 97 + j])) (.int (wW c z i j)) (S13 sc c z (oI i) (oI j) (some (.d (.int (wW c z i j)))) t) = some (S13 sc c z (oI i) (oI j) (some (.d (.int (wW c z i j)))) (t + 1))) :
    Gives ((run prg noOrc (n + 79)).ex cB LD (S13 sc c z (oI i) (oI j) way t)) .next (S13 sc c z (oI i) (oI j) (some (.d (.int (wW c z i j)))) (t + 1)) := by
  have hk : ∀ a b : Nat, ∀ p ∈ ITS c z, p.1 ≤ 4096 ∧ p.1 < (RW c a).length ∧ p.1 < (RW c b).length := fun a b p hp => by
    have := ITS_ok p hp
    exact ⟨by omega, this, this⟩
  have a1 : Gives ((run prg noOrc (n + 78)).ev (.meth 0 (.loc 1) [.sub (.loc 3) (.loc 8), .sub (.loc 3) (.loc 9)]) LD (S13 sc c z (oI i) (oI j) way t)) (.d (.int (wW c z i j))) (S13 sc c z (oI i) (oI j) way t) :=
    u (e_meth (f := 1) (c := 0) (fs := [(0, .list (itemsD (ITS c z)))]) (vs := [.d (tupI (RW c i)), .d (tupI (RW c j))]) (σ₁ := S13 sc c z (oI i) (oI j) way t) (gives rfl) (v_cons (ri (n := n + 63) hi) (v_cons (rj (n := n + 63) hj) v_nil)) rfl rfl rfl (con1 (n := n + 63) (hk i j)))
  let σ := S13 sc c z (oI i) (oI j) (some (.d (.int (wW c z i j)))) t
  have a2 : Gives ((run prg noOrc (n + 78)).ev (.meth 0 (.loc 1) [.sub (.loc 3) (.loc 9), .sub (.loc 3) (.loc 8)]) LD σ) (.d (.int (cmpI (ITS c z) (RW c j) (RW c i)))) σ :=
    u (e_meth (f := 1) (c := 0) (fs := [(0, .list (itemsD (ITS c z)))]) (vs := [.d (tupI (RW c j)), .d (tupI (RW c i))]) (σ₁ := σ) (gives rfl) (v_cons (rj (n := n + 63) hj) (v_cons (ri (n := n + 63) hi) v_nil)) rfl rfl rfl (con1 (n := n + 63) (hk j i)))
  have t1 : Gives (tst (run prg noOrc (n + 78)) (.or (.isi (.loc 10) 1) (.cmp .ne (.meth 0 (.loc 1) [.sub (.loc 3) (.loc 9), .sub (.loc 3) (.loc 8)]) (.neg (.loc 10)))) LD σ) false σ :=
    t_or0 (σ₁ := σ) (gives rfl) (t_cmp (c_cmp a2 (y := .d (.int (-wW c z i j))) (gives rfl) (by rw [nev, decide_eq_true (show cmpI (ITS c z) (RW c j) (RW c i) = -wW c z i j from cmp_anti (ITS c z) (RW c i) (RW c j))]; rfl)))
  have s3 : Gives ((run prg noOrc (n + 78)).ev (.bin .add true (.sub (.str [97, 98, 99, 100, 101, 102]) (.loc 8)) (.sub (.str [97, 98, 99, 100, 101, 102]) (.loc 9))) LD σ) (.d (.str [97 + i, 97 + j])) σ :=
    u (e_bin (ksI (n := n + 63) hi) (ksJ (n := n + 63) hj) (gives_ob (ob := [.len 2]) rfl (AllOk.cons (by show 2 ≤ sizeLine; rw [sizeLine_eq]; decide) .nil)))
  exact ux (x_cons (x_asg a1 (σ₂ := σ) rfl) (x_cons (x_ite t1 (gives rfl)) (x_cons (x_sets (v := .int (wW c z i j)) (ov := .ref 9) (σ₁ := σ) (σ₂ := σ) (gives rfl) (gives rfl) s3 hset) x_nil)))
theorem in_0 {j0 w0 : Option V} : Gives ((OL n).ex [.for1 [.loc 9] false .range [.loc 8, .int 6] cB] LD (S13 sc c z (oI 0) j0 w0 0)) .next (S13 sc c z (oI 0) (oI 5) (some (.d (.int (wW c z 0 5)))) 6) :=
  ux (x_cons (x_for (vs := [.d (.int (0 : Nat)), .d (.int 6)]) (items := [.int (0 : Nat), .int (1 : Nat), .int (2 : Nat), .int (3 : Nat), .int (4 : Nat), .int (5 : Nat)]) (lk := none) (σ₁ := S13 sc c z (oI 0) j0 w0 0) (gives rfl) rfl (l_cons (σ₁ := S13 sc c z (oI 0) (oI 0) w0 0) rfl (c_step (i := 0) (j := 0) (t := 0) (by decide) (by decide) (by kernel_rfl!)) (l_cons (σ₁ := S13 sc c z (oI 0) (oI 1) (some (.d (.int (wW c z 0 0)))) 1) rfl (c_step (i := 0) (j := 1) (t := 1) (by decide) (by decide) (by kernel_rfl!)) (l_cons (σ₁ := S13 sc c z (oI 0) (oI 2) (some (.d (.int (wW c z 0 1)))) 2) rfl (c_step (i := 0) (j := 2) (t := 2) (by decide) (by decide) (by kernel_rfl!)) (l_cons (σ₁ := S13 sc c z (oI 0) (oI 3) (some (.d (.int (wW c z 0 2)))) 3) rfl (c_step (i := 0) (j := 3) (t := 3) (by decide) (by decide) (by kernel_rfl!)) (l_cons (σ₁ := S13 sc c z (oI 0) (oI 4) (some (.d (.int (wW c z 0 3)))) 4) rfl (c_step (i := 0) (j := 4) (t := 4) (by decide) (by decide) (by kernel_rfl!)) (l_cons (σ₁ := S13 sc c z (oI 0) (oI 5) (some (.d (.int (wW c z 0 4)))) 5) rfl (c_step (i := 0) (j := 5) (t := 5) (by decide) (by decide) (by kernel_rfl!)) l_nil))))))) x_nil)
theorem in_1 {j0 w0 : Option V} : Gives ((OL n).ex [.for1 [.loc 9] false .range [.loc 8, .int 6] cB] LD (S13 sc c z (oI 1) j0 w0 6)) .next (S13 sc c z (oI 1) (oI 5) (some (.d (.int (wW c z 1 5)))) 11) :=
  ux (x_cons (x_for (vs := [.d (.int (1 : Nat)), .d (.int 6)]) (items := [.int (1 : Nat), .int (2 : Nat), .int (3 : Nat), .int (4 : Nat), .int (5 : Nat)]) (lk := none) (σ₁ := S13 sc c z (oI 1) j0 w0 6) (gives rfl) rfl (l_cons (σ₁ := S13 sc c z (oI 1) (oI 1) w0 6) rfl (c_step (i := 1) (j := 1) (t := 6) (by decide) (by decide) (by kernel_rfl!)) (l_cons (σ₁ := S13 sc c z (oI 1) (oI 2) (some (.d (.int (wW c z 1 1)))) 7) rfl (c_step (i := 1) (j := 2) (t := 7) (by decide) (by decide) (by kernel_rfl!)) (l_cons (σ₁ := S13 sc c z (oI 1) (oI 3) (some (.d (.int (wW c z 1 2)))) 8) rfl (c_step (i := 1) (j := 3) (t := 8) (by decide) (by decide) (by kernel_rfl!)) (l_cons (σ₁ := S13 sc c z (oI 1) (oI 4) (some (.d (.int (wW c z 1 3)))) 9) rfl (c_step (i := 1) (j := 4) (t := 9) (by decide) (by decide) (by kernel_rfl!)) (l_cons (σ₁ := S13 sc c z (oI 1) (oI 5) (some (.d (.int (wW c z 1 4)))) 10) rfl (c_step (i := 1) (j := 5) (t := 10) (by decide) (by decide) (by kernel_rfl!)) l_nil)))))) x_nil)
theorem in_2 {j0 w0 : Option V} : Gives ((OL n).ex [.for1 [.loc 9] false .range [.loc 8, .int 6] cB] LD (S13 sc c z (oI 2) j0 w0 11)) .next (S13 sc c z (oI 2) (oI 5) (some (.d (.int (wW c z 2 5)))) 15) :=
  ux (x_cons (x_for (vs := [.d (.int (2 : Nat)), .d (.int 6)]) (items := [.int (2 : Nat), .int (3 : Nat), .int (4 : Nat), .int (5 : Nat)]) (lk := none) (σ₁ := S13 sc c z (oI 2) j0 w0 11) (gives rfl) rfl (l_cons (σ₁ := S13 sc c z (oI 2) (oI 2) w0 11) rfl (c_step (i := 2) (j := 2) (t := 11) (by decide) (by decide) (by kernel_rfl!)) (l_cons (σ₁ := S13 sc c z (oI 2) (oI 3) (some (.d (.int (wW c z 2 2)))) 12) rfl (c_step (i := 2) (j := 3) (t := 12) (by decide) (by decide) (by kernel_rfl!)) (l_cons (σ₁ := S13 sc c z (oI 2) (oI 4) (some (.d (.int (wW c z 2 3)))) 13) rfl (c_step (i := 2) (j := 4) (t := 13) (by decide) (by decide) (by kernel_rfl!)) (l_cons (σ₁ := S13 sc c z (oI 2) (oI 5) (some (.d (.int (wW c z 2 4)))) 14) rfl (c_step (i := 2) (j := 5) (t := 14) (by decide) (by decide) (by kernel_rfl!)) l_nil))))) x_nil)
theorem in_3 {j0 w0 : Option V} : Gives ((OL n).ex [.for1 [.loc 9] false .range [.loc 8, .int 6] cB] LD (S13 sc c z (oI 3) j0 w0 15)) .next (S13 sc c z (oI 3) (oI 5) (some (.d (.int (wW c z 3 5)))) 18) :=
  ux (x_cons (x_for (vs := [.d (.int (3 : Nat)), .d (.int 6)]) (items := [.int (3 : Nat), .int (4 : Nat), .int (5 : Nat)]) (lk := none) (σ₁ := S13 sc c z (oI 3) j0 w0 15) (gives rfl) rfl (l_cons (σ₁ := S13 sc c z (oI 3) (oI 3) w0 15) rfl (c_step (i := 3) (j := 3) (t := 15) (by decide) (by decide) (by kernel_rfl!)) (l_cons (σ₁ := S13 sc c z (oI 3) (oI 4) (some (.d (.int (wW c z 3 3)))) 16) rfl (c_step (i := 3) (j := 4) (t := 16) (by decide) (by decide) (by kernel_rfl!)) (l_cons (σ₁ := S13 sc c z (oI 3) (oI 5) (some (.d (.int (wW c z 3 4)))) 17) rfl (c_step (i := 3) (j := 5) (t := 17) (by decide) (by decide) (by kernel_rfl!)) l_nil)))) x_nil)
theorem in_4 {j0 w0 : Option V} : Gives ((OL n).ex [.for1 [.loc 9] false .range [.loc 8, .int 6] cB] LD (S13 sc c z (oI 4) j0 w0 18)) .next (S13 sc c z (oI 4) (oI 5) (some (.d (.int (wW c z 4 5)))) 20) :=
  ux (x_cons (x_for (vs := [.d (.int (4 : Nat)), .d (.int 6)]) (items := [.int (4 : Nat), .int (5 : Nat)]) (lk := none) (σ₁ := S13 sc c z (oI 4) j0 w0 18) (gives rfl) rfl (l_cons (σ₁ := S13 sc c z (oI 4) (oI 4) w0 18) rfl (c_step (i := 4) (j := 4) (t := 18) (by decide) (by decide) (by kernel_rfl!)) (l_cons (σ₁ := S13 sc c z (oI 4) (oI 5) (some (.d (.int (wW c z 4 4)))) 19) rfl (c_step (i := 4) (j := 5) (t := 19) (by decide) (by decide) (by kernel_rfl!)) l_nil))) x_nil)
theorem in_5 {j0 w0 : Option V} : Gives ((OL n).ex [.for1 [.loc 9] false .range [.loc 8, .int 6] cB] LD (S13 sc c z (oI 5) j0 w0 20)) .next (S13 sc c z (oI 5) (oI 5) (some (.d (.int (wW c z 5 5)))) 21) :=
  ux (x_cons (x_for (vs := [.d (.int (5 : Nat)), .d (.int 6)]) (items := [.int (5 : Nat)]) (lk := none) (σ₁ := S13 sc c z (oI 5) j0 w0 20) (gives rfl) rfl (l_cons (σ₁ := S13 sc c z (oI 5) (oI 5) w0 20) rfl (c_step (i := 5) (j := 5) (t := 20) (by decide) (by decide) (by kernel_rfl!)) l_nil)) x_nil)
theorem st13 : Gives (exT (OL n) s_law_13 LD (S13 sc c z none none none 0)) .next (S13 sc c z (oI 5) (oI 5) (some (.d (.int (wW c z 5 5)))) 21) :=
  x_for (vs := [.d (.int 6)]) (items := [.int (0 : Nat), .int (1 : Nat), .int (2 : Nat), .int (3 : Nat), .int (4 : Nat), .int (5 : Nat)]) (lk := none) (σ₁ := S13 sc c z none none none 0) (gives rfl) rfl (l_cons (σ₁ := S13 sc c z (oI 0) none none 0) rfl in_0 (l_cons (σ₁ := S13 sc c z (oI 1) (oI 5) (some (.d (.int (wW c z 0 5)))) 6) rfl in_1 (l_cons (σ₁ := S13 sc c z (oI 2) (oI 5) (some (.d (.int (wW c z 1 5)))) 11) rfl in_2 (l_cons (σ₁ := S13 sc c z (oI 3) (oI 5) (some (.d (.int (wW c z 2 5)))) 15) rfl in_3 (l_cons (σ₁ := S13 sc c z (oI 4) (oI 5) (some (.d (.int (wW c z 3 5)))) 18) rfl in_4 (l_cons (σ₁ := S13 sc c z (oI 5) (oI 5) (some (.d (.int (wW c z 4 5)))) 20) rfl in_5 l_nil))))))
end
end Mine
end
section
open PySem
namespace Mine
theorem splitC_app (x : Nat) (b : List Nat) : ∀ a : List Nat, splitC x (a ++ x :: b) = splitC x a ++ splitC x b
  | [] => by
    show (match Nat.beq x x with | true => [] :: splitC x b | false => match splitC x b with | [] => [[x]] | w :: ws => (x :: w) :: ws) = [] :: splitC x b
    rw [Nat.beq_refl]
  | y :: a => by
    show splitC x (y :: (a ++ x :: b)) = _
    rw [splitC, splitC, splitC_app x b a]
    split
    · rfl
    · cases e : splitC x a with
      | nil => exact absurd e (split_ne x a)
      | cons w ws => rfl
theorem maxL_shift : ∀ (r : List Int) (x y : Int), maxL (if x < y then y else x) r = (if x < maxL y r then maxL y r else x)
  | [], x, y => rfl
  | a :: r, x, y => by
    show maxL (if (if x < y then y else x) < a then a else (if x < y then y else x)) r = if x < maxL (if y < a then a else y) r then maxL (if y < a then a else y) r else x
    rw [← maxL_shift r x (if y < a then a else y)]
    congr 1
    by_cases h1 : x < y <;> by_cases h2 : y < a <;> by_cases h3 : x < a <;> simp [h1, h2, h3] <;> omega
theorem maxL_app : ∀ (p : List Int) (x y : Int) (q : List Int), maxL x (p ++ y :: q) = (if maxL x p < maxL y q then maxL y q else maxL x p)
  | [], x, y, q => by show maxL (if x < y then y else x) q = _; rw [maxL_shift]; rfl
  | a :: p, x, y, q => by show maxL (if x < a then a else x) (p ++ y :: q) = _; rw [maxL_app p]; rfl
theorem lens_app (a b : List Nat) : lensI (a ++ 9 :: b) = lensI a ++ lensI b := by unfold lensI; rw [splitC_app, List.map_append]
theorem lens_ne (a : List Nat) : lensI a ≠ [] := fun e => split_ne 9 a (List.map_eq_nil_iff.mp e)
theorem maxI_app {a b : List Int} (ha : a ≠ []) (hb : b ≠ []) : maxI (a ++ b) = (if maxI a < maxI b then maxI b else maxI a) := by
  match a, ha, b, hb with
  | x :: p, _, y :: q, _ => exact maxL_app p x y q
theorem lens_LS {l : Nat} (h : l < 40) : maxI (lensI (LS l)) = LNG l := of_decide_eq_true (all40_at cLen h)
theorem max_pair {la lb : Nat} (ha : la < 40) (hb : lb < 40) : maxI (lensI (LS la ++ 9 :: LS lb)) + 1 = ((mxN la lb : Nat) : Int) := by
  rw [lens_app, maxI_app (lens_ne _) (lens_ne _), lens_LS ha, lens_LS hb]
  obtain ⟨e1, _⟩ := LN_of ha
  obtain ⟨e2, _⟩ := LN_of hb
  rw [e1, e2]; unfold mxN
  by_cases q : LN la < LN lb
  · rw [if_pos q, if_pos (by omega)]; omega
  · rw [if_neg q, if_neg (by omega)]; omega
noncomputable def WT (la lb : Nat) : List D := witL la lb (List.range (mxN la lb))
noncomputable def pairOk (la : Nat) : Bool := all40 fun lb => eqN la lb == D.eqvs (WT la lb) []
theorem cPair : all40 pairOk = true := by kernel_rfl!
theorem pair_ok {la lb : Nat} (ha : la < 40) (hb : lb < 40) : eqN la lb = D.eqvs (WT la lb) [] := beq_iff_eq.mp (all40_at (all40_at cPair ha : all40 _ = true) hb)
theorem wit_plain {la lb : Nat} : ∀ ss : List Nat, plainL (witL la lb ss) = true := fun ss => by
  unfold witL plainL
  rw [List.all_map]
  exact List.all_eq_true.mpr fun s _ => rfl
theorem wit_self {la lb : Nat} : ∀ ss : List Nat, D.eqvs (witL la lb ss) (witL la lb ss) = true := fun ss => by
  unfold witL
  generalize ss.filter _ = l
  induction l with
  | nil => rfl
  | cons s l ih =>
    show (D.eqvs ([((s + 1 : Nat) : Int), COL la s, COL lb s].map .int) ([((s + 1 : Nat) : Int), COL la s, COL lb s].map .int) && D.eqvs (l.map _) (l.map _)) = true
    rw [ih, eqvs_self]; rfl
end Mine
end
section
open PySem
namespace Mine
section
variable {c : Nat → Int} {sc : D} {n z : Nat}
noncomputable def wsL (c : Nat → Int) : List S := [.mlist (WT (ld c 0) (ld c 1)), .mlist (WT (ld c 1) (ld c 2)), .mlist (WT (ld c 2) (ld c 3)), .mlist (WT (ld c 3) (ld c 4)), .mlist (WT (ld c 4) (ld c 5)), .mlist (WT (ld c 5) (ld c 0))]
noncomputable def S14 (sc : D) (c : Nat → Int) (z : Nat) (size i j lg wi : Option V) (ws : List S) : List S := FR2 sc c z (some (.ref 8)) (oI 5) (some (.d (rowT c 5 4))) size (some (.ref 9)) i j (some (.d (.int (wW c z 5 5)))) lg wi none none :: (CE2 c z ++ .mlist (rowsD c) :: .mdict false (toldD (wW c z)) :: ws)
noncomputable def nx (i : Nat) : Nat := (i + 1) % 6
theorem q_wi {i : Nat} (hi : i < 6) {size j lg wi : Option V} {ws : List S} : Gives ((run prg noOrc (n + 14)).ev (.sub (.loc 2) (.loc 8)) LD (S14 sc c z size (oI i) j lg wi ws)) (.d (whN c i)) (S14 sc c z size (oI i) j lg wi ws) := by
  match i, hi with
  | 0, _ | 1, _ | 2, _ | 3, _ | 4, _ | 5, _ => exact gives (by kernel_rfl!)
theorem q_wj {j : Nat} (hj : j < 6) {size i lg wi : Option V} {ws : List S} : Gives ((run prg noOrc (n + 14)).ev (.sub (.loc 2) (.loc 9)) LD (S14 sc c z size i (oI j) lg wi ws)) (.d (whN c j)) (S14 sc c z size i (oI j) lg wi ws) := by
  match j, hj with
  | 0, _ | 1, _ | 2, _ | 3, _ | 4, _ | 5, _ => exact gives (by kernel_rfl!)
theorem q_li {i : Nat} (hi : i < 6) {size j lg wi : Option V} {ws : List S} : Gives ((run prg noOrc (n + 14)).ev (.sub (.cel 4) (.loc 8)) LD (S14 sc c z size (oI i) j lg wi ws)) (.d (.str (LS (ld c i)))) (S14 sc c z size (oI i) j lg wi ws) := by
  match i, hi with
  | 0, _ | 1, _ | 2, _ | 3, _ | 4, _ | 5, _ => exact gives (by kernel_rfl!)
theorem q_lj {j : Nat} (hj : j < 6) {size i lg wi : Option V} {ws : List S} : Gives ((run prg noOrc (n + 14)).ev (.sub (.cel 4) (.loc 9)) LD (S14 sc c z size i (oI j) lg wi ws)) (.d (.str (LS (ld c j)))) (S14 sc c z size i (oI j) lg wi ws) := by
  match j, hj with
  | 0, _ | 1, _ | 2, _ | 3, _ | 4, _ | 5, _ => exact gives (by kernel_rfl!)
theorem q_ci {i s : Nat} (hi : i < 6) (hs : s < 4) {j lg wi : Option V} {ws : List S} : Gives ((run prg noOrc (n + 14)).ev (.sub (.sub (.cel 5) (.loc 8)) (.bin .sub true (.loc 6) (.int 1))) LD (S14 sc c z (oI (s + 1)) (oI i) j lg wi ws)) (.d (.int (COL (ld c i) s))) (S14 sc c z (oI (s + 1)) (oI i) j lg wi ws) := by
  match s, hs with
  | 0, _ | 1, _ | 2, _ | 3, _ =>
    match i, hi with
    | 0, _ | 1, _ | 2, _ | 3, _ | 4, _ | 5, _ => exact gives (by kernel_rfl!)
theorem q_cj {j s : Nat} (hj : j < 6) (hs : s < 4) {i lg wi : Option V} {ws : List S} : Gives ((run prg noOrc (n + 14)).ev (.sub (.sub (.cel 5) (.loc 9)) (.bin .sub true (.loc 6) (.int 1))) LD (S14 sc c z (oI (s + 1)) i (oI j) lg wi ws)) (.d (.int (COL (ld c j) s))) (S14 sc c z (oI (s + 1)) i (oI j) lg wi ws) := by
  match s, hs with
  | 0, _ | 1, _ | 2, _ | 3, _ =>
    match j, hj with
    | 0, _ | 1, _ | 2, _ | 3, _ | 4, _ | 5, _ => exact gives (by kernel_rfl!)
/-- the witness under way -/
noncomputable def S15 (sc : D) (c : Nat → Int) (z i : Nat) (size lg : Option V) (acc : List D) : List S := S14 sc c z size (oI i) (oI (nx i)) lg (some (.ref (10 + i))) ((wsL c).take i ++ [.mlist acc])
theorem q_at {i : Nat} (hi : i < 6) {size lg : Option V} {acc : List D} : (S15 sc c z i size lg acc)[10 + i]? = some (.mlist acc) := by
  match i, hi with
  | 0, _ | 1, _ | 2, _ | 3, _ | 4, _ | 5, _ => rfl
theorem q_push {i : Nat} (hi : i < 6) {size lg : Option V} {acc : List D} {y : D} (ha : acc.length ≤ 100) : Gives (pushAt (10 + i) y (S15 sc c z i size lg acc)) () (S15 sc c z i size lg (acc ++ [y])) := by
  have h := p_push (y := y) (q_at (sc := sc) (c := c) (z := z) (size := size) (lg := lg) (acc := acc) hi) (room_of (by omega))
  have e : (S15 sc c z i size lg acc).set (10 + i) (.mlist (acc ++ [y])) = S15 sc c z i size lg (acc ++ [y]) := by
    match i, hi with
    | 0, _ | 1, _ | 2, _ | 3, _ | 4, _ | 5, _ => rfl
  rw [e] at h
  exact h
noncomputable def wB : List T := [.ite (.cmp .ne (.sub (.sub (.cel 5) (.loc 8)) (.bin .sub true (.loc 6) (.int 1))) (.sub (.sub (.cel 5) (.loc 9)) (.bin .sub true (.loc 6) (.int 1)))) [.exp (.append (.loc 12) (.tup [.loc 6, .sub (.sub (.cel 5) (.loc 8)) (.bin .sub true (.loc 6) (.int 1)), .sub (.sub (.cel 5) (.loc 9)) (.bin .sub true (.loc 6) (.int 1))]))] []]
theorem nx_lt (i : Nat) : nx i < 6 := Nat.mod_lt _ (by decide)
theorem w14_body {i s : Nat} (hi : i < 6) (hs : s < 4) {lg : Option V} {acc : List D} (ha : acc.length ≤ 100) :
    Gives ((run prg noOrc (n + 79)).ex wB LD (S15 sc c z i (oI (s + 1)) lg acc)) .next (S15 sc c z i (oI (s + 1)) lg (if COL (ld c i) s = COL (ld c (nx i)) s then acc else acc ++ [witE (ld c i) (ld c (nx i)) s])) := by
  have t1 : Gives (tst (run prg noOrc (n + 78)) (.cmp .ne (.sub (.sub (.cel 5) (.loc 8)) (.bin .sub true (.loc 6) (.int 1))) (.sub (.sub (.cel 5) (.loc 9)) (.bin .sub true (.loc 6) (.int 1)))) LD (S15 sc c z i (oI (s + 1)) lg acc)) (!decide (COL (ld c i) s = COL (ld c (nx i)) s)) (S15 sc c z i (oI (s + 1)) lg acc) :=
    t_cmp (c_cmp (q_ci (n := n + 64) hi hs) (q_cj (n := n + 64) (nx_lt i) hs) nev)
  by_cases q : COL (ld c i) s = COL (ld c (nx i)) s
  · rw [if_pos q]
    rw [decide_eq_true q] at t1
    exact ux (x_cons (x_ite t1 (gives rfl)) x_nil)
  · rw [if_neg q]
    rw [decide_eq_false q] at t1
    exact ux (x_cons (x_ite t1 (ux (x_cons (x_exp (u (e_append (n := 10 + i) (xs := acc) (σ₁ := S15 sc c z i (oI (s + 1)) lg acc) (σ₂ := S15 sc c z i (oI (s + 1)) lg acc) (gives rfl) (q_at hi) (e_dat (u (e_tup (vs := [.d (.int (s + 1 : Nat)), .d (.int (COL (ld c i) s)), .d (.int (COL (ld c (nx i)) s))]) (v_cons (gives rfl) (v_cons (q_ci (n := n + 61) hi hs) (v_cons (q_cj (n := n + 61) (nx_lt i) hs) v_nil))) rfl rfl))) (q_push hi ha)))) x_nil))) x_nil)
theorem w14_loop {i : Nat} (hi : i < 6) {lg : Option V} : ∀ (ss : List Nat) (acc : List D) (size : Option V), (∀ s ∈ ss, s < 4) → acc.length + ss.length ≤ 100 →
    ∃ size', Gives (forL (run prg noOrc (n + 79)) [.loc 6] false wB LD (ss.map fun s => D.int (s + 1 : Nat)) (S15 sc c z i size lg acc)) .next (S15 sc c z i size' lg (acc ++ witL (ld c i) (ld c (nx i)) ss))
  | [], acc, size, _, _ => ⟨size, by rw [show witL (ld c i) (ld c (nx i)) [] = [] from rfl, List.append_nil]; exact l_nil⟩
  | s :: ss, acc, size, h, hl => by
    rw [List.length_cons] at hl
    have hle : (if COL (ld c i) s = COL (ld c (nx i)) s then acc else acc ++ [witE (ld c i) (ld c (nx i)) s]).length + ss.length ≤ 100 := by
      split
      · omega
      · rw [List.length_append, List.length_singleton]; omega
    obtain ⟨size', ih⟩ := w14_loop hi (lg := lg) ss (if COL (ld c i) s = COL (ld c (nx i)) s then acc else acc ++ [witE (ld c i) (ld c (nx i)) s]) (oI (s + 1)) (fun x hx => h x (List.mem_cons_of_mem _ hx)) hle
    refine ⟨size', ?_⟩
    rw [witL_cons]
    exact l_cons (σ₁ := S15 sc c z i (oI (s + 1)) lg acc) rfl (w14_body hi (h s (List.mem_cons_self ..)) (by omega)) ih
end
end Mine
end
section
open PySem
namespace Mine
theorem evCmp_ne_r {σ : List S} {x y : List D} {m : Nat} (h : σ[m]? = some (.mlist y)) : evCmp .ne (.d (.list x)) (.ref m) σ = (eqIf x y).map (!·) := by
  have : lstOf σ (.ref m) = some y := by
    show (match σ[m]? with | some (.mlist xs) => some xs | _ => none) = _
    rw [h]
  show ((lstOf σ (.ref m)).bind fun y => eqIf x y).map (!·) = _
  rw [this]; rfl
theorem evCmp_eq_r {σ : List S} {x y : List D} {m : Nat} (h : σ[m]? = some (.mlist y)) : evCmp .eq (.ref m) (.d (.list x)) σ = eqIf y x := by
  have : lstOf σ (.ref m) = some y := by
    show (match σ[m]? with | some (.mlist xs) => some xs | _ => none) = _
    rw [h]
  show ((lstOf σ (.ref m)).bind fun y => eqIf y x) = _
  rw [this]; rfl
section
variable {c : Nat → Int} {sc : D} {n z : Nat}
noncomputable def pE : E := .bin .add true (.bin .add true (.sub (.cel 4) (.loc 8)) (.str [9])) (.sub (.cel 4) (.loc 9))
noncomputable def wT : E := .or (.cmp .ne (.meth 4 (.sub (.loc 2) (.loc 8)) [.sub (.loc 2) (.loc 9)]) (.loc 12)) (.is true (.meth 3 (.sub (.loc 2) (.loc 8)) [.sub (.loc 2) (.loc 9)]) (.cmp .eq (.loc 12) (.list true [])))
noncomputable def B14 : List T := [.asg (.loc 9) (.bin .mod true (.bin .add true (.loc 8) (.int 1)) (.int 6)), .asg (.loc 11) (mpE pE), .asg (.loc 12) (.list false []), .for1 [.loc 6] false .range [.int 1, .bin .add true (.loc 11) (.int 2)] wB, .ite wT [.ret (.bool false)] []]
theorem j_asg {i : Nat} (hi : i < 6) {size j lg wi : Option V} {ws : List S} : Gives (exT (run prg noOrc (n + 79)) (.asg (.loc 9) (.bin .mod true (.bin .add true (.loc 8) (.int 1)) (.int 6))) LD (S14 sc c z size (oI i) j lg wi ws)) .next (S14 sc c z size (oI i) (oI (nx i)) lg wi ws) := by
  match i, hi with
  | 0, _ | 1, _ | 2, _ | 3, _ | 4, _ | 5, _ => exact gives (by kernel_rfl!)
theorem w_asg {i : Nat} (hi : i < 6) {size lg wi : Option V} : Gives (exT (run prg noOrc (n + 79)) (.asg (.loc 12) (.list false [])) LD (S14 sc c z size (oI i) (oI (nx i)) lg wi ((wsL c).take i))) .next (S15 sc c z i size lg []) := by
  match i, hi with
  | 0, _ | 1, _ | 2, _ | 3, _ | 4, _ | 5, _ => exact gives (by kernel_rfl!)
theorem take_ws {i : Nat} (hi : i < 6) {size lg : Option V} : S15 sc c z i size lg (WT (ld c i) (ld c (nx i))) = S14 sc c z size (oI i) (oI (nx i)) lg (some (.ref (10 + i))) ((wsL c).take (i + 1)) := by
  match i, hi with
  | 0, _ | 1, _ | 2, _ | 3, _ | 4, _ | 5, _ => rfl
theorem r14 {i : Nat} (hi : i < 6) {size j0 lg0 wi0 : Option V} : ∃ size' lg', Gives ((OL n).ex B14 LD (S14 sc c z size (oI i) j0 lg0 wi0 ((wsL c).take i))) .next (S14 sc c z size' (oI i) (oI (nx i)) lg' (some (.ref (10 + i))) ((wsL c).take (i + 1))) := by
  have hl := ld_lt c i
  have hl' := ld_lt c (nx i)
  have le1 := LS_le hl
  have le2 := LS_le hl'
  have hmx := max_pair hl hl'
  have hm4 : mxN (ld c i) (ld c (nx i)) ≤ 4 := by
    obtain ⟨_, l1⟩ := LN_of hl
    obtain ⟨_, l2⟩ := LN_of hl'
    unfold mxN; split <;> omega
  let M : Int := maxI (lensI (LS (ld c i) ++ 9 :: LS (ld c (nx i))))
  let lg : Option V := some (.d (.int M))
  let σ1 := S14 sc c z size (oI i) (oI (nx i)) lg0 wi0 ((wsL c).take i)
  let σ2 := S14 sc c z size (oI i) (oI (nx i)) lg wi0 ((wsL c).take i)
  have a1 : Gives ((run prg noOrc (n + 76)).ev pE LD σ1) (.d (.str (LS (ld c i) ++ 9 :: LS (ld c (nx i))))) σ1 := by
    have e : LS (ld c i) ++ 9 :: LS (ld c (nx i)) = (LS (ld c i) ++ [9]) ++ LS (ld c (nx i)) := by rw [List.append_assoc]; rfl
    rw [e]
    exact u (e_bin (u (e_bin (q_li (n := n + 60) hi) (y := .d (.str [9])) (gives rfl) (gives_ob (ob := [.len (LS (ld c i) ++ [9]).length]) rfl (AllOk.cons (by show _ ≤ sizeLine; rw [sizeLine_eq, List.length_append, List.length_singleton]; omega) .nil)))) (q_lj (n := n + 61) (nx_lt i)) (gives_ob (ob := [.len ((LS (ld c i) ++ [9]) ++ LS (ld c (nx i))).length]) rfl (AllOk.cons (by show _ ≤ sizeLine; rw [sizeLine_eq, List.length_append, List.length_append, List.length_singleton]; omega) .nil)))
  have s2 : Gives (exT (run prg noOrc (n + 79)) (.asg (.loc 11) (mpE pE)) LD σ1) .next σ2 :=
    x_asg (e_pieces (n := n + 56) a1 (by rw [List.length_append, List.length_cons]; omega)) rfl
  obtain ⟨size', hlp⟩ := w14_loop (sc := sc) (c := c) (z := z) (n := n) hi (lg := lg) (List.range (mxN (ld c i) (ld c (nx i)))) [] size (fun s hs => by have := List.mem_range.mp hs; omega) (by simp; omega)
  let σ4 := S15 sc c z i size' lg (WT (ld c i) (ld c (nx i)))
  have hmx' : M + 2 = ((mxN (ld c i) (ld c (nx i)) : Nat) : Int) + 1 := by show maxI _ + 2 = _; omega
  have s4 : Gives (exT (run prg noOrc (n + 79)) (.for1 [.loc 6] false .range [.int 1, .bin .add true (.loc 11) (.int 2)] wB) LD (S15 sc c z i size lg [])) .next σ4 := by
    refine x_for (vs := [.d (.int 1), .d (.int (M + 2))]) (lk := none) (σ₁ := S15 sc c z i size lg []) (items := (List.range (mxN (ld c i) (ld c (nx i)))).map fun s => D.int (s + 1 : Nat)) (gives rfl) ?_ hlp
    rw [hmx']
    show gd (small64 (((mxN (ld c i) (ld c (nx i)) : Nat) : Int) + 1)) (some (rangeD 1 (((mxN (ld c i) (ld c (nx i)) : Nat) : Int) + 1), none)) = _
    have : small64 (((mxN (ld c i) (ld c (nx i)) : Nat) : Int) + 1) = true := (Nat.ble_eq_true_of_le (by omega) : small64 ((mxN (ld c i) (ld c (nx i)) + 1 : Nat) : Int) = true)
    rw [this, rangeD_one]; rfl
  have hat : σ4[10 + i]? = some (.mlist (WT (ld c i) (ld c (nx i)))) := q_at hi
  have m1 : Gives ((run prg noOrc (n + 79)).ev (.meth 4 (.sub (.loc 2) (.loc 8)) [.sub (.loc 2) (.loc 9)]) LD σ4) (.d (.list (WT (ld c i) (ld c (nx i))))) σ4 :=
    u (e_meth (f := 12) (c := 1) (fs := WF (ld c i) (LS (ld c i) ++ sufN i)) (vs := [.d (whN c (nx i))]) (σ₁ := σ4) (q_wi (n := n + 64) hi) (v_cons (q_wj (n := n + 64) (nx_lt i)) v_nil) rfl rfl rfl (con12 (n := n + 48) hl hl' _ _))
  have m2 : Gives ((run prg noOrc (n + 79)).ev (.meth 3 (.sub (.loc 2) (.loc 8)) [.sub (.loc 2) (.loc 9)]) LD σ4) (.d (.bool (eqN (ld c i) (ld c (nx i))))) σ4 :=
    u (e_meth (f := 11) (c := 1) (fs := WF (ld c i) (LS (ld c i) ++ sufN i)) (vs := [.d (whN c (nx i))]) (σ₁ := σ4) (q_wi (n := n + 64) hi) (v_cons (q_wj (n := n + 64) (nx_lt i)) v_nil) rfl rfl rfl (con11 (n := n + 64) hl hl' _ _))
  have c1 : evCmp .ne (.d (.list (WT (ld c i) (ld c (nx i))))) (.ref (10 + i)) σ4 = some false := by
    rw [evCmp_ne_r hat]
    unfold eqIf
    rw [show plainL (WT (ld c i) (ld c (nx i))) = true from wit_plain _]
    show some (!D.eqvs (WT (ld c i) (ld c (nx i))) (WT (ld c i) (ld c (nx i)))) = _
    rw [show D.eqvs (WT (ld c i) (ld c (nx i))) (WT (ld c i) (ld c (nx i))) = true from wit_self _]; rfl
  have c2 : evCmp .eq (.ref (10 + i)) (.d (.list [])) σ4 = some (eqN (ld c i) (ld c (nx i))) := by
    rw [evCmp_eq_r hat, pair_ok hl hl']
    unfold eqIf
    rw [show plainL (WT (ld c i) (ld c (nx i))) = true from wit_plain _]; rfl
  have c3 : evIs σ4 (.d (.bool (eqN (ld c i) (ld c (nx i))))) (.d (.bool (eqN (ld c i) (ld c (nx i))))) = some true := by
    show some (eqN (ld c i) (ld c (nx i)) == eqN (ld c i) (ld c (nx i))) = _
    rw [beq_self_eq_true]
  have t1 : Gives (tst (run prg noOrc (n + 79)) wT LD σ4) false σ4 :=
    t_or0 (t_cmp (c_cmp m1 (y := .ref (10 + i)) (gives rfl) c1)) (t_is (c_is (c := true) m2 (y := .d (.bool (eqN (ld c i) (ld c (nx i))))) (u (e_cmp (c_cmp (x := .ref (10 + i)) (y := .d (.list [])) (gives rfl) (gives rfl) c2))) c3))
  refine ⟨size', lg, ?_⟩
  rw [← take_ws hi]
  exact ux (x_cons (j_asg hi) (x_cons s2 (x_cons (w_asg hi) (x_cons s4 (x_cons (x_ite t1 (gives rfl)) x_nil)))))
theorem st14 : ∃ size lg wi, Gives (exT (OL n) s_law_14 LD (S13 sc c z (oI 5) (oI 5) (some (.d (.int (wW c z 5 5)))) 21)) .next (S14 sc c z size (oI 5) (oI 0) lg wi (wsL c)) := by
  obtain ⟨z0, l0, h0⟩ := r14 (sc := sc) (c := c) (z := z) (n := n) (i := 0) (by decide) (size := oI 4) (j0 := oI 5) (lg0 := none) (wi0 := none)
  obtain ⟨z1, l1, h1⟩ := r14 (sc := sc) (c := c) (z := z) (n := n) (i := 1) (by decide) (size := z0) (j0 := oI (nx 0)) (lg0 := l0) (wi0 := some (.ref 10))
  obtain ⟨z2, l2, h2⟩ := r14 (sc := sc) (c := c) (z := z) (n := n) (i := 2) (by decide) (size := z1) (j0 := oI (nx 1)) (lg0 := l1) (wi0 := some (.ref 11))
  obtain ⟨z3, l3, h3⟩ := r14 (sc := sc) (c := c) (z := z) (n := n) (i := 3) (by decide) (size := z2) (j0 := oI (nx 2)) (lg0 := l2) (wi0 := some (.ref 12))
  obtain ⟨z4, l4, h4⟩ := r14 (sc := sc) (c := c) (z := z) (n := n) (i := 4) (by decide) (size := z3) (j0 := oI (nx 3)) (lg0 := l3) (wi0 := some (.ref 13))
  obtain ⟨z5, l5, h5⟩ := r14 (sc := sc) (c := c) (z := z) (n := n) (i := 5) (by decide) (size := z4) (j0 := oI (nx 4)) (lg0 := l4) (wi0 := some (.ref 14))
  refine ⟨z5, l5, some (.ref 15), ?_⟩
  exact x_for (vs := [.d (.int 6)]) (items := [.int (0 : Nat), .int (1 : Nat), .int (2 : Nat), .int (3 : Nat), .int (4 : Nat), .int (5 : Nat)]) (lk := none) (σ₁ := S14 sc c z (oI 4) (oI 5) (oI 5) none none []) (gives rfl) rfl
    (l_cons (σ₁ := S14 sc c z (oI 4) (oI 0) (oI 5) none none []) rfl h0 (l_cons (σ₁ := S14 sc c z z0 (oI 1) (oI (nx 0)) l0 (some (.ref 10)) ((wsL c).take 1)) rfl h1 (l_cons (σ₁ := S14 sc c z z1 (oI 2) (oI (nx 1)) l1 (some (.ref 11)) ((wsL c).take 2)) rfl h2
      (l_cons (σ₁ := S14 sc c z z2 (oI 3) (oI (nx 2)) l2 (some (.ref 12)) ((wsL c).take 3)) rfl h3 (l_cons (σ₁ := S14 sc c z z3 (oI 4) (oI (nx 3)) l3 (some (.ref 13)) ((wsL c).take 4)) rfl h4 (l_cons (σ₁ := S14 sc c z z4 (oI 5) (oI (nx 4)) l4 (some (.ref 14)) ((wsL c).take 5)) rfl h5 l_nil))))))
end
end Mine
end
section
open PySem
namespace Mine
section
variable {G : Prog} {O : Ops} {d : Dsc} {σ σ₁ σ₂ σ₃ σ₄ : List S}
theorem p2_nil {n : Nat} {x x2 : X} {k2 : IK} {ia2 : List E} {t : Option E} {elt : E} : Gives (compL2 O n x x2 k2 ia2 t elt d [] σ) () σ := gives rfl
theorem p2_cons {n : Nat} {x x2 : X} {k2 : IK} {ia2 : List E} {t : Option E} {elt : E} {it : D} {r items : List D} {vs : List V} (h1 : putX x d (.d it) σ = some σ₁) (h2 : Gives (evs O d ia2 σ₁) vs σ₂) (h3 : iterOf k2 vs σ₂ = some (items, none)) (h4 : Gives (compL O n x2 t elt d items σ₂) () σ₃) (h5 : Gives (compL2 O n x x2 k2 ia2 t elt d r σ₃) () σ₄) :
    Gives (compL2 O n x x2 k2 ia2 t elt d (it :: r) σ) () σ₄ := by
  unfold compL2
  rw [h1]
  refine h2.bnd ?_
  show Gives ((iterU k2 vs σ₂).bind fun items => bnd (compL O n x2 t elt d items σ₂) fun _ σ => compL2 O n x x2 k2 ia2 t elt d r σ) _ _
  rw [iterU_of h3]
  exact h4.bnd h5
theorem e_comp2 {nt : CNT} {x x2 : X} {k k2 : IK} {ia ia2 : List E} {t : Option E} {elt : E} {vs : List V} {items : List D} {js : List Nat} {fs σc σ' r : List S} {xs : List D} {fr : List (Option V)} (h1 : Gives (evs O d ia σ) vs σ₁) (h2 : iterOf k vs σ₁ = some (items, none)) (h3 : cellsAt d nt.free = some js) (h4 : subS js σ₁ = some fs)
    (h5 : Gives (compL2 O js.length x x2 k2 ia2 t elt (compDsc nt js.length) items (compSt nt fs)) () σc) (h6 : backS js σc σ₁ = some (σ', .mlist xs :: .frame fr :: r)) : Gives (evStep G O (.comp2 nt x k ia x2 k2 ia2 t elt) d σ) (.d (.list xs)) σ' := by
  refine h1.bnd ?_
  show Gives ((iterU k vs σ₁).bind fun items => compRun nt d σ₁ fun m d' σc => compL2 O m x x2 k2 ia2 t elt d' items σc) _ _
  rw [iterU_of h2]
  exact run_comp (f := fun m d' σc => compL2 O m x x2 k2 ia2 t elt d' items σc) h3 h4 h5 h6
end
theorem evCmp_gt_l {σ : List S} {x y : List Int} : evCmp .gt (.d (rowD x)) (.d (rowD y)) σ = some (gtInts x y) := by
  show ((intsOf (x.map .int)).bind fun p => (intsOf (y.map .int)).bind fun q => some (gtInts p q)) = _
  rw [intsOf_map, intsOf_map]; rfl
noncomputable def KG (K : List (List Int)) (i : Nat) : List Int := K.getD i []
theorem sub_heap {K : List (List Int)} {i : Nat} (hi : i < K.length) (h6 : K.length ≤ 6) {σ : List S} : evSub (.d (heapD K)) (.d (.int i)) σ = some (rowD (KG K i)) := by
  rw [evSub_lst, placeOf_nat (by omega)]
  show (K.map rowD)[i]? = _
  rw [List.getElem?_map, List.getElem?_eq_getElem hi]
  unfold KG
  rw [List.getD_eq_getElem?_getD, List.getElem?_eq_getElem hi]; rfl
noncomputable def fC : E := .cmp .gt (.sub (.cel 0) (.loc 1)) (.sub (.cel 0) (.loc 0))
noncomputable abbrev ones (m : Nat) : List D := List.replicate m (.int 1)
theorem fall_in {n : Nat} {K : List (List Int)} {j : Nat} (hj : j < K.length) (h6 : K.length ≤ 6) : ∀ (is : List Nat) (m : Nat) (v : Option V), (∀ i ∈ is, i < K.length) → m + is.length ≤ 100 →
    ∃ v', Gives (compL (run prg noOrc (n + 14)) 1 (.loc 1) (some fC) (.int 1) ⟨2, [0]⟩ (is.map fun i => D.int (i : Nat)) [.cell (some (heapD K)), .mlist (ones m), .frame [oI j, v]]) () [.cell (some (heapD K)), .mlist (ones (m + (is.filter fun i => gtInts (KG K i) (KG K j)).length)), .frame [oI j, v']]
  | [], m, v, _, _ => ⟨v, p_nil⟩
  | i :: is, m, v, h, hm => by
    rw [List.length_cons] at hm
    have hi := h i (List.mem_cons_self ..)
    let σ : List S := [.cell (some (heapD K)), .mlist (ones m), .frame [oI j, oI i]]
    have ht : Gives (tst (run prg noOrc (n + 14)) fC ⟨2, [0]⟩ σ) (gtInts (KG K i) (KG K j)) σ :=
      t_cmp (c_cmp (σ₁ := σ) (u (e_sub (x := .d (heapD K)) (y := .d (.int (i : Nat))) (σ₁ := σ) (gives rfl) (gives rfl) (sub_heap hi h6))) (u (e_sub (x := .d (heapD K)) (y := .d (.int (j : Nat))) (σ₁ := σ) (gives rfl) (gives rfl) (sub_heap hj h6))) evCmp_gt_l)
    by_cases q : gtInts (KG K i) (KG K j) = true
    · obtain ⟨v', ih⟩ := fall_in (n := n) hj h6 is (m + 1) (oI i) (fun i hi => h i (List.mem_cons_of_mem _ hi)) (by omega)
      refine ⟨v', ?_⟩
      rw [q] at ht
      have e : m + ((i :: is).filter fun i => gtInts (KG K i) (KG K j)).length = m + 1 + (is.filter fun i => gtInts (KG K i) (KG K j)).length := by
        rw [List.filter_cons, if_pos q, List.length_cons]; omega
      rw [e]
      refine p_take (σ₁ := σ) rfl ht (e_dat (gives rfl)) (p_push (xs := ones m) rfl (room_of (by rw [List.length_replicate]; omega))) ?_
      have e2 : ones m ++ [D.int 1] = ones (m + 1) := (List.replicate_succ').symm
      rw [e2]
      exact ih
    · obtain ⟨v', ih⟩ := fall_in (n := n) hj h6 is m (oI i) (fun i hi => h i (List.mem_cons_of_mem _ hi)) (by omega)
      refine ⟨v', ?_⟩
      have q' : gtInts (KG K i) (KG K j) = false := by simpa using q
      rw [q'] at ht
      have e : ((i :: is).filter fun i => gtInts (KG K i) (KG K j)) = (is.filter fun i => gtInts (KG K i) (KG K j)) := by
        rw [List.filter_cons, if_neg q]
      rw [e]
      exact p_skip (σ₁ := σ) rfl ht ih
noncomputable def fallN (K : List (List Int)) (j : Nat) : Nat := ((List.range j).filter fun i => gtInts (KG K i) (KG K j)).length
theorem fallN_le (K : List (List Int)) (j : Nat) : fallN K j ≤ j := by
  have := List.length_filter_le (fun i => gtInts (KG K i) (KG K j)) (List.range j)
  rw [List.length_range] at this; exact this
theorem rangeD_zero (n : Nat) : rangeD 0 (n : Int) = (List.range n).map fun s => D.int (s : Nat) := by
  unfold rangeD
  have : ((n : Int) - 0).toNat = n := by omega
  rw [this]
  refine List.map_congr_left fun s _ => ?_
  rw [Int.zero_add]
theorem fall_out {n : Nat} {K : List (List Int)} (h6 : K.length ≤ 6) : ∀ (js : List Nat) (m : Nat) (v w : Option V), (∀ j ∈ js, j < K.length) → m + (js.length * 6) ≤ 90 →
    ∃ v' w', Gives (compL2 (run prg noOrc (n + 14)) 1 (.loc 0) (.loc 1) .range [.loc 0] (some fC) (.int 1) ⟨2, [0]⟩ (js.map fun i => D.int (i : Nat)) [.cell (some (heapD K)), .mlist (ones m), .frame [v, w]]) () [.cell (some (heapD K)), .mlist (ones (m + (js.map (fallN K)).sum)), .frame [v', w']]
  | [], m, v, w, _, _ => ⟨v, w, p2_nil⟩
  | j :: js, m, v, w, h, hm => by
    rw [List.length_cons] at hm
    have hj := h j (List.mem_cons_self ..)
    have hf := fallN_le K j
    obtain ⟨w1, h1⟩ := fall_in (n := n) hj h6 (List.range j) m w (fun i hi => by have := List.mem_range.mp hi; omega) (by rw [List.length_range]; omega)
    obtain ⟨v', w', ih⟩ := fall_out (n := n) h6 js (m + fallN K j) (oI j) w1 (fun i hi => h i (List.mem_cons_of_mem _ hi)) (by omega)
    refine ⟨v', w', ?_⟩
    have e : m + ((j :: js).map (fallN K)).sum = m + fallN K j + (js.map (fallN K)).sum := by rw [List.map_cons, List.sum_cons]; omega
    rw [e]
    refine p2_cons (σ₁ := [.cell (some (heapD K)), .mlist (ones m), .frame [oI j, w]]) (vs := [.d (.int (j : Nat))]) rfl (v_cons (gives rfl) v_nil) ?_ h1 ih
    show gd (small64 (j : Int)) (some (rangeD 0 (j : Int), none)) = _
    have : small64 (j : Int) = true := Nat.ble_eq_true_of_le (by omega)
    rw [this, rangeD_zero]; rfl
section
variable {c : Nat → Int} {sc : D} {n z : Nat}
noncomputable def fallsN (c : Nat → Int) (z : Nat) : Nat := ([0, 1, 2, 3, 4, 5].map (fallN (keyedL c z))).sum
noncomputable def S16 (sc : D) (c : Nat → Int) (z : Nat) (size lg wi f w : Option V) : List S := FR2 sc c z (some (.ref 8)) (oI 5) (some (.d (rowT c 5 4))) size (some (.ref 9)) (oI 5) (oI 0) (some (.d (.int (wW c z 5 5)))) lg wi f w :: (CE2 c z ++ .mlist (rowsD c) :: .mdict false (toldD (wW c z)) :: wsL c)
theorem falls_le : fallsN c z ≤ 15 := by
  have h := fun j => fallN_le (keyedL c z) j
  have := h 0; have := h 1; have := h 2; have := h 3; have := h 4; have := h 5
  unfold fallsN
  simp only [List.map_cons, List.map_nil, List.sum_cons, List.sum_nil]
  omega
theorem st15 {size lg wi : Option V} : Gives (exT (OL n) s_law_15 LD (S16 sc c z size lg wi none none)) .next (S16 sc c z size lg wi (oI (fallsN c z)) none) := by
  obtain ⟨v', w', h⟩ := fall_out (n := n + 64) (K := keyedL c z) (Nat.le_refl _) [0, 1, 2, 3, 4, 5] 0 none none (fun j hj => by
    simp only [List.mem_cons, List.not_mem_nil, or_false] at hj
    show j < 6
    omega) (by simp)
  rw [Nat.zero_add] at h
  refine x_asg (v := .d (.int (fallsN c z : Nat))) (u (e_len (x := .d (.list (ones (fallsN c z)))) (n := fallsN c z) (σ₁ := S16 sc c z size lg wi none none) (u (e_comp2 (vs := [.d (.int 6)]) (items := [.int (0 : Nat), .int (1 : Nat), .int (2 : Nat), .int (3 : Nat), .int (4 : Nat), .int (5 : Nat)]) (js := [7]) (fs := [.cell (some (heapD (keyedL c z)))]) (σ₁ := S16 sc c z size lg wi none none) (gives rfl) rfl rfl rfl h rfl)) ?_ (room_of (by have := falls_le (c := c) (z := z); omega)))) rfl
  show some (ones (fallsN c z)).length = _
  rw [List.length_replicate]
end
end Mine
end
section
open PySem
namespace Mine
noncomputable def Lm (T : Nat) (x : Int) (a k : Nat) : Prop := x.natAbs ≤ a * T ^ k
theorem Lm.mul {T : Nat} {x y : Int} {a b k m : Nat} (h : Lm T x a k) (g : Lm T y b m) : Lm T (x * y) (a * b) (k + m) := by
  unfold Lm at *
  rw [Int.natAbs_mul, Nat.pow_add]
  calc x.natAbs * y.natAbs ≤ (a * T ^ k) * (b * T ^ m) := Nat.mul_le_mul h g
    _ = a * b * (T ^ k * T ^ m) := by ac_rfl
theorem Lm.neg {T : Nat} {x : Int} {a k : Nat} (h : Lm T x a k) : Lm T (-x) a k := by unfold Lm at *; rw [Int.natAbs_neg]; exact h
theorem Lm.add {T : Nat} {x y : Int} {a b k : Nat} (h : Lm T x a k) (g : Lm T y b k) : Lm T (x + y) (a + b) k := by
  unfold Lm at *
  rw [Nat.add_mul]
  exact Nat.le_trans (Int.natAbs_add_le x y) (Nat.add_le_add h g)
theorem Lm.one {T : Nat} : Lm T 1 1 0 := by unfold Lm; simp
theorem Lm.of {T : Nat} {x : Int} (h : x.natAbs ≤ T) : Lm T x 1 1 := by unfold Lm; simpa using h
theorem Lm.fin {T : Nat} (hT : 3 ≤ T) {x : Int} {a k : Nat} (h : Lm T x a k) (ha : a ≤ 3) (hk : k ≤ 2) : x.natAbs ≤ T ^ 3 := by
  unfold Lm at h
  have h1 : T ^ k ≤ T ^ 2 := Nat.pow_le_pow_right (by omega) hk
  have h2 : a * T ^ k ≤ T * T ^ 2 := Nat.mul_le_mul (by omega) h1
  have h3 : T ^ 3 = T * T ^ 2 := by rw [Nat.pow_succ, Nat.mul_comm]
  omega
set_option maxHeartbeats 4000000 in
theorem pf_ok {T : Nat} (hT : TOk T) (h3 : 3 ≤ T) {w : Nat → Nat → Int} (hw : ∀ i j, (w i j).natAbs ≤ T) : AllOk (pfObs w) := by
  have len : ∀ m : Nat, m ≤ 10 → OB.ok (.len m) := fun m h => by show m ≤ sizeLine; rw [sizeLine_eq]; omega
  have mul : ∀ {x y : Int} {a b k m : Nat}, Lm T x a k → Lm T y b m → a ≤ 3 → k ≤ 2 → b ≤ 3 → m ≤ 2 → OB.ok (.mul x y) := fun h g a b c d => hT.mul _ _ (h.fin h3 a b) (g.fin h3 c d)
  have v : ∀ {i j : Nat}, Lm T (w i j) 1 1 := Lm.of (hw _ _)
  exact (AllOk.cons (len 2 (by decide)) (AllOk.cons (mul Lm.one v (by decide) (by decide) (by decide) (by decide)) (AllOk.cons (len 4 (by decide)) (AllOk.cons (len 2 (by decide)) (AllOk.cons (mul Lm.one v (by decide) (by decide) (by decide) (by decide)) (AllOk.cons (len 4 (by decide)) (AllOk.cons (len 2 (by decide)) (AllOk.cons (mul Lm.one v (by decide) (by decide) (by decide) (by decide)) (AllOk.cons (len 4 (by decide)) (AllOk.cons (len 2 (by decide)) (AllOk.cons (mul Lm.one v (by decide) (by decide) (by decide) (by decide)) (AllOk.cons (len 4 (by decide)) (AllOk.cons (len 2 (by decide)) (AllOk.cons (mul Lm.one v (by decide) (by decide) (by decide) (by decide)) (AllOk.cons (len 4 (by decide)) (AllOk.cons (len 2 (by decide)) (AllOk.cons (mul (Lm.mul Lm.one v) v (by decide) (by decide) (by decide) (by decide)) (AllOk.cons (len 2 (by decide)) (AllOk.cons (len 2 (by decide)) (AllOk.cons (mul (Lm.mul Lm.one v) v (by decide) (by decide) (by decide) (by decide)) (AllOk.cons (len 2 (by decide)) (AllOk.cons (len 2 (by decide)) (AllOk.cons (mul (Lm.mul Lm.one v) v (by decide) (by decide) (by decide) (by decide)) (AllOk.cons (len 2 (by decide)) (AllOk.cons (len 2 (by decide)) (AllOk.cons (mul (Lm.neg (Lm.mul Lm.one v)) v (by decide) (by decide) (by decide) (by decide)) (AllOk.cons (len 2 (by decide)) (AllOk.cons (len 2 (by decide)) (AllOk.cons (mul (Lm.neg (Lm.mul Lm.one v)) v (by decide) (by decide) (by decide) (by decide)) (AllOk.cons (len 2 (by decide)) (AllOk.cons (len 2 (by decide)) (AllOk.cons (mul (Lm.neg (Lm.mul Lm.one v)) v (by decide) (by decide) (by decide) (by decide)) (AllOk.cons (len 2 (by decide)) (AllOk.cons (len 2 (by decide)) (AllOk.cons (mul (Lm.mul Lm.one v) v (by decide) (by decide) (by decide) (by decide)) (AllOk.cons (len 2 (by decide)) (AllOk.cons (len 2 (by decide)) (AllOk.cons (mul (Lm.mul Lm.one v) v (by decide) (by decide) (by decide) (by decide)) (AllOk.cons (len 2 (by decide)) (AllOk.cons (len 2 (by decide)) (AllOk.cons (mul (Lm.mul Lm.one v) v (by decide) (by decide) (by decide) (by decide)) (AllOk.cons (len 2 (by decide)) (AllOk.cons (len 2 (by decide)) (AllOk.cons (mul (Lm.neg (Lm.mul Lm.one v)) v (by decide) (by decide) (by decide) (by decide)) (AllOk.cons (len 2 (by decide)) (AllOk.cons (len 2 (by decide)) (AllOk.cons (mul (Lm.neg (Lm.mul Lm.one v)) v (by decide) (by decide) (by decide) (by decide)) (AllOk.cons (len 2 (by decide)) (AllOk.cons (len 2 (by decide)) (AllOk.cons (mul (Lm.neg (Lm.mul Lm.one v)) v (by decide) (by decide) (by decide) (by decide)) (AllOk.cons (len 2 (by decide)) (AllOk.cons (len 2 (by decide)) (AllOk.cons (mul (Lm.mul Lm.one v) v (by decide) (by decide) (by decide) (by decide)) (AllOk.cons (len 2 (by decide)) (AllOk.cons (len 2 (by decide)) (AllOk.cons (mul (Lm.mul Lm.one v) v (by decide) (by decide) (by decide) (by decide)) (AllOk.cons (len 2 (by decide)) (AllOk.cons (len 2 (by decide)) (AllOk.cons (mul (Lm.mul Lm.one v) v (by decide) (by decide) (by decide) (by decide)) (AllOk.cons (len 2 (by decide)) (AllOk.cons (mul (Lm.add (Lm.mul (Lm.neg (Lm.mul Lm.one v)) v) (Lm.mul (Lm.mul Lm.one v) v)) v (by decide) (by decide) (by decide) (by decide)) (AllOk.cons (mul (Lm.add (Lm.mul (Lm.mul Lm.one v) v) (Lm.neg (Lm.mul (Lm.mul Lm.one v) v))) v (by decide) (by decide) (by decide) (by decide)) (AllOk.cons (mul (Lm.add (Lm.neg (Lm.mul (Lm.mul Lm.one v) v)) (Lm.neg (Lm.mul (Lm.neg (Lm.mul Lm.one v)) v))) v (by decide) (by decide) (by decide) (by decide)) (AllOk.cons (mul (Lm.add (Lm.add (Lm.mul (Lm.mul Lm.one v) v) (Lm.mul (Lm.neg (Lm.mul Lm.one v)) v)) (Lm.mul (Lm.mul Lm.one v) v)) v (by decide) (by decide) (by decide) (by decide)) (AllOk.cons (mul (Lm.add (Lm.add (Lm.neg (Lm.mul (Lm.mul Lm.one v) v)) (Lm.neg (Lm.mul (Lm.neg (Lm.mul Lm.one v)) v))) (Lm.mul (Lm.neg (Lm.mul Lm.one v)) v)) v (by decide) (by decide) (by decide) (by decide)) (AllOk.cons (mul (Lm.add (Lm.add (Lm.mul (Lm.mul Lm.one v) v) (Lm.mul (Lm.neg (Lm.mul Lm.one v)) v)) (Lm.mul (Lm.mul Lm.one v) v)) v (by decide) (by decide) (by decide) (by decide)) .nil))))))))))))))))))))))))))))))))))))))))))))))))))))))))))))))))))
section
variable {O : Ops} {σ : List S}
theorem cmpI_le {T : Nat} : ∀ (its : List (Nat × Int)) (x y : List Int), (∀ p ∈ its, p.2.natAbs ≤ T) → (cmpI its x y).natAbs ≤ T
  | [], _, _, _ => Nat.zero_le _
  | (k, t) :: its, x, y, h => by
    have ht := h (k, t) (List.mem_cons_self ..)
    rw [cmpI_cons]
    split
    · rw [Int.natAbs_neg]; exact ht
    · split
      · exact ht
      · exact cmpI_le its x y fun p hp => h p (List.mem_cons_of_mem _ hp)
end
section
variable {c : Nat → Int} {sc : D} {n z : Nat}
theorem wW_le {T : Nat} (hc : ∀ k, (c k).natAbs ≤ T) (i j : Nat) : (wW c z i j).natAbs ≤ T := by
  refine cmpI_le _ _ _ fun p hp => ?_
  simp only [ITS, List.mem_cons, List.not_mem_nil, or_false] at hp
  rcases hp with rfl | rfl | rfl | rfl | rfl <;> exact hc _
theorem keyed_nodup : (keyedL c z).Nodup := by simp [keyedL, KY]
theorem keyed_len : ∀ r ∈ keyedL c z, r.length = (TU c z).length := by
  intro r hr
  simp only [keyedL, List.mem_cons, List.not_mem_nil, or_false] at hr
  rcases hr with rfl | rfl | rfl | rfl | rfl | rfl <;> rfl
noncomputable def WO (c : Nat → Int) (z : Nat) : Int := worthI (TU c z) (keyedL c z)
theorem st16 {T : Nat} (hT : TOk T) (hc : ∀ k, (c k).natAbs ≤ T) {size lg wi f : Option V} : Gives (exT (OL n) s_law_16 LD (S16 sc c z size lg wi f none)) .next (S16 sc c z size lg wi f (some (.d (.int (WO c z))))) := by
  have h := con16 (n := n + 45) hT (TU c z) (keyedL c z) (by show 5 ≤ 50; decide) (Nat.le_refl _) keyed_len keyed_nodup (fun x hx => by
    simp only [TU, List.mem_cons, List.not_mem_nil, or_false] at hx
    rcases hx with rfl | rfl | rfl | rfl | rfl <;> exact hc _)
  have e : n + 45 + 4 * (TU c z).length + 14 = n + 79 := by show n + 45 + 4 * 5 + 14 = n + 79; omega
  rw [e] at h
  exact x_asg (σ₁ := S16 sc c z size lg wi f none) (u (e_call (vs := [.d (heapD (keyedL c z)), .d (rowD (TU c z))]) (σ₁ := S16 sc c z size lg wi f none) (gives rfl) (callAt_d rfl h))) rfl
theorem callAt_r {O : Ops} {f m : Nat} {x : D} {es : List (List Nat × D)} {ob : List OB} {σ : List S} (h1 : σ[m]? = some (.mdict false es)) (h2 : σ.set m (.mdict false es) = σ) (h : O.call f [.ref 0] [.mdict false es] = some (.d x, [.mdict false es], ob)) : callAt O f [.ref m] σ = some (.d x, σ, ob) := by
  have e1 : refsOf [V.ref m] 0 = ([.ref 0], [m]) := rfl
  have e2 : subS [m] σ = some [.mdict false es] := by
    show ((σ[m]?).bind fun x => (subS [] σ).bind fun r => gd x.part (some (x :: r))) = _
    rw [h1]; rfl
  have e3 : backS [m] [.mdict false es] σ = some (σ, []) := by
    show some (σ.set m (.mdict false es), ([] : List S)) = _
    rw [h2]
  show ((subS [m] σ).bind fun σs => bnd (O.call f [.ref 0] σs) fun r σs' => (backS [m] σs' σ).bind fun p => retA [m] σ r p.1 p.2) = _
  rw [e2]
  show bnd (O.call f [.ref 0] [.mdict false es]) (fun r σs' => (backS [m] σs' σ).bind fun p => retA [m] σ r p.1 p.2) = _
  rw [h]
  show (match ((backS [m] [.mdict false es] σ).bind fun p => retA [m] σ (V.d x) p.1 p.2) with | none => none | some (b, σ', o') => some (b, σ', ob ++ o')) = _
  rw [e3]
  show some (V.d x, σ, ob ++ []) = _
  rw [List.append_nil]
theorem call17 {T : Nat} (hT : TOk T) (h3 : 3 ≤ T) (hc : ∀ k, (c k).natAbs ≤ T) {size lg wi f w : Option V} : Gives (callAt (run prg noOrc (n + 40)) 17 [.ref 9] (S16 sc c z size lg wi f w)) (.d (.int (pfC (wW c z)))) (S16 sc c z size lg wi f w) :=
  ⟨pfObs (wW c z), callAt_r rfl rfl (pair_run n (wW c z)), pf_ok hT h3 (wW_le hc)⟩
noncomputable def signed (c : Nat → Int) (z : Nat) : Int := if fallsN c z % 2 = 1 then -WO c z else WO c z
theorem st17 {T : Nat} (hT : TOk T) (h3 : 3 ≤ T) (hc : ∀ k, (c k).natAbs ≤ T) {size lg wi : Option V} (hp : pfC (wW c z) = signed c z) : Gives (exT (OL n) s_law_17 LD (S16 sc c z size lg wi (oI (fallsN c z)) (some (.d (.int (WO c z)))))) (.ret (.d (.bool true))) (S16 sc c z size lg wi (oI (fallsN c z)) (some (.d (.int (WO c z))))) := by
  let σ := S16 sc c z size lg wi (oI (fallsN c z)) (some (.d (.int (WO c z))))
  have h1 : Gives ((run prg noOrc (n + 79)).ev (.call 17 [.loc 7]) LD σ) (.d (.int (pfC (wW c z)))) σ := u (e_call (vs := [.ref 9]) (σ₁ := σ) (gives rfl) (call17 (n := n + 38) hT h3 hc))
  have em : ((fallsN c z : Nat) : Int).fmod 2 = ((fallsN c z % 2 : Nat) : Int) := by rw [Int.fmod_eq_emod_of_nonneg _ (by decide)]; rfl
  have t : Gives (tst (run prg noOrc (n + 78)) (.cmp .eq (.bin .mod true (.loc 13) (.int 2)) (.int 1)) LD σ) (decide (((fallsN c z : Nat) : Int).fmod 2 = 1)) σ := gives rfl
  have h2 : Gives ((run prg noOrc (n + 79)).ev (.ite (.cmp .eq (.bin .mod true (.loc 13) (.int 2)) (.int 1)) (.neg (.loc 14)) (.loc 14)) LD σ) (.d (.int (signed c z))) σ := by
    rw [em] at t
    unfold signed
    by_cases q : fallsN c z % 2 = 1
    · rw [if_pos q]
      rw [decide_eq_true (by omega)] at t
      exact u (e_ite t (gives rfl))
    · rw [if_neg q]
      rw [decide_eq_false (by omega)] at t
      exact u (e_ite t (gives rfl))
  exact x_ret (u (e_cmp (c_cmp h1 h2 (by rw [hp]; show some (decide (signed c z = signed c z)) = _; rw [decide_eq_true rfl]))))
theorem law_run {T : Nat} (hT : TOk T) (h3 : 3 ≤ T) {xs : List Int} (hx : xs.length ≤ 63) (hcl : (cellsL xs).map D.int = [.int (c 0), .int (c 1), .int (c 2), .int (c 3), .int (c 4), .int (c 5), .int (c 6), .int (c 7), .int (c 8), .int (c 9), .int (c 10), .int (c 11)]) (hc : ∀ k, (c k).natAbs ≤ T)
    (hp : ∀ z, z < 8 → pfC (wW c z) = signed c z) : Con noOrc (n + 82) 18 [.d (.list (xs.map .int))] [] (.d (.bool true)) [] := by
  have h13 := con13 (n := n + 65) hx
  rw [hcl] at h13
  obtain ⟨z, hz, σ, s1, s2⟩ := st12 (c := c) (sc := .list (xs.map .int)) (n := n)
  obtain ⟨size, lg, wi, s14⟩ := st14 (c := c) (sc := .list (xs.map .int)) (n := n) (z := z)
  have s0 : Gives (exT (OL n) s_law_0 LD (FR0 (.list (xs.map .int)) :: CE none none none none none none none)) .next (FR0 (.list (xs.map .int)) :: CE (some (cellsD c)) none none none none none none) :=
    x_asg (u (e_call (vs := [.d (.list (xs.map .int))]) (gives rfl) (callAt_d rfl h13))) rfl
  exact g_call rfl rfl rfl (ux (x_cons s0 (x_cons s1 (x_cons s2 (x_cons (st3 hz) (x_cons (st4 hz) (x_cons (st5 hz) (x_cons st6 (x_cons st7 (x_cons st8 (x_cons (st9 hz) (x_cons st10 (x_cons st11 (x_cons st12d (x_cons st13 (x_cons s14 (x_cons st15 (x_cons (st16 hT hc) (x_ret' (st17 hT h3 hc (hp z hz))))))))))))))))))))) (gives rfl)
end
end Mine
end
section
namespace Mine
noncomputable def Q3 (xy xz yz : Int) : Int := yz - xz + xy
noncomputable def Q4 (wx wy wz xy xz yz : Int) : Int := wx * yz - wy * xz + wz * xy
noncomputable def Q5 (vw vx vy vz wx wy wz xy xz yz : Int) : Int := Q4 wx wy wz xy xz yz - Q4 vx vy vz xy xz yz + Q4 vw vy vz wy wz yz - Q4 vw vx vz wx wz xz + Q4 vw vx vy wx wy xy
noncomputable def Q6 (uv uw ux uy uz vw vx vy vz wx wy wz xy xz yz : Int) : Int := uv * Q4 wx wy wz xy xz yz - uw * Q4 vx vy vz xy xz yz + ux * Q4 vw vy vz wy wz yz - uy * Q4 vw vx vz wx wz xz + uz * Q4 vw vx vy wx wy xy
noncomputable def par (m n : Nat) (q : Int) : Int := if m % 2 = 1 ∧ n % 2 = 1 then q else 1
theorem pc_11 {q x01 : Int} (h01 : x01 = q) : x01 = 1 * 1 * par 1 1 q := by
  rw [h01]
  show q = 1 * 1 * q
  try grind
theorem pc_12 {q x01 x02 x12 : Int} (h01 : x01 = q) (h02 : x02 = q) : Q3 x01 x02 x12 = 1 * x12 * par 1 2 q := by
  rw [h01, h02]
  show Q3 q q x12 = 1 * x12 * 1
  simp only [Q3]; try grind
theorem pc_13 {q x01 x02 x03 x12 x13 x23 : Int} (h01 : x01 = q) (h02 : x02 = q) (h03 : x03 = q) : Q4 x01 x02 x03 x12 x13 x23 = 1 * (Q3 x12 x13 x23) * par 1 3 q := by
  rw [h01, h02, h03]
  show Q4 q q q x12 x13 x23 = 1 * (Q3 x12 x13 x23) * q
  simp only [Q4, Q3]; try grind
theorem pc_14 {q x01 x02 x03 x04 x12 x13 x14 x23 x24 x34 : Int} (h01 : x01 = q) (h02 : x02 = q) (h03 : x03 = q) (h04 : x04 = q) : Q5 x01 x02 x03 x04 x12 x13 x14 x23 x24 x34 = 1 * (Q4 x12 x13 x14 x23 x24 x34) * par 1 4 q := by
  rw [h01, h02, h03, h04]
  show Q5 q q q q x12 x13 x14 x23 x24 x34 = 1 * (Q4 x12 x13 x14 x23 x24 x34) * 1
  simp only [Q5, Q4]; try grind
theorem pc_15 {q x01 x02 x03 x04 x05 x12 x13 x14 x15 x23 x24 x25 x34 x35 x45 : Int} (h01 : x01 = q) (h02 : x02 = q) (h03 : x03 = q) (h04 : x04 = q) (h05 : x05 = q) : Q6 x01 x02 x03 x04 x05 x12 x13 x14 x15 x23 x24 x25 x34 x35 x45 = 1 * (Q5 x12 x13 x14 x15 x23 x24 x25 x34 x35 x45) * par 1 5 q := by
  rw [h01, h02, h03, h04, h05]
  show Q6 q q q q q x12 x13 x14 x15 x23 x24 x25 x34 x35 x45 = 1 * (Q5 x12 x13 x14 x15 x23 x24 x25 x34 x35 x45) * q
  simp only [Q6, Q5, Q4]; try grind
theorem pc_21 {q x01 x02 x12 : Int} (h02 : x02 = q) (h12 : x12 = q) : Q3 x01 x02 x12 = x01 * 1 * par 2 1 q := by
  rw [h02, h12]
  show Q3 x01 q q = x01 * 1 * 1
  simp only [Q3]; try grind
theorem pc_22 {q x01 x02 x03 x12 x13 x23 : Int} (h02 : x02 = q) (h03 : x03 = q) (h12 : x12 = q) (h13 : x13 = q) : Q4 x01 x02 x03 x12 x13 x23 = x01 * x23 * par 2 2 q := by
  rw [h02, h03, h12, h13]
  show Q4 x01 q q q q x23 = x01 * x23 * 1
  simp only [Q4]; try grind
theorem pc_23 {q x01 x02 x03 x04 x12 x13 x14 x23 x24 x34 : Int} (h02 : x02 = q) (h03 : x03 = q) (h04 : x04 = q) (h12 : x12 = q) (h13 : x13 = q) (h14 : x14 = q) : Q5 x01 x02 x03 x04 x12 x13 x14 x23 x24 x34 = x01 * (Q3 x23 x24 x34) * par 2 3 q := by
  rw [h02, h03, h04, h12, h13, h14]
  show Q5 x01 q q q q q q x23 x24 x34 = x01 * (Q3 x23 x24 x34) * 1
  simp only [Q5, Q4, Q3]; try grind
theorem pc_24 {q x01 x02 x03 x04 x05 x12 x13 x14 x15 x23 x24 x25 x34 x35 x45 : Int} (h02 : x02 = q) (h03 : x03 = q) (h04 : x04 = q) (h05 : x05 = q) (h12 : x12 = q) (h13 : x13 = q) (h14 : x14 = q) (h15 : x15 = q) : Q6 x01 x02 x03 x04 x05 x12 x13 x14 x15 x23 x24 x25 x34 x35 x45 = x01 * (Q4 x23 x24 x25 x34 x35 x45) * par 2 4 q := by
  rw [h02, h03, h04, h05, h12, h13, h14, h15]
  show Q6 x01 q q q q q q q q x23 x24 x25 x34 x35 x45 = x01 * (Q4 x23 x24 x25 x34 x35 x45) * 1
  simp only [Q6, Q4]; try grind
theorem pc_31 {q x01 x02 x03 x12 x13 x23 : Int} (h03 : x03 = q) (h13 : x13 = q) (h23 : x23 = q) : Q4 x01 x02 x03 x12 x13 x23 = (Q3 x01 x02 x12) * 1 * par 3 1 q := by
  rw [h03, h13, h23]
  show Q4 x01 x02 q x12 q q = (Q3 x01 x02 x12) * 1 * q
  simp only [Q4, Q3]; try grind
theorem pc_32 {q x01 x02 x03 x04 x12 x13 x14 x23 x24 x34 : Int} (h03 : x03 = q) (h04 : x04 = q) (h13 : x13 = q) (h14 : x14 = q) (h23 : x23 = q) (h24 : x24 = q) : Q5 x01 x02 x03 x04 x12 x13 x14 x23 x24 x34 = (Q3 x01 x02 x12) * x34 * par 3 2 q := by
  rw [h03, h04, h13, h14, h23, h24]
  show Q5 x01 x02 q q x12 q q q q x34 = (Q3 x01 x02 x12) * x34 * 1
  simp only [Q5, Q4, Q3]; try grind
theorem pc_33 {q x01 x02 x03 x04 x05 x12 x13 x14 x15 x23 x24 x25 x34 x35 x45 : Int} (h03 : x03 = q) (h04 : x04 = q) (h05 : x05 = q) (h13 : x13 = q) (h14 : x14 = q) (h15 : x15 = q) (h23 : x23 = q) (h24 : x24 = q) (h25 : x25 = q) : Q6 x01 x02 x03 x04 x05 x12 x13 x14 x15 x23 x24 x25 x34 x35 x45 = (Q3 x01 x02 x12) * (Q3 x34 x35 x45) * par 3 3 q := by
  rw [h03, h04, h05, h13, h14, h15, h23, h24, h25]
  show Q6 x01 x02 q q q x12 q q q q q q x34 x35 x45 = (Q3 x01 x02 x12) * (Q3 x34 x35 x45) * q
  simp only [Q6, Q4, Q3]; try grind
theorem pc_41 {q x01 x02 x03 x04 x12 x13 x14 x23 x24 x34 : Int} (h04 : x04 = q) (h14 : x14 = q) (h24 : x24 = q) (h34 : x34 = q) : Q5 x01 x02 x03 x04 x12 x13 x14 x23 x24 x34 = (Q4 x01 x02 x03 x12 x13 x23) * 1 * par 4 1 q := by
  rw [h04, h14, h24, h34]
  show Q5 x01 x02 x03 q x12 x13 q x23 q q = (Q4 x01 x02 x03 x12 x13 x23) * 1 * 1
  simp only [Q5, Q4]; try grind
theorem pc_42 {q x01 x02 x03 x04 x05 x12 x13 x14 x15 x23 x24 x25 x34 x35 x45 : Int} (h04 : x04 = q) (h05 : x05 = q) (h14 : x14 = q) (h15 : x15 = q) (h24 : x24 = q) (h25 : x25 = q) (h34 : x34 = q) (h35 : x35 = q) : Q6 x01 x02 x03 x04 x05 x12 x13 x14 x15 x23 x24 x25 x34 x35 x45 = (Q4 x01 x02 x03 x12 x13 x23) * x45 * par 4 2 q := by
  rw [h04, h05, h14, h15, h24, h25, h34, h35]
  show Q6 x01 x02 x03 q q x12 x13 q q x23 q q q q x45 = (Q4 x01 x02 x03 x12 x13 x23) * x45 * 1
  simp only [Q6, Q4]; try grind
theorem pc_51 {q x01 x02 x03 x04 x05 x12 x13 x14 x15 x23 x24 x25 x34 x35 x45 : Int} (h05 : x05 = q) (h15 : x15 = q) (h25 : x25 = q) (h35 : x35 = q) (h45 : x45 = q) : Q6 x01 x02 x03 x04 x05 x12 x13 x14 x15 x23 x24 x25 x34 x35 x45 = (Q5 x01 x02 x03 x04 x12 x13 x14 x23 x24 x34) * 1 * par 5 1 q := by
  rw [h05, h15, h25, h35, h45]
  show Q6 x01 x02 x03 x04 q x12 x13 x14 q x23 x24 q x34 q q = (Q5 x01 x02 x03 x04 x12 x13 x14 x23 x24 x34) * 1 * q
  simp only [Q6, Q5, Q4]; try grind
theorem pe_3 {x01 x02 x12 y01 y02 y12 : Int} (h01 : x01 = y01) (h02 : x02 = y02) (h12 : x12 = y12) : Q3 x01 x02 x12 = Q3 y01 y02 y12 := by
  rw [h01, h02, h12]
theorem pe_4 {x01 x02 x03 x12 x13 x23 y01 y02 y03 y12 y13 y23 : Int} (h01 : x01 = y01) (h02 : x02 = y02) (h03 : x03 = y03) (h12 : x12 = y12) (h13 : x13 = y13) (h23 : x23 = y23) : Q4 x01 x02 x03 x12 x13 x23 = Q4 y01 y02 y03 y12 y13 y23 := by
  rw [h01, h02, h03, h12, h13, h23]
theorem pe_5 {x01 x02 x03 x04 x12 x13 x14 x23 x24 x34 y01 y02 y03 y04 y12 y13 y14 y23 y24 y34 : Int} (h01 : x01 = y01) (h02 : x02 = y02) (h03 : x03 = y03) (h04 : x04 = y04) (h12 : x12 = y12) (h13 : x13 = y13) (h14 : x14 = y14) (h23 : x23 = y23) (h24 : x24 = y24) (h34 : x34 = y34) : Q5 x01 x02 x03 x04 x12 x13 x14 x23 x24 x34 = Q5 y01 y02 y03 y04 y12 y13 y14 y23 y24 y34 := by
  rw [h01, h02, h03, h04, h12, h13, h14, h23, h24, h34]
theorem pe_6 {x01 x02 x03 x04 x05 x12 x13 x14 x15 x23 x24 x25 x34 x35 x45 y01 y02 y03 y04 y05 y12 y13 y14 y15 y23 y24 y25 y34 y35 y45 : Int} (h01 : x01 = y01) (h02 : x02 = y02) (h03 : x03 = y03) (h04 : x04 = y04) (h05 : x05 = y05) (h12 : x12 = y12) (h13 : x13 = y13) (h14 : x14 = y14) (h15 : x15 = y15) (h23 : x23 = y23) (h24 : x24 = y24) (h25 : x25 = y25) (h34 : x34 = y34) (h35 : x35 = y35) (h45 : x45 = y45) : Q6 x01 x02 x03 x04 x05 x12 x13 x14 x15 x23 x24 x25 x34 x35 x45 = Q6 y01 y02 y03 y04 y05 y12 y13 y14 y15 y23 y24 y25 y34 y35 y45 := by
  rw [h01, h02, h03, h04, h05, h12, h13, h14, h15, h23, h24, h25, h34, h35, h45]
theorem ps_0 (uv uw ux uy uz vw vx vy vz wx wy wz xy xz yz : Int) : Q6 (-uv) vw vx vy vz uw ux uy uz wx wy wz xy xz yz = -(Q6 uv uw ux uy uz vw vx vy vz wx wy wz xy xz yz) := by
  simp only [Q6, Q4]; grind
theorem ps_1 (uv uw ux uy uz vw vx vy vz wx wy wz xy xz yz : Int) : Q6 uw uv ux uy uz (-vw) wx wy wz vx vy vz xy xz yz = -(Q6 uv uw ux uy uz vw vx vy vz wx wy wz xy xz yz) := by
  simp only [Q6, Q4]; grind
theorem ps_2 (uv uw ux uy uz vw vx vy vz wx wy wz xy xz yz : Int) : Q6 uv ux uw uy uz vx vw vy vz (-wx) xy xz wy wz yz = -(Q6 uv uw ux uy uz vw vx vy vz wx wy wz xy xz yz) := by
  simp only [Q6, Q4]; grind
theorem ps_3 (uv uw ux uy uz vw vx vy vz wx wy wz xy xz yz : Int) : Q6 uv uw uy ux uz vw vy vx vz wy wx wz (-xy) yz xz = -(Q6 uv uw ux uy uz vw vx vy vz wx wy wz xy xz yz) := by
  simp only [Q6, Q4]; grind
theorem ps_4 (uv uw ux uy uz vw vx vy vz wx wy wz xy xz yz : Int) : Q6 uv uw ux uz uy vw vx vz vy wx wz wy xz xy (-yz) = -(Q6 uv uw ux uy uz vw vx vy vz wx wy wz xy xz yz) := by
  simp only [Q6, Q4]; grind
section
variable {α β : Type}
noncomputable def PFl (a : α → α → Int) (l : List α) : Int := match l with
  | [] => 1
  | u :: l => match l with
    | [] => 1
    | v :: l => match l with
      | [] => a u v
      | w :: l => match l with
        | [] => Q3 (a u v) (a u w) (a v w)
        | x :: l => match l with
          | [] => Q4 (a u v) (a u w) (a u x) (a v w) (a v x) (a w x)
          | y :: l => match l with
            | [] => Q5 (a u v) (a u w) (a u x) (a u y) (a v w) (a v x) (a v y) (a w x) (a w y) (a x y)
            | z :: l => match l with
              | [] => Q6 (a u v) (a u w) (a u x) (a u y) (a u z) (a v w) (a v x) (a v y) (a v z) (a w x) (a w y) (a w z) (a x y) (a x z) (a y z)
              | _ :: _ => 0
theorem PFl_eq {a : α → α → Int} {b : β → β → Int} {f : α → β} (G : List α) (h : ∀ x ∈ G, ∀ y ∈ G, a x y = b (f x) (f y)) : PFl a G = PFl b (G.map f) := by
  cases G with
  | nil => exact rfl
  | cons x0 G =>
    cases G with
    | nil => exact rfl
    | cons x1 G =>
      cases G with
      | nil => exact h x0 (.head _) x1 (.tail _ (.head _))
      | cons x2 G =>
        cases G with
        | nil => exact pe_3 (h x0 (.head _) x1 (.tail _ (.head _))) (h x0 (.head _) x2 (.tail _ (.tail _ (.head _)))) (h x1 (.tail _ (.head _)) x2 (.tail _ (.tail _ (.head _))))
        | cons x3 G =>
          cases G with
          | nil => exact pe_4 (h x0 (.head _) x1 (.tail _ (.head _))) (h x0 (.head _) x2 (.tail _ (.tail _ (.head _)))) (h x0 (.head _) x3 (.tail _ (.tail _ (.tail _ (.head _))))) (h x1 (.tail _ (.head _)) x2 (.tail _ (.tail _ (.head _)))) (h x1 (.tail _ (.head _)) x3 (.tail _ (.tail _ (.tail _ (.head _))))) (h x2 (.tail _ (.tail _ (.head _))) x3 (.tail _ (.tail _ (.tail _ (.head _)))))
          | cons x4 G =>
            cases G with
            | nil => exact pe_5 (h x0 (.head _) x1 (.tail _ (.head _))) (h x0 (.head _) x2 (.tail _ (.tail _ (.head _)))) (h x0 (.head _) x3 (.tail _ (.tail _ (.tail _ (.head _))))) (h x0 (.head _) x4 (.tail _ (.tail _ (.tail _ (.tail _ (.head _)))))) (h x1 (.tail _ (.head _)) x2 (.tail _ (.tail _ (.head _)))) (h x1 (.tail _ (.head _)) x3 (.tail _ (.tail _ (.tail _ (.head _))))) (h x1 (.tail _ (.head _)) x4 (.tail _ (.tail _ (.tail _ (.tail _ (.head _)))))) (h x2 (.tail _ (.tail _ (.head _))) x3 (.tail _ (.tail _ (.tail _ (.head _))))) (h x2 (.tail _ (.tail _ (.head _))) x4 (.tail _ (.tail _ (.tail _ (.tail _ (.head _)))))) (h x3 (.tail _ (.tail _ (.tail _ (.head _)))) x4 (.tail _ (.tail _ (.tail _ (.tail _ (.head _))))))
            | cons x5 G =>
              cases G with
              | nil => exact pe_6 (h x0 (.head _) x1 (.tail _ (.head _))) (h x0 (.head _) x2 (.tail _ (.tail _ (.head _)))) (h x0 (.head _) x3 (.tail _ (.tail _ (.tail _ (.head _))))) (h x0 (.head _) x4 (.tail _ (.tail _ (.tail _ (.tail _ (.head _)))))) (h x0 (.head _) x5 (.tail _ (.tail _ (.tail _ (.tail _ (.tail _ (.head _))))))) (h x1 (.tail _ (.head _)) x2 (.tail _ (.tail _ (.head _)))) (h x1 (.tail _ (.head _)) x3 (.tail _ (.tail _ (.tail _ (.head _))))) (h x1 (.tail _ (.head _)) x4 (.tail _ (.tail _ (.tail _ (.tail _ (.head _)))))) (h x1 (.tail _ (.head _)) x5 (.tail _ (.tail _ (.tail _ (.tail _ (.tail _ (.head _))))))) (h x2 (.tail _ (.tail _ (.head _))) x3 (.tail _ (.tail _ (.tail _ (.head _))))) (h x2 (.tail _ (.tail _ (.head _))) x4 (.tail _ (.tail _ (.tail _ (.tail _ (.head _)))))) (h x2 (.tail _ (.tail _ (.head _))) x5 (.tail _ (.tail _ (.tail _ (.tail _ (.tail _ (.head _))))))) (h x3 (.tail _ (.tail _ (.tail _ (.head _)))) x4 (.tail _ (.tail _ (.tail _ (.tail _ (.head _)))))) (h x3 (.tail _ (.tail _ (.tail _ (.head _)))) x5 (.tail _ (.tail _ (.tail _ (.tail _ (.tail _ (.head _))))))) (h x4 (.tail _ (.tail _ (.tail _ (.tail _ (.head _))))) x5 (.tail _ (.tail _ (.tail _ (.tail _ (.tail _ (.head _)))))))
              | cons x6 G =>
                rfl
theorem pn_1 (m n : Nat) (h : m + 1 + (n + 6) ≤ 6) {p : Prop} : p := absurd h (by omega)
theorem pn_2 (m n : Nat) (h : m + 2 + (n + 5) ≤ 6) {p : Prop} : p := absurd h (by omega)
theorem pn_3 (m n : Nat) (h : m + 3 + (n + 4) ≤ 6) {p : Prop} : p := absurd h (by omega)
theorem pn_4 (m n : Nat) (h : m + 4 + (n + 3) ≤ 6) {p : Prop} : p := absurd h (by omega)
theorem pn_5 (m n : Nat) (h : m + 5 + (n + 2) ≤ 6) {p : Prop} : p := absurd h (by omega)
theorem pn_6 (m n : Nat) (h : m + 6 + (n + 1) ≤ 6) {p : Prop} : p := absurd h (by omega)
theorem pn_7 (m n : Nat) (h : m + 7 + (n + 1) ≤ 6) {p : Prop} : p := absurd h (by omega)
def Bl (a : α → α → Int) (q : Int) (G R : List α) : Prop := G.length + R.length ≤ 6 → (∀ x ∈ G, ∀ y ∈ R, a x y = q) → PFl a (G ++ R) = PFl a G * PFl a R * par G.length R.length q
theorem pblock_0 {a : α → α → Int} {q : Int} (G : List α) : Bl a q G [] := fun _ _ => by
  rw [List.append_nil, show par G.length ([] : List α).length q = 1 from if_neg fun h => absurd (show 0 % 2 = 1 from h.2) (by decide)]; show _ = PFl a G * 1 * 1; rw [Int.mul_one, Int.mul_one]
theorem pblock_1 {a : α → α → Int} {q : Int} (R : List α) : Bl a q [] R := fun _ _ => by
  show PFl a R = 1 * PFl a R * par 0 _ q; rw [show par 0 _ q = 1 from if_neg fun h => absurd (show 0 % 2 = 1 from h.1) (by decide), Int.one_mul, Int.mul_one]
theorem block' {a : α → α → Int} {q : Int} (G R : List α) : Bl a q G R := by
  cases R with
  | nil => exact pblock_0 G
  | cons r0 R =>
    cases G with
    | nil => exact pblock_1 _
    | cons g0 G =>
      cases G with
      | nil =>
        cases R with
        | nil => exact fun _ h => pc_11 (h g0 (.head _) r0 (.head _))
        | cons r1 R =>
          cases R with
          | nil => exact fun _ h => pc_12 (h g0 (.head _) r0 (.head _)) (h g0 (.head _) r1 (.tail _ (.head _)))
          | cons r2 R =>
            cases R with
            | nil => exact fun _ h => pc_13 (h g0 (.head _) r0 (.head _)) (h g0 (.head _) r1 (.tail _ (.head _))) (h g0 (.head _) r2 (.tail _ (.tail _ (.head _))))
            | cons r3 R =>
              cases R with
              | nil => exact fun _ h => pc_14 (h g0 (.head _) r0 (.head _)) (h g0 (.head _) r1 (.tail _ (.head _))) (h g0 (.head _) r2 (.tail _ (.tail _ (.head _)))) (h g0 (.head _) r3 (.tail _ (.tail _ (.tail _ (.head _)))))
              | cons r4 R =>
                cases R with
                | nil => exact fun _ h => pc_15 (h g0 (.head _) r0 (.head _)) (h g0 (.head _) r1 (.tail _ (.head _))) (h g0 (.head _) r2 (.tail _ (.tail _ (.head _)))) (h g0 (.head _) r3 (.tail _ (.tail _ (.tail _ (.head _))))) (h g0 (.head _) r4 (.tail _ (.tail _ (.tail _ (.tail _ (.head _))))))
                | cons r5 R =>
                  exact fun hl _ => pn_1 0 R.length hl
      | cons g1 G =>
        cases G with
        | nil =>
          cases R with
          | nil => exact fun _ h => pc_21 (h g0 (.head _) r0 (.head _)) (h g1 (.tail _ (.head _)) r0 (.head _))
          | cons r1 R =>
            cases R with
            | nil => exact fun _ h => pc_22 (h g0 (.head _) r0 (.head _)) (h g0 (.head _) r1 (.tail _ (.head _))) (h g1 (.tail _ (.head _)) r0 (.head _)) (h g1 (.tail _ (.head _)) r1 (.tail _ (.head _)))
            | cons r2 R =>
              cases R with
              | nil => exact fun _ h => pc_23 (h g0 (.head _) r0 (.head _)) (h g0 (.head _) r1 (.tail _ (.head _))) (h g0 (.head _) r2 (.tail _ (.tail _ (.head _)))) (h g1 (.tail _ (.head _)) r0 (.head _)) (h g1 (.tail _ (.head _)) r1 (.tail _ (.head _))) (h g1 (.tail _ (.head _)) r2 (.tail _ (.tail _ (.head _))))
              | cons r3 R =>
                cases R with
                | nil => exact fun _ h => pc_24 (h g0 (.head _) r0 (.head _)) (h g0 (.head _) r1 (.tail _ (.head _))) (h g0 (.head _) r2 (.tail _ (.tail _ (.head _)))) (h g0 (.head _) r3 (.tail _ (.tail _ (.tail _ (.head _))))) (h g1 (.tail _ (.head _)) r0 (.head _)) (h g1 (.tail _ (.head _)) r1 (.tail _ (.head _))) (h g1 (.tail _ (.head _)) r2 (.tail _ (.tail _ (.head _)))) (h g1 (.tail _ (.head _)) r3 (.tail _ (.tail _ (.tail _ (.head _)))))
                | cons r4 R =>
                  exact fun hl _ => pn_2 0 R.length hl
        | cons g2 G =>
          cases G with
          | nil =>
            cases R with
            | nil => exact fun _ h => pc_31 (h g0 (.head _) r0 (.head _)) (h g1 (.tail _ (.head _)) r0 (.head _)) (h g2 (.tail _ (.tail _ (.head _))) r0 (.head _))
            | cons r1 R =>
              cases R with
              | nil => exact fun _ h => pc_32 (h g0 (.head _) r0 (.head _)) (h g0 (.head _) r1 (.tail _ (.head _))) (h g1 (.tail _ (.head _)) r0 (.head _)) (h g1 (.tail _ (.head _)) r1 (.tail _ (.head _))) (h g2 (.tail _ (.tail _ (.head _))) r0 (.head _)) (h g2 (.tail _ (.tail _ (.head _))) r1 (.tail _ (.head _)))
              | cons r2 R =>
                cases R with
                | nil => exact fun _ h => pc_33 (h g0 (.head _) r0 (.head _)) (h g0 (.head _) r1 (.tail _ (.head _))) (h g0 (.head _) r2 (.tail _ (.tail _ (.head _)))) (h g1 (.tail _ (.head _)) r0 (.head _)) (h g1 (.tail _ (.head _)) r1 (.tail _ (.head _))) (h g1 (.tail _ (.head _)) r2 (.tail _ (.tail _ (.head _)))) (h g2 (.tail _ (.tail _ (.head _))) r0 (.head _)) (h g2 (.tail _ (.tail _ (.head _))) r1 (.tail _ (.head _))) (h g2 (.tail _ (.tail _ (.head _))) r2 (.tail _ (.tail _ (.head _))))
                | cons r3 R =>
                  exact fun hl _ => pn_3 0 R.length hl
          | cons g3 G =>
            cases G with
            | nil =>
              cases R with
              | nil => exact fun _ h => pc_41 (h g0 (.head _) r0 (.head _)) (h g1 (.tail _ (.head _)) r0 (.head _)) (h g2 (.tail _ (.tail _ (.head _))) r0 (.head _)) (h g3 (.tail _ (.tail _ (.tail _ (.head _)))) r0 (.head _))
              | cons r1 R =>
                cases R with
                | nil => exact fun _ h => pc_42 (h g0 (.head _) r0 (.head _)) (h g0 (.head _) r1 (.tail _ (.head _))) (h g1 (.tail _ (.head _)) r0 (.head _)) (h g1 (.tail _ (.head _)) r1 (.tail _ (.head _))) (h g2 (.tail _ (.tail _ (.head _))) r0 (.head _)) (h g2 (.tail _ (.tail _ (.head _))) r1 (.tail _ (.head _))) (h g3 (.tail _ (.tail _ (.tail _ (.head _)))) r0 (.head _)) (h g3 (.tail _ (.tail _ (.tail _ (.head _)))) r1 (.tail _ (.head _)))
                | cons r2 R =>
                  exact fun hl _ => pn_4 0 R.length hl
            | cons g4 G =>
              cases G with
              | nil =>
                cases R with
                | nil => exact fun _ h => pc_51 (h g0 (.head _) r0 (.head _)) (h g1 (.tail _ (.head _)) r0 (.head _)) (h g2 (.tail _ (.tail _ (.head _))) r0 (.head _)) (h g3 (.tail _ (.tail _ (.tail _ (.head _)))) r0 (.head _)) (h g4 (.tail _ (.tail _ (.tail _ (.tail _ (.head _))))) r0 (.head _))
                | cons r1 R =>
                  exact fun hl _ => pn_5 0 R.length hl
              | cons g5 G =>
                cases G with
                | nil =>
                  exact fun hl _ => pn_6 0 R.length hl
                | cons g6 G =>
                  exact fun hl _ => pn_7 G.length R.length hl
theorem block {a : α → α → Int} {q : Int} (G R : List α) (hl : G.length + R.length ≤ 6) (h : ∀ x ∈ G, ∀ y ∈ R, a x y = q) : PFl a (G ++ R) = PFl a G * PFl a R * par G.length R.length q := block' G R hl h
theorem swap_0 {a : α → α → Int} (u v w x y z : α) (h : a v u = -a u v) : PFl a [v, u, w, x, y, z] = -PFl a [u, v, w, x, y, z] := by
  show Q6 (a v u) (a v w) (a v x) (a v y) (a v z) (a u w) (a u x) (a u y) (a u z) (a w x) (a w y) (a w z) (a x y) (a x z) (a y z) = -Q6 _ _ _ _ _ _ _ _ _ _ _ _ _ _ _
  rw [h]; exact ps_0 _ _ _ _ _ _ _ _ _ _ _ _ _ _ _
theorem swap_1 {a : α → α → Int} (u v w x y z : α) (h : a w v = -a v w) : PFl a [u, w, v, x, y, z] = -PFl a [u, v, w, x, y, z] := by
  show Q6 (a u w) (a u v) (a u x) (a u y) (a u z) (a w v) (a w x) (a w y) (a w z) (a v x) (a v y) (a v z) (a x y) (a x z) (a y z) = -Q6 _ _ _ _ _ _ _ _ _ _ _ _ _ _ _
  rw [h]; exact ps_1 _ _ _ _ _ _ _ _ _ _ _ _ _ _ _
theorem swap_2 {a : α → α → Int} (u v w x y z : α) (h : a x w = -a w x) : PFl a [u, v, x, w, y, z] = -PFl a [u, v, w, x, y, z] := by
  show Q6 (a u v) (a u x) (a u w) (a u y) (a u z) (a v x) (a v w) (a v y) (a v z) (a x w) (a x y) (a x z) (a w y) (a w z) (a y z) = -Q6 _ _ _ _ _ _ _ _ _ _ _ _ _ _ _
  rw [h]; exact ps_2 _ _ _ _ _ _ _ _ _ _ _ _ _ _ _
theorem swap_3 {a : α → α → Int} (u v w x y z : α) (h : a y x = -a x y) : PFl a [u, v, w, y, x, z] = -PFl a [u, v, w, x, y, z] := by
  show Q6 (a u v) (a u w) (a u y) (a u x) (a u z) (a v w) (a v y) (a v x) (a v z) (a w y) (a w x) (a w z) (a y x) (a y z) (a x z) = -Q6 _ _ _ _ _ _ _ _ _ _ _ _ _ _ _
  rw [h]; exact ps_3 _ _ _ _ _ _ _ _ _ _ _ _ _ _ _
theorem swap_4 {a : α → α → Int} (u v w x y z : α) (h : a z y = -a y z) : PFl a [u, v, w, x, z, y] = -PFl a [u, v, w, x, y, z] := by
  show Q6 (a u v) (a u w) (a u x) (a u z) (a u y) (a v w) (a v x) (a v z) (a v y) (a w x) (a w z) (a w y) (a x z) (a x y) (a z y) = -Q6 _ _ _ _ _ _ _ _ _ _ _ _ _ _ _
  rw [h]; exact ps_4 _ _ _ _ _ _ _ _ _ _ _ _ _ _ _
end
end Mine
end
section
namespace Mine
noncomputable def cmpL : List Int → List Int → List Int → Int
  | t :: ts, x :: xs, y :: ys => if x < y then -t else if y < x then t else cmpL ts xs ys
  | _, _, _ => 0
/-- rows in order -/
noncomputable abbrev ltR (x y : List Int) : Prop := gtInts y x = true
theorem lt_trans : ∀ {x y z : List Int}, ltR x y → ltR y z → ltR x z
  | _, [], _, h, _ => by cases h
  | _, _ :: _, [], _, k => by cases k
  | [], _ :: _, _ :: _, _, _ => rfl
  | a :: x, b :: y, c :: z, h, k => by
    have h : (if b = a then gtInts y x else decide (a < b)) = true := h
    have k : (if c = b then gtInts z y else decide (b < c)) = true := k
    show (if c = a then gtInts z x else decide (a < c)) = true
    by_cases e1 : b = a
    · rw [if_pos e1] at h
      by_cases e2 : c = b
      · rw [if_pos e2] at k; rw [if_pos (by omega)]; exact lt_trans (x := x) h k
      · rw [if_neg e2] at k; have := of_decide_eq_true k; rw [if_neg (by omega)]; exact decide_eq_true (by omega)
    · rw [if_neg e1] at h
      have := of_decide_eq_true h
      by_cases e2 : c = b
      · rw [if_neg (by omega)]; exact decide_eq_true (by omega)
      · rw [if_neg e2] at k; have := of_decide_eq_true k; rw [if_neg (by omega)]; exact decide_eq_true (by omega)
theorem lt_irr : ∀ {x : List Int}, ¬ ltR x x
  | [], h => by cases h
  | a :: x, h => by
    have h : (if a = a then gtInts x x else decide (a < a)) = true := h
    rw [if_pos rfl] at h
    exact lt_irr (x := x) h
theorem lt_total : ∀ {x y : List Int}, x.length = y.length → x ≠ y → ltR x y ∨ ltR y x
  | [], [], _, h => absurd rfl h
  | [], _ :: _, h, _ => by cases h
  | _ :: _, [], h, _ => by cases h
  | a :: x, b :: y, hl, hn => by
    show (if b = a then gtInts y x else decide (a < b)) = true ∨ (if a = b then gtInts x y else decide (b < a)) = true
    by_cases e : a = b
    · subst e
      rw [if_pos rfl, if_pos rfl]
      exact lt_total (Nat.succ.inj hl) fun q => hn (by rw [q])
    · rw [if_neg fun q => e q.symm, if_neg e, decide_eq_true_eq, decide_eq_true_eq]
      omega
theorem lt_hd {x y : List Int} {n : Nat} (hx : x.length = n + 1) (hy : y.length = n + 1) (h : ltR x y) : hd0 x ≤ hd0 y ∧ (hd0 x = hd0 y → ltR (x.drop 1) (y.drop 1)) := by
  match x, hx, y, hy with
  | a :: x, _, b :: y, _ =>
    have h : (if b = a then gtInts y x else decide (a < b)) = true := h
    show a ≤ b ∧ (a = b → gtInts y x = true)
    by_cases e : b = a
    · rw [if_pos e] at h; exact ⟨by omega, fun _ => h⟩
    · rw [if_neg e] at h; have := of_decide_eq_true h; exact ⟨by omega, fun q => by omega⟩
theorem cmp_hd {t : Int} {ts x y : List Int} {n : Nat} (hx : x.length = n + 1) (hy : y.length = n + 1) : (hd0 x < hd0 y → cmpL (t :: ts) x y = -t) ∧ (hd0 x = hd0 y → cmpL (t :: ts) x y = cmpL ts (x.drop 1) (y.drop 1)) := by
  match x, hx, y, hy with
  | a :: x, _, b :: y, _ =>
    show (a < b → (if a < b then -t else if b < a then t else cmpL ts x y) = -t) ∧ (a = b → (if a < b then -t else if b < a then t else cmpL ts x y) = cmpL ts x y)
    exact ⟨fun h => if_pos h, fun h => by rw [if_neg (by omega), if_neg (by omega)]⟩
theorem cmpL_anti : ∀ (ts x y : List Int), cmpL ts y x = -cmpL ts x y
  | [], _, _ => by simp [cmpL]
  | t :: ts, [], [] => by simp [cmpL]
  | t :: ts, [], _ :: _ => by simp [cmpL]
  | t :: ts, _ :: _, [] => by simp [cmpL]
  | t :: ts, a :: x, b :: y => by
    show (if b < a then -t else if a < b then t else cmpL ts y x) = -(if a < b then -t else if b < a then t else cmpL ts x y)
    rcases Int.lt_trichotomy a b with q | q | q
    · rw [if_neg (by omega), if_pos q, if_pos q, Int.neg_neg]
    · rw [if_neg (by omega), if_neg (by omega), if_neg (by omega), if_neg (by omega)]; exact cmpL_anti ts x y
    · rw [if_pos q, if_neg (by omega), if_pos q]
theorem sorted_ext : ∀ {l l' : List Int}, l.Pairwise (· < ·) → l'.Pairwise (· < ·) → (∀ a, a ∈ l ↔ a ∈ l') → l = l'
  | [], [], _, _, _ => rfl
  | [], b :: l', _, _, h => absurd ((h b).mpr (List.mem_cons_self ..)) (by simp)
  | a :: l, [], _, _, h => absurd ((h a).mp (List.mem_cons_self ..)) (by simp)
  | a :: l, b :: l', hl, hl', h => by
    obtain ⟨h1, h2⟩ := List.pairwise_cons.mp hl
    obtain ⟨k1, k2⟩ := List.pairwise_cons.mp hl'
    have e : a = b := by
      rcases List.mem_cons.mp ((h a).mp (List.mem_cons_self ..)) with q | q
      · exact q
      · rcases List.mem_cons.mp ((h b).mpr (List.mem_cons_self ..)) with p | p
        · exact p.symm
        · have := h1 b p; have := k1 a q; omega
    subst e
    congr 1
    refine sorted_ext h2 k2 fun x => ?_
    constructor
    · intro hx
      rcases List.mem_cons.mp ((h x).mp (List.mem_cons_of_mem _ hx)) with q | q
      · have := h1 x hx; omega
      · exact q
    · intro hx
      rcases List.mem_cons.mp ((h x).mpr (List.mem_cons_of_mem _ hx)) with q | q
      · have := k1 x hx; omega
      · exact q
noncomputable def prodA (ts : List Int) (xs : List (List Int)) : Int := (usort (xs.map hd0)).foldl (fun w c => w * worthI ts (partR c xs)) 1
noncomputable def oddA (xs : List (List Int)) : Nat := ((usort (xs.map hd0)).map fun c => (partR c xs).length % 2).sum
theorem worth_AA (t : Int) (ts : List Int) (xs : List (List Int)) : worthI (t :: ts) xs = prodA ts xs * (-t) ^ (oddA xs / 2) := by
  match xs with
  | [] => rw [worthI_small (by decide)]; simp [prodA, oddA, usort]
  | [x] =>
    rw [worthI_small (by simp)]
    have e : partR (hd0 x) [x] = [x.drop 1] := by unfold partR; simp
    unfold prodA oddA
    rw [show ([x].map hd0) = [hd0 x] from rfl, show usort [hd0 x] = [hd0 x] from rfl, List.foldl_cons, List.foldl_nil, List.map_cons, List.map_nil, e, worthI_small (by simp)]
    simp
  | x :: y :: r =>
    rw [worthI_cons (by simp), fold_odd, Nat.zero_add]; rfl
theorem fold_mul (f : Int → Int) : ∀ (cols : List Int) (w : Int), cols.foldl (fun w c => w * f c) w = w * cols.foldl (fun w c => w * f c) 1
  | [], w => by simp
  | c :: cols, w => by rw [List.foldl_cons, List.foldl_cons, fold_mul f cols (w * f c), fold_mul f cols (1 * f c), Int.one_mul, Int.mul_assoc]
theorem fold_congr {f g : Int → Int} : ∀ (cols : List Int) (w : Int), (∀ c ∈ cols, f c = g c) → cols.foldl (fun w c => w * f c) w = cols.foldl (fun w c => w * g c) w
  | [], _, _ => rfl
  | c :: cols, w, h => by rw [List.foldl_cons, List.foldl_cons, h c (List.mem_cons_self ..)]; exact fold_congr cols _ fun c hc => h c (List.mem_cons_of_mem _ hc)
end Mine
end
section
namespace Mine
theorem part_self {h : Int} {G R : List (List Int)} (hG : ∀ x ∈ G, hd0 x = h) (hR : ∀ x ∈ R, h < hd0 x) : partR h (G ++ R) = G.map (·.drop 1) := by
  unfold partR
  rw [List.filter_append, List.filter_eq_self.mpr fun x hx => decide_eq_true (hG x hx), List.filter_eq_nil_iff.mpr fun x hx => by have := hR x hx; simp; omega, List.append_nil]
theorem part_rest {h c : Int} {G R : List (List Int)} (hG : ∀ x ∈ G, hd0 x = h) (hc : h < c) : partR c (G ++ R) = partR c R := by
  unfold partR
  rw [List.filter_append, List.filter_eq_nil_iff.mpr fun x hx => by have := hG x hx; simp; omega, List.nil_append]
theorem cols_split {h : Int} {G R : List (List Int)} (hG : ∀ x ∈ G, hd0 x = h) (hn : G ≠ []) (hR : ∀ x ∈ R, h < hd0 x) : usort ((G ++ R).map hd0) = h :: usort (R.map hd0) := by
  refine sorted_ext (usort_sorted _) (List.pairwise_cons.mpr ⟨fun a ha => ?_, usort_sorted _⟩) fun a => ?_
  · obtain ⟨x, hx, rfl⟩ := List.mem_map.mp (mem_usort.mp ha)
    exact hR x hx
  · rw [mem_usort, List.map_append, List.mem_append, List.mem_cons, mem_usort]
    constructor
    · rintro (q | q)
      · obtain ⟨x, hx, rfl⟩ := List.mem_map.mp q
        exact .inl (hG x hx)
      · exact .inr q
    · rintro (q | q)
      · subst q
        match G, hn with
        | x :: G, _ => exact .inl (List.mem_map.mpr ⟨x, List.mem_cons_self .., hG x (List.mem_cons_self ..)⟩)
      · exact .inr q
theorem prod_split {ts : List Int} {h : Int} {G R : List (List Int)} (hG : ∀ x ∈ G, hd0 x = h) (hn : G ≠ []) (hR : ∀ x ∈ R, h < hd0 x) : prodA ts (G ++ R) = worthI ts (G.map (·.drop 1)) * prodA ts R := by
  unfold prodA
  rw [cols_split hG hn hR, List.foldl_cons, part_self hG hR, fold_mul, Int.one_mul]
  congr 1
  refine fold_congr _ _ fun c hc => ?_
  obtain ⟨x, hx, rfl⟩ := List.mem_map.mp (mem_usort.mp hc)
  rw [part_rest hG (hR x hx)]
theorem odd_split {h : Int} {G R : List (List Int)} (hG : ∀ x ∈ G, hd0 x = h) (hn : G ≠ []) (hR : ∀ x ∈ R, h < hd0 x) : oddA (G ++ R) = G.length % 2 + oddA R := by
  unfold oddA
  rw [cols_split hG hn hR, List.map_cons, List.sum_cons, part_self hG hR, List.length_map]
  congr 2
  refine List.map_congr_left fun c hc => ?_
  obtain ⟨x, hx, rfl⟩ := List.mem_map.mp (mem_usort.mp hc)
  rw [part_rest hG (hR x hx)]
theorem pow_two_parts (q : Int) (g o r : Nat) (h : o % 2 = r % 2) : q ^ ((g % 2 + o) / 2) = q ^ (o / 2) * par g r q := by
  unfold par
  by_cases hg : g % 2 = 1
  · by_cases hr : r % 2 = 1
    · rw [if_pos ⟨hg, hr⟩, hg, show (1 + o) / 2 = o / 2 + 1 by omega, Int.pow_succ]
    · rw [if_neg (by omega), hg, show (1 + o) / 2 = o / 2 by omega, Int.mul_one]
  · rw [if_neg (by omega), show (g % 2 + o) / 2 = o / 2 by omega, Int.mul_one]
/-- one level, group by group -/
theorem level {t : Int} {ts : List Int} {m : Nat} (ih : ∀ G : List (List Int), (∀ r ∈ G, r.length = m) → G.length ≤ 6 → G.Pairwise ltR → PFl (cmpL ts) G = worthI ts G) :
    ∀ (n : Nat) (xs : List (List Int)), xs.length ≤ n → (∀ r ∈ xs, r.length = m + 1) → xs.length ≤ 6 → xs.Pairwise ltR → PFl (cmpL (t :: ts)) xs = prodA ts xs * (-t) ^ (oddA xs / 2) ∧ oddA xs % 2 = xs.length % 2
  | _, [], _, _, _, _ => by
    constructor
    · simp [prodA, oddA, usort, PFl]
    · rfl
  | 0, x :: xs, h, _, _, _ => by simp at h
  | n + 1, x :: xs, hn, hl, h6, hp => by
    let h := hd0 x
    let G := (x :: xs).takeWhile fun r => decide (hd0 r = h)
    let R := (x :: xs).dropWhile fun r => decide (hd0 r = h)
    have e : G ++ R = x :: xs := List.takeWhile_append_dropWhile
    have hG : ∀ r ∈ G, hd0 r = h := fun r hr => of_decide_eq_true (List.all_eq_true.mp (List.all_takeWhile (l := x :: xs) (p := fun r => decide (hd0 r = h))) r hr)
    have hGn : G ≠ [] := by
      show List.takeWhile _ (x :: xs) ≠ []
      rw [List.takeWhile_cons]; simp [h]
    have hp' := hp
    rw [← e] at hp'
    obtain ⟨p1, p2, p3⟩ := List.pairwise_append.mp hp'
    have mG : ∀ r ∈ G, r ∈ x :: xs := fun r hr => by rw [← e]; exact List.mem_append_left _ hr
    have mR : ∀ r ∈ R, r ∈ x :: xs := fun r hr => by rw [← e]; exact List.mem_append_right _ hr
    have lenE : G.length + R.length = (x :: xs).length := by rw [← e, List.length_append]
    have hR : ∀ r ∈ R, h < hd0 r := by
      cases eR : R with
      | nil => intro r hr; cases hr
      | cons y R' =>
        have hy : hd0 y ≠ h := by
          have := List.head?_dropWhile_not (fun r => decide (hd0 r = h)) (x :: xs)
          rw [show (x :: xs).dropWhile (fun r => decide (hd0 r = h)) = y :: R' from eR] at this
          simpa using this
        have hxG : x ∈ G := by
          show x ∈ List.takeWhile _ (x :: xs)
          rw [List.takeWhile_cons]; simp [h]
        have hyR : y ∈ R := by rw [eR]; exact List.mem_cons_self ..
        have q1 := (lt_hd (hl x (mG x hxG)) (hl y (mR y hyR)) (p3 x hxG y hyR)).1
        have hxh : hd0 x = h := rfl
        have q2 : h < hd0 y := by omega
        intro r hr
        rw [eR] at p2
        rcases List.mem_cons.mp hr with rfl | hr
        · exact q2
        · have := (lt_hd (hl y (mR y hyR)) (hl r (mR r (by rw [eR]; exact List.mem_cons_of_mem _ hr))) ((List.pairwise_cons.mp p2).1 r hr)).1
          omega
    have hGl : 1 ≤ G.length := List.length_pos_iff.mpr hGn
    obtain ⟨i1, i2⟩ := level ih n R (by omega) (fun r hr => hl r (mR r hr)) (by omega) p2
    have b := block (a := cmpL (t :: ts)) (q := -t) G R (by omega) fun u hu v hv => (cmp_hd (hl u (mG u hu)) (hl v (mR v hv))).1 (by rw [hG u hu]; exact hR v hv)
    have g1 : PFl (cmpL (t :: ts)) G = worthI ts (G.map (·.drop 1)) := by
      rw [PFl_eq (b := cmpL ts) (f := (·.drop 1)) G fun u hu v hv => (cmp_hd (hl u (mG u hu)) (hl v (mG v hv))).2 (by rw [hG u hu, hG v hv])]
      refine ih _ (fun r hr => ?_) (by rw [List.length_map]; omega) ?_
      · obtain ⟨r', h1, rfl⟩ := List.mem_map.mp hr
        rw [List.length_drop, hl r' (mG r' h1)]; omega
      · rw [List.pairwise_map]
        refine p1.imp_of_mem fun {u v} hu hv huv => ?_
        exact (lt_hd (hl u (mG u hu)) (hl v (mG v hv)) huv).2 (by rw [hG u hu, hG v hv])
    rw [← e]
    constructor
    · rw [b, g1, i1, prod_split hG hGn hR, odd_split hG hGn hR, pow_two_parts (-t) G.length (oddA R) R.length i2]
      grind
    · rw [odd_split hG hGn hR, List.length_append]; omega
theorem sorted_pf : ∀ (ts : List Int) (xs : List (List Int)), (∀ r ∈ xs, r.length = ts.length) → xs.length ≤ 6 → xs.Pairwise ltR → PFl (cmpL ts) xs = worthI ts xs
  | [], xs, hl, _, hp => by
    match xs, hl, hp with
    | [], _, _ => rfl
    | [_], _, _ => rfl
    | a :: b :: l, hl, hp =>
      have h1 : a = [] := List.eq_nil_of_length_eq_zero (hl a (by simp))
      have h2 : b = [] := List.eq_nil_of_length_eq_zero (hl b (by simp))
      subst h1 h2
      have := (List.pairwise_cons.mp hp).1 [] (List.mem_cons_self ..)
      cases this
  | t :: ts, xs, hl, h6, hp => by
    rw [worth_AA]
    exact (level (m := ts.length) (fun G a b c => sorted_pf ts G a b c) xs.length xs (Nat.le_refl _) hl h6 hp).1
end Mine
end
section
namespace Mine
theorem part_perm {c : Int} {xs ys : List (List Int)} (h : xs.Perm ys) : (partR c xs).Perm (partR c ys) := (h.filter _).map _
theorem cols_perm {xs ys : List (List Int)} (h : xs.Perm ys) : usort (xs.map hd0) = usort (ys.map hd0) :=
  sorted_ext (usort_sorted _) (usort_sorted _) fun a => by rw [mem_usort, mem_usort]; exact (h.map hd0).mem_iff
theorem worth_perm : ∀ (ts : List Int) {xs ys : List (List Int)}, xs.Perm ys → worthI ts xs = worthI ts ys
  | [], _, _, _ => rfl
  | t :: ts, xs, ys, h => by
    rw [worth_AA, worth_AA]
    have e1 : prodA ts xs = prodA ts ys := by
      unfold prodA
      rw [cols_perm h]
      exact fold_congr _ _ fun c _ => worth_perm ts (part_perm h)
    have e2 : oddA xs = oddA ys := by
      unfold oddA
      rw [cols_perm h]
      congr 1
      exact List.map_congr_left fun c _ => by rw [(part_perm h).length_eq]
    rw [e1, e2]
/-- pairs the other way round -/
noncomputable def cnt (p : List Int) (r : List (List Int)) : Nat := (r.filter fun y => gtInts p y).length
noncomputable def fl : List (List Int) → Nat
  | [] => 0
  | x :: r => cnt x r + fl r
theorem cnt_perm {p : List Int} {r s : List (List Int)} (h : r.Perm s) : cnt p r = cnt p s := (h.filter _).length_eq
theorem cnt_cons (p y : List Int) (r : List (List Int)) : cnt p (y :: r) = (if gtInts p y = true then 1 else 0) + cnt p r := by
  unfold cnt
  rw [List.filter_cons]
  split
  · rw [List.length_cons]; omega
  · omega
theorem fl_swap {a b : List Int} (h : ltR b a) : ∀ (pre post : List (List Int)), fl (pre ++ a :: b :: post) = fl (pre ++ b :: a :: post) + 1
  | [], post => by
    show cnt a (b :: post) + (cnt b post + fl post) = cnt b (a :: post) + (cnt a post + fl post) + 1
    rw [cnt_cons, cnt_cons, if_pos h, if_neg (fun k : gtInts b a = true => lt_irr (lt_trans (x := a) (y := b) (z := a) k h))]
    omega
  | p :: pre, post => by
    show cnt p (pre ++ a :: b :: post) + fl (pre ++ a :: b :: post) = cnt p (pre ++ b :: a :: post) + fl (pre ++ b :: a :: post) + 1
    rw [fl_swap h pre post, cnt_perm ((List.Perm.swap b a post).append_left pre)]
    omega
theorem sorted_or : ∀ (xs : List (List Int)), xs.Pairwise ltR ∨ ∃ pre a b post, xs = pre ++ a :: b :: post ∧ ¬ ltR a b
  | [] => .inl List.Pairwise.nil
  | [x] => .inl (List.pairwise_singleton ..)
  | x :: y :: r => by
    rcases sorted_or (y :: r) with h | ⟨pre, a, b, post, e, h⟩
    · by_cases k : ltR x y
      · refine .inl (List.pairwise_cons.mpr ⟨fun z hz => ?_, h⟩)
        rcases List.mem_cons.mp hz with rfl | hz
        · exact k
        · exact lt_trans k ((List.pairwise_cons.mp h).1 z hz)
      · exact .inr ⟨[], x, y, r, rfl, k⟩
    · exact .inr ⟨x :: pre, a, b, post, by rw [e]; rfl, h⟩
theorem PFl_swap {f : List Int → List Int → Int} {a b : List Int} (h : f b a = -f a b) : ∀ (pre post : List (List Int)), (pre ++ a :: b :: post).length = 6 → PFl f (pre ++ b :: a :: post) = -PFl f (pre ++ a :: b :: post)
  | [], [w, x, y, z], _ => swap_0 a b w x y z h
  | [u], [x, y, z], _ => swap_1 u a b x y z h
  | [u, v], [y, z], _ => swap_2 u v a b y z h
  | [u, v, w], [z], _ => swap_3 u v w a b z h
  | [u, v, w, x], [], _ => swap_4 u v w x a b h
  | [], [], h | [], [_], h | [], [_, _], h | [], [_, _, _], h | [], _ :: _ :: _ :: _ :: _ :: _, h => by simp at h
  | [_], [], h | [_], [_], h | [_], [_, _], h | [_], _ :: _ :: _ :: _ :: _, h => by simp at h
  | [_, _], [], h | [_, _], [_], h | [_, _], _ :: _ :: _ :: _, h => by simp at h
  | [_, _, _], [], h | [_, _, _], _ :: _ :: _, h => by simp at h
  | [_, _, _, _], _ :: _, h => by simp at h
  | _ :: _ :: _ :: _ :: _ :: _, _, h => by simp at h; omega
noncomputable def sg (n : Nat) (x : Int) : Int := if n % 2 = 1 then -x else x
theorem plain (ts : List Int) : ∀ (n : Nat) (xs : List (List Int)), fl xs = n → xs.length = 6 → (∀ r ∈ xs, r.length = ts.length) → xs.Nodup → PFl (cmpL ts) xs = sg n (worthI ts xs)
  | n, xs, hf, h6, hl, hn => by
    rcases sorted_or xs with h | ⟨pre, a, b, post, e, h⟩
    · have e0 : fl xs = 0 := by
        clear hf h6 hl hn
        induction xs with
        | nil => rfl
        | cons x r ih =>
          obtain ⟨h1, h2⟩ := List.pairwise_cons.mp h
          show cnt x r + fl r = 0
          rw [ih h2]
          unfold cnt
          rw [List.filter_eq_nil_iff.mpr fun y hy k => lt_irr (lt_trans (x := x) (y := y) (z := x) (h1 y hy) k)]; rfl
      rw [sorted_pf ts xs hl (by omega) h, ← hf, e0]; rfl
    · subst e
      have ha : a ∈ pre ++ a :: b :: post := by simp
      have hb : b ∈ pre ++ a :: b :: post := by simp
      have hab : a ≠ b := by
        intro q
        subst q
        have := (List.nodup_append.mp hn).2.1
        simp at this
      have hlt : ltR b a := by
        rcases lt_total (by rw [hl a ha, hl b hb]) hab with q | q
        · exact absurd q h
        · exact q
      have hfs := fl_swap hlt pre post
      have hp : (pre ++ a :: b :: post).Perm (pre ++ b :: a :: post) := (List.Perm.swap b a post).append_left pre
      match n, hf with
      | 0, hf => omega
      | n + 1, hf =>
        have ih := plain ts n (pre ++ b :: a :: post) (by omega) (by rw [← hp.length_eq]; exact h6) (fun r hr => hl r (hp.mem_iff.mpr hr)) (hp.nodup_iff.mp hn)
        rw [PFl_swap (cmpL_anti ts a b) pre post h6, ← worth_perm ts hp] at ih
        have : PFl (cmpL ts) (pre ++ a :: b :: post) = -sg n (worthI ts (pre ++ a :: b :: post)) := by rw [← ih, Int.neg_neg]
        rw [this]
        unfold sg
        by_cases q : n % 2 = 1
        · rw [if_pos q, if_neg (by omega), Int.neg_neg]
        · rw [if_neg q, if_pos (by omega)]
end Mine
end
section
open PySem
namespace Mine
theorem pf_eq (w : Nat → Nat → Int) : pfC w = Q6 (w 0 1) (w 0 2) (w 0 3) (w 0 4) (w 0 5) (w 1 2) (w 1 3) (w 1 4) (w 1 5) (w 2 3) (w 2 4) (w 2 5) (w 3 4) (w 3 5) (w 4 5) := by
  unfold pfC Q6 Q4; grind
section
variable {c : Nat → Int} {z : Nat}
theorem wW_eq (hz : z < 8) (i j : Nat) : wW c z i j = cmpL (TU c z) (KY c z i) (KY c z j) := by
  match z, hz with
  | 0, _ | 1, _ | 2, _ | 3, _ | 4, _ | 5, _ | 6, _ | 7, _ => rfl
theorem flen_cons {α : Type} (p : α → Bool) (x : α) (l : List α) : ((x :: l).filter p).length = (if p x = true then 1 else 0) + (l.filter p).length := by
  rw [List.filter_cons]
  split
  · rw [List.length_cons]; omega
  · omega
theorem falls_eq : fallsN c z = fl (keyedL c z) := by
  have key : ∀ a b c d e f : List Int, ([0, 1, 2, 3, 4, 5].map (fallN [a, b, c, d, e, f])).sum = fl [a, b, c, d, e, f] := by
    intro a b c d e f
    simp only [List.map_cons, List.map_nil, List.sum_cons, List.sum_nil, fallN, show List.range 0 = [] from rfl, show List.range 1 = [0] from rfl, show List.range 2 = [0, 1] from rfl, show List.range 3 = [0, 1, 2] from rfl, show List.range 4 = [0, 1, 2, 3] from rfl, show List.range 5 = [0, 1, 2, 3, 4] from rfl,
      flen_cons, List.filter_nil, List.length_nil, fl, cnt_cons, show ∀ p, cnt p [] = 0 from fun _ => rfl, KG, List.getD_cons_zero, List.getD_cons_succ]
    omega
  exact key _ _ _ _ _ _
theorem law_plain (hz : z < 8) : pfC (wW c z) = signed c z := by
  have h := plain (TU c z) (fl (keyedL c z)) (keyedL c z) rfl rfl keyed_len keyed_nodup
  rw [← falls_eq] at h
  rw [pf_eq]
  simp only [wW_eq hz]
  exact h
end
end Mine
end
section
open PySem
namespace Mine
theorem bits_pow {k : Int} {m : Nat} (h : k.natAbs ≤ 2 ^ m) : Builtin.Int.intBits k ≤ m + 1 := by
  unfold Builtin.Int.intBits
  split
  · exact Nat.zero_le _
  · rename_i hk
    have hn : k.natAbs ≠ 0 := by
      intro q
      exact hk (by simpa using q)
    have h2 : k.natAbs < 2 ^ (m + 1) := Nat.lt_of_le_of_lt h (Nat.pow_lt_pow_right (by decide) (Nat.lt_succ_self m))
    have := (Nat.log2_lt hn).mpr h2
    omega
theorem pow_bits {k : Int} {m : Nat} (h : Builtin.Int.intBits k ≤ m) : k.natAbs ≤ 2 ^ m := by
  unfold Builtin.Int.intBits at h
  split at h
  · rename_i hk
    have : k.natAbs = 0 := by simpa using hk
    rw [this]; exact Nat.zero_le _
  · rename_i hk
    have hn : k.natAbs ≠ 0 := by
      intro q
      exact hk (by simpa using q)
    exact Nat.le_of_lt ((Nat.log2_lt hn).mp (by omega))
theorem tok {N : Nat} (hN : N ≤ 1048576) : TOk (2 ^ (N + 7)) where
  one := Nat.pow_pos (by decide)
  mul := fun a b ha hb => by
    rw [← Nat.pow_mul] at ha hb
    have h1 := bits_pow ha
    have h2 := bits_pow hb
    have h : Builtin.Int.intTooBig (Builtin.Int.intBits a + Builtin.Int.intBits b) = false := by
      unfold Builtin.Int.intTooBig bitsLine
      exact decide_eq_false (by omega)
    unfold IntMulOk
    rw [h]
    simp
  pow := fun a ha n hn => by
    have h1 := bits_pow ha
    have h2 : Builtin.Int.intBits a * n ≤ (N + 8) * 3 := Nat.mul_le_mul h1 hn
    have h3 : ((Builtin.Int.intBits a * n : Nat) : Int) ≤ 134217728 := by omega
    rw [Int.natCast_mul] at h3
    exact h3
theorem list12 {l : List Int} (h : l.length = 12) : l.map D.int = [.int (l.getD 0 0), .int (l.getD 1 0), .int (l.getD 2 0), .int (l.getD 3 0), .int (l.getD 4 0), .int (l.getD 5 0), .int (l.getD 6 0), .int (l.getD 7 0), .int (l.getD 8 0), .int (l.getD 9 0), .int (l.getD 10 0), .int (l.getD 11 0)] := by
  match l, h with
  | [_, _, _, _, _, _, _, _, _, _, _, _], _ => rfl
/-- the law, in our own world -/
theorem law_true {xs : List Int} (hx : xs.length ≤ 63) {N : Nat} (hN : N ≤ 1048576) (hb : ∀ x ∈ xs, Builtin.Int.intBits x ≤ N) : Con noOrc 82 18 [.d (.list (xs.map .int))] [] (.d (.bool true)) [] := by
  have hlen : (cellsL xs).length = 12 := cells_len _ _
  have hle : ∀ k, ((cellsL xs).getD k 0).natAbs ≤ 2 ^ (N + 7) := fun k => by
    have h1 : 1 ≤ 2 ^ N := Nat.pow_pos (by decide)
    have h2 : 2 ^ (N + 7) = 128 * 2 ^ N := by rw [Nat.pow_add, Nat.mul_comm]
    rw [List.getD_eq_getElem?_getD]
    cases e : (cellsL xs)[k]? with
    | none => exact Nat.zero_le _
    | some x =>
      have := cells_le (M := 2 ^ N) (fun x hx => pow_bits (hb x hx)) xs.length C0 18 (fun c hc => by
        simp only [C0, List.mem_cons, List.not_mem_nil, or_false] at hc
        rcases hc with rfl | rfl | rfl | rfl | rfl | rfl | rfl | rfl | rfl | rfl | rfl | rfl <;> decide) x (List.mem_of_getElem? e)
      have h3 : xs.length * 2 ^ N ≤ 63 * 2 ^ N := Nat.mul_le_mul_right _ hx
      show x.natAbs ≤ _
      omega
  have h3 : 3 ≤ 2 ^ (N + 7) := by
    have h1 : 1 ≤ 2 ^ N := Nat.pow_pos (by decide)
    have h2 : 2 ^ (N + 7) = 128 * 2 ^ N := by rw [Nat.pow_add, Nat.mul_comm]
    omega
  exact law_run (n := 0) (c := fun k => (cellsL xs).getD k 0) (tok hN) h3 hx (list12 hlen) hle fun z hz => law_plain hz
end Mine
end
section
open PySem PySem.Calls PyProof.Rows PySem.W
set_option maxHeartbeats 2000000
namespace Mine
theorem entry_hasattr : entryFor table "hasattr" = some Builtin.«hasattr» := entryFor_of_tree (by kernel_rfl)
theorem kind_hasattr : builtinKind "hasattr" = none := by decide +kernel
theorem plain_hasattr : plainId "hasattr" = true := by decide +kernel
theorem args_hasattr (a b : Value) : argsOk "hasattr" ⟨[a, b], []⟩ := by unfold argsOk; kernel_rfl
theorem to_str_gi : typeOf (.builtin "str.__getitem__") = pure (.type "wrapper_descriptor") := by kernel_rfl
theorem slot_wd_get : Slot "wrapper_descriptor" "__get__" "wrapper_descriptor.__get__" :=
  .of (owner := "wrapper_descriptor") (n := "__get__") (by rw [typeLookup_type, builtinLookup_eq_fast]; kernel_rfl) (by decide +kernel) (by decide +kernel) (by decide +kernel)
    (by first | exact .inl (by decide +kernel) | exact .inr (by decide +kernel)) (by rw [isSubtype_type]; kernel_rfl)
theorem entry_wd_get : entryFor table "wrapper_descriptor.__get__" = some Builtin.«wrapper_descriptor.__get__» := entryFor_of_tree (by kernel_rfl)
theorem args_wd_get (a b c : Value) : argsOk "wrapper_descriptor.__get__" ⟨[a, b, c], []⟩ := by unfold argsOk; kernel_rfl
theorem lk_wd_set : typeLookup (.type "wrapper_descriptor") "__set__" = pure none := by rw [typeLookup_type, builtinLookup_eq_fast]; kernel_rfl
theorem lk_wd_del : typeLookup (.type "wrapper_descriptor") "__delete__" = pure none := by rw [typeLookup_type, builtinLookup_eq_fast]; kernel_rfl
theorem lk_str_gi : typeLookup (.type "str") "__getitem__" = pure (some (.builtin "str.__getitem__")) := by rw [typeLookup_type, builtinLookup_eq_fast]; kernel_rfl
theorem sub_str_gi : isSubtype (.type "str") (.type (".".intercalate ("str.__getitem__".cutAt '.').dropLast)) = pure true := by
  have e0 : "str.__getitem__".cutAt '.' = ["str", "__getitem__"] := by first | rfl | decide +kernel
  rw [e0, show ".".intercalate (["str", "__getitem__"].dropLast) = "str" by decide +kernel, isSubtype_type]; kernel_rfl
section
variable {prog : PySem.Program} {w : World} {A : Around} {E : Value → Shared → Prop} {h : Heap} {g : Array GenState} {d : Drawn} {tk : Nat} {os : OsState}
theorem wd_get_str {x : Str} {u : Tok} {R : Result → Shared → Prop} (hq : ∀ h' k (v : Addr), (∀ b o, h.get? b = some o → h'.get? b = some o) → R (.ok (.ret (.ref v))) ⟨h', g, d, k, os⟩) :
    codeAny (model prog w) A (.call (.builtin "wrapper_descriptor.__get__") ⟨[.builtin "str.__getitem__", .str x u, .type "str"], []⟩) R ⟨h, g, d, tk, os⟩ := by
  have hT5 : (⟨h, g, d, tk, os⟩ : Shared).TypeIs (.builtin "str.__getitem__") "wrapper_descriptor" := to_str_gi
  have hT : (⟨h, g, d, tk, os⟩ : Shared).TypeIs (.str x u) "str" := rfl
  refine codeAny_call_builtin slot_wd_get.plain entry_wd_get (slot_wd_get.check _ _ _ _ _ _ _ _ hT5 (args_wd_get _ _ _) ?_)
  have f9 := sub_str_gi
  unfold Builtin.«wrapper_descriptor.__get__»
  repeat (any_goals (first | assumption | wp_step))
  exact hq _ _ _ (fun b o e => Heap.get?_push_of_some _ e)
theorem gi_entry_str {x : Str} {u t : Tok} {Q : Fin → Shared → Prop} (hq : ∀ h' k (v : Addr), (∀ b o, h.get? b = some o → h'.get? b = some o) → Q (.done (.ret (.ref v))) ⟨h', g, d, k, os⟩) :
    wpAny (model prog w) A (Builtin.«object.__getattribute__» ⟨[.str x u, .str "__getitem__" t], []⟩) Q E ⟨h, g, d, tk, os⟩ := by
  have hT : (⟨h, g, d, tk, os⟩ : Shared).TypeIs (.str x u) "str" := rfl
  have hT5 : (⟨h, g, d, tk, os⟩ : Shared).TypeIs (.builtin "str.__getitem__") "wrapper_descriptor" := to_str_gi
  have f4 := lk_str_gi
  have f5 := to_str_gi
  have f6 := slot_wd_get.lookup
  have f7 := lk_wd_set
  have f8 := lk_wd_del
  repeat (any_goals (first | assumption | wp_step))
  refine wd_get_str fun h' k v hk => ?_
  repeat (any_goals (first | assumption | wp_step))
  exact hq _ _ _ hk
theorem has_str {x : Str} {u t : Tok} {Q : Value → Shared → Prop} (hq : ∀ h' k, (∀ b o, h.get? b = some o → h'.get? b = some o) → Q (.bool true) ⟨h', g, d, k, os⟩) :
    wpAny (model prog w) A (call (.builtin "hasattr") [.str x u, .str "__getitem__" t]) Q E ⟨h, g, d, tk, os⟩ := by
  refine Calls.call_function_entry kind_hasattr plain_hasattr entry_hasattr (args_hasattr _ _) ?_
  have hT : (⟨h, g, d, tk, os⟩ : Shared).TypeIs (.str x u) "str" := rfl
  have f2 := F.slot_str_getattribute.lookup
  have f3 := F.slot_str_getattribute.bind (.str x u)
  have f5 := lk_str_gi
  have f6 : (withoutEnding? "str.__getitem__" "#data").isSome = false := by decide +kernel
  unfold Builtin.«hasattr»
  repeat (any_goals (first | assumption | wp_step))
  refine codeAny_call_builtin F.slot_str_getattribute.plain F.entry_object_getattribute (F.slot_str_getattribute.check _ _ _ _ _ _ _ _ hT (F.args_object_getattribute_2 _ _) (gi_entry_str fun h' k v hk => ?_))
  repeat (any_goals (first | assumption | wp_step))
  exact ⟨_, rfl, hq _ _ hk⟩
theorem to_tup_gi : typeOf (.builtin "tuple.__getitem__") = pure (.type "wrapper_descriptor") := by kernel_rfl
theorem lk_tup_gi : typeLookup (.type "tuple") "__getitem__" = pure (some (.builtin "tuple.__getitem__")) := by rw [typeLookup_type, builtinLookup_eq_fast]; kernel_rfl
theorem sub_tup_gi : isSubtype (.type "tuple") (.type (".".intercalate ("tuple.__getitem__".cutAt '.').dropLast)) = pure true := by
  have e0 : "tuple.__getitem__".cutAt '.' = ["tuple", "__getitem__"] := by first | rfl | decide +kernel
  rw [e0, show ".".intercalate (["tuple", "__getitem__"].dropLast) = "tuple" by decide +kernel, isSubtype_type]; kernel_rfl
variable {a : Addr} {its : Array Value} {n : Nat}
theorem wd_get_tup {R : Result → Shared → Prop} (hx : h.get? a = some (tupOf its n)) (hq : ∀ h' k (v : Addr), (∀ b o, h.get? b = some o → h'.get? b = some o) → R (.ok (.ret (.ref v))) ⟨h', g, d, k, os⟩) :
    codeAny (model prog w) A (.call (.builtin "wrapper_descriptor.__get__") ⟨[.builtin "tuple.__getitem__", .ref a, .type "tuple"], []⟩) R ⟨h, g, d, tk, os⟩ := by
  have hT5 : (⟨h, g, d, tk, os⟩ : Shared).TypeIs (.builtin "tuple.__getitem__") "wrapper_descriptor" := to_tup_gi
  have hT : (⟨h, g, d, tk, os⟩ : Shared).TypeIs (.ref a) "tuple" := ⟨_, hx, rfl⟩
  refine codeAny_call_builtin slot_wd_get.plain entry_wd_get (slot_wd_get.check _ _ _ _ _ _ _ _ hT5 (args_wd_get _ _ _) ?_)
  have f9 := sub_tup_gi
  unfold Builtin.«wrapper_descriptor.__get__»
  repeat (any_goals (first | assumption | wp_step))
  exact hq _ _ _ (fun b o e => Heap.get?_push_of_some _ e)
theorem gi_entry_tup {t : Tok} {Q : Fin → Shared → Prop} (hx : h.get? a = some (tupOf its n)) (hq : ∀ h' k (v : Addr), (∀ b o, h.get? b = some o → h'.get? b = some o) → Q (.done (.ret (.ref v))) ⟨h', g, d, k, os⟩) :
    wpAny (model prog w) A (Builtin.«object.__getattribute__» ⟨[.ref a, .str "__getitem__" t], []⟩) Q E ⟨h, g, d, tk, os⟩ := by
  have hT : (⟨h, g, d, tk, os⟩ : Shared).TypeIs (.ref a) "tuple" := ⟨_, hx, rfl⟩
  have hT5 : (⟨h, g, d, tk, os⟩ : Shared).TypeIs (.builtin "tuple.__getitem__") "wrapper_descriptor" := to_tup_gi
  have f4 := lk_tup_gi
  have f5 := to_tup_gi
  have f6 := slot_wd_get.lookup
  have f7 := lk_wd_set
  have f8 := lk_wd_del
  repeat (any_goals (first | assumption | wp_step))
  refine wd_get_tup hx fun h' k v hk => ?_
  repeat (any_goals (first | assumption | wp_step))
  exact hq _ _ _ hk
theorem has_tup {t : Tok} {Q : Value → Shared → Prop} (hx : h.get? a = some (tupOf its n)) (hq : ∀ h' k, (∀ b o, h.get? b = some o → h'.get? b = some o) → Q (.bool true) ⟨h', g, d, k, os⟩) :
    wpAny (model prog w) A (call (.builtin "hasattr") [.ref a, .str "__getitem__" t]) Q E ⟨h, g, d, tk, os⟩ := by
  refine Calls.call_function_entry kind_hasattr plain_hasattr entry_hasattr (args_hasattr _ _) ?_
  have hT : (⟨h, g, d, tk, os⟩ : Shared).TypeIs (.ref a) "tuple" := ⟨_, hx, rfl⟩
  have f2 := F.slot_tuple_getattribute.lookup
  have f3 := F.slot_tuple_getattribute.bind (.ref a)
  have f5 := lk_tup_gi
  have f6 : (withoutEnding? "tuple.__getitem__" "#data").isSome = false := by decide +kernel
  have f7 : isSubtype (.type "tuple") (.type "module") = pure false := by rw [isSubtype_type]; kernel_rfl
  unfold Builtin.«hasattr»
  repeat (any_goals (first | assumption | wp_step))
  refine codeAny_call_builtin F.slot_tuple_getattribute.plain F.entry_tuple_ga (F.slot_tuple_getattribute.check _ _ _ _ _ _ _ _ hT (F.args_tuple_getattribute_2 _ _) (gi_entry_tup hx fun h' k v hk => ?_))
  repeat (any_goals (first | assumption | wp_step))
  exact ⟨_, rfl, hq _ _ hk⟩
theorem leaf_has {C : Cx} {σ : List S} {P Z : PH} {φ : Phi} {s : Shared} {A : Around} {x : D} {v : Value} {t : Tok} (hx : ∃ y, x = .str y ∨ ∃ ys, x = .tup ys) (r : Rel C P Z φ σ s) (hv : DIs C P x v) :
    wpAny (model C.prog C.w) A (call (.builtin "hasattr") [v, .str "__getitem__" t]) (Post C P Z φ (RV C (.d (.bool true))) σ) NoE s := by
  obtain ⟨h, g, d, tk, os⟩ := s
  obtain ⟨y, rfl | ⟨ys, rfl⟩⟩ := hx
  · cases hv with
    | str _ u => exact has_str fun h' k hk => post_pure (r.grow hk) (DIs.bool _)
  · obtain ⟨a, vs, m, rfl, pa, _⟩ := VIs.tup_inv (φ := φ) hv
    exact has_tup (r.keep _ _ pa) fun h' k hk => post_pure (r.grow hk) (DIs.bool _)
end
end Mine
end
section
open PySem PySem.Calls PyProof.Rows PySem.W
set_option maxHeartbeats 1000000
namespace Mine
section
variable {prog : PySem.Program} {w : World} {A : Around} {E : Value → Shared → Prop} {s : Shared}
theorem sorted_tail {vs : List Value} {out : Array Value} {s' : Shared} (b : Addr) (o : Obj) (e : s'.heap.get? b = some o) : (sortedHeap (s'.heap.push (seqObj "list" vs.toArray 0)) s'.heap.objs.size vs out).get? b = some o := by
  have hb := Heap.lt_size e
  rw [sortedHeap_old (Nat.ne_of_lt hb) (Heap.lt_size (Heap.get?_push_of_some (seqObj "list" vs.toArray 0) e))]
  exact Heap.get?_push_of_some _ e
theorem sorted_strs_any {r : Value} {Q : Value → Shared → Prop} (hcol : wpAny (model prog w) A.in1 (collect r) (fun vs s' => ∃ ss, vs.length < 64 ∧ StrsAre vs ss ∧ ∀ (D : Addr) (out : List Value) (ss' : List Str) (e : Nat) (h' : Heap), StrsAre out ss' → ss'.Perm ss → sortedS ss' = true →
      h'.get? D = some (seqObj "list" out.toArray e) → s'.heap.get? D = none → (∀ b o, s'.heap.get? b = some o → h'.get? b = some o) → Q (.ref D) { s' with heap := h' }) E s) : wpAny (model prog w) A (call (.builtin "sorted") [r]) Q E s := by
  refine Calls.call_function_entry kind_sorted plain_sorted entry_sorted (args_sorted1 _) ?_
  unfold Builtin.«sorted»
  refine wpAny_bind (m := checkCount "sorted" 1 1 _) (wpAny_pure ?_)
  refine wpAny_bind (wpAny_mono hcol (fun vs s' ⟨ss, h64, hS, hQ⟩ => ?_) fun _ _ z => z)
  refine wpAny_bind (wpAny_newList ?_ (by rw [sizeLine_eq]; omega))
  have hoL : (s'.heap.push (seqObj "list" vs.toArray 0)).get? s'.heap.objs.size = some (seqObj "list" vs.toArray 0) := Heap.get?_push_size _ rfl
  refine wpAny_bind (wpAny_holding (wpAny_call_entry (s := { s' with heap := s'.heap.push (seqObj "list" vs.toArray 0) }) slot_list_sort ⟨_, hoL, rfl⟩ entry_list_sort (list_sort_treeK strKind_oneLt hoL hS.keysOf (fun v₁ v₂ rest e => keyKind_strs (by rw [← e]; exact hS)) h64 fun st' hp hs => ⟨_, rfl, ?_⟩) (args_list_sort _)))
  obtain ⟨ss', h1, h2, h3⟩ := sorted_out_str hS hp hs
  obtain ⟨e, he⟩ := sortedHeap_at (out := (arrOf st').map (·.2)) hoL
  exact wpAny_pure ⟨_, rfl, hQ _ ((arrOf st').map (·.2)).toList ss' e _ h1 h2 h3 he (size_none _) fun b o eb => sorted_tail b o eb⟩
theorem sorted_ints_any {r : Value} {Q : Value → Shared → Prop} (hcol : wpAny (model prog w) A.in1 (collect r) (fun vs s' => ∃ ns, vs.length < 64 ∧ IntsAre vs ns ∧ ∀ (D : Addr) (out : List Value) (ns' : List Int) (e : Nat) (h' : Heap), IntsAre out ns' → ns'.Perm ns → ns'.Pairwise (· ≤ ·) →
      h'.get? D = some (seqObj "list" out.toArray e) → s'.heap.get? D = none → (∀ b o, s'.heap.get? b = some o → h'.get? b = some o) → Q (.ref D) { s' with heap := h' }) E s) : wpAny (model prog w) A (call (.builtin "sorted") [r]) Q E s := by
  refine Calls.call_function_entry kind_sorted plain_sorted entry_sorted (args_sorted1 _) ?_
  unfold Builtin.«sorted»
  refine wpAny_bind (m := checkCount "sorted" 1 1 _) (wpAny_pure ?_)
  refine wpAny_bind (wpAny_mono hcol (fun vs s' ⟨ns, h64, hS, hQ⟩ => ?_) fun _ _ z => z)
  refine wpAny_bind (wpAny_newList ?_ (by rw [sizeLine_eq]; omega))
  have hoL : (s'.heap.push (seqObj "list" vs.toArray 0)).get? s'.heap.objs.size = some (seqObj "list" vs.toArray 0) := Heap.get?_push_size _ rfl
  refine wpAny_bind (wpAny_holding (wpAny_call_entry (s := { s' with heap := s'.heap.push (seqObj "list" vs.toArray 0) }) slot_list_sort ⟨_, hoL, rfl⟩ entry_list_sort (list_sort_tree hoL hS h64 fun out ns' a1 a2 a3 => ⟨_, rfl, ?_⟩) (args_list_sort _)))
  obtain ⟨e, he⟩ := sortedHeap_at (out := out) hoL
  exact wpAny_pure ⟨_, rfl, hQ _ out.toList ns' e _ a1 a2 a3 he (size_none _) fun b o eb => sorted_tail b o eb⟩
end
/-- a new list of data, at a fresh place -/
theorem post_fresh {C : Cx} {σ : List S} {P Z : PH} {φ : Phi} {s : Shared} {D₀ : Addr} {out : List Value} {e : Nat} {h' : Heap} {ds : List D} (r : Rel C P Z φ σ s) (he : h'.get? D₀ = some (seqObj "list" out.toArray e)) (hn : s.heap.get? D₀ = none) (hk : ∀ b o, s.heap.get? b = some o → h'.get? b = some o)
    (hl : ds.length = out.length) (hd : ∀ P' (i : Nat) (x : D) (v : Value), ds[i]? = some x → out[i]? = some v → DIs C P' x v) : Post C P Z φ (RV C (.d (.list ds))) σ (.ref D₀) { s with heap := h' } := by
  obtain ⟨z1, z2, z3⟩ := r.none_at hn
  have r1 : Rel C P Z φ σ { s with heap := h' } := r.grow hk
  exact ⟨P.put D₀ (seqObj "list" out.toArray e), φ, PH.put_le z1, List.prefix_refl _, r1.freeze he z1 z2 z3, DIs.list (vs := out) (n := e) PH.put_self hl (hd _)⟩
end Mine
end
section
open PySem PySem.Calls PyProof.Rows PySem.W
set_option maxHeartbeats 1000000
namespace Mine
theorem lexLt_eq : ∀ a b : List Nat, lexLt a b = decide (a < b)
  | _, [] => by simp [lexLt]
  | [], b :: y => by simp [lexLt]
  | a :: x, b :: y => by
    have ih := lexLt_eq x y
    show (Nat.blt a b || (Nat.beq a b && lexLt x y)) = _
    rw [ih]
    have h1 : Nat.blt a b = decide (a < b) := by
      by_cases h : a < b
      · rw [decide_eq_true h]; exact Nat.ble_eq_true_of_le h
      · rw [decide_eq_false h]; exact Bool.eq_false_iff.mpr fun k => h (Nat.le_of_ble_eq_true k)
    have h2 : Nat.beq a b = decide (a = b) := by
      by_cases h : a = b
      · subst h; simp
      · rw [decide_eq_false h]; exact Bool.eq_false_iff.mpr fun k => h (Nat.eq_of_beq_eq_true k)
    rw [h1, h2, ← Bool.decide_and, ← Bool.decide_or]
    exact decide_eq_decide.mpr List.cons_lt_cons_iff.symm
theorem sins_perm (x : List Nat) : ∀ l, (sins x l).Perm (x :: l)
  | [] => .refl _
  | y :: r => by
    unfold sins
    split
    · exact ((sins_perm x r).cons y).trans (.swap x y r)
    · exact .refl _
theorem ssort_perm : ∀ l, (ssort l).Perm l
  | [] => .refl _
  | x :: r => (sins_perm x _).trans ((ssort_perm r).cons x)
theorem sins_sorted {x : List Nat} : ∀ {l : List (List Nat)}, l.Pairwise (fun a b => ¬ b < a) → (sins x l).Pairwise (fun a b => ¬ b < a)
  | [], _ => by simp [sins]
  | y :: r, h => by
    obtain ⟨h1, h2⟩ := List.pairwise_cons.mp h
    unfold sins
    split
    · rename_i q
      rw [lexLt_eq] at q
      have q := of_decide_eq_true q
      refine List.pairwise_cons.mpr ⟨fun z hz => ?_, sins_sorted h2⟩
      rcases List.mem_cons.mp ((sins_perm x r).mem_iff.mp hz) with rfl | hz
      · exact List.lt_asymm q
      · exact h1 z hz
    · rename_i q
      rw [lexLt_eq] at q
      have q : ¬ y < x := of_decide_eq_false q
      refine List.pairwise_cons.mpr ⟨fun z hz => ?_, h⟩
      rcases List.mem_cons.mp hz with rfl | hz
      · exact q
      · intro k
        exact q (List.lt_of_le_of_lt (List.not_lt.mp (h1 z hz)) k)
theorem ssort_sorted : ∀ l, (ssort l).Pairwise (fun a b => ¬ b < a)
  | [] => List.Pairwise.nil
  | x :: r => sins_sorted (ssort_sorted r)
theorem rising_pw : ∀ (l : List Str) (p : Str), risingS p l = true → (p :: l).Pairwise (fun a b => ¬ b.cps.toList < a.cps.toList)
  | [], p, _ => List.pairwise_singleton ..
  | x :: r, p, h => by
    have h : (!PySem.Spec.ltCps x.cps.toList p.cps.toList && risingS x r) = true := h
    obtain ⟨h1, h2⟩ := Bool.and_eq_true_iff.mp h
    have ih := rising_pw r x h2
    rw [ltCps_eq] at h1
    have h1 : ¬ x.cps.toList < p.cps.toList := by simpa using h1
    refine List.pairwise_cons.mpr ⟨fun z hz => ?_, ih⟩
    rcases List.mem_cons.mp hz with rfl | hz
    · exact h1
    · intro k
      exact h1 (List.lt_of_le_of_lt (List.not_lt.mp ((List.pairwise_cons.mp ih).1 z hz)) k)
theorem sorted_pw : ∀ l : List Str, sortedS l = true → l.Pairwise (fun a b => ¬ b.cps.toList < a.cps.toList)
  | [], _ => List.Pairwise.nil
  | x :: r, h => rising_pw r x h
theorem ssort_of {l : List (List Nat)} {ss : List Str} (hp : ss.Perm (l.map fun k => (⟨k.toArray⟩ : Str))) (hs : sortedS ss = true) : ss = (ssort l).map fun k => (⟨k.toArray⟩ : Str) := by
  have h1 : (ss.map fun y => y.cps.toList) = ssort l := by
    refine List.Perm.eq_of_pairwise (le := fun a b => ¬ b < a) (fun a b _ _ h1 h2 => List.le_antisymm (List.not_lt.mp h1) (List.not_lt.mp h2)) ?_ (ssort_sorted l) ?_
    · rw [List.pairwise_map]; exact sorted_pw ss hs
    · refine (hp.map _).trans ?_
      rw [List.map_map]
      have : (l.map ((fun y : Str => y.cps.toList) ∘ fun k => (⟨k.toArray⟩ : Str))) = l := by
        conv => rhs; rw [← List.map_id l]
        exact List.map_congr_left fun k _ => by simp
      rw [this]; exact (ssort_perm l).symm
  rw [← h1, List.map_map]
  conv => lhs; rw [← List.map_id ss]
  exact List.map_congr_left fun y _ => by simp
theorem strs_of_index : ∀ {vs : List Value} {ks : List Str}, vs.length = ks.length → (∀ (j : Nat) (v : Value) (k : Str), vs[j]? = some v → ks[j]? = some k → ∃ t, v = .str k t) → StrsAre vs ks
  | [], [], _, _ => .nil
  | [], _ :: _, h, _ => by cases h
  | _ :: _, [], h, _ => by cases h
  | v :: vs, k :: ks, h, hi => by
    obtain ⟨t, rfl⟩ := hi 0 v k rfl rfl
    exact .cons k t (strs_of_index (Nat.succ.inj h) fun j v k e1 e2 => hi (j + 1) v k e1 e2)
theorem strs_data {C : Cx} {P : PH} : ∀ {vs : List Value} {ks : List (List Nat)}, StrsAre vs (ks.map fun k => (⟨k.toArray⟩ : Str)) → ks.length = vs.length ∧ ∀ (i : Nat) (x : D) (v : Value), (ks.map D.str)[i]? = some x → vs[i]? = some v → DIs C P x v
  | [], [], _ => ⟨rfl, fun i x v h => by simp at h⟩
  | _ :: _, [], h => by cases h
  | [], _ :: _, h => by cases h
  | _ :: vs, k :: ks, h => by
    cases h with
    | cons y t h' =>
      obtain ⟨h1, h2⟩ := strs_data (C := C) (P := P) h'
      refine ⟨by simp [h1], fun i x v hx hv => ?_⟩
      match i, hx, hv with
      | 0, hx, hv =>
        simp at hx hv
        subst hx hv
        exact DIs.str k t
      | i + 1, hx, hv => exact h2 i x v (by simpa using hx) (by simpa using hv)
theorem leaf_sortd {C : Cx} (hm : ∃ o, C.h₀.get? sysModules = some o) {σ : List S} {P Z : PH} {φ : Phi} {s : Shared} {A : Around} {n i : Nat} {lk : Bool} {es : List (List Nat × D)} {v : Value} (hσ : σ[i]? = some (.mdict lk es)) (hl : es.length ≤ 60) (r : Rel C P Z φ σ s) (hv : VIs C P φ (.ref i) v) (hA : ARoom A n) :
    wpAny (model C.prog C.w) A (call (.builtin "sorted") [v]) (Post C P Z φ (RV C (.d (.list ((ssort (es.map (·.1))).map .str)))) σ) NoE s := by
  obtain ⟨a, nm, e1, rfl⟩ := hv
  obtain ⟨_, _, o, ho, kvs, ep, h2, h3⟩ := r.own i a nm _ e1 hσ
  have hat := DictO.dictAt ho h2
  have hks : kvs.map (·.1) = (es.map (·.1)).map fun k => (⟨k.toArray⟩ : Str) := by
    apply List.ext_getElem?
    intro j
    rw [List.map_map, List.getElem?_map, List.getElem?_map]
    cases e : es[j]? with
    | none =>
      have : kvs[j]? = none := by rw [List.getElem?_eq_none_iff] at e ⊢; rw [← h3.1]; exact e
      rw [this]; rfl
    | some p =>
      obtain ⟨q, hq, hk, _⟩ := h3.getD e
      rw [hq]
      show some q.1 = some _
      rw [hk]; rfl
  have hkl : kvs.length = es.length := h3.1.symm
  refine sorted_strs_any (kdu_collect (kdl_dict (knd := PySem.strKind C.prog C.w) (kvs := kvs) (ep := ep) (not_modules r hm e1)) (by show A.in1.handled = none; exact hA.handled) hat (by rw [sizeLine_eq]; omega) fun h' tk acc hk hacc => ?_)
  refine ⟨kvs.map (·.1), by rw [Array.length_toList, hacc.1]; omega, strs_of_index (by rw [Array.length_toList, hacc.1, List.length_map]) (fun j u k hu hk' => ?_), fun D₀ out ss' e h'' k1 k2 k3 k4 k5 k6 => ?_⟩
  · obtain ⟨k0, x0, hx, hi⟩ := hacc.2 j u (by rw [← Array.getElem?_toList]; exact hu)
    rw [List.getElem?_map, hx] at hk'
    cases hk'
    exact Value.isStrOf_shape hi
  · rw [hks] at k2
    have := ssort_of k2 k3
    subst this
    have r1 : Rel C P Z φ σ { s with heap := h', toks := tk } := r.grow hk
    obtain ⟨d1, _⟩ := strs_data (C := C) (P := P) k1
    exact post_fresh r1 k4 k5 k6 (by rw [List.length_map]; exact d1) fun P' => (strs_data (C := C) (P := P') k1).2
end Mine
end
section
open PySem
namespace Mine
noncomputable abbrev Rises (xs : Array Nat) : Prop := ∀ i k, i < k → k < xs.size → xs.getD i 0 < xs.getD k 0
theorem getD_any {xs : Array Nat} {i a b : Nat} (h : i < xs.size) : xs.getD i a = xs.getD i b := by simp [Array.getD, h]
theorem go_spec {xs : Array Nat} {j : Nat} (hs : Rises xs) : ∀ (fuel lo hi : Nat), lo ≤ hi → hi ≤ xs.size → hi - lo ≤ fuel → (∀ i, i < lo → xs.getD i 0 < j) → (∀ i, hi ≤ i → i < xs.size → j ≤ xs.getD i 0) →
    SetTable.below.go xs j fuel lo hi ≤ xs.size ∧ (∀ i, i < SetTable.below.go xs j fuel lo hi → xs.getD i 0 < j) ∧ (∀ i, SetTable.below.go xs j fuel lo hi ≤ i → i < xs.size → j ≤ xs.getD i 0)
  | 0, lo, hi, h1, h2, h3, h4, h5 => by
    have : lo = hi := by omega
    subst this
    unfold SetTable.below.go
    exact ⟨h2, h4, h5⟩
  | fuel + 1, lo, hi, h1, h2, h3, h4, h5 => by
    unfold SetTable.below.go
    by_cases hlt : lo < hi
    · rw [if_pos hlt]
      dsimp only
      rw [getD_any (b := 0) (show (lo + hi) / 2 < xs.size by omega)]
      split
      · rename_i q
        refine go_spec hs fuel _ _ (by omega) h2 (by omega) (fun i hi' => ?_) h5
        by_cases e : i = (lo + hi) / 2
        · rw [e]; exact q
        · exact Nat.lt_trans (hs i ((lo + hi) / 2) (by omega) (by omega)) q
      · rename_i q
        refine go_spec hs fuel _ _ (by omega) (by omega) (by omega) h4 fun i hi' hi2 => ?_
        by_cases e : i = (lo + hi) / 2
        · rw [e]; omega
        · have := hs ((lo + hi) / 2) i (by omega) hi2; omega
    · rw [if_neg hlt]
      have : lo = hi := by omega
      subst this
      exact ⟨h2, h4, h5⟩
theorem below_spec {xs : Array Nat} (hs : Rises xs) (j : Nat) : SetTable.below xs j ≤ xs.size ∧ (∀ i, i < SetTable.below xs j → xs.getD i 0 < j) ∧ (∀ i, SetTable.below xs j ≤ i → i < xs.size → j ≤ xs.getD i 0) :=
  go_spec hs xs.size 0 xs.size (Nat.zero_le _) (Nat.le_refl _) (by omega) (fun i h => by omega) fun i h1 h2 => by omega
theorem below_zero {xs : Array Nat} (hs : Rises xs) : SetTable.below xs 0 = 0 := by
  obtain ⟨_, h2, _⟩ := below_spec hs 0
  rcases Nat.eq_zero_or_pos (SetTable.below xs 0) with h | h
  · exact h
  · have := h2 0 h; omega
theorem below_next {xs : Array Nat} (hs : Rises xs) {i : Nat} (hi : i < xs.size) : SetTable.below xs (xs.getD i 0 + 1) = i + 1 := by
  obtain ⟨h1, h2, h3⟩ := below_spec hs (xs.getD i 0 + 1)
  rcases Nat.lt_trichotomy (SetTable.below xs (xs.getD i 0 + 1)) (i + 1) with q | q | q
  · have := h3 i (by omega) hi; omega
  · exact q
  · have h := h2 (i + 1) q
    have := hs i (i + 1) (by omega) (by omega)
    omega
theorem rises_list {xs : Array Nat} : Rises xs ↔ xs.toList.Pairwise (· < ·) := by
  rw [List.pairwise_iff_getElem]
  constructor
  · intro h i j hi hj hij
    have := h i j hij (by simpa using hj)
    simpa [Array.getD, Array.length_toList] using (by
      have hi' : i < xs.size := by simpa using hi
      have hj' : j < xs.size := by simpa using hj
      simpa [Array.getD, hi', hj'] using this : xs[i]'(by simpa using hi) < xs[j]'(by simpa using hj))
  · intro h i k hik hk
    have hi' : i < xs.size := by omega
    have := h i k (by simpa using hi') (by simpa using hk) hik
    simpa [Array.getD, hi', hk] using this
theorem slot_empty {t : SetTable} {j : Nat} (hs : Rises t.place) (h : t.slot j = .empty) : j ∉ t.place.toList := by
  intro hm
  obtain ⟨k, hk, e⟩ := List.mem_iff_getElem.mp hm
  have hk' : k < t.place.size := by simpa using hk
  have ek : t.place.getD k 0 = j := by simp [Array.getD, hk']; simpa using e
  obtain ⟨h1, h2, h3⟩ := below_spec hs j
  have hb : SetTable.below t.place j = k := by
    rcases Nat.lt_trichotomy (SetTable.below t.place j) k with q | q | q
    · have a := h3 (SetTable.below t.place j) (Nat.le_refl _) (by omega)
      have b := hs _ _ q hk'
      omega
    · exact q
    · have := h2 k q; omega
  unfold SetTable.slot at h
  rw [hb] at h
  dsimp only at h
  have : t.place[k]? = some j := by rw [Array.getElem?_eq_getElem hk']; simpa using e
  rw [this] at h
  simp at h
theorem probe_empty {t : SetTable} {h : Int} (hd : t.dummies = #[]) : ∀ (fuel : Nat) (p : SetTable.Probe) {j : Nat} {dm : Option Nat}, p.dummy = none → SetTable.probe.go t (fun _ => h + 1) h fuel p = some (.empty j dm) → dm = none ∧ t.slot j = .empty
  | 0, p, j, dm, _, e => by unfold SetTable.probe.go at e; cases e
  | fuel + 1, p, j, dm, hp, e => by
    have nd : ∀ j, t.slot j ≠ .dummy := fun j e => by
      unfold SetTable.slot at e
      dsimp only at e
      split at e
      · cases e
      · rw [hd] at e
        have : SetTable.has #[] j = false := by unfold SetTable.has SetTable.below SetTable.below.go; simp
        rw [this] at e
        simp at e
    unfold SetTable.probe.go at e
    split at e
    · rename_i q
      cases e
      exact ⟨hp, q⟩
    · rename_i q; exact absurd q (nd _)
    · have : (h + 1 == h) = false := by simp; omega
      rw [this] at e
      refine probe_empty hd fuel (t.advance p) ?_ e
      unfold SetTable.advance
      split
      · exact hp
      · dsimp only; exact hp
theorem ins_rises {xs : Array Nat} {j : Nat} (hs : Rises xs) (hn : j ∉ xs.toList) : Rises (SetTable.insertAt xs (SetTable.below xs j) j) := by
  rw [rises_list, SetTable.toList_insertAt]
  obtain ⟨h1, h2, h3⟩ := below_spec hs j
  have hp := rises_list.mp hs
  have hlt : ∀ x ∈ xs.toList.take (SetTable.below xs j), x < j := fun x hx => by
    obtain ⟨i, hi, e⟩ := List.mem_iff_getElem.mp hx
    rw [List.length_take] at hi
    have hi' : i < xs.size := by simp at hi; omega
    have := h2 i (by omega)
    rw [List.getElem_take] at e
    have e' : xs.getD i 0 = x := by simp [Array.getD, hi']; simpa using e
    omega
  have hgt : ∀ x ∈ xs.toList.drop (SetTable.below xs j), j < x := fun x hx => by
    have hm := List.mem_of_mem_drop hx
    obtain ⟨i, hi, e⟩ := List.mem_iff_getElem.mp hx
    rw [List.length_drop] at hi
    have hi' : SetTable.below xs j + i < xs.size := by simp at hi; omega
    have := h3 (SetTable.below xs j + i) (by omega) hi'
    rw [List.getElem_drop] at e
    have e' : xs.getD (SetTable.below xs j + i) 0 = x := by simp [Array.getD, hi']; simpa using e
    have : x ≠ j := fun q => hn (q ▸ hm)
    omega
  refine List.pairwise_append.mpr ⟨hp.sublist (List.take_sublist ..), List.pairwise_cons.mpr ⟨hgt, hp.sublist (List.drop_sublist ..)⟩, fun x hx y hy => ?_⟩
  rcases List.mem_cons.mp hy with rfl | hy
  · exact hlt x hx
  · exact Nat.lt_trans (hlt x hx) (hgt y hy)
structure TabOk (L : Bool) (t : SetTable) : Prop where
  dum : t.dummies = #[]
  rise : Rises t.place
  led : t.led = L
theorem standIn_ok {L : Bool} {t : SetTable} (h : t.led = L) (n : Nat) : TabOk L (t.standIn n) where
  dum := rfl
  rise := by rw [rises_list]; show (Array.range n).toList.Pairwise _; rw [Array.toList_range]; exact List.pairwise_lt_range
  led := h
theorem orStandIn_ok {L : Bool} {t : SetTable} (h : TabOk L t) (n : Nat) : TabOk L (t.orStandIn n) := by
  unfold SetTable.orStandIn
  split
  · exact h
  · exact standIn_ok h.led n
theorem layNew_ok {L : Bool} {t : SetTable} (h : TabOk L t) (es : Array (Int × Value)) (k : Int) (x : Value) : TabOk L (layNew t es k x).2.1 := by
  unfold layNew
  split
  · rename_i slot wd e
    have hs : slot ∉ t.place.toList := by
      unfold SetTable.freeSlot at e
      split at e
      · rename_i j dm e'
        obtain ⟨rfl, h2⟩ := probe_empty h.dum _ (t.probeStart k) rfl e'
        cases e
        exact slot_empty h.rise h2
      · cases e
    show TabOk L ((t.put slot).1.orStandIn _)
    refine orStandIn_ok (t := (t.put slot).1) ⟨?_, ins_rises h.rise hs, h.led⟩ _
    show (if SetTable.has t.dummies slot then _ else t.dummies) = #[]
    rw [h.dum]
    have : SetTable.has #[] slot = false := by unfold SetTable.has SetTable.below SetTable.below.go; simp
    rw [this]; rfl
  · exact standIn_ok h.led _
theorem relayAll_ok {L : Bool} {t : SetTable} (h : TabOk L t) (es : Array (Int × Value)) (n : Nat) : TabOk L (relayAll t es n).2.1 := by
  unfold relayAll
  split
  · rename_i t' order e
    have ht : TabOk L t' := by
      unfold SetTable.relaid SetTable.laid at e
      cases ho : SetTable.layClean (SetTable.sizeAbove n - 1) (es.map (·.1)) with
      | none => rw [ho] at e; cases e
      | some owner =>
        rw [ho] at e
        cases e
        refine ⟨rfl, ?_, h.led⟩
        rw [rises_list]
        show List.Pairwise _ (List.map _ (List.filterMap _ _)).toArray.toList
        rw [List.pairwise_map, List.pairwise_filterMap]
        refine List.pairwise_lt_range.imp fun {a b} hab p hp q hq => ?_
        obtain ⟨_, _, rfl⟩ := Option.map_eq_some_iff.mp hp
        obtain ⟨_, _, rfl⟩ := Option.map_eq_some_iff.mp hq
        exact hab
    dsimp only
    split
    · exact ht
    · exact standIn_ok h.led _
  · exact standIn_ok h.led _
theorem fresh_ok (L : Bool) : TabOk L (.fresh 0 0 L) := ⟨rfl, fun i k _ hk => by simp [SetTable.fresh] at hk, rfl⟩
end Mine
end
section
open PySem PySem.Calls PyProof.Rows PySem.W
set_option maxHeartbeats 1000000
namespace Mine
noncomputable abbrev setObj (es : Array (Int × Value)) (ep : Nat) (t : SetTable) : Obj := { cls := .type "set", dict := none, data := .set es ep t }
noncomputable def SetX (prog : PySem.Program) (w : World) (L : Bool) (h : Heap) (a : Addr) (ns : List Int) : Prop :=
  ∃ es ep t, h.get? a = some (setObj es ep t) ∧ ElemsOf (intKind prog w) es.toList ∧ es.size < scanBound ∧ t.fits es.size = true ∧ TabOk L t ∧ ∃ ms, IntsAre (es.toList.map (·.2)) ms ∧ ms.Perm ns
theorem ints_get : ∀ {vs : List Value} {ms : List Int}, IntsAre vs ms → ∀ v ∈ vs, ∃ k t, v = .int k t ∧ k ∈ ms
  | _, _, .nil, v, h => by simp at h
  | _, _, .cons n t r, v, h => by
    rcases List.mem_cons.mp h with rfl | h
    · exact ⟨n, t, rfl, List.mem_cons_self ..⟩
    · obtain ⟨k, u, e, hm⟩ := ints_get r v h
      exact ⟨k, u, e, List.mem_cons_of_mem _ hm⟩
noncomputable def valI : Value → Int
  | .int k _ => k
  | _ => 0
theorem ints_valI : ∀ {vs : List Value} {ms : List Int}, IntsAre vs ms → ms = vs.map valI
  | _, _, .nil => rfl
  | _, _, .cons n t r => by rw [List.map_cons, ← ints_valI r]; rfl
theorem ints_of : ∀ {vs : List Value}, (∀ v ∈ vs, ∃ k t, v = .int k t) → IntsAre vs (vs.map valI)
  | [], _ => .nil
  | v :: vs, h => by
    obtain ⟨k, t, rfl⟩ := h v (List.mem_cons_self ..)
    exact .cons k t (ints_of fun v hv => h v (List.mem_cons_of_mem _ hv))
theorem ints_perm {vs vs' : List Value} {ms : List Int} (h : IntsAre vs ms) (p : vs'.Perm vs) : IntsAre vs' (vs'.map valI) ∧ (vs'.map valI).Perm ms := by
  refine ⟨ints_of fun v hv => ?_, ?_⟩
  · obtain ⟨k, t, e, _⟩ := ints_get h v (p.mem_iff.mp hv)
    exact ⟨k, t, e⟩
  · rw [ints_valI h]; exact p.map _
theorem ints_snoc {k : Int} {tk : Tok} : ∀ {vs : List Value} {ms : List Int}, IntsAre vs ms → IntsAre (vs ++ [.int k tk]) (ms ++ [k])
  | _, _, .nil => .cons k tk .nil
  | _, _, .cons n u r => .cons n u (ints_snoc r)
section
variable {prog : PySem.Program} {w : World} {A : Around} {E : Value → Shared → Prop} {s : Shared} {L : Bool}
theorem SetX.store {h : Heap} {a : Addr} {es : Array (Int × Value)} {ep : Nat} {t : SetTable} (ho : h.get? a = some (setObj es ep t)) {es' : Array (Int × Value)} {t' : SetTable} : (h.update a (Obj.putSet es' t')).get? a = some (setObj es' (ep + 1) t') := by
  have := Heap.get?_update_self (Obj.putSet es' t') ho (by rw [putSet_of es' t' rfl]; rfl)
  rw [putSet_of es' t' rfl] at this; exact this
theorem gave_any {g : Bool → Sem Unit} (hg : ∀ (b : Bool) (s₁ : Shared) (Q' : Unit → Shared → Prop), Q' () s₁ → wpAny (model prog w) A (g b) Q' E s₁) {a : Addr} {es : Array (Int × Value)} {ep : Nat} {t : SetTable} (ho : s.heap.get? a = some (setObj es ep t))
    {es1 : Array (Int × Value)} {t2 : SetTable} {ns : List Int} (hel : ElemsOf (intKind prog w) es1.toList) (hb : es1.size < scanBound) (hf : t2.fits es1.size = true) (hT : TabOk L t2) (hm : ∃ ms, IntsAre (es1.toList.map (·.2)) ms ∧ ms.Perm ns) {wasDummy : Bool} {R : Option Bool → Shared → Prop}
    (h : ∀ h', Heap.SameBut a s.heap h' → SetX prog w L h' a ns → R (some true) { s with heap := h' }) :
    wpAny (model prog w) A (do
        storeSet a es1 t2
        if (!wasDummy && t2.tooFull) = true then do
            g (relayAll t2 es1 (SetTable.grown es1.size)).2.2
            storeSet a (relayAll t2 es1 (SetTable.grown es1.size)).1 (relayAll t2 es1 (SetTable.grown es1.size)).2.1
            pure (some true)
          else pure (some true)) R E s := by
  refine wpAny_bind (wpAny_storeSet_of ho rfl ?_ (fits_of_scanBound hb))
  have ho1 := SetX.store (es' := es1) (t' := t2) ho
  have hsb1 := Heap.SameBut.update s.heap a (Obj.putSet es1 t2)
  split
  · have hp := relayAll_perm t2 es1 (SetTable.grown es1.size)
    have hfr := relayAll_fits t2 es1 (SetTable.grown es1.size)
    have hTr := relayAll_ok hT es1 (SetTable.grown es1.size)
    generalize relayAll t2 es1 (SetTable.grown es1.size) = Rl at hp hfr hTr ⊢
    obtain ⟨es2, t3, gave2⟩ := Rl
    dsimp only at hp hfr hTr ⊢
    have hsz : es2.size = es1.size := by rw [← Array.length_toList, hp.length_eq, Array.length_toList]
    refine wpAny_bind (hg _ _ _ ?_)
    refine wpAny_bind (wpAny_storeSet_of ho1 rfl ?_ (fits_of_scanBound (by rw [hsz]; exact hb)))
    obtain ⟨ms, h1, h2⟩ := hm
    obtain ⟨i1, i2⟩ := ints_perm h1 (hp.map (·.2))
    exact wpAny_pure (h _ (hsb1.trans (Heap.SameBut.update _ a _)) ⟨es2, _, t3, SetX.store ho1, hel.perm hp, by rw [hsz]; exact hb, hfr, hTr, _, i1, i2.trans h2⟩)
  · exact wpAny_pure (h _ hsb1 ⟨es1, _, t2, ho1, hel, hb, hf, hT, hm⟩)
theorem add_x {a : Addr} {ns : List Int} {k : Int} {tk : Tok} {Q : Bool → Shared → Prop} (hS : SetX prog w L s.heap a ns) (hroom : ns.length + 1 < scanBound)
    (h : ∀ h' b, Heap.SameBut a s.heap h' → SetX prog w L h' a (if k ∈ ns then ns else ns ++ [k]) → Q b { s with heap := h' }) :
    wpAny (model prog w) A (setAddHashed a (.int k tk) ((intKind prog w).hash k)) Q E s := by
  have hkey : (intKind prog w).is k (.int k tk) = true := intKind_is _ _ _ _
  have hsc : (Value.int k tk).scannable = true := rfl
  obtain ⟨es, ep, t, ho, hel, hb, hf, hT, ms, hi, hp⟩ := hS
  have hlen : es.size = ns.length := by
    have := IntsAre.length hi
    rw [List.length_map, Array.length_toList] at this
    rw [this, hp.length_eq]
  unfold setAddHashed setAddHashedIn
  refine wpAny_holding (wpAny_bind (wpAny_setState_of ho rfl hf ?_))
  dsimp only
  rw [byScan_of hsc hb hel]
  simp only [↓reduceIte]
  unfold setAddByScan
  refine wpAny_bind ?_
  refine wpAny_bind (wpAny_rule ?_)
  refine wpAny_bind (wpAny_setScan_of hkey ho rfl hf hel ?_)
  have hmem : (∃ e ∈ es.toList, (intKind prog w).is k e.2 = true) ↔ k ∈ ns := by
    rw [← hp.mem_iff, ints_valI hi, List.mem_map]
    constructor
    · rintro ⟨e, he, hk⟩
      obtain ⟨k', u, ek, _⟩ := ints_get hi e.2 (List.mem_map.mpr ⟨e, he, rfl⟩)
      refine ⟨e.2, List.mem_map.mpr ⟨e, he, rfl⟩, ?_⟩
      rw [ek] at hk ⊢
      exact ((intKind prog w).inj _ _ _ hk (intKind_is _ _ _ _)).symm
    · rintro ⟨v, hv, e⟩
      obtain ⟨p, hp', rfl⟩ := List.mem_map.mp hv
      obtain ⟨k', u, ek, _⟩ := ints_get hi p.2 hv
      refine ⟨p, hp', ?_⟩
      rw [ek] at e ⊢
      have : k' = k := e
      subst this
      exact intKind_is _ _ _ _
  cases hr : List.findIdx? (fun e => (intKind prog w).is k e.2) es.toList with
  | some j =>
    dsimp only
    obtain ⟨hj, hpj, _⟩ := List.findIdx?_eq_some_iff_getElem.mp hr
    have hk : k ∈ ns := hmem.mp ⟨es.toList[j], List.getElem_mem hj, hpj⟩
    refine wpAny_pure (wpAny_pure ?_)
    have := h s.heap false (Heap.SameBut.refl a s.heap) (by rw [if_pos hk]; exact ⟨es, ep, t, ho, hel, hb, hf, hT, ms, hi, hp⟩)
    exact this
  | none =>
    dsimp only
    have hk : k ∉ ns := fun q => by
      obtain ⟨e, he, hpe⟩ := hmem.mpr q
      have := List.findIdx?_eq_none_iff.mp hr e he
      rw [hpe] at this; exact Bool.noConfusion this
    have hperm := layNew_perm t es ((intKind prog w).hash k) (.int k tk)
    have hfits := layNew_fits t es ((intKind prog w).hash k) (.int k tk)
    have hTn := layNew_ok hT es ((intKind prog w).hash k) (.int k tk)
    generalize layNew t es ((intKind prog w).hash k) (.int k tk) = Ly at hperm hfits hTn ⊢
    obtain ⟨es1, t1, wasDummy, gave⟩ := Ly
    dsimp only at hperm hfits hTn ⊢
    rw [Array.toList_push] at hperm
    have hel1 : ElemsOf (intKind prog w) es1.toList := (hel.push hkey hsc).perm hperm
    have hb1 : es1.size < scanBound := by rw [← Array.length_toList, hperm.length_eq, List.length_append, Array.length_toList, hlen]; exact hroom
    have hm1 : ∃ ms, IntsAre (es1.toList.map (·.2)) ms ∧ ms.Perm (if k ∈ ns then ns else ns ++ [k]) := by
      rw [if_neg hk]
      have h1 : IntsAre ((es.toList ++ [((intKind prog w).hash k, Value.int k tk)]).map (·.2)) (ms ++ [k]) := by
        rw [List.map_append]
        exact ints_snoc hi
      obtain ⟨i1, i2⟩ := ints_perm h1 (hperm.map (·.2))
      exact ⟨_, i1, i2.trans (hp.append_right _)⟩
    have hgw : ∀ (b : Bool) {s₁ : Shared} {Q' : Unit → Shared → Prop}, Q' () s₁ → wpAny (model prog w) A (match b with | true => rule "set.scan.the-table-gave-way" | false => pure ()) Q' E s₁ :=
      fun b s₁ Q' hq => by cases b <;> first | exact wpAny_pure hq | exact wpAny_rule hq
    refine wpAny_bind (hgw _ ?_)
    split
    · refine wpAny_bind ?_
      rw [hashByValue_scannable 8 hsc]
      refine wpAny_pure ?_
      refine gave_any ?_ ho hel1 hb1 hfits hTn hm1 ?_
      · intro b s₁ Q' hq; cases b <;> first | exact wpAny_pure hq | exact wpAny_rule hq
      · intro h' hsb hS'; dsimp only; exact wpAny_pure (h _ _ hsb hS')
    · refine wpAny_bind (wpAny_pure ?_)
      simp only [↓reduceIte]
      refine gave_any ?_ ho hel1 hb1 hfits hTn hm1 ?_
      · intro b s₁ Q' hq; cases b <;> first | exact wpAny_pure hq | exact wpAny_rule hq
      · intro h' hsb hS'; dsimp only; exact wpAny_pure (h _ _ hsb hS')
end
end Mine
end
section
open PySem PySem.Calls PyProof.Rows PySem.W
set_option maxHeartbeats 3200000
namespace Mine
noncomputable def stepN (ns : List Int) (k : Int) : List Int := if k ∈ ns then ns else ns ++ [k]
noncomputable def accN (val : Nat → Int) (i : Nat) : List Int := ((List.range i).map val).foldl stepN []
theorem accN_succ (val : Nat → Int) (i : Nat) : accN val (i + 1) = stepN (accN val i) (val i) := by
  unfold accN; rw [List.range_succ, List.map_append, List.foldl_append]; rfl
theorem stepN_le (ns : List Int) (k : Int) : (stepN ns k).length ≤ ns.length + 1 := by
  unfold stepN; split
  · omega
  · rw [List.length_append, List.length_singleton]; omega
theorem accN_le (val : Nat → Int) : ∀ i, (accN val i).length ≤ i
  | 0 => Nat.le_refl _
  | i + 1 => by rw [accN_succ]; have := stepN_le (accN val i) (val i); have := accN_le val i; omega
theorem stepN_nodup {ns : List Int} {k : Int} (h : ns.Nodup) : (stepN ns k).Nodup := by
  unfold stepN; split
  · exact h
  · rename_i q
    rw [List.nodup_append]
    exact ⟨h, List.pairwise_singleton .., fun a ha b hb e => by rw [List.mem_singleton] at hb; subst hb; subst e; exact q ha⟩
theorem stepN_mem {ns : List Int} {k x : Int} : x ∈ stepN ns k ↔ x ∈ ns ∨ x = k := by
  unfold stepN; split
  · rename_i q
    constructor
    · exact .inl
    · rintro (h | rfl)
      · exact h
      · exact q
  · rw [List.mem_append, List.mem_singleton]
theorem fold_nodup : ∀ (l : List Int) (ns : List Int), ns.Nodup → (l.foldl stepN ns).Nodup
  | [], _, h => h
  | k :: l, ns, h => fold_nodup l _ (stepN_nodup h)
theorem fold_mem {x : Int} : ∀ (l : List Int) (ns : List Int), x ∈ l.foldl stepN ns ↔ x ∈ ns ∨ x ∈ l
  | [], ns => by simp
  | k :: l, ns => by rw [List.foldl_cons, fold_mem l, stepN_mem, List.mem_cons, or_assoc]
theorem SetX.at {prog : PySem.Program} {w : World} {L : Bool} {h h' : Heap} {a : Addr} {ns : List Int} (x : SetX prog w L h a ns) (e : ∀ o, h.get? a = some o → h'.get? a = some o) : SetX prog w L h' a ns :=
  let ⟨es, ep, t, ho, r⟩ := x
  ⟨es, ep, t, e _ ho, r⟩
section
variable {prog : PySem.Program} {w : World} {A : Around} {R : Result → Shared → Prop} {I : Addr} {fp wr : List Addr} {G : Array GenState → Array GenState → Prop} {n : Nat} {P : Nat → Value → Prop} {St : Nat → Shared → Prop} {L : Bool}
theorem upd_loop (W : WalksS prog w A.in1 I fp wr G n P St) (S : Addr) (hSf : S ∉ fp) (val : Nat → Int) (hval : ∀ i v, P i v → ∃ t, v = .int (val i) t) (hb : n + 1 < scanBound) :
    ∀ (k i : Nat) (s : Shared), n - i = k → i ≤ n → St i s → SetX prog w L s.heap S (accN val i) →
      (∀ s', Moved (S :: wr) G s s' → SetX prog w L s'.heap S (accN val n) → R (.ok (.ret .none)) s') →
      codeAny (model prog w) A (.builtin "set.update.loop" ⟨[.ref S, .ref I], []⟩) R s := by
  have hSw : S ∉ wr := fun h => hSf (W.sub _ h)
  have hsub : ∀ b ∈ wr, b ∈ S :: wr := fun b hb => List.mem_cons_of_mem _ hb
  intro k
  induction k with
  | zero =>
    intro i s hk hi hst hS hR
    have hin : i = n := by omega
    subst hin
    refine codeAny_builtin PyProof.Rows.F.entry_set_update_loop ?_
    rw [Around.under_plainId PyProof.Rows.F.plain_set_update_loop _]
    show wpAny _ A.in1 (pyNext (.ref I) >>= _) _ _ s
    refine wpAny_bind (W.done s _ _ hst fun s' hm => ?_)
    show wpAny _ A.in1 (ret Value.none) _ _ s'
    exact wpAny_pure (hR s' (hm.mono hsub) (hS.at fun o e => hm.heap S o hSw e))
  | succ k ih =>
    intro i s hk hi hst hS hR
    have hlt : i < n := by omega
    refine codeAny_builtin PyProof.Rows.F.entry_set_update_loop ?_
    rw [Around.under_plainId PyProof.Rows.F.plain_set_update_loop _]
    show wpAny _ A.in1 (pyNext (.ref I) >>= _) _ _ s
    refine wpAny_bind (W.item i s _ _ hlt hst fun v s' hP hst' hm => ?_)
    obtain ⟨t, rfl⟩ := hval i v hP
    have hS' : SetX prog w L s'.heap S (accN val i) := hS.at fun o e => hm.heap S o hSw e
    show wpAny _ A.in1 (holding [Value.int (val i) t] (setAdd S (.int (val i) t)) >>= _) _ _ s'
    refine wpAny_bind (wpAny_holding ?_)
    unfold setAdd
    refine wpAny_holding ?_
    refine wpAny_bind ((intKind prog w).pyHash (k := val i) (intKind_is _ _ _ _) ?_)
    refine add_x (s := { s' with toks := s'.toks + 1 }) hS' (by have := accN_le val i; omega) fun h' b hsb hS2 => ?_
    have hSi : SetX prog w L h' S (accN val (i + 1)) := by rw [accN_succ]; exact hS2
    refine wpAny_pure ⟨plainId_quiet PyProof.Rows.F.plain_set_update_loop _, ih (i + 1) _ (by omega) hlt (W.frame _ s' _ _ hst' (Nat.le_succ _) fun b hb o e => ?_) hSi fun s'' hm'' hS'' => ?_⟩
    · rw [hsb.2 b (fun h : b = S => hSf (by rw [← h]; exact hb))]; exact e
    · refine hR s'' (Moved.trans W.gtrans ((hm.mono hsub).then_heap (Nat.le_succ _) fun b o hb e => ?_) hm'') hS''
      rw [hsb.2 b (fun h : b = S => hb (by rw [h]; exact List.mem_cons_self))]; exact e
end
noncomputable abbrev LedW (w : World) : Bool := !(w.params.followText "set-order")
section
variable {prog : PySem.Program} {w : World} {A : Around} {E : Value → Shared → Prop} {s : Shared}
theorem set_new_x (a : Value) {Q₁ : Value → Shared → Prop} (h : Q₁ (.ref s.heap.objs.size) { s with heap := s.heap.push (setObj #[] 0 (.fresh 0 0 (LedW w))) }) :
    codeAny (model prog w) A (.call (.builtin "set.__new__") ⟨[.type "set", a], []⟩) (wants Q₁ E) s := by
  refine codeAny_of_tree ?_
  show wpAny _ A.in1 (do checkBuiltinCall "set.__new__" ⟨[.type "set", a], []⟩; again (.builtin "set.__new__" ⟨[.type "set", a], []⟩)) _ _ s
  refine wpAny_bind (wpAny_of_eq (PySem.F.newCall_set_1 a) (wpAny_pure ⟨plainId_quiet PySem.F.plain_set_new _, codeAny_builtin PySem.F.entry_set_new ?_⟩))
  rw [Around.under_plainId PySem.F.plain_set_new _]
  unfold Builtin.«set.__new__» Builtin.Frozenset.newClass
  have hsub := sub_set_self
  obtain ⟨hp, g, d, tk, os⟩ := s
  dsimp only
  wp_walk
  refine wpAny_askSetting (wpAny_pure ?_)
  dsimp only
  simp only [newObj]
  refine wpAny_bind (wpAny_alloc (wpAny_pure ?_))
  exact wpAny_pure h
end
end Mine
end
section
open PySem PySem.Calls PyProof.Rows PySem.W
set_option maxHeartbeats 3200000
namespace Mine
section
variable {prog : PySem.Program} {w : World} {A : Around} {E : Value → Shared → Prop} {s : Shared}
theorem set_from {l : Addr} {items : Array Value} {ns : List Int} {Q : Value → Shared → Prop} (hh : A.handled = none) (hl : s.heap.IsList l items) (hi : IntsAre items.toList ns) (hb : items.size + 1 < scanBound)
    (h : ∀ (h' : Heap) (tk : Nat), SetX prog w (LedW w) h' s.heap.objs.size (accN (fun i => ns.getD i 0) items.size) → (∀ b o, b < s.heap.objs.size → s.heap.get? b = some o → h'.get? b = some o) → Q (.ref s.heap.objs.size) { s with heap := h', toks := tk }) :
    wpAny (model prog w) A (call (.type "set") [.ref l]) Q E s := by
  obtain ⟨c, tl, hmro⟩ := PySem.F.called_set.mro
  have hmade := PySem.F.called_set.made
  have hsub := PySem.F.called_set.sub
  refine wpAny_call (codeAny_of_tree ?_)
  show wpAny _ _ (callAny (.type "set") _) _ _ _
  refine wpAny_pure ⟨Code.quiet_builtin _ (by decide +kernel), codeAny_builtin PySem.F.entry_type_call ?_⟩
  rw [Around.under_plain (weight_type_call_type "set" [.ref l] []) rfl]
  have h1 := PySem.F.called_set.notType
  have h2 := PySem.F.called_set.canCreate
  have hct := PySem.F.typeCall_set_1 (.ref l)
  repeat (any_goals (first | assumption | wp_step))
  let s1 : Shared := { s with heap := s.heap.push (setObj #[] 0 (.fresh 0 0 (LedW w))) }
  refine codeAny_mono (set_new_x (.ref l) (E := E) (Q₁ := fun obj s₁ => obj = .ref s.heap.objs.size ∧ s₁ = s1) ⟨rfl, rfl⟩) fun r s₁ hr => ?_
  cases r with
  | error e => exact hr
  | ok fl =>
    cases fl with
    | ret obj =>
      obtain ⟨rfl, rfl⟩ := hr
      have hS : (s.heap.push (setObj #[] 0 (.fresh 0 0 (LedW w)))).get? s.heap.objs.size = some (setObj #[] 0 (.fresh 0 0 (LedW w))) := Heap.get?_push_size _ rfl
      have hT : Shared.TypeIs s1 (.ref s.heap.objs.size) "set" := ⟨_, hS, rfl⟩
      have hli := PySem.F.called_set.init.lookup
      have hbi := PySem.F.called_set.init.bind (.ref s.heap.objs.size)
      repeat (any_goals (first | assumption | wp_step))
      refine codeAny_mono (codeAny_call_builtin (R := wants (fun r s₂ => r = .none ∧ ∃ h' tk, s₂ = { s with heap := h', toks := tk } ∧ SetX prog w (LedW w) h' s.heap.objs.size (accN (fun i => ns.getD i 0) items.size) ∧
          (∀ b o, b < s.heap.objs.size → s.heap.get? b = some o → h'.get? b = some o)) E) PySem.F.called_set.init.plain PySem.F.entry_set_init (check_set_init_1 hT ?_)) fun r₂ s₂ hr₂ => ?_
      · obtain ⟨ol, hol, hcl, nl, hdl⟩ := hl
        obtain ⟨ocls, odict, odata, oslots⟩ := ol
        simp only at hcl hdl
        subst hcl; subst hdl
        have hol' : (s.heap.push (setObj #[] 0 (.fresh 0 0 (LedW w)))).get? l = some { cls := .type "list", dict := odict, data := .seq items nl, slots := oslots } := Heap.get?_push_of_some _ hol
        have hsls := PySem.F.sub_list_set
        have hslf := PySem.F.sub_list_frozenset
        have hne : (Value.type "list" == Value.type "dict") = false := by decide
        have hl1 : (s.heap.push (setObj #[] 0 (.fresh 0 0 (LedW w)))).IsList l items := ⟨_, hol', rfl, nl, rfl⟩
        unfold Builtin.«set.__init__» noKeywords Builtin.Frozenset.updateFrom
        generalize hPI : pyIter = PI
        wp_walk
        subst hPI
        refine wpAny_pyIter_list hl1 ?_
        refine wpAny_bind (wpAny_runValue ?_)
        have hlS : l < s.heap.objs.size := Heap.lt_size hol
        have hh3 : A.in1.in1.in1.handled = none := by simp [hh]
        have hneI : l ≠ (s.heap.push (setObj #[] 0 (.fresh 0 0 (LedW w)))).objs.size := by
          rw [Heap.size_push]; exact Nat.ne_of_lt (Nat.lt_succ_of_lt hlS)
        have hSf : s.heap.objs.size ∉ [(s.heap.push (setObj #[] 0 (.fresh 0 0 (LedW w)))).objs.size, l] := by
          rw [Heap.size_push]; simp only [List.mem_cons, List.mem_singleton, List.not_mem_nil, or_false, not_or]
          exact ⟨Nat.ne_of_lt (Nat.lt_succ_self _), Nat.ne_of_gt hlS⟩
        have hval : ∀ (i : Nat) (v : Value), items[i]? = some v → ∃ t, v = .int ((fun i => ns.getD i 0) i) t := fun i v hv =>
          PyProof.Rows.IntsAre.int_at hi i v (by rw [Array.getElem?_toList]; exact hv)
        refine upd_loop (L := LedW w) ((Walks.list hh3 _ l hneI items).toS) s.heap.objs.size hSf (fun i => ns.getD i 0) hval hb (items.size - 0) 0 _ (by omega) (Nat.zero_le _)
          ⟨⟨_, Heap.get?_push_size _ rfl, rfl, rfl⟩, (hl1.push _)⟩ ?hS0 ?hR
        case hS0 =>
          have hget : ((s.heap.push (setObj #[] 0 (.fresh 0 0 (LedW w)))).push { cls := .type "list_iterator", data := .fields #[.ref l, .int 0 0] }).get? s.heap.objs.size = some (setObj #[] 0 (.fresh 0 0 (LedW w))) := Heap.get?_push_of_some _ hS
          exact ⟨#[], 0, _, hget, fun e he => by simp at he, by decide, by rfl, fresh_ok _, [], .nil, .refl _⟩
        case hR =>
          intro s' hm hS'
          obtain ⟨h', g', d', tk', os'⟩ := s'
          have eg : g' = s.gens := hm.gens
          have ed : d' = s.drawn := hm.drawn
          have eo : os' = s.os := hm.os
          subst eg; subst ed; subst eo
          show wpAny _ _ _ _ _ _
          refine wpAny_pure ?_
          show wpAny _ _ (ret Value.none) _ _ _
          refine wpAny_pure ⟨rfl, h', tk', rfl, hS', fun b o hb e => ?_⟩
          have hb1 : b ≠ s.heap.objs.size := Nat.ne_of_lt hb
          have hb2 : b ≠ (s.heap.push (setObj #[] 0 (.fresh 0 0 (LedW w)))).objs.size := by
            rw [Heap.size_push]; exact Nat.ne_of_lt (Nat.lt_succ_of_lt hb)
          exact hm.heap b o (by simp only [List.mem_cons, List.mem_singleton, List.not_mem_nil, or_false, not_or]; exact ⟨hb1, hb2⟩) (Heap.get?_push_of_some _ (Heap.get?_push_of_some _ e))
      · cases r₂ with
        | error e => exact hr₂
        | ok fl₂ =>
          cases fl₂ with
          | ret r =>
            obtain ⟨rfl, h', tk, rfl, hS', hk'⟩ := hr₂
            repeat (any_goals (first | assumption | wp_step))
            exact h _ _ hS' hk'
          | _ => exact hr₂.elim
    | _ => exact hr.elim
end
end Mine
end
section
open PySem PySem.Calls PyProof.Rows PySem.W
set_option maxHeartbeats 1000000
namespace Mine
theorem erase_perm {α : Type} : ∀ {l : List α} {i : Nat} (hi : i < l.length), (l[i] :: l.eraseIdx i).Perm l
  | x :: l, 0, _ => .refl _
  | x :: l, i + 1, hi => ((List.Perm.swap x _ _).trans ((erase_perm (Nat.lt_of_succ_lt_succ hi)).cons x))
section
variable {M : Model} {prog : PySem.Program} {w : World} {A : Around} {E : Value → Shared → Prop} {s : Shared}
theorem wpAny_choose {src : Source} {n : Nat} {Q : Nat → Shared → Prop} (hn : n ≠ 0) (h : ∀ i d, i < n → Q i { s with drawn := d }) : wpAny M A (choose src n) Q E s :=
  fun _ _ _ => ⟨hn, h _ _ (Nat.mod_lt _ (Nat.pos_of_ne_zero hn))⟩
theorem wpAny_drawOrder {α : Type} : ∀ (n : Nat) (xs : List α) {s : Shared} {Q : List α → Shared → Prop}, xs.length = n → (∀ ys d, ys.Perm xs → Q ys { s with drawn := d }) → wpAny M A (drawOrder n xs) Q E s
  | 0, xs, s, Q, hl, h => by
    have : xs = [] := List.eq_nil_of_length_eq_zero hl
    subst this
    exact wpAny_pure (h [] s.drawn (.refl _))
  | n + 1, [], _, _, hl, _ => by cases hl
  | n + 1, x :: xs, s, Q, hl, h => by
    unfold drawOrder
    refine wpAny_bind (wpAny_choose (by rw [List.length_cons]; omega) fun i d hi => ?_)
    rw [List.getElem?_eq_getElem hi]
    refine wpAny_bind (wpAny_drawOrder n ((x :: xs).eraseIdx i) (by rw [List.length_eraseIdx_of_lt hi, hl]; rfl) fun ys d' hp => ?_)
    refine wpAny_pure (h _ d' ?_)
    exact (hp.cons _).trans (erase_perm hi)
theorem slot_si_next : Slot "set_iterator" "__next__" "set_iterator.__next__" :=
  .of (owner := "set_iterator") (n := "__next__") (by rw [typeLookup_type, builtinLookup_eq_fast]; kernel_rfl) (by decide +kernel) (by decide +kernel) (by decide +kernel)
    (by first | exact .inl (by decide +kernel) | exact .inr (by decide +kernel)) (by rw [isSubtype_type]; kernel_rfl)
theorem slot_si_iter : Slot "set_iterator" "__iter__" "set_iterator.__iter__" :=
  .of (owner := "set_iterator") (n := "__iter__") (by rw [typeLookup_type, builtinLookup_eq_fast]; kernel_rfl) (by decide +kernel) (by decide +kernel) (by decide +kernel)
    (by first | exact .inl (by decide +kernel) | exact .inr (by decide +kernel)) (by rw [isSubtype_type]; kernel_rfl)
theorem entry_si_next : entryFor table "set_iterator.__next__" = some Builtin.«set_iterator.__next__» := entryFor_of_tree (by kernel_rfl)
theorem args_si_next (a : Value) : argsOk "set_iterator.__next__" ⟨[a], []⟩ := by unfold argsOk; kernel_rfl
end
end Mine
end
section
open PySem PySem.Calls PyProof.Rows PySem.W
set_option maxHeartbeats 1000000
namespace Mine
noncomputable abbrev itObj (first : Value) (i a n ep : Nat) : Obj := { cls := .type "set_iterator", data := .fields #[first, .int i 0, .ref a, .int n 0, .int ep 0] }
noncomputable abbrev plTup (ps : List Nat) : Obj := { cls := .type "tuple", data := .seq (ps.map fun (p : Nat) => Value.int p 0).toArray }
theorem entry_set_iter : entryFor table "set.__iter__" = some Builtin.«frozenset.__iter__» :=
  entryFor_alias (id' := "frozenset.__iter__") (by kernel_rfl) (by first | rfl | decide +kernel) (by decide +kernel) (by kernel_rfl)
section
variable {prog : PySem.Program} {w : World} {A : Around} {E : Value → Shared → Prop} {s : Shared} {a ep : Nat} {es : Array (Int × Value)} {t : SetTable}
theorem byText_is {Q : Bool → Shared → Prop} (h : Q (w.params.followText "set-order") s) : wpAny (model prog w) A setsByText Q E s := by
  unfold setsByText
  exact wpAny_bind (wpAny_askSetting (wpAny_pure h))
theorem iter_set (ho : s.heap.get? a = some (setObj es ep t)) (hf : t.fits es.size = true) (hb : es.size < 100) {Q : Value → Shared → Prop}
    (h0 : (LedW w = true → (!t.plain && decide (es.size > 1)) = false) → Q (.ref s.heap.objs.size) { s with heap := s.heap.push (itObj (.int 0 0) 0 a es.size ep) })
    (h1 : ∀ (ps : List Nat) d, LedW w = true → ps.Perm (List.range es.size) → Q (.ref (s.heap.objs.size + 1)) { s with heap := (s.heap.push (plTup ps)).push (itObj (.ref s.heap.objs.size) 0 a es.size ep), drawn := d }) :
    wpAny (model prog w) A (pyIter (.ref a)) Q E s := by
  have hT : s.TypeIs (.ref a) "set" := ⟨_, ho, rfl⟩
  refine wpAny_pyIter_slot hT PySem.F.slot_set_iter (wpAny_call_entry PySem.F.slot_set_iter hT entry_set_iter ?_ (PySem.F.args_set_iter_1 _))
  unfold Builtin.«frozenset.__iter__»
  refine wpAny_bind ?_
  show wpAny _ _ (pure a) _ _ s
  refine wpAny_pure ?_
  unfold Builtin.Frozenset.sizeOf
  refine wpAny_bind (wpAny_bind (wpAny_setEntries_of ho rfl hf (wpAny_pure ?_)))
  unfold setDrawn
  refine wpAny_bind ?_
  refine wpAny_bind (wpAny_setState_of ho rfl hf ?_)
  refine wpAny_bind (byText_is (wpAny_pure ?_))
  dsimp only
  have last : ∀ (first : Value) (s' : Shared), (s'.heap.get? a = some (setObj es ep t)) → Q (.ref s'.heap.objs.size) { s' with heap := s'.heap.push (itObj first 0 a es.size ep) } →
      wpAny (model prog w) A.in1 (do ret (← newFields "set_iterator" [first, rawInt 0, .ref a, rawInt es.size, rawInt (← setEpoch a)])) (fun fin s' => ∃ v, fin = .done (.ret v) ∧ ∃ T' r, s'.TypeIs v T' ∧ typeLookup (.type T') "__next__" = pure (some r) ∧ Q v s') E s' := by
    intro first s' ho' hQ
    refine wpAny_bind (wpAny_setEpoch_of ho' rfl hf ?_)
    unfold newFields
    refine wpAny_bind (wpAny_newObj_type (wpAny_pure ⟨_, rfl, "set_iterator", _, ⟨_, Heap.get?_push_size _ rfl, rfl⟩, slot_si_next.lookup, ?_⟩))
    exact hQ
  split
  · rename_i hd
    obtain ⟨hl, _⟩ := Bool.and_eq_true_iff.mp hd
    refine wpAny_bind (wpAny_drawOrder es.size (List.range es.size) List.length_range fun ys d hp => ?_)
    have hlen : ys.length = es.size := by rw [hp.length_eq, List.length_range]
    refine wpAny_bind (wpAny_newTuple ?_ (by rw [List.length_map, hlen, sizeLine_eq]; omega))
    have h2 := h1 ys d hl hp
    have e : (s.heap.push (plTup ys)).objs.size = s.heap.objs.size + 1 := size_push' _ _
    rw [← e] at h2
    exact last (.ref s.heap.objs.size) { s with heap := s.heap.push (plTup ys), drawn := d } (Heap.get?_push_of_some _ ho) h2
  · rename_i hd
    refine wpAny_bind (wpAny_pure ?_)
    refine last (.int 0 0) s ho (h0 fun hl => ?_)
    have hl' : (!w.params.followText "set-order") = true := hl
    rw [hl', Bool.true_and] at hd
    exact Bool.eq_false_iff.mpr hd
end
end Mine
end
section
open PySem PySem.Calls PyProof.Rows PySem.W
set_option maxHeartbeats 1000000
namespace Mine
section
variable {prog : PySem.Program} {w : World} {A : Around} {E : Value → Shared → Prop} {s : Shared} {I a ep i : Nat} {es : Array (Int × Value)} {t : SetTable}
theorem upd_at {h : Heap} {o : Obj} {vs : Array Value} (ho : h.get? I = some o) (hd : o.data = .fields vs) (j : Nat) (x : Value) : (h.update I (Obj.mapFields (·.setIfInBounds j x))).get? I = some { o with data := .fields (vs.setIfInBounds j x) } := by
  have := Heap.get?_update_self (Obj.mapFields (·.setIfInBounds j x)) ho (Obj.isFreed_of_fields (Obj.data_mapFields hd _))
  rw [this]
  obtain ⟨c, d, dt, sl⟩ := o
  cases hd
  rfl
theorem next_int {slot nx : Nat} {x : Value} {Q : Option Value → Shared → Prop} (ho : s.heap.get? I = some (itObj (.int slot 0) i a es.size ep)) (hs : s.heap.get? a = some (setObj es ep t)) (hf : t.fits es.size = true)
    (hN : ∀ (E' : Value → Shared → Prop) (Q' : Option (Value × Nat) → Shared → Prop), Q' (some (x, nx)) s → wpAny (model prog w) A.in1 (setNext a slot i ep) Q' E' s)
    (hQ : ∀ h', h'.get? I = some (itObj (.int nx 0) (i + 1) a es.size ep) → Heap.SameBut I s.heap h' → Q (some x) { s with heap := h' }) : wpAny (model prog w) A (pyNext (.ref I)) Q E s := by
  have hT : s.TypeIs (.ref I) "set_iterator" := ⟨_, ho, rfl⟩
  unfold pyNext
  refine wpAny_bind (wpAny_attempt (wpAny_callSpecial?_slot (name := Str.ofString "__next__") hT slot_si_next (wpAny_call_entry slot_si_next hT entry_si_next ?_ (args_si_next _))))
  show wpAny _ _ (fieldsOf (.ref I) >>= _) _ _ s
  refine wpAny_bind (wpAny_fieldsOf ho rfl ?_)
  dsimp only
  refine wpAny_bind (wpAny_setEntries_of hs rfl hf ?_)
  rw [if_neg (by simp)]
  refine wpAny_bind (hN _ _ ?_)
  dsimp only
  refine wpAny_bind (wpAny_setField ho rfl (by simp) ?_)
  have h1 := upd_at ho rfl 0 (rawInt nx)
  refine wpAny_bind (wpAny_setField h1 rfl (by simp) ?_)
  have h2 := upd_at h1 rfl 1 (rawInt ((i : Int) + 1))
  refine wpAny_pure ⟨_, rfl, ?_⟩
  refine wpAny_pure (hQ _ ?_ ((Heap.SameBut.update ..).trans (Heap.SameBut.update ..)))
  exact h2
theorem next_drawn {tp : Nat} {ps : List Nat} {p : Nat} {x : Value} {hx : Int} {Q : Option Value → Shared → Prop} (ho : s.heap.get? I = some (itObj (.ref tp) i a es.size ep)) (hs : s.heap.get? a = some (setObj es ep t)) (hf : t.fits es.size = true) (htp : s.heap.get? tp = some (plTup ps)) (hp : ps[i]? = some p) (he : es[p]? = some (hx, x))
    (hQ : ∀ h', h'.get? I = some (itObj (.ref tp) (i + 1) a es.size ep) → Heap.SameBut I s.heap h' → Q (some x) { s with heap := h' }) : wpAny (model prog w) A (pyNext (.ref I)) Q E s := by
  have hT : s.TypeIs (.ref I) "set_iterator" := ⟨_, ho, rfl⟩
  unfold pyNext
  refine wpAny_bind (wpAny_attempt (wpAny_callSpecial?_slot (name := Str.ofString "__next__") hT slot_si_next (wpAny_call_entry slot_si_next hT entry_si_next ?_ (args_si_next _))))
  show wpAny _ _ (fieldsOf (.ref I) >>= _) _ _ s
  refine wpAny_bind (wpAny_fieldsOf ho rfl ?_)
  dsimp only
  refine wpAny_bind (wpAny_setEntries_of hs rfl hf ?_)
  rw [if_neg (by simp)]
  show wpAny _ _ (seqItems? (.ref tp) >>= _) _ _ s
  refine wpAny_bind (wpAny_seqItems htp rfl ?_)
  have e : (ps.map fun (p : Nat) => Value.int p 0).toArray[i]? = some (.int p 0) := by
    rw [List.getElem?_toArray, List.getElem?_map, hp]; rfl
  simp only [Int.toNat_natCast, e]
  refine wpAny_bind ?_
  unfold setNextDrawn
  refine wpAny_bind (wpAny_setState_of hs rfl hf ?_)
  dsimp only
  rw [if_neg (by simp)]
  refine wpAny_bind (wpAny_pure ?_)
  rw [he]
  refine wpAny_pure ?_
  refine wpAny_bind (wpAny_setField ho rfl (by simp) ?_)
  have h1 := upd_at ho rfl 1 (rawInt ((i : Int) + 1))
  refine wpAny_pure ⟨_, rfl, ?_⟩
  refine wpAny_pure (hQ _ ?_ (Heap.SameBut.update ..))
  exact h1
theorem stop_tail {A' : Around} (hh : A'.handled = none) {s' : Shared} {I : Nat} {s₀ : Shared} (hk : Heap.SameBut I s₀.heap s'.heap) {K : Value → Shared → Prop} {X : Fin → Shared → Prop}
    (hK : ∀ e h' , (∀ b o, b ≠ I → s₀.heap.get? b = some o → h'.get? b = some o) → Shared.TypeIs { s' with heap := h' } e "StopIteration" → K e { s' with heap := h' }) :
    wpAny (model prog w) A' (do raiseNew (← newExc (.type "StopIteration") [])) X K s' := by
  refine wpAny_bind ?_
  simp only [newExc, newTuple]
  refine wpAny_bind (wpAny_newObj_type ?_ (by size_fits))
  refine wpAny_bind (m := firstArgMember _ _) (wpAny_of_eq (a := Value.none) (by first | rfl | (simp only [firstArgMember]; rfl)) ?_)
  refine wpAny_newObj_type ?_ (by size_fits)
  simp only [raiseNew]
  refine wpAny_bind (wpAny_handled ?_)
  rw [hh]
  refine wpAny_bind (wpAny_pure (wpAny_throw ?_))
  refine hK _ _ (fun b o hb e => ?_) ⟨_, Heap.get?_push_size _ rfl, rfl⟩
  exact ((hk.extBut.push _).push _) b o hb e
end
end Mine
end
section
open PySem PySem.Calls PyProof.Rows PySem.W
set_option maxHeartbeats 1000000
namespace Mine
theorem pick_perm {α : Type} (f : Nat → Nat) : ∀ (fuel k : Nat) (left : List α) (out : Array α), left.length ≤ fuel → (pickOrder.go f fuel k left out).toList.Perm (out.toList ++ left)
  | 0, k, left, out, h => by
    have : left = [] := List.eq_nil_of_length_eq_zero (by omega)
    subst this
    unfold pickOrder.go
    rw [List.append_nil]
  | fuel + 1, k, left, out, h => by
    unfold pickOrder.go
    cases hl : left with
    | nil => simp
    | cons x xs =>
      have hlt : f k % (x :: xs).length < (x :: xs).length := Nat.mod_lt _ (by simp)
      rw [List.getElem?_eq_getElem hlt]
      dsimp only
      refine (pick_perm f fuel (k + 1) _ _ (by rw [List.length_eraseIdx_of_lt hlt]; rw [hl] at h; omega)).trans ?_
      rw [Array.toList_push, List.append_assoc]
      exact (erase_perm hlt).append_left _
theorem pickOrder_perm {α : Type} (f : Nat → Nat) (xs : Array α) : (pickOrder f xs).toList.Perm xs.toList := by
  have := pick_perm f xs.size 0 xs.toList #[] (by simp)
  simpa [pickOrder] using this
section
variable {prog : PySem.Program} {w : World} {A : Around} {E : Value → Shared → Prop} {s : Shared} {I a ep i : Nat} {es : Array (Int × Value)} {t : SetTable}
theorem setNext_text (hb : w.params.followText "set-order" = true) (hs : s.heap.get? a = some (setObj es ep t)) (hf : t.fits es.size = true) {slot : Nat} {Q : Option (Value × Nat) → Shared → Prop}
    (h : Q (((pickOrder (w.params.setOrder a ep) es)[i]?).map fun e => (e.2, slot)) s) : wpAny (model prog w) A (setNext a slot i ep) Q E s := by
  unfold setNext
  refine wpAny_bind (wpAny_setState_of hs rfl hf ?_)
  dsimp only
  refine wpAny_bind (byText_is ?_)
  rw [hb]
  simp only [bne_self_eq_false, Bool.false_eq_true, ↓reduceIte]
  refine wpAny_bind ?_
  unfold setWalk
  refine wpAny_bind (wpAny_setState_of hs rfl hf ?_)
  dsimp only
  refine wpAny_bind (byText_is ?_)
  rw [hb]
  simp only [↓reduceIte]
  refine wpAny_bind (wpAny_askSetting (wpAny_pure ?_))
  exact wpAny_pure h
theorem setNext_slot (hb : LedW w = true) (hd : (!t.plain && decide (es.size > 1)) = false) (hl : t.led = true) (hs : s.heap.get? a = some (setObj es ep t)) (hf : t.fits es.size = true) {slot : Nat} {Q : Option (Value × Nat) → Shared → Prop}
    (h : Q (match es[SetTable.below t.place slot]?, t.place[SetTable.below t.place slot]? with | some (_, x), some j => some (x, j + 1) | _, _ => none) s) : wpAny (model prog w) A (setNext a slot i ep) Q E s := by
  have hb' : w.params.followText "set-order" = false := by simpa using hb
  unfold setNext
  refine wpAny_bind (wpAny_setState_of hs rfl hf ?_)
  dsimp only
  refine wpAny_bind (byText_is ?_)
  rw [hb']
  simp only [Bool.false_eq_true, ↓reduceIte]
  show wpAny _ _ (if (!t.plain && decide (es.size > 1)) = true then _ else _) _ _ _
  rw [hd]
  simp only [Bool.false_eq_true, ↓reduceIte]
  refine wpAny_bind ?_
  show wpAny _ _ (if (!t.led && !es.isEmpty) = true then _ else _) _ _ _
  rw [hl]
  simp only [Bool.not_true, Bool.false_and, Bool.false_eq_true, ↓reduceIte]
  refine wpAny_pure ?_
  exact wpAny_pure h
noncomputable def slotAt (pl : Array Nat) : Nat → Nat
  | 0 => 0
  | k + 1 => pl.getD k 0 + 1
theorem below_slotAt {pl : Array Nat} (hs : Rises pl) {k : Nat} (hk : k ≤ pl.size) : SetTable.below pl (slotAt pl k) = k := by
  cases k with
  | zero => exact below_zero hs
  | succ k => exact below_next hs (by omega)
end
end Mine
end
section
open PySem PySem.Calls PyProof.Rows PySem.W
set_option maxHeartbeats 1000000
namespace Mine
theorem entry_si_iter : entryFor table "set_iterator.__iter__" = some Builtin.«dict_keyiterator.__iter__» :=
  entryFor_alias (id' := "dict_keyiterator.__iter__") (by kernel_rfl) (by first | rfl | decide +kernel) (by decide +kernel) (by kernel_rfl)
theorem args_si_iter (a : Value) : argsOk "set_iterator.__iter__" ⟨[a], []⟩ := by unfold argsOk; kernel_rfl
section
variable {prog : PySem.Program} {w : World} {A : Around} {E : Value → Shared → Prop} {s : Shared} {I a ep i : Nat} {es : Array (Int × Value)} {t : SetTable}
theorem self_iter {first : Value} {Q : Value → Shared → Prop} (ho : s.heap.get? I = some (itObj first i a es.size ep)) (h : Q (.ref I) s) : wpAny (model prog w) A (pyIter (.ref I)) Q E s := by
  have hT : s.TypeIs (.ref I) "set_iterator" := ⟨_, ho, rfl⟩
  refine wpAny_pyIter_slot hT slot_si_iter (wpAny_call_entry slot_si_iter hT entry_si_iter ?_ (args_si_iter _))
  show wpAny _ _ (ret (.ref I)) _ _ s
  exact wpAny_pure ⟨_, rfl, "set_iterator", _, hT, slot_si_next.lookup, h⟩
theorem end_int {slot : Nat} {Q : Option Value → Shared → Prop} (hh : A.handled = none) (ho : s.heap.get? I = some (itObj (.int slot 0) i a es.size ep)) (hs : s.heap.get? a = some (setObj es ep t)) (hf : t.fits es.size = true)
    (hN : ∀ (E' : Value → Shared → Prop) (Q' : Option (Value × Nat) → Shared → Prop), Q' none s → wpAny (model prog w) A.in1 (setNext a slot i ep) Q' E' s)
    (hQ : ∀ h', (∀ b o, b ≠ I → s.heap.get? b = some o → h'.get? b = some o) → Q none { s with heap := h' }) : wpAny (model prog w) A (pyNext (.ref I)) Q E s := by
  have hT : s.TypeIs (.ref I) "set_iterator" := ⟨_, ho, rfl⟩
  unfold pyNext
  refine wpAny_bind (wpAny_attempt (wpAny_callSpecial?_slot (name := Str.ofString "__next__") hT slot_si_next (wpAny_call_entry slot_si_next hT entry_si_next ?_ (args_si_next _))))
  show wpAny _ _ (fieldsOf (.ref I) >>= _) _ _ s
  refine wpAny_bind (wpAny_fieldsOf ho rfl ?_)
  dsimp only
  refine wpAny_bind (wpAny_setEntries_of hs rfl hf ?_)
  rw [if_neg (by simp)]
  refine wpAny_bind (hN _ _ ?_)
  dsimp only
  refine wpAny_bind (wpAny_setField ho rfl (by simp) ?_)
  refine stop_tail (A' := A.in1) (s₀ := s) (I := I) (by show A.in1.handled = none; exact hh) (Heap.SameBut.update ..) fun e h' hk hte => ?_
  refine wpAny_bind (wpAny_isInstance hte isSubtype_stop ?_)
  exact wpAny_pure (hQ _ hk)
theorem end_drawn {tp : Nat} {ps : List Nat} {Q : Option Value → Shared → Prop} (hh : A.handled = none) (ho : s.heap.get? I = some (itObj (.ref tp) i a es.size ep)) (hs : s.heap.get? a = some (setObj es ep t)) (hf : t.fits es.size = true) (htp : s.heap.get? tp = some (plTup ps)) (hp : ps[i]? = none)
    (hQ : ∀ h', (∀ b o, b ≠ I → s.heap.get? b = some o → h'.get? b = some o) → Q none { s with heap := h' }) : wpAny (model prog w) A (pyNext (.ref I)) Q E s := by
  have hT : s.TypeIs (.ref I) "set_iterator" := ⟨_, ho, rfl⟩
  unfold pyNext
  refine wpAny_bind (wpAny_attempt (wpAny_callSpecial?_slot (name := Str.ofString "__next__") hT slot_si_next (wpAny_call_entry slot_si_next hT entry_si_next ?_ (args_si_next _))))
  show wpAny _ _ (fieldsOf (.ref I) >>= _) _ _ s
  refine wpAny_bind (wpAny_fieldsOf ho rfl ?_)
  dsimp only
  refine wpAny_bind (wpAny_setEntries_of hs rfl hf ?_)
  rw [if_neg (by simp)]
  show wpAny _ _ (seqItems? (.ref tp) >>= _) _ _ s
  refine wpAny_bind (wpAny_seqItems htp rfl ?_)
  have e : (ps.map fun (p : Nat) => Value.int p 0).toArray[i]? = none := by
    rw [List.getElem?_toArray, List.getElem?_map, hp]; rfl
  simp only [Int.toNat_natCast, e]
  refine wpAny_bind (wpAny_setField ho rfl (by simp) ?_)
  have h1 := upd_at ho rfl 0 (rawInt 0)
  refine wpAny_bind (wpAny_setField h1 rfl (by simp) ?_)
  refine stop_tail (A' := A.in1) (s₀ := s) (I := I) (by show A.in1.handled = none; exact hh) ((Heap.SameBut.update ..).trans (Heap.SameBut.update ..)) fun e h' hk hte => ?_
  refine wpAny_bind (wpAny_isInstance hte isSubtype_stop ?_)
  exact wpAny_pure (hQ _ hk)
end
section
variable {prog : PySem.Program} {w : World} {A : Around} {I a ep : Nat} {es : Array (Int × Value)} {t : SetTable}
theorem walk_text (hh : A.handled = none) (hne : a ≠ I) (hb : w.params.followText "set-order" = true) (hf : t.fits es.size = true) :
    Walks prog w A I [I, a] [I] es.size (fun i v => ((pickOrder (w.params.setOrder a ep) es).toList.map (·.2))[i]? = some v) (fun i h => h.get? I = some (itObj (.int 0 0) i a es.size ep) ∧ h.get? a = some (setObj es ep t)) where
  sub := fun b hb => by simp at hb; simp [hb]
  frame := fun i h h' st hk => ⟨hk I (by simp) _ st.1, hk a (by simp) _ st.2⟩
  item := fun i s Q E hi st hQ => by
    have hsz : (pickOrder (w.params.setOrder a ep) es).size = es.size := by rw [← Array.length_toList, (pickOrder_perm _ es).length_eq, Array.length_toList]
    have hi' : i < (pickOrder (w.params.setOrder a ep) es).size := by rw [hsz]; exact hi
    refine next_int (slot := 0) (nx := 0) (x := ((pickOrder (w.params.setOrder a ep) es)[i]).2) st.1 st.2 hf (fun E' Q' hq => setNext_text hb st.2 hf (by rw [Array.getElem?_eq_getElem hi']; exact hq)) fun h' e1 e2 => ?_
    refine hQ _ h' s.toks ?_ ⟨e1, (e2.2 a hne).trans st.2⟩ fun b o hb e => (e2.2 b (fun q => hb (by simp [q]))).trans e
    rw [List.getElem?_map, Array.getElem?_toList, Array.getElem?_eq_getElem hi']; rfl
  done := fun s Q E st hQ => by
    have hsz : (pickOrder (w.params.setOrder a ep) es).size = es.size := by rw [← Array.length_toList, (pickOrder_perm _ es).length_eq, Array.length_toList]
    refine end_int (slot := 0) hh st.1 st.2 hf (fun E' Q' hq => setNext_text hb st.2 hf (by rw [Array.getElem?_eq_none (by omega)]; exact hq)) fun h' hk => ?_
    exact hQ h' s.toks fun b o hb e => hk b o (fun q => hb (by simp [q])) e
  self := fun i s Q E st hQ => self_iter st.1 hQ
theorem walk_slot (hh : A.handled = none) (hne : a ≠ I) (hb : LedW w = true) (hd : (!t.plain && decide (es.size > 1)) = false) (hT : TabOk (LedW w) t) (hf : t.fits es.size = true) :
    Walks prog w A I [I, a] [I] es.size (fun i v => (es.toList.map (·.2))[i]? = some v) (fun i h => h.get? I = some (itObj (.int (slotAt t.place i) 0) i a es.size ep) ∧ h.get? a = some (setObj es ep t)) where
  sub := fun b hb => by simp at hb; simp [hb]
  frame := fun i h h' st hk => ⟨hk I (by simp) _ st.1, hk a (by simp) _ st.2⟩
  item := fun i s Q E hi st hQ => by
    have hps : t.place.size = es.size := by simp only [SetTable.fits, Bool.and_eq_true, beq_iff_eq, decide_eq_true_eq] at hf; exact hf.1
    have hi' : i < t.place.size := by omega
    refine next_int (slot := slotAt t.place i) (nx := slotAt t.place (i + 1)) (x := (es[i]).2) st.1 st.2 hf (fun E' Q' hq => setNext_slot hb hd (by rw [hT.led]; exact hb) st.2 hf ?_) fun h' e1 e2 => ?_
    · rw [below_slotAt hT.rise (by omega), Array.getElem?_eq_getElem hi, Array.getElem?_eq_getElem hi']
      have : slotAt t.place (i + 1) = t.place[i] + 1 := by show t.place.getD i 0 + 1 = _; simp [Array.getD, hi']
      rw [this] at hq
      exact hq
    · refine hQ _ h' s.toks ?_ ⟨e1, (e2.2 a hne).trans st.2⟩ fun b o hb e => (e2.2 b (fun q => hb (by simp [q]))).trans e
      rw [List.getElem?_map, Array.getElem?_toList, Array.getElem?_eq_getElem hi]; rfl
  done := fun s Q E st hQ => by
    have hps : t.place.size = es.size := by simp only [SetTable.fits, Bool.and_eq_true, beq_iff_eq, decide_eq_true_eq] at hf; exact hf.1
    refine end_int (slot := slotAt t.place es.size) hh st.1 st.2 hf (fun E' Q' hq => setNext_slot hb hd (by rw [hT.led]; exact hb) st.2 hf ?_) fun h' hk => ?_
    · rw [below_slotAt hT.rise (by omega), Array.getElem?_eq_none (Nat.le_refl _)]
      exact hq
    · exact hQ h' s.toks fun b o hb e => hk b o (fun q => hb (by simp [q])) e
  self := fun i s Q E st hQ => self_iter st.1 hQ
theorem walk_drawn {tp : Nat} {ps : List Nat} (hh : A.handled = none) (hne : a ≠ I) (hnt : tp ≠ I) (hf : t.fits es.size = true) (hp : ps.Perm (List.range es.size)) :
    Walks prog w A I [I, a, tp] [I] es.size (fun i v => (ps.map fun p => (es.getD p (0, .none)).2)[i]? = some v) (fun i h => h.get? I = some (itObj (.ref tp) i a es.size ep) ∧ h.get? a = some (setObj es ep t) ∧ h.get? tp = some (plTup ps)) where
  sub := fun b hb => by simp at hb; simp [hb]
  frame := fun i h h' st hk => ⟨hk I (by simp) _ st.1, hk a (by simp) _ st.2.1, hk tp (by simp) _ st.2.2⟩
  item := fun i s Q E hi st hQ => by
    have hl : ps.length = es.size := by rw [hp.length_eq, List.length_range]
    have hi' : i < ps.length := by omega
    have hpl : ps[i] < es.size := List.mem_range.mp (hp.mem_iff.mp (List.getElem_mem hi'))
    refine next_drawn (p := ps[i]) (x := (es[ps[i]]).2) (hx := (es[ps[i]]).1) st.1 st.2.1 hf st.2.2 (List.getElem?_eq_getElem hi') (Array.getElem?_eq_getElem hpl) fun h' e1 e2 => ?_
    refine hQ _ h' s.toks ?_ ⟨e1, (e2.2 a hne).trans st.2.1, (e2.2 tp hnt).trans st.2.2⟩ fun b o hb e => (e2.2 b (fun q => hb (by simp [q]))).trans e
    rw [List.getElem?_map, List.getElem?_eq_getElem hi']
    show some (es.getD ps[i] (0, .none)).2 = some (es[ps[i]]).2
    simp [Array.getD, hpl]
  done := fun s Q E st hQ => by
    have hl : ps.length = es.size := by rw [hp.length_eq, List.length_range]
    refine end_drawn hh st.1 st.2.1 hf st.2.2 (List.getElem?_eq_none (by omega)) fun h' hk => ?_
    exact hQ h' s.toks fun b o hb e => hk b o (fun q => hb (by simp [q])) e
  self := fun i s Q E st hQ => self_iter st.1 hQ
end
end Mine
end
section
open PySem PySem.Calls PyProof.Rows PySem.W
set_option maxHeartbeats 1000000
namespace Mine
section
variable {prog : PySem.Program} {w : World} {A : Around} {E : Value → Shared → Prop} {s : Shared} {a ep : Nat} {es : Array (Int × Value)} {t : SetTable}
theorem iter_any (ho : s.heap.get? a = some (setObj es ep t)) (hf : t.fits es.size = true) (hT : TabOk (LedW w) t) (hb : es.size < 100) (hh : A.handled = none) {Q : Value → Shared → Prop}
    (h : ∀ (I : Addr) (s2 : Shared) (ord : List Value) (fp : List Addr) (St : Nat → Heap → Prop), ord.Perm (es.toList.map (·.2)) → (∀ b o, s.heap.get? b = some o → s2.heap.get? b = some o) → (∀ b ∈ fp, b = a ∨ s.heap.get? b = none) → s.heap.get? I = none → s2.gens = s.gens → s2.os = s.os →
      Walks prog w A I fp [I] es.size (fun i v => ord[i]? = some v) St → St 0 s2.heap → Q (.ref I) s2) : wpAny (model prog w) A (pyIter (.ref a)) Q E s := by
  have ha := Heap.lt_size ho
  have nn : ∀ b : Nat, s.heap.objs.size ≤ b → s.heap.get? b = none := fun b hb => by
    cases e : s.heap.get? b with
    | none => rfl
    | some o => exact absurd (Heap.lt_size e) (Nat.not_lt.mpr hb)
  refine iter_set ho hf hb (fun h0 => ?_) fun ps d hl hp => ?_
  · have hne : a ≠ s.heap.objs.size := Nat.ne_of_lt ha
    have hI := Heap.get?_push_size s.heap (o := itObj (.int 0 0) 0 a es.size ep) rfl
    have hs := Heap.get?_push_of_some (itObj (.int 0 0) 0 a es.size ep) ho
    by_cases hw : w.params.followText "set-order" = true
    · exact h _ _ _ _ _ ((pickOrder_perm _ es).map _) (fun b o e => Heap.get?_push_of_some _ e) (fun b hb => by
        simp only [List.mem_cons, List.not_mem_nil, or_false] at hb
        rcases hb with rfl | rfl
        · exact .inr (nn _ (Nat.le_refl _))
        · exact .inl rfl) (nn _ (Nat.le_refl _)) rfl rfl (walk_text hh hne hw hf) ⟨hI, hs⟩
    · have hl : LedW w = true := by simpa using hw
      exact h _ _ _ _ _ (.refl _) (fun b o e => Heap.get?_push_of_some _ e) (fun b hb => by
        simp only [List.mem_cons, List.not_mem_nil, or_false] at hb
        rcases hb with rfl | rfl
        · exact .inr (nn _ (Nat.le_refl _))
        · exact .inl rfl) (nn _ (Nat.le_refl _)) rfl rfl (walk_slot hh hne hl (h0 hl) hT hf) ⟨hI, hs⟩
  · have hne : a ≠ s.heap.objs.size + 1 := Nat.ne_of_lt (Nat.lt_succ_of_lt ha)
    have htp := Heap.get?_push_size s.heap (o := plTup ps) rfl
    have e1 : (s.heap.push (plTup ps)).objs.size = s.heap.objs.size + 1 := size_push' _ _
    have hI := Heap.get?_push_size (s.heap.push (plTup ps)) (o := itObj (.ref s.heap.objs.size) 0 a es.size ep) rfl
    rw [e1] at hI
    have hord : (ps.map fun p => (es.getD p (0, .none)).2).Perm (es.toList.map (·.2)) := by
      refine (hp.map _).trans ?_
      have : (List.range es.size).map (fun p => (es.getD p (0, .none)).2) = es.toList.map (·.2) := by
        apply List.ext_getElem
        · simp
        · intro i h1 h2
          have h1' : i < es.size := by simpa using h1
          simp [Array.getD, h1']
      rw [this]
    exact h _ _ _ _ _ hord (fun b o e => Heap.get?_push_of_some _ (Heap.get?_push_of_some _ e)) (fun b hb => by
        simp only [List.mem_cons, List.not_mem_nil, or_false] at hb
        rcases hb with rfl | rfl | rfl
        · exact .inr (nn _ (by omega))
        · exact .inl rfl
        · exact .inr (nn _ (Nat.le_refl _))) (nn _ (by omega)) rfl rfl (walk_drawn hh hne (by omega) hf hp) ⟨hI, Heap.get?_push_of_some _ (Heap.get?_push_of_some _ ho), Heap.get?_push_of_some _ htp⟩
theorem hint_set {Q : Bool → Shared → Prop} (hT : s.TypeIs (.ref a) "set") (h : Q false s) : wpAny (model prog w) A (Builtin.List.listLengthHint (.ref a)) Q E s := by
  unfold Builtin.List.listLengthHint
  refine wpAny_bind (wpAny_specialOf hT PySem.F.slot_set_len.lookup ?_)
  generalize hid : ("set.__len__" : String) = id0
  wp_delta
  rw [show splitId id0 = some ("set", "__len__") from by subst hid; decide +kernel]
  subst hid
  refine wpAny_bind (wpAny_isInstance (T := "set") (b := true) hT (by rw [isSubtype_type]; kernel_rfl) ?_)
  refine wpAny_ite_split (fun hab => absurd hab (by decide)) (fun _ => ?_)
  refine wpAny_ite_split (fun _ => ?_) (fun hab => absurd (by decide +kernel) hab)
  refine wpAny_bind (wpAny_typeOf hT ?_)
  exact wpAny_pure h
theorem ext_set {R : Result → Shared → Prop} (hh : A.handled = none) (ho : s.heap.get? a = some (setObj es ep t)) (hf : t.fits es.size = true) (hTb : TabOk (LedW w) t) (hb : es.size < 100) (S : Addr) (hSa : S ≠ a) (res : Value) (c₀ : Nat) (hS : s.heap.get? S = some { cls := .type "list", data := .seq #[] c₀ })
    (hR : ∀ s' (acc : Array Value) c', (∀ b o, b ≠ S → s.heap.get? b = some o → s'.heap.get? b = some o) → s'.gens = s.gens → s'.os = s.os → s'.heap.get? S = some { cls := .type "list", dict := none, data := .seq acc c', slots := #[] } → acc.toList.Perm (es.toList.map (·.2)) → R (.ok (.ret res)) s') :
    wpAny (model prog w) A.in1 (Builtin.List.listExtendWith (.ref S) (.ref a) res)
      (fun fin s' => match fin with | .done f => R (.ok f) s' | .again c' => c'.quiet = true ∧ codeAny (model prog w) A c' R s') (fun e s' => R (.error e) s') s := by
  unfold Builtin.List.listExtendWith
  have hT : s.TypeIs (.ref a) "set" := ⟨_, ho, rfl⟩
  refine wpAny_bind (wpAny_typeOf (T := "set") hT ?_)
  have h1 : Builtin.List.listSameRef (.ref S) (.ref a) = false := by simp [Builtin.List.listSameRef, hSa]
  have nl : (Value.type "set" == Value.type "list") = false := by decide
  have nt : (Value.type "set" == Value.type "tuple") = false := by decide
  simp only [h1, nl, nt, Bool.or_false, Bool.false_eq_true, if_false]
  refine wpAny_bind (iter_any ho hf hTb hb (A := A.in1) hh fun I s2 ord fp St hord hk hfp hI hg hos W st => ?_)
  have hSI : S ≠ I := fun e => by subst e; rw [hI] at hS; cases hS
  have hSf : S ∉ fp := fun e => by
    rcases hfp S e with q | q
    · exact hSa q
    · rw [q] at hS; cases hS
  have key : ∀ (h : Heap) (c₁ : Nat), St 0 h → (∀ b o, b ≠ S → s.heap.get? b = some o → h.get? b = some o) →
      h.get? S = some { cls := .type "list", data := .seq #[] c₁ } → codeAny (model prog w) A (.builtin "list.extend.loop" ⟨[.ref S, .ref I, res], []⟩) R { s2 with heap := h } := by
    intro h c₁ hst hk hS₁
    refine codeAny_extend_loopS W.toS (by rw [sizeLine_eq]; omega) S hSf res es.size 0 _ #[] c₁ rfl (Nat.zero_le _) hst hS₁ (ItemsOf.nil _) fun s' acc' c' hm hS' hacc => ?_
    refine hR s' acc' c' (fun b o hb e => hm.heap b o (fun hmem => ?_) (hk b o hb e)) ?_ ?_ hS' ?_
    · rcases List.mem_cons.mp hmem with e' | hmem
      · exact hb e'
      · rw [List.mem_singleton.mp hmem, hI] at e; cases e
    · exact (hm.gens : s'.gens = s2.gens).trans hg
    · exact hm.os.trans hos
    · have : acc'.toList = ord := by
        apply List.ext_getElem?
        intro j
        have hlen : acc'.size = es.size := hacc.1
        have hlo : ord.length = es.size := by rw [hord.length_eq, List.length_map, Array.length_toList]
        rw [Array.getElem?_toList]
        cases e : acc'[j]? with
        | none =>
          have : es.size ≤ j := by rw [← hlen]; exact Array.getElem?_eq_none_iff.mp e
          rw [List.getElem?_eq_none (by omega)]
        | some v => exact (hacc.2 j v e).symm
      rw [this]; exact hord
  refine wpAny_bind (wpAny_holding (hint_set (s := s2) ⟨_, hk _ _ ho, rfl⟩ ?_))
  have hS₁ := hk _ _ hS
  refine wpAny_ite_split (fun _ => ?_) (fun _ => wpAny_pure ⟨plainId_quiet PySem.F.plain_extend_loop _, key _ c₀ st (fun b o _ e => hk b o e) hS₁⟩)
  refine wpAny_bind (wpAny_rule ?_)
  refine wpAny_bind ?_
  show wpAny _ _ (updateSeq S (·.push .none) >>= fun _ => updateSeq S (·.pop)) _ _ _
  refine wpAny_bind (wpAny_updateSeq hS₁ rfl ?_)
  have hS₂ := Heap.get?_update_self (Obj.mapSeq (·.push Value.none)) hS₁ rfl
  refine wpAny_updateSeq (hz := by seq_fits) hS₂ rfl ?_
  have hS₃ := Heap.get?_update_self (Obj.mapSeq (·.pop)) hS₂ rfl
  refine wpAny_pure ⟨plainId_quiet PySem.F.plain_extend_loop _, key _ _ ?_ (fun b o hb e => ?_) hS₃⟩
  · refine W.frame 0 _ _ st fun b hb o e => ?_
    have hbS : b ≠ S := fun h => hSf (h ▸ hb)
    exact (Heap.get?_update_other _ _ (Ne.symm hbS)).trans ((Heap.get?_update_other _ _ (Ne.symm hbS)).trans e)
  · exact (Heap.get?_update_other _ _ (Ne.symm hb)).trans ((Heap.get?_update_other _ _ (Ne.symm hb)).trans (hk b o e))
end
end Mine
end
section
open PySem PySem.Calls PyProof.Rows PySem.W
set_option maxHeartbeats 1000000
namespace Mine
section
variable {prog : PySem.Program} {w : World} {A : Around} {E : Value → Shared → Prop} {s : Shared} {a ep : Nat} {es : Array (Int × Value)} {t : SetTable}
theorem collect_set {R : List Value → Shared → Prop} (hh : A.handled = none) (ho : s.heap.get? a = some (setObj es ep t)) (hf : t.fits es.size = true) (hTb : TabOk (LedW w) t) (hb : es.size < 100)
    (h : ∀ s' (acc : List Value), (∀ b o, s.heap.get? b = some o → s'.heap.get? b = some o) → s'.gens = s.gens → s'.os = s.os → acc.Perm (es.toList.map (·.2)) → R acc s') : wpAny (model prog w) A (collect (.ref a)) R E s := by
  have ha := Heap.lt_size ho
  unfold collect
  refine wpAny_bind (wpAny_runValue (codeAny_builtin entry_proto_collect' ?_))
  rw [Around.under_plainId PySem.F.plain_proto_collect _]
  show wpAny _ A.in1 (newList [] >>= fun l => again (.builtin "list.__iadd__" ⟨[l, .ref a], []⟩)) _ _ s
  refine wpAny_bind (wpAny_newObj_type ?_)
  refine wpAny_pure ⟨plainId_quiet PySem.F.plain_list_iadd _, codeAny_builtin entry_list_iadd' ?_⟩
  rw [Around.under_plainId PySem.F.plain_list_iadd _]
  have hS₁ : (s.heap.push { cls := .type "list", data := .seq ([] : List Value).toArray }).get? s.heap.objs.size = some { cls := .type "list", data := .seq #[] } := Heap.get?_push_size _ rfl
  show wpAny _ A.in1 (Builtin.List.listExtendWith (.ref s.heap.objs.size) (.ref a) (.ref s.heap.objs.size)) _ _ _
  have key := ext_set (prog := prog) (A := A) (s := { s with heap := s.heap.push { cls := .type "list", data := .seq ([] : List Value).toArray } })
    (R := fun (q : Result) (s' : Shared) => ∃ (acc' : Array Value) (c' : Nat), q = .ok (.ret (.ref s.heap.objs.size)) ∧ (∀ b o, s.heap.get? b = some o → s'.heap.get? b = some o) ∧ s'.gens = s.gens ∧ s'.os = s.os ∧
      s'.heap.get? s.heap.objs.size = some { cls := .type "list", dict := none, data := .seq acc' c', slots := #[] } ∧ acc'.toList.Perm (es.toList.map (·.2)))
    hh (Heap.get?_push_of_some _ ho) hf hTb hb s.heap.objs.size (Nat.ne_of_gt ha) (.ref s.heap.objs.size) 0 hS₁
    (fun s' acc' c' hk hg hos hS' hacc => ⟨acc', c', rfl, fun b o e => hk b o (Nat.ne_of_lt (Heap.lt_size e)) (Heap.get?_push_of_some _ e), hg, hos, hS', hacc⟩)
  refine wpAny_mono key (fun fin s' x => ?_) fun e s' x => ?_
  · cases fin with
    | done f =>
      obtain ⟨acc', c', e, hk, hg, hos, hS', hacc⟩ := x
      cases e
      show wpAny _ A (load s.heap.objs.size >>= _) _ _ _
      refine wpAny_bind (wpAny_load hS' ?_)
      exact wpAny_pure (h s' acc'.toList hk hg hos hacc)
    | again c₁ =>
      refine ⟨x.1, codeAny_mono x.2 fun q s₂ y => ?_⟩
      obtain ⟨acc', c', rfl, hk, hg, hos, hS', hacc⟩ := y
      show wpAny _ A (load s.heap.objs.size >>= _) _ _ _
      refine wpAny_bind (wpAny_load hS' ?_)
      exact wpAny_pure (h s₂ acc'.toList hk hg hos hacc)
  · obtain ⟨_, _, e', _⟩ := x
    cases e'
end
theorem pairwise_lt : ∀ {l : List Int}, l.Pairwise (· ≤ ·) → l.Nodup → l.Pairwise (· < ·)
  | [], _, _ => List.Pairwise.nil
  | x :: l, h, hn => by
    obtain ⟨h1, h2⟩ := List.pairwise_cons.mp h
    obtain ⟨n1, n2⟩ := List.nodup_cons.mp hn
    refine List.pairwise_cons.mpr ⟨fun y hy => ?_, pairwise_lt h2 n2⟩
    have := h1 y hy
    have : x ≠ y := fun e => n1 (e ▸ hy)
    omega
theorem ints_vals {C : Cx} {P : PH} : ∀ {is : List Int} {vs : List Value}, is.length = vs.length → (∀ (i : Nat) (x : D) (v : Value), (is.map D.int)[i]? = some x → vs[i]? = some v → DIs C P x v) → IntsAre vs is
  | [], [], _, _ => .nil
  | [], _ :: _, h, _ => by cases h
  | _ :: _, [], h, _ => by cases h
  | k :: is, v :: vs, h, hi => by
    have := hi 0 (.int k) v rfl rfl
    cases this with
    | int _ t => exact .cons k t (ints_vals (Nat.succ.inj h) fun i x u e1 e2 => hi (i + 1) x u (by simpa using e1) (by simpa using e2))
theorem ints_data' {C : Cx} {P : PH} : ∀ {vals : List Value} {ns : List Int}, IntsAre vals ns → ns.length = vals.length ∧ ∀ (i : Nat) (x : D) (v : Value), (ns.map D.int)[i]? = some x → vals[i]? = some v → DIs C P x v
  | _, _, .nil => ⟨rfl, fun i x v h => by simp at h⟩
  | _, _, .cons n t r => by
    obtain ⟨h1, h2⟩ := ints_data' (C := C) (P := P) r
    refine ⟨by simp [h1], fun i x v hx hv => ?_⟩
    match i, hx, hv with
    | 0, hx, hv =>
      simp at hx hv
      subst hx hv
      exact DIs.int n t
    | i + 1, hx, hv => exact h2 i x v (by simpa using hx) (by simpa using hv)
theorem accN_all (is : List Int) : accN (fun i => is.getD i 0) is.length = is.foldl stepN [] := by
  unfold accN
  have : (List.range is.length).map (fun i => is.getD i 0) = is := by
    apply List.ext_getElem
    · simp
    · intro i h1 h2; simp [List.getD_eq_getElem?_getD, h2]
  rw [this]
theorem leaf_sortset {C : Cx} {σ : List S} {P Z : PH} {φ : Phi} {s : Shared} {A : Around} {n : Nat} {is : List Int} {v : Value} (hl : is.length ≤ 60) (r : Rel C P Z φ σ s) (hv : DIs C P (.list (is.map .int)) v) (hA : ARoom A n) :
    wpAny (model C.prog C.w) A (call (.type "set") [v]) (fun sv s₁ => wpAny (model C.prog C.w) A (call (.builtin "sorted") [sv]) (Post C P Z φ (RV C (.d (.list ((usort is).map .int)))) σ) NoE s₁) NoE s := by
  obtain ⟨h, g, d, tk, os⟩ := s
  have hv' : ∃ l vs m, v = .ref l ∧ P l = some (listOf (List.toArray vs) m) ∧ (is.map D.int).length = vs.length ∧ ∀ (i : Nat) (x : D) (u : Value), (is.map D.int)[i]? = some x → vs[i]? = some u → DIs C P x u := by
    cases hv with
    | list h1 h2 h3 => exact ⟨_, _, _, rfl, h1, h2, h3⟩
  obtain ⟨l, vs, m, rfl, hP, hlen, hat⟩ := hv'
  rw [List.length_map] at hlen
  have hI : IntsAre vs is := ints_vals hlen hat
  have hsz : vs.toArray.size = is.length := by rw [List.size_toArray, ← hlen]
  refine set_from (s := ⟨h, g, d, tk, os⟩) hA.handled ⟨_, r.keep _ _ hP, rfl, m, rfl⟩ (by simpa using hI) (by rw [hsz]; unfold scanBound; omega) fun h' tk' hS hk => ?_
  rw [hsz, accN_all] at hS
  obtain ⟨es, ep, t, ho, hel, hb, hf, hT, ms, hi, hp⟩ := hS
  have hnd : (is.foldl stepN []).Nodup := fold_nodup is [] List.nodup_nil
  have hle : (is.foldl stepN []).length ≤ 60 := by
    rw [← accN_all]
    exact Nat.le_trans (accN_le _ _) hl
  have hes : es.size = (is.foldl stepN []).length := by
    have := IntsAre.length hi
    rw [List.length_map, Array.length_toList] at this
    rw [this, hp.length_eq]
  have r1 : Rel C P Z φ σ ⟨h', g, d, tk', os⟩ := r.grow fun b o e => hk b o (Heap.lt_size e) e
  refine sorted_ints_any (s := ⟨h', g, d, tk', os⟩) (collect_set (A := A.in1) (by show A.in1.handled = none; exact hA.handled) ho hf hT (by omega) fun s' acc hk2 hg2 hos2 hacc => ?_)
  obtain ⟨j1, j2⟩ := ints_perm hi hacc
  refine ⟨_, by rw [hacc.length_eq, List.length_map, Array.length_toList]; omega, j1, fun D₀ out ns' e h'' k1 k2 k3 k4 k5 k6 => ?_⟩
  have hperm : ns'.Perm (is.foldl stepN []) := k2.trans (j2.trans hp)
  have heq : ns' = usort is := by
    refine sorted_ext (pairwise_lt k3 (hperm.nodup_iff.mpr hnd)) (usort_sorted is) fun x => ?_
    rw [hperm.mem_iff, fold_mem, mem_usort]
    simp
  subst heq
  have r2 : Rel C P Z φ σ s' := r1.grow hk2 hg2 hos2
  obtain ⟨d1, _⟩ := ints_data' (C := C) (P := P) k1
  exact post_fresh r2 k4 k5 k6 (by rw [List.length_map]; exact d1) fun P' => (ints_data' (C := C) (P := P') k1).2
end Mine
end
section
open PySem PySem.W PyProof.Rows PySem.Challenge
set_option maxHeartbeats 8000000
namespace Mine
/-! the head: what stands behind the top, told by places of the given program and checked by the kernel in one go -/
noncomputable def vw : Program := view pw_jc0029_01 [0, 2, 3, 4, 6, 7, 8, 9, 11, 13, 14, 15, 16, 17, 18]
noncomputable def pst (i : Nat) : Option Stmt := pw_jc0029_01.main.body[i]?
noncomputable def pmt (i j : Nat) : Option Stmt := match pst i with
  | some (.ClassDef _ _ _ b ..) => b[j]?
  | _ => none
noncomputable def fA : Option Stmt → Arguments
  | some (.FunctionDef _ a ..) => a
  | _ => ⟨[], [], none, [], [], none, []⟩
noncomputable def fB : Option Stmt → List Stmt
  | some (.FunctionDef _ _ b ..) => b
  | _ => []
noncomputable def fS : Option Stmt → Scope
  | some (.FunctionDef _ _ _ _ _ _ s ..) => s
  | _ => ⟨.function, [], false, false, []⟩
noncomputable def fP : Option Stmt → Pos
  | some (.FunctionDef _ _ _ _ _ _ _ _ _ p) => p
  | _ => ⟨0, 0, 0, 0⟩
noncomputable def pvs (s : String) (n : Nat) : Value := .str (Str.ofString s) n
noncomputable def pkv (P : Params) (s : String) (n : Nat) (v : Value) : DictEntry := ⟨PyData.keyHash P (Str.ofString s), .str (Str.ofString s) n, v⟩
noncomputable def pkr (P : Params) (s : String) (n : Nat) (a : Addr) : DictEntry := pkv P s n (.ref a)
noncomputable def fnO (nm q : String) (s : Option Stmt) (m : Value) (c : Addr) : Obj := ⟨.type "function", none, .func (FuncData.mk (Str.ofString nm) (Str.ofString q) (fA s) (.stmts (fB s)) (fS s) 3 [] .none .none .none m none (.ref c) .none 0), #[]⟩
noncomputable def cdX (nm q : String) (k ln na r : Nat) (c : Nat) (a b : Value) (e : Addr) : Obj := ⟨.type "code", none, .fields #[pvs nm k, pvs q (k + 1), pvs "/claim/cut.py" (k + 2), .int ln 0, .int na 0, .int 0 0, .int 0 0, .int 3 0, .ref r, .bool true, .int 181 0, .ref (r + 1), .none, a, b, .ref e, .int c 0, .int ln 0, pvs "/claim/cut.py" (c + 1)], #[]⟩
noncomputable def cd1 (nm q : String) (k ln na r : Nat) (c : Nat) : Obj := cdX nm q k ln na r c (.ref (r + 2)) (.ref (r + 3)) (r + 4)
noncomputable def cd0 (nm q : String) (k ln na r : Nat) (c : Nat) : Obj := cdX nm q k ln na r c .none .none (r + 2)
noncomputable def hpf (P : Params) : Frag := [
  (2, { cls := .none, data := .dict #[] }),
(3, Obj.mk (Value.type "dict") none (Data.dict #[pkv P "__name__" 165 (pvs "law_jc0029_01" 396), pkv P "__doc__" 166 Value.none, pkv P "__package__" 167 Value.none, pkv P "__loader__" 168 (Value.builtin "__main__.__loader__#opaque"), pkv P "__spec__" 169 Value.none, pkr P "__annotations__" 170 6, pkr P "__builtins__" 171 4, pkv P "__file__" 173 (pvs "/claim/cut.py" 172), pkv P "__cached__" 174 Value.none, pkr P "_wall" 193 21, pkr P "TupleComp" 237 45, pkr P "add_callers" 248 56, pkr P "count_calls" 257 63, pkr P "mul" 267 70, pkr P "neg" 274 77, pkr P "concat" 283 84, pkr P "setitem" 292 91, pkr P "Whitespace" 395 153, pkr P "_law_cells" 406 164, pkr P "_law_lead" 414 171, pkr P "_law_columns" 425 178, pkr P "_law_worth" 431 183, pkr P "_law_pairings" 447 190, pkr P "law" 453 195] 24) #[]),
  (34, cd1 "__init__" "TupleComp.__init__" 208 7 2 29 213),
  (35, fnO "__init__" "TupleComp.__init__" (pmt 2 0) (pvs "cpy313.pstats" 194) 34),
  (41, cd1 "compare" "TupleComp.compare" 216 10 3 36 226),
  (42, fnO "compare" "TupleComp.compare" (pmt 2 1) (pvs "cpy313.pstats" 194) 41),
  (44, Obj.mk (Value.type "dict") none (Data.dict #[pkv P "__module__" 203 (pvs "cpy313.pstats" 194), pkv P "__firstlineno__" 207 (Value.int 5 206), pkr P "__init__" 215 35, pkr P "compare" 228 42, pkr P "__static_attributes__" 230 43, pkr P "__dict__" 232 46, pkr P "__weakref__" 234 47, pkv P "__doc__" 235 Value.none] 4) #[]),
  (45, Obj.mk (Value.type "type") none (Data.cls (ClassData.mk (Str.ofString "TupleComp") [Value.type "object"] [Value.ref 45, Value.type "object"] 44 (Str.ofString "TupleComp") true [] [] false none false)) #[none, none, some (pvs "TupleComp" 196), some (pvs "TupleComp" 204), some (Value.builtin "object.__new__"), some (Value.bool true)]),
  (55, cd1 "add_callers" "add_callers" 238 19 2 50 246),
  (56, fnO "add_callers" "add_callers" (pst 3) (pvs "cpy313.pstats" 194) 55),
  (62, cd1 "count_calls" "count_calls" 249 32 1 57 255),
  (63, fnO "count_calls" "count_calls" (pst 4) (pvs "cpy313.pstats" 194) 62),
  (69, cd1 "mul" "mul" 260 38 2 64 265),
  (70, fnO "mul" "mul" (pst 6) (pvs "cpy313.operator" 258) 69),
  (76, cd1 "neg" "neg" 268 40 1 71 272),
  (77, fnO "neg" "neg" (pst 7) (pvs "cpy313.operator" 258) 76),
  (83, cd1 "concat" "concat" 275 42 2 78 281),
  (84, fnO "concat" "concat" (pst 8) (pvs "cpy313.operator" 258) 83),
  (90, cd1 "setitem" "setitem" 284 47 3 85 290),
  (91, fnO "setitem" "setitem" (pst 9) (pvs "cpy313.operator" 258) 90),
  (107, cd1 "__init__" "Whitespace.__init__" 312 53 2 102 324),
  (108, fnO "__init__" "Whitespace.__init__" (pmt 11 1) (pvs "cpy313.tabnanny" 293) 107),
  (114, cd1 "longest_run_of_spaces" "Whitespace.longest_run_of_spaces" 327 76 1 109 333),
  (115, fnO "longest_run_of_spaces" "Whitespace.longest_run_of_spaces" (pmt 11 2) (pvs "cpy313.tabnanny" 293) 114),
  (121, cd1 "indent_level" "Whitespace.indent_level" 336 80 2 116 345),
  (122, fnO "indent_level" "Whitespace.indent_level" (pmt 11 3) (pvs "cpy313.tabnanny" 293) 121),
  (128, cd1 "equal" "Whitespace.equal" 348 87 2 123 353),
  (129, fnO "equal" "Whitespace.equal" (pmt 11 4) (pvs "cpy313.tabnanny" 293) 128),
  (135, cd1 "not_equal_witness" "Whitespace.not_equal_witness" 356 90 2 130 364),
  (136, fnO "not_equal_witness" "Whitespace.not_equal_witness" (pmt 11 5) (pvs "cpy313.tabnanny" 293) 135),
  (152, Obj.mk (Value.type "dict") none (Data.dict #[pkv P "__module__" 302 (pvs "cpy313.tabnanny" 293), pkv P "__firstlineno__" 306 (Value.int 50 305), pkv P "S" 310 (pvs " " 308), pkv P "T" 311 (pvs "\t" 309), pkr P "__init__" 326 108, pkr P "longest_run_of_spaces" 335 115, pkr P "indent_level" 347 122, pkr P "equal" 355 129, pkr P "not_equal_witness" 366 136, pkr P "less" 374 143, pkr P "not_less_witness" 382 150, pkr P "__static_attributes__" 388 151, pkr P "__dict__" 390 154, pkr P "__weakref__" 392 155, pkv P "__doc__" 393 Value.none] 4) #[]),
  (153, Obj.mk (Value.type "type") none (Data.cls (ClassData.mk (Str.ofString "Whitespace") [Value.type "object"] [Value.ref 153, Value.type "object"] 152 (Str.ofString "Whitespace") true [] [] false none false)) #[none, none, some (pvs "Whitespace" 295), some (pvs "Whitespace" 303), some (Value.builtin "object.__new__"), some (Value.bool true)]),
  (163, cd1 "_law_cells" "_law_cells" 398 104 1 158 404),
  (164, fnO "_law_cells" "_law_cells" (pst 13) (pvs "law_jc0029_01" 396) 163),
  (170, cd1 "_law_lead" "_law_lead" 407 109 1 165 412),
  (171, fnO "_law_lead" "_law_lead" (pst 14) (pvs "law_jc0029_01" 396) 170),
  (177, cd1 "_law_columns" "_law_columns" 415 112 1 172 423),
  (178, fnO "_law_columns" "_law_columns" (pst 15) (pvs "law_jc0029_01" 396) 177),
  (182, cd0 "_law_worth" "_law_worth" 426 120 2 179 429),
  (183, fnO "_law_worth" "_law_worth" (pst 16) (pvs "law_jc0029_01" 396) 182),
  (189, cd1 "_law_pairings" "_law_pairings" 432 130 1 184 445),
  (190, fnO "_law_pairings" "_law_pairings" (pst 17) (pvs "law_jc0029_01" 396) 189),
  (194, cd0 "law" "law" 448 151 1 191 451),
  (195, fnO "law" "law" (pst 18) (pvs "law_jc0029_01" 396) 194)]
noncomputable abbrev hk : List Addr := [2, 3, 34, 35, 41, 42, 44, 45, 55, 56, 62, 63, 69, 70, 76, 77, 83, 84, 90, 91, 107, 108, 114, 115, 121, 122, 128, 129, 135, 136, 152, 153, 163, 164, 170, 171, 177, 178, 182, 183, 189, 190, 194, 195]
theorem hk_eq : ∀ P, hk = (hpf P).map (·.1) := fun P => by kernel_rfl
theorem wsaid : OpenLaw.wellSaid rw_jc0029_01 = true := by
  rw [Fast.te9446332074065402090]
  kernel_rfl
theorem topLeft : LeftO pw_jc0029_01 vw [Str.ofString "Whitespace"] (fun s => xlAt vw [] s && recOk (RowW.records rw_jc0029_01.row.toRowW) s) (fun s => hk.map s.heap.get?) (fun w => (hpf w.params).map fun p => some p.2) 2498 :=
  LeftO.of_split "special-get-raises" fun w => by
    unfold fencedOpening topFrom
    rw [Fast.te14082659384304107361, Fast.te10274390034422433532, Fast.te14364793385576792824, Fast.te4187177175401517315, Fast.te14289696077712309145, Fast.te5923862056798008813, Fast.te1435165496053646825]
    kernel_rfl
noncomputable def lawD : DefRec := ⟨Str.ofString "law", fA (pst 18), fB (pst 18), fS (pst 18), fP (pst 18)⟩
theorem hwit : (OpenRow.toRowW rw_jc0029_01.row).promised := by w_witness2
theorem hd (walk : WalkO vw [Str.ofString "Whitespace"] (XL vw []) (kHook hpf hk hk_eq).says rw_jc0029_01.row.toRowW lawD [] fun f pvs => PySem.call f pvs) : rw_jc0029_01.Holds :=
  holds_law wsaid fun said => holds_open (q := vw) (loose := [Str.ofString "Whitespace"]) (Xt := fun s => xlAt vw [] s && recOk (RowW.records rw_jc0029_01.row.toRowW) s) (XP := XL vw []) (Yf := (kHook hpf hk hk_eq).obs) (Ya := (kHook hpf hk hk_eq).val) (YP := (kHook hpf hk hk_eq).says) (d := lawD) (kwd := []) (N := 2498)
    topLeft (kHook hpf hk hk_eq).of (kHook hpf hk hk_eq).keeps (fun s e => xl_of s (Bool.and_eq_true_iff.mp e).1) XL.keeps (by kernel_rfl) (by kernel_rfl) (by kernel_rfl) (fun s e => recFacts_of (Bool.and_eq_true_iff.mp e).2) (by kernel_rfl) said (by kernel_rfl) ⟨rfl, rfl, rfl, rfl, rfl, by decide +kernel⟩ hwit walk
end Mine
end
section
open PySem PySem.Calls PyProof.Rows PySem.W
namespace Mine
noncomputable def faL : List Addr := [35, 42, 56, 63, 70, 77, 84, 91, 108, 115, 122, 129, 136, 164, 171, 178, 183, 190, 195]
noncomputable def caL : List Addr := [45, 153]
noncomputable def cxOf (prog : Program) (w : World) (h₀ : Heap) (os₀ : OsState) : Cx := ⟨prog, w, h₀, os₀, fun c => caL.getD c 0, fun f => faL.getD f 0, fun a => attNms.getD a ""⟩
noncomputable def funO (o : Obj) : Option FuncData := match o.data with
  | .func fd => some fd
  | _ => none
noncomputable def fdOf (K : Frag) (a : Addr) : FuncData := ((K.lookup a).bind funO).getD default
noncomputable def bodyS (b : FuncBody) : Option (List PySem.Stmt) := match b with
  | .stmts s => some s
  | _ => none
noncomputable def fldO (o : Obj) : Option (Array Value) := match o.data with
  | .fields vs => some vs
  | _ => none
noncomputable def strB (v : Value) (q : Str) : Bool := match v with
  | .str y _ => y == q
  | _ => false
noncomputable def codB (K : Frag) (q : Str) (c : Addr) : Bool := match (K.lookup c).bind fldO with
  | some vs => match vs[1]? with
    | some v => strB v q
    | none => false
  | none => false
noncomputable def refO (v : Value) : Option Addr := match v with
  | .ref a => some a
  | _ => none
noncomputable def fnB (K : Frag) (a : Addr) (F : FnD) (fd : FuncData) : Bool := ((K.lookup a).bind funO).isSome && (fd.scope.kind == .function && (!fd.scope.isCoroutine && (!fd.scope.isGenerator &&
  (((refO fd.code).any fun c => codB K fd.qualname c) && (fd.closure.isEmpty && (fd.globals == mainGlobals && (fd.builtins == builtinsNs && (kindNm .cell fd.scope.names == F.cel && (decide F.nm.Nodup && (decide F.cel.Nodup && (Nat.ble F.np F.nm.length &&
  ((F.nm.take F.np).all (fun x => fd.scope.names.lookup x == some .local) && (bodyS fd.body).any fun b => cTs (chkT 60) ⟨fd.scope.names, F.nm, F.cel⟩ F.body b))))))))))))
theorem anyK {α : Type} {o : Option α} {k : α → Bool} (h : o.any k = true) : ∃ a, o = some a ∧ k a = true := by
  cases o with
  | none => exact ff _ h
  | some a => exact ⟨a, rfl, h⟩
theorem funO_is {o : Obj} {fd : FuncData} (h : funO o = some fd) : o.data = .func fd := by
  unfold funO at h
  split at h
  · cases h; assumption
  · cases h
theorem fldO_is {o : Obj} {vs : Array Value} (h : fldO o = some vs) : o.data = .fields vs := by
  unfold fldO at h
  split at h
  · cases h; assumption
  · cases h
theorem bodyS_is {o : FuncBody} {vs : List PySem.Stmt} (h : bodyS o = some vs) : o = .stmts vs := by
  unfold bodyS at h
  split at h
  · cases h; rfl
  · cases h
theorem refO_is {o : Value} {a : Addr} (h : refO o = some a) : o = .ref a := by
  unfold refO at h
  split at h
  · cases h; rfl
  · cases h
theorem codB_is {K : Frag} {q : Str} {c : Addr} (h : codB K q c = true) : ∃ co vs t, K.lookup c = some co ∧ co.data = .fields vs ∧ vs[1]? = some (.str q t) := by
  unfold codB at h
  split at h
  · rename_i vs e
    obtain ⟨co, e1, e2⟩ := Option.bind_eq_some_iff.mp e
    split at h
    · rename_i v e3
      unfold strB at h
      split at h
      · rename_i y t
        exact ⟨co, vs, t, e1, fldO_is e2, be h ▸ e3⟩
      · cases h
    · cases h
  · cases h
theorem fn_of {C : Cx} {K : Frag} {f : Nat} {F : FnD} (hK : K.In C.h₀) (h : fnB K (C.fa f) F (fdOf K (C.fa f)) = true) (hb : ∀ vals : List Value, vals.length = F.np → bindArgs (fdOf K (C.fa f)) ⟨vals, []⟩ = pure ((F.nm.take F.np).zip vals)) : FnOk C f F := by
  obtain ⟨fd, e⟩ := Option.isSome_iff_exists.mp (al h)
  obtain ⟨o, e1, e2⟩ := Option.bind_eq_some_iff.mp e
  have hfd : fdOf K (C.fa f) = fd := by unfold fdOf; rw [e]; rfl
  rw [hfd] at h hb
  have h2 := ar (ar h)
  have h4 := ar (ar h2)
  have h6 := ar (ar h4)
  have h8 := ar (ar h6)
  have h10 := ar (ar h8)
  obtain ⟨c, k1, k2⟩ := anyK (al h4)
  obtain ⟨co, vs, t, k3, k4, k5⟩ := codB_is k2
  have h12 := ar (ar h10)
  obtain ⟨body, k6, k7⟩ := anyK (ar h12)
  exact ⟨o, fd, body, hK _ _ e1, funO_is e2, bodyS_is k6, ts_of k7, be (al (ar h)), nf (al h2), nf (al (ar h2)), ⟨c, co, vs, t, refO_is k1, hK _ _ k3, k4, k5⟩, List.isEmpty_iff.mp (al (ar h4)), be (al h6), be (al (ar h6)), be (al h8), of_decide_eq_true (al (ar h8)), of_decide_eq_true (al h10), hb, Nat.le_of_ble_eq_true (al (ar h10)), fun x hx => be (List.all_eq_true.mp (al h12) x hx)⟩
theorem vals1 {vals : List Value} (h : vals.length = 1) : ∃ a, vals = [a] := match vals, h with
  | [a], _ => ⟨a, rfl⟩
theorem vals2 {vals : List Value} (h : vals.length = 2) : ∃ a b, vals = [a, b] := match vals, h with
  | [a, b], _ => ⟨a, b, rfl⟩
theorem vals3 {vals : List Value} (h : vals.length = 3) : ∃ a b c, vals = [a, b, c] := match vals, h with
  | [a, b, c], _ => ⟨a, b, c, rfl⟩
section
variable {C : Cx} {p : Params}
theorem fb_0 (p : Params) : fnB (hpf p) (faL.getD 0 0) f_TupleComp_init (fdOf (hpf p) (faL.getD 0 0)) = true := by kernel_rfl!
theorem fn_0 (hK : (hpf p).In C.h₀) (hfa : C.fa 0 = faL.getD 0 0) : FnOk C 0 f_TupleComp_init := fn_of hK (hfa ▸ fb_0 p) fun vals hv => by
  obtain ⟨a, b, rfl⟩ := vals2 hv
  rw [hfa]; kernel_rfl!
theorem fb_1 (p : Params) : fnB (hpf p) (faL.getD 1 0) f_TupleComp_compare (fdOf (hpf p) (faL.getD 1 0)) = true := by kernel_rfl!
theorem fn_1 (hK : (hpf p).In C.h₀) (hfa : C.fa 1 = faL.getD 1 0) : FnOk C 1 f_TupleComp_compare := fn_of hK (hfa ▸ fb_1 p) fun vals hv => by
  obtain ⟨a, b, c, rfl⟩ := vals3 hv
  rw [hfa]; kernel_rfl!
theorem fb_2 (p : Params) : fnB (hpf p) (faL.getD 2 0) f_add_callers (fdOf (hpf p) (faL.getD 2 0)) = true := by kernel_rfl!
theorem fn_2 (hK : (hpf p).In C.h₀) (hfa : C.fa 2 = faL.getD 2 0) : FnOk C 2 f_add_callers := fn_of hK (hfa ▸ fb_2 p) fun vals hv => by
  obtain ⟨a, b, rfl⟩ := vals2 hv
  rw [hfa]; kernel_rfl!
theorem fb_3 (p : Params) : fnB (hpf p) (faL.getD 3 0) f_count_calls (fdOf (hpf p) (faL.getD 3 0)) = true := by kernel_rfl!
theorem fn_3 (hK : (hpf p).In C.h₀) (hfa : C.fa 3 = faL.getD 3 0) : FnOk C 3 f_count_calls := fn_of hK (hfa ▸ fb_3 p) fun vals hv => by
  obtain ⟨a, rfl⟩ := vals1 hv
  rw [hfa]; kernel_rfl!
theorem fb_4 (p : Params) : fnB (hpf p) (faL.getD 4 0) f_mul (fdOf (hpf p) (faL.getD 4 0)) = true := by kernel_rfl!
theorem fn_4 (hK : (hpf p).In C.h₀) (hfa : C.fa 4 = faL.getD 4 0) : FnOk C 4 f_mul := fn_of hK (hfa ▸ fb_4 p) fun vals hv => by
  obtain ⟨a, b, rfl⟩ := vals2 hv
  rw [hfa]; kernel_rfl!
theorem fb_5 (p : Params) : fnB (hpf p) (faL.getD 5 0) f_neg (fdOf (hpf p) (faL.getD 5 0)) = true := by kernel_rfl!
theorem fn_5 (hK : (hpf p).In C.h₀) (hfa : C.fa 5 = faL.getD 5 0) : FnOk C 5 f_neg := fn_of hK (hfa ▸ fb_5 p) fun vals hv => by
  obtain ⟨a, rfl⟩ := vals1 hv
  rw [hfa]; kernel_rfl!
theorem fb_6 (p : Params) : fnB (hpf p) (faL.getD 6 0) f_concat (fdOf (hpf p) (faL.getD 6 0)) = true := by kernel_rfl!
theorem fn_6 (hK : (hpf p).In C.h₀) (hfa : C.fa 6 = faL.getD 6 0) : FnOk C 6 f_concat := fn_of hK (hfa ▸ fb_6 p) fun vals hv => by
  obtain ⟨a, b, rfl⟩ := vals2 hv
  rw [hfa]; kernel_rfl!
theorem fb_7 (p : Params) : fnB (hpf p) (faL.getD 7 0) f_setitem (fdOf (hpf p) (faL.getD 7 0)) = true := by kernel_rfl!
theorem fn_7 (hK : (hpf p).In C.h₀) (hfa : C.fa 7 = faL.getD 7 0) : FnOk C 7 f_setitem := fn_of hK (hfa ▸ fb_7 p) fun vals hv => by
  obtain ⟨a, b, c, rfl⟩ := vals3 hv
  rw [hfa]; kernel_rfl!
theorem fb_8 (p : Params) : fnB (hpf p) (faL.getD 8 0) f_Whitespace_init (fdOf (hpf p) (faL.getD 8 0)) = true := by kernel_rfl!
theorem fn_8 (hK : (hpf p).In C.h₀) (hfa : C.fa 8 = faL.getD 8 0) : FnOk C 8 f_Whitespace_init := fn_of hK (hfa ▸ fb_8 p) fun vals hv => by
  obtain ⟨a, b, rfl⟩ := vals2 hv
  rw [hfa]; kernel_rfl!
theorem fb_9 (p : Params) : fnB (hpf p) (faL.getD 9 0) f_Whitespace_longest_run_of_spaces (fdOf (hpf p) (faL.getD 9 0)) = true := by kernel_rfl!
theorem fn_9 (hK : (hpf p).In C.h₀) (hfa : C.fa 9 = faL.getD 9 0) : FnOk C 9 f_Whitespace_longest_run_of_spaces := fn_of hK (hfa ▸ fb_9 p) fun vals hv => by
  obtain ⟨a, rfl⟩ := vals1 hv
  rw [hfa]; kernel_rfl!
theorem fb_10 (p : Params) : fnB (hpf p) (faL.getD 10 0) f_Whitespace_indent_level (fdOf (hpf p) (faL.getD 10 0)) = true := by kernel_rfl!
theorem fn_10 (hK : (hpf p).In C.h₀) (hfa : C.fa 10 = faL.getD 10 0) : FnOk C 10 f_Whitespace_indent_level := fn_of hK (hfa ▸ fb_10 p) fun vals hv => by
  obtain ⟨a, b, rfl⟩ := vals2 hv
  rw [hfa]; kernel_rfl!
theorem fb_11 (p : Params) : fnB (hpf p) (faL.getD 11 0) f_Whitespace_equal (fdOf (hpf p) (faL.getD 11 0)) = true := by kernel_rfl!
theorem fn_11 (hK : (hpf p).In C.h₀) (hfa : C.fa 11 = faL.getD 11 0) : FnOk C 11 f_Whitespace_equal := fn_of hK (hfa ▸ fb_11 p) fun vals hv => by
  obtain ⟨a, b, rfl⟩ := vals2 hv
  rw [hfa]; kernel_rfl!
theorem fb_12 (p : Params) : fnB (hpf p) (faL.getD 12 0) f_Whitespace_not_equal_witness (fdOf (hpf p) (faL.getD 12 0)) = true := by kernel_rfl!
theorem fn_12 (hK : (hpf p).In C.h₀) (hfa : C.fa 12 = faL.getD 12 0) : FnOk C 12 f_Whitespace_not_equal_witness := fn_of hK (hfa ▸ fb_12 p) fun vals hv => by
  obtain ⟨a, b, rfl⟩ := vals2 hv
  rw [hfa]; kernel_rfl!
theorem fb_13 (p : Params) : fnB (hpf p) (faL.getD 13 0) f_law_cells (fdOf (hpf p) (faL.getD 13 0)) = true := by kernel_rfl!
theorem fn_13 (hK : (hpf p).In C.h₀) (hfa : C.fa 13 = faL.getD 13 0) : FnOk C 13 f_law_cells := fn_of hK (hfa ▸ fb_13 p) fun vals hv => by
  obtain ⟨a, rfl⟩ := vals1 hv
  rw [hfa]; kernel_rfl!
theorem fb_14 (p : Params) : fnB (hpf p) (faL.getD 14 0) f_law_lead (fdOf (hpf p) (faL.getD 14 0)) = true := by kernel_rfl!
theorem fn_14 (hK : (hpf p).In C.h₀) (hfa : C.fa 14 = faL.getD 14 0) : FnOk C 14 f_law_lead := fn_of hK (hfa ▸ fb_14 p) fun vals hv => by
  obtain ⟨a, rfl⟩ := vals1 hv
  rw [hfa]; kernel_rfl!
theorem fb_15 (p : Params) : fnB (hpf p) (faL.getD 15 0) f_law_columns (fdOf (hpf p) (faL.getD 15 0)) = true := by kernel_rfl!
theorem fn_15 (hK : (hpf p).In C.h₀) (hfa : C.fa 15 = faL.getD 15 0) : FnOk C 15 f_law_columns := fn_of hK (hfa ▸ fb_15 p) fun vals hv => by
  obtain ⟨a, rfl⟩ := vals1 hv
  rw [hfa]; kernel_rfl!
theorem fb_16 (p : Params) : fnB (hpf p) (faL.getD 16 0) f_law_worth (fdOf (hpf p) (faL.getD 16 0)) = true := by kernel_rfl!
theorem fn_16 (hK : (hpf p).In C.h₀) (hfa : C.fa 16 = faL.getD 16 0) : FnOk C 16 f_law_worth := fn_of hK (hfa ▸ fb_16 p) fun vals hv => by
  obtain ⟨a, b, rfl⟩ := vals2 hv
  rw [hfa]; kernel_rfl!
theorem fb_17 (p : Params) : fnB (hpf p) (faL.getD 17 0) f_law_pairings (fdOf (hpf p) (faL.getD 17 0)) = true := by kernel_rfl!
theorem fn_17 (hK : (hpf p).In C.h₀) (hfa : C.fa 17 = faL.getD 17 0) : FnOk C 17 f_law_pairings := fn_of hK (hfa ▸ fb_17 p) fun vals hv => by
  obtain ⟨a, rfl⟩ := vals1 hv
  rw [hfa]; kernel_rfl!
theorem fb_18 (p : Params) : fnB (hpf p) (faL.getD 18 0) f_law (fdOf (hpf p) (faL.getD 18 0)) = true := by kernel_rfl!
theorem fn_18 (hK : (hpf p).In C.h₀) (hfa : C.fa 18 = faL.getD 18 0) : FnOk C 18 f_law := fn_of hK (hfa ▸ fb_18 p) fun vals hv => by
  obtain ⟨a, rfl⟩ := vals1 hv
  rw [hfa]; kernel_rfl!
end
end Mine
end
section
open PySem PySem.Calls PyProof.Rows PySem.W
namespace Mine
noncomputable def getB (K : Frag) (a : Addr) (nm : Str) : Bool := plainGet K a nm && (hasDictIn K a && ((findIn K (.ref a) nm).any fun attr => noGet K attr))
noncomputable def setB (K : Frag) (a : Addr) : Bool := findIn K (.ref a) "__setattr__" == some (some (.builtin "object.__setattr__")) && (plainOver K a && attNms.all fun nm => takerIn K a nm == some none)
noncomputable def metB (K : Frag) (a : Addr) (f : Nat) (nm : Str) : Bool := Nat.blt f 19 && (plainGet K a nm && (findIn K (.ref a) nm == some (some (.ref (faL.getD f 0))) && isFn K (.ref (faL.getD f 0))))
noncomputable def newB (K : Frag) (a : Addr) (f : Nat) : Bool := Nat.blt f 19 && (makesIn K a && (findIn K (.ref a) "__init__" == some (some (.ref (faL.getD f 0))) && (typeIn K (.ref (faL.getD f 0)) == some (.type "function") && keepIn K (.ref a))))
noncomputable def valF (c : CFound) : Option Value := match c with
  | .val v => some v
  | _ => none
theorem valF_is {c : CFound} {v : Value} (h : valF c = some v) : c = .val v := by
  unfold valF at h
  split at h
  · cases h; rfl
  · cases h
theorem strB_is {v : Value} {q : Str} (h : strB v q = true) : ∃ t, v = .str q t := by
  unfold strB at h
  split at h
  · exact ⟨_, by rw [be h]⟩
  · cases h
noncomputable def catB (K : Frag) (a : Addr) (nm : Str) (v : D) : Bool := (strV (.d v)).any fun x => readsIn K a (.type "type") && (((findCls K (.ref a) (.type "type") nm).bind valF).any fun u => strB u ⟨x.toArray⟩)
noncomputable def clsB (K : Frag) : Bool := (List.range 2).all fun c => (attNms.all fun nm => getB K (caL.getD c 0) nm) && (setB K (caL.getD c 0) && ((((prg.meths[c]?).getD []).all fun q => metB K (caL.getD c 0) q.2 (metNms.getD q.1 "")) &&
  ((((prg.cattrs[c]?).getD []).all fun q => catB K (caL.getD c 0) (attNms.getD q.1 "") q.2) && ((prg.inits[c]?).all fun f => newB K (caL.getD c 0) f))))
theorem cls_ok (p : Params) : clsB (hpf p) = true := by kernel_rfl!
theorem lookNN_mem {m f : Nat} : ∀ {ms : List (Nat × Nat)}, lookNN m ms = some f → (m, f) ∈ ms := by
  intro ms
  induction ms with
  | nil => exact fun h => nsome h
  | cons q ms ih =>
    intro h
    have h : (match Nat.beq q.1 m with | true => some q.2 | false => lookNN m ms) = some f := h
    cases e : Nat.beq q.1 m with
    | true =>
      rw [e] at h
      have e1 := Nat.eq_of_beq_eq_true e
      have e2 : q.2 = f := Option.some.inj h
      subst e1 e2
      exact .head _
    | false => rw [e] at h; exact .tail _ (ih h)
theorem lookN_mem {m : Nat} {f : D} : ∀ {ms : List (Nat × D)}, lookN m ms = some f → (m, f) ∈ ms := by
  intro ms
  induction ms with
  | nil => exact fun h => nsome h
  | cons q ms ih =>
    intro h
    rw [show q :: ms = (q.1, q.2) :: ms from rfl, lookN_c] at h
    by_cases e : q.1 = m
    · rw [if_pos e] at h
      have e2 : q.2 = f := Option.some.inj h
      subst e e2
      exact .head _
    · rw [if_neg e] at h; exact .tail _ (ih h)
theorem clsFacts {prog : Program} {w : World} {h₀ : Heap} {os₀ : OsState} {K : Frag} (hK : K.In h₀) (ok : clsB K = true) : ClsFacts (cxOf prog w h₀ os₀) K := by
  have at_ := fun (c : Nat) (hc : c < 2) => List.all_eq_true.mp ok c (List.mem_range.mpr hc)
  refine ⟨hK, fun a => rfl, fun c hc a nm e => ?_, fun c hc => ?_, fun c m f nm ms h1 h2 h3 => ?_, fun c a nm fs v h1 h2 h3 => ?_, fun c f h1 => ?_⟩
  · have h := List.all_eq_true.mp (al (at_ c hc)) nm (List.mem_of_getElem? e)
    exact ⟨al h, al (ar h), anyK (ar (ar h))⟩
  · have h := al (ar (at_ c hc))
    exact ⟨be (al h), al (ar h), fun a nm e => be (List.all_eq_true.mp (ar (ar h)) nm (List.mem_of_getElem? e))⟩
  · have h := al (ar (ar (at_ c (List.getElem?_eq_some_iff.mp h1).1)))
    rw [h1] at h
    have h := List.all_eq_true.mp h (m, f) (lookNN_mem h2)
    rw [show (metNms.getD (m, f).1 "") = nm from (nm_lt h3).2] at h
    exact ⟨Nat.le_of_ble_eq_true (al h), al (ar h), be (al (ar (ar h))), ar (ar (ar h))⟩
  · have h := al (ar (ar (ar (at_ c (List.getElem?_eq_some_iff.mp h1).1))))
    rw [h1] at h
    have h := List.all_eq_true.mp h (a, v) (lookN_mem h2)
    rw [show (attNms.getD (a, v).1 "") = nm from (nm_lt h3).2] at h
    obtain ⟨x, e1, h⟩ := anyK h
    obtain ⟨u, e2, h2⟩ := anyK (ar h)
    obtain ⟨c', e3, e4⟩ := Option.bind_eq_some_iff.mp e2
    obtain ⟨t, rfl⟩ := strB_is h2
    exact ⟨_, x, t, Option.some.inj (congrArg datO (strV_is e1)), al h, by rw [← valF_is e4]; exact e3⟩
  · have h := ar (ar (ar (ar (at_ c (List.getElem?_eq_some_iff.mp h1).1))))
    rw [h1] at h
    have h : newB K (caL.getD c 0) f = true := h
    exact ⟨Nat.le_of_ble_eq_true (al h), al (ar h), be (al (ar (ar h))), be (al (ar (ar (ar h)))), ar (ar (ar (ar h)))⟩
end Mine
end
section
open PySem PySem.Calls PyProof.Rows PySem.W
namespace Mine
noncomputable def entsOf (K : Frag) (a : Addr) : Array DictEntry := match K.lookup a with
  | some o => match o.data with
    | .dict es _ => es
    | _ => #[]
  | none => #[]
noncomputable def glOk (K : Frag) : Bool := (List.range 19).all (fun f => fnNms.getD f "" == ("" : Str) || nsFind (entsOf K 3) (fnNms.getD f "") == some (.ref (faL.getD f 0))) &&
  (List.range 2).all (fun c => nsFind (entsOf K 3) (clsNms.getD c "") == some (.ref (caL.getD c 0))) && bltNms.all (fun q => nsFind (entsOf K 3) q.1 == none && bootBuiltins q.1 == some q.2 && !(q.1 == ("__name__" : Str)))
theorem glob_of {prog : Program} {w : World} {h₀ : Heap} {os₀ : OsState} {p : Params} {mg mb : Str → Option Value} (hK : (hpf p).In h₀) (gg : h₀.Ns mainGlobals mg) (gb : h₀.Ns builtinsNs mb) (hb : ∀ x : Str, x ≠ "__name__" → mb x = bootBuiltins x) (ok : glOk (hpf p) = true) : Glob (cxOf prog w h₀ os₀) mg mb := by
  have hmg : ∀ n, nsFind (entsOf (hpf p) 3) n = mg n := by
    obtain ⟨o, es, ep, ho, hdat, _, hf⟩ := gg
    intro n
    have e := hK 3 _ rfl
    have e' : h₀.get? 3 = some o := ho
    rw [e] at e'
    cases e'
    cases hdat
    exact hf n
  simp only [glOk, Bool.and_eq_true] at ok
  obtain ⟨⟨o1, o2⟩, o3⟩ := ok
  refine ⟨gg, gb, fun f n e hn => ?_, fun c n e => ?_, fun n v hm => ?_⟩
  · have hl : f < 19 := (List.getElem?_eq_some_iff.mp e).1
    have := List.all_eq_true.mp o1 f (List.mem_range.mpr hl)
    rw [List.getD_eq_getElem?_getD, e] at this
    simp only [Option.getD_some, Bool.or_eq_true, beq_iff_eq] at this
    rcases this with q | q
    · subst q; simp at hn
    · rw [← hmg]; exact q
  · have hl : c < 2 := (List.getElem?_eq_some_iff.mp e).1
    have := List.all_eq_true.mp o2 c (List.mem_range.mpr hl)
    rw [List.getD_eq_getElem?_getD, e] at this
    simp only [Option.getD_some, beq_iff_eq] at this
    rw [← hmg]; exact this
  · have := List.all_eq_true.mp o3 _ hm
    simp only [Bool.and_eq_true, beq_iff_eq, Bool.not_eq_true', beq_eq_false_iff_ne] at this
    exact ⟨by rw [← hmg]; exact this.1.1, by rw [hb _ this.2]; exact this.1.2⟩
theorem gl_ok (p : Params) : glOk (hpf p) = true := by kernel_rfl!
end Mine
end
section
open PySem PySem.W PyProof.Rows
set_option maxHeartbeats 8000000
namespace Mine
theorem leaves {C : Cx} (hm : ∃ o, C.h₀.get? sysModules = some o) : Leaves C where
  has := fun hx r hv _ => leaf_has hx r hv
  sortset := fun hl r hv hA => leaf_sortset hl r hv hA
  sortd := fun hσ hl _ r hv hA => leaf_sortd hm hσ hl r hv hA
theorem orcs_no {C : Cx} : OrcS C noOrc 0 := fun _ _ h => by cases h
theorem law_wp {prog : Program} {w : World} {s₁ : Shared} {a : Addr} {vals : List Value} {ns : List Int} {mg mb : Str → Option Value} {m : Nat} (KX : (hpf w.params).In s₁.heap) (gg : s₁.heap.Ns mainGlobals mg) (gb : s₁.heap.Ns builtinsNs mb) (hb : ∀ x : Str, x ≠ "__name__" → mb x = bootBuiltins x) (hnl : s₁.heap.NoLimit)
    (hm : ∃ o, s₁.heap.get? sysModules = some o) (hg : s₁.gens = #[]) (ho : s₁.heap.get? a = some (listOf vals.toArray m)) (hI : IntsAre vals ns) (hl : ns.length ≤ 63) (hbits : ∀ x ∈ ns, Builtin.Int.intBits x ≤ 1048576) {A : Around} (hA : ARoom A 82) :
    wpAny (model prog w) A (call (.ref 195) [.ref a]) (fun v s' => v = .bool true ∧ (∀ b o, s₁.heap.get? b = some o → s'.heap.get? b = some o) ∧ s'.os = s₁.os ∧ s'.gens = #[]) NoE s₁ := by
  let C : Cx := cxOf prog w s₁.heap s₁.os
  have G : Glob C mg mb := glob_of KX gg gb hb (gl_ok _)
  have Y : ClsFacts C (hpf w.params) := clsFacts KX (cls_ok _)
  have F : ∀ (fi : Nat) (F : FnD), prg.fns[fi]? = some F → FnOk C fi F := fun fi F h => by
    match fi, h with
    | 0, h => cases h; exact fn_0 KX rfl
    | 1, h => cases h; exact fn_1 KX rfl
    | 2, h => cases h; exact fn_2 KX rfl
    | 3, h => cases h; exact fn_3 KX rfl
    | 4, h => cases h; exact fn_4 KX rfl
    | 5, h => cases h; exact fn_5 KX rfl
    | 6, h => cases h; exact fn_6 KX rfl
    | 7, h => cases h; exact fn_7 KX rfl
    | 8, h => cases h; exact fn_8 KX rfl
    | 9, h => cases h; exact fn_9 KX rfl
    | 10, h => cases h; exact fn_10 KX rfl
    | 11, h => cases h; exact fn_11 KX rfl
    | 12, h => cases h; exact fn_12 KX rfl
    | 13, h => cases h; exact fn_13 KX rfl
    | 14, h => cases h; exact fn_14 KX rfl
    | 15, h => cases h; exact fn_15 KX rfl
    | 16, h => cases h; exact fn_16 KX rfl
    | 17, h => cases h; exact fn_17 KX rfl
    | 18, h => cases h; exact fn_18 KX rfl
    | n + 19, h => cases h
  obtain ⟨_, _, HC, _⟩ := run_is (C := C) G hm hnl Y F (leaves hm) orcs_no 82
  obtain ⟨ob, e, hob⟩ := law_true hl (Nat.le_refl _) hbits
  let P : PH := s₁.heap.get?
  have r : Rel C P (fun _ => none) [] [] s₁ :=
    { base := fun _ _ e => e, keep := fun _ _ e => e, zkeep := fun _ _ e => (by cases e), disj := fun _ => .inr rfl, len := rfl, nd := List.nodup_nil, own := fun i a nm x e _ => (by simp at e), gens := hg, os := rfl }
  obtain ⟨i1, i2⟩ := ints_data' (C := C) (P := P) hI
  have hv : VIs C P [] (.d (.list (ns.map .int))) (.ref a) := DIs.list (vs := vals) (n := m) ho (by rw [List.length_map]; exact i1) i2
  have h := HC r (All2.one hv) hA _ _ _ e hob
  refine wpAny_mono (wpAny_call h) (fun v s' hp => ?_) fun _ _ z => z
  obtain ⟨P', φ', p1, f1, r', k'⟩ := hp
  refine ⟨?_, fun b o e => r'.keep b o (p1 b o e), r'.os, r'.gens⟩
  have k' : DIs C P' (.bool true) v := k'
  cases k'
  rfl
theorem law_close {p : Program} {loose : List Str} {mean : ExcName → Option Value} {prog : Program} {w : World} {s₁ : Shared} {fa a : Addr} {vals : List Value} {ns : List Int} {mg mb : Str → Option Value} (T : Top p loose mean mg mb s₁.heap) (hi : importsNone p = true) (KX : (hpf w.params).In s₁.heap) (hmg : mg (Str.ofString "law") = some (.ref fa))
    (hg : s₁.gens = #[]) (w1 : Well w.params s₁.heap (.ref a) (ofPy (PyData.list (ns.map PyData.int)))) (hL : s₁.heap.IsList a vals.toArray) (hI : IntsAre vals ns) (hl : ¬ ((63 : Nat) : Int) < (ns.length : Int)) (hlay : (PyData.list (ns.map PyData.int)).layable0 = true) :
    wpAny (model prog w) callerA (call (.ref fa) [.ref a]) (fun v s' => v = .bool true ∧ (∀ b o, s₁.heap.get? b = some o → s'.heap.get? b = some o) ∧ s'.os = s₁.os ∧ s'.gens = #[]) NoE s₁ := by
  have G : Glob (cxOf prog w s₁.heap s₁.os) mg mb := glob_of KX T.g T.b T.builtins (gl_ok _)
  have hf := G.fns 18 (Str.ofString "law") rfl (by decide +kernel)
  rw [hmg] at hf
  obtain rfl : fa = 195 := Value.ref.inj (Option.some.inj hf)
  obtain ⟨mm, ⟨o, _, _, ho, _⟩, _⟩ := (T.seer hi).mods
  have w1' : Well w.params s₁.heap (.ref a) (.list (ofPys (ns.map PyData.int))) := w1
  have hobj : ∃ vs' : List Value, s₁.heap.get? a = some (listOf vs'.toArray 0) := by
    cases w1' with
    | list h1 h2 => exact ⟨_, h1⟩
  obtain ⟨vs', hobj⟩ := hobj
  have hve : vs' = vals := by
    obtain ⟨o', h1, _, n, h2⟩ := hL
    rw [hobj] at h1
    cases h1
    have : vs'.toArray = vals.toArray := by cases h2; rfl
    exact congrArg Array.toList this
  subst hve
  exact law_wp KX T.g T.b T.builtins T.nolimit ⟨o, ho⟩ hg hobj hI (by omega) (fun x hx => PyData.bits_item_of_ints hlay hx) ⟨by decide, by decide, rfl⟩
theorem imp_view : importsNone Mine.vw = true := by kernel_rfl!
end Mine
theorem PySem.Challenge.cw_jc0029_01_holds : PySem.Challenge.rw_jc0029_01.Holds := by
  refine Mine.hd ?_
  intro w s₀ s₁ mg mb G Y fa o pm cd doc dV kV ho hd hcd hD hmg hg args vals as hpre hlay hrd hwl hlo
  have KX := kIn_of Y
  clear hd ho hcd hD
  refine Ground.open G ?_
  intro T B D TE TW
  wrow_args hpre hlay hrd hwl hlo
  refine wpAny_mono (Mine.law_close T Mine.imp_view KX hmg hg (by assumption) (by assumption) (by assumption) (by assumption) (by assumption)) (fun v s' h => ?_) (fun e s' h => h.elim)
  obtain ⟨rfl, h1, h2, h3⟩ := h
  exact ⟨.inl ⟨.bool true, .bool true, [], rfl, fun _ => rfl, ReadsW.bool true, by wrow_post, fun _ => ⟨List.nodup_nil, fun _ hm => (nomatch hm)⟩⟩, .of_keep h1, h2, by rw [h3]; exact AllBare.empty⟩
end
